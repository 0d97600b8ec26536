import PyProof.Rows.All
import Wide.All
import OpenK.AllK
import Wide.FinOn
import Lean
import PySem.Challenge.RW_re0100_02
set_option maxRecDepth 100000
set_option linter.unusedVariables false
set_option Elab.async false
section
set_option maxRecDepth 100000
namespace Mine
open PySem PySem.W

/-- the tree x, begun in s, gives a in s' within B steps, whatever stands around it -/
def Ex (p : Program) (w : World) (n₀ : Nat) (ann : Option Value) {α : Type} (x : Sem α) (s : Shared) (B : Nat) (a : α) (s' : Shared) : Prop :=
  ∀ (K : α → Sem Fin) (H : Value → Sem Fin) (gd : Bool → Bool) (lv : List Value → List Value) (c : Code) (pos : Pos) (f : Frame) (st : List Frame) (N : Nat) (r : Flow × Shared × Code × Pos),
    (∀ pos', segRun treeTable p w n₀ ann 1 N s' ⟨K a, c, pos', f :: st⟩ = some r) →
    segRun treeTable p w n₀ ann 1 (N + B) s ⟨x.wrap K H gd lv, c, pos, f :: st⟩ = some r

section
variable {p : Program} {w : World} {n₀ : Nat} {ann : Option Value} {α β : Type} {s s' s₁ : Shared}

theorem segRun_mono (k : Nat) : ∀ (n : Nat) (s : Shared) (t : Thread) (r : Flow × Shared × Code × Pos), segRun treeTable p w n₀ ann 1 n s t = some r → segRun treeTable p w n₀ ann 1 (n + k) s t = some r
  | 0, _, _, _, h => by simp [segRun] at h
  | n + 1, s, t, r, h => by
    rw [show n + 1 + k = n + k + 1 by omega]
    unfold segRun at h ⊢
    cases he : endAt 1 t with
    | some f => rw [he] at h; exact h
    | none =>
      rw [he] at h
      cases hk : stepOk n₀ ann t with
      | false => rw [hk] at h; cases h
      | true =>
        rw [hk] at h
        cases hs : step (denote treeTable) p w s t with
        | halt o s' => rw [hs] at h; cases h
        | go s' t' => rw [hs] at h; exact segRun_mono k n s' t' r h

theorem segRun_step {n : Nat} {s s' : Shared} {t t' : Thread} {r} (he : endAt 1 t = none) (hk : stepOk n₀ ann t = true) (hs : step (denote treeTable) p w s t = .go s' t')
    (h : segRun treeTable p w n₀ ann 1 n s' t' = some r) : segRun treeTable p w n₀ ann 1 (n + 1) s t = some r := by
  unfold segRun
  rw [he, hk, hs]
  exact h

theorem Ex.more {x : Sem α} {a : α} {B B' : Nat} (h : Ex p w n₀ ann x s B a s') (hb : B ≤ B') : Ex p w n₀ ann x s B' a s' := by
  intro K H gd lv c pos f st N r hr
  have := segRun_mono (B' - B) _ _ _ _ (h K H gd lv c pos f st N r hr)
  rwa [show N + B + (B' - B) = N + B' by omega] at this

theorem Ex.pure (a : α) : Ex p w n₀ ann (Pure.pure a : Sem α) s 0 a s := fun K H gd lv c pos f st N r hr => hr pos

theorem Ex.bind {x : Sem α} {g : α → Sem β} {a : α} {b : β} {B B' : Nat} (h : Ex p w n₀ ann x s B a s₁) (h' : Ex p w n₀ ann (g a) s₁ B' b s') : Ex p w n₀ ann (x >>= g) s (B + B') b s' := by
  intro K H gd lv c pos f st N r hr
  rw [Sem.bind_eq_wrap', Sem.wrap_wrap]
  rw [show N + (B + B') = N + B' + B by omega]
  exact h _ _ _ _ c pos f st _ r fun pos' => h' K H gd lv c pos' f st N r hr

theorem Ex.keep {x : Sem α} {a : α} {B : Nat} {vs : List Value} (h : Ex p w n₀ ann x s B a s') : Ex p w n₀ ann (x.keep vs) s B a s' := by
  intro K H gd lv c pos f st N r hr
  rw [Sem.keep_eq_wrap, Sem.wrap_wrap]
  exact h _ _ _ _ c pos f st N r hr

theorem Ex.holding {x : Sem α} {a : α} {B : Nat} {vs : List Value} (h : Ex p w n₀ ann x s B a s') : Ex p w n₀ ann (holding vs x) s B a s' := by
  unfold PySem.holding
  split
  · exact h
  · exact h.keep

theorem Ex.onRaise {x : Sem α} {a : α} {B : Nat} {k : Value → Sem Unit} (h : Ex p w n₀ ann x s B a s') : Ex p w n₀ ann (x.onRaise k) s B a s' := by
  intro K H gd lv c pos f st N r hr
  rw [Sem.onRaise_eq_wrap, Sem.wrap_wrap]
  exact h _ _ _ _ c pos f st N r hr

theorem Ex.rule {tag : String} : Ex p w n₀ ann (PySem.rule tag) s 1 () s := fun K H gd lv c pos f st N r hr =>
  segRun_step (by cases st <;> rfl) rfl rfl (hr pos)
theorem Ex.standAt {q : Pos} : Ex p w n₀ ann (PySem.standAt q) s 1 () s := fun K H gd lv c pos f st N r hr =>
  segRun_step (by cases st <;> rfl) rfl rfl (hr q)
theorem Ex.point : Ex p w n₀ ann PySem.point s 1 () s := fun K H gd lv c pos f st N r hr =>
  segRun_step (by cases st <;> rfl) rfl rfl (hr pos)
theorem Ex.fresh : Ex p w n₀ ann PySem.fresh s 1 s.toks { s with toks := s.toks + 1 } := fun K H gd lv c pos f st N r hr =>
  segRun_step (by cases st <;> rfl) rfl rfl (hr pos)
theorem Ex.alloc {o : Obj} : Ex p w n₀ ann (PySem.alloc o) s 1 s.heap.objs.size { s with heap := s.heap.push o } := fun K H gd lv c pos f st N r hr =>
  segRun_step (by cases st <;> rfl) rfl rfl (hr pos)
theorem Ex.loadPart {a : Addr} {part : Option Value} {o : Obj} (ho : s.heap.get? a = some o) : Ex p w n₀ ann (PySem.loadPart a part) s 1 o s := fun K H gd lv c pos f st N r hr =>
  segRun_step (s' := s) (t' := ⟨K o, c, pos, f :: st⟩) (by cases st <;> rfl) rfl (by obtain ⟨heap, gens, drawn, toks, os⟩ := s; dsimp only at ho; simp only [PySem.loadPart, Sem.wrap, step, ho]) (hr pos)
theorem Ex.load {a : Addr} {o : Obj} (ho : s.heap.get? a = some o) : Ex p w n₀ ann (PySem.load a) s 1 o s := Ex.loadPart (part := none) ho
theorem Ex.updatePart {a : Addr} {part : Option Value} {g : Obj → Obj} {o : Obj} (ho : s.heap.get? a = some o) (ha : n₀ ≤ a) :
    Ex p w n₀ ann (PySem.updatePart a part g) s 1 () { s with heap := s.heap.update a g } := fun K H gd lv c pos f st N r hr =>
  segRun_step (s' := { s with heap := s.heap.update a g }) (t' := ⟨K (), c, pos, f :: st⟩) (by cases st <;> rfl)
    (by show (true && (Nat.ble n₀ a || _ || _ || _)) = true; rw [Nat.ble_eq_true_of_le ha]; rfl)
    (by obtain ⟨heap, gens, drawn, toks, os⟩ := s; dsimp only at ho; simp only [PySem.updatePart, Sem.wrap, step, ho, Option.isSome_some, if_true]) (hr pos)
end
end Mine
end
section
set_option maxRecDepth 100000
set_option linter.unusedVariables false
namespace Mine
open PySem PySem.W
section
theorem hash_runA (p : Program) (n₀ : Nat) (ann : Option Value) : ∀ w : World,
    (fun (s : Shared) (k : Int) (t : Tok) (K : Int → Sem Fin) (H : Value → Sem Fin) (gd : Bool → Bool) (lv : List Value → List Value) (c : Code) (pos : Pos) (f : Frame) (N : Nat) =>
      segRun treeTable p w n₀ ann 1 (N + 5) s ⟨(pyHash (.int k t)).wrap K H gd lv, c, pos, [f]⟩) =
    (fun (s : Shared) (k : Int) (t : Tok) (K : Int → Sem Fin) (H : Value → Sem Fin) (gd : Bool → Bool) (lv : List Value → List Value) (c : Code) (pos : Pos) (f : Frame) (N : Nat) =>
      segRun treeTable p w n₀ ann 1 N { s with toks := s.toks + 1 } ⟨(pyHashByItsType.reduced (rawHash k)).wrap K H gd lv, c, pos, [f]⟩) := by
  refine byRow2 "special-get-raises" (fun w => ?_) (fun w => ?_)
  · rw [PySem.W.Fast.te14374325043358763698, PySem.W.Fast.te14364793385576792824]
    kernel_rfl
  · rw [PySem.W.Fast.te14374325043358763698, PySem.W.Fast.te14364793385576792824]
    kernel_rfl
theorem hash_runB (p : Program) (n₀ : Nat) (ann : Option Value) : ∀ w : World,
    (fun (s : Shared) (k : Int) (t : Tok) (K : Int → Sem Fin) (H : Value → Sem Fin) (gd : Bool → Bool) (lv : List Value → List Value) (c : Code) (pos : Pos) (f g : Frame) (st : List Frame) (N : Nat) =>
      segRun treeTable p w n₀ ann 1 (N + 5) s ⟨(pyHash (.int k t)).wrap K H gd lv, c, pos, f :: g :: st⟩) =
    (fun (s : Shared) (k : Int) (t : Tok) (K : Int → Sem Fin) (H : Value → Sem Fin) (gd : Bool → Bool) (lv : List Value → List Value) (c : Code) (pos : Pos) (f g : Frame) (st : List Frame) (N : Nat) =>
      segRun treeTable p w n₀ ann 1 N { s with toks := s.toks + 1 } ⟨(pyHashByItsType.reduced (rawHash k)).wrap K H gd lv, c, pos, f :: g :: st⟩) := by
  refine byRow2 "special-get-raises" (fun w => ?_) (fun w => ?_)
  · rw [PySem.W.Fast.te14374325043358763698, PySem.W.Fast.te14364793385576792824]
    kernel_rfl
  · rw [PySem.W.Fast.te14374325043358763698, PySem.W.Fast.te14364793385576792824]
    kernel_rfl
theorem reduced_eq (k : Int) : pyHashByItsType.reduced (rawHash k) = pure (hashInt k) := by
  have hr := rawHash_range k
  show (if (decide (-(2 : Int) ^ 63 ≤ rawHash k) && decide (rawHash k < 2 ^ 63)) = true then _ else _) = _
  rw [if_pos (by rw [decide_eq_true hr.1, decide_eq_true hr.2]; rfl)]
  rfl
theorem Ex.hash {p : Program} {w : World} {n₀ : Nat} {ann : Option Value} {s : Shared} {k : Int} {t : Tok} : Ex p w n₀ ann (pyHash (.int k t)) s 5 (hashInt k) { s with toks := s.toks + 1 } := by
  intro K H gd lv c pos f st N r hr
  cases st with
  | nil =>
    have e := congrFun (congrFun (congrFun (congrFun (congrFun (congrFun (congrFun (congrFun (congrFun (congrFun (congrFun (hash_runA p n₀ ann w) s) k) t) K) H) gd) lv) c) pos) f) N
    refine Eq.trans e ?_
    rw [reduced_eq]; exact hr pos
  | cons g st =>
    have e := congrFun (congrFun (congrFun (congrFun (congrFun (congrFun (congrFun (congrFun (congrFun (congrFun (congrFun (congrFun (congrFun (hash_runB p n₀ ann w) s) k) t) K) H) gd) lv) c) pos) f) g) st) N
    refine Eq.trans e ?_
    rw [reduced_eq]; exact hr pos
end
end Mine
end
section
set_option maxRecDepth 100000
set_option linter.unusedVariables false
namespace Mine
open PySem PySem.W

def hp (l : List Obj) (life : Life) : Heap := ⟨l.toArray, life⟩
def dObj (es : List DictEntry) (n : Nat) : Obj := { cls := .type "dict", data := .dict es.toArray n }

theorem hp_size (l : List Obj) (life : Life) : (hp l life).objs.size = l.length := by simp [hp]
theorem hp_push (l : List Obj) (life : Life) (o : Obj) : (hp l life).push o = hp (l ++ [o]) life := by simp [hp, Heap.push]
theorem hp_get (l₁ : List Obj) (es : List DictEntry) (n : Nat) (l₂ : List Obj) (life : Life) : (hp (l₁ ++ dObj es n :: l₂) life).get? l₁.length = some (dObj es n) := by
  have e : (hp (l₁ ++ dObj es n :: l₂) life).objs[l₁.length]? = some (dObj es n) := by
    show (l₁ ++ dObj es n :: l₂).toArray[l₁.length]? = _
    rw [List.getElem?_toArray, List.getElem?_append_right (Nat.le_refl _), Nat.sub_self]; rfl
  unfold Heap.get?
  rw [e]
  rfl
theorem hp_update (l₁ : List Obj) (o : Obj) (l₂ : List Obj) (life : Life) (g : Obj → Obj) : (hp (l₁ ++ o :: l₂) life).update l₁.length g = hp (l₁ ++ g o :: l₂) life := by
  show Heap.mk ((l₁ ++ o :: l₂).toArray.modify l₁.length g) life = _
  have : (l₁ ++ o :: l₂).toArray.modify l₁.length g = (l₁ ++ g o :: l₂).toArray := by
    apply Array.ext'
    simp only [Array.toList_modify]
    induction l₁ with
    | nil => rfl
    | cons x l ih => simpa [List.modify_succ_cons] using ih
  rw [this]; rfl

section
variable {p : Program} {w : World} {n₀ : Nat} {ann : Option Value} {s : Shared}

theorem Ex.dictEntries {a : Addr} {part : Option Value} {es : List DictEntry} {n : Nat} (ho : s.heap.get? a = some (dObj es n)) : Ex p w n₀ ann (PySem.dictEntries a part) s 1 es.toArray s := by
  unfold PySem.dictEntries
  refine Ex.bind (B := 1) (B' := 0) (Ex.loadPart ho) ?_
  exact Ex.pure _
theorem Ex.dictEpoch {a : Addr} {part : Option Value} {es : List DictEntry} {n : Nat} (ho : s.heap.get? a = some (dObj es n)) : Ex p w n₀ ann (PySem.dictEpoch a part) s 1 n s := by
  unfold PySem.dictEpoch
  refine Ex.bind (B := 1) (B' := 0) (Ex.loadPart ho) ?_
  exact Ex.pure _

theorem no_places {es : List DictEntry} {h : Int} (hn : ∀ e ∈ es, e.hash ≠ h) : placesWithHash es.toArray.size (fun i => es.toArray[i]?.map (·.hash)) h = [] := by
  unfold placesWithHash
  rw [List.filter_eq_nil_iff]
  intro i hi
  simp only [List.getElem?_toArray, beq_iff_eq]
  intro q
  cases he : es[i]? with
  | none => rw [he] at q; cases q
  | some e =>
    rw [he] at q
    exact hn e (List.mem_of_getElem? he) (Option.some.inj q)

theorem Ex.dictFind {a : Addr} {es : List DictEntry} {n : Nat} {k : Int} {t : Tok} {h : Int} (ho : s.heap.get? a = some (dObj es n)) (hn : ∀ e ∈ es, e.hash ≠ h) :
    Ex p w n₀ ann (PySem.dictFind a (.int k t) h) s 1 none s := by
  unfold PySem.dictFind
  refine Ex.holding ?_
  refine Ex.bind (B' := 0) (Ex.dictEntries ho) ?_
  show Ex p w n₀ ann (if ((Value.int k t) :: (placesWithHash es.toArray.size (fun i => es.toArray[i]?.map (·.hash)) h).filterMap fun i => es.toArray[i]?.map (·.key)).all carriedByValue = true then _ else _) s 0 none s
  rw [no_places hn]
  exact Ex.pure _

theorem Ex.updKeys {l₁ l₂ : List Obj} {life : Life} {es es' : List DictEntry} {n : Nat} {part : Option Value} {g : Array DictEntry → Array DictEntry} (hh : s.heap = hp (l₁ ++ dObj es n :: l₂) life)
    (hg : g es.toArray = es'.toArray) (hz : es'.length ≤ 1000) (ha : n₀ ≤ l₁.length) : Ex p w n₀ ann (updateDictKeys l₁.length g part) s 3 () { s with heap := hp (l₁ ++ dObj es' (n + 1) :: l₂) life } := by
  unfold updateDictKeys
  have ho : s.heap.get? l₁.length = some (dObj es n) := by rw [hh]; exact hp_get ..
  refine Ex.bind (B := 1) (B' := 2) (Ex.loadPart ho) ?_
  show Ex p w n₀ ann (do PySem.updatePart l₁.length part (Obj.mapDictKeys g); PySem.lookBehind l₁.length part) s 2 () _
  have hu : s.heap.update l₁.length (Obj.mapDictKeys g) = hp (l₁ ++ dObj es' (n + 1) :: l₂) life := by
    rw [hh, hp_update]
    show hp (l₁ ++ ⟨_, _, .dict (g es.toArray) (n + 1), _⟩ :: l₂) life = _
    rw [hg]; rfl
  refine Ex.bind (B := 1) (B' := 1) (Ex.updatePart ho ha) ?_
  rw [hu]
  unfold lookBehind
  refine Ex.bind (B := 1) (B' := 0) (Ex.loadPart (hp_get ..)) ?_
  have : (dObj es' (n + 1)).data.pastItsLine = none := pastItsLine_dict (by rw [List.size_toArray]; have : sizeLine = 16777216 := by decide +kernel
                                                                            omega)
  rw [this]
  exact Ex.pure _

theorem Ex.dictSet {l₁ l₂ : List Obj} {life : Life} {es : List DictEntry} {n : Nat} {k : Int} {t : Tok} {v : Value} (hh : s.heap = hp (l₁ ++ dObj es n :: l₂) life)
    (hn : ∀ e ∈ es, e.hash ≠ hashInt k) (hz : es.length < 1000) (ha : n₀ ≤ l₁.length) :
    Ex p w n₀ ann (PySem.dictSet l₁.length (.int k t) v) s 10 () { s with heap := hp (l₁ ++ dObj (es ++ [⟨hashInt k, .int k t, v⟩]) (n + 1) :: l₂) life, toks := s.toks + 1 } := by
  unfold PySem.dictSet
  refine Ex.holding (Ex.bind (B := 5) (B' := 5) Ex.hash ?_)
  unfold dictSetHashed
  refine Ex.holding (Ex.bind (B := 1) (B' := 4) (Ex.dictFind (es := es) (n := n) (by show s.heap.get? _ = _; rw [hh]; exact hp_get ..) hn) ?_)
  refine Ex.bind (B := 1) (B' := 3) Ex.rule ?_
  exact Ex.updKeys (s := { s with toks := s.toks + 1 }) hh (by simp) (by simp; omega) ha

theorem Ex.dictPut {l₁ l₂ : List Obj} {life : Life} {es : List DictEntry} {n : Nat} {h : Int} {k : Int} {t : Tok} {v : Value} (hh : s.heap = hp (l₁ ++ dObj es n :: l₂) life)
    (hn : ∀ e ∈ es, e.hash ≠ h) (hz : es.length < 1000) (ha : n₀ ≤ l₁.length) :
    Ex p w n₀ ann (PySem.dictPut l₁.length h (.int k t) v) s 4 () { s with heap := hp (l₁ ++ dObj (es ++ [⟨h, .int k t, v⟩]) (n + 1) :: l₂) life } := by
  unfold PySem.dictPut
  refine Ex.bind (B := 1) (B' := 3) (Ex.dictFind (es := es) (n := n) (by rw [hh]; exact hp_get ..) hn) ?_
  exact Ex.updKeys hh (by simp) (by simp; omega) ha
end
end Mine
end
section
set_option maxRecDepth 100000
set_option linter.unusedVariables false
namespace Mine
open PySem PySem.W

def pr (pos : Pos) (kv : Int × Str) : Sem Value × Sem Value := (mkInt kv.1, do let x ← mkText kv.2; standAt pos; pure x)
def entL : Nat → List (Int × Str) → List DictEntry
  | _, [] => []
  | T, kv :: r => ⟨hashInt kv.1, .int kv.1 T, .str kv.2 (T + 1)⟩ :: entL (T + 3) r
def entS : Nat → List (Int × Str) → List DictEntry
  | _, [] => []
  | T, kv :: r => ⟨hashInt kv.1, .int kv.1 T, .str kv.2 (T + 1)⟩ :: entS (T + 2) r
/-- every hash of es lies below b -/
def Under (es : List DictEntry) (b : Int) : Prop := ∀ e ∈ es, e.hash < b
/-- the keys rise, the first at least b -/
def Rise : Int → List (Int × Str) → Prop
  | _, [] => True
  | b, kv :: r => b ≤ hashInt kv.1 ∧ Rise (hashInt kv.1 + 1) r

section
variable {p : Program} {w : World} {n₀ : Nat} {ann : Option Value}

theorem Ex.mkInt {s : Shared} {k : Int} : Ex p w n₀ ann (PySem.mkInt k) s 1 (.int k s.toks) { s with toks := s.toks + 1 } := by
  unfold PySem.mkInt
  exact Ex.bind (B := 1) (B' := 0) Ex.fresh (Ex.pure _)
theorem Ex.mkText {s : Shared} {v : Str} : Ex p w n₀ ann (PySem.mkText v) s 1 (.str v s.toks) { s with toks := s.toks + 1 } := by
  unfold PySem.mkText
  exact Ex.bind (B := 1) (B' := 0) Ex.fresh (Ex.pure _)
theorem Ex.prSnd {s : Shared} {kv : Int × Str} {pos : Pos} : Ex p w n₀ ann (pr pos kv).2 s 2 (.str kv.2 s.toks) { s with toks := s.toks + 1 } :=
  Ex.bind (B := 1) (B' := 1) Ex.mkText (Ex.bind (B := 1) (B' := 0) Ex.standAt (Ex.pure _))

theorem loopL (l : List Obj) (life : Life) (pos : Pos) (ha : n₀ ≤ l.length) : ∀ (kvs : List (Int × Str)) (es : List DictEntry) (n : Nat) (b : Int) (s : Shared), s.heap = hp (l ++ [dObj es n]) life → Under es b → Rise b kvs → es.length + kvs.length < 1000 →
    Ex p w n₀ ann (forIn (kvs.map (pr pos)) PUnit.unit fun (x : Sem Value × Sem Value) (_ : PUnit) => (do let kv ← x.1; let vv ← holding [kv] x.2; holding [kv, vv] (PySem.dictSet l.length kv vv); pure (ForInStep.yield PUnit.unit) : Sem (ForInStep PUnit)))
      s (13 * kvs.length) PUnit.unit { s with heap := hp (l ++ [dObj (es ++ entL s.toks kvs) (n + kvs.length)]) life, toks := s.toks + 3 * kvs.length }
  | [], es, n, b, s, hh, _, _, _ => by
    have : ({ s with heap := hp (l ++ [dObj (es ++ entL s.toks []) (n + 0)]) life, toks := s.toks + 3 * 0 } : Shared) = s := by
      obtain ⟨h, g, d, t, o⟩ := s
      simp only [entL, List.append_nil, Nat.add_zero, Nat.mul_zero] at hh ⊢
      rw [hh]
    rw [List.map_nil, List.forIn_nil]
    show Ex p w n₀ ann _ s 0 _ _
    rw [List.length_nil, this]
    exact Ex.pure _
  | kv :: r, es, n, b, s, hh, hu, hr, hz => by
    rw [List.map_cons, List.forIn_cons, List.length_cons] at *
    obtain ⟨h1, h2⟩ := hr
    refine Ex.more (B := 13 + 13 * r.length) ?_ (by omega)
    refine Ex.bind (a := ForInStep.yield PUnit.unit) (s₁ := { s with heap := hp (l ++ [dObj (es ++ [⟨hashInt kv.1, .int kv.1 s.toks, .str kv.2 (s.toks + 1)⟩]) (n + 1)]) life, toks := s.toks + 3 }) ?_ ?_
    · refine Ex.bind (B := 1) (B' := 12) Ex.mkInt ?_
      refine Ex.bind (B := 2) (B' := 10) (Ex.holding Ex.prSnd) ?_
      refine Ex.bind (B := 10) (B' := 0) (Ex.holding (Ex.dictSet (s := { s with toks := s.toks + 1 + 1 }) hh (fun e he => ?_) (by omega) ha)) (Ex.pure _)
      have := hu e he
      omega
    · have ih := loopL l life pos ha r (es ++ [⟨hashInt kv.1, .int kv.1 s.toks, .str kv.2 (s.toks + 1)⟩]) (n + 1) (hashInt kv.1 + 1)
        { s with heap := hp (l ++ [dObj (es ++ [⟨hashInt kv.1, .int kv.1 s.toks, .str kv.2 (s.toks + 1)⟩]) (n + 1)]) life, toks := s.toks + 3 } rfl
        (fun e he => by
          rcases List.mem_append.mp he with h | h
          · have := hu e h; omega
          · rw [List.mem_singleton] at h; subst h; show hashInt kv.1 < _; omega) h2 (by simp; omega)
      have e1 : es ++ entL s.toks (kv :: r) = es ++ [⟨hashInt kv.1, .int kv.1 s.toks, .str kv.2 (s.toks + 1)⟩] ++ entL (s.toks + 3) r := by simp [entL]
      have e2 : n + (r.length + 1) = n + 1 + r.length := by omega
      have e3 : s.toks + 3 * (r.length + 1) = s.toks + 3 + 3 * r.length := by omega
      rw [e1, e2, e3]
      exact ih

theorem Ex.subLong {l : List Obj} {life : Life} {pos : Pos} {kvs : List (Int × Str)} {b : Int} {s : Shared} (ha : n₀ ≤ l.length) (hh : s.heap = hp l life) (hr : Rise b kvs) (hz : kvs.length < 1000) (hl : 15 < kvs.length) :
    Ex p w n₀ ann (subDict (kvs.map (pr pos))) s (2 + 13 * kvs.length) l.length { s with heap := hp (l ++ [dObj (entL s.toks kvs) kvs.length]) life, toks := s.toks + 3 * kvs.length } := by
  unfold subDict
  have e0 : s.heap.objs.size = l.length := by rw [hh, hp_size]
  refine Ex.more (B := 1 + (1 + 13 * kvs.length + 0)) ?_ (by omega)
  refine Ex.bind Ex.alloc ?_
  rw [e0]
  refine Ex.bind (a := ()) (Ex.holding ?_) (Ex.pure _)
  rw [if_neg (by rw [List.length_map]; omega)]
  refine Ex.bind Ex.rule ?_
  refine Ex.bind (a := PUnit.unit) (B' := 0) ?_ (Ex.pure _)
  have := loopL (p := p) (w := w) (ann := ann) l life pos ha kvs [] 0 b { s with heap := s.heap.push { cls := .type "dict", data := .dict #[] } } (by show s.heap.push _ = _; rw [hh, hp_push]; rfl) (fun e he => by cases he) hr (by simpa using hz)
  rw [Nat.zero_add, List.nil_append] at this
  exact this

theorem loopE (pos : Pos) : ∀ (kvs : List (Int × Str)) (s : Shared),
    Ex p w n₀ ann (evalPairs (kvs.map (pr pos))) s (3 * kvs.length) ((entS s.toks kvs).map fun e => (e.key, e.val)) { s with toks := s.toks + 2 * kvs.length }
  | [], s => Ex.pure _
  | kv :: r, s => by
    rw [List.map_cons, evalPairs, List.length_cons]
    refine Ex.more (B := 1 + (2 + (3 * r.length + 0))) ?_ (by omega)
    refine Ex.bind Ex.mkInt (Ex.bind (Ex.holding Ex.prSnd) (Ex.bind (Ex.holding (loopE pos r _)) ?_))
    have e3 : s.toks + 2 * (r.length + 1) = s.toks + 1 + 1 + 2 * r.length := by omega
    rw [e3]
    exact Ex.pure _

theorem loopS (l : List Obj) (life : Life) (ha : n₀ ≤ l.length) : ∀ (kvs : List (Int × Str)) (T : Nat) (es : List DictEntry) (n : Nat) (b : Int) (s : Shared), s.heap = hp (l ++ [dObj es n]) life → Under es b → Rise b kvs → es.length + kvs.length < 1000 →
    Ex p w n₀ ann (forIn ((entS T kvs).map fun e => (e.key, e.val)) PUnit.unit fun (x : Value × Value) (_ : PUnit) => (do PySem.dictSet l.length x.1 x.2; pure (ForInStep.yield PUnit.unit) : Sem (ForInStep PUnit)))
      s (10 * kvs.length) PUnit.unit { s with heap := hp (l ++ [dObj (es ++ entS T kvs) (n + kvs.length)]) life, toks := s.toks + kvs.length }
  | [], T, es, n, b, s, hh, _, _, _ => by
    have : ({ s with heap := hp (l ++ [dObj (es ++ entS T []) (n + 0)]) life, toks := s.toks + 0 } : Shared) = s := by
      obtain ⟨h, g, d, t, o⟩ := s
      simp only [entS, List.append_nil, Nat.add_zero] at hh ⊢
      rw [hh]
    show Ex p w n₀ ann (forIn [] PUnit.unit _) s 0 _ _
    rw [List.forIn_nil, List.length_nil, this]
    exact Ex.pure _
  | kv :: r, T, es, n, b, s, hh, hu, hr, hz => by
    rw [entS, List.map_cons, List.forIn_cons, List.length_cons] at *
    obtain ⟨h1, h2⟩ := hr
    refine Ex.more (B := 10 + 10 * r.length) ?_ (by omega)
    refine Ex.bind (a := ForInStep.yield PUnit.unit) (s₁ := { s with heap := hp (l ++ [dObj (es ++ [⟨hashInt kv.1, .int kv.1 T, .str kv.2 (T + 1)⟩]) (n + 1)]) life, toks := s.toks + 1 }) ?_ ?_
    · refine Ex.bind (B := 10) (B' := 0) (Ex.dictSet hh (fun e he => ?_) (by omega) ha) (Ex.pure _)
      have := hu e he
      omega
    · have ih := loopS l life ha r (T + 2) (es ++ [⟨hashInt kv.1, .int kv.1 T, .str kv.2 (T + 1)⟩]) (n + 1) (hashInt kv.1 + 1)
        { s with heap := hp (l ++ [dObj (es ++ [⟨hashInt kv.1, .int kv.1 T, .str kv.2 (T + 1)⟩]) (n + 1)]) life, toks := s.toks + 1 } rfl
        (fun e he => by
          rcases List.mem_append.mp he with h | h
          · have := hu e h; omega
          · rw [List.mem_singleton] at h; subst h; show hashInt kv.1 < _; omega) h2 (by simp; omega)
      have e2 : n + (r.length + 1) = n + 1 + r.length := by omega
      have e3 : s.toks + (r.length + 1) = s.toks + 1 + r.length := by omega
      have e1 : es ++ (⟨hashInt kv.1, .int kv.1 T, .str kv.2 (T + 1)⟩ : DictEntry) :: entS (T + 2) r = es ++ [⟨hashInt kv.1, .int kv.1 T, .str kv.2 (T + 1)⟩] ++ entS (T + 2) r := by simp
      rw [e1, e2, e3]
      exact ih

theorem Ex.subShort {l : List Obj} {life : Life} {pos : Pos} {kvs : List (Int × Str)} {b : Int} {s : Shared} (ha : n₀ ≤ l.length) (hh : s.heap = hp l life) (hr : Rise b kvs) (hl : kvs.length ≤ 15) :
    Ex p w n₀ ann (subDict (kvs.map (pr pos))) s (2 + 13 * kvs.length) l.length { s with heap := hp (l ++ [dObj (entS s.toks kvs) kvs.length]) life, toks := s.toks + 3 * kvs.length } := by
  unfold subDict
  have e0 : s.heap.objs.size = l.length := by rw [hh, hp_size]
  refine Ex.more (B := 1 + (3 * kvs.length + (10 * kvs.length + 0) + 0)) ?_ (by omega)
  refine Ex.bind Ex.alloc ?_
  rw [e0]
  refine Ex.bind (a := ()) (Ex.holding ?_) (Ex.pure _)
  rw [if_pos (by rw [List.length_map]; omega)]
  refine Ex.bind (loopE pos kvs _) ?_
  refine Ex.holding (Ex.bind (a := PUnit.unit) (B' := 0) ?_ (Ex.pure _))
  have := loopS (p := p) (w := w) (ann := ann) l life ha kvs s.toks [] 0 b { s with heap := s.heap.push { cls := .type "dict", data := .dict #[] }, toks := s.toks + 2 * kvs.length } (by show s.heap.push _ = _; rw [hh, hp_push]; rfl) (fun e he => by cases he) hr (by simp; omega)
  rw [Nat.zero_add, List.nil_append] at this
  have e3 : s.toks + 3 * kvs.length = s.toks + 2 * kvs.length + kvs.length := by omega
  rw [e3]
  exact this
end
end Mine
end
section
set_option maxRecDepth 100000
set_option linter.unusedVariables false
namespace Mine
open PySem PySem.W
section
variable {p : Program} {w : World} {n₀ : Nat} {ann : Option Value}

theorem sub_dict : isSubtype (.type "dict") (.type "dict") = pure true := by rw [isSubtype_type]; kernel_rfl
theorem iter_dict : typeLookup (.type "dict") "__iter__" = pure (some (.builtin "dict.__iter__")) := by rw [typeLookup_type, builtinLookup_eq_fast]; kernel_rfl

theorem Ex.isDict {s : Shared} {a : Addr} {es : List DictEntry} {n : Nat} (ho : s.heap.get? a = some (dObj es n)) : Ex p w n₀ ann (PySem.isInstance (.ref a) (.type "dict")) s 1 true s := by
  unfold PySem.isInstance PySem.typeOf
  refine Ex.bind (B := 1) (B' := 0) (Ex.bind (B := 1) (B' := 0) (Ex.loadPart ho) (Ex.pure _)) ?_
  show Ex p w n₀ ann (isSubtype (.type "dict") (.type "dict")) s 0 true s
  rw [sub_dict]; exact Ex.pure _
theorem Ex.iterOf {s : Shared} {a : Addr} {es : List DictEntry} {n : Nat} (ho : s.heap.get? a = some (dObj es n)) : Ex p w n₀ ann (PySem.specialOf (.ref a) "__iter__") s 1 (some (.builtin "dict.__iter__")) s := by
  unfold PySem.specialOf PySem.typeOf
  refine Ex.bind (B := 1) (B' := 0) (Ex.bind (B := 1) (B' := 0) (Ex.loadPart ho) (Ex.pure _)) ?_
  show Ex p w n₀ ann (typeLookup (.type "dict") "__iter__") s 0 _ s
  rw [iter_dict]; exact Ex.pure _

theorem loopM {l₁ mid : List Obj} {life : Life} {es es2 : List DictEntry} {n m : Nat} (ha : n₀ ≤ l₁.length) (hz : es.length + es2.length < 1000)
    (hk : ∀ i e, es2[i]? = some e → (∃ k t, e.key = .int k t) ∧ ∀ e' ∈ es ++ es2.take i, e'.hash ≠ e.hash)
    (g2 : ∀ (x : List DictEntry) (y : Nat), (hp (l₁ ++ dObj x y :: (mid ++ [dObj es2 m])) life).get? (l₁.length + 1 + mid.length) = some (dObj es2 m)) :
    ∀ (k i : Nat) (s : Shared), i + k = es2.length → s.heap = hp (l₁ ++ dObj (es ++ es2.take i) (n + i) :: (mid ++ [dObj es2 m])) life →
    Ex p w n₀ ann (forIn (List.range' i k) PUnit.unit fun (i : Nat) (_ : PUnit) => (do
                    let __do_lift ← PySem.dictEntries (l₁.length + 1 + mid.length)
                    match __do_lift[i]? with
                      | some e => do
                        PySem.holding [e.key, e.val]
                            (if false = true then do
                              let __do_lift ← PySem.dictFind l₁.length e.key e.hash
                              if __do_lift.isSome = true then do
                                  PySem.rule "dict.merge.duplicate-key"
                                  let __do_lift ← newExc (Value.type "KeyError") [e.key]
                                  raiseNew __do_lift
                                  PySem.dictPut l₁.length e.hash e.key e.val
                                else PySem.dictPut l₁.length e.hash e.key e.val
                            else PySem.dictPut l₁.length e.hash e.key e.val)
                        let __do_lift ← PySem.dictEpoch (l₁.length + 1 + mid.length)
                        if (__do_lift != m) = true then do
                            unsupported "dict.changed-during-merge"
                            Pure.pure (ForInStep.yield PUnit.unit)
                          else Pure.pure (ForInStep.yield PUnit.unit)
                      | x => do
                        unsupported "dict.changed-during-merge"
                        Pure.pure (ForInStep.yield PUnit.unit) : Sem (ForInStep PUnit)))
      s (6 * k) PUnit.unit { s with heap := hp (l₁ ++ dObj (es ++ es2) (n + es2.length) :: (mid ++ [dObj es2 m])) life }
  | 0, i, s, hi, hh => by
    have : ({ s with heap := hp (l₁ ++ dObj (es ++ es2) (n + es2.length) :: (mid ++ [dObj es2 m])) life } : Shared) = s := by
      obtain ⟨h, g, d, t, o⟩ := s
      dsimp only at hh ⊢
      rw [hh, show i = es2.length by omega, List.take_length]
    rw [this, List.range'_zero, List.forIn_nil]
    exact Ex.pure _
  | k + 1, i, s, hi, hh => by
    have hlt : i < es2.length := by omega
    have he : es2[i]? = some es2[i] := List.getElem?_eq_getElem hlt
    obtain ⟨⟨kk, t, hkey⟩, hne⟩ := hk i _ he
    rw [List.range'_succ, List.forIn_cons]
    refine Ex.more (B := (1 + (4 + (1 + 0))) + 6 * k) ?_ (by omega)
    refine Ex.bind (a := ForInStep.yield PUnit.unit) (s₁ := { s with heap := hp (l₁ ++ dObj (es ++ es2.take (i + 1)) (n + (i + 1)) :: (mid ++ [dObj es2 m])) life }) ?_
      (loopM ha hz hk g2 k (i + 1) _ (by omega) rfl)
    refine Ex.bind (Ex.dictEntries (by rw [hh]; exact g2 _ _)) ?_
    have he' : es2.toArray[i]? = some es2[i] := by rw [List.getElem?_toArray]; exact he
    rw [he']
    dsimp only
    refine Ex.bind (a := ()) (s₁ := { s with heap := hp (l₁ ++ dObj (es ++ es2.take (i + 1)) (n + (i + 1)) :: (mid ++ [dObj es2 m])) life }) (Ex.holding ?_) ?_
    · rw [if_neg (by simp)]
      have q : es ++ es2.take (i + 1) = es ++ es2.take i ++ [⟨es2[i].hash, .int kk t, es2[i].val⟩] := by
        rw [List.append_assoc, List.take_succ_eq_append_getElem hlt, ← hkey]
      rw [hkey, q]
      exact Ex.dictPut hh hne (by simp; omega) ha
    · refine Ex.bind (Ex.dictEpoch (g2 _ _)) ?_
      rw [if_neg (by simp)]
      exact Ex.pure _

theorem Ex.merge {l₁ mid : List Obj} {life : Life} {es es2 : List DictEntry} {n m : Nat} {s : Shared} (ha : n₀ ≤ l₁.length) (hs : sysModules < n₀) (hh : s.heap = hp (l₁ ++ dObj es n :: (mid ++ [dObj es2 m])) life) (he : es ≠ []) (hz : es.length + es2.length < 1000)
    (hk : ∀ i e, es2[i]? = some e → (∃ k t, e.key = .int k t) ∧ ∀ e' ∈ es ++ es2.take i, e'.hash ≠ e.hash) :
    Ex p w n₀ ann (mergeMapping l₁.length (.ref (l₁.length + 1 + mid.length)) false) s (5 + 6 * es2.length) () { s with heap := hp (l₁ ++ dObj (es ++ es2) (n + es2.length) :: (mid ++ [dObj es2 m])) life } := by
  have g2 : ∀ (x : List DictEntry) (y : Nat), (hp (l₁ ++ dObj x y :: (mid ++ [dObj es2 m])) life).get? (l₁.length + 1 + mid.length) = some (dObj es2 m) := fun x y => by
    have := hp_get (l₁ ++ dObj x y :: mid) es2 m [] life
    rw [show l₁ ++ dObj x y :: (mid ++ [dObj es2 m]) = (l₁ ++ dObj x y :: mid) ++ dObj es2 m :: [] by simp]
    rw [show l₁.length + 1 + mid.length = (l₁ ++ dObj x y :: mid).length by simp; omega]
    exact this
  have ho2 : s.heap.get? (l₁.length + 1 + mid.length) = some (dObj es2 m) := by rw [hh]; exact g2 ..
  have ho1 : s.heap.get? l₁.length = some (dObj es n) := by rw [hh]; exact hp_get ..
  unfold mergeMapping
  have hsys : ((l₁.length + 1 + mid.length) == sysModules) = false := by
    rw [beq_eq_false_iff_ne]; intro q
    have h1 : @Nat.lt sysModules (l₁.length + 1 + mid.length) := Nat.lt_of_lt_of_le hs (Nat.le_trans ha (by rw [Nat.add_assoc]; exact Nat.le_add_right _ _))
    exact absurd q.symm (Nat.ne_of_lt h1)
  refine Ex.more (B := 1 + (1 + (1 + (1 + (1 + (6 * es2.length + 0)))))) ?_ (by omega)
  refine Ex.bind (Ex.isDict ho2) ?_
  dsimp only
  rw [if_pos rfl]
  refine Ex.bind (Ex.iterOf ho2) ?_
  show Ex p w n₀ ann (if ((l₁.length + 1 + mid.length) == sysModules) = true then _ else _) _ _ _ _
  rw [if_neg (by rw [hsys]; exact Bool.false_ne_true)]
  refine Ex.bind (Ex.dictEntries ho1) ?_
  rw [if_neg (by simpa using he)]
  refine Ex.bind (Ex.dictEntries ho2) ?_
  refine Ex.bind (Ex.dictEpoch ho2) ?_
  refine Ex.bind (a := PUnit.unit) (B' := 0) ?_ (Ex.pure _)
  have := loopM (p := p) (w := w) (ann := ann) (n := n) ha hz hk g2 es2.length 0 s (by omega) (by simpa using hh)
  rw [List.size_toArray, List.range_eq_range']
  exact this
end
end Mine
end
section
set_option maxRecDepth 100000
set_option linter.unusedVariables false
namespace Mine
open PySem PySem.W

def flush (run : List (Sem Value × Sem Value)) (main : Option Addr) : Sem (Option Addr) :=
  if run.isEmpty = true then pure main
  else match main with
    | none => do
      let d ← subDict run
      pure (some d)
    | some d => do
      let sub ← holding [Value.ref d] (subDict run)
      (holding [Value.ref d, Value.ref sub] (mergeMapping d (Value.ref sub) false)).onRaise fun x => do
          let _ ← holding [Value.ref d, x] (runValue (Code.builtin "proto.let_go" { }))
          pure ()
      pure (some d)

abbrev DSt := Option Addr × List (Sem Value × Sem Value)
def it (pos : Pos) (kv : Int × Str) : Option (Sem Value) × Sem Value := (some (pr pos kv).1, (pr pos kv).2)
def Gathers (f : Option (Sem Value) × Sem Value → DSt → Sem (ForInStep DSt)) : Prop :=
  ∀ (k v : Sem Value) (main : Option Addr) (run : List (Sem Value × Sem Value)), f (some k, v) (main, run) =
    if ((run ++ [(k, v)]).length == 17) = true then (do let m ← flush (run ++ [(k, v)]) main; pure (ForInStep.yield (m, []))) else pure (ForInStep.yield (main, run ++ [(k, v)]))

theorem gather {f : Option (Sem Value) × Sem Value → DSt → Sem (ForInStep DSt)} (hf : Gathers f) (pos : Pos) (main : Option Addr) (rest : List (Int × Str)) : ∀ (xs : List (Int × Str)) (run : List (Sem Value × Sem Value)), run.length + xs.length ≤ 16 →
    forIn ((xs ++ rest).map (it pos)) ((main, run) : DSt) f = forIn (rest.map (it pos)) ((main, run ++ xs.map (pr pos)) : DSt) f
  | [], run, _ => by simp
  | kv :: xs, run, h => by
    rw [List.length_cons] at h
    rw [List.cons_append, List.map_cons, List.forIn_cons]
    have e : f (it pos kv) (main, run) = pure (ForInStep.yield (main, run ++ [pr pos kv])) := by
      have := hf (pr pos kv).1 (pr pos kv).2 main run
      rw [if_neg (by simp; omega)] at this
      exact this
    rw [e, pure_bind]
    have := gather hf pos main rest xs (run ++ [pr pos kv]) (by simp; omega)
    simpa using this

def subsL : Nat → List (List (Int × Str)) → List Obj
  | _, [] => []
  | T, c :: r => dObj (entL T c) c.length :: subsL (T + 3 * c.length) r

theorem entL_length : ∀ (c : List (Int × Str)) (T : Nat), (entL T c).length = c.length
  | [], _ => rfl
  | _ :: r, T => by rw [entL, List.length_cons, entL_length r, List.length_cons]
theorem entS_length : ∀ (c : List (Int × Str)) (T : Nat), (entS T c).length = c.length
  | [], _ => rfl
  | _ :: r, T => by rw [entS, List.length_cons, entS_length r, List.length_cons]
theorem entL_append : ∀ (c d : List (Int × Str)) (T : Nat), entL T (c ++ d) = entL T c ++ entL (T + 3 * c.length) d
  | [], d, T => by simp [entL]
  | kv :: c, d, T => by
    rw [List.cons_append, entL, entL_append c d, entL, List.cons_append, List.length_cons]
    rw [show T + 3 + 3 * c.length = T + 3 * (c.length + 1) by omega]
def last1 (b : Int) : List (Int × Str) → Int
  | [] => b
  | kv :: r => last1 (hashInt kv.1 + 1) r
theorem Rise.app : ∀ {c d : List (Int × Str)} {b : Int}, Rise b (c ++ d) → Rise b c ∧ Rise (last1 b c) d
  | [], _, _, h => ⟨trivial, h⟩
  | _ :: _, _, _, h => ⟨⟨h.1, (Rise.app h.2).1⟩, (Rise.app h.2).2⟩
theorem last1_le : ∀ {c : List (Int × Str)} {b : Int}, Rise b c → b ≤ last1 b c
  | [], _, _ => Int.le_refl _
  | kv :: r, b, h => by have := last1_le h.2; have := h.1; show b ≤ last1 (hashInt kv.1 + 1) r; omega
theorem under_entL : ∀ {c : List (Int × Str)} {T : Nat} {b : Int} {es : List DictEntry}, Under es b → Rise b c → Under (es ++ entL T c) (last1 b c)
  | [], _, _, _, hu, _ => by simpa [entL, last1] using hu
  | kv :: r, T, b, es, hu, hr => by
    have := under_entL (c := r) (T := T + 3) (b := hashInt kv.1 + 1) (es := es ++ [⟨hashInt kv.1, .int kv.1 T, .str kv.2 (T + 1)⟩]) (fun e he => by
      rcases List.mem_append.mp he with h | h
      · have := hu e h; have := hr.1; omega
      · rw [List.mem_singleton] at h; subst h; show hashInt kv.1 < _; omega) hr.2
    simpa [entL, last1] using this
theorem hkL : ∀ {c : List (Int × Str)} {T : Nat} {b : Int} {es : List DictEntry}, Under es b → Rise b c →
    ∀ i e, (entL T c)[i]? = some e → (∃ k t, e.key = .int k t) ∧ ∀ e' ∈ es ++ (entL T c).take i, e'.hash ≠ e.hash
  | [], _, _, _, _, _, i, e, h => by simp [entL] at h
  | kv :: r, T, b, es, hu, hr, 0, e, h => by
    simp only [entL, List.getElem?_cons_zero, Option.some.injEq] at h
    subst h
    refine ⟨⟨_, _, rfl⟩, fun e' he' => ?_⟩
    rw [List.take_zero, List.append_nil] at he'
    have := hu e' he'
    have := hr.1
    show e'.hash ≠ hashInt kv.1
    omega
  | kv :: r, T, b, es, hu, hr, i + 1, e, h => by
    rw [entL, List.getElem?_cons_succ] at h
    have := hkL (c := r) (T := T + 3) (b := hashInt kv.1 + 1) (es := es ++ [⟨hashInt kv.1, .int kv.1 T, .str kv.2 (T + 1)⟩]) (fun e he => by
      rcases List.mem_append.mp he with h | h
      · have := hu e h; have := hr.1; omega
      · rw [List.mem_singleton] at h; subst h; show hashInt kv.1 < _; omega) hr.2 i e h
    simpa [entL] using this
theorem hkS : ∀ {c : List (Int × Str)} {T : Nat} {b : Int} {es : List DictEntry}, Under es b → Rise b c →
    ∀ i e, (entS T c)[i]? = some e → (∃ k t, e.key = .int k t) ∧ ∀ e' ∈ es ++ (entS T c).take i, e'.hash ≠ e.hash
  | [], _, _, _, _, _, i, e, h => by simp [entS] at h
  | kv :: r, T, b, es, hu, hr, 0, e, h => by
    simp only [entS, List.getElem?_cons_zero, Option.some.injEq] at h
    subst h
    refine ⟨⟨_, _, rfl⟩, fun e' he' => ?_⟩
    rw [List.take_zero, List.append_nil] at he'
    have := hu e' he'
    have := hr.1
    show e'.hash ≠ hashInt kv.1
    omega
  | kv :: r, T, b, es, hu, hr, i + 1, e, h => by
    rw [entS, List.getElem?_cons_succ] at h
    have := hkS (c := r) (T := T + 2) (b := hashInt kv.1 + 1) (es := es ++ [⟨hashInt kv.1, .int kv.1 T, .str kv.2 (T + 1)⟩]) (fun e he => by
      rcases List.mem_append.mp he with h | h
      · have := hu e h; have := hr.1; omega
      · rw [List.mem_singleton] at h; subst h; show hashInt kv.1 < _; omega) hr.2 i e h
    simpa [entS] using this

section
variable {p : Program} {w : World} {n₀ : Nat} {ann : Option Value}

theorem Ex.flushFirst {l : List Obj} {life : Life} {pos : Pos} {c : List (Int × Str)} {b : Int} {s : Shared} (ha : n₀ ≤ l.length) (hh : s.heap = hp l life) (hr : Rise b c) (hl : c.length = 17) :
    Ex p w n₀ ann (flush (c.map (pr pos)) none) s 223 (some l.length) { s with heap := hp (l ++ [dObj (entL s.toks c) c.length]) life, toks := s.toks + 3 * c.length } := by
  unfold flush
  rw [if_neg (by simp; rintro rfl; cases hl)]
  have := Ex.bind (B' := 0) (g := fun d => (Pure.pure (some d) : Sem (Option Addr))) (Ex.subLong (p := p) (w := w) (ann := ann) (pos := pos) ha hh hr (by omega) (by omega)) (Ex.pure _)
  exact this.more (by omega)

theorem Ex.flushNext {l mid : List Obj} {life : Life} {pos : Pos} {c : List (Int × Str)} {es : List DictEntry} {n : Nat} {b : Int} {s : Shared} (ha : n₀ ≤ l.length) (hs : sysModules < n₀) (hh : s.heap = hp (l ++ dObj es n :: mid) life) (he : es ≠ []) (hu : Under es b)
    (hr : Rise b c) (hl : c.length = 17) (hz : es.length + c.length < 1000) :
    Ex p w n₀ ann (flush (c.map (pr pos)) (some l.length)) s 330 (some l.length) { s with heap := hp (l ++ dObj (es ++ entL s.toks c) (n + c.length) :: (mid ++ [dObj (entL s.toks c) c.length])) life, toks := s.toks + 3 * c.length } := by
  unfold flush
  rw [if_neg (by simp; rintro rfl; cases hl)]
  have e1 := Ex.subLong (p := p) (w := w) (n₀ := n₀) (ann := ann) (pos := pos) (l := l ++ dObj es n :: mid) (by simp; omega) hh hr (by omega) (by omega)
  have e2 := Ex.merge (p := p) (w := w) (ann := ann) (mid := mid) (m := c.length) (es2 := entL s.toks c) (n := n) (life := life) (s := { s with heap := hp (l ++ dObj es n :: mid ++ [dObj (entL s.toks c) c.length]) life, toks := s.toks + 3 * c.length }) ha hs (by simp) he (by rw [entL_length]; omega) (hkL hu hr)
  have el : (l ++ dObj es n :: mid).length = l.length + 1 + mid.length := by simp; omega
  rw [el] at e1
  rw [entL_length] at e2
  refine Ex.more (B := (2 + 13 * c.length) + ((5 + 6 * c.length) + 0)) ?_ (by omega)
  exact Ex.bind (Ex.holding e1) (Ex.bind (Ex.onRaise (Ex.holding e2)) (Ex.pure _))

theorem Ex.flushLast {l mid : List Obj} {life : Life} {pos : Pos} {c : List (Int × Str)} {es : List DictEntry} {n : Nat} {b : Int} {s : Shared} (ha : n₀ ≤ l.length) (hs : sysModules < n₀) (hh : s.heap = hp (l ++ dObj es n :: mid) life) (he : es ≠ []) (hu : Under es b)
    (hr : Rise b c) (h0 : c ≠ []) (hl : c.length ≤ 15) (hz : es.length + c.length < 1000) :
    Ex p w n₀ ann (flush (c.map (pr pos)) (some l.length)) s 330 (some l.length) { s with heap := hp (l ++ dObj (es ++ entS s.toks c) (n + c.length) :: (mid ++ [dObj (entS s.toks c) c.length])) life, toks := s.toks + 3 * c.length } := by
  unfold flush
  rw [if_neg (by simp; exact h0)]
  have e1 := Ex.subShort (p := p) (w := w) (n₀ := n₀) (ann := ann) (pos := pos) (l := l ++ dObj es n :: mid) (by simp; omega) hh hr hl
  have e2 := Ex.merge (p := p) (w := w) (ann := ann) (mid := mid) (m := c.length) (es2 := entS s.toks c) (n := n) (life := life) (s := { s with heap := hp (l ++ dObj es n :: mid ++ [dObj (entS s.toks c) c.length]) life, toks := s.toks + 3 * c.length }) ha hs (by simp) he (by rw [entS_length]; omega) (hkS hu hr)
  have el : (l ++ dObj es n :: mid).length = l.length + 1 + mid.length := by simp; omega
  rw [el] at e1
  rw [entS_length] at e2
  refine Ex.more (B := (2 + 13 * c.length) + ((5 + 6 * c.length) + 0)) ?_ (by omega)
  exact Ex.bind (Ex.holding e1) (Ex.bind (Ex.onRaise (Ex.holding e2)) (Ex.pure _))
end
end Mine
end
section
set_option maxRecDepth 100000
set_option linter.unusedVariables false
namespace Mine
open PySem PySem.W
section
variable {p : Program} {w : World} {n₀ : Nat} {ann : Option Value}

theorem split17 {c : List (Int × Str)} (h : c.length = 17) : ∃ c' x, c = c' ++ [x] ∧ c'.length = 16 := by
  have hne : c ≠ [] := by rintro rfl; cases h
  exact ⟨c.dropLast, c.getLast hne, (List.dropLast_concat_getLast hne).symm, by rw [List.length_dropLast]; omega⟩

theorem chunk_eq {f : Option (Sem Value) × Sem Value → DSt → Sem (ForInStep DSt)} (hf : Gathers f) (pos : Pos) (main : Option Addr) {c : List (Int × Str)} (h : c.length = 17) (rest : List (Int × Str)) :
    forIn ((c ++ rest).map (it pos)) ((main, []) : DSt) f = (do let m ← flush (c.map (pr pos)) main; forIn (rest.map (it pos)) ((m, []) : DSt) f) := by
  obtain ⟨c', x, rfl, h16⟩ := split17 h
  rw [List.append_assoc, gather hf pos main ([x] ++ rest) c' [] (by simp; omega)]
  rw [List.nil_append, List.cons_append, List.nil_append, List.map_cons, List.forIn_cons]
  have e : f (it pos x) (main, c'.map (pr pos)) = (do let m ← flush ((c' ++ [x]).map (pr pos)) main; pure (ForInStep.yield (m, []))) := by
    have := hf (pr pos x).1 (pr pos x).2 main (c'.map (pr pos))
    rw [if_pos (by simp; omega)] at this
    rw [List.map_append]
    exact this
  rw [e, bind_assoc]
  congr 1

theorem loopD {f : Option (Sem Value) × Sem Value → DSt → Sem (ForInStep DSt)} (hf : Gathers f) {pos : Pos} {l : List Obj} {life : Life} (ha : n₀ ≤ l.length) (hs : sysModules < n₀) {last : List (Int × Str)} (hla : last.length ≤ 15) :
    ∀ (cs : List (List (Int × Str))) (mid : List Obj) (es : List DictEntry) (n : Nat) (b : Int) (s : Shared), (∀ c ∈ cs, c.length = 17) → s.heap = hp (l ++ dObj es n :: mid) life → es ≠ [] → Under es b → Rise b cs.flatten → es.length + cs.flatten.length < 1000 →
    Ex p w n₀ ann (forIn ((cs.flatten ++ last).map (it pos)) ((some l.length, []) : DSt) f) s (330 * cs.length) (some l.length, last.map (pr pos))
      { s with heap := hp (l ++ dObj (es ++ entL s.toks cs.flatten) (n + cs.flatten.length) :: (mid ++ subsL s.toks cs)) life, toks := s.toks + 3 * cs.flatten.length }
  | [], mid, es, n, b, s, _, hh, _, _, _, _ => by
    have : ({ s with heap := hp (l ++ dObj (es ++ entL s.toks []) (n + 0) :: (mid ++ [])) life, toks := s.toks + 3 * 0 } : Shared) = s := by
      obtain ⟨h, g, d, t, o⟩ := s
      simp only [entL, List.append_nil, Nat.add_zero, Nat.mul_zero] at hh ⊢
      rw [hh]
    have e := gather hf pos (some l.length) [] last [] (by simp; omega)
    rw [List.append_nil, List.map_nil, List.forIn_nil, List.nil_append] at e
    show Ex p w n₀ ann (forIn ((([] : List (List (Int × Str))).flatten ++ last).map (it pos)) ((some l.length, []) : DSt) f) s 0 _ { s with heap := hp (l ++ dObj (es ++ entL s.toks []) (n + 0) :: (mid ++ [])) life, toks := s.toks + 3 * 0 }
    rw [this, List.flatten_nil, List.nil_append, e]
    exact Ex.pure _
  | c :: cs, mid, es, n, b, s, hc, hh, he, hu, hr, hz => by
    have h17 : c.length = 17 := hc c (.head _)
    rw [List.flatten_cons] at hr hz ⊢
    rw [List.length_append] at hz
    obtain ⟨r1, r2⟩ := Rise.app hr
    rw [List.append_assoc, chunk_eq hf pos _ h17, List.length_cons]
    refine Ex.more (B := 330 + 330 * cs.length) ?_ (by omega)
    refine Ex.bind (Ex.flushNext ha hs hh he hu r1 h17 (by omega)) ?_
    have ih := loopD hf (pos := pos) ha hs hla cs (mid ++ [dObj (entL s.toks c) c.length]) (es ++ entL s.toks c) (n + c.length) (last1 b c)
      { s with heap := hp (l ++ dObj (es ++ entL s.toks c) (n + c.length) :: (mid ++ [dObj (entL s.toks c) c.length])) life, toks := s.toks + 3 * c.length }
      (fun x hx => hc x (.tail _ hx)) rfl (by simp [he]) (under_entL hu r1) r2 (by rw [List.length_append, entL_length]; omega)
    have q1 : es ++ entL s.toks (c ++ cs.flatten) = es ++ entL s.toks c ++ entL (s.toks + 3 * c.length) cs.flatten := by rw [entL_append, List.append_assoc]
    have q2 : n + (c ++ cs.flatten).length = n + c.length + cs.flatten.length := by rw [List.length_append]; omega
    have q3 : s.toks + 3 * (c ++ cs.flatten).length = s.toks + 3 * c.length + 3 * cs.flatten.length := by rw [List.length_append]; omega
    have q4 : mid ++ subsL s.toks (c :: cs) = mid ++ [dObj (entL s.toks c) c.length] ++ subsL (s.toks + 3 * c.length) cs := by simp [subsL]
    rw [q1, q2, q3, q4]
    exact ih

/-- the whole display: a first chunk, further chunks of 17, a short rest -/
theorem Ex.display {pos : Pos} {l : List Obj} {life : Life} {c : List (Int × Str)} {cs : List (List (Int × Str))} {last : List (Int × Str)} {b : Int} {s : Shared} (ha : n₀ ≤ l.length) (hs : sysModules < n₀) (hh : s.heap = hp l life)
    (hc : c.length = 17) (hcs : ∀ c ∈ cs, c.length = 17) (h0 : last ≠ []) (hla : last.length ≤ 15) (hr : Rise b ((c ++ cs.flatten) ++ last)) (hz : ((c ++ cs.flatten) ++ last).length < 1000) :
    Ex p w n₀ ann (dictDisplay (((c ++ cs.flatten) ++ last).map (it pos))) s (600 + 330 * cs.length) (.ref l.length)
      { s with heap := hp (l ++ dObj (entL s.toks (c ++ cs.flatten) ++ entS (s.toks + 3 * (c ++ cs.flatten).length) last) ((c ++ cs.flatten) ++ last).length :: (subsL (s.toks + 3 * c.length) cs ++ [dObj (entS (s.toks + 3 * (c ++ cs.flatten).length) last) last.length])) life,
               toks := s.toks + 3 * ((c ++ cs.flatten) ++ last).length } := by
  obtain ⟨r12, r3⟩ := Rise.app hr
  obtain ⟨r1, r2⟩ := Rise.app r12
  rw [List.length_append, List.length_append] at hz
  unfold dictDisplay
  dsimp only
  refine Ex.more (B := (223 + 330 * cs.length) + (330 + 0)) ?_ (by omega)
  refine Ex.bind (a := ((some l.length, last.map (pr pos)) : DSt)) (s₁ := { s with heap := hp (l ++ dObj (entL s.toks (c ++ cs.flatten)) (c ++ cs.flatten).length :: subsL (s.toks + 3 * c.length) cs) life, toks := s.toks + 3 * (c ++ cs.flatten).length }) ?_ ?_
  · rw [List.append_assoc, chunk_eq (fun k v main run => rfl) pos none hc]
    refine Ex.bind (Ex.flushFirst ha hh r1 hc) ?_
    have q1 : entL s.toks (c ++ cs.flatten) = entL s.toks c ++ entL (s.toks + 3 * c.length) cs.flatten := entL_append ..
    have q2 : (c ++ cs.flatten).length = c.length + cs.flatten.length := by rw [List.length_append]
    have q3 : s.toks + 3 * (c.length + cs.flatten.length) = s.toks + 3 * c.length + 3 * cs.flatten.length := by omega
    rw [q1, q2, q3]
    exact loopD (p := p) (w := w) (n₀ := n₀) (ann := ann) (by intro k v main run; rfl) (pos := pos) ha hs hla cs [] (entL s.toks c) c.length (last1 b c)
      { s with heap := hp (l ++ [dObj (entL s.toks c) c.length]) life, toks := s.toks + 3 * c.length } hcs rfl
      (by intro q; have := congrArg List.length q; rw [entL_length, hc] at this; cases this) (by have := under_entL (T := s.toks) (es := []) (b := b) (fun e he => by cases he) r1; simpa using this) r2 (by rw [entL_length]; omega)
  · have e := Ex.flushLast (p := p) (w := w) (ann := ann) (pos := pos) (l := l) (mid := subsL (s.toks + 3 * c.length) cs) (life := life) (c := last) (es := entL s.toks (c ++ cs.flatten)) (n := (c ++ cs.flatten).length) (b := last1 b (c ++ cs.flatten))
      (s := { s with heap := hp (l ++ dObj (entL s.toks (c ++ cs.flatten)) (c ++ cs.flatten).length :: subsL (s.toks + 3 * c.length) cs) life, toks := s.toks + 3 * (c ++ cs.flatten).length }) ha hs rfl
      (by intro q; have := congrArg List.length q; rw [entL_length, List.length_append, hc] at this; simp at this) (by have := under_entL (T := s.toks) (es := []) (b := b) (fun e he => by cases he) r12; simpa using this) r3 h0 hla (by rw [entL_length, List.length_append]; omega)
    have q2 : ((c ++ cs.flatten) ++ last).length = (c ++ cs.flatten).length + last.length := List.length_append
    have q3 : s.toks + 3 * ((c ++ cs.flatten).length + last.length) = s.toks + 3 * (c ++ cs.flatten).length + 3 * last.length := by omega
    rw [q2, q3]
    exact Ex.bind e (Ex.pure _)
end
end Mine
end
section
set_option maxRecDepth 100000
set_option linter.unusedVariables false
namespace Mine
open PySem PySem.W

def tblOf : List (Option PySem.Expr) → List PySem.Expr → List (Int × Str)
  | some (.Constant (.int k) _ _) :: ks, .Constant (.str v) _ _ :: vs => (k, v) :: tblOf ks vs
  | _, _ => []
def allConst : List (Option PySem.Expr) → List PySem.Expr → Bool
  | [], [] => true
  | some (.Constant (.int _) _ _) :: ks, .Constant (.str _) _ _ :: vs => allConst ks vs
  | _, _ => false
theorem items_eq (env : Env) (pos : Pos) : ∀ (ks : List (Option PySem.Expr)) (vs : List PySem.Expr), allConst ks vs = true →
    (evalEachOpt ks env).zip ((evalEach vs env).map fun v => do let x ← v; standAt pos; pure x) = (tblOf ks vs).map (it pos)
  | [], [], _ => rfl
  | some (.Constant (.int k) _ _) :: ks, .Constant (.str v) _ _ :: vs, h => by
    rw [arm_evalEachOpt_cons, arm_evalEach_cons, List.map_cons, List.zip_cons_cons, items_eq env pos ks vs h, tblOf, List.map_cons]
    rfl
  | [], _ :: _, h => by cases h
  | none :: _, _, h => by simp [allConst] at h
  | some e :: ks, [], h => by simp [allConst] at h
def chunks : Nat → List (Int × Str) → List (List (Int × Str))
  | 0, _ => []
  | n + 1, l => l.take 17 :: chunks n (l.drop 17)
theorem chunks_flat : ∀ (n : Nat) (l : List (Int × Str)), (chunks n l).flatten ++ l.drop (17 * n) = l
  | 0, l => by simp [chunks]
  | n + 1, l => by
    rw [chunks, List.flatten_cons, List.append_assoc]
    have := chunks_flat n (l.drop 17)
    rw [List.drop_drop] at this
    rw [show 17 * (n + 1) = 17 + 17 * n by omega, this, List.take_append_drop]
theorem chunks_17 : ∀ (n : Nat) (l : List (Int × Str)), 17 * n ≤ l.length → ∀ c ∈ chunks n l, c.length = 17
  | 0, _, _, _, h => by cases h
  | n + 1, l, hl, c, h => by
    rw [chunks, List.mem_cons] at h
    rcases h with rfl | h
    · rw [List.length_take]; omega
    · exact chunks_17 n _ (by rw [List.length_drop]; omega) c h
theorem chunks_length : ∀ (n : Nat) (l : List (Int × Str)), (chunks n l).length = n
  | 0, _ => rfl
  | n + 1, l => by rw [chunks, List.length_cons, chunks_length n]
theorem subsL_length : ∀ (cs : List (List (Int × Str))) (T : Nat), (subsL T cs).length = cs.length
  | [], _ => rfl
  | _ :: r, T => by rw [subsL, List.length_cons, subsL_length r, List.length_cons]
def riseB : Int → List (Int × Str) → Bool
  | _, [] => true
  | b, kv :: r => decide (b ≤ hashInt kv.1) && riseB (hashInt kv.1 + 1) r
theorem rise_of : ∀ {l : List (Int × Str)} {b : Int}, riseB b l = true → Rise b l
  | [], _, _ => trivial
  | _ :: _, _, h => by
    rw [riseB, Bool.and_eq_true, decide_eq_true_eq] at h
    exact ⟨h.1, rise_of h.2⟩

/-- the objects that a display of n + 1 chunks of 17 and a rest leaves, begun at the token T -/
def dictObjs (T n : Nat) (tbl : List (Int × Str)) : List Obj :=
  let c := tbl.take 17
  let cs := chunks n (tbl.drop 17)
  let last := tbl.drop (17 * (n + 1))
  dObj (entL T (c ++ cs.flatten) ++ entS (T + 3 * (c ++ cs.flatten).length) last) tbl.length :: (subsL (T + 3 * c.length) cs ++ [dObj (entS (T + 3 * (c ++ cs.flatten).length) last) last.length])

section
variable {p : Program} {w : World} {n₀ : Nat} {ann : Option Value}
theorem Ex.displayT {pos : Pos} {l : List Obj} {life : Life} {tbl : List (Int × Str)} {n : Nat} {s : Shared} (ha : n₀ ≤ l.length) (hs : sysModules < n₀) (hh : s.heap = hp l life)
    (h1 : 17 * (n + 1) < tbl.length) (h2 : tbl.length ≤ 17 * (n + 1) + 15) (hr : riseB 0 tbl = true) (hz : tbl.length < 1000) :
    Ex p w n₀ ann (dictDisplay (tbl.map (it pos))) s (600 + 330 * n) (.ref l.length) { s with heap := hp (l ++ dictObjs s.toks n tbl) life, toks := s.toks + 3 * tbl.length } := by
  have e : (tbl.take 17 ++ (chunks n (tbl.drop 17)).flatten) ++ tbl.drop (17 * (n + 1)) = tbl := by
    have := chunks_flat n (tbl.drop 17)
    rw [List.drop_drop] at this
    rw [List.append_assoc, show 17 * (n + 1) = 17 + 17 * n by omega, this, List.take_append_drop]
  have := Ex.display (p := p) (w := w) (n₀ := n₀) (ann := ann) (pos := pos) (l := l) (life := life) (c := tbl.take 17) (cs := chunks n (tbl.drop 17)) (last := tbl.drop (17 * (n + 1))) (b := 0) (s := s) ha hs hh
    (by rw [List.length_take]; omega) (chunks_17 n _ (by rw [List.length_drop]; omega)) (by intro q; have := congrArg List.length q; rw [List.length_drop, List.length_nil] at this; omega)
    (by rw [List.length_drop]; omega) (by rw [e]; exact rise_of hr) (by rw [e]; exact hz)
  rw [e, chunks_length] at this
  exact this

theorem exec_dict (n : Str) (npos : Pos) (ks : List (Option PySem.Expr)) (vs : List PySem.Expr) (dpos pos : Pos) (env : Env) : exec (.Assign [.Name n npos] (.Dict ks vs dpos) pos) env = (do
    standAt pos
    standAt dpos
    let v ← dictDisplay ((evalEachOpt ks env).zip ((evalEach vs env).map fun v => do let x ← v; standAt dpos; pure x))
    assignStores env v (← swappedStores [.Name n npos] (.Dict ks vs dpos) env) ((assignEach [.Name n npos] env).map (·.2))) := by
  rw [arm_exec_Assign]
  rfl

theorem assign_dict {nm : Str} {npos dpos pos pos0 : Pos} {ks : List (Option PySem.Expr)} {vs : List PySem.Expr} {env : Env} {l : List Obj} {life : Life} {n N : Nat} {s : Shared} {c : Code} {f : Frame} {r} (ha : n₀ ≤ l.length) (hs : sysModules < n₀) (hh : s.heap = hp l life)
    (hc : allConst ks vs = true) (h1 : 17 * (n + 1) < (tblOf ks vs).length) (h2 : (tblOf ks vs).length ≤ 17 * (n + 1) + 15) (hr : riseB 0 (tblOf ks vs) = true) (hz : (tblOf ks vs).length < 1000)
    (h : ∀ pos', segRun treeTable p w n₀ ann 1 N { s with heap := hp (l ++ dictObjs s.toks n (tblOf ks vs)) life, toks := s.toks + 3 * (tblOf ks vs).length }
      ⟨((do assignStores env (.ref l.length) (← swappedStores [.Name nm npos] (.Dict ks vs dpos) env) ((assignEach [.Name nm npos] env).map (·.2)) : Sem Flow)).wrap (fun f => match f with | .next => (execs [] env).wrap doneF deadEnd id id | f => doneF f) deadEnd id id, c, pos', [f]⟩ = some r) :
    segRun treeTable p w n₀ ann 1 (N + (600 + 330 * n) + 1 + 1) s (piecesOf [.Assign [.Name nm npos] (.Dict ks vs dpos) pos] env c pos0 [f]) = some r := by
  unfold piecesOf
  rw [execs_cons_wrap, exec_dict, items_eq env dpos ks vs hc]
  rw [Sem.bind_eq_wrap', Sem.wrap_wrap]
  refine Ex.standAt (p := p) (w := w) (n₀ := n₀) (ann := ann) _ _ _ _ c pos0 f [] _ r fun p1 => ?_
  rw [Sem.bind_eq_wrap', Sem.wrap_wrap]
  refine Ex.standAt (p := p) (w := w) (n₀ := n₀) (ann := ann) _ _ _ _ c p1 f [] _ r fun p2 => ?_
  rw [Sem.bind_eq_wrap', Sem.wrap_wrap]
  exact Ex.displayT (p := p) (w := w) (n₀ := n₀) (ann := ann) ha hs hh h1 h2 hr hz _ _ _ _ c p2 f [] N r h
end
end Mine
end
section
namespace Mine
/-- the inner loop of the overlap table: c is the sign at hand, k the length tried -/
def ovW (p tb : List Nat) (c : Nat) : Nat → Nat → Nat
  | 0, _ => 0
  | f + 1, k => if p.getD k 0 = c then k + 1 else if k = 0 then 0 else ovW p tb c f (tb.getD (k - 1) 0)
/-- the table of the first n signs -/
def ovT (p : List Nat) : Nat → List Nat
  | 0 => []
  | 1 => [0]
  | n + 2 => ovT p (n + 1) ++ [ovW p (ovT p (n + 1)) (p.getD (n + 1) 0) (n + 2) ((ovT p (n + 1)).getD n 0)]
theorem ovT_length (p : List Nat) : ∀ n, (ovT p n).length = n
  | 0 => rfl
  | 1 => rfl
  | n + 2 => by rw [ovT, List.length_append, ovT_length p (n + 1)]; rfl

/-- k is the length of a proper end of the first n signs that is a beginning, too -/
def Bd (p : List Nat) (n k : Nat) : Prop := k < n ∧ ∀ i, i < k → p.getD i 0 = p.getD (n - k + i) 0
def MaxBd (p : List Nat) (n k : Nat) : Prop := Bd p n k ∧ ∀ k', Bd p n k' → k' ≤ k

theorem bd_zero {p : List Nat} {n : Nat} (h : 0 < n) : Bd p n 0 := ⟨h, fun i hi => absurd hi (Nat.not_lt_zero i)⟩
theorem bd_ext {p : List Nat} {n k : Nat} : Bd p (n + 1) (k + 1) ↔ Bd p n k ∧ p.getD k 0 = p.getD n 0 := by
  constructor
  · rintro ⟨h1, h2⟩
    refine ⟨⟨by omega, fun i hi => ?_⟩, ?_⟩
    · have := h2 i (by omega)
      rwa [show n + 1 - (k + 1) + i = n - k + i by omega] at this
    · have := h2 k (by omega)
      rwa [show n + 1 - (k + 1) + k = n by omega] at this
  · rintro ⟨⟨h1, h2⟩, h3⟩
    refine ⟨by omega, fun i hi => ?_⟩
    rw [show n + 1 - (k + 1) + i = n - k + i by omega]
    by_cases q : i = k
    · subst q; rw [show n - i + i = n by omega]; exact h3
    · exact h2 i (by omega)
theorem bd_down {p : List Nat} {n k j : Nat} (h : Bd p n k) (hj : Bd p n j) (hlt : j < k) : Bd p k j := by
  refine ⟨hlt, fun i hi => ?_⟩
  have h1 := hj.2 i hi
  have h2 := h.2 (k - j + i) (by omega)
  have := h.1
  rw [h1, h2]
  congr 1
  omega
theorem bd_up {p : List Nat} {n k j : Nat} (h : Bd p n k) (hj : Bd p k j) : Bd p n j := by
  have a := h.1
  have b := hj.1
  refine ⟨by omega, fun i hi => ?_⟩
  have h1 := hj.2 i hi
  have h2 := h.2 (k - j + i) (by omega)
  rw [h1, h2]
  congr 1
  omega
theorem ovW_max {p tb : List Nat} {n : Nat} (ht : ∀ j, j < n → MaxBd p (j + 1) (tb.getD j 0)) : ∀ (f k : Nat), k < f → Bd p n k → (∀ k', Bd p n k' → p.getD k' 0 = p.getD n 0 → k' ≤ k) → MaxBd p (n + 1) (ovW p tb (p.getD n 0) f k)
  | 0, _, h, _, _ => absurd h (Nat.not_lt_zero _)
  | f + 1, k, hf, hb, hm => by
    unfold ovW
    by_cases h1 : p.getD k 0 = p.getD n 0
    · rw [if_pos h1]
      refine ⟨bd_ext.mpr ⟨hb, h1⟩, fun k' hk' => ?_⟩
      cases k' with
      | zero => omega
      | succ k' => have := bd_ext.mp hk'; have := hm k' this.1 this.2; omega
    · rw [if_neg h1]
      by_cases h0 : k = 0
      · rw [if_pos h0]
        subst h0
        refine ⟨bd_zero (by omega), fun k' hk' => ?_⟩
        cases k' with
        | zero => omega
        | succ k' =>
          have q := bd_ext.mp hk'
          have := hm k' q.1 q.2
          obtain rfl : k' = 0 := by omega
          exact absurd q.2 h1
      · rw [if_neg h0]
        have hk : k < n := hb.1
        have hM := ht (k - 1) (by omega)
        rw [show k - 1 + 1 = k by omega] at hM
        refine ovW_max ht f _ (by have := hM.1.1; omega) (bd_up hb hM.1) fun k' h2 h3 => ?_
        have h4 := hm k' h2 h3
        have h5 : k' ≠ k := by rintro rfl; exact h1 h3
        exact hM.2 k' (bd_down hb h2 (by omega))
theorem ovT_prefix (p : List Nat) (n j : Nat) (h : j < n) : (ovT p (n + 1)).getD j 0 = (ovT p n).getD j 0 := by
  cases n with
  | zero => omega
  | succ n =>
    rw [ovT, List.getD_eq_getElem?_getD, List.getElem?_append_left (by rw [ovT_length]; exact h), ← List.getD_eq_getElem?_getD]
theorem ovT_max (p : List Nat) : ∀ n j, j < n → MaxBd p (j + 1) ((ovT p n).getD j 0)
  | 0, _, h => absurd h (Nat.not_lt_zero _)
  | 1, j, h => by
    obtain rfl : j = 0 := by omega
    refine ⟨bd_zero (by omega), fun k' hk' => ?_⟩
    have := hk'.1
    show k' ≤ 0
    omega
  | n + 2, j, h => by
    by_cases q : j < n + 1
    · rw [ovT_prefix p (n + 1) j q]; exact ovT_max p (n + 1) j q
    · obtain rfl : j = n + 1 := by omega
      have e : (ovT p (n + 2)).getD (n + 1) 0 = ovW p (ovT p (n + 1)) (p.getD (n + 1) 0) (n + 2) ((ovT p (n + 1)).getD n 0) := by
        rw [ovT, List.getD_eq_getElem?_getD, List.getElem?_append_right (by rw [ovT_length]; omega), ovT_length, Nat.sub_self]; rfl
      rw [e]
      have hM := ovT_max p (n + 1) n (by omega)
      exact ovW_max (fun j hj => ovT_max p (n + 1) j hj) _ _ (by have := hM.1.1; omega) hM.1 fun k' h2 _ => hM.2 k' h2
end Mine
end
section
set_option maxRecDepth 100000
set_option linter.unusedVariables false
set_option Elab.async false
namespace Mine
open PySem PySem.W
noncomputable section
def stm (k : Nat) : PySem.Stmt := match PySem.Challenge.pw_re0100_02.main.body[k]? with | some s => s | none => .Pass default
def fP : PySem.Stmt → PySem.Arguments | .FunctionDef _ a _ _ _ _ _ _ _ _ => a | _ => default
def fB : PySem.Stmt → List PySem.Stmt | .FunctionDef _ _ b _ _ _ _ _ _ _ => b | _ => default
def fS : PySem.Stmt → PySem.Scope | .FunctionDef _ _ _ _ _ _ s _ _ _ => s | _ => default
def ob0 (P : PySem.Params) : PySem.Obj := PySem.W.boot_o_0 P
def ob1 (P : PySem.Params) : PySem.Obj := PySem.W.boot_o_1 P
def ob2 (P : PySem.Params) : PySem.Obj := PySem.W.boot_o_2 P
def ob3 (P : PySem.Params) : PySem.Obj := PySem.W.boot_o_3 P
def ob4 (P : PySem.Params) : PySem.Obj := PySem.W.boot_o_4 P
def ob5 (P : PySem.Params) : PySem.Obj := PySem.W.boot_o_5 P
def ob6 (P : PySem.Params) : PySem.Obj := PySem.W.boot_o_6 P
def ob7 (P : PySem.Params) : PySem.Obj := PySem.W.boot_o_7 P
def ob8 (P : PySem.Params) : PySem.Obj := PySem.W.boot_o_8 P
def ob9 (P : PySem.Params) : PySem.Obj := PySem.W.boot_o_9 P
def ob10 (P : PySem.Params) : PySem.Obj := PySem.W.boot_o_10 P
def ob11 (P : PySem.Params) : PySem.Obj := (PySem.Obj.mk (PySem.Value.type "code") none (PySem.Data.fields (List.toArray [(PySem.Value.str (PySem.Str.ofString "<module>") 182), (PySem.Value.str (PySem.Str.ofString "<module>") 183), (PySem.Value.str (PySem.Str.ofString "/claim/cut.py") 184), (PySem.Value.int 1 0), (PySem.Value.int 0 0), (PySem.Value.int 0 0), (PySem.Value.int 0 0), (PySem.Value.int 0 0), (PySem.Value.ref 11), (PySem.Value.bool Bool.false), (PySem.Value.int 181 0), (PySem.Value.ref 12), PySem.Value.none, PySem.Value.none, PySem.Value.none, PySem.Value.none, (PySem.Value.int 185 0), (PySem.Value.int 1 0), (PySem.Value.str (PySem.Str.ofString "/claim/cut.py") 186)])) (List.toArray []))
def ob12 (P : PySem.Params) : PySem.Obj := (PySem.Obj.mk (PySem.Value.type "frame") none PySem.Data.plain (List.toArray [(some (PySem.Value.ref 13)), (some (PySem.Value.ref 3)), (some (PySem.Value.ref 3)), none, (some (PySem.Value.str (PySem.Str.ofString "__main__") 164)), none, (some (PySem.Value.ref 0))]))
def ob13 (P : PySem.Params) : PySem.Obj := (PySem.Obj.mk (PySem.Value.type "dict") none (PySem.Data.dict (List.toArray [(PySem.DictEntry.mk (PySem.PyData.keyHash P (PySem.Str.ofString "__name__")) (PySem.Value.str (PySem.Str.ofString "__name__") 165) (PySem.Value.str (PySem.Str.ofString "cpy313.stringprep") 199)), (PySem.DictEntry.mk (PySem.PyData.keyHash P (PySem.Str.ofString "__doc__")) (PySem.Value.str (PySem.Str.ofString "__doc__") 166) PySem.Value.none), (PySem.DictEntry.mk (PySem.PyData.keyHash P (PySem.Str.ofString "__package__")) (PySem.Value.str (PySem.Str.ofString "__package__") 167) PySem.Value.none), (PySem.DictEntry.mk (PySem.PyData.keyHash P (PySem.Str.ofString "__loader__")) (PySem.Value.str (PySem.Str.ofString "__loader__") 168) (PySem.Value.builtin "__main__.__loader__#opaque")), (PySem.DictEntry.mk (PySem.PyData.keyHash P (PySem.Str.ofString "__spec__")) (PySem.Value.str (PySem.Str.ofString "__spec__") 169) PySem.Value.none), (PySem.DictEntry.mk (PySem.PyData.keyHash P (PySem.Str.ofString "__annotations__")) (PySem.Value.str (PySem.Str.ofString "__annotations__") 170) (PySem.Value.ref 6)), (PySem.DictEntry.mk (PySem.PyData.keyHash P (PySem.Str.ofString "__builtins__")) (PySem.Value.str (PySem.Str.ofString "__builtins__") 171) (PySem.Value.ref 4)), (PySem.DictEntry.mk (PySem.PyData.keyHash P (PySem.Str.ofString "__file__")) (PySem.Value.str (PySem.Str.ofString "__file__") 173) (PySem.Value.str (PySem.Str.ofString "/claim/cut.py") 172)), (PySem.DictEntry.mk (PySem.PyData.keyHash P (PySem.Str.ofString "__cached__")) (PySem.Value.str (PySem.Str.ofString "__cached__") 174) PySem.Value.none), (PySem.DictEntry.mk (PySem.PyData.keyHash P (PySem.Str.ofString "_generate_overlap_table")) (PySem.Value.str (PySem.Str.ofString "_generate_overlap_table") 198) (PySem.Value.ref 21)), (PySem.DictEntry.mk (PySem.PyData.keyHash P (PySem.Str.ofString "b1_set")) (PySem.Value.str (PySem.Str.ofString "b1_set") 260) (PySem.Value.ref 29)), (PySem.DictEntry.mk (PySem.PyData.keyHash P (PySem.Str.ofString "in_table_b1")) (PySem.Value.str (PySem.Str.ofString "in_table_b1") 267) (PySem.Value.ref 39))]) 12) (List.toArray []))
def ob14 (P : PySem.Params) : PySem.Obj := (PySem.Obj.mk PySem.Value.none none (PySem.Data.fields (List.toArray [(PySem.Value.int 2 0), (PySem.Value.int 0 0), (PySem.Value.ref 20), (PySem.Value.int 16 0), (PySem.Value.int 0 0), (PySem.Value.ref 38)])) (List.toArray []))
def ob15 (P : PySem.Params) : PySem.Obj := (PySem.Obj.mk (PySem.Value.type "tuple") none (PySem.Data.seq (List.toArray [(PySem.Value.str (PySem.Str.ofString "prefix") 192), (PySem.Value.str (PySem.Str.ofString "table") 193), (PySem.Value.str (PySem.Str.ofString "i") 194), (PySem.Value.str (PySem.Str.ofString "idx") 195)]) 0) (List.toArray []))
def ob16 (P : PySem.Params) : PySem.Obj := (PySem.Obj.mk PySem.Value.none none (PySem.Data.func (@PySem.FuncData.mk (PySem.Str.ofString "_generate_overlap_table") (PySem.Str.ofString "_generate_overlap_table") (fP (stm 1)) (PySem.FuncBody.stmts (fB (stm 1))) (fS (stm 1)) 0 [] PySem.Value.none PySem.Value.none PySem.Value.none PySem.Value.none none PySem.Value.none PySem.Value.none 0)) (List.toArray []))
def ob17 (P : PySem.Params) : PySem.Obj := (PySem.Obj.mk (PySem.Value.type "code") none (PySem.Data.fields (List.toArray [(PySem.Value.str (PySem.Str.ofString "_generate_overlap_table") 189), (PySem.Value.str (PySem.Str.ofString "_generate_overlap_table") 190), (PySem.Value.str (PySem.Str.ofString "/claim/cut.py") 191), (PySem.Value.int 2 0), (PySem.Value.int 1 0), (PySem.Value.int 0 0), (PySem.Value.int 0 0), (PySem.Value.int 3 0), (PySem.Value.ref 15), (PySem.Value.bool Bool.true), (PySem.Value.int 181 0), (PySem.Value.ref 16), PySem.Value.none, (PySem.Value.ref 17), (PySem.Value.ref 18), (PySem.Value.ref 19), (PySem.Value.int 196 0), (PySem.Value.int 2 0), (PySem.Value.str (PySem.Str.ofString "/claim/cut.py") 197)])) (List.toArray []))
def ob18 (P : PySem.Params) : PySem.Obj := (PySem.Obj.mk (PySem.Value.type "function") none (PySem.Data.func (@PySem.FuncData.mk (PySem.Str.ofString "_generate_overlap_table") (PySem.Str.ofString "_generate_overlap_table") (fP (stm 1)) (PySem.FuncBody.stmts (fB (stm 1))) (fS (stm 1)) 3 [] PySem.Value.none PySem.Value.none PySem.Value.none (PySem.Value.str (PySem.Str.ofString "cpy313.re._compiler") 187) none (PySem.Value.ref 20) PySem.Value.none 0)) (List.toArray []))
def ob19 (P : PySem.Params) : PySem.Obj := (PySem.Obj.mk (PySem.Value.type "list") none (PySem.Data.seq (List.toArray [(PySem.Value.int 173 201), (PySem.Value.int 847 202), (PySem.Value.int 6150 203), (PySem.Value.int 6155 204), (PySem.Value.int 6156 205), (PySem.Value.int 6157 206), (PySem.Value.int 8203 207), (PySem.Value.int 8204 208), (PySem.Value.int 8205 209), (PySem.Value.int 8288 210), (PySem.Value.int 65279 211)]) 0) (List.toArray []))
def ob20 (P : PySem.Params) : PySem.Obj := (PySem.Obj.mk (PySem.Value.type "range") none (PySem.Data.fields (List.toArray [(PySem.Value.int 65024 212), (PySem.Value.int 65040 213), (PySem.Value.int 1 214)])) (List.toArray []))
def ob21 (P : PySem.Params) : PySem.Obj := (PySem.Obj.mk (PySem.Value.type "list") none (PySem.Data.seq (List.toArray [(PySem.Value.int 65024 217), (PySem.Value.int 65025 218), (PySem.Value.int 65026 219), (PySem.Value.int 65027 220), (PySem.Value.int 65028 221), (PySem.Value.int 65029 222), (PySem.Value.int 65030 223), (PySem.Value.int 65031 224), (PySem.Value.int 65032 225), (PySem.Value.int 65033 226), (PySem.Value.int 65034 227), (PySem.Value.int 65035 228), (PySem.Value.int 65036 229), (PySem.Value.int 65037 230), (PySem.Value.int 65038 231), (PySem.Value.int 65039 232)]) 18) (List.toArray []))
def ob22 (P : PySem.Params) : PySem.Obj := (PySem.Obj.mk (PySem.Value.type "range_iterator") none (PySem.Data.fields (List.toArray [(PySem.Value.int 65040 0), (PySem.Value.int 0 0), (PySem.Value.int 1 0)])) (List.toArray []))
def ob23 (P : PySem.Params) : PySem.Obj := (PySem.Obj.mk (PySem.Value.type "StopIteration") none (PySem.Data.fields (List.toArray [(PySem.Value.ref 26), PySem.Value.none, PySem.Value.none, PySem.Value.none, (PySem.Value.bool Bool.false), PySem.Value.none])) (List.toArray []))
def ob24 (P : PySem.Params) : PySem.Obj := (PySem.Obj.mk (PySem.Value.type "list") none (PySem.Data.seq (List.toArray [(PySem.Value.int 173 201), (PySem.Value.int 847 202), (PySem.Value.int 6150 203), (PySem.Value.int 6155 204), (PySem.Value.int 6156 205), (PySem.Value.int 6157 206), (PySem.Value.int 8203 207), (PySem.Value.int 8204 208), (PySem.Value.int 8205 209), (PySem.Value.int 8288 210), (PySem.Value.int 65279 211), (PySem.Value.int 65024 217), (PySem.Value.int 65025 218), (PySem.Value.int 65026 219), (PySem.Value.int 65027 220), (PySem.Value.int 65028 221), (PySem.Value.int 65029 222), (PySem.Value.int 65030 223), (PySem.Value.int 65031 224), (PySem.Value.int 65032 225), (PySem.Value.int 65033 226), (PySem.Value.int 65034 227), (PySem.Value.int 65035 228), (PySem.Value.int 65036 229), (PySem.Value.int 65037 230), (PySem.Value.int 65038 231), (PySem.Value.int 65039 232)]) 0) (List.toArray []))
def ob25 (P : PySem.Params) : PySem.Obj := (PySem.Obj.mk (PySem.Value.type "set") none (PySem.Data.set (List.toArray [(65024, (PySem.Value.int 65024 217)), (65025, (PySem.Value.int 65025 218)), (65026, (PySem.Value.int 65026 219)), (65027, (PySem.Value.int 65027 220)), (65028, (PySem.Value.int 65028 221)), (65029, (PySem.Value.int 65029 222)), (6150, (PySem.Value.int 6150 203)), (65030, (PySem.Value.int 65030 223)), (65031, (PySem.Value.int 65031 224)), (65032, (PySem.Value.int 65032 225)), (65033, (PySem.Value.int 65033 226)), (6155, (PySem.Value.int 6155 204)), (6156, (PySem.Value.int 6156 205)), (6157, (PySem.Value.int 6157 206)), (8203, (PySem.Value.int 8203 207)), (8204, (PySem.Value.int 8204 208)), (8205, (PySem.Value.int 8205 209)), (65034, (PySem.Value.int 65034 227)), (65035, (PySem.Value.int 65035 228)), (65036, (PySem.Value.int 65036 229)), (65037, (PySem.Value.int 65037 230)), (65038, (PySem.Value.int 65038 231)), (65039, (PySem.Value.int 65039 232)), (173, (PySem.Value.int 173 201)), (847, (PySem.Value.int 847 202)), (8288, (PySem.Value.int 8288 210)), (65279, (PySem.Value.int 65279 211))]) 29 (PySem.SetTable.mk 127 (List.toArray [0, 1, 2, 3, 4, 5, 6, 7, 8, 9, 10, 11, 12, 13, 14, 15, 16, 17, 18, 19, 20, 21, 22, 45, 79, 96, 127]) (List.toArray []) 0 (Bool.not (PySem.Params.followText P "set-order")) 2 Bool.true)) (List.toArray []))
def ob26 (P : PySem.Params) : PySem.Obj := (PySem.Obj.mk (PySem.Value.type "list_iterator") none (PySem.Data.fields (List.toArray [PySem.Value.none, (PySem.Value.int 27 0)])) (List.toArray []))
def ob27 (P : PySem.Params) : PySem.Obj := (PySem.Obj.mk (PySem.Value.type "StopIteration") none (PySem.Data.fields (List.toArray [(PySem.Value.ref 31), PySem.Value.none, PySem.Value.none, PySem.Value.none, (PySem.Value.bool Bool.false), PySem.Value.none])) (List.toArray []))
def ob28 (P : PySem.Params) : PySem.Obj := (PySem.Obj.mk (PySem.Value.type "tuple") none (PySem.Data.seq (List.toArray [(PySem.Value.str (PySem.Str.ofString "code") 264)]) 0) (List.toArray []))
def ob29 (P : PySem.Params) : PySem.Obj := (PySem.Obj.mk PySem.Value.none none (PySem.Data.func (@PySem.FuncData.mk (PySem.Str.ofString "in_table_b1") (PySem.Str.ofString "in_table_b1") (fP (stm 4)) (PySem.FuncBody.stmts (fB (stm 4))) (fS (stm 4)) 0 [] PySem.Value.none PySem.Value.none PySem.Value.none PySem.Value.none none PySem.Value.none PySem.Value.none 0)) (List.toArray []))
def ob30 (P : PySem.Params) : PySem.Obj := (PySem.Obj.mk (PySem.Value.type "code") none (PySem.Data.fields (List.toArray [(PySem.Value.str (PySem.Str.ofString "in_table_b1") 261), (PySem.Value.str (PySem.Str.ofString "in_table_b1") 262), (PySem.Value.str (PySem.Str.ofString "/claim/cut.py") 263), (PySem.Value.int 16 0), (PySem.Value.int 1 0), (PySem.Value.int 0 0), (PySem.Value.int 0 0), (PySem.Value.int 3 0), (PySem.Value.ref 33), (PySem.Value.bool Bool.true), (PySem.Value.int 181 0), (PySem.Value.ref 34), PySem.Value.none, (PySem.Value.ref 35), (PySem.Value.ref 36), (PySem.Value.ref 37), (PySem.Value.int 265 0), (PySem.Value.int 16 0), (PySem.Value.str (PySem.Str.ofString "/claim/cut.py") 266)])) (List.toArray []))
def ob31 (P : PySem.Params) : PySem.Obj := (PySem.Obj.mk (PySem.Value.type "function") none (PySem.Data.func (@PySem.FuncData.mk (PySem.Str.ofString "in_table_b1") (PySem.Str.ofString "in_table_b1") (fP (stm 4)) (PySem.FuncBody.stmts (fB (stm 4))) (fS (stm 4)) 3 [] PySem.Value.none PySem.Value.none PySem.Value.none (PySem.Value.str (PySem.Str.ofString "cpy313.stringprep") 199) none (PySem.Value.ref 38) PySem.Value.none 0)) (List.toArray []))
def ob32 (P : PySem.Params) : PySem.Obj := (PySem.Obj.mk (PySem.Value.type "dict") none (PySem.Data.dict (List.toArray [(PySem.DictEntry.mk (PySem.PyData.keyHash P (PySem.Str.ofString "__name__")) (PySem.Value.str (PySem.Str.ofString "__name__") 165) (PySem.Value.str (PySem.Str.ofString "cpy313.stringprep") 199)), (PySem.DictEntry.mk (PySem.PyData.keyHash P (PySem.Str.ofString "__doc__")) (PySem.Value.str (PySem.Str.ofString "__doc__") 166) PySem.Value.none), (PySem.DictEntry.mk (PySem.PyData.keyHash P (PySem.Str.ofString "__package__")) (PySem.Value.str (PySem.Str.ofString "__package__") 167) PySem.Value.none), (PySem.DictEntry.mk (PySem.PyData.keyHash P (PySem.Str.ofString "__loader__")) (PySem.Value.str (PySem.Str.ofString "__loader__") 168) (PySem.Value.builtin "__main__.__loader__#opaque")), (PySem.DictEntry.mk (PySem.PyData.keyHash P (PySem.Str.ofString "__spec__")) (PySem.Value.str (PySem.Str.ofString "__spec__") 169) PySem.Value.none), (PySem.DictEntry.mk (PySem.PyData.keyHash P (PySem.Str.ofString "__annotations__")) (PySem.Value.str (PySem.Str.ofString "__annotations__") 170) (PySem.Value.ref 6)), (PySem.DictEntry.mk (PySem.PyData.keyHash P (PySem.Str.ofString "__builtins__")) (PySem.Value.str (PySem.Str.ofString "__builtins__") 171) (PySem.Value.ref 4)), (PySem.DictEntry.mk (PySem.PyData.keyHash P (PySem.Str.ofString "__file__")) (PySem.Value.str (PySem.Str.ofString "__file__") 173) (PySem.Value.str (PySem.Str.ofString "/claim/cut.py") 172)), (PySem.DictEntry.mk (PySem.PyData.keyHash P (PySem.Str.ofString "__cached__")) (PySem.Value.str (PySem.Str.ofString "__cached__") 174) PySem.Value.none), (PySem.DictEntry.mk (PySem.PyData.keyHash P (PySem.Str.ofString "_generate_overlap_table")) (PySem.Value.str (PySem.Str.ofString "_generate_overlap_table") 198) (PySem.Value.ref 21)), (PySem.DictEntry.mk (PySem.PyData.keyHash P (PySem.Str.ofString "b1_set")) (PySem.Value.str (PySem.Str.ofString "b1_set") 260) (PySem.Value.ref 29)), (PySem.DictEntry.mk (PySem.PyData.keyHash P (PySem.Str.ofString "in_table_b1")) (PySem.Value.str (PySem.Str.ofString "in_table_b1") 267) (PySem.Value.ref 39)), (PySem.DictEntry.mk (PySem.PyData.keyHash P (PySem.Str.ofString "b3_exceptions")) (PySem.Value.str (PySem.Str.ofString "b3_exceptions") 2218) (PySem.Value.ref 40))]) 13) (List.toArray []))
def ob33 (P : PySem.Params) : PySem.Obj := (PySem.Obj.mk (PySem.Value.type "dict") none (PySem.Data.dict (List.toArray [(PySem.DictEntry.mk (PySem.PyData.keyHash P (PySem.Str.ofString "__name__")) (PySem.Value.str (PySem.Str.ofString "__name__") 165) (PySem.Value.str (PySem.Str.ofString "law_re0100_02") 2227)), (PySem.DictEntry.mk (PySem.PyData.keyHash P (PySem.Str.ofString "__doc__")) (PySem.Value.str (PySem.Str.ofString "__doc__") 166) PySem.Value.none), (PySem.DictEntry.mk (PySem.PyData.keyHash P (PySem.Str.ofString "__package__")) (PySem.Value.str (PySem.Str.ofString "__package__") 167) PySem.Value.none), (PySem.DictEntry.mk (PySem.PyData.keyHash P (PySem.Str.ofString "__loader__")) (PySem.Value.str (PySem.Str.ofString "__loader__") 168) (PySem.Value.builtin "__main__.__loader__#opaque")), (PySem.DictEntry.mk (PySem.PyData.keyHash P (PySem.Str.ofString "__spec__")) (PySem.Value.str (PySem.Str.ofString "__spec__") 169) PySem.Value.none), (PySem.DictEntry.mk (PySem.PyData.keyHash P (PySem.Str.ofString "__annotations__")) (PySem.Value.str (PySem.Str.ofString "__annotations__") 170) (PySem.Value.ref 6)), (PySem.DictEntry.mk (PySem.PyData.keyHash P (PySem.Str.ofString "__builtins__")) (PySem.Value.str (PySem.Str.ofString "__builtins__") 171) (PySem.Value.ref 4)), (PySem.DictEntry.mk (PySem.PyData.keyHash P (PySem.Str.ofString "__file__")) (PySem.Value.str (PySem.Str.ofString "__file__") 173) (PySem.Value.str (PySem.Str.ofString "/claim/cut.py") 172)), (PySem.DictEntry.mk (PySem.PyData.keyHash P (PySem.Str.ofString "__cached__")) (PySem.Value.str (PySem.Str.ofString "__cached__") 174) PySem.Value.none), (PySem.DictEntry.mk (PySem.PyData.keyHash P (PySem.Str.ofString "_generate_overlap_table")) (PySem.Value.str (PySem.Str.ofString "_generate_overlap_table") 198) (PySem.Value.ref 21)), (PySem.DictEntry.mk (PySem.PyData.keyHash P (PySem.Str.ofString "b1_set")) (PySem.Value.str (PySem.Str.ofString "b1_set") 260) (PySem.Value.ref 29)), (PySem.DictEntry.mk (PySem.PyData.keyHash P (PySem.Str.ofString "in_table_b1")) (PySem.Value.str (PySem.Str.ofString "in_table_b1") 267) (PySem.Value.ref 39)), (PySem.DictEntry.mk (PySem.PyData.keyHash P (PySem.Str.ofString "b3_exceptions")) (PySem.Value.str (PySem.Str.ofString "b3_exceptions") 2218) (PySem.Value.ref 40)), (PySem.DictEntry.mk (PySem.PyData.keyHash P (PySem.Str.ofString "map_table_b3")) (PySem.Value.str (PySem.Str.ofString "map_table_b3") 2226) (PySem.Value.ref 85)), (PySem.DictEntry.mk (PySem.PyData.keyHash P (PySem.Str.ofString "_law_seals")) (PySem.Value.str (PySem.Str.ofString "_law_seals") 2241) (PySem.Value.ref 92)), (PySem.DictEntry.mk (PySem.PyData.keyHash P (PySem.Str.ofString "_law_least")) (PySem.Value.str (PySem.Str.ofString "_law_least") 2247) (PySem.Value.ref 97)), (PySem.DictEntry.mk (PySem.PyData.keyHash P (PySem.Str.ofString "_law_folded")) (PySem.Value.str (PySem.Str.ofString "_law_folded") 2253) (PySem.Value.ref 102)), (PySem.DictEntry.mk (PySem.PyData.keyHash P (PySem.Str.ofString "law")) (PySem.Value.str (PySem.Str.ofString "law") 2259) (PySem.Value.ref 107))]) 18) (List.toArray []))
def ob34 (P : PySem.Params) : PySem.Obj := (PySem.Obj.mk PySem.Value.none none (PySem.Data.fields (List.toArray [(PySem.Value.int 2 0), (PySem.Value.int 0 0), (PySem.Value.ref 20), (PySem.Value.int 16 0), (PySem.Value.int 0 0), (PySem.Value.ref 38), (PySem.Value.int 19 0), (PySem.Value.int 0 0), (PySem.Value.ref 84), (PySem.Value.int 25 0), (PySem.Value.int 0 0), (PySem.Value.ref 91), (PySem.Value.int 36 0), (PySem.Value.int 0 0), (PySem.Value.ref 96), (PySem.Value.int 42 0), (PySem.Value.int 0 0), (PySem.Value.ref 101), (PySem.Value.int 44 0), (PySem.Value.int 0 0), (PySem.Value.ref 106)])) (List.toArray []))
def ob35 (P : PySem.Params) : PySem.Obj := (PySem.Obj.mk (PySem.Value.type "tuple") none (PySem.Data.seq (List.toArray [(PySem.Value.str (PySem.Str.ofString "code") 2222), (PySem.Value.str (PySem.Str.ofString "r") 2223)]) 0) (List.toArray []))
def ob36 (P : PySem.Params) : PySem.Obj := (PySem.Obj.mk PySem.Value.none none (PySem.Data.func (@PySem.FuncData.mk (PySem.Str.ofString "map_table_b3") (PySem.Str.ofString "map_table_b3") (fP (stm 6)) (PySem.FuncBody.stmts (fB (stm 6))) (fS (stm 6)) 0 [] PySem.Value.none PySem.Value.none PySem.Value.none PySem.Value.none none PySem.Value.none PySem.Value.none 0)) (List.toArray []))
def ob37 (P : PySem.Params) : PySem.Obj := (PySem.Obj.mk (PySem.Value.type "code") none (PySem.Data.fields (List.toArray [(PySem.Value.str (PySem.Str.ofString "map_table_b3") 2219), (PySem.Value.str (PySem.Str.ofString "map_table_b3") 2220), (PySem.Value.str (PySem.Str.ofString "/claim/cut.py") 2221), (PySem.Value.int 19 0), (PySem.Value.int 1 0), (PySem.Value.int 0 0), (PySem.Value.int 0 0), (PySem.Value.int 3 0), (PySem.Value.ref 79), (PySem.Value.bool Bool.true), (PySem.Value.int 181 0), (PySem.Value.ref 80), PySem.Value.none, (PySem.Value.ref 81), (PySem.Value.ref 82), (PySem.Value.ref 83), (PySem.Value.int 2224 0), (PySem.Value.int 19 0), (PySem.Value.str (PySem.Str.ofString "/claim/cut.py") 2225)])) (List.toArray []))
def ob38 (P : PySem.Params) : PySem.Obj := (PySem.Obj.mk (PySem.Value.type "function") none (PySem.Data.func (@PySem.FuncData.mk (PySem.Str.ofString "map_table_b3") (PySem.Str.ofString "map_table_b3") (fP (stm 6)) (PySem.FuncBody.stmts (fB (stm 6))) (fS (stm 6)) 3 [] PySem.Value.none PySem.Value.none PySem.Value.none (PySem.Value.str (PySem.Str.ofString "cpy313.stringprep") 199) none (PySem.Value.ref 84) PySem.Value.none 0)) (List.toArray []))
def ob39 (P : PySem.Params) : PySem.Obj := (PySem.Obj.mk (PySem.Value.type "tuple") none (PySem.Data.seq (List.toArray [(PySem.Value.str (PySem.Str.ofString "row") 2232), (PySem.Value.str (PySem.Str.ofString "table") 2233), (PySem.Value.str (PySem.Str.ofString "seals") 2234), (PySem.Value.str (PySem.Str.ofString "last") 2235), (PySem.Value.str (PySem.Str.ofString "size") 2236), (PySem.Value.str (PySem.Str.ofString "border") 2237), (PySem.Value.str (PySem.Str.ofString "seal") 2238)]) 0) (List.toArray []))
def ob40 (P : PySem.Params) : PySem.Obj := (PySem.Obj.mk PySem.Value.none none (PySem.Data.func (@PySem.FuncData.mk (PySem.Str.ofString "_law_seals") (PySem.Str.ofString "_law_seals") (fP (stm 8)) (PySem.FuncBody.stmts (fB (stm 8))) (fS (stm 8)) 0 [] PySem.Value.none PySem.Value.none PySem.Value.none PySem.Value.none none PySem.Value.none PySem.Value.none 0)) (List.toArray []))
def ob41 (P : PySem.Params) : PySem.Obj := (PySem.Obj.mk (PySem.Value.type "code") none (PySem.Data.fields (List.toArray [(PySem.Value.str (PySem.Str.ofString "_law_seals") 2229), (PySem.Value.str (PySem.Str.ofString "_law_seals") 2230), (PySem.Value.str (PySem.Str.ofString "/claim/cut.py") 2231), (PySem.Value.int 25 0), (PySem.Value.int 1 0), (PySem.Value.int 0 0), (PySem.Value.int 0 0), (PySem.Value.int 3 0), (PySem.Value.ref 86), (PySem.Value.bool Bool.true), (PySem.Value.int 181 0), (PySem.Value.ref 87), PySem.Value.none, (PySem.Value.ref 88), (PySem.Value.ref 89), (PySem.Value.ref 90), (PySem.Value.int 2239 0), (PySem.Value.int 25 0), (PySem.Value.str (PySem.Str.ofString "/claim/cut.py") 2240)])) (List.toArray []))
def ob42 (P : PySem.Params) : PySem.Obj := (PySem.Obj.mk (PySem.Value.type "function") none (PySem.Data.func (@PySem.FuncData.mk (PySem.Str.ofString "_law_seals") (PySem.Str.ofString "_law_seals") (fP (stm 8)) (PySem.FuncBody.stmts (fB (stm 8))) (fS (stm 8)) 3 [] PySem.Value.none PySem.Value.none PySem.Value.none (PySem.Value.str (PySem.Str.ofString "law_re0100_02") 2227) none (PySem.Value.ref 91) PySem.Value.none 0)) (List.toArray []))
def ob43 (P : PySem.Params) : PySem.Obj := (PySem.Obj.mk PySem.Value.none none (PySem.Data.func (@PySem.FuncData.mk (PySem.Str.ofString "_law_least") (PySem.Str.ofString "_law_least") (fP (stm 9)) (PySem.FuncBody.stmts (fB (stm 9))) (fS (stm 9)) 0 [] PySem.Value.none PySem.Value.none PySem.Value.none PySem.Value.none none PySem.Value.none PySem.Value.none 0)) (List.toArray []))
def ob44 (P : PySem.Params) : PySem.Obj := (PySem.Obj.mk (PySem.Value.type "code") none (PySem.Data.fields (List.toArray [(PySem.Value.str (PySem.Str.ofString "_law_least") 2242), (PySem.Value.str (PySem.Str.ofString "_law_least") 2243), (PySem.Value.str (PySem.Str.ofString "/claim/cut.py") 2244), (PySem.Value.int 36 0), (PySem.Value.int 1 0), (PySem.Value.int 0 0), (PySem.Value.int 0 0), (PySem.Value.int 3 0), (PySem.Value.ref 93), (PySem.Value.bool Bool.true), (PySem.Value.int 181 0), (PySem.Value.ref 94), PySem.Value.none, PySem.Value.none, PySem.Value.none, (PySem.Value.ref 95), (PySem.Value.int 2245 0), (PySem.Value.int 36 0), (PySem.Value.str (PySem.Str.ofString "/claim/cut.py") 2246)])) (List.toArray []))
def ob45 (P : PySem.Params) : PySem.Obj := (PySem.Obj.mk (PySem.Value.type "function") none (PySem.Data.func (@PySem.FuncData.mk (PySem.Str.ofString "_law_least") (PySem.Str.ofString "_law_least") (fP (stm 9)) (PySem.FuncBody.stmts (fB (stm 9))) (fS (stm 9)) 3 [] PySem.Value.none PySem.Value.none PySem.Value.none (PySem.Value.str (PySem.Str.ofString "law_re0100_02") 2227) none (PySem.Value.ref 96) PySem.Value.none 0)) (List.toArray []))
def ob46 (P : PySem.Params) : PySem.Obj := (PySem.Obj.mk PySem.Value.none none (PySem.Data.func (@PySem.FuncData.mk (PySem.Str.ofString "_law_folded") (PySem.Str.ofString "_law_folded") (fP (stm 10)) (PySem.FuncBody.stmts (fB (stm 10))) (fS (stm 10)) 0 [] PySem.Value.none PySem.Value.none PySem.Value.none PySem.Value.none none PySem.Value.none PySem.Value.none 0)) (List.toArray []))
def ob47 (P : PySem.Params) : PySem.Obj := (PySem.Obj.mk (PySem.Value.type "code") none (PySem.Data.fields (List.toArray [(PySem.Value.str (PySem.Str.ofString "_law_folded") 2248), (PySem.Value.str (PySem.Str.ofString "_law_folded") 2249), (PySem.Value.str (PySem.Str.ofString "/claim/cut.py") 2250), (PySem.Value.int 42 0), (PySem.Value.int 1 0), (PySem.Value.int 0 0), (PySem.Value.int 0 0), (PySem.Value.int 3 0), (PySem.Value.ref 98), (PySem.Value.bool Bool.true), (PySem.Value.int 181 0), (PySem.Value.ref 99), PySem.Value.none, PySem.Value.none, PySem.Value.none, (PySem.Value.ref 100), (PySem.Value.int 2251 0), (PySem.Value.int 42 0), (PySem.Value.str (PySem.Str.ofString "/claim/cut.py") 2252)])) (List.toArray []))
def ob48 (P : PySem.Params) : PySem.Obj := (PySem.Obj.mk (PySem.Value.type "function") none (PySem.Data.func (@PySem.FuncData.mk (PySem.Str.ofString "_law_folded") (PySem.Str.ofString "_law_folded") (fP (stm 10)) (PySem.FuncBody.stmts (fB (stm 10))) (fS (stm 10)) 3 [] PySem.Value.none PySem.Value.none PySem.Value.none (PySem.Value.str (PySem.Str.ofString "law_re0100_02") 2227) none (PySem.Value.ref 101) PySem.Value.none 0)) (List.toArray []))
def ob49 (P : PySem.Params) : PySem.Obj := (PySem.Obj.mk PySem.Value.none none (PySem.Data.func (@PySem.FuncData.mk (PySem.Str.ofString "law") (PySem.Str.ofString "law") (fP (stm 11)) (PySem.FuncBody.stmts (fB (stm 11))) (fS (stm 11)) 0 [] PySem.Value.none PySem.Value.none PySem.Value.none PySem.Value.none none PySem.Value.none PySem.Value.none 0)) (List.toArray []))
def ob50 (P : PySem.Params) : PySem.Obj := (PySem.Obj.mk (PySem.Value.type "code") none (PySem.Data.fields (List.toArray [(PySem.Value.str (PySem.Str.ofString "law") 2254), (PySem.Value.str (PySem.Str.ofString "law") 2255), (PySem.Value.str (PySem.Str.ofString "/claim/cut.py") 2256), (PySem.Value.int 44 0), (PySem.Value.int 1 0), (PySem.Value.int 0 0), (PySem.Value.int 0 0), (PySem.Value.int 3 0), (PySem.Value.ref 103), (PySem.Value.bool Bool.true), (PySem.Value.int 181 0), (PySem.Value.ref 104), PySem.Value.none, PySem.Value.none, PySem.Value.none, (PySem.Value.ref 105), (PySem.Value.int 2257 0), (PySem.Value.int 44 0), (PySem.Value.str (PySem.Str.ofString "/claim/cut.py") 2258)])) (List.toArray []))
def ob51 (P : PySem.Params) : PySem.Obj := (PySem.Obj.mk (PySem.Value.type "function") none (PySem.Data.func (@PySem.FuncData.mk (PySem.Str.ofString "law") (PySem.Str.ofString "law") (fP (stm 11)) (PySem.FuncBody.stmts (fB (stm 11))) (fS (stm 11)) 3 [] PySem.Value.none PySem.Value.none PySem.Value.none (PySem.Value.str (PySem.Str.ofString "law_re0100_02") 2227) none (PySem.Value.ref 106) PySem.Value.none 0)) (List.toArray []))
def heapP (P : PySem.Params) : PySem.Heap := hp [ob0 P, ob1 P, ob2 P, ob3 P, ob4 P, ob5 P, ob6 P, ob7 P, ob8 P, ob9 P, ob10 P, ob7 P, ob8 P, ob11 P, ob12 P] {}
def objsA (P : PySem.Params) : List PySem.Obj := [ob0 P, ob1 P, ob2 P, ob13 P, ob4 P, ob5 P, ob6 P, ob7 P, ob8 P, ob9 P, ob10 P, ob7 P, ob14 P, ob11 P, ob12 P, ob7 P, ob8 P, ob15 P, ob7 P, ob16 P, ob17 P, ob18 P, ob19 P, ob20 P, ob21 P, ob22 P, ob7 P, ob23 P, ob24 P, ob25 P, ob26 P, ob7 P, ob27 P, ob7 P, ob8 P, ob28 P, ob7 P, ob29 P, ob30 P, ob31 P]
def objsD (P : PySem.Params) : List PySem.Obj := [ob0 P, ob1 P, ob2 P, ob32 P, ob4 P, ob5 P, ob6 P, ob7 P, ob8 P, ob9 P, ob10 P, ob7 P, ob14 P, ob11 P, ob12 P, ob7 P, ob8 P, ob15 P, ob7 P, ob16 P, ob17 P, ob18 P, ob19 P, ob20 P, ob21 P, ob22 P, ob7 P, ob23 P, ob24 P, ob25 P, ob26 P, ob7 P, ob27 P, ob7 P, ob8 P, ob28 P, ob7 P, ob29 P, ob30 P, ob31 P]
def objsC (P : PySem.Params) : List PySem.Obj := [ob0 P, ob1 P, ob2 P, ob33 P, ob4 P, ob5 P, ob6 P, ob7 P, ob8 P, ob9 P, ob10 P, ob7 P, ob34 P, ob11 P, ob12 P, ob7 P, ob8 P, ob15 P, ob7 P, ob16 P, ob17 P, ob18 P, ob19 P, ob20 P, ob21 P, ob22 P, ob7 P, ob23 P, ob24 P, ob25 P, ob26 P, ob7 P, ob27 P, ob7 P, ob8 P, ob28 P, ob7 P, ob29 P, ob30 P, ob31 P]
def objsC2 (P : PySem.Params) : List PySem.Obj := [ob7 P, ob8 P, ob35 P, ob7 P, ob36 P, ob37 P, ob38 P, ob7 P, ob8 P, ob39 P, ob7 P, ob40 P, ob41 P, ob42 P, ob7 P, ob8 P, ob43 P, ob44 P, ob45 P, ob7 P, ob8 P, ob46 P, ob47 P, ob48 P, ob7 P, ob8 P, ob49 P, ob50 P, ob51 P]
abbrev pg : PySem.Program := PySem.Challenge.pw_re0100_02
def env0 : Env := { scope := pg.main.scope, locals := mainNs, globals := mainNs, cells := [], code := .ref 13, frame := some 14 }
def c0 : Code := .body (behindTheImports pg) env0
def q0 : Pos := ⟨0, 0, 0, 0⟩
def ann0 : Option Value := some (.ref 6)
def sP (w : World) (os : OsState) : Shared := ⟨heapP w.params, #[], boot_drawn, 187, os⟩
def sA (w : World) (os : OsState) : Shared := ⟨hp (objsA w.params) {}, #[], boot_drawn, 268, os⟩
def stsA : List Stmt := pg.main.body.take 5
theorem tpre (w : World) (os : OsState) : topGo treeTable pg w 11 ann0 12 ⟨boot_heap w.params, #[], boot_drawn, boot_toks, os⟩ (topStub pg) = some (sP w os, ⟨denote treeTable c0, c0, q0, [topFrame q0]⟩) := by
  rw [PySem.W.Fast.te15667345088766844465, PySem.W.Fast.te11892475500146522536, PySem.W.Fast.te14364793385576792824]
  kernel_rfl
theorem tblock (w : World) (os : OsState) : segRun treeTable pg w 11 ann0 1 1 (sP w os) (blockOf (behindTheImports pg) env0 c0 q0 [topFrame q0]) = some (.next, sP w os, c0, q0) := by
  rw [PySem.W.Fast.te14374325043358763698, PySem.W.Fast.te14364793385576792824]
  kernel_rfl
def tAP (w : World) : Prop := (fun os => segRun treeTable pg w 11 ann0 1 1078 (sP w os) (piecesOf stsA env0 c0 q0 [topFrame q0])) = (fun os => some (.next, sA w os, c0, ⟨16, 0, 17, 30⟩))
theorem tA_ff (w : World) : tAP ((w.withFollow "special-get-raises" false).withFollow "set-order" false) := by
  unfold tAP piecesOf
  rw [PySem.W.Fast.te14374325043358763698, PySem.W.Fast.te12563942051412417395, PySem.W.Fast.te14364793385576792824]
  kernel_rfl
theorem tA_ft (w : World) : tAP ((w.withFollow "special-get-raises" true).withFollow "set-order" false) := by
  unfold tAP piecesOf
  rw [PySem.W.Fast.te14374325043358763698, PySem.W.Fast.te12563942051412417395, PySem.W.Fast.te14364793385576792824]
  kernel_rfl
theorem tA_tf (w : World) : tAP ((w.withFollow "special-get-raises" false).withFollow "set-order" true) := by
  unfold tAP piecesOf
  rw [PySem.W.Fast.te14374325043358763698, PySem.W.Fast.te12563942051412417395, PySem.W.Fast.te14364793385576792824]
  kernel_rfl
theorem tA_tt (w : World) : tAP ((w.withFollow "special-get-raises" true).withFollow "set-order" true) := by
  unfold tAP piecesOf
  rw [PySem.W.Fast.te14374325043358763698, PySem.W.Fast.te12563942051412417395, PySem.W.Fast.te14364793385576792824]
  kernel_rfl
theorem tA : ∀ (w : World), (fun os => segRun treeTable pg w 11 ann0 1 1078 (sP w os) (piecesOf stsA env0 c0 q0 [topFrame q0])) = (fun os => some (.next, sA w os, c0, ⟨16, 0, 17, 30⟩)) :=
  byRow2 "set-order" (P := tAP) (byRow2 "special-get-raises" (P := fun w => tAP (w.withFollow "set-order" false)) tA_ff tA_ft) (byRow2 "special-get-raises" (P := fun w => tAP (w.withFollow "set-order" true)) tA_tf tA_tt)
def dKs : PySem.Stmt → List (Option PySem.Expr) | .Assign _ (.Dict ks _ _) _ => ks | _ => []
def dVs : PySem.Stmt → List PySem.Expr | .Assign _ (.Dict _ vs _) _ => vs | _ => []
def dPos : PySem.Stmt → Pos | .Assign _ (.Dict _ _ p) _ => p | _ => default
def aPos : PySem.Stmt → Pos | .Assign _ _ p => p | _ => default
def nPos : PySem.Stmt → Pos | .Assign [.Name _ p] _ _ => p | _ => default
def tbl : List (Int × Str) := tblOf (dKs (stm 5)) (dVs (stm 5))
def stD : PySem.Stmt := .Assign [.Name (Str.ofString "b3_exceptions") (nPos (stm 5))] (.Dict (dKs (stm 5)) (dVs (stm 5)) (dPos (stm 5))) (aPos (stm 5))
theorem tbl_const : allConst (dKs (stm 5)) (dVs (stm 5)) = true := by kernel_rfl
theorem tbl_length : tbl.length = 650 := by kernel_rfl
theorem tbl_rise : riseB 0 tbl = true := by kernel_rfl
def sD (w : World) (os : OsState) (X : List Obj) : Shared := ⟨hp (objsD w.params ++ X) {}, #[], boot_drawn, 2219, os⟩
theorem tStore (w : World) (os : OsState) (x1 x2 x3 x4 x5 x6 x7 x8 x9 x10 x11 x12 x13 x14 x15 x16 x17 x18 x19 x20 x21 x22 x23 x24 x25 x26 x27 x28 x29 x30 x31 x32 x33 x34 x35 x36 x37 x38 x39 : Obj) (pos' : Pos) : segRun treeTable pg w 11 ann0 1 30 ⟨hp (objsA w.params ++ (x1 :: x2 :: x3 :: x4 :: x5 :: x6 :: x7 :: x8 :: x9 :: x10 :: x11 :: x12 :: x13 :: x14 :: x15 :: x16 :: x17 :: x18 :: x19 :: x20 :: x21 :: x22 :: x23 :: x24 :: x25 :: x26 :: x27 :: x28 :: x29 :: x30 :: x31 :: x32 :: x33 :: x34 :: x35 :: x36 :: x37 :: x38 :: x39 :: [])) {}, #[], boot_drawn, 2218, os⟩
      ⟨((do assignStores env0 (.ref 40) (← swappedStores [.Name (Str.ofString "b3_exceptions") (nPos (stm 5))] (.Dict (dKs (stm 5)) (dVs (stm 5)) (dPos (stm 5))) env0) ((assignEach [.Name (Str.ofString "b3_exceptions") (nPos (stm 5))] env0).map (·.2)) : Sem Flow)).wrap (fun f => match f with | .next => (execs [] env0).wrap doneF deadEnd id id | f => doneF f) deadEnd id id, c0, pos', [topFrame q0]⟩ = some (.next, sD w os (x1 :: x2 :: x3 :: x4 :: x5 :: x6 :: x7 :: x8 :: x9 :: x10 :: x11 :: x12 :: x13 :: x14 :: x15 :: x16 :: x17 :: x18 :: x19 :: x20 :: x21 :: x22 :: x23 :: x24 :: x25 :: x26 :: x27 :: x28 :: x29 :: x30 :: x31 :: x32 :: x33 :: x34 :: x35 :: x36 :: x37 :: x38 :: x39 :: []), c0, ⟨18, 0, 18, 13⟩) := by
  rw [PySem.W.Fast.te14374325043358763698, PySem.W.Fast.te14364793385576792824]
  kernel_rfl
def stsC : List Stmt := pg.main.body.drop 6
def sC (w : World) (os : OsState) (X : List Obj) : Shared := ⟨hp (objsC w.params ++ X ++ objsC2 w.params) {}, #[], boot_drawn, 2260, os⟩
theorem tC (w : World) (os : OsState) (x1 x2 x3 x4 x5 x6 x7 x8 x9 x10 x11 x12 x13 x14 x15 x16 x17 x18 x19 x20 x21 x22 x23 x24 x25 x26 x27 x28 x29 x30 x31 x32 x33 x34 x35 x36 x37 x38 x39 : Obj) : segRun treeTable pg w 11 ann0 1 153 (sD w os (x1 :: x2 :: x3 :: x4 :: x5 :: x6 :: x7 :: x8 :: x9 :: x10 :: x11 :: x12 :: x13 :: x14 :: x15 :: x16 :: x17 :: x18 :: x19 :: x20 :: x21 :: x22 :: x23 :: x24 :: x25 :: x26 :: x27 :: x28 :: x29 :: x30 :: x31 :: x32 :: x33 :: x34 :: x35 :: x36 :: x37 :: x38 :: x39 :: [])) (piecesOf stsC env0 c0 ⟨18, 0, 18, 13⟩ [topFrame q0]) = some (.next, sC w os (x1 :: x2 :: x3 :: x4 :: x5 :: x6 :: x7 :: x8 :: x9 :: x10 :: x11 :: x12 :: x13 :: x14 :: x15 :: x16 :: x17 :: x18 :: x19 :: x20 :: x21 :: x22 :: x23 :: x24 :: x25 :: x26 :: x27 :: x28 :: x29 :: x30 :: x31 :: x32 :: x33 :: x34 :: x35 :: x36 :: x37 :: x38 :: x39 :: []), c0, ⟨44, 0, 65, 97⟩) := by
  unfold piecesOf
  rw [PySem.W.Fast.te14374325043358763698, PySem.W.Fast.te12563942051412417395, PySem.W.Fast.te14364793385576792824]
  kernel_rfl
theorem tfin (w : World) (os : OsState) (X : List Obj) : topRun treeTable pg w 11 ann0 2 (sC w os X) ⟨doneF .next, c0, ⟨44, 0, 65, 97⟩, [topFrame q0]⟩ = some (sC w os X) := by
  rfl
theorem consOf {n : Nat} {X : List Obj} (h : X.length = n + 1) : ∃ x Y, X = x :: Y ∧ Y.length = n := by
  cases X with
  | nil => cases h
  | cons x Y => exact ⟨x, Y, rfl, Nat.succ.inj h⟩
theorem all39 {Q : List Obj → Prop} (h : ∀ (x1 x2 x3 x4 x5 x6 x7 x8 x9 x10 x11 x12 x13 x14 x15 x16 x17 x18 x19 x20 x21 x22 x23 x24 x25 x26 x27 x28 x29 x30 x31 x32 x33 x34 x35 x36 x37 x38 x39 : Obj), Q (x1 :: x2 :: x3 :: x4 :: x5 :: x6 :: x7 :: x8 :: x9 :: x10 :: x11 :: x12 :: x13 :: x14 :: x15 :: x16 :: x17 :: x18 :: x19 :: x20 :: x21 :: x22 :: x23 :: x24 :: x25 :: x26 :: x27 :: x28 :: x29 :: x30 :: x31 :: x32 :: x33 :: x34 :: x35 :: x36 :: x37 :: x38 :: x39 :: [])) : ∀ X : List Obj, X.length = 39 → Q X := by
  intro X hX
  obtain ⟨x1, X1, rfl, h1⟩ := consOf hX
  obtain ⟨x2, X2, rfl, h2⟩ := consOf h1
  obtain ⟨x3, X3, rfl, h3⟩ := consOf h2
  obtain ⟨x4, X4, rfl, h4⟩ := consOf h3
  obtain ⟨x5, X5, rfl, h5⟩ := consOf h4
  obtain ⟨x6, X6, rfl, h6⟩ := consOf h5
  obtain ⟨x7, X7, rfl, h7⟩ := consOf h6
  obtain ⟨x8, X8, rfl, h8⟩ := consOf h7
  obtain ⟨x9, X9, rfl, h9⟩ := consOf h8
  obtain ⟨x10, X10, rfl, h10⟩ := consOf h9
  obtain ⟨x11, X11, rfl, h11⟩ := consOf h10
  obtain ⟨x12, X12, rfl, h12⟩ := consOf h11
  obtain ⟨x13, X13, rfl, h13⟩ := consOf h12
  obtain ⟨x14, X14, rfl, h14⟩ := consOf h13
  obtain ⟨x15, X15, rfl, h15⟩ := consOf h14
  obtain ⟨x16, X16, rfl, h16⟩ := consOf h15
  obtain ⟨x17, X17, rfl, h17⟩ := consOf h16
  obtain ⟨x18, X18, rfl, h18⟩ := consOf h17
  obtain ⟨x19, X19, rfl, h19⟩ := consOf h18
  obtain ⟨x20, X20, rfl, h20⟩ := consOf h19
  obtain ⟨x21, X21, rfl, h21⟩ := consOf h20
  obtain ⟨x22, X22, rfl, h22⟩ := consOf h21
  obtain ⟨x23, X23, rfl, h23⟩ := consOf h22
  obtain ⟨x24, X24, rfl, h24⟩ := consOf h23
  obtain ⟨x25, X25, rfl, h25⟩ := consOf h24
  obtain ⟨x26, X26, rfl, h26⟩ := consOf h25
  obtain ⟨x27, X27, rfl, h27⟩ := consOf h26
  obtain ⟨x28, X28, rfl, h28⟩ := consOf h27
  obtain ⟨x29, X29, rfl, h29⟩ := consOf h28
  obtain ⟨x30, X30, rfl, h30⟩ := consOf h29
  obtain ⟨x31, X31, rfl, h31⟩ := consOf h30
  obtain ⟨x32, X32, rfl, h32⟩ := consOf h31
  obtain ⟨x33, X33, rfl, h33⟩ := consOf h32
  obtain ⟨x34, X34, rfl, h34⟩ := consOf h33
  obtain ⟨x35, X35, rfl, h35⟩ := consOf h34
  obtain ⟨x36, X36, rfl, h36⟩ := consOf h35
  obtain ⟨x37, X37, rfl, h37⟩ := consOf h36
  obtain ⟨x38, X38, rfl, h38⟩ := consOf h37
  obtain ⟨x39, X39, rfl, h39⟩ := consOf h38
  obtain rfl := List.eq_nil_of_length_eq_zero h39
  exact h x1 x2 x3 x4 x5 x6 x7 x8 x9 x10 x11 x12 x13 x14 x15 x16 x17 x18 x19 x20 x21 x22 x23 x24 x25 x26 x27 x28 x29 x30 x31 x32 x33 x34 x35 x36 x37 x38 x39
def XD : List Obj := dictObjs 268 37 tbl
theorem XD_length : XD.length = 39 := by
  show (_ :: (subsL _ _ ++ [_])).length = 39
  rw [List.length_cons, List.length_append, subsL_length, chunks_length]; rfl
theorem body_eq : behindTheImports pg = stsA ++ ([stD] ++ (stsC ++ [])) := by kernel_rfl
def steps : Nat := 12 + (1 + (1078 + ((30 + (600 + 330 * 37) + 1 + 1) + (153 + 2))))
theorem trun (w : World) (os : OsState) : topRun treeTable pg w 11 ann0 steps ⟨boot_heap w.params, #[], boot_drawn, boot_toks, os⟩ (topStub pg) = some (sC w os XD) := by
  refine go_top (tpre w os) ?_
  refine piece_block (tblock w os) ?_
  rw [body_eq]
  refine piece_app (congrFun (tA w) os) ?_
  have hD : segRun treeTable pg w 11 ann0 1 (30 + (600 + 330 * 37) + 1 + 1) (sA w os) (piecesOf [stD] env0 c0 ⟨16, 0, 17, 30⟩ [topFrame q0]) = some (.next, sD w os XD, c0, ⟨18, 0, 18, 13⟩) := by
    refine assign_dict (l := objsA w.params) (n := 37) (life := {}) (s := sA w os) (by show 11 ≤ 40; decide) (by show 1 < 11; decide) rfl tbl_const (by show _ < tbl.length; rw [tbl_length]; decide) (by show tbl.length ≤ _; rw [tbl_length]; decide) tbl_rise (by show tbl.length < _; rw [tbl_length]; decide) fun pos' => ?_
    have ht : (sA w os).toks + 3 * (tblOf (dKs (stm 5)) (dVs (stm 5))).length = 2218 := by show 268 + 3 * tbl.length = 2218; rw [tbl_length]
    rw [ht]
    exact all39 (Q := fun X => segRun treeTable pg w 11 ann0 1 30 ⟨hp (objsA w.params ++ X) {}, #[], boot_drawn, 2218, os⟩ _ = some (.next, sD w os X, c0, ⟨18, 0, 18, 13⟩)) (fun x1 x2 x3 x4 x5 x6 x7 x8 x9 x10 x11 x12 x13 x14 x15 x16 x17 x18 x19 x20 x21 x22 x23 x24 x25 x26 x27 x28 x29 x30 x31 x32 x33 x34 x35 x36 x37 x38 x39 => tStore w os x1 x2 x3 x4 x5 x6 x7 x8 x9 x10 x11 x12 x13 x14 x15 x16 x17 x18 x19 x20 x21 x22 x23 x24 x25 x26 x27 x28 x29 x30 x31 x32 x33 x34 x35 x36 x37 x38 x39 pos') XD XD_length
  refine piece_app hD ?_
  refine piece_app (all39 (Q := fun X => segRun treeTable pg w 11 ann0 1 153 (sD w os X) (piecesOf stsC env0 c0 ⟨18, 0, 18, 13⟩ [topFrame q0]) = some (.next, sC w os X, c0, ⟨44, 0, 65, 97⟩)) (tC w os) XD XD_length) ?_
  exact piece_nil (tfin w os XD)
end
end Mine
end
section
set_option maxRecDepth 100000
set_option linter.unusedVariables false
set_option Elab.async false
namespace Mine
open PySem PySem.W PySem.Calls PyProof.Rows
noncomputable section
def dMain : Obj := dObj (entL 268 (tbl.take 17 ++ (chunks 37 (tbl.drop 17)).flatten) ++ entS (268 + 3 * (tbl.take 17 ++ (chunks 37 (tbl.drop 17)).flatten).length) (tbl.drop (17 * 38))) tbl.length
def KT (P : Params) : Frag := (nat_lit 2, ob2 P) :: (nat_lit 3, ob33 P) :: (nat_lit 6, ob6 P) :: (nat_lit 15, ob7 P) :: (nat_lit 17, ob15 P) :: (nat_lit 18, ob7 P) :: (nat_lit 20, ob17 P) :: (nat_lit 21, ob18 P) :: (nat_lit 29, ob25 P) :: (nat_lit 33, ob7 P) :: (nat_lit 35, ob28 P) :: (nat_lit 36, ob7 P) :: (nat_lit 38, ob30 P) :: (nat_lit 39, ob31 P) :: (nat_lit 40, dMain) :: (nat_lit 79, ob7 P) :: (nat_lit 81, ob35 P) :: (nat_lit 82, ob7 P) :: (nat_lit 84, ob37 P) :: (nat_lit 85, ob38 P) :: (nat_lit 86, ob7 P) :: (nat_lit 88, ob39 P) :: (nat_lit 89, ob7 P) :: (nat_lit 91, ob41 P) :: (nat_lit 92, ob42 P) :: (nat_lit 93, ob7 P) :: (nat_lit 96, ob44 P) :: (nat_lit 97, ob45 P) :: (nat_lit 98, ob7 P) :: (nat_lit 101, ob47 P) :: (nat_lit 102, ob48 P) :: (nat_lit 103, ob7 P) :: (nat_lit 106, ob50 P) :: (nat_lit 107, ob51 P) :: []
def asT : List Addr := 2 :: 3 :: 6 :: 15 :: 17 :: 18 :: 20 :: 21 :: 29 :: 33 :: 35 :: 36 :: 38 :: 39 :: 40 :: 79 :: 81 :: 82 :: 84 :: 85 :: 86 :: 88 :: 89 :: 91 :: 92 :: 93 :: 96 :: 97 :: 98 :: 101 :: 102 :: 103 :: 106 :: 107 :: []
def qv : Program := { pg with main := { pg.main with body := [stm 1, stm 4, stm 6, stm 8, stm 9, stm 10, stm 11] } }
def loose0 : List Str := [Str.ofString "b1_set", Str.ofString "b3_exceptions"]
def HK : Hook := kHook KT asT (fun _ => by kernel_rfl)
def H1 (X : List Obj) (P : Params) : Heap := hp (objsC P ++ X ++ objsC2 P) {}
theorem y1 (w : World) (os : OsState) (es : List DictEntry) (n : Nat) (x2 x3 x4 x5 x6 x7 x8 x9 x10 x11 x12 x13 x14 x15 x16 x17 x18 x19 x20 x21 x22 x23 x24 x25 x26 x27 x28 x29 x30 x31 x32 x33 x34 x35 x36 x37 x38 x39 : Obj) : asT.map (sC w os (dObj es n :: x2 :: x3 :: x4 :: x5 :: x6 :: x7 :: x8 :: x9 :: x10 :: x11 :: x12 :: x13 :: x14 :: x15 :: x16 :: x17 :: x18 :: x19 :: x20 :: x21 :: x22 :: x23 :: x24 :: x25 :: x26 :: x27 :: x28 :: x29 :: x30 :: x31 :: x32 :: x33 :: x34 :: x35 :: x36 :: x37 :: x38 :: x39 :: [])).heap.get? = (some (ob2 w.params) :: some (ob33 w.params) :: some (ob6 w.params) :: some (ob7 w.params) :: some (ob15 w.params) :: some (ob7 w.params) :: some (ob17 w.params) :: some (ob18 w.params) :: some (ob25 w.params) :: some (ob7 w.params) :: some (ob28 w.params) :: some (ob7 w.params) :: some (ob30 w.params) :: some (ob31 w.params) :: some (dObj es n) :: some (ob7 w.params) :: some (ob35 w.params) :: some (ob7 w.params) :: some (ob37 w.params) :: some (ob38 w.params) :: some (ob7 w.params) :: some (ob39 w.params) :: some (ob7 w.params) :: some (ob41 w.params) :: some (ob42 w.params) :: some (ob7 w.params) :: some (ob44 w.params) :: some (ob45 w.params) :: some (ob7 w.params) :: some (ob47 w.params) :: some (ob48 w.params) :: some (ob7 w.params) :: some (ob50 w.params) :: some (ob51 w.params) :: []) := by
  kernel_rfl
theorem c1 (w : World) (os : OsState) (es : List DictEntry) (n : Nat) (x2 x3 x4 x5 x6 x7 x8 x9 x10 x11 x12 x13 x14 x15 x16 x17 x18 x19 x20 x21 x22 x23 x24 x25 x26 x27 x28 x29 x30 x31 x32 x33 x34 x35 x36 x37 x38 x39 : Obj) : staticsOk (importedModules pg.main.body) (boot_heap w.params) (H1 (dObj es n :: x2 :: x3 :: x4 :: x5 :: x6 :: x7 :: x8 :: x9 :: x10 :: x11 :: x12 :: x13 :: x14 :: x15 :: x16 :: x17 :: x18 :: x19 :: x20 :: x21 :: x22 :: x23 :: x24 :: x25 :: x26 :: x27 :: x28 :: x29 :: x30 :: x31 :: x32 :: x33 :: x34 :: x35 :: x36 :: x37 :: x38 :: x39 :: []) w.params) = true := by
  kernel_rfl
theorem c2 (w : World) (os : OsState) (es : List DictEntry) (n : Nat) (x2 x3 x4 x5 x6 x7 x8 x9 x10 x11 x12 x13 x14 x15 x16 x17 x18 x19 x20 x21 x22 x23 x24 x25 x26 x27 x28 x29 x30 x31 x32 x33 x34 x35 x36 x37 x38 x39 : Obj) : namesBound pg (H1 (dObj es n :: x2 :: x3 :: x4 :: x5 :: x6 :: x7 :: x8 :: x9 :: x10 :: x11 :: x12 :: x13 :: x14 :: x15 :: x16 :: x17 :: x18 :: x19 :: x20 :: x21 :: x22 :: x23 :: x24 :: x25 :: x26 :: x27 :: x28 :: x29 :: x30 :: x31 :: x32 :: x33 :: x34 :: x35 :: x36 :: x37 :: x38 :: x39 :: []) w.params) = true := by
  kernel_rfl
theorem c3 (w : World) (os : OsState) (es : List DictEntry) (n : Nat) (x2 x3 x4 x5 x6 x7 x8 x9 x10 x11 x12 x13 x14 x15 x16 x17 x18 x19 x20 x21 x22 x23 x24 x25 x26 x27 x28 x29 x30 x31 x32 x33 x34 x35 x36 x37 x38 x39 : Obj) : gensDone (sC w os (dObj es n :: x2 :: x3 :: x4 :: x5 :: x6 :: x7 :: x8 :: x9 :: x10 :: x11 :: x12 :: x13 :: x14 :: x15 :: x16 :: x17 :: x18 :: x19 :: x20 :: x21 :: x22 :: x23 :: x24 :: x25 :: x26 :: x27 :: x28 :: x29 :: x30 :: x31 :: x32 :: x33 :: x34 :: x35 :: x36 :: x37 :: x38 :: x39 :: [])) = true := by
  kernel_rfl
theorem c4 (w : World) (os : OsState) (es : List DictEntry) (n : Nat) (x2 x3 x4 x5 x6 x7 x8 x9 x10 x11 x12 x13 x14 x15 x16 x17 x18 x19 x20 x21 x22 x23 x24 x25 x26 x27 x28 x29 x30 x31 x32 x33 x34 x35 x36 x37 x38 x39 : Obj) : laidKept (boot_heap w.params) (H1 (dObj es n :: x2 :: x3 :: x4 :: x5 :: x6 :: x7 :: x8 :: x9 :: x10 :: x11 :: x12 :: x13 :: x14 :: x15 :: x16 :: x17 :: x18 :: x19 :: x20 :: x21 :: x22 :: x23 :: x24 :: x25 :: x26 :: x27 :: x28 :: x29 :: x30 :: x31 :: x32 :: x33 :: x34 :: x35 :: x36 :: x37 :: x38 :: x39 :: []) w.params) = true := by
  kernel_rfl
theorem o1 (w : World) (os : OsState) (es : List DictEntry) (n : Nat) (x2 x3 x4 x5 x6 x7 x8 x9 x10 x11 x12 x13 x14 x15 x16 x17 x18 x19 x20 x21 x22 x23 x24 x25 x26 x27 x28 x29 x30 x31 x32 x33 x34 x35 x36 x37 x38 x39 : Obj) : seen ((recsOf qv).map (·.name)) (ownsOf qv) [] { sC w os (dObj es n :: x2 :: x3 :: x4 :: x5 :: x6 :: x7 :: x8 :: x9 :: x10 :: x11 :: x12 :: x13 :: x14 :: x15 :: x16 :: x17 :: x18 :: x19 :: x20 :: x21 :: x22 :: x23 :: x24 :: x25 :: x26 :: x27 :: x28 :: x29 :: x30 :: x31 :: x32 :: x33 :: x34 :: x35 :: x36 :: x37 :: x38 :: x39 :: []) with gens := #[] } = expectedOf qv := by
  kernel_rfl
theorem o2 (w : World) (os : OsState) (es : List DictEntry) (n : Nat) (x2 x3 x4 x5 x6 x7 x8 x9 x10 x11 x12 x13 x14 x15 x16 x17 x18 x19 x20 x21 x22 x23 x24 x25 x26 x27 x28 x29 x30 x31 x32 x33 x34 x35 x36 x37 x38 x39 : Obj) : (sC w os (dObj es n :: x2 :: x3 :: x4 :: x5 :: x6 :: x7 :: x8 :: x9 :: x10 :: x11 :: x12 :: x13 :: x14 :: x15 :: x16 :: x17 :: x18 :: x19 :: x20 :: x21 :: x22 :: x23 :: x24 :: x25 :: x26 :: x27 :: x28 :: x29 :: x30 :: x31 :: x32 :: x33 :: x34 :: x35 :: x36 :: x37 :: x38 :: x39 :: [])).heap.bltView = bltViewBooted := by
  kernel_rfl
theorem o3 (w : World) (os : OsState) (es : List DictEntry) (n : Nat) (x2 x3 x4 x5 x6 x7 x8 x9 x10 x11 x12 x13 x14 x15 x16 x17 x18 x19 x20 x21 x22 x23 x24 x25 x26 x27 x28 x29 x30 x31 x32 x33 x34 x35 x36 x37 x38 x39 : Obj) : (sC w os (dObj es n :: x2 :: x3 :: x4 :: x5 :: x6 :: x7 :: x8 :: x9 :: x10 :: x11 :: x12 :: x13 :: x14 :: x15 :: x16 :: x17 :: x18 :: x19 :: x20 :: x21 :: x22 :: x23 :: x24 :: x25 :: x26 :: x27 :: x28 :: x29 :: x30 :: x31 :: x32 :: x33 :: x34 :: x35 :: x36 :: x37 :: x38 :: x39 :: [])).heap.keysOk (looseW qv loose0) ((recsOf qv).map (·.name)) ((litsOf qv).map (·.1)) ((clssOf qv (looseW qv loose0)).map (·.name)) = true := by
  kernel_rfl
theorem o3b (w : World) (os : OsState) (es : List DictEntry) (n : Nat) (x2 x3 x4 x5 x6 x7 x8 x9 x10 x11 x12 x13 x14 x15 x16 x17 x18 x19 x20 x21 x22 x23 x24 x25 x26 x27 x28 x29 x30 x31 x32 x33 x34 x35 x36 x37 x38 x39 : Obj) : (sC w os (dObj es n :: x2 :: x3 :: x4 :: x5 :: x6 :: x7 :: x8 :: x9 :: x10 :: x11 :: x12 :: x13 :: x14 :: x15 :: x16 :: x17 :: x18 :: x19 :: x20 :: x21 :: x22 :: x23 :: x24 :: x25 :: x26 :: x27 :: x28 :: x29 :: x30 :: x31 :: x32 :: x33 :: x34 :: x35 :: x36 :: x37 :: x38 :: x39 :: [])).heap.accountedOkI (importedModules pg.main.body) = true := by
  kernel_rfl
theorem o3c (w : World) (os : OsState) (es : List DictEntry) (n : Nat) (x2 x3 x4 x5 x6 x7 x8 x9 x10 x11 x12 x13 x14 x15 x16 x17 x18 x19 x20 x21 x22 x23 x24 x25 x26 x27 x28 x29 x30 x31 x32 x33 x34 x35 x36 x37 x38 x39 : Obj) : ((sC w os (dObj es n :: x2 :: x3 :: x4 :: x5 :: x6 :: x7 :: x8 :: x9 :: x10 :: x11 :: x12 :: x13 :: x14 :: x15 :: x16 :: x17 :: x18 :: x19 :: x20 :: x21 :: x22 :: x23 :: x24 :: x25 :: x26 :: x27 :: x28 :: x29 :: x30 :: x31 :: x32 :: x33 :: x34 :: x35 :: x36 :: x37 :: x38 :: x39 :: [])).heap.isNs mainGlobals && (sC w os (dObj es n :: x2 :: x3 :: x4 :: x5 :: x6 :: x7 :: x8 :: x9 :: x10 :: x11 :: x12 :: x13 :: x14 :: x15 :: x16 :: x17 :: x18 :: x19 :: x20 :: x21 :: x22 :: x23 :: x24 :: x25 :: x26 :: x27 :: x28 :: x29 :: x30 :: x31 :: x32 :: x33 :: x34 :: x35 :: x36 :: x37 :: x38 :: x39 :: [])).heap.isNs builtinsNs) = true := by
  kernel_rfl
theorem o3d (w : World) (os : OsState) (es : List DictEntry) (n : Nat) (x2 x3 x4 x5 x6 x7 x8 x9 x10 x11 x12 x13 x14 x15 x16 x17 x18 x19 x20 x21 x22 x23 x24 x25 x26 x27 x28 x29 x30 x31 x32 x33 x34 x35 x36 x37 x38 x39 : Obj) : tablesOk qv (sC w os (dObj es n :: x2 :: x3 :: x4 :: x5 :: x6 :: x7 :: x8 :: x9 :: x10 :: x11 :: x12 :: x13 :: x14 :: x15 :: x16 :: x17 :: x18 :: x19 :: x20 :: x21 :: x22 :: x23 :: x24 :: x25 :: x26 :: x27 :: x28 :: x29 :: x30 :: x31 :: x32 :: x33 :: x34 :: x35 :: x36 :: x37 :: x38 :: x39 :: [])).heap = true := by
  kernel_rfl
theorem o3e (w : World) (os : OsState) (es : List DictEntry) (n : Nat) (x2 x3 x4 x5 x6 x7 x8 x9 x10 x11 x12 x13 x14 x15 x16 x17 x18 x19 x20 x21 x22 x23 x24 x25 x26 x27 x28 x29 x30 x31 x32 x33 x34 x35 x36 x37 x38 x39 : Obj) : (xlAt qv [] (sC w os (dObj es n :: x2 :: x3 :: x4 :: x5 :: x6 :: x7 :: x8 :: x9 :: x10 :: x11 :: x12 :: x13 :: x14 :: x15 :: x16 :: x17 :: x18 :: x19 :: x20 :: x21 :: x22 :: x23 :: x24 :: x25 :: x26 :: x27 :: x28 :: x29 :: x30 :: x31 :: x32 :: x33 :: x34 :: x35 :: x36 :: x37 :: x38 :: x39 :: [])) && recOk [] (sC w os (dObj es n :: x2 :: x3 :: x4 :: x5 :: x6 :: x7 :: x8 :: x9 :: x10 :: x11 :: x12 :: x13 :: x14 :: x15 :: x16 :: x17 :: x18 :: x19 :: x20 :: x21 :: x22 :: x23 :: x24 :: x25 :: x26 :: x27 :: x28 :: x29 :: x30 :: x31 :: x32 :: x33 :: x34 :: x35 :: x36 :: x37 :: x38 :: x39 :: []))) = true := by
  kernel_rfl
theorem o4 (w : World) (os : OsState) (es : List DictEntry) (n : Nat) (x2 x3 x4 x5 x6 x7 x8 x9 x10 x11 x12 x13 x14 x15 x16 x17 x18 x19 x20 x21 x22 x23 x24 x25 x26 x27 x28 x29 x30 x31 x32 x33 x34 x35 x36 x37 x38 x39 : Obj) : tabsOk qv (sC w os (dObj es n :: x2 :: x3 :: x4 :: x5 :: x6 :: x7 :: x8 :: x9 :: x10 :: x11 :: x12 :: x13 :: x14 :: x15 :: x16 :: x17 :: x18 :: x19 :: x20 :: x21 :: x22 :: x23 :: x24 :: x25 :: x26 :: x27 :: x28 :: x29 :: x30 :: x31 :: x32 :: x33 :: x34 :: x35 :: x36 :: x37 :: x38 :: x39 :: [])) = true := by
  kernel_rfl
theorem o5 (w : World) (os : OsState) (es : List DictEntry) (n : Nat) (x2 x3 x4 x5 x6 x7 x8 x9 x10 x11 x12 x13 x14 x15 x16 x17 x18 x19 x20 x21 x22 x23 x24 x25 x26 x27 x28 x29 x30 x31 x32 x33 x34 x35 x36 x37 x38 x39 : Obj) : pinSeenD qv (drecsOf qv) (sC w os (dObj es n :: x2 :: x3 :: x4 :: x5 :: x6 :: x7 :: x8 :: x9 :: x10 :: x11 :: x12 :: x13 :: x14 :: x15 :: x16 :: x17 :: x18 :: x19 :: x20 :: x21 :: x22 :: x23 :: x24 :: x25 :: x26 :: x27 :: x28 :: x29 :: x30 :: x31 :: x32 :: x33 :: x34 :: x35 :: x36 :: x37 :: x38 :: x39 :: [])) = pinGoodD (drecsOf qv) := by
  kernel_rfl
theorem o6 (w : World) (os : OsState) (es : List DictEntry) (n : Nat) (x2 x3 x4 x5 x6 x7 x8 x9 x10 x11 x12 x13 x14 x15 x16 x17 x18 x19 x20 x21 x22 x23 x24 x25 x26 x27 x28 x29 x30 x31 x32 x33 x34 x35 x36 x37 x38 x39 : Obj) : plainSeenE qv (looseW qv loose0) (sC w os (dObj es n :: x2 :: x3 :: x4 :: x5 :: x6 :: x7 :: x8 :: x9 :: x10 :: x11 :: x12 :: x13 :: x14 :: x15 :: x16 :: x17 :: x18 :: x19 :: x20 :: x21 :: x22 :: x23 :: x24 :: x25 :: x26 :: x27 :: x28 :: x29 :: x30 :: x31 :: x32 :: x33 :: x34 :: x35 :: x36 :: x37 :: x38 :: x39 :: [])) = plainGoodE qv (looseW qv loose0) := by
  kernel_rfl
theorem o7 (w : World) (os : OsState) (es : List DictEntry) (n : Nat) (x2 x3 x4 x5 x6 x7 x8 x9 x10 x11 x12 x13 x14 x15 x16 x17 x18 x19 x20 x21 x22 x23 x24 x25 x26 x27 x28 x29 x30 x31 x32 x33 x34 x35 x36 x37 x38 x39 : Obj) : plainSeenD qv loose0 (sC w os (dObj es n :: x2 :: x3 :: x4 :: x5 :: x6 :: x7 :: x8 :: x9 :: x10 :: x11 :: x12 :: x13 :: x14 :: x15 :: x16 :: x17 :: x18 :: x19 :: x20 :: x21 :: x22 :: x23 :: x24 :: x25 :: x26 :: x27 :: x28 :: x29 :: x30 :: x31 :: x32 :: x33 :: x34 :: x35 :: x36 :: x37 :: x38 :: x39 :: [])) = plainGoodD qv loose0 := by
  kernel_rfl
theorem o8 (w : World) (os : OsState) (es : List DictEntry) (n : Nat) (x2 x3 x4 x5 x6 x7 x8 x9 x10 x11 x12 x13 x14 x15 x16 x17 x18 x19 x20 x21 x22 x23 x24 x25 x26 x27 x28 x29 x30 x31 x32 x33 x34 x35 x36 x37 x38 x39 : Obj) : wideSeen qv (sC w os (dObj es n :: x2 :: x3 :: x4 :: x5 :: x6 :: x7 :: x8 :: x9 :: x10 :: x11 :: x12 :: x13 :: x14 :: x15 :: x16 :: x17 :: x18 :: x19 :: x20 :: x21 :: x22 :: x23 :: x24 :: x25 :: x26 :: x27 :: x28 :: x29 :: x30 :: x31 :: x32 :: x33 :: x34 :: x35 :: x36 :: x37 :: x38 :: x39 :: [])) = wideGood qv := by
  kernel_rfl
theorem o9 (w : World) (os : OsState) (es : List DictEntry) (n : Nat) (x2 x3 x4 x5 x6 x7 x8 x9 x10 x11 x12 x13 x14 x15 x16 x17 x18 x19 x20 x21 x22 x23 x24 x25 x26 x27 x28 x29 x30 x31 x32 x33 x34 x35 x36 x37 x38 x39 : Obj) : clsSeenW qv loose0 (sC w os (dObj es n :: x2 :: x3 :: x4 :: x5 :: x6 :: x7 :: x8 :: x9 :: x10 :: x11 :: x12 :: x13 :: x14 :: x15 :: x16 :: x17 :: x18 :: x19 :: x20 :: x21 :: x22 :: x23 :: x24 :: x25 :: x26 :: x27 :: x28 :: x29 :: x30 :: x31 :: x32 :: x33 :: x34 :: x35 :: x36 :: x37 :: x38 :: x39 :: [])) = clsGoodW qv loose0 := by
  kernel_rfl
theorem looksX (w : World) (os : OsState) (es : List DictEntry) (n : Nat) (x2 x3 x4 x5 x6 x7 x8 x9 x10 x11 x12 x13 x14 x15 x16 x17 x18 x19 x20 x21 x22 x23 x24 x25 x26 x27 x28 x29 x30 x31 x32 x33 x34 x35 x36 x37 x38 x39 : Obj) :
    ((staticsOk (importedModules pg.main.body) (boot_heap w.params) (H1 (dObj es n :: x2 :: x3 :: x4 :: x5 :: x6 :: x7 :: x8 :: x9 :: x10 :: x11 :: x12 :: x13 :: x14 :: x15 :: x16 :: x17 :: x18 :: x19 :: x20 :: x21 :: x22 :: x23 :: x24 :: x25 :: x26 :: x27 :: x28 :: x29 :: x30 :: x31 :: x32 :: x33 :: x34 :: x35 :: x36 :: x37 :: x38 :: x39 :: []) w.params) && namesBound pg (H1 (dObj es n :: x2 :: x3 :: x4 :: x5 :: x6 :: x7 :: x8 :: x9 :: x10 :: x11 :: x12 :: x13 :: x14 :: x15 :: x16 :: x17 :: x18 :: x19 :: x20 :: x21 :: x22 :: x23 :: x24 :: x25 :: x26 :: x27 :: x28 :: x29 :: x30 :: x31 :: x32 :: x33 :: x34 :: x35 :: x36 :: x37 :: x38 :: x39 :: []) w.params) && gensDone (sC w os (dObj es n :: x2 :: x3 :: x4 :: x5 :: x6 :: x7 :: x8 :: x9 :: x10 :: x11 :: x12 :: x13 :: x14 :: x15 :: x16 :: x17 :: x18 :: x19 :: x20 :: x21 :: x22 :: x23 :: x24 :: x25 :: x26 :: x27 :: x28 :: x29 :: x30 :: x31 :: x32 :: x33 :: x34 :: x35 :: x36 :: x37 :: x38 :: x39 :: [])) && laidKept (boot_heap w.params) (H1 (dObj es n :: x2 :: x3 :: x4 :: x5 :: x6 :: x7 :: x8 :: x9 :: x10 :: x11 :: x12 :: x13 :: x14 :: x15 :: x16 :: x17 :: x18 :: x19 :: x20 :: x21 :: x22 :: x23 :: x24 :: x25 :: x26 :: x27 :: x28 :: x29 :: x30 :: x31 :: x32 :: x33 :: x34 :: x35 :: x36 :: x37 :: x38 :: x39 :: []) w.params)),
      openSeen qv loose0 (importedModules pg.main.body) (fun s => xlAt qv [] s && recOk [] s) true (sC w os (dObj es n :: x2 :: x3 :: x4 :: x5 :: x6 :: x7 :: x8 :: x9 :: x10 :: x11 :: x12 :: x13 :: x14 :: x15 :: x16 :: x17 :: x18 :: x19 :: x20 :: x21 :: x22 :: x23 :: x24 :: x25 :: x26 :: x27 :: x28 :: x29 :: x30 :: x31 :: x32 :: x33 :: x34 :: x35 :: x36 :: x37 :: x38 :: x39 :: [])), asT.map (sC w os (dObj es n :: x2 :: x3 :: x4 :: x5 :: x6 :: x7 :: x8 :: x9 :: x10 :: x11 :: x12 :: x13 :: x14 :: x15 :: x16 :: x17 :: x18 :: x19 :: x20 :: x21 :: x22 :: x23 :: x24 :: x25 :: x26 :: x27 :: x28 :: x29 :: x30 :: x31 :: x32 :: x33 :: x34 :: x35 :: x36 :: x37 :: x38 :: x39 :: [])).heap.get?) =
    (true, openGood qv loose0, (some (ob2 w.params) :: some (ob33 w.params) :: some (ob6 w.params) :: some (ob7 w.params) :: some (ob15 w.params) :: some (ob7 w.params) :: some (ob17 w.params) :: some (ob18 w.params) :: some (ob25 w.params) :: some (ob7 w.params) :: some (ob28 w.params) :: some (ob7 w.params) :: some (ob30 w.params) :: some (ob31 w.params) :: some (dObj es n) :: some (ob7 w.params) :: some (ob35 w.params) :: some (ob7 w.params) :: some (ob37 w.params) :: some (ob38 w.params) :: some (ob7 w.params) :: some (ob39 w.params) :: some (ob7 w.params) :: some (ob41 w.params) :: some (ob42 w.params) :: some (ob7 w.params) :: some (ob44 w.params) :: some (ob45 w.params) :: some (ob7 w.params) :: some (ob47 w.params) :: some (ob48 w.params) :: some (ob7 w.params) :: some (ob50 w.params) :: some (ob51 w.params) :: [])) := by
  refine looks_pair ?_ (looks_pair ?_ (y1 w os es n x2 x3 x4 x5 x6 x7 x8 x9 x10 x11 x12 x13 x14 x15 x16 x17 x18 x19 x20 x21 x22 x23 x24 x25 x26 x27 x28 x29 x30 x31 x32 x33 x34 x35 x36 x37 x38 x39))
  · rw [c1 w os es n x2 x3 x4 x5 x6 x7 x8 x9 x10 x11 x12 x13 x14 x15 x16 x17 x18 x19 x20 x21 x22 x23 x24 x25 x26 x27 x28 x29 x30 x31 x32 x33 x34 x35 x36 x37 x38 x39, c2 w os es n x2 x3 x4 x5 x6 x7 x8 x9 x10 x11 x12 x13 x14 x15 x16 x17 x18 x19 x20 x21 x22 x23 x24 x25 x26 x27 x28 x29 x30 x31 x32 x33 x34 x35 x36 x37 x38 x39, c3 w os es n x2 x3 x4 x5 x6 x7 x8 x9 x10 x11 x12 x13 x14 x15 x16 x17 x18 x19 x20 x21 x22 x23 x24 x25 x26 x27 x28 x29 x30 x31 x32 x33 x34 x35 x36 x37 x38 x39, c4 w os es n x2 x3 x4 x5 x6 x7 x8 x9 x10 x11 x12 x13 x14 x15 x16 x17 x18 x19 x20 x21 x22 x23 x24 x25 x26 x27 x28 x29 x30 x31 x32 x33 x34 x35 x36 x37 x38 x39]; rfl
  · unfold openSeen openGood
    refine looks_pair (o1 w os es n x2 x3 x4 x5 x6 x7 x8 x9 x10 x11 x12 x13 x14 x15 x16 x17 x18 x19 x20 x21 x22 x23 x24 x25 x26 x27 x28 x29 x30 x31 x32 x33 x34 x35 x36 x37 x38 x39) (looks_pair (o2 w os es n x2 x3 x4 x5 x6 x7 x8 x9 x10 x11 x12 x13 x14 x15 x16 x17 x18 x19 x20 x21 x22 x23 x24 x25 x26 x27 x28 x29 x30 x31 x32 x33 x34 x35 x36 x37 x38 x39) (looks_pair ?_ (looks_pair (o4 w os es n x2 x3 x4 x5 x6 x7 x8 x9 x10 x11 x12 x13 x14 x15 x16 x17 x18 x19 x20 x21 x22 x23 x24 x25 x26 x27 x28 x29 x30 x31 x32 x33 x34 x35 x36 x37 x38 x39) (looks_pair (o5 w os es n x2 x3 x4 x5 x6 x7 x8 x9 x10 x11 x12 x13 x14 x15 x16 x17 x18 x19 x20 x21 x22 x23 x24 x25 x26 x27 x28 x29 x30 x31 x32 x33 x34 x35 x36 x37 x38 x39) (looks_pair (o6 w os es n x2 x3 x4 x5 x6 x7 x8 x9 x10 x11 x12 x13 x14 x15 x16 x17 x18 x19 x20 x21 x22 x23 x24 x25 x26 x27 x28 x29 x30 x31 x32 x33 x34 x35 x36 x37 x38 x39) (looks_pair (o7 w os es n x2 x3 x4 x5 x6 x7 x8 x9 x10 x11 x12 x13 x14 x15 x16 x17 x18 x19 x20 x21 x22 x23 x24 x25 x26 x27 x28 x29 x30 x31 x32 x33 x34 x35 x36 x37 x38 x39) (looks_pair (o8 w os es n x2 x3 x4 x5 x6 x7 x8 x9 x10 x11 x12 x13 x14 x15 x16 x17 x18 x19 x20 x21 x22 x23 x24 x25 x26 x27 x28 x29 x30 x31 x32 x33 x34 x35 x36 x37 x38 x39) (o9 w os es n x2 x3 x4 x5 x6 x7 x8 x9 x10 x11 x12 x13 x14 x15 x16 x17 x18 x19 x20 x21 x22 x23 x24 x25 x26 x27 x28 x29 x30 x31 x32 x33 x34 x35 x36 x37 x38 x39))))))))
    have e3 := Bool.and_eq_true_iff.mp (o3c w os es n x2 x3 x4 x5 x6 x7 x8 x9 x10 x11 x12 x13 x14 x15 x16 x17 x18 x19 x20 x21 x22 x23 x24 x25 x26 x27 x28 x29 x30 x31 x32 x33 x34 x35 x36 x37 x38 x39)
    show (_ && _ && _ && _ && _ && (xlAt qv [] _ && recOk [] _) && _) = true
    rw [o3 w os es n x2 x3 x4 x5 x6 x7 x8 x9 x10 x11 x12 x13 x14 x15 x16 x17 x18 x19 x20 x21 x22 x23 x24 x25 x26 x27 x28 x29 x30 x31 x32 x33 x34 x35 x36 x37 x38 x39, o3b w os es n x2 x3 x4 x5 x6 x7 x8 x9 x10 x11 x12 x13 x14 x15 x16 x17 x18 x19 x20 x21 x22 x23 x24 x25 x26 x27 x28 x29 x30 x31 x32 x33 x34 x35 x36 x37 x38 x39, e3.1, e3.2, o3d w os es n x2 x3 x4 x5 x6 x7 x8 x9 x10 x11 x12 x13 x14 x15 x16 x17 x18 x19 x20 x21 x22 x23 x24 x25 x26 x27 x28 x29 x30 x31 x32 x33 x34 x35 x36 x37 x38 x39, o3e w os es n x2 x3 x4 x5 x6 x7 x8 x9 x10 x11 x12 x13 x14 x15 x16 x17 x18 x19 x20 x21 x22 x23 x24 x25 x26 x27 x28 x29 x30 x31 x32 x33 x34 x35 x36 x37 x38 x39]
    rfl
theorem XD_eq : ∃ x2 x3 x4 x5 x6 x7 x8 x9 x10 x11 x12 x13 x14 x15 x16 x17 x18 x19 x20 x21 x22 x23 x24 x25 x26 x27 x28 x29 x30 x31 x32 x33 x34 x35 x36 x37 x38 x39, XD = dMain :: x2 :: x3 :: x4 :: x5 :: x6 :: x7 :: x8 :: x9 :: x10 :: x11 :: x12 :: x13 :: x14 :: x15 :: x16 :: x17 :: x18 :: x19 :: x20 :: x21 :: x22 :: x23 :: x24 :: x25 :: x26 :: x27 :: x28 :: x29 :: x30 :: x31 :: x32 :: x33 :: x34 :: x35 :: x36 :: x37 :: x38 :: x39 :: [] := by
  have h := XD_length
  obtain ⟨x1, X1, e1, h1⟩ := consOf h
  have : x1 = dMain := (List.cons.inj (e1.symm.trans (rfl : XD = dMain :: XD.tail))).1
  subst this
  obtain ⟨x2, X2, rfl, h2⟩ := consOf h1
  obtain ⟨x3, X3, rfl, h3⟩ := consOf h2
  obtain ⟨x4, X4, rfl, h4⟩ := consOf h3
  obtain ⟨x5, X5, rfl, h5⟩ := consOf h4
  obtain ⟨x6, X6, rfl, h6⟩ := consOf h5
  obtain ⟨x7, X7, rfl, h7⟩ := consOf h6
  obtain ⟨x8, X8, rfl, h8⟩ := consOf h7
  obtain ⟨x9, X9, rfl, h9⟩ := consOf h8
  obtain ⟨x10, X10, rfl, h10⟩ := consOf h9
  obtain ⟨x11, X11, rfl, h11⟩ := consOf h10
  obtain ⟨x12, X12, rfl, h12⟩ := consOf h11
  obtain ⟨x13, X13, rfl, h13⟩ := consOf h12
  obtain ⟨x14, X14, rfl, h14⟩ := consOf h13
  obtain ⟨x15, X15, rfl, h15⟩ := consOf h14
  obtain ⟨x16, X16, rfl, h16⟩ := consOf h15
  obtain ⟨x17, X17, rfl, h17⟩ := consOf h16
  obtain ⟨x18, X18, rfl, h18⟩ := consOf h17
  obtain ⟨x19, X19, rfl, h19⟩ := consOf h18
  obtain ⟨x20, X20, rfl, h20⟩ := consOf h19
  obtain ⟨x21, X21, rfl, h21⟩ := consOf h20
  obtain ⟨x22, X22, rfl, h22⟩ := consOf h21
  obtain ⟨x23, X23, rfl, h23⟩ := consOf h22
  obtain ⟨x24, X24, rfl, h24⟩ := consOf h23
  obtain ⟨x25, X25, rfl, h25⟩ := consOf h24
  obtain ⟨x26, X26, rfl, h26⟩ := consOf h25
  obtain ⟨x27, X27, rfl, h27⟩ := consOf h26
  obtain ⟨x28, X28, rfl, h28⟩ := consOf h27
  obtain ⟨x29, X29, rfl, h29⟩ := consOf h28
  obtain ⟨x30, X30, rfl, h30⟩ := consOf h29
  obtain ⟨x31, X31, rfl, h31⟩ := consOf h30
  obtain ⟨x32, X32, rfl, h32⟩ := consOf h31
  obtain ⟨x33, X33, rfl, h33⟩ := consOf h32
  obtain ⟨x34, X34, rfl, h34⟩ := consOf h33
  obtain ⟨x35, X35, rfl, h35⟩ := consOf h34
  obtain ⟨x36, X36, rfl, h36⟩ := consOf h35
  obtain ⟨x37, X37, rfl, h37⟩ := consOf h36
  obtain ⟨x38, X38, rfl, h38⟩ := consOf h37
  obtain ⟨x39, X39, rfl, h39⟩ := consOf h38
  obtain rfl := List.eq_nil_of_length_eq_zero h39
  exact ⟨x2, x3, x4, x5, x6, x7, x8, x9, x10, x11, x12, x13, x14, x15, x16, x17, x18, x19, x20, x21, x22, x23, x24, x25, x26, x27, x28, x29, x30, x31, x32, x33, x34, x35, x36, x37, x38, x39, e1⟩
theorem left0 : LeftO pg qv loose0 (fun s => xlAt qv [] s && recOk [] s) HK.obs HK.val 29532 := by
  obtain ⟨x2, x3, x4, x5, x6, x7, x8, x9, x10, x11, x12, x13, x14, x15, x16, x17, x18, x19, x20, x21, x22, x23, x24, x25, x26, x27, x28, x29, x30, x31, x32, x33, x34, x35, x36, x37, x38, x39, hX⟩ := XD_eq
  refine LeftO.of_pieces (H₀ := boot_heap) (H₁ := H1 XD) (gs₀ := #[]) (gs₁ := #[]) (d₀ := boot_drawn) (d₁ := boot_drawn) (k₀ := boot_toks) (k₁ := 2260) (m₀ := 11) (ann := ann0) (M := steps)
    (boot_open (by kernel_rfl) (by kernel_rfl) (fun s => by kernel_rfl)) (fun w => by kernel_rfl) trun (by kernel_rfl) (fun w => funext fun os => ?_)
  have h := looksX w os (entL 268 (tbl.take 17 ++ (chunks 37 (tbl.drop 17)).flatten) ++ entS (268 + 3 * (tbl.take 17 ++ (chunks 37 (tbl.drop 17)).flatten).length) (tbl.drop (17 * 38))) tbl.length x2 x3 x4 x5 x6 x7 x8 x9 x10 x11 x12 x13 x14 x15 x16 x17 x18 x19 x20 x21 x22 x23 x24 x25 x26 x27 x28 x29 x30 x31 x32 x33 x34 x35 x36 x37 x38 x39
  rw [hX]
  exact h
end
end Mine
end
section
set_option maxRecDepth 100000
set_option linter.unusedVariables false
set_option Elab.async false
namespace Mine
open PySem PySem.W PySem.Calls PyProof.Rows
theorem eT : ∀ P, asT = (KT P).map (·.1) := fun _ => by kernel_rfl
set_option maxHeartbeats 4000000 in
theorem head (d : DefRec) (kwd : List (Str × PySem.Expr)) (hd : defOf qv (Str.ofString "law") = some (d, kwd)) (hp : pg.theDef (Str.ofString "law") = some (d.params, d.body, d.scope)) (hk : kwWritten? d.params.kwonlyargs d.params.kw_defaults = some kwd)
    (call : WalkO qv loose0 (XL qv []) (kHook KT asT eT).says PySem.Challenge.rw_re0100_02.row.toRowW d kwd fun f vs => PySem.call f vs) : PySem.Challenge.rw_re0100_02.Holds := by
  w_on
  o_law
  refine holds_open (q := qv) (loose := loose0) (Xt := fun s => xlAt qv [] s && recOk [] s) (XP := XL qv []) (Yf := (kHook KT asT eT).obs) (Ya := (kHook KT asT eT).val) (YP := (kHook KT asT eT).says) left0 (Hook.of (kHook KT asT eT)) (Hook.keeps (kHook KT asT eT)) (fun s e => xl_of s (Bool.and_eq_true_iff.mp e).1) XL.keeps hd hp hk (fun s e => recFacts_of (Bool.and_eq_true_iff.mp e).2) (by rfl) (by first | assumption | decide +kernel) (by decide +kernel) ⟨rfl, rfl, rfl, rfl, rfl, by decide +kernel⟩ ?hw call
  case hw => w_witness2
end Mine
end
section
set_option maxRecDepth 100000
set_option linter.unusedVariables false
set_option Elab.async false
namespace Mine
open PySem PySem.W PySem.Calls PyProof.Rows
section
variable {prog : Program} {w : World} {A : Around} {s : Shared} {env : Env} {h₀ : Heap} {x : Str} {body : List Stmt} {Q : Flow → Shared → Prop}
abbrev No : Value → Shared → Prop := fun _ _ => False

theorem fr_norm {L : Addr} {h : Heap} {m : Str → Option Value} (ps : List (Str × Value)) (F : Fr h₀ L h m) (hk : ∀ p ∈ ps, m p.1 = some p.2) : Fr h₀ L h (kstB m ps) := by
  have e : kstB m ps = m := by
    funext z
    exact kstB_eq hk fun _ => rfl
  rw [e]; exact F

theorem kstB_at {u : Str → Option Value} : ∀ {ps : List (Str × Value)}, (ps.map (·.1)).Nodup → ∀ p ∈ ps, kstB u ps p.1 = some p.2
  | [], _, _, h => nomatch h
  | q :: r, hd, p, h => by
    show (if p.1 = q.1 then some q.2 else kstB u r p.1) = some p.2
    rw [List.map_cons, List.nodup_cons] at hd
    rcases List.mem_cons.mp h with rfl | h
    · rw [if_pos rfl]
    · rw [if_neg (fun e : p.1 = q.1 => hd.1 (by rw [← e]; exact List.mem_map.mpr ⟨p, h, rfl⟩))]
      exact kstB_at hd.2 p h

theorem kstB_atN {u : Str → Option Value} {ps : List (Str × Value)} (names : List Str) (e : ps.map (·.1) = names) (hd : names.Nodup) : ∀ p ∈ ps, kstB u ps p.1 = some p.2 := kstB_at (e ▸ hd)
theorem offN {x : Str} {ps : List (Str × Value)} (names : List Str) (e : ps.map (·.1) = names) (hd : x ∉ names) : ∀ p ∈ ps, p.1 ≠ x := fun p hp q => hd (by rw [← e, ← q]; exact List.mem_map.mpr ⟨p, hp, rfl⟩)

/-- the frame and the ledger at a loop's turn, by a state c of one's own -/
def TurnOk {σ : Type} (h₀ : Heap) (L : Addr) (ps : σ → List (Str × Value)) (Led : σ → List (Addr × Obj)) (P : σ → Prop) (own : List (Addr × Obj)) (s₁ : Shared) (Q : Flow → Shared → Prop) (f : Flow) (s₂ : Shared) : Prop :=
  match f with
  | .ret v => Q (.ret v) s₂
  | .brk => Q .next s₂
  | _ => ∃ c m h tk nw, s₂ = { s₁ with heap := h, toks := tk } ∧ P c ∧ Fr h₀ L h m ∧ (∀ p ∈ ps c, m p.1 = some p.2) ∧ News h₀ L h nw ∧ (∀ p ∈ Led c, p ∈ nw) ∧ (∀ p ∈ own, p ∈ nw)

theorem loop_st {σ : Type} {I : Addr} {fp wr : List Addr} {n : Nat} {Pv : Nat → Value → Prop} {St : Nat → Heap → Prop} {m₀ : Str → Option Value} (ps : σ → List (Str × Value)) (Led : σ → List (Addr × Obj)) (P : Nat → σ → Prop) (c₀ : σ)
    (W : Walks prog w A I fp wr n Pv St) (hLf : env.locals ∉ fp) (hwr : ∀ b ∈ wr, h₀.get? b = none) (hnw : ∀ p ∈ Led c₀, p.1 ∉ wr) (hfp : ∀ q ∈ Led c₀, q.1 ∉ fp) (hst : St 0 s.heap) (F : Fr h₀ env.locals s.heap m₀) (N : News h₀ env.locals s.heap (Led c₀))
    (hk : ∀ p ∈ ps c₀, m₀ p.1 = some p.2) (hp : P 0 c₀) (hadr : ∀ c, (Led c).map (·.1) = (Led c₀).map (·.1)) (hx : ∀ c, ∀ p ∈ ps c, p.1 ≠ x)
    (turn : ∀ i v c u h tk own, i < n → Pv i v → P i c → OwnOff own ((Led c₀).map (·.1)) → Fr h₀ env.locals h (kstB u ((x, v) :: ps c)) → News h₀ env.locals h (Led c ++ own) →
      wpAny (model prog w) A (execs body env) (TurnOk h₀ env.locals ps Led (P (i + 1)) own { s with heap := h, toks := tk } Q) No { s with heap := h, toks := tk })
    (done : ∀ c u h tk, P n c → Fr h₀ env.locals h (kstB u (ps c)) → News h₀ env.locals h (Led c) → Q .next { s with heap := h, toks := tk }) :
    LoopAtV prog w A h₀ env x body Q No (.ref I) s := by
  refine loop_invN (fun i m nx => ∃ c, nx = Led c ∧ (∀ p ∈ ps c, m p.1 = some p.2) ∧ P i c) W hLf hwr hnw hfp hst F N ⟨c₀, rfl, hk, hp⟩ ?_ ?_
  · rintro i v m₁ nx h tk own hi hv _ hoff ⟨c, rfl, h1, h2⟩ F₁ N₁
    have F₂ : Fr h₀ env.locals h (kstB m₁ ((x, v) :: ps c)) := by
      have e : kstB m₁ ((x, v) :: ps c) = fun y => if y = x then some v else m₁ y := by
        funext y
        show (if y = x then some v else kstB m₁ (ps c) y) = _
        rw [kstB_eq h1 fun _ => rfl]
      rw [e]; exact F₁
    refine wpAny_mono (turn i v c m₁ h tk own hi hv h2 hoff F₂ N₁) (fun f s₂ p => ?_) fun _ _ e => e
    have fin : (∃ c m h' tk' nw, s₂ = { s with heap := h', toks := tk' } ∧ P (i + 1) c ∧ Fr h₀ env.locals h' m ∧ (∀ p ∈ ps c, m p.1 = some p.2) ∧ News h₀ env.locals h' nw ∧ (∀ p ∈ Led c, p ∈ nw) ∧ (∀ p ∈ own, p ∈ nw)) →
        InvEndN h₀ env.locals (fun m nx => ∃ c, nx = Led c ∧ (∀ p ∈ ps c, m p.1 = some p.2) ∧ P (i + 1) c) own ((Led c₀).map (·.1)) { s with heap := h, toks := tk } s₂ := by
      rintro ⟨c', m', h', tk', nw, e, hP, F', hm, N', hl, ho⟩
      exact ⟨h', tk', m', nw, Led c', e, F', N', hl, ho, hadr c', c', rfl, hm, hP⟩
    cases f with
    | ret v => exact p
    | brk => exact p
    | next => exact fin p
    | cont => exact fin p
  · rintro m₁ nx h tk ⟨c, rfl, h1, h2⟩ F₁ N₁
    exact done c m₁ h tk h2 (fr_norm _ F₁ h1) N₁

theorem for_range {σ : Type} {r : Addr} {a₀ b₀ : Int} {t₀ u₀ v₀ : Tok} {n : Nat} {m₀ : Str → Option Value} (ps : σ → List (Str × Value)) (Led : σ → List (Addr × Obj)) (P : Nat → σ → Prop) (c₀ : σ)
    (hh : A.handled = none) (hr : IsRange s.heap r a₀ b₀ 1 t₀ u₀ v₀) (hsmall : Builtin.Range.small a₀ b₀ 1 = true) (hn : Builtin.Range.rangeSize a₀ b₀ 1 = (n : Int)) (F : Fr h₀ env.locals s.heap m₀) (N : News h₀ env.locals s.heap (Led c₀))
    (hk : ∀ p ∈ ps c₀, m₀ p.1 = some p.2) (hp : P 0 c₀) (hadr : ∀ c, (Led c).map (·.1) = (Led c₀).map (·.1)) (hx : ∀ c, ∀ p ∈ ps c, p.1 ≠ x)
    (turn : ∀ (i : Nat) k t c u h tk own, i < n → k = a₀ + (i : Int) → P i c → OwnOff own ((Led c₀).map (·.1)) → Fr h₀ env.locals h (kstB u ((x, .int k t) :: ps c)) → News h₀ env.locals h (Led c ++ own) →
      wpAny (model prog w) A (execs body env) (TurnOk h₀ env.locals ps Led (P (i + 1)) own { s with heap := h, toks := tk } Q) No { s with heap := h, toks := tk })
    (done : ∀ c u h tk, P n c → Fr h₀ env.locals h (kstB u (ps c)) → News h₀ env.locals h (Led c) → Q .next { s with heap := h, toks := tk }) :
    wpAny (model prog w) A (pyIter (.ref r)) (fun it s₂ => LoopAtV prog w A h₀ env x body Q No it s₂) No s := by
  refine wpAny_pyIter_range hr hsmall ?_
  have W : Walks prog w A s.heap.objs.size [s.heap.objs.size] [s.heap.objs.size] n (fun i v => i < n ∧ ∃ t, v = .int (a₀ + i * 1) t)
      (fun i h => IsRangeIter h s.heap.objs.size (a₀ + (i : Nat) * 1) ((n : Int) - (i : Nat)) 1) := (Walks.range hh _ a₀ 1 n).bound
  refine loop_st ps Led P c₀ W ?_ ?_ ?_ ?_ (by show IsRangeIter _ _ _ _ _; rw [hn]; simpa using Heap.get?_push_size _ rfl) (F.push _) (fun p hp => ⟨Heap.get?_push_of_some _ (N p hp).1, (N p hp).2⟩) hk hp hadr hx ?_ ?_
  · intro hm
    exact absurd F.ns.lt ((List.mem_singleton.mp hm) ▸ Nat.lt_irrefl _)
  · intro b hb
    rw [List.mem_singleton.mp hb]
    exact next_is_new F
  · intro p hp hI
    exact absurd (Heap.lt_size (N p hp).1) ((List.mem_singleton.mp hI) ▸ Nat.lt_irrefl _)
  · intro p hp hI
    exact absurd (Heap.lt_size (N p hp).1) ((List.mem_singleton.mp hI) ▸ Nat.lt_irrefl _)
  · rintro i v c u h tk own hi ⟨_, t, rfl⟩ hP hoff F₁ N₁
    exact turn i _ t c u h tk own hi (by omega) hP hoff F₁ N₁
  · exact done

/-- a loop over a list that the call has made and that the loop leaves alone -/
theorem for_made {σ : Type} {l : Addr} {vs : List Value} {nn : Nat} {m₀ : Str → Option Value} (ps : σ → List (Str × Value)) (Led : σ → List (Addr × Obj)) (P : Nat → σ → Prop) (c₀ : σ)
    (hh : A.handled = none) (hl : ∀ c, (l, listOf vs.toArray nn) ∈ Led c) (F : Fr h₀ env.locals s.heap m₀) (N : News h₀ env.locals s.heap (Led c₀))
    (hk : ∀ p ∈ ps c₀, m₀ p.1 = some p.2) (hp : P 0 c₀) (hadr : ∀ c, (Led c).map (·.1) = (Led c₀).map (·.1)) (hx : ∀ c, ∀ p ∈ ps c, p.1 ≠ x)
    (turn : ∀ (i : Nat) v c u h tk own, vs[i]? = some v → P i c → OwnOff own ((Led c₀).map (·.1)) → Fr h₀ env.locals h (kstB u ((x, v) :: ps c)) → News h₀ env.locals h (Led c ++ own) →
      wpAny (model prog w) A (execs body env) (TurnOk h₀ env.locals ps Led (P (i + 1)) own { s with heap := h, toks := tk } Q) No { s with heap := h, toks := tk })
    (done : ∀ c u h tk, P vs.length c → Fr h₀ env.locals h (kstB u (ps c)) → News h₀ env.locals h (Led c) → Q .next { s with heap := h, toks := tk }) :
    wpAny (model prog w) A (pyIter (.ref l)) (fun it s₂ => LoopAtV prog w A h₀ env x body Q No it s₂) No s := by
  have hol : s.heap.get? l = some (listOf vs.toArray nn) := (N _ (hl c₀)).1
  have hl₀ : h₀.get? l = none := (N _ (hl c₀)).2.2
  have hlL : l ≠ env.locals := (N _ (hl c₀)).2.1
  have hls : s.heap.IsList l vs.toArray := ⟨_, hol, rfl, nn, rfl⟩
  have hne : l ≠ s.heap.objs.size := Nat.ne_of_lt (Heap.lt_size hol)
  refine wpAny_pyIter_list hls ?_
  have W := Walks.list (prog := prog) (w := w) hh s.heap.objs.size l hne vs.toArray
  have hlen : vs.toArray.size = vs.length := by simp
  rw [hlen] at W
  let J : Nat → (Str → Option Value) → List (Addr × Obj) → Prop := fun i m nx => ∃ c, nx = Led c ∧ (∀ p ∈ ps c, m p.1 = some p.2) ∧ P i c
  let J' : Nat → (Str → Option Value) → List (Addr × Obj) → Prop := fun i m₁ news₁ => news₁.map (·.1) = (Led c₀).map (·.1) ∧ J i m₁ news₁
  refine ⟨_, _, _, vs.length, _, _, m₀, Led c₀, J', rfl, W, ?_, ?_, ?_, ⟨⟨_, Heap.get?_push_size _ rfl, rfl, rfl⟩, hls.at fun o e => Heap.get?_push_of_some _ e⟩, F.push _, (fun p hp => ⟨Heap.get?_push_of_some _ (N p hp).1, (N p hp).2⟩), ⟨rfl, c₀, rfl, hk, hp⟩, ?_, ?_⟩
  · intro hm
    rcases List.mem_cons.mp hm with e | hm
    · exact absurd F.ns.lt (e ▸ Nat.lt_irrefl _)
    · exact hlL (List.mem_singleton.mp hm).symm
  · intro b hb
    rw [List.mem_singleton.mp hb]
    exact next_is_new F
  · intro p hp hI
    exact absurd (Heap.lt_size (N p hp).1) ((List.mem_singleton.mp hI) ▸ Nat.lt_irrefl _)
  · rintro i v m₁ news₁ s₁ own ⟨hh', tk', rfl⟩ hin hP ⟨hadr', c, rfl, h1, h2⟩ hoff hown hgo _ _ F₁ N₁
    have hv : vs[i]? = some v := by simpa using hP
    -- what of own is the list itself is in the ledger, too
    have hsep : OwnOff (own.filter fun p => p.1 != l) ((Led c₀).map (·.1)) := by
      intro p hp b hb e
      obtain ⟨hp1, hp2⟩ := List.mem_filter.mp hp
      obtain ⟨q, hq, rfl⟩ := List.mem_map.mp hb
      rcases List.mem_cons.mp (hown p hp1) with h3 | h3
      · exact absurd (Heap.lt_size (N q hq).1) (by rw [← e, h3]; exact Nat.lt_irrefl _)
      · rw [List.mem_singleton.mp h3] at hp2
        simp at hp2
    have F₂ : Fr h₀ env.locals hh' (kstB m₁ ((x, v) :: ps c)) := by
      have e : kstB m₁ ((x, v) :: ps c) = fun y => if y = x then some v else m₁ y := by
        funext y
        show (if y = x then some v else kstB m₁ (ps c) y) = _
        rw [kstB_eq h1 fun _ => rfl]
      rw [e]; exact F₁
    have N₂ : News h₀ env.locals hh' (Led c ++ own.filter fun p => p.1 != l) := fun p hp => N₁ p ((List.mem_append.mp hp).elim (fun h => List.mem_append.mpr (.inr h)) fun h => List.mem_append.mpr (.inl (List.mem_filter.mp h).1))
    have hown2 : ∀ p ∈ own, p.1 = l → p.2 = listOf vs.toArray nn := by
      intro p hp e
      have a := (N₁ p (List.mem_append_left _ hp)).1
      have b := (N₂ _ (List.mem_append_left _ (hl c))).1
      rw [e] at a
      exact Option.some.inj (a.symm.trans b)
    refine wpAny_mono (turn i v c m₁ hh' tk' _ hv h2 hsep F₂ N₂) (fun f s₂ p => ?_) fun _ _ e => e
    have fin : (∃ c m h' tk'' nw, s₂ = { s with heap := h', toks := tk'' } ∧ P (i + 1) c ∧ Fr h₀ env.locals h' m ∧ (∀ p ∈ ps c, m p.1 = some p.2) ∧ News h₀ env.locals h' nw ∧ (∀ p ∈ Led c, p ∈ nw) ∧ (∀ p ∈ own.filter fun p => p.1 != l, p ∈ nw)) →
        LoopStepU h₀ env.locals [s.heap.objs.size] own (J' (i + 1)) { s with heap := hh', toks := tk' } .next s₂ := by
      rintro ⟨c', m', h', tk'', nw, e, hP', F', hm, N', hl', ho⟩
      refine ⟨rfl, h', tk'', m', Led c', e, F', fun p hp => ?_, fun p hp hq => ?_, hadr c', c', rfl, hm, hP'⟩
      · rcases List.mem_append.mp hp with hp | hp
        · by_cases e2 : p.1 = l
          · have e3 : p = (l, listOf vs.toArray nn) := Prod.ext e2 (hown2 p hp e2)
            rw [e3]; exact N' _ (hl' _ (hl c'))
          · exact N' p (ho p (List.mem_filter.mpr ⟨hp, by simpa using e2⟩))
        · exact N' p (hl' p hp)
      · have h3 : p.1 ∈ (Led c').map (·.1) := List.mem_map.mpr ⟨p, hp, rfl⟩
        rw [hadr c', ← hadr c] at h3
        obtain ⟨q, hq1, hq2⟩ := List.mem_map.mp h3
        exact hoff q hq1 (by rw [hq2]; exact hq)
    cases f with
    | ret v => exact .ret p
    | brk => exact .brk p
    | next => exact .next (fin p)
    | cont => exact .cont (fin p)
  · rintro h' tk m' news' F' N' _ ⟨_, c, rfl, h1, h2⟩
    exact done c m' h' tk h2 (fr_norm _ F' h1) N'

/-- the start of a for -/
theorem for_start {Q : Flow → Shared → Prop} {x : Str} {px pos : Pos} {iter : PySem.Expr} {body : List Stmt} {L : Addr} {h : Heap} {m : Str → Option Value} (F : Fr h₀ L h m) (hx : env.kindOf x = some .local)
    (hp : (env.scope.kind == .class || (env.scope.kind == .module && env.locals != env.globals)) = false)
    (h : wpAny (model prog w) A (eval iter env) (fun xv s₁ => wpAny (model prog w) A (pyIter xv) (fun it s₂ => LoopAtV prog w A h₀ env x body Q No it s₂) No s₁) No s)
    (hs : ∀ x, foldedSetIterable iter env x = pure x := by intro _; rfl) :
    wpAny (model prog w) A (exec (.For (.Name x px) iter body [] pos) env) Q No s := For_invV h₀ hx hp h hs PassesOwn.never
end
end Mine
namespace Mine
open PySem PySem.W PySem.Calls PyProof.Rows
section
variable {prog : Program} {w : World} {A : Around} {h₀ : Heap} {L : Addr} {m : Str → Option Value} {env : Env}
/-- the turns of a comprehension whose element leaves the ledger as it is -/
theorem comp_rest {elt : PySem.Expr} {x : Str} {scope : Scope} {cl : List (Str × Addr)} {s : Shared} {S : List (Addr × Obj) → Prop} {P : Nat → Value → Prop} {Fin : List Value → List (Addr × Obj) → Prop} {news : List (Addr × Obj)} {N : Nat} (R : Nat → Value → Prop)
    (hS : S news)
    (hel : ∀ i v I oI oC C D ys m₂ h tk, i < N → P i v → LCg.NsObj oC m₂ → m₂ x = some v → Fr h₀ L h m → News h₀ L h ((I, oI) :: (C, oC) :: (D, LCg.lst ys) :: news) → LCg.Off3 I C D news → ((@Ne Nat I C) ∧ (@Ne Nat I D) ∧ (@Ne Nat C D)) →
      wpAny (model prog w) A (eval elt (compEnvC scope cl C env)) (fun y s' => ∃ h' tk', s' = { s with heap := h', toks := tk' } ∧ Fr h₀ L h' m ∧ News h₀ L h' ((I, oI) :: (C, oC) :: (D, LCg.lst ys) :: news) ∧ R i y) No { s with heap := h, toks := tk })
    (hFin : ∀ ys, ys.length = N → (∀ (i : Nat) y, ys[i]? = some y → R i y) → Fin ys news) :
    LCg.CompRest prog w A h₀ L m env elt x scope cl s S P Fin N 0 [] news := by
  have go : ∀ (k i : Nat) (ys : List Value), k + i = N → ys.length = i → (∀ (j : Nat) y, ys[j]? = some y → R j y) → LCg.CompRest prog w A h₀ L m env elt x scope cl s S P Fin k i ys news := by
    intro k
    induction k with
    | zero =>
      intro i ys hk hl hy
      exact LCg.CompRest.zero (hFin ys (by omega) hy)
    | succ k ih =>
      intro i ys hk hl hy
      refine LCg.CompRest.succ ?_
      intro v I oI C oC D m₂ h tk E' hP hC hx F N off ne
      refine wpAny_mono (hel i v I oI oC C D ys m₂ h tk (by omega) hP hC hx F N off ne) (fun y s' hs => ?_) fun _ _ x => x.elim
      obtain ⟨h', tk', rfl, F', N', hR⟩ := hs
      refine LCg.CompEnd.intro F' N' news (fun p hp => hp) off hS ?_
      refine ih (i + 1) (ys ++ [y]) (by omega) (by simp [hl]) ?_
      intro j z hz
      by_cases hj : j < ys.length
      · rw [List.getElem?_append_left hj] at hz; exact hy j z hz
      · rw [List.getElem?_append_right (by omega)] at hz
        have : j - ys.length = 0 := by
          cases hq : j - ys.length with
          | zero => rfl
          | succ q => rw [hq] at hz; simp at hz
        have hj' : j = i := by omega
        rw [this] at hz
        simp at hz
        subst hz; subst hj'; exact hR
  exact go N 0 [] (by omega) rfl (fun j y h => by simp at h)
end
end Mine
namespace Mine
open PySem PySem.W PySem.Calls PyProof.Rows
section
variable {prog : Program} {w : World} {A : Around} {env : Env}
/-- ''.join([..]) -/
theorem eval_join {s : Shared} {Q : Value → Shared → Prop} {e : PySem.Expr} {k1 : Nat} {p1 p2 p3 : Pos} {pl : Sem Bool} {nm : Str} {ex : PySem.Expr} (hex : ex = .Call (.Attribute (.Constant (.str nm) k1 p1) (Str.ofString "join") p2) [e] [] p3) (hnm : nm = ⟨#[]⟩)
    (he : eval (.Call (.Attribute (.Constant (.str nm) k1 p1) (Str.ofString "join") p2) [e] [] p3) env = (do
      let ov ← eval (.Constant (.str nm) k1 p1) env
      standAt p2.atName
      let (f, first) ← holding [ov] (getMethod ov (Str.ofString "join") pl)
      callWith p3 f first (backTo p3 (starEach [e] env)) []))
    (he2 : starEach [e] env = (false, eval e env) :: starEach [] env)
    (h : wpAny (model prog w) A (eval e env) (fun v s₂ => ∃ (D : Addr) (vs : Array Value) (ys : List Str), v = .ref D ∧ s₂.heap.IsList D vs ∧ StrsAre vs.toList ys ∧ (ys.map (·.length)).sum + ys.length ≤ 1048576 ∧ ∀ tk t, Q (.str (Txt.join ⟨#[]⟩ ys) t) { s₂ with toks := tk }) No { s with toks := s.toks + 1 }) :
    wpAny (model prog w) A (eval ex env) Q No s := by
  subst hex
  refine MethodCall_ (Constant_str (GM.join (callWith_method1 (spliced_more (wpAny_mono h (fun v s₂ hv => ?_) fun _ _ x => x) he2) he2))) he
  obtain ⟨D, vs, ys, rfl, hl, hy, hw, hq⟩ := hv
  refine spliced_none ?_
  show wpAny _ _ (call (.builtin "str.join") [.str nm s.toks, .ref D]) _ _ _
  rw [hnm]
  exact join_listW hl hy (by decide) hw fun t' k => hq k t'
end
end Mine
namespace Mine
open PySem PySem.W PySem.Calls PyProof.Rows
def forB : Stmt → List Stmt | .For _ _ b _ _ => b | _ => []
def forI : Stmt → Option PySem.Expr | .For _ i _ _ _ => some i | _ => none
def whT : Stmt → Option PySem.Expr | .While t _ _ _ => some t | _ => none
def whB : Stmt → Option (List Stmt) | .While _ b _ _ => some b | _ => none
def whE : Stmt → Option (List Stmt) | .While _ _ b _ => some b | _ => none
def ifT : Stmt → Option PySem.Expr | .If t _ _ _ => some t | _ => none
def ifB : Stmt → Option (List Stmt) | .If _ b _ _ => some b | _ => none
def retE : Stmt → Option PySem.Expr | .Return e _ => e | _ => none
def asgE : Stmt → Option PySem.Expr | .Assign _ e _ => some e | _ => none
def argE : PySem.Expr → Option PySem.Expr | .Call _ [e] _ _ => some e | _ => none
def eltE : PySem.Expr → Option PySem.Expr | .ListComp e _ _ _ => some e | _ => none
def scE : PySem.Expr → Option Scope | .ListComp _ _ s _ => some s | _ => none
def itE : PySem.Expr → Option PySem.Expr | .ListComp _ [⟨_, i, _, _⟩] _ _ => some i | _ => none
abbrev natsI (l : List Nat) : List Int := l.map (fun n : Nat => ((n : Nat) : Int))
theorem natsI_getD (l : List Nat) (k : Nat) : (natsI l).getD k 0 = ((l.getD k 0 : Nat) : Int) := by
  simp [List.getD_eq_getElem?_getD, List.getElem?_map]
  cases l[k]? <;> rfl
theorem natsI_set (l : List Nat) (k v : Nat) : (natsI l).set k (v : Int) = natsI (l.set k v) := by
  simp [natsI, List.map_set]
theorem push_snoc (vs : List Value) (v : Value) : vs.toArray.push v = (vs ++ [v]).toArray := by simp
theorem txt_join (sep : Str) (ys : List Str) : Txt.join sep ys = Str.join sep ys := beq_iff_eq.mp (join_closes rfl)
end Mine
namespace Mine
open PySem PySem.W PySem.Calls PyProof.Rows
def litsE : List PySem.Expr → List (Int × Nat × Pos)
  | .Constant (.int i) k p :: r => (i, k, p) :: litsE r
  | _ => []
def litE (p : Int × Nat × Pos) : PySem.Expr := .Constant (.int p.1) p.2.1 p.2.2
section
variable {prog : Program} {w : World} {A : Around} {env : Env} {h₀ : Heap} {L : Addr} {m : Str → Option Value} {news : List (Addr × Obj)}
theorem spliced_ints {pos : Pos} : ∀ (l : List (Int × Nat × Pos)) {s : Shared} {Q : List Value → Shared → Prop}, (∀ vs tk, IntsAre vs (l.map (·.1)) → Q vs { s with toks := tk }) → wpAny (model prog w) A (spliced (backTo pos (starEach (l.map litE) env))) Q No s
  | [], s, Q, h => spliced_none (h [] s.toks .nil)
  | p :: r, s, Q, h => spliced_more (wpAny_Constant_int (spliced_ints r fun vs tk hv => h _ tk (.cons _ _ hv))) rfl
/-- a display of ints -/
theorem eval_ints {s : Shared} {Q : Value → Shared → Prop} {elts : List PySem.Expr} {pos : Pos} (F : Fr h₀ L s.heap m) (N : News h₀ L s.heap news) (hl : elts = (litsE elts).map litE) (hn : (litsE elts).length ≤ 1000)
    (h : ∀ D h' tk vs, Fr h₀ L h' m → News h₀ L h' ((D, W.listOf vs.toArray 0) :: news) → (∀ q ∈ news, q.1 ≠ D) → IntsAre vs ((litsE elts).map (·.1)) → Q (.ref D) { s with heap := h', toks := tk }) :
    wpAny (model prog w) A (eval (.List elts pos) env) Q No s := by
  refine List_ ?_
  rw [hl]
  refine spliced_ints _ fun vs tk hv => ?_
  refine newList_N (s := { s with toks := tk }) F N (fun h' F' N' => h _ h' tk vs F' N' (fun q hq => Nat.ne_of_lt (Heap.lt_size (N q hq).1)) hv) ?_
  have := hv.length
  rw [List.length_map] at this
  show vs.length ≤ 16777216
  omega
/-- two made lists of ints, glued -/
theorem add_ints {s : Shared} {Q : Value → Shared → Prop} {D₁ D₂ : Addr} {vs ws : List Value} {ns ms : List Int} {n₁ n₂ : Nat} (F : Fr h₀ L s.heap m) (N : News h₀ L s.heap news) (h1 : (D₁, W.listOf vs.toArray n₁) ∈ news) (h2 : (D₂, W.listOf ws.toArray n₂) ∈ news)
    (hi : IntsAre vs ns) (hj : IntsAre ws ms) (hl : ns.length + ms.length ≤ 1000)
    (h : ∀ D h', Fr h₀ L h' m → News h₀ L h' ((D, W.listOf (vs ++ ws).toArray 0) :: news) → (∀ q ∈ news, q.1 ≠ D) → IntsAre (vs ++ ws) (ns ++ ms) → Q (.ref D) { s with heap := h' }) :
    wpAny (model prog w) A (binaryOp .Add (.ref D₁) (.ref D₂)) Q No s := by
  refine add_lists_ints F N (N.isList h1) (N.isList h2) hi hj (fun h' F' N' I => h _ h' F' N' (fun q hq => Nat.ne_of_lt (Heap.lt_size (N q hq).1)) I) (by show _ ≤ 16777216; omega)
/-- list(range(a, b)) once the range is made -/
theorem list_range_ints {s : Shared} {Q : Value → Shared → Prop} {r : Addr} {a b : Int} {n : Nat} {t u v : Tok} (hh : A.handled = none) (F : Fr h₀ L s.heap m) (N : News h₀ L s.heap news) (hr : IsRange s.heap r a b 1 t u v) (ha : -1000000 ≤ a) (hb : b ≤ 1000000) (ha' : a ≤ 1000000) (hb' : -1000000 ≤ b) (hn : (b - a).toNat = n) (hn' : n ≤ 1000)
    (h : ∀ D h' tk vs c, Fr h₀ L h' m → News h₀ L h' ((D, W.listOf vs.toArray c) :: news) → (∀ q ∈ news, q.1 ≠ D) → IntsAre vs (rangeInts a 1 n) → Q (.ref D) { s with heap := h', toks := tk }) :
    wpAny (model prog w) A (call (.type "list") [.ref r]) Q No s := by
  refine list_rangeD hh F N hr (small_one (by omega) (by omega) (by omega) (by omega)) (n := n) (by rw [rangeSize_nat, hn]) (by omega) fun h' tk ys F' N' hk h0 hl hp hc => ?_
  obtain ⟨⟨c, hc'⟩, hap⟩ := hp
  refine h _ h' tk ys c F' (fun q hq => ?_) (fun q hq => Nat.ne_of_lt (Heap.lt_size (N q hq).1)) (IntsAre.ofCarried hc)
  rcases List.mem_cons.mp hq with rfl | hq
  · exact ⟨hc', Ne.symm (Nat.ne_of_lt F.ns.lt), h0⟩
  · exact N' q hq
end
end Mine
end
section
set_option maxRecDepth 100000
set_option linter.unusedVariables false
set_option Elab.async false
namespace Mine
open PySem PySem.W PySem.Calls PyProof.Rows
/-- where a walk is to stand still -/
structure Stop (P : Prop) : Prop where
  out :: (go : P)
theorem stopW {P : Prop} (h : Stop P) : P := h.go
def upd (m : Str → Option Value) (x : Str) (v : Value) : Str → Option Value := fun y => if y = x then some v else m y
theorem upd_at (m : Str → Option Value) (x : Str) (v : Value) : upd m x v x = some v := if_pos rfl
theorem upd_ne {m : Str → Option Value} {x y : Str} {v : Value} {r : Option Value} (h : m y = r) (hn : y ≠ x) : upd m x v y = r := (if_neg hn).trans h
theorem kstB_id {m : Str → Option Value} {ps : List (Str × Value)} (hk : ∀ p ∈ ps, m p.1 = some p.2) : kstB m ps = m := funext fun z => kstB_eq hk fun _ => rfl
theorem fr_upd {h₀ h : Heap} {L : Addr} {m : Str → Option Value} {x : Str} {v : Value} {ps : List (Str × Value)} (hk : ∀ p ∈ ps, m p.1 = some p.2) (F : Fr h₀ L h (upd (kstB m ps) x v)) : Fr h₀ L h (upd m x v) := by
  rw [kstB_id hk] at F; exact F
theorem fr_same {h₀ h : Heap} {L : Addr} {m : Str → Option Value} {ps : List (Str × Value)} (hk : ∀ p ∈ ps, m p.1 = some p.2) (F : Fr h₀ L h (kstB m ps)) : Fr h₀ L h m := by
  rw [kstB_id hk] at F; exact F
theorem all1 {m : Str → Option Value} {x : Str} {v : Value} (h : m x = some v) : ∀ p ∈ [(x, v)], m p.1 = some p.2 := fun p hp => by obtain rfl := List.mem_singleton.mp hp; exact h
theorem allC {m : Str → Option Value} {x : Str} {v : Value} {ps : List (Str × Value)} (h : m x = some v) (r : ∀ p ∈ ps, m p.1 = some p.2) : ∀ p ∈ (x, v) :: ps, m p.1 = some p.2 := fun p hp => by
  rcases List.mem_cons.mp hp with rfl | hp
  · exact h
  · exact r p hp
theorem news_add {h₀ h : Heap} {L : Addr} {news : List (Addr × Obj)} {p : Addr × Obj} (N : News h₀ L h news) (hm : p ∈ news) : News h₀ L h (p :: news) := fun q hq => by
  rcases List.mem_cons.mp hq with rfl | hq
  · exact N _ hm
  · exact N q hq
section
variable {M : Model} {A : Around} {E : Value → Shared → Prop} {s : Shared} {h₀ : Heap} {L a : Addr} {m : Str → Option Value} {cn : Str} {cs : Scope} {ccd : Value} {cl : List (Str × Addr)}
  {x : Str} {v : Value} {Q : Unit → Shared → Prop} {news rest : List (Addr × Obj)} {c : Addr} {o : Obj} {v₀ : Option Value}
/-- a cell stored anew; the rest of the ledger stays -/
theorem store_cell (c : Addr) (o : Obj) (rest : List (Addr × Obj)) (F : Fr h₀ L s.heap m) (N : News h₀ L s.heap news) (hp : ∀ p ∈ (c, o) :: rest, p ∈ news) (hc : cl.lookup x = some c) (h2 : ∀ p ∈ rest, p.1 ≠ c) (hd : o.data = .cell v₀)
    (h : ∀ h' o', Fr h₀ L h' m → News h₀ L h' ((c, o') :: rest) → o'.data = .cell (some v) → Q () { s with heap := h' })
    (hk : cs.kind = .function := by rfl) (hx : (envX cn cs L a ccd cl).kindOf x = some .cell := by rfl) : wpAny M A (storeName (envX cn cs L a ccd cl) x v) Q E s :=
  storeX_C (g := fun o' => (c, o') :: rest) F (kst_newsOf N hp) hc (.head h2) hd h hk hx
end
end Mine
namespace Mine
open PySem PySem.W PySem.Calls PyProof.Rows
section
variable {prog : Program} {w : World} {A : Around} {h₀ : Heap} {L : Addr} {m : Str → Option Value} {env : Env}
theorem comp_restT {ct elt : PySem.Expr} {x : Str} {scope : Scope} {cl : List (Str × Addr)} {s : Shared} {S : List (Addr × Obj) → Prop} {P : Nat → Value → Prop} {Fin : List Value → List (Addr × Obj) → Prop} {news : List (Addr × Obj)} {N : Nat} (T : Nat → Bool) (R : Nat → Value → Prop)
    (hS : S news)
    (htest : ∀ i v I oI oC C D ys m₂ h tk, i < N → P i v → LCg.NsObj oC m₂ → m₂ x = some v → Fr h₀ L h m → News h₀ L h ((I, oI) :: (C, oC) :: (D, LCg.lst ys) :: news) → LCg.Off3 I C D news → ((@Ne Nat I C) ∧ (@Ne Nat I D) ∧ (@Ne Nat C D)) →
      wpAny (model prog w) A (PySem.isTrue ct (compEnvC scope cl C env) (eval ct (compEnvC scope cl C env))) (fun ok s' => ∃ h' tk', s' = { s with heap := h', toks := tk' } ∧ Fr h₀ L h' m ∧ News h₀ L h' ((I, oI) :: (C, oC) :: (D, LCg.lst ys) :: news) ∧ ok = T i) No { s with heap := h, toks := tk })
    (hel : ∀ i v I oI oC C D ys m₂ h tk, i < N → T i = true → P i v → LCg.NsObj oC m₂ → m₂ x = some v → Fr h₀ L h m → News h₀ L h ((I, oI) :: (C, oC) :: (D, LCg.lst ys) :: news) → LCg.Off3 I C D news → ((@Ne Nat I C) ∧ (@Ne Nat I D) ∧ (@Ne Nat C D)) →
      wpAny (model prog w) A (eval elt (compEnvC scope cl C env)) (fun y s' => ∃ h' tk', s' = { s with heap := h', toks := tk' } ∧ Fr h₀ L h' m ∧ News h₀ L h' ((I, oI) :: (C, oC) :: (D, LCg.lst ys) :: news) ∧ R i y) No { s with heap := h, toks := tk })
    (hFin : ∀ ys, ys.length = ((List.range N).filter T).length → (∀ (j : Nat) y, ys[j]? = some y → R (((List.range N).filter T).getD j 0) y) → Fin ys news) :
    LCt.CompRestT prog w A h₀ L m env ct elt x scope cl s S P Fin N 0 [] news := by
  have go : ∀ (k i : Nat) (ys : List Value), k + i = N → ys.length = ((List.range i).filter T).length → (∀ (j : Nat) y, ys[j]? = some y → R (((List.range i).filter T).getD j 0) y) → LCt.CompRestT prog w A h₀ L m env ct elt x scope cl s S P Fin k i ys news := by
    intro k
    induction k with
    | zero =>
      intro i ys hk hl hy
      obtain rfl : i = N := by omega
      exact LCt.CompRestT.zero (hFin ys hl hy)
    | succ k ih =>
      intro i ys hk hl hy
      refine LCt.CompRestT.succ ?_
      intro v I oI C oC D m₂ h tk E' hP hC hx F N' off ne
      refine wpAny_mono (htest i v I oI oC C D ys m₂ h tk (by omega) hP hC hx F N' off ne) (fun ok s' hs => ?_) fun _ _ x => x.elim
      obtain ⟨h', tk', rfl, F', N', rfl⟩ := hs
      have er : (List.range (i + 1)).filter T = (List.range i).filter T ++ (if T i = true then [i] else []) := by
        rw [List.range_succ, List.filter_append]
        congr 1
        cases hT : T i <;> simp [hT]
      cases hT : T i with
      | true =>
        rw [hT, if_pos rfl] at er
        simp only [if_true]
        refine wpAny_mono (hel i v I oI oC C D ys m₂ h' tk' (by omega) hT hP hC hx F' N' off ne) (fun y s' hs => ?_) fun _ _ x => x.elim
        obtain ⟨h'', tk'', rfl, F'', N'', hR⟩ := hs
        refine LCg.CompEnd.intro F'' N'' news (fun p hp => hp) off hS ?_
        refine ih (i + 1) (ys ++ [y]) (by omega) (by rw [er]; simp [hl]) ?_
        intro j z hz
        rw [er]
        by_cases hj : j < ys.length
        · rw [List.getElem?_append_left hj] at hz
          have := hy j z hz
          rw [List.getD_eq_getElem?_getD, List.getElem?_append_left (by omega), ← List.getD_eq_getElem?_getD]
          exact this
        · rw [List.getElem?_append_right (by omega)] at hz
          have e0 : j - ys.length = 0 := by
            cases hq : j - ys.length with
            | zero => rfl
            | succ q => rw [hq] at hz; simp at hz
          rw [e0] at hz
          simp at hz
          subst hz
          rw [List.getD_eq_getElem?_getD, List.getElem?_append_right (by omega), show j - ((List.range i).filter T).length = 0 by omega]
          exact hR
      | false =>
        rw [hT] at er
        simp only [Bool.false_eq_true, if_false, List.append_nil] at er ⊢
        refine LCg.CompEnd.intro F' N' news (fun p hp => hp) off hS ?_
        exact ih (i + 1) ys (by omega) (by rw [er]; exact hl) (by rw [er]; exact hy)
  exact go N 0 [] (by omega) rfl (fun j y h => by simp at h)
end
end Mine
end
section
set_option maxRecDepth 100000
set_option linter.unusedVariables false
set_option Elab.async false
set_option pp.maxSteps 3000
namespace Mine
open PySem PySem.W PySem.Calls PyProof.Rows
abbrev ovEnv (L : Addr) : Env := envOf (Str.ofString "_generate_overlap_table") (fS (stm 1)) L 21 (Value.ref 20)
def ovFor : List Stmt := match (fB (stm 1))[1]? with | some s => forB s | none => []
theorem item_ne (p : Str) {i j : Nat} (hi : i < p.length) (hj : j < p.length) : (Txt.item p (i : Int) != Txt.item p (j : Int)) = (p.cps.toList.getD i 0 != p.cps.toList.getD j 0) := by
  rw [item_meets (x := p) (i := (i : Int)) ⟨by omega, by omega⟩, item_meets (x := p) (i := (j : Int)) ⟨by omega, by omega⟩]
  have e : ∀ k : Nat, p.cps.getD ((k : Int)).toNat 0 = p.cps.toList.getD k 0 := by
    intro k
    rw [Int.toNat_natCast]
    simp [Array.getD_eq_getD_getElem?, List.getD_eq_getElem?_getD]
  rw [e, e]
  rw [Bool.eq_iff_iff]
  simp

section
variable {w : World} {A : Around} {base : Heap} {outer : List Env} {h₀ : Heap} {L D : Addr} {mg mb : Str → Option Value} {news : List (Addr × Obj)} {mean : ExcName → Option Value}

set_option maxHeartbeats 4000000 in
theorem ov_test {s : Shared} {m : Str → Option Value} {Q : Bool → Shared → Prop} {i k : Nat} {ti tk : Tok} {p : Str} {tp : Tok}
    (B' : Below A base outer h₀) (F' : Fr h₀ L s.heap (kstB m [(Str.ofString "prefix", .str p tp), (Str.ofString "i", .int (i : Int) ti), (Str.ofString "idx", .int (k : Int) tk), (Str.ofString "table", .ref D)])) (X' : (KT w.params).In h₀) (N' : News h₀ L s.heap news) (T' : Top qv (looseW qv loose0) mean mg mb h₀)
    (hi : i < p.length) (hk : k < i) (hp : p.length ≤ 1000)
    (te : PySem.Expr) (hte : (match ovFor[1]? with | some s => whT s | none => none) = some te)
    (h : ∀ tk', Q (p.cps.toList.getD i 0 != p.cps.toList.getD k 0) { s with toks := tk' }) :
    wpAny (model pg w) (A.deeper (ovEnv L)) (PySem.isTrue te (ovEnv L) (eval te (ovEnv L))) Q No s := by
  have hfill : (PySem.Challenge.rw_re0100_02, KT) = (PySem.Challenge.rw_re0100_02, KT) := by k_fill; rfl
  clear hfill
  dsimp only [kstB] at F'
  w_on
  cases hte
  k_steps
  rw [item_ne p hi (Nat.lt_trans hk hi)]
  exact h _

set_option maxHeartbeats 4000000 in
theorem ov_body {s : Shared} {m : Str → Option Value} {Q : Flow → Shared → Prop} {i k : Nat} {ti tk : Tok} {p : Str} {tp : Tok} {vs : List Value} {tb : List Nat} {c : Nat}
    (B' : Below A base outer h₀) (F' : Fr h₀ L s.heap (kstB m [(Str.ofString "prefix", .str p tp), (Str.ofString "i", .int (i : Int) ti), (Str.ofString "idx", .int (k : Int) tk), (Str.ofString "table", .ref D)])) (X' : (KT w.params).In h₀) (N' : News h₀ L s.heap ((D, W.listOf vs.toArray c) :: news)) (T' : Top qv (looseW qv loose0) mean mg mb h₀)
    (hi : i < p.length) (hk : k < i) (hp : p.length ≤ 1000) (hI : IntsAre vs (natsI tb)) (hlen : (natsI tb).length = p.length) (hD : ∀ q ∈ news, q.1 ≠ D)
    (te : List Stmt) (hte : (match ovFor[1]? with | some s => whB s | none => none) = some te)
    (h0 : k = 0 → ∀ h' tk' u vs', Fr h₀ L h' (kstB u [(Str.ofString "prefix", .str p tp), (Str.ofString "table", .ref D)]) → News h₀ L h' ((D, W.listOf vs'.toArray c) :: news) → IntsAre vs' (natsI (tb.set i 0)) → Q .brk { s with heap := h', toks := tk' })
    (h1 : k ≠ 0 → ∀ h' tk' u t, Fr h₀ L h' (kstB u [(Str.ofString "prefix", .str p tp), (Str.ofString "i", .int (i : Int) ti), (Str.ofString "idx", .int (tb.getD (k - 1) 0 : Nat) t), (Str.ofString "table", .ref D)]) → News h₀ L h' ((D, W.listOf vs.toArray c) :: news) → Q .next { s with heap := h', toks := tk' })
    :
    wpAny (model pg w) (A.deeper (ovEnv L)) (execs te (ovEnv L)) Q No s := by
  have hfill : (PySem.Challenge.rw_re0100_02, KT) = (PySem.Challenge.rw_re0100_02, KT) := by k_fill; rfl
  clear hfill
  dsimp only [kstB] at F'
  w_on
  cases hte
  k_steps
  · rename_i hk0 _
    refine ksa_set F' N' (.head hD) hI (by omega) (by omega) (by omega) ?_
    intro h' F' N' hi' hl' hs'
    k_steps
    refine h0 (by omega) _ _ _ _ (fr_norm _ (by assumption) ?_) (by assumption) ?_
    · intro q hq
      simp only [List.mem_cons, List.not_mem_nil, or_false] at hq
      rcases hq with rfl | rfl <;> rfl
    · rw [← natsI_set]; exact hi'
  · rename_i hk0 _ _ _ _ _
    refine h1 (by omega) _ _ _ ?_ (fr_norm _ (by assumption) ?_) (by assumption)
    rotate_left
    intro q hq
    simp only [List.mem_cons, List.not_mem_nil, or_false] at hq
    rcases hq with rfl | rfl | rfl | rfl
    · rfl
    · rfl
    · show some _ = some _
      rw [show ((k : Int) - 1).toNat = k - 1 by omega, natsI_getD]
    · rfl

set_option maxHeartbeats 4000000 in
theorem ov_else {s : Shared} {m : Str → Option Value} {Q : Flow → Shared → Prop} {i k : Nat} {ti tk : Tok} {p : Str} {tp : Tok} {vs : List Value} {tb : List Nat} {c : Nat}
    (B' : Below A base outer h₀) (F' : Fr h₀ L s.heap (kstB m [(Str.ofString "prefix", .str p tp), (Str.ofString "i", .int (i : Int) ti), (Str.ofString "idx", .int (k : Int) tk), (Str.ofString "table", .ref D)])) (X' : (KT w.params).In h₀) (N' : News h₀ L s.heap ((D, W.listOf vs.toArray c) :: news)) (T' : Top qv (looseW qv loose0) mean mg mb h₀)
    (hi : i < p.length) (hk : k < i) (hp : p.length ≤ 1000) (hI : IntsAre vs (natsI tb)) (hlen : (natsI tb).length = p.length) (hD : ∀ q ∈ news, q.1 ≠ D)
    (te : List Stmt) (hte : (match ovFor[1]? with | some s => whE s | none => none) = some te)
    (h0 : ∀ h' tk' u vs', Fr h₀ L h' (kstB u [(Str.ofString "prefix", .str p tp), (Str.ofString "table", .ref D)]) → News h₀ L h' ((D, W.listOf vs'.toArray c) :: news) → IntsAre vs' (natsI (tb.set i (k + 1))) → Q .next { s with heap := h', toks := tk' })
    :
    wpAny (model pg w) (A.deeper (ovEnv L)) (execs te (ovEnv L)) Q No s := by
  have hfill : (PySem.Challenge.rw_re0100_02, KT) = (PySem.Challenge.rw_re0100_02, KT) := by k_fill; rfl
  clear hfill
  dsimp only [kstB] at F'
  w_on
  cases hte
  k_steps
  refine ksa_set F' N' (.head hD) hI (by omega) (by omega) (by omega) ?_
  intro h' F' N' hi' hl' hs'
  k_steps
  refine h0 _ _ _ _ (fr_norm _ (by assumption) ?_) (by assumption) ?_
  · intro q hq
    simp only [List.mem_cons, List.not_mem_nil, or_false] at hq
    rcases hq with rfl | rfl <;> rfl
  · rw [← natsI_set]; exact hi'
end
end Mine
end
section
set_option maxRecDepth 100000
set_option linter.unusedVariables false
set_option Elab.async false
set_option pp.maxSteps 3000
namespace Mine
open PySem PySem.W PySem.Calls PyProof.Rows
section
variable {w : World} {A : Around} {base : Heap} {outer : List Env} {h₀ : Heap} {L D : Addr} {mg mb : Str → Option Value} {news : List (Addr × Obj)} {mean : ExcName → Option Value}

theorem ov_while {i : Nat} {ti : Tok} {p : Str} {tp : Tok} {vs : List Value} {tb : List Nat} {c : Nat} {Q : Flow → Shared → Prop} {s₀ : Shared}
    (B' : Below A base outer h₀) (X' : (KT w.params).In h₀) (T' : Top qv (looseW qv loose0) mean mg mb h₀)
    (hi : i < p.length) (hp : p.length ≤ 1000) (hI : IntsAre vs (natsI tb)) (hlen : (natsI tb).length = p.length) (hD : ∀ q ∈ news, q.1 ≠ D)
    (hb : ∀ j, j < i → tb.getD j 0 ≤ j)
    (te : PySem.Expr) (hte : (match ovFor[1]? with | some s => whT s | none => none) = some te)
    (bo : List Stmt) (hbo : (match ovFor[1]? with | some s => whB s | none => none) = some bo)
    (el : List Stmt) (hel : (match ovFor[1]? with | some s => whE s | none => none) = some el) :
    ∀ (f k : Nat) (tk : Tok) (m : Str → Option Value) (h : Heap) (tks : Nat), k < f → k < i →
      Fr h₀ L h (kstB m [(Str.ofString "prefix", .str p tp), (Str.ofString "i", .int (i : Int) ti), (Str.ofString "idx", .int (k : Int) tk), (Str.ofString "table", .ref D)]) →
      News h₀ L h ((D, W.listOf vs.toArray c) :: news) →
      (∀ (v : Nat) h' tk' u vs', Fr h₀ L h' (kstB u [(Str.ofString "prefix", .str p tp), (Str.ofString "table", .ref D)]) → News h₀ L h' ((D, W.listOf vs'.toArray c) :: news) → IntsAre vs' (natsI (tb.set i v)) → v = ovW p.cps.toList tb (p.cps.toList.getD i 0) f k → Q .next { s₀ with heap := h', toks := tk' }) →
      WhlRest pg w (A.deeper (ovEnv L)) No (ovEnv L) te bo el Q f { s₀ with heap := h, toks := tks }
  | 0, k, _, _, _, _, h, _, _, _, _ => absurd h (Nat.not_lt_zero _)
  | f + 1, k, tk, m, h, tks, hf, hk, F', N', hQ' => by
    refine whl_turn PassesOwn.never ?_
    refine ov_test (news := (D, W.listOf vs.toArray c) :: news) B' F' X' N' T' hi hk hp te hte fun tk₁ => ?_
    by_cases hne : p.cps.toList.getD k 0 = p.cps.toList.getD i 0
    · refine WhlIf.no (by rw [bne_eq_false_iff_eq]; exact hne.symm) ?_
      refine ov_else B' F' X' N' T' hi hk hp hI hlen hD el hel fun h' tk' u vs' F N I => ?_
      exact hQ' (k + 1) h' tk' u vs' F N I (by rw [ovW, if_pos hne])
    · refine WhlIf.yes (by rw [bne_iff_ne]; exact fun e => hne e.symm) ?_
      refine ov_body B' F' X' N' T' hi hk hp hI hlen hD bo hbo (fun h0 h' tk' u vs' F N I => ?_) (fun h0 h' tk' u t F N => ?_)
      · exact hQ' 0 h' tk' u vs' F N I (by rw [ovW, if_neg hne, if_pos h0])
      · have hb' := hb (k - 1) (by omega)
        exact ov_while B' X' T' hi hp hI hlen hD hb te hte bo hbo el hel f _ t u h' tk' (by omega) (by omega) F N (fun v h'' tk'' u' vs' F N I e => hQ' v h'' tk'' u' vs' F N I (by rw [ovW, if_neg hne, if_neg h0]; exact e))

set_option maxHeartbeats 4000000 in
theorem ov_iter {s : Shared} {m : Str → Option Value} {Q : Value → Shared → Prop} {p : Str} {tp : Tok}
    (B' : Below A base outer h₀) (F' : Fr h₀ L s.heap (kstB m [(Str.ofString "prefix", .str p tp), (Str.ofString "table", .ref D)])) (X' : (KT w.params).In h₀) (N' : News h₀ L s.heap news) (T' : Top qv (looseW qv loose0) mean mg mb h₀)
    (hp : p.length ≤ 1000)
    (te : PySem.Expr) (hte : (match (fB (stm 1))[1]? with | some s => forI s | none => none) = some te)
    (h : ∀ h' tk' r t u v, IsRange h' r 1 p.length 1 t u v → Fr h₀ L h' (kstB m [(Str.ofString "prefix", .str p tp), (Str.ofString "table", .ref D)]) → News h₀ L h' news → Q (.ref r) { s with heap := h', toks := tk' }) :
    wpAny (model pg w) (A.deeper (ovEnv L)) (eval te (ovEnv L)) Q No s := by
  have hfill : (PySem.Challenge.rw_re0100_02, KT) = (PySem.Challenge.rw_re0100_02, KT) := by k_fill; rfl
  clear hfill
  dsimp only [kstB] at F'
  w_on
  cases hte
  k_steps
  exact h _ _ _ _ _ _ (by assumption) (by assumption) (by assumption)
set_option maxHeartbeats 4000000 in
theorem ov_first {s : Shared} {m : Str → Option Value} {Q : Flow → Shared → Prop} {i : Nat} {ti : Tok} {p : Str} {tp : Tok} {vs : List Value} {tb : List Nat} {c : Nat}
    (B' : Below A base outer h₀) (F' : Fr h₀ L s.heap (kstB m [(Str.ofString "i", .int (i : Int) ti), (Str.ofString "prefix", .str p tp), (Str.ofString "table", .ref D)])) (X' : (KT w.params).In h₀) (N' : News h₀ L s.heap ((D, W.listOf vs.toArray c) :: news)) (T' : Top qv (looseW qv loose0) mean mg mb h₀)
    (hi : i < p.length) (h0 : 0 < i) (hp : p.length ≤ 1000) (hI : IntsAre vs (natsI tb)) (hlen : (natsI tb).length = p.length)
    (te : Stmt) (hte : ovFor[0]? = some te)
    (h1 : ∀ h' tk' u t, Fr h₀ L h' (kstB u [(Str.ofString "prefix", .str p tp), (Str.ofString "i", .int (i : Int) ti), (Str.ofString "idx", .int (tb.getD (i - 1) 0 : Nat) t), (Str.ofString "table", .ref D)]) → News h₀ L h' ((D, W.listOf vs.toArray c) :: news) → Q .next { s with heap := h', toks := tk' })
    :
    wpAny (model pg w) (A.deeper (ovEnv L)) (exec te (ovEnv L)) Q No s := by
  have hfill : (PySem.Challenge.rw_re0100_02, KT) = (PySem.Challenge.rw_re0100_02, KT) := by k_fill; rfl
  clear hfill
  dsimp only [kstB] at F'
  w_on
  cases hte
  k_steps
  refine h1 _ _ _ ?_ (fr_norm _ (by assumption) ?_) (by assumption)
  rotate_left
  intro q hq
  simp only [List.mem_cons, List.not_mem_nil, or_false] at hq
  rcases hq with rfl | rfl | rfl | rfl
  · rfl
  · rfl
  · show some _ = some _
    rw [show ((i : Int) - 1).toNat = i - 1 by omega, natsI_getD]
  · rfl

/-- the table when the places below i + 1 are told -/
def tabAt (p : List Nat) (n i : Nat) : List Nat := ovT p (i + 1) ++ List.replicate (n - (i + 1)) 0
theorem tabAt_length {p : List Nat} {n i : Nat} (h : i < n) : (tabAt p n i).length = n := by
  rw [tabAt, List.length_append, ovT_length, List.length_replicate]; omega
theorem tabAt_getD {p : List Nat} {n i j : Nat} (h : j < i + 1) : (tabAt p n i).getD j 0 = (ovT p (i + 1)).getD j 0 := by
  rw [tabAt, List.getD_eq_getElem?_getD, List.getElem?_append_left (by rw [ovT_length]; exact h), ← List.getD_eq_getElem?_getD]
theorem ovW_congr {p tb tb' : List Nat} {c i : Nat} (h : ∀ j, j < i → tb.getD j 0 = tb'.getD j 0) (hb : ∀ j, j < i → tb.getD j 0 ≤ j) : ∀ f k, k ≤ i → ovW p tb c f k = ovW p tb' c f k
  | 0, _, _ => rfl
  | f + 1, k, hk => by
    unfold ovW
    split
    · rfl
    · split
      · rfl
      · have := hb (k - 1) (by omega)
        rw [ovW_congr h hb f _ (by omega), h (k - 1) (by omega)]
theorem ovT_le (p : List Nat) (n j : Nat) (h : j < n) : (ovT p n).getD j 0 ≤ j := by
  have := (ovT_max p n j h).1.1
  omega
theorem tabAt_succ {p : List Nat} {n i : Nat} (h : i + 1 < n) :
    (tabAt p n i).set (i + 1) (ovW p (tabAt p n i) (p.getD (i + 1) 0) (i + 2) ((tabAt p n i).getD i 0)) = tabAt p n (i + 1) := by
  have e1 : (tabAt p n i).getD i 0 = (ovT p (i + 1)).getD i 0 := tabAt_getD (by omega)
  have hb : ∀ j, j < i + 1 → (tabAt p n i).getD j 0 ≤ j := fun j hj => by rw [tabAt_getD hj]; exact ovT_le p _ _ hj
  rw [ovW_congr (tb' := ovT p (i + 1)) (i := i + 1) (fun j hj => tabAt_getD hj) hb _ _ (by have := hb i (by omega); omega), e1]
  unfold tabAt
  rw [ovT, List.set_append_right _ _ (by rw [ovT_length]; exact Nat.le_refl _), ovT_length, Nat.sub_self]
  obtain ⟨k, hk⟩ : ∃ k, n - (i + 1) = k + 1 := ⟨n - (i + 1) - 1, by omega⟩
  rw [hk, List.replicate_succ, List.set_cons_zero, List.append_assoc, show n - (i + 1 + 1) = k by omega]
  rfl
theorem tabAt_end {p : List Nat} {n : Nat} (h : 0 < n) : tabAt p n (n - 1) = ovT p n := by
  unfold tabAt
  rw [show n - 1 + 1 = n by omega, Nat.sub_self]; simp
theorem tabAt_zero {p : List Nat} {n : Nat} (h : 0 < n) : tabAt p n 0 = List.replicate n 0 := by
  unfold tabAt
  obtain ⟨k, rfl⟩ : ∃ k, n = k + 1 := ⟨n - 1, by omega⟩
  rw [show k + 1 - (0 + 1) = k by omega, List.replicate_succ]; rfl

theorem ov_for {s : Shared} {m : Str → Option Value} {Q : Flow → Shared → Prop} {p : Str} {tp : Tok} {vs : List Value}
    (B' : Below A base outer h₀) (F' : Fr h₀ L s.heap (kstB m [(Str.ofString "prefix", .str p tp), (Str.ofString "table", .ref D)])) (X' : (KT w.params).In h₀) (N' : News h₀ L s.heap ((D, W.listOf vs.toArray 0) :: news)) (T' : Top qv (looseW qv loose0) mean mg mb h₀) (hh : A.handled = none)
    (h0 : 0 < p.length) (hp : p.length ≤ 1000) (hI : IntsAre vs (natsI (List.replicate p.length 0))) (hD : ∀ q ∈ news, q.1 ≠ D)
    (te : Stmt) (hte : (fB (stm 1))[1]? = some te)
    (h1 : ∀ h' tk' u vs', Fr h₀ L h' (kstB u [(Str.ofString "prefix", .str p tp), (Str.ofString "table", .ref D)]) → News h₀ L h' ((D, W.listOf vs'.toArray 0) :: news) → IntsAre vs' (natsI (ovT p.cps.toList p.length)) → Q .next { s with heap := h', toks := tk' }) :
    wpAny (model pg w) (A.deeper (ovEnv L)) (exec te (ovEnv L)) Q No s := by
  cases hte
  refine for_start F' (by rfl) (by rfl) ?_
  refine ov_iter B' F' X' N' T' hp _ rfl fun h' tk' r t u v hr F₁ N₁ => ?_
  refine for_range (n := p.length - 1) (σ := List Value) (fun _ => [(Str.ofString "prefix", .str p tp), (Str.ofString "table", .ref D)]) (fun vs => (D, W.listOf vs.toArray 0) :: news) (fun i vs => IntsAre vs (natsI (tabAt p.cps.toList p.length i))) vs hh hr
    (small_one (by omega) (by omega) (by omega) (by omega)) (by rw [rangeSize_nat]; omega) F₁ N₁ (kstB_atN [Str.ofString "prefix", Str.ofString "table"] rfl (by decide)) (by rw [tabAt_zero h0]; exact hI) (fun _ => rfl) (fun _ => offN [Str.ofString "prefix", Str.ofString "table"] rfl (by decide)) ?_ ?_
  · rintro i k t' vs₁ u₁ h₂ tk₂ own hi rfl hI₁ hoff F₂ N₂
    have hi' : i + 1 < p.length := by omega
    have e : (1 : Int) + (i : Int) = ((i + 1 : Nat) : Int) := by omega
    rw [e] at F₂
    refine wpAny_execs_cons ?_
    have hlen : (natsI (tabAt p.cps.toList p.length i)).length = p.length := by rw [List.length_map, tabAt_length (by omega)]
    have hDo : ∀ q ∈ news ++ own, q.1 ≠ D := by
      intro q hq
      rcases List.mem_append.mp hq with hq | hq
      · exact hD q hq
      · exact hoff q hq D (by simp)
    refine ov_first (news := news ++ own) B' F₂ X' N₂ T' hi' (by omega) hp hI₁ hlen _ rfl fun h₃ tk₃ u₃ t₃ F₃ N₃ => ?_
    show wpAny _ _ _ _ _ _
    refine wpAny_execs_cons ?_
    have hb : ∀ j, j < i + 1 → (tabAt p.cps.toList p.length i).getD j 0 ≤ j := fun j hj => by rw [tabAt_getD hj]; exact ovT_le _ _ _ hj
    refine whl_start (i + 2) ?_
    rw [show i + 1 - 1 = i by omega] at F₃
    refine ov_while (s₀ := { s with heap := h₂, toks := tk₂ }) (news := news ++ own) B' X' T' hi' hp hI₁ hlen hDo hb _ rfl _ rfl _ rfl (i + 2) _ t₃ u₃ h₃ tk₃ (by have := hb i (by omega); omega) (by have := hb i (by omega); omega) F₃ N₃ ?_
    intro v' h₄ tk₄ u₄ vs₄ F₄ N₄ I₄ e₄
    show wpAny _ _ _ _ _ _
    refine wpAny_execs_nil ?_
    refine ⟨vs₄, _, h₄, tk₄, (D, W.listOf vs₄.toArray 0) :: (news ++ own), rfl, ?_, F₄, kstB_atN [Str.ofString "prefix", Str.ofString "table"] rfl (by decide), N₄, fun q hq => ?_, fun q hq => ?_⟩
    · rw [e₄, tabAt_succ hi'] at I₄
      exact I₄
    · rcases List.mem_cons.mp hq with rfl | hq
      · exact .head _
      · exact .tail _ (List.mem_append_left _ hq)
    · exact .tail _ (List.mem_append_right _ hq)
  · intro vs₁ u₁ h₂ tk₂ hI₁ F₂ N₂
    rw [tabAt_end h0] at hI₁
    exact h1 h₂ tk₂ u₁ vs₁ F₂ N₂ hI₁
end
end Mine
end
section
set_option maxRecDepth 100000
set_option linter.unusedVariables false
set_option Elab.async false
set_option pp.maxSteps 3000
namespace Mine
open PySem PySem.W PySem.Calls PyProof.Rows
section
variable {w : World} {A A₀ : Around} {base : Heap} {outer : List Env} {h₀ : Heap} {L : Addr} {mg mb : Str → Option Value} {news : List (Addr × Obj)} {mean : ExcName → Option Value}
set_option maxHeartbeats 4000000 in
theorem ov_s1 {s : Shared} {m : Str → Option Value} {Q : Flow → Shared → Prop} {p : Str} {t : Tok}
    (B' : Below A base outer h₀) (F' : Fr h₀ L s.heap (kstB m [(Str.ofString "prefix", .str p t)])) (X' : (KT w.params).In h₀) (N' : News h₀ L s.heap news) (T' : Top qv (looseW qv loose0) mean mg mb h₀) (hp : p.length ≤ 1000)
    (st : Stmt) (hst : (fB (stm 1))[0]? = some st)
    (h : ∀ D h' tk u vs, Fr h₀ L h' (kstB u [(Str.ofString "prefix", .str p t), (Str.ofString "table", .ref D)]) → News h₀ L h' ((D, W.listOf vs.toArray 0) :: news) → IntsAre vs (natsI (List.replicate p.length 0)) → (∀ q ∈ news, q.1 ≠ D) → Q .next { s with heap := h', toks := tk }) :
    wpAny (model pg w) (A.deeper (ovEnv L)) (exec st (ovEnv L)) Q No s := by
  have hfill : (PySem.Challenge.rw_re0100_02, KT) = (PySem.Challenge.rw_re0100_02, KT) := by k_fill; rfl
  clear hfill
  dsimp only [kstB] at F'
  w_on
  cases hst
  k_steps
  rename News _ _ _ (_ :: _ :: _) => kN
  rename_i l3 _ _
  refine h ?D _ _ _ (List.replicate p.length (Value.int 0 s.toks)) (fr_norm _ (by assumption) ?a) ?b ?c ?d
  case a =>
    intro q hq
    simp only [List.mem_cons, List.not_mem_nil, or_false] at hq
    rcases hq with rfl | rfl <;> rfl
  case b =>
    intro q hq
    have e : (List.replicate ((p.length : Int)).toNat [Value.int 0 s.toks]).flatten = List.replicate p.length (Value.int 0 s.toks) := by
      rw [Int.toNat_natCast]
      induction p.length with
      | zero => rfl
      | succ n ih => rw [List.replicate_succ, List.flatten_cons, ih, List.replicate_succ]; rfl
    rw [e] at kN
    rcases List.mem_cons.mp hq with rfl | hq
    · exact kN _ (.head _)
    · exact kN _ (.tail _ (.tail _ hq))
  case c =>
    induction p.length with
    | zero => exact .nil
    | succ n ih => exact .cons 0 s.toks ih
  case d =>
    intro q hq
    exact Nat.ne_of_lt (kst_ltOf l3.2 q hq)
set_option maxHeartbeats 4000000 in
theorem ov_s3 {s : Shared} {m : Str → Option Value} {Q : Flow → Shared → Prop} {p : Str} {t : Tok} {D : Addr}
    (B' : Below A base outer h₀) (F' : Fr h₀ L s.heap (kstB m [(Str.ofString "prefix", .str p t), (Str.ofString "table", .ref D)])) (X' : (KT w.params).In h₀) (N' : News h₀ L s.heap news) (T' : Top qv (looseW qv loose0) mean mg mb h₀)
    (st : Stmt) (hst : (fB (stm 1))[2]? = some st)
    (h : Q (.ret (.ref D)) s) :
    wpAny (model pg w) (A.deeper (ovEnv L)) (exec st (ovEnv L)) Q No s := by
  have hfill : (PySem.Challenge.rw_re0100_02, KT) = (PySem.Challenge.rw_re0100_02, KT) := by k_fill; rfl
  clear hfill
  dsimp only [kstB] at F'
  w_on
  cases hst
  k_steps
  exact h
set_option maxHeartbeats 4000000 in
theorem ov_call {s : Shared} {m : Str → Option Value} {env : Env} {Q : Value → Shared → Prop} {p : Str} {t : Tok}
    (B : Below A₀ base outer h₀) (F : Fr h₀ L s.heap m) (X₀ : (KT w.params).In h₀) (N : News h₀ L s.heap news) (T : Top qv (looseW qv loose0) mean mg mb h₀) (hA : A.frames = some (env :: outer)) (hf : env.frame = some L) (hke : env.scope.kind = .function) (hh : A.handled = none) (hroom : A.depth < recursionLimit)
    (h0 : 0 < p.length) (hp : p.length ≤ 1000)
    (h : ∀ D h' tk vs, Fr h₀ L h' m → News h₀ L h' ((D, W.listOf vs.toArray 0) :: news) → (∀ q ∈ news, q.1 ≠ D) → IntsAre vs (natsI (ovT p.cps.toList p.length)) → Q (.ref D) { s with heap := h', toks := tk }) : wpAny (model pg w) A (PySem.call (.ref 21) [.str p t]) Q No s := by
  w_on
  have hfill : (PySem.Challenge.rw_re0100_02, KT) = (PySem.Challenge.rw_re0100_02, KT) := by k_fill; rfl
  clear hfill
  refine wpAny_call ?_
  refine' code_def (binds := [(Str.ofString "prefix", .str p t)]) B F X₀ N T hA hf hke ?k6 ?k7 hroom ?k9 ?kB ?_ ?c2 ?c3 ?c4 ?c5
  case k6 => k_is
  case k7 => k_is
  case k9 => exact BindsTo.of_eq rfl
  case c5 => decide
  case kB => exact locs rfl
  case c2 => exact rfl
  case c3 => exact rfl
  case c4 => exact rfl
  intro g' L' h' FG' F' N' B' X' T'
  refine wpAny_mono (E := No) ?_ (fun _ _ x => x) fun _ _ x => x.elim
  have F₁ := fr_norm [(Str.ofString "prefix", .str p t)] F' (fun q hq => by obtain rfl := List.mem_singleton.mp hq; rfl)
  refine wpAny_execs_cons (ov_s1 B' F₁ X' N' T' hp _ rfl fun D h₂ tk₂ u₂ vs₂ F₂ N₂ I₂ hD => ?_)
  show wpAny _ _ _ _ _ _
  refine wpAny_execs_cons (ov_for B' F₂ X' N₂ T' hh h0 hp I₂ hD _ rfl fun h₃ tk₃ u₃ vs₃ F₃ N₃ I₃ => ?_)
  show wpAny _ _ _ _ _ _
  refine wpAny_execs_cons (ov_s3 B' F₃ X' N₃ T' _ rfl ?_)
  show LeaveK _ _ _ _ _ _ _
  exact leaveK_ F₃ N₃ fun F₄ N₄ => h D h₃ tk₃ vs₃ F₄ N₄ hD I₃
end
end Mine
end
section
set_option maxRecDepth 100000
set_option linter.unusedVariables false
set_option Elab.async false
set_option pp.maxSteps 3000
namespace Mine
open PySem PySem.W PySem.Calls PyProof.Rows PyProof.V PySem.Spec
section
variable {w : World}
def kvL : Nat → List (Int × Str) → List (Int × Value)
  | _, [] => []
  | T, kv :: r => (kv.1, .str kv.2 (T + 1)) :: kvL (T + 3) r
def kvS : Nat → List (Int × Str) → List (Int × Value)
  | _, [] => []
  | T, kv :: r => (kv.1, .str kv.2 (T + 1)) :: kvS (T + 2) r
def dOf (l : List (Int × Str)) : List (PyData × PyData) := l.map fun kv => (.int kv.1, .str kv.2)
theorem entL_pairs : ∀ (T : Nat) (l : List (Int × Str)), Pairs (intKind pg w) (entL T l) (kvL T l)
  | _, [] => .nil
  | T, kv :: r => .cons (intKind_is pg w kv.1 T) rfl (entL_pairs (T + 3) r)
theorem entS_pairs : ∀ (T : Nat) (l : List (Int × Str)), Pairs (intKind pg w) (entS T l) (kvS T l)
  | _, [] => .nil
  | T, kv :: r => .cons (intKind_is pg w kv.1 T) rfl (entS_pairs (T + 2) r)
theorem pairs_append {knd : KeyKind pg w Int} : ∀ {es es' : List DictEntry} {kvs kvs' : List (Int × Value)}, Pairs knd es kvs → Pairs knd es' kvs' → Pairs knd (es ++ es') (kvs ++ kvs')
  | _, _, _, _, .nil, h => h
  | _, _, _, _, .cons a b c, h => .cons a b (pairs_append c h)
theorem entL_keys : ∀ (T : Nat) (l : List (Int × Str)), ∀ e ∈ entL T l, ∃ k, (intKind pg w).is k e.key = true ∧ e.hash = (intKind pg w).hash k
  | _, [], _, h => nomatch h
  | T, kv :: r, e, h => by
    rcases List.mem_cons.mp h with rfl | h
    · exact ⟨kv.1, intKind_is pg w kv.1 T, rfl⟩
    · exact entL_keys (T + 3) r e h
theorem entS_keys : ∀ (T : Nat) (l : List (Int × Str)), ∀ e ∈ entS T l, ∃ k, (intKind pg w).is k e.key = true ∧ e.hash = (intKind pg w).hash k
  | _, [], _, h => nomatch h
  | T, kv :: r, e, h => by
    rcases List.mem_cons.mp h with rfl | h
    · exact ⟨kv.1, intKind_is pg w kv.1 T, rfl⟩
    · exact entS_keys (T + 2) r e h
theorem kvL_fst : ∀ (T : Nat) (l : List (Int × Str)), (kvL T l).map (·.1) = l.map (·.1)
  | _, [] => rfl
  | T, kv :: r => by rw [kvL, List.map_cons, List.map_cons, kvL_fst (T + 3) r]
theorem kvS_fst : ∀ (T : Nat) (l : List (Int × Str)), (kvS T l).map (·.1) = l.map (·.1)
  | _, [] => rfl
  | T, kv :: r => by rw [kvS, List.map_cons, List.map_cons, kvS_fst (T + 2) r]
theorem kvL_flat : ∀ (T : Nat) (l : List (Int × Str)), FlatPairs PyData.int (kvL T l) (dOf l)
  | _, [] => .nil
  | T, kv :: r => .cons (.str _ _) (kvL_flat (T + 3) r)
theorem kvS_flat : ∀ (T : Nat) (l : List (Int × Str)), FlatPairs PyData.int (kvS T l) (dOf l)
  | _, [] => .nil
  | T, kv :: r => .cons (.str _ _) (kvS_flat (T + 2) r)
theorem flat_append : ∀ {kvs kvs' : List (Int × Value)} {D D' : List (PyData × PyData)}, FlatPairs PyData.int kvs D → FlatPairs PyData.int kvs' D' → FlatPairs PyData.int (kvs ++ kvs') (D ++ D')
  | _, _, _, _, .nil, h => h
  | _, _, _, _, .cons a b, h => .cons a (flat_append b h)
theorem rise_le : ∀ {l : List (Int × Str)} {b : Int}, Rise b l → ∀ kv ∈ l, b ≤ hashInt kv.1
  | _ :: _, _, h, kv, hm => by
    rcases List.mem_cons.mp hm with rfl | hm
    · exact h.1
    · have := rise_le h.2 kv hm; have := h.1; omega
theorem rise_nodup : ∀ {l : List (Int × Str)} {b : Int}, Rise b l → (l.map (·.1)).Nodup
  | [], _, _ => List.nodup_nil
  | kv :: r, _, h => by
    rw [List.map_cons, List.nodup_cons]
    refine ⟨fun hm => ?_, rise_nodup h.2⟩
    obtain ⟨q, hq, e⟩ := List.mem_map.mp hm
    have := rise_le h.2 q hq
    rw [e] at this
    omega
theorem tbl_split : (tbl.take 17 ++ (chunks 37 (tbl.drop 17)).flatten) ++ tbl.drop (17 * 38) = tbl := by
  have e := chunks_flat 37 (tbl.drop 17)
  rw [List.drop_drop] at e
  rw [List.append_assoc, show 17 * 38 = 17 + 17 * 37 by rfl, e, List.take_append_drop]
theorem dOf_append (a b : List (Int × Str)) : dOf (a ++ b) = dOf a ++ dOf b := List.map_append
theorem dObj_tab {T T' n : Nat} {a b l : List (Int × Str)} (hl : a ++ b = l) (hr : Rise 0 l) {h : Heap} {d : Addr} (hd : (d == sysModules) = false) (ho : h.get? d = some (dObj (entL T a ++ entS T' b) n)) : TabAt (intKind pg w) PyData.int h d (dOf l) := by
  subst hl
  refine TabAt.ofObj (kvs := kvL T a ++ kvS T' b) hd ho ⟨_, _, ⟨rfl, rfl, rfl⟩, rfl, ?_, ?_, ?_⟩ ?_
  · intro e he
    rw [List.mem_toArray] at he
    rcases List.mem_append.mp he with he | he
    · exact entL_keys _ _ e he
    · exact entS_keys _ _ e he
  · exact pairs_append (entL_pairs _ _) (entS_pairs _ _)
  · rw [List.map_append, kvL_fst, kvS_fst, ← List.map_append]
    exact rise_nodup hr
  · rw [dOf_append]
    exact flat_append (kvL_flat _ _) (kvS_flat _ _)
theorem dMain_tab {h : Heap} (X : (KT w.params).In h) : TabAt (intKind pg w) PyData.int h 40 (dOf tbl) := by
  have ho : h.get? 40 = some dMain := X 40 dMain (by kernel_rfl)
  exact dObj_tab tbl_split (rise_of tbl_rise) (by decide) ho
theorem lookup_dOf (c : Int) : ∀ (l : List (Int × Str)), Spec.lookup (.int c) (dOf l) = (l.lookup c).map .str
  | [] => rfl
  | kv :: r => by
    have ih := lookup_dOf c r
    rw [dOf, List.map_cons, List.lookup_cons]
    unfold Spec.lookup
    by_cases h : c = kv.1
    · subst h; rw [same_int]; simp
    · rw [show (c == kv.1) = false by simpa using h]
      rw [same_int, show decide (kv.1 = c) = false from decide_eq_false fun e => h e.symm]
      exact ih
/-- what the law's signs are in table B.3 -/
def b3s : List (Nat × List Nat) := [(102, [102]), (70, [102]), (8497, [102]), (119813, [102]), (120437, [102]), (105, [105]), (73, [105]), (8464, [105]), (8465, [105]), (119816, [105]), (64257, [102, 105]), (64256, [102, 102]), (64259, [102, 102, 105])]
def b1s : List Nat := [173, 847, 6150, 6155, 6156, 6157, 8203, 8204, 8205, 8288, 65024, 65025, 65026, 65027, 65028, 65029, 65030, 65031, 65032, 65033, 65034, 65035, 65036, 65037, 65038, 65039, 65279]
theorem b3_look : b3s.all (fun p => decide (tbl.lookup (p.1 : Int) = if p.1 < 128 then none else some ⟨p.2.toArray⟩)) = true := by decide +kernel
/-- the set's elements in its own order, with their tokens -/
def setL : Obj → List (Int × Value) | ⟨_, _, .set es _ _, _⟩ => es.toList | _ => []
def b1o (P : Params) : List (Int × Nat) := (setL (ob25 P)).map fun e => match e.2 with | .int k t => (k, t) | _ => (0, 0)
def inB1 (k : Int) : Bool := b1s.any fun n => ((n : Nat) : Int) == k
theorem b1o_eq (P : Params) : setL (ob25 P) = (b1o P).map fun p => (hashInt p.1, Value.int p.1 p.2) := by kernel_rfl
theorem b1o_in (P : Params) : (b1o P).all (fun p => inB1 p.1) = true := by kernel_rfl
theorem b1o_all (P : Params) : b1s.all (fun n => (b1o P).any fun p => p.1 == ((n : Nat) : Int)) = true := by kernel_rfl
theorem set_of {h : Heap} (X : (KT w.params).In h) : h.SetOf (intKind pg w) 29 inB1 27 := by
  have ho : h.get? 29 = some (ob25 w.params) := X 29 _ (by kernel_rfl)
  refine ⟨_, _, _, _, ho, ⟨rfl, rfl, rfl⟩, rfl, ?_, ?_, by decide, by rfl, by rfl⟩
  · show ElemsOf _ (setL (ob25 w.params))
    rw [b1o_eq]
    intro e he
    obtain ⟨p, hp, rfl⟩ := List.mem_map.mp he
    exact ⟨⟨_, intKind_is pg w _ _, rfl⟩, rfl⟩
  · show ∀ k, _ ↔ ∃ e ∈ setL (ob25 w.params), _
    rw [b1o_eq]
    intro k
    constructor
    · intro hk
      obtain ⟨n, hn, e⟩ := List.any_eq_true.mp hk
      have h1 := List.all_eq_true.mp (b1o_all w.params) n hn
      obtain ⟨p, hp, e2⟩ := List.any_eq_true.mp h1
      refine ⟨_, List.mem_map.mpr ⟨p, hp, rfl⟩, ?_⟩
      have e3 : p.1 = k := by rw [beq_iff_eq.mp e2]; exact beq_iff_eq.mp e
      subst e3
      exact intKind_is pg w _ _
    · rintro ⟨e, he, hk⟩
      obtain ⟨p, hp, rfl⟩ := List.mem_map.mp he
      have h1 := List.all_eq_true.mp (b1o_in w.params) p hp
      have e3 : k = p.1 := (intKind pg w).inj _ _ _ hk (intKind_is pg w p.1 p.2)
      rw [e3]; exact h1
end
end Mine
end
section
set_option maxRecDepth 100000
set_option linter.unusedVariables false
set_option Elab.async false
set_option pp.maxSteps 3000
namespace Mine
open PySem PySem.W PySem.Calls PyProof.Rows
abbrev b1Env (L : Addr) : Env := envOf (Str.ofString "in_table_b1") (fS (stm 4)) L 39 (Value.ref 38)
abbrev b3Env (L : Addr) : Env := envOf (Str.ofString "map_table_b3") (fS (stm 6)) L 85 (Value.ref 84)
section
variable {w : World} {A A₀ : Around} {base : Heap} {outer : List Env} {h₀ : Heap} {L : Addr} {mg mb : Str → Option Value} {news : List (Addr × Obj)} {mean : ExcName → Option Value}
set_option maxHeartbeats 4000000 in
theorem b1_s0 {s : Shared} {m : Str → Option Value} {Q : Flow → Shared → Prop} {c : Nat} {t : Tok}
    (B' : Below A base outer h₀) (F' : Fr h₀ L s.heap (kstB m [(Str.ofString "code", .str ⟨#[c]⟩ t)])) (X' : (KT w.params).In h₀) (N' : News h₀ L s.heap news) (T' : Top qv (looseW qv loose0) mean mg mb h₀) 
    (st : Stmt) (hst : (fB (stm 4))[0]? = some st)
    (h : ∀ tk, Q (.ret (.bool (inB1 (c : Int)))) { s with toks := tk }) :
    wpAny (model pg w) (A.deeper (b1Env L)) (exec st (b1Env L)) Q No s := by
  have hfill : (PySem.Challenge.rw_re0100_02, KT) = (PySem.Challenge.rw_re0100_02, KT) := by k_fill; rfl
  clear hfill
  have S' := set_of X'
  dsimp only [kstB] at F'
  w_on
  cases hst
  k_steps
  refine wpAny_inSet_of (knd := intKind pg w) (intKind_is pg w _ _) rfl (S := inB1) (n := 27) ?_ (h _)
  obtain ⟨o, es, ep, t', ho, r⟩ := S'
  exact ⟨o, es, ep, t', F'.keep _ _ ho, r⟩
set_option maxHeartbeats 4000000 in
theorem b1_call {s : Shared} {m : Str → Option Value} {env : Env} {Q : Value → Shared → Prop} {c : Nat} {t : Tok}
    (B : Below A₀ base outer h₀) (F : Fr h₀ L s.heap m) (X₀ : (KT w.params).In h₀) (N : News h₀ L s.heap news) (T : Top qv (looseW qv loose0) mean mg mb h₀) (hA : A.frames = some (env :: outer)) (hf : env.frame = some L) (hke : env.scope.kind = .function) (hh : A.handled = none) (hroom : A.depth < recursionLimit)
    (h : ∀ h' tk, Fr h₀ L h' m → News h₀ L h' news → Q (.bool (inB1 (c : Int))) { s with heap := h', toks := tk }) : wpAny (model pg w) A (PySem.call (.ref 39) [.str ⟨#[c]⟩ t]) Q No s := by
  w_on
  have hfill : (PySem.Challenge.rw_re0100_02, KT) = (PySem.Challenge.rw_re0100_02, KT) := by k_fill; rfl
  clear hfill
  refine wpAny_call ?_
  refine' code_def (binds := [(Str.ofString "code", .str ⟨#[c]⟩ t)]) B F X₀ N T hA hf hke ?k6 ?k7 hroom ?k9 ?kB ?_ ?c2 ?c3 ?c4 ?c5
  case k6 => k_is
  case k7 => k_is
  case k9 => exact BindsTo.of_eq rfl
  case c5 => decide
  case kB => exact locs rfl
  case c2 => exact rfl
  case c3 => exact rfl
  case c4 => exact rfl
  intro g' L' h' FG' F' N' B' X' T'
  refine wpAny_mono (E := No) ?_ (fun _ _ x => x) fun _ _ x => x.elim
  have F₁ := fr_norm [(Str.ofString "code", .str ⟨#[c]⟩ t)] F' (fun q hq => by obtain rfl := List.mem_singleton.mp hq; rfl)
  refine wpAny_execs_cons (b1_s0 B' F₁ X' N' T' _ rfl fun tk => ?_)
  show LeaveK _ _ _ _ _ _ _
  exact leaveK_ F₁ N' fun F₄ N₄ => h h' tk F₄ N₄

set_option maxHeartbeats 4000000 in
theorem b3_s0 {s : Shared} {m : Str → Option Value} {Q : Flow → Shared → Prop} {c : Nat} {t : Tok}
    (B' : Below A base outer h₀) (F' : Fr h₀ L s.heap (kstB m [(Str.ofString "code", .str ⟨#[c]⟩ t)])) (X' : (KT w.params).In h₀) (N' : News h₀ L s.heap news) (T' : Top qv (looseW qv loose0) mean mg mb h₀) 
    (st : Stmt) (hst : (fB (stm 6))[0]? = some st)
    (h : ∀ h' tk u v, Fr h₀ L h' (kstB u [(Str.ofString "code", .str ⟨#[c]⟩ t), (Str.ofString "r", v)]) → News h₀ L h' news → PyProof.V.Flat v (((tbl.lookup (c : Int)).map PyData.str).getD .none) → Q .next { s with heap := h', toks := tk }) :
    wpAny (model pg w) (A.deeper (b3Env L)) (exec st (b3Env L)) Q No s := by
  have hfill : (PySem.Challenge.rw_re0100_02, KT) = (PySem.Challenge.rw_re0100_02, KT) := by k_fill; rfl
  clear hfill
  have T40 := dMain_tab X'
  have hl := lookup_dOf (c : Int) tbl
  revert T40 hl
  generalize dOf tbl = D
  intro T40 hl
  dsimp only [kstB] at F'
  w_on
  cases hst
  k_steps
  refine h _ _ _ ?v (fr_norm _ (by assumption) ?a) (by assumption) ?b
  case a =>
    intro q hq
    simp only [List.mem_cons, List.not_mem_nil, or_false] at hq
    rcases hq with rfl | rfl <;> rfl
  case b => rw [← hl]; assumption
set_option maxHeartbeats 4000000 in
theorem b3_tail1 {s : Shared} {m : Str → Option Value} {Q : Flow → Shared → Prop} {c : Nat} {t : Tok} {v : Str} {tv : Tok}
    (B' : Below A base outer h₀) (F' : Fr h₀ L s.heap (kstB m [(Str.ofString "code", .str ⟨#[c]⟩ t), (Str.ofString "r", .str v tv)])) (X' : (KT w.params).In h₀) (N' : News h₀ L s.heap news) (T' : Top qv (looseW qv loose0) mean mg mb h₀) 
    (st : List Stmt) (hst : (match fB (stm 6) with | _ :: r => some r | _ => none) = some st)
    (h : Q (.ret (.str v tv)) s) :
    wpAny (model pg w) (A.deeper (b3Env L)) (execs st (b3Env L)) Q No s := by
  have hfill : (PySem.Challenge.rw_re0100_02, KT) = (PySem.Challenge.rw_re0100_02, KT) := by k_fill; rfl
  clear hfill
  dsimp only [kstB] at F'
  w_on
  cases hst
  k_steps
  exact h
set_option maxHeartbeats 4000000 in
theorem b3_tail2 {s : Shared} {m : Str → Option Value} {Q : Flow → Shared → Prop} {c : Nat} {t : Tok} 
    (B' : Below A base outer h₀) (F' : Fr h₀ L s.heap (kstB m [(Str.ofString "code", .str ⟨#[c]⟩ t), (Str.ofString "r", .none)])) (X' : (KT w.params).In h₀) (N' : News h₀ L s.heap news) (T' : Top qv (looseW qv loose0) mean mg mb h₀) 
    (st : List Stmt) (hst : (match fB (stm 6) with | _ :: r => some r | _ => none) = some st) 
    (h : ∀ tk tv, Q (.ret (.str (Txt.lower ⟨#[c]⟩) tv)) { s with toks := tk }) :
    wpAny (model pg w) (A.deeper (b3Env L)) (execs st (b3Env L)) Q No s := by
  have hfill : (PySem.Challenge.rw_re0100_02, KT) = (PySem.Challenge.rw_re0100_02, KT) := by k_fill; rfl
  clear hfill
  dsimp only [kstB] at F'
  w_on
  cases hst
  k_steps
  refine SCL.lower (by show (1 : Nat) ≤ _; decide) fun _ => ?_
  exact h _ _
theorem lower_low : b3s.all (fun p => p.1 < 128 → decide (Txt.lower ⟨#[p.1]⟩ = ⟨p.2.toArray⟩)) = true := by decide +kernel
set_option maxHeartbeats 4000000 in
theorem b3_call {s : Shared} {m : Str → Option Value} {env : Env} {Q : Value → Shared → Prop} {c : Nat} {v : List Nat} {t : Tok} (hc : (c, v) ∈ b3s)
    (B : Below A₀ base outer h₀) (F : Fr h₀ L s.heap m) (X₀ : (KT w.params).In h₀) (N : News h₀ L s.heap news) (T : Top qv (looseW qv loose0) mean mg mb h₀) (hA : A.frames = some (env :: outer)) (hf : env.frame = some L) (hke : env.scope.kind = .function) (hh : A.handled = none) (hroom : A.depth < recursionLimit)
    (h : ∀ h' tk tv, Fr h₀ L h' m → News h₀ L h' news → Q (.str ⟨v.toArray⟩ tv) { s with heap := h', toks := tk }) : wpAny (model pg w) A (PySem.call (.ref 85) [.str ⟨#[c]⟩ t]) Q No s := by
  w_on
  have hfill : (PySem.Challenge.rw_re0100_02, KT) = (PySem.Challenge.rw_re0100_02, KT) := by k_fill; rfl
  clear hfill
  refine wpAny_call ?_
  refine' code_def (binds := [(Str.ofString "code", .str ⟨#[c]⟩ t)]) B F X₀ N T hA hf hke ?k6 ?k7 hroom ?k9 ?kB ?_ ?c2 ?c3 ?c4 ?c5
  case k6 => k_is
  case k7 => k_is
  case k9 => exact BindsTo.of_eq rfl
  case c5 => decide
  case kB => exact locs rfl
  case c2 => exact rfl
  case c3 => exact rfl
  case c4 => exact rfl
  intro g' L' h' FG' F' N' B' X' T'
  refine wpAny_mono (E := No) ?_ (fun _ _ x => x) fun _ _ x => x.elim
  have F₁ := fr_norm [(Str.ofString "code", .str ⟨#[c]⟩ t)] F' (fun q hq => by obtain rfl := List.mem_singleton.mp hq; rfl)
  have hl : List.lookup (c : Int) tbl = if c < 128 then none else some ⟨v.toArray⟩ := of_decide_eq_true (List.all_eq_true.mp b3_look (c, v) hc)
  refine wpAny_execs_cons (b3_s0 B' F₁ X' N' T' _ rfl fun h₂ tk₂ u₂ r F₂ N₂ hr => ?_)
  show wpAny _ _ _ _ _ _
  rw [hl] at hr
  by_cases h128 : c < 128
  · rw [if_pos h128] at hr
    obtain rfl : r = .none := by cases hr h₂; rfl
    refine b3_tail2 B' F₂ X' N₂ T' _ rfl fun tk tv => ?_
    show LeaveK _ _ _ _ _ _ _
    have e : Txt.lower ⟨#[c]⟩ = ⟨v.toArray⟩ := of_decide_eq_true (of_decide_eq_true (List.all_eq_true.mp lower_low (c, v) hc) h128)
    rw [e]
    exact leaveK_ F₂ N₂ fun F₄ N₄ => h h₂ tk tv F₄ N₄
  · rw [if_neg h128] at hr
    obtain ⟨tv, rfl⟩ := PyProof.V.Flat.str_inv hr
    refine b3_tail1 B' F₂ X' N₂ T' _ rfl ?_
    show LeaveK _ _ _ _ _ _ _
    exact leaveK_ F₂ N₂ fun F₄ N₄ => h h₂ tk₂ tv F₄ N₄
end
end Mine
end
section
set_option maxRecDepth 100000
set_option linter.unusedVariables false
set_option Elab.async false
set_option pp.maxSteps 3000
namespace Mine
open PySem PySem.W PySem.Calls PyProof.Rows
abbrev seEnv (L : Addr) : Env := envOf (Str.ofString "_law_seals") (fS (stm 8)) L 92 (Value.ref 91)
abbrev cA (E : Env) : Around := callerA.deeper E
def seB : List Stmt := match (fB (stm 8))[2]? with | some s => forB s | none => []
section
variable {w : World} {E : Env} {A : Around} {base : Heap} {outer : List Env} {h₀ : Heap} {L D : Addr} {mg mb : Str → Option Value} {news : List (Addr × Obj)} {mean : ExcName → Option Value}
local macro_rules | `(tactic| walk_at "call ref") => `(tactic| refine stopW ?_)
theorem deeper_frames {env : Env} (B : Below A base outer h₀) : (A.deeper env).frames = some (env :: outer) := by
  show A.frames.map (env :: ·) = _
  rw [B.stack]; rfl
set_option maxHeartbeats 1000000 in
theorem se_s0 {s : Shared} {m : Str → Option Value} {Q : Flow → Shared → Prop} {wl : List Nat} {tw : Tok}
    (B' : Below (cA E) base [E] h₀) (F₀ : Fr h₀ L s.heap m) (hw : m (Str.ofString "row") = some (.str ⟨wl.toArray⟩ tw)) (X' : (KT w.params).In h₀) (N' : News h₀ L s.heap news) (T' : Top qv (looseW qv loose0) mean mg mb h₀)
    (hwl : wl.length ≤ 250) (hw1 : 1 ≤ wl.length)
    (st : Stmt) (hst : (fB (stm 8))[0]? = some st)
    (h : ∀ T h' tk vs, Fr h₀ L h' (upd m (Str.ofString "table") (.ref T)) → News h₀ L h' ((T, PySem.W.listOf vs.toArray 0) :: news) → IntsAre vs (natsI (ovT wl wl.length)) → Q .next { s with heap := h', toks := tk }) :
    wpAny (model pg w) ((cA E).deeper (seEnv L)) (exec st (seEnv L)) Q No s := by
  have hfill : (PySem.Challenge.rw_re0100_02, KT) = (PySem.Challenge.rw_re0100_02, KT) := by k_fill; rfl
  clear hfill
  have hk := all1 hw
  have F' := fr_norm _ F₀ hk
  clear F₀
  dsimp only [kstB] at F'
  w_on
  cases hst
  k_steps
  refine Stop.out ?_
  have F1 := fr_same hk F'
  have hl1 : (⟨wl.toArray⟩ : Str).length = wl.length := List.size_toArray ..
  with_reducible refine ov_call B' F1 X' N' T' (deeper_frames B') rfl rfl rfl (by k_room) (by rw [hl1]; omega) (by rw [hl1]; omega) fun T h₂ tk₂ vs F₂ N₂ hT I₂ => ?_
  rw [hl1] at I₂
  refine storeX_L F₂ N₂ fun h3 F₃ N₃ => ?_
  exact h T h3 _ vs F₃ N₃ I₂
set_option maxHeartbeats 1000000 in
theorem se_s1 {s : Shared} {m : Str → Option Value} {Q : Flow → Shared → Prop} 
    (B' : Below (cA E) base [E] h₀) (F' : Fr h₀ L s.heap m) (X' : (KT w.params).In h₀) (N' : News h₀ L s.heap news) (T' : Top qv (looseW qv loose0) mean mg mb h₀)
    (st : Stmt) (hst : (fB (stm 8))[1]? = some st)
    (h : ∀ S M h' tk oM, Fr h₀ L h' (upd (upd m (Str.ofString "last") (.ref M)) (Str.ofString "seals") (.ref S)) → News h₀ L h' ((M, oM) :: (S, PySem.W.listOf #[] 0) :: news) → oM.IsDictOf (intKind pg w) [] → (M == sysModules) = false → (∀ q ∈ news, q.1 ≠ S ∧ q.1 ≠ M) → S ≠ M → Q .next { s with heap := h', toks := tk }) :
    wpAny (model pg w) ((cA E).deeper (seEnv L)) (exec st (seEnv L)) Q No s := by
  have hfill : (PySem.Challenge.rw_re0100_02, KT) = (PySem.Challenge.rw_re0100_02, KT) := by k_fill; rfl
  clear hfill
  w_on
  cases hst
  k_steps
  rename Fr _ _ _ _ => F₂
  rename News _ _ _ _ => N₂
  rename Obj.IsDictOf (intKind pg w) _ _ => hd
  rename_i S _ hlt1 M _ _ lo _ _ _ hlt2 _ _ _ _ _ _
  exact h S M _ _ _ F₂ (kst_newsOf N₂ fun p hp => .tail _ hp) hd lo (fun q hq => ⟨Nat.ne_of_lt (hlt1 q hq), Nat.ne_of_lt (kst_ltOf hlt2.2 q hq)⟩) (Nat.ne_of_lt hlt2.1)
/-- the plain mirror of the seals -/
def getL (k : Nat) : List (Nat × Nat) → Nat
  | [] => 0
  | p :: r => if p.1 = k then p.2 else getL k r
def sealOf (tl seals : List Nat) (M : List (Nat × Nat)) (size : Nat) : Nat :=
  if getL (if 0 < tl.getD (size - 1) 0 then seals.getD (tl.getD (size - 1) 0 - 1) 0 else size) M < size - (if 0 < tl.getD (size - 1) 0 then seals.getD (tl.getD (size - 1) 0 - 1) 0 else size) then size
  else if 0 < tl.getD (size - 1) 0 then seals.getD (tl.getD (size - 1) 0 - 1) 0 else size
def sealsN (tl : List Nat) : Nat → List Nat × List (Nat × Nat)
  | 0 => ([], [])
  | n + 1 => ((sealsN tl n).1 ++ [sealOf tl (sealsN tl n).1 (sealsN tl n).2 (n + 1)], (sealOf tl (sealsN tl n).1 (sealsN tl n).2 (n + 1), n + 1) :: (sealsN tl n).2)
theorem sealsN_length (tl : List Nat) : ∀ n, (sealsN tl n).1.length = n
  | 0 => rfl
  | n + 1 => by rw [sealsN, List.length_append, sealsN_length tl n]; rfl
abbrev PD := List (PyData × PyData)
structure MapIs (D : PD) (M : List (Nat × Nat)) (n : Nat) : Prop where
  at_ : ∀ k : Nat, (PySem.Spec.lookup (.int (k : Int)) D).getD (.int 0) = .int (getL k M : Nat)
  len : D.length ≤ n
theorem MapIs.nil : MapIs [] [] 0 := ⟨fun _ => rfl, Nat.le_refl _⟩
theorem MapIs.put {D : PD} {M : List (Nat × Nat)} {n : Nat} (h : MapIs D M n) (z v : Nat) : MapIs (PyProof.V.putD (.int (z : Int)) (.int (v : Int)) D) ((z, v) :: M) (n + 1) := by
  refine ⟨fun k => ?_, Nat.le_trans (PyProof.V.putD_length_le _ _ _) (Nat.succ_le_succ h.len)⟩
  rw [lookup_putD_int]
  show _ = PyData.int ((if z = k then v else getL k M : Nat) : Int)
  by_cases e : z = k
  · subst e; simp
  · have e' : ¬ ((k : Int) = (z : Int)) := by omega
    simp [e, e', h.at_ k]
end
end Mine
end
section
set_option maxRecDepth 100000
set_option linter.unusedVariables false
set_option Elab.async false
set_option pp.maxSteps 3000
namespace Mine
open PySem PySem.W PySem.Calls PyProof.Rows
theorem upd_id {m : Str → Option Value} {x : Str} {v : Value} (h : m x = some v) : upd m x v = m := funext fun y => by
  unfold upd
  split
  · rename_i e; rw [e, h]
  · rfl
section
variable {w : World} {E : Env} {A : Around} {base : Heap} {outer : List Env} {h₀ : Heap} {L D : Addr} {mg mb : Str → Option Value} {news : List (Addr × Obj)} {mean : ExcName → Option Value}
set_option maxHeartbeats 1000000 in
theorem se_b0 {s : Shared} {m : Str → Option Value} {Q : Flow → Shared → Prop} {T : Addr} {vs : List Value} {tl : List Nat} {sz : Nat} {ts : Tok} {nt : Nat}
    (B' : Below (cA E) base [E] h₀) (F₀ : Fr h₀ L s.heap m) (hT : m (Str.ofString "table") = some (.ref T)) (hz : m (Str.ofString "size") = some (.int (sz : Int) ts)) (X' : (KT w.params).In h₀) (N' : News h₀ L s.heap ((T, PySem.W.listOf vs.toArray nt) :: news)) (T' : Top qv (looseW qv loose0) mean mg mb h₀)
    (hI : IntsAre vs (natsI tl)) (hl : tl.length ≤ 250) (h1 : 1 ≤ sz) (h2 : sz ≤ tl.length)
    (st : Stmt) (hst : seB[0]? = some st)
    (h : ∀ h' tk t, Fr h₀ L h' (upd m (Str.ofString "border") (.int ((tl.getD (sz - 1) 0 : Nat) : Int) t)) → News h₀ L h' ((T, PySem.W.listOf vs.toArray nt) :: news) → Q .next { s with heap := h', toks := tk }) :
    wpAny (model pg w) ((cA E).deeper (seEnv L)) (exec st (seEnv L)) Q No s := by
  have hfill : (PySem.Challenge.rw_re0100_02, KT) = (PySem.Challenge.rw_re0100_02, KT) := by k_fill; rfl
  clear hfill
  have hk := allC hT (all1 hz)
  have F' := fr_norm _ F₀ hk
  clear F₀
  have hll : (natsI tl).length = tl.length := List.length_map ..
  dsimp only [kstB] at F'
  w_on
  cases hst
  k_steps
  rename Fr _ _ _ _ => F₂
  rw [show ((sz : Int) - 1).toNat = sz - 1 by omega, natsI_getD] at F₂
  exact h _ _ _ (fr_upd hk F₂) (by assumption)
set_option maxHeartbeats 1000000 in
theorem se_b1 {s : Shared} {m : Str → Option Value} {Q : Flow → Shared → Prop} {S : Addr} {vs : List Value} {sl : List Nat} {sz bd : Nat} {ts tb : Tok} {nt : Nat}
    (B' : Below (cA E) base [E] h₀) (F₀ : Fr h₀ L s.heap m) (hT : m (Str.ofString "seals") = some (.ref S)) (hz : m (Str.ofString "size") = some (.int (sz : Int) ts)) (hb : m (Str.ofString "border") = some (.int (bd : Int) tb)) (X' : (KT w.params).In h₀) (N' : News h₀ L s.heap ((S, PySem.W.listOf vs.toArray nt) :: news)) (T' : Top qv (looseW qv loose0) mean mg mb h₀)
    (hI : IntsAre vs (natsI sl)) (hl : sl.length ≤ 250) (h2 : bd ≤ sl.length)
    (st : Stmt) (hst : seB[1]? = some st)
    (h : ∀ h' tk t, Fr h₀ L h' (upd m (Str.ofString "seal") (.int ((if 0 < bd then sl.getD (bd - 1) 0 else sz : Nat) : Int) t)) → News h₀ L h' ((S, PySem.W.listOf vs.toArray nt) :: news) → Q .next { s with heap := h', toks := tk }) :
    wpAny (model pg w) ((cA E).deeper (seEnv L)) (exec st (seEnv L)) Q No s := by
  have hfill : (PySem.Challenge.rw_re0100_02, KT) = (PySem.Challenge.rw_re0100_02, KT) := by k_fill; rfl
  clear hfill
  have hk := allC hT (allC hz (all1 hb))
  have F' := fr_norm _ F₀ hk
  clear F₀
  have hll : (natsI sl).length = sl.length := List.length_map ..
  dsimp only [kstB] at F'
  w_on
  cases hst
  k_steps
  · rename Fr _ _ _ _ => F₂
    rename_i hp _ _
    rw [show ((bd : Int) - 1).toNat = bd - 1 by omega, natsI_getD] at F₂
    rw [if_pos (by omega)] at h
    exact h _ _ _ (fr_upd hk F₂) (by assumption)
  · rename Fr _ _ _ _ => F₂
    rename_i hp _
    rw [if_neg (by omega)] at h
    exact h _ _ _ (fr_upd hk F₂) (by assumption)
set_option maxHeartbeats 1000000 in
theorem se_b2 {s : Shared} {m : Str → Option Value} {Q : Flow → Shared → Prop} {M : Addr} {oM : Obj} {kvs : List (Int × Value)} {DD : PD} {al : List (Nat × Nat)} {sz s0 : Nat} {ts tb : Tok} {n : Nat}
    (B' : Below (cA E) base [E] h₀) (F₀ : Fr h₀ L s.heap m) (hT : m (Str.ofString "last") = some (.ref M)) (hz : m (Str.ofString "size") = some (.int (sz : Int) ts)) (hb : m (Str.ofString "seal") = some (.int (s0 : Int) tb)) (X' : (KT w.params).In h₀) (N' : News h₀ L s.heap ((M, oM) :: news)) (T' : Top qv (looseW qv loose0) mean mg mb h₀)
    (lo : (M == sysModules) = false) (hd : oM.IsDictOf (intKind pg w) kvs) (hf : PyProof.V.FlatPairs PyData.int kvs DD) (hM : MapIs DD al n) (hsz : sz ≤ 250) (hs0 : s0 ≤ 250)
    (st : Stmt) (hst : seB[2]? = some st)
    (h : ∀ h' tk t, Fr h₀ L h' (upd m (Str.ofString "seal") (.int ((if getL s0 al < sz - s0 then sz else s0 : Nat) : Int) t)) → News h₀ L h' ((M, oM) :: news) → Q .next { s with heap := h', toks := tk }) :
    wpAny (model pg w) ((cA E).deeper (seEnv L)) (exec st (seEnv L)) Q No s := by
  have hfill : (PySem.Challenge.rw_re0100_02, KT) = (PySem.Challenge.rw_re0100_02, KT) := by k_fill; rfl
  clear hfill
  have hk := allC hT (allC hz (all1 hb))
  have F' := fr_norm _ F₀ hk
  clear F₀
  dsimp only [kstB] at F'
  w_on
  cases hst
  have Tb := TabAt.ofNews N' (.head _) lo hd hf
  k_steps
  rename_i v hv
  rw [hM.at_] at hv
  obtain ⟨tv, rfl⟩ := hv.int_inv
  k_steps
  · rename Fr _ _ _ _ => F₂
    rename_i hp _
    rw [if_pos (by omega)] at h
    exact h _ _ _ (fr_upd hk F₂) (by assumption)
  · rename_i hp
    rw [if_neg (by omega)] at h
    exact h _ _ _ (by rw [upd_id hb]; exact fr_same hk F') N'
set_option maxHeartbeats 1000000 in
theorem se_b3 {s : Shared} {m : Str → Option Value} {Q : Flow → Shared → Prop} {S : Addr} {vs : List Value} {sl : List Nat} {s0 : Nat} {tb : Tok} {nt : Nat}
    (B' : Below (cA E) base [E] h₀) (F₀ : Fr h₀ L s.heap m) (hT : m (Str.ofString "seals") = some (.ref S)) (hb : m (Str.ofString "seal") = some (.int (s0 : Int) tb)) (X' : (KT w.params).In h₀) (N' : News h₀ L s.heap ((S, PySem.W.listOf vs.toArray nt) :: news)) (T' : Top qv (looseW qv loose0) mean mg mb h₀)
    (hI : IntsAre vs (natsI sl)) (hl : sl.length ≤ 250) (hap : ∀ p ∈ news, p.1 ≠ S)
    (st : Stmt) (hst : seB[3]? = some st)
    (h : ∀ h' tk vs', Fr h₀ L h' m → News h₀ L h' ((S, PySem.W.listOf vs'.toArray (nt + 1)) :: news) → IntsAre vs' (natsI (sl ++ [s0])) → Q .next { s with heap := h', toks := tk }) :
    wpAny (model pg w) ((cA E).deeper (seEnv L)) (exec st (seEnv L)) Q No s := by
  have hfill : (PySem.Challenge.rw_re0100_02, KT) = (PySem.Challenge.rw_re0100_02, KT) := by k_fill; rfl
  clear hfill
  have hk := allC hT (all1 hb)
  have F' := fr_norm _ F₀ hk
  clear F₀
  have hll : (natsI sl).length = sl.length := List.length_map ..
  dsimp only [kstB] at F'
  w_on
  cases hst
  k_steps
  refine append_K (its := vs.toArray) (n := nt) F' N' (.head hap) ?_ (by rw [List.size_toArray, hI.length]; show _ ≤ 16777216; omega)
  intro h' F₁ N₁
  rw [push_snoc] at N₁
  k_steps
  refine h _ _ _ (fr_same hk F₁) N₁ ?_
  rw [show natsI (sl ++ [s0]) = natsI sl ++ [(s0 : Int)] by simp]
  exact hI.append (.cons _ _ .nil)
set_option maxHeartbeats 1000000 in
theorem se_b4 {s : Shared} {m : Str → Option Value} {Q : Flow → Shared → Prop} {M : Addr} {oM : Obj} {kvs : List (Int × Value)} {DD : PD} {al : List (Nat × Nat)} {sz s0 : Nat} {ts tb : Tok} {n : Nat}
    (B' : Below (cA E) base [E] h₀) (F₀ : Fr h₀ L s.heap m) (hT : m (Str.ofString "last") = some (.ref M)) (hz : m (Str.ofString "size") = some (.int (sz : Int) ts)) (hb : m (Str.ofString "seal") = some (.int (s0 : Int) tb)) (X' : (KT w.params).In h₀) (N' : News h₀ L s.heap ((M, oM) :: news)) (T' : Top qv (looseW qv loose0) mean mg mb h₀)
    (lo : (M == sysModules) = false) (hd : oM.IsDictOf (intKind pg w) kvs) (hf : PyProof.V.FlatPairs PyData.int kvs DD) (hM : MapIs DD al n) (hn : n ≤ 250) (hap : ∀ p ∈ news, p.1 ≠ M)
    (st : Stmt) (hst : seB[4]? = some st)
    (h : ∀ h' tk oM' kvs' DD', Fr h₀ L h' m → News h₀ L h' ((M, oM') :: news) → oM'.IsDictOf (intKind pg w) kvs' → PyProof.V.FlatPairs PyData.int kvs' DD' → MapIs DD' ((s0, sz) :: al) (n + 1) → Q .next { s with heap := h', toks := tk }) :
    wpAny (model pg w) ((cA E).deeper (seEnv L)) (exec st (seEnv L)) Q No s := by
  have hfill : (PySem.Challenge.rw_re0100_02, KT) = (PySem.Challenge.rw_re0100_02, KT) := by k_fill; rfl
  clear hfill
  have hk := allC hT (allC hz (all1 hb))
  have F' := fr_norm _ F₀ hk
  clear F₀
  dsimp only [kstB] at F'
  w_on
  cases hst
  have Tb := TabAt.ofNews N' (.head _) lo hd hf
  k_steps
  refine setItem_madeIn (own := []) (rest := news) PyProof.V.same_int (intKind_is _ _ _ _) (PyProof.V.Flat.int _ _) F' N' (fun p hp => nomatch hp) hap hd hf (fun h' o' F1 N1 hd' hf' => ?_) (Nat.le_trans hM.len (Nat.le_trans hn (by decide)))
  exact h _ _ _ _ _ (fr_same hk F1) N1 hd' hf' (hM.put s0 sz)
end
end Mine
end
section
set_option maxRecDepth 100000
set_option linter.unusedVariables false
set_option Elab.async false
set_option pp.maxSteps 3000
namespace Mine
open PySem PySem.W PySem.Calls PyProof.Rows
theorem sealsN_le (tl : List Nat) : ∀ n j, (sealsN tl n).1.getD j 0 ≤ n
  | 0, j => by simp [sealsN]
  | n + 1, j => by
    rw [sealsN]
    have ih := sealsN_le tl n
    have e : ∀ k, ((sealsN tl n).1 ++ [k]).getD j 0 = if j < n then (sealsN tl n).1.getD j 0 else if j = n then k else 0 := by
      intro k
      have hl := sealsN_length tl n
      rw [List.getD_eq_getElem?_getD]
      by_cases h : j < n
      · rw [if_pos h, List.getElem?_append_left (by omega), List.getD_eq_getElem?_getD]
      · rw [if_neg h, List.getElem?_append_right (by omega), hl]
        by_cases h' : j = n
        · subst h'; simp
        · rw [if_neg h', List.getElem?_eq_none (by simp; omega)]; rfl
    rw [e]
    split
    · exact Nat.le_succ_of_le (ih j)
    · split
      · unfold sealOf
        have := ih (tl.getD n 0 - 1)
        rw [show n + 1 - 1 = n by omega]
        have hz : (if 0 < tl.getD n 0 then (sealsN tl n).1.getD (tl.getD n 0 - 1) 0 else n + 1) ≤ n + 1 := by split <;> omega
        generalize (if 0 < tl.getD n 0 then (sealsN tl n).1.getD (tl.getD n 0 - 1) 0 else n + 1) = z at hz
        split <;> omega
      · omega
section
variable {w : World} {E : Env} {A : Around} {base : Heap} {outer : List Env} {h₀ : Heap} {L D : Addr} {mg mb : Str → Option Value} {news : List (Addr × Obj)} {mean : ExcName → Option Value}
set_option maxHeartbeats 1000000 in
theorem se_iter {s : Shared} {m : Str → Option Value} {Q : Value → Shared → Prop} {wl : List Nat} {tw : Tok}
    (B' : Below (cA E) base [E] h₀) (F₀ : Fr h₀ L s.heap m) (hw : m (Str.ofString "row") = some (.str ⟨wl.toArray⟩ tw)) (X' : (KT w.params).In h₀) (N' : News h₀ L s.heap news) (T' : Top qv (looseW qv loose0) mean mg mb h₀)
    (hwl : (⟨wl.toArray⟩ : Str).length ≤ 250)
    (te : PySem.Expr) (hte : (match (fB (stm 8))[2]? with | some s => forI s | none => none) = some te)
    (h : ∀ h' tk' r t u v, IsRange h' r 1 (((⟨wl.toArray⟩ : Str).length : Int) + 1) 1 t u v → Fr h₀ L h' m → News h₀ L h' news → Q (.ref r) { s with heap := h', toks := tk' }) :
    wpAny (model pg w) ((cA E).deeper (seEnv L)) (eval te (seEnv L)) Q No s := by
  have hfill : (PySem.Challenge.rw_re0100_02, KT) = (PySem.Challenge.rw_re0100_02, KT) := by k_fill; rfl
  clear hfill
  have hk := all1 hw
  have F' := fr_norm _ F₀ hk
  clear F₀
  dsimp only [kstB] at F'
  w_on
  cases hte
  k_steps
  exact h _ _ _ _ _ _ (by assumption) (fr_same hk (by assumption)) (by assumption)
set_option maxHeartbeats 1000000 in
theorem se_s3 {s : Shared} {m : Str → Option Value} {Q : Flow → Shared → Prop} {S : Addr}
    (B' : Below (cA E) base [E] h₀) (F₀ : Fr h₀ L s.heap m) (hS : m (Str.ofString "seals") = some (.ref S)) (X' : (KT w.params).In h₀) (N' : News h₀ L s.heap news) (T' : Top qv (looseW qv loose0) mean mg mb h₀)
    (st : Stmt) (hst : (fB (stm 8))[3]? = some st)
    (h : Q (.ret (.ref S)) s) :
    wpAny (model pg w) ((cA E).deeper (seEnv L)) (exec st (seEnv L)) Q No s := by
  have hfill : (PySem.Challenge.rw_re0100_02, KT) = (PySem.Challenge.rw_re0100_02, KT) := by k_fill; rfl
  clear hfill
  have hk := all1 hS
  have F' := fr_norm _ F₀ hk
  dsimp only [kstB] at F'
  w_on
  cases hst
  k_steps
  exact h
structure SeS where
  vs : List Value
  nn : Nat
  oM : Obj
  kvs : List (Int × Value)
  DD : PD
abbrev sePs (S M T : Addr) : List (Str × Value) := [(Str.ofString "table", .ref T), (Str.ofString "seals", .ref S), (Str.ofString "last", .ref M)]
structure SeOk (w : World) (tl : List Nat) (i : Nat) (c : SeS) : Prop where
  I : IntsAre c.vs (natsI (sealsN tl i).1)
  d : c.oM.IsDictOf (intKind pg w) c.kvs
  f : PyProof.V.FlatPairs PyData.int c.kvs c.DD
  m : MapIs c.DD (sealsN tl i).2 i
set_option maxHeartbeats 1000000 in
theorem se_turn {s : Shared} {m : Str → Option Value} {Q : Flow → Shared → Prop} {S M T : Addr} {c : SeS} {tl : List Nat} {ws : List Value} {i nt : Nat} {ts : Tok} {S0 S1 S2 S3 S4 : Stmt}
    (B' : Below (cA E) base [E] h₀) (F₀ : Fr h₀ L s.heap m) (hT : m (Str.ofString "table") = some (.ref T)) (hS : m (Str.ofString "seals") = some (.ref S)) (hM : m (Str.ofString "last") = some (.ref M)) (hz : m (Str.ofString "size") = some (.int ((i + 1 : Nat) : Int) ts)) (X' : (KT w.params).In h₀)
    (N' : News h₀ L s.heap ((M, c.oM) :: (S, PySem.W.listOf c.vs.toArray c.nn) :: (T, PySem.W.listOf ws.toArray nt) :: news)) (T' : Top qv (looseW qv loose0) mean mg mb h₀)
    (lo : (M == sysModules) = false) (hI : IntsAre ws (natsI tl)) (hl : tl.length ≤ 250) (hi : i < tl.length) (hb : ∀ j, j < tl.length → tl.getD j 0 ≤ j) (hc : SeOk w tl i c)
    (hSM : S ≠ M) (hTM : T ≠ M) (hTS : T ≠ S) (hnM : ∀ p ∈ news, p.1 ≠ M) (hnS : ∀ p ∈ news, p.1 ≠ S)
    (e0 : seB[0]? = some S0) (e1 : seB[1]? = some S1) (e2 : seB[2]? = some S2) (e3 : seB[3]? = some S3) (e4 : seB[4]? = some S4)
    (h : ∀ h' tk m' c', Fr h₀ L h' m' → m' (Str.ofString "table") = some (.ref T) → m' (Str.ofString "seals") = some (.ref S) → m' (Str.ofString "last") = some (.ref M) → News h₀ L h' ((M, c'.oM) :: (S, PySem.W.listOf c'.vs.toArray c'.nn) :: (T, PySem.W.listOf ws.toArray nt) :: news) → SeOk w tl (i + 1) c' → Q .next { s with heap := h', toks := tk }) :
    wpAny (model pg w) ((cA E).deeper (seEnv L)) (execs [S0, S1, S2, S3, S4] (seEnv L)) Q No s := by
  have hlen := sealsN_length tl i
  have hbi := hb i hi
  have hle := sealsN_le tl i
  refine wpAny_execs_cons (se_b0 (nt := nt) (T := T) (vs := ws) (news := (M, c.oM) :: (S, PySem.W.listOf c.vs.toArray c.nn) :: news) B' F₀ hT hz X' (kst_newsOf N' fun p hp => ?_) T' hI hl (by omega) (by omega) S0 e0 fun h1 tk1 t1 F1 N1 => ?_)
  · simp only [List.mem_cons] at hp ⊢
    rcases hp with h | h | h | h
    · exact .inr (.inr (.inl h))
    · exact .inl h
    · exact .inr (.inl h)
    · exact .inr (.inr (.inr h))
  show wpAny _ _ _ _ _ _
  rw [show i + 1 - 1 = i by omega] at F1
  refine wpAny_execs_cons (se_b1 (S := S) (vs := c.vs) (nt := c.nn) (s := { s with heap := h1, toks := tk1 }) (news := (M, c.oM) :: (T, PySem.W.listOf ws.toArray nt) :: news) (sl := (sealsN tl i).1) B' F1 (upd_ne hS (by decide)) (upd_ne hz (by decide)) (upd_at _ _ _) X' (kst_newsOf N1 fun p hp => ?_) T' hc.I (by omega) (by omega) S1 e1 fun h2 tk2 t2 F2 N2 => ?_)
  · simp only [List.mem_cons] at hp ⊢
    rcases hp with h | h | h | h
    · exact .inr (.inr (.inl h))
    · exact .inr (.inl h)
    · exact .inl h
    · exact .inr (.inr (.inr h))
  show wpAny _ _ _ _ _ _
  have hs0 : (if 0 < tl.getD i 0 then (sealsN tl i).1.getD (tl.getD i 0 - 1) 0 else i + 1) ≤ 250 := by
    have := hle (tl.getD i 0 - 1)
    split <;> omega
  have ez : sealOf tl (sealsN tl i).1 (sealsN tl i).2 (i + 1) = if getL (if 0 < tl.getD i 0 then (sealsN tl i).1.getD (tl.getD i 0 - 1) 0 else i + 1) (sealsN tl i).2 < (i + 1) - (if 0 < tl.getD i 0 then (sealsN tl i).1.getD (tl.getD i 0 - 1) 0 else i + 1) then i + 1 else (if 0 < tl.getD i 0 then (sealsN tl i).1.getD (tl.getD i 0 - 1) 0 else i + 1) := by
    unfold sealOf
    rw [show i + 1 - 1 = i by omega]
  generalize (if 0 < tl.getD i 0 then (sealsN tl i).1.getD (tl.getD i 0 - 1) 0 else i + 1) = z0 at F2 hs0 ez
  refine wpAny_execs_cons (se_b2 (M := M) (oM := c.oM) (s := { s with heap := h2, toks := tk2 }) (news := (S, PySem.W.listOf c.vs.toArray c.nn) :: (T, PySem.W.listOf ws.toArray nt) :: news) B' F2 (upd_ne (upd_ne hM (by decide)) (by decide)) (upd_ne (upd_ne hz (by decide)) (by decide)) (upd_at _ _ _) X' (kst_newsOf N2 fun p hp => ?_) T' lo hc.d hc.f hc.m (by omega) hs0 S2 e2 fun h3 tk3 t3 F3 N3 => ?_)
  · simp only [List.mem_cons] at hp ⊢
    rcases hp with h | h | h | h
    · exact .inr (.inl h)
    · exact .inl h
    · exact .inr (.inr (.inl h))
    · exact .inr (.inr (.inr h))
  show wpAny _ _ _ _ _ _
  rw [← ez] at F3
  have hz1 : sealOf tl (sealsN tl i).1 (sealsN tl i).2 (i + 1) ≤ 250 := by
    rw [ez]; split <;> omega
  have eN : sealsN tl (i + 1) = ((sealsN tl i).1 ++ [sealOf tl (sealsN tl i).1 (sealsN tl i).2 (i + 1)], (sealOf tl (sealsN tl i).1 (sealsN tl i).2 (i + 1), i + 1) :: (sealsN tl i).2) := rfl
  generalize sealOf tl (sealsN tl i).1 (sealsN tl i).2 (i + 1) = z1 at F3 hz1 eN
  refine wpAny_execs_cons (se_b3 (S := S) (vs := c.vs) (nt := c.nn) (s := { s with heap := h3, toks := tk3 }) (news := (M, c.oM) :: (T, PySem.W.listOf ws.toArray nt) :: news) B' F3 (upd_ne (upd_ne (upd_ne hS (by decide)) (by decide)) (by decide)) (upd_at _ _ _) X' (kst_newsOf N3 fun p hp => ?_) T' hc.I (by omega) (fun p hp => ?_) S3 e3 fun h4 tk4 vs4 F4 N4 I4 => ?_)
  · simp only [List.mem_cons] at hp ⊢
    rcases hp with h | h | h | h
    · exact .inr (.inl h)
    · exact .inl h
    · exact .inr (.inr (.inl h))
    · exact .inr (.inr (.inr h))
  · rcases List.mem_cons.mp hp with rfl | hp
    · exact Ne.symm hSM
    · rcases List.mem_cons.mp hp with rfl | hp
      · exact hTS
      · exact hnS p hp
  show wpAny _ _ _ _ _ _
  refine wpAny_execs_cons (se_b4 (M := M) (oM := c.oM) (s := { s with heap := h4, toks := tk4 }) (news := (S, PySem.W.listOf vs4.toArray (c.nn + 1)) :: (T, PySem.W.listOf ws.toArray nt) :: news) (sz := i + 1) B' F4 (upd_ne (upd_ne (upd_ne hM (by decide)) (by decide)) (by decide)) (upd_ne (upd_ne (upd_ne hz (by decide)) (by decide)) (by decide)) (upd_at _ _ _) X' (kst_newsOf N4 fun p hp => ?_) T' lo hc.d hc.f hc.m (by omega) (fun p hp => ?_) S4 e4 fun h5 tk5 oM' kvs' DD' F5 N5 d5 f5 m5 => ?_)
  · simp only [List.mem_cons] at hp ⊢
    rcases hp with h | h | h | h
    · exact .inr (.inl h)
    · exact .inl h
    · exact .inr (.inr (.inl h))
    · exact .inr (.inr (.inr h))
  · rcases List.mem_cons.mp hp with rfl | hp
    · exact hSM
    · rcases List.mem_cons.mp hp with rfl | hp
      · exact hTM
      · exact hnM p hp
  show wpAny _ _ _ _ _ _
  refine wpAny_execs_nil ?_
  refine h h5 tk5 _ ⟨vs4, c.nn + 1, oM', kvs', DD'⟩ F5 (upd_ne (upd_ne (upd_ne hT (by decide)) (by decide)) (by decide)) (upd_ne (upd_ne (upd_ne hS (by decide)) (by decide)) (by decide)) (upd_ne (upd_ne (upd_ne hM (by decide)) (by decide)) (by decide)) N5 ⟨?_, d5, f5, ?_⟩
  · rw [eN]; exact I4
  · rw [eN]; exact m5
theorem se_loop {s : Shared} {m : Str → Option Value} {Q : Flow → Shared → Prop} {S M T : Addr} {oM : Obj} {wl tl : List Nat} {tw : Tok} {ws : List Value} {nt : Nat} {S0 S1 S2 S3 S4 : Stmt}
    (B' : Below (cA E) base [E] h₀) (F₀ : Fr h₀ L s.heap m) (hw : m (Str.ofString "row") = some (.str ⟨wl.toArray⟩ tw)) (hT : m (Str.ofString "table") = some (.ref T)) (hS : m (Str.ofString "seals") = some (.ref S)) (hM : m (Str.ofString "last") = some (.ref M)) (X' : (KT w.params).In h₀)
    (N' : News h₀ L s.heap ((M, oM) :: (S, PySem.W.listOf ([] : List Value).toArray 0) :: (T, PySem.W.listOf ws.toArray nt) :: news)) (T' : Top qv (looseW qv loose0) mean mg mb h₀)
    (lo : (M == sysModules) = false) (hd : oM.IsDictOf (intKind pg w) []) (hI : IntsAre ws (natsI tl)) (hl : tl.length ≤ 250) (hlw : tl.length = wl.length) (hb : ∀ j, j < tl.length → tl.getD j 0 ≤ j)
    (hSM : S ≠ M) (hTM : T ≠ M) (hTS : T ≠ S) (hnM : ∀ p ∈ news, p.1 ≠ M) (hnS : ∀ p ∈ news, p.1 ≠ S)
    (eb : seB = [S0, S1, S2, S3, S4])
    (st : Stmt) (hst : (fB (stm 8))[2]? = some st)
    (h : ∀ h' tk m' vs' nn', Fr h₀ L h' m' → m' (Str.ofString "seals") = some (.ref S) → News h₀ L h' ((S, PySem.W.listOf vs'.toArray nn') :: news) → IntsAre vs' (natsI (sealsN tl wl.length).1) → Q .next { s with heap := h', toks := tk }) :
    wpAny (model pg w) ((cA E).deeper (seEnv L)) (exec st (seEnv L)) Q No s := by
  cases hst
  refine for_start F₀ (by rfl) (by rfl) ?_
  have hl1 : (⟨wl.toArray⟩ : Str).length = wl.length := List.size_toArray ..
  refine se_iter B' F₀ hw X' N' T' (by rw [hl1]; omega) _ rfl fun h' tk' r t u v hr F₁ N₁ => ?_
  rw [hl1] at hr
  refine for_range (n := wl.length) (σ := SeS) (fun _ => sePs S M T) (fun c => (M, c.oM) :: (S, PySem.W.listOf c.vs.toArray c.nn) :: (T, PySem.W.listOf ws.toArray nt) :: news) (fun i c => SeOk w tl i c) ⟨[], 0, oM, [], []⟩ rfl hr
    (small_one (by omega) (by omega) (by omega) (by omega)) (by rw [rangeSize_nat]; omega) F₁ N₁ (fun p hp => ?_) ⟨.nil, hd, .nil, MapIs.nil⟩ (fun _ => rfl) (fun _ => offN [Str.ofString "table", Str.ofString "seals", Str.ofString "last"] rfl (by decide)) ?_ ?_
  · simp only [List.mem_cons, List.not_mem_nil, or_false] at hp
    rcases hp with rfl | rfl | rfl
    · exact hT
    · exact hS
    · exact hM
  · rintro i k t' c u₁ h₂ tk₂ own hi rfl hc hoff F₂ N₂
    have e : (1 : Int) + (i : Int) = ((i + 1 : Nat) : Int) := by omega
    rw [e] at F₂
    have hps := kstB_atN (u := u₁) (ps := (Str.ofString "size", Value.int ((i + 1 : Nat) : Int) t') :: sePs S M T) [Str.ofString "size", Str.ofString "table", Str.ofString "seals", Str.ofString "last"] rfl (by decide)
    have eb' : ∀ k : Nat, seB[k]? = [S0, S1, S2, S3, S4][k]? := fun k => by rw [eb]
    have hoM : ∀ p ∈ news ++ own, p.1 ≠ M := fun p hp => (List.mem_append.mp hp).elim (hnM p) fun hp => hoff p hp _ (by simp)
    have hoS : ∀ p ∈ news ++ own, p.1 ≠ S := fun p hp => (List.mem_append.mp hp).elim (hnS p) fun hp => hoff p hp _ (by simp)
    show wpAny _ _ (execs seB _) _ _ _
    rw [eb]
    refine se_turn (s := { s with heap := h₂, toks := tk₂ }) (news := news ++ own) (nt := nt) B' F₂ (hps _ (.tail _ (.head _))) (hps _ (.tail _ (.tail _ (.head _)))) (hps _ (.tail _ (.tail _ (.tail _ (.head _))))) (hps (Str.ofString "size", Value.int ((i + 1 : Nat) : Int) t') (.head _)) X' N₂ T' lo hI hl (by omega) hb hc hSM hTM hTS hoM hoS (eb' 0) (eb' 1) (eb' 2) (eb' 3) (eb' 4) fun h3 tk3 m3 c3 F3 a1 a2 a3 N3 hc3 => ?_
    refine ⟨c3, m3, h3, tk3, _, rfl, hc3, F3, fun p hp => ?_, N3, fun p hp => ?_, fun p hp => ?_⟩
    · simp only [List.mem_cons, List.not_mem_nil, or_false] at hp
      rcases hp with rfl | rfl | rfl
      · exact a1
      · exact a2
      · exact a3
    · simp only [List.mem_cons] at hp ⊢
      rcases hp with h | h | h | h
      · exact .inl h
      · exact .inr (.inl h)
      · exact .inr (.inr (.inl h))
      · exact .inr (.inr (.inr (List.mem_append_left _ h)))
    · exact .tail _ (.tail _ (.tail _ (List.mem_append_right _ hp)))
  · intro c u₁ h₂ tk₂ hc F₂ N₂
    exact h h₂ tk₂ _ c.vs c.nn F₂ (kstB_atN (u := u₁) (ps := sePs S M T) [Str.ofString "table", Str.ofString "seals", Str.ofString "last"] rfl (by decide) _ (.tail _ (.head _))) (kst_newsOf N₂ fun p hp => by
      simp only [List.mem_cons] at hp ⊢
      rcases hp with h | h
      · exact .inr (.inl h)
      · exact .inr (.inr (.inr h))) hc.I
end
end Mine
end
section
set_option maxRecDepth 100000
set_option linter.unusedVariables false
set_option Elab.async false
set_option pp.maxSteps 3000
namespace Mine
open PySem PySem.W PySem.Calls PyProof.Rows
section
variable {w : World} {E : Env} {A : Around} {base : Heap} {outer : List Env} {h₀ : Heap} {L D : Addr} {mg mb : Str → Option Value} {news : List (Addr × Obj)} {mean : ExcName → Option Value}
def sealsP (wl : List Nat) : List Nat := (sealsN (ovT wl wl.length) wl.length).1
theorem se_body {s : Shared} {m : Str → Option Value} {Q : Flow → Shared → Prop} {wl : List Nat} {tw : Tok} {S0 S1 S2 S3 : Stmt}
    (B' : Below (cA E) base [E] h₀) (F₀ : Fr h₀ L s.heap m) (hw : m (Str.ofString "row") = some (.str ⟨wl.toArray⟩ tw)) (X' : (KT w.params).In h₀) (N' : News h₀ L s.heap news) (T' : Top qv (looseW qv loose0) mean mg mb h₀)
    (hwl : wl.length ≤ 250) (hw1 : 1 ≤ wl.length)
    (e0 : (fB (stm 8))[0]? = some S0) (e1 : (fB (stm 8))[1]? = some S1) (e2 : (fB (stm 8))[2]? = some S2) (e3 : (fB (stm 8))[3]? = some S3)
    (h : ∀ S h' tk m' vs' nn', Fr h₀ L h' m' → News h₀ L h' ((S, PySem.W.listOf vs'.toArray nn') :: news) → (∀ q ∈ news, q.1 ≠ S) → IntsAre vs' (natsI (sealsP wl)) → Q (.ret (.ref S)) { s with heap := h', toks := tk }) :
    wpAny (model pg w) ((cA E).deeper (seEnv L)) (execs [S0, S1, S2, S3] (seEnv L)) Q No s := by
  refine wpAny_execs_cons (se_s0 B' F₀ hw X' N' T' hwl hw1 S0 e0 fun T h1 tk1 ws F1 N1 I1 => ?_)
  show wpAny _ _ _ _ _ _
  have hll : (ovT wl wl.length).length = wl.length := ovT_length _ _
  refine wpAny_execs_cons (se_s1 (s := { s with heap := h1, toks := tk1 }) B' F1 X' N1 T' S1 e1 fun S M h2 tk2 oM F2 N2 hd lo hne hSM => ?_)
  show wpAny _ _ _ _ _ _
  refine wpAny_execs_cons (se_loop (s := { s with heap := h2, toks := tk2 }) (news := news) (nt := 0) (wl := wl) (tl := ovT wl wl.length) (M := M) (S := S) (T := T) (oM := oM) (ws := ws) B' F2 (upd_ne (upd_ne (upd_ne hw (by decide)) (by decide)) (by decide)) (upd_ne (upd_ne (upd_at _ _ _) (by decide)) (by decide)) (upd_at _ _ _) (upd_ne (upd_at _ _ _) (by decide)) X' N2 T' lo hd I1 (by omega) hll (fun j hj => ovT_le _ _ _ (by omega)) hSM (hne _ (.head _)).2 (hne _ (.head _)).1 (fun p hp => (hne p (.tail _ hp)).2) (fun p hp => (hne p (.tail _ hp)).1) rfl S2 e2 fun h3 tk3 m3 vs3 nn3 F3 hS3 N3 I3 => ?_)
  show wpAny _ _ _ _ _ _
  refine wpAny_execs_cons (se_s3 (s := { s with heap := h3, toks := tk3 }) B' F3 hS3 X' N3 T' S3 e3 ?_)
  exact h S h3 tk3 m3 vs3 nn3 F3 N3 (fun q hq => (hne q (.tail _ hq)).1) I3
theorem seS_0 : ∃ S0 S1 S2 S3, fB (stm 8) = [S0, S1, S2, S3] := ⟨_, _, _, _, rfl⟩
set_option maxHeartbeats 4000000 in
theorem se_call {s : Shared} {m : Str → Option Value} {Q : Value → Shared → Prop} {wl : List Nat} {tw : Tok}
    (B : Below callerA base [] h₀) (F : Fr h₀ L s.heap m) (X₀ : (KT w.params).In h₀) (N : News h₀ L s.heap news) (T : Top qv (looseW qv loose0) mean mg mb h₀) (hf : E.frame = some L) (hke : E.scope.kind = .function)
    (hwl : wl.length ≤ 250) (hw1 : 1 ≤ wl.length)
    (h : ∀ S h' tk vs' nn', Fr h₀ L h' m → News h₀ L h' ((S, PySem.W.listOf vs'.toArray nn') :: news) → (∀ q ∈ news, q.1 ≠ S) → IntsAre vs' (natsI (sealsP wl)) → Q (.ref S) { s with heap := h', toks := tk }) : wpAny (model pg w) (cA E) (PySem.call (.ref 92) [.str ⟨wl.toArray⟩ tw]) Q No s := by
  w_on
  have hfill : (PySem.Challenge.rw_re0100_02, KT) = (PySem.Challenge.rw_re0100_02, KT) := by k_fill; rfl
  clear hfill
  refine wpAny_call ?_
  refine' code_def (binds := [(Str.ofString "row", .str ⟨wl.toArray⟩ tw)]) B F X₀ N T (outer := []) (env := E) rfl hf hke ?k6 ?k7 ?hr ?k9 ?kB ?_ ?c2 ?c3 ?c4 ?c5
  case k6 => k_is
  case k7 => k_is
  case hr => k_room
  case k9 => exact BindsTo.of_eq rfl
  case c5 => decide
  case kB => exact locs rfl
  case c2 => exact rfl
  case c3 => exact rfl
  case c4 => exact rfl
  intro g' L' h' FG' F' N' B' X' T'
  obtain ⟨S0, S1, S2, S3, e⟩ := seS_0
  rw [e]
  have F₁ := fr_norm [(Str.ofString "row", .str ⟨wl.toArray⟩ tw)] F' (fun q hq => by obtain rfl := List.mem_singleton.mp hq; rfl)
  refine wpAny_mono (E := No) ?_ (fun _ _ x => x) fun _ _ x => x.elim
  have g0 : (fB (stm 8))[0]? = some S0 := by rw [e]; rfl
  have g1 : (fB (stm 8))[1]? = some S1 := by rw [e]; rfl
  have g2 : (fB (stm 8))[2]? = some S2 := by rw [e]; rfl
  have g3 : (fB (stm 8))[3]? = some S3 := by rw [e]; rfl
  have hw₁ := kstB_atN (u := fun y => List.lookup y [(Str.ofString "row", Value.str ⟨wl.toArray⟩ tw)].reverse) (ps := [(Str.ofString "row", Value.str ⟨wl.toArray⟩ tw)]) [Str.ofString "row"] rfl (by decide) _ (.head _)
  with_reducible exact se_body B' F₁ hw₁ X' N' T' hwl hw1 g0 g1 g2 g3 fun S h₅ tk₅ m' vs nn F₅ N₅ hS hI => leaveK_ F₅ N₅ fun F₆ N₆ => h S h₅ tk₅ vs nn F₆ N₆ hS hI
end
end Mine
end
section
set_option maxRecDepth 100000
set_option linter.unusedVariables false
set_option Elab.async false
namespace Mine
open PySem PySem.W PySem.Calls PyProof.Rows
theorem striter_stay {I : Addr} {k : String} {x : Str} {t : Tok} {i : Nat} {h h' : Heap} {o : Obj} (st : h.IsStrIter I k x t i) (e : h.get? I = some o) (e' : h'.get? I = some o) : h'.IsStrIter I k x t i := by
  obtain ⟨o', q, r⟩ := st
  rw [e] at q; cases q
  exact ⟨o, e', r⟩
section
variable {prog : Program} {w : World} {A : Around} {s : Shared} {h₀ : Heap} {L : Addr} {m : Str → Option Value} {env : Env}
/-- the end of a block: the new frame's object is let go -/
theorem block_end {Q : Value → Shared → Prop} {s₁ : Shared} {o : Obj} {D C : Addr} {h : Heap} {tk : Nat} {m' : Str → Option Value} {ys : List Value} {news' : List (Addr × Obj)} {h'' : Heap}
    (F' : Fr h₀ L h m) (N' : News h₀ L h ((D, LCg.lst ys) :: news')) (hC₀ : h₀.get? C = none) (hCL : C ≠ L) (hCD : C ≠ D) (offC : ∀ p ∈ news', p.1 ≠ C) (hs : h.SameBut C h'') : Fr h₀ L h'' m ∧ News h₀ L h'' ((D, LCg.lst ys) :: news') := by
  refine ⟨F'.change hs hCL hC₀, fun p hp => ⟨hs.extBut _ _ ?_ (N' p hp).1, (N' p hp).2⟩⟩
  rcases List.mem_cons.mp hp with rfl | hp
  · exact Ne.symm hCD
  · exact offC p hp
/-- [elt for x in a text] -/
theorem comp_str {elt iter : PySem.Expr} {x : Str} {px : Pos} {scope : Scope} {cl : List (Str × Addr)} {pos : Pos} {Q : Value → Shared → Prop}
    (hclos : closureFor scope env = pure cl) (hcell : ∀ y ∈ scope.names, y.2 ≠ .cell) (hkind : scope.kind = .function)
    (hnames : ∀ y ∈ scope.names, y.2 = .local → scope.names.lookup y.1 = some .local) (hx : scope.names.lookup x = some .local) (hh : A.handled = none)
    (h : wpAny (model prog w) A (eval iter env) (fun xv s₁ => ∃ (z : Str) (t : Tok) (news : List (Addr × Obj)), xv = .str z t ∧ Fr h₀ L s₁.heap m ∧ News h₀ L s₁.heap news ∧ z.cps.size ≤ sizeLine ∧
      ∀ g, LCg.CompRest prog w A h₀ L m env elt x scope cl { s₁ with heap := g } (fun _ => True) (SignAt z) (LCg.FinE h₀ L m { s₁ with heap := g } Q) z.cps.size 0 [] news) No s)
    (hs : ∀ x, foldedSetIterable iter env x = pure x := by intro _; rfl) :
    wpAny (model prog w) A (eval (.ListComp elt [⟨.Name x px, iter, [], 0⟩] scope pos) env) Q No s := by
  rw [eval_ListComp]
  refine wpAny_comprehension_free (use := none) rfl hs hclos hkind hnames (wpAny_mono h (fun xv s₁ h₁ => ?_) fun _ _ e => e)
  obtain ⟨z, t, news, rfl, F, N, hsz, R⟩ := h₁
  have up : ∀ (ob : Obj) b o, s₁.heap.get? b = some o → (s₁.heap.push ob).get? b = some o := fun ob b o e => Heap.get?_push_of_some _ e
  have one : ∀ (ob : Obj), ∀ b ∈ [s₁.heap.objs.size], b < (s₁.heap.push ob).objs.size := fun ob b hb => by
    rw [List.mem_singleton.mp hb, Heap.size_push]; exact Nat.lt_succ_self _
  cases ha : z.cps.all (· < 128)
  · refine wpAny_pyIter_wide ha ?_
    refine LCg.block_U (Walks.strWide hh _ z t) hsz (fun i h st => by obtain ⟨o, e, _⟩ := st; exact ⟨o, e⟩) (fun i h h' o nw st e e' _ _ _ => striter_stay st e e') hcell hkind hx ⟨_, Heap.get?_push_size _ rfl, rfl, rfl⟩ (one _)
      (F.keeps (up _)) (N.grown (up _)) (Nat.ne_of_lt F.ns.lt) (next_is_new F) (fun p hp => Nat.ne_of_lt (Heap.lt_size (N p hp).1)) trivial (R _) ?_
    intro D C h tk m' ys news' F' N' o1 hn hC₀ hD₀ hCL hDL hCD offC fin
    refine ⟨m', hn, fun h'' hs'' => ?_⟩
    obtain ⟨F₂, N₂⟩ := block_end (Q := Q) (s₁ := s₁) (o := default) (tk := tk) (m' := m') F' N' hC₀ hCL hCD offC hs''
    exact fin D h'' tk F₂ N₂ o1
  · refine wpAny_pyIter_ascii ha ?_
    refine LCg.block_U (Walks.strAscii hh _ z t) hsz (fun i h st => by obtain ⟨o, e, _⟩ := st; exact ⟨o, e⟩) (fun i h h' o nw st e e' _ _ _ => striter_stay st e e') hcell hkind hx ⟨_, Heap.get?_push_size _ rfl, rfl, rfl⟩ (one _)
      (F.keeps (up _)) (N.grown (up _)) (Nat.ne_of_lt F.ns.lt) (next_is_new F) (fun p hp => Nat.ne_of_lt (Heap.lt_size (N p hp).1)) trivial (R _) ?_
    intro D C h tk m' ys news' F' N' o1 hn hC₀ hD₀ hCL hDL hCD offC fin
    refine ⟨m', hn, fun h'' hs'' => ?_⟩
    obtain ⟨F₂, N₂⟩ := block_end (Q := Q) (s₁ := s₁) (o := default) (tk := tk) (m' := m') F' N' hC₀ hCL hCD offC hs''
    exact fin D h'' tk F₂ N₂ o1
/-- [elt for x in a text if ct] -/
theorem comp_strT {ct elt iter : PySem.Expr} {x : Str} {px : Pos} {scope : Scope} {cl : List (Str × Addr)} {pos : Pos} {Q : Value → Shared → Prop}
    (hclos : closureFor scope env = pure cl) (hcell : ∀ y ∈ scope.names, y.2 ≠ .cell) (hkind : scope.kind = .function)
    (hnames : ∀ y ∈ scope.names, y.2 = .local → scope.names.lookup y.1 = some .local) (hx : scope.names.lookup x = some .local) (hh : A.handled = none)
    (h : wpAny (model prog w) A (eval iter env) (fun xv s₁ => ∃ (z : Str) (t : Tok) (news : List (Addr × Obj)), xv = .str z t ∧ Fr h₀ L s₁.heap m ∧ News h₀ L s₁.heap news ∧ z.cps.size ≤ sizeLine ∧
      ∀ g, LCt.CompRestT prog w A h₀ L m env ct elt x scope cl { s₁ with heap := g } (fun _ => True) (SignAt z) (LCg.FinE h₀ L m { s₁ with heap := g } Q) z.cps.size 0 [] news) No s)
    (hs : ∀ x, foldedSetIterable iter env x = pure x := by intro _; rfl) :
    wpAny (model prog w) A (eval (.ListComp elt [⟨.Name x px, iter, [ct], 0⟩] scope pos) env) Q No s := by
  rw [eval_ListComp]
  refine wpAny_comprehension_free (use := none) rfl hs hclos hkind hnames (wpAny_mono h (fun xv s₁ h₁ => ?_) fun _ _ e => e)
  obtain ⟨z, t, news, rfl, F, N, hsz, R⟩ := h₁
  have up : ∀ (ob : Obj) b o, s₁.heap.get? b = some o → (s₁.heap.push ob).get? b = some o := fun ob b o e => Heap.get?_push_of_some _ e
  have one : ∀ (ob : Obj), ∀ b ∈ [s₁.heap.objs.size], b < (s₁.heap.push ob).objs.size := fun ob b hb => by
    rw [List.mem_singleton.mp hb, Heap.size_push]; exact Nat.lt_succ_self _
  cases ha : z.cps.all (· < 128)
  · refine wpAny_pyIter_wide ha ?_
    refine LCt.block_T (Walks.strWide hh _ z t) hsz (fun i h st => by obtain ⟨o, e, _⟩ := st; exact ⟨o, e⟩) (fun i h h' o nw st e e' _ _ _ => striter_stay st e e') hcell hkind hx ⟨_, Heap.get?_push_size _ rfl, rfl, rfl⟩ (one _)
      (F.keeps (up _)) (N.grown (up _)) (Nat.ne_of_lt F.ns.lt) (next_is_new F) (fun p hp => Nat.ne_of_lt (Heap.lt_size (N p hp).1)) trivial (R _) ?_
    intro D C h tk m' ys news' F' N' o1 hn hC₀ hD₀ hCL hDL hCD offC fin
    refine ⟨m', hn, fun h'' hs'' => ?_⟩
    obtain ⟨F₂, N₂⟩ := block_end (Q := Q) (s₁ := s₁) (o := default) (tk := tk) (m' := m') F' N' hC₀ hCL hCD offC hs''
    exact fin D h'' tk F₂ N₂ o1
  · refine wpAny_pyIter_ascii ha ?_
    refine LCt.block_T (Walks.strAscii hh _ z t) hsz (fun i h st => by obtain ⟨o, e, _⟩ := st; exact ⟨o, e⟩) (fun i h h' o nw st e e' _ _ _ => striter_stay st e e') hcell hkind hx ⟨_, Heap.get?_push_size _ rfl, rfl, rfl⟩ (one _)
      (F.keeps (up _)) (N.grown (up _)) (Nat.ne_of_lt F.ns.lt) (next_is_new F) (fun p hp => Nat.ne_of_lt (Heap.lt_size (N p hp).1)) trivial (R _) ?_
    intro D C h tk m' ys news' F' N' o1 hn hC₀ hD₀ hCL hDL hCD offC fin
    refine ⟨m', hn, fun h'' hs'' => ?_⟩
    obtain ⟨F₂, N₂⟩ := block_end (Q := Q) (s₁ := s₁) (o := default) (tk := tk) (m' := m') F' N' hC₀ hCL hCD offC hs''
    exact fin D h'' tk F₂ N₂ o1
end
end Mine
end
section
set_option maxRecDepth 100000
set_option linter.unusedVariables false
set_option Elab.async false
set_option pp.maxSteps 3000
namespace Mine
open PySem PySem.W PySem.Calls PyProof.Rows
abbrev foEnv (L : Addr) : Env := envOf (Str.ofString "_law_folded") (fS (stm 10)) L 102 (Value.ref 101)
def foE : Option PySem.Expr := match (fB (stm 10))[0]? with | some s => retE s | none => none
def foC : Option PySem.Expr := match foE with | some e => argE e | none => none
def imgF (c : Nat) : List Nat := (b3s.lookup c).getD []
theorem imgF_mem {c : Nat} {v : List Nat} (h : (c, v) ∈ b3s) : (c, imgF c) ∈ b3s := by
  have h2 : b3s.all (fun p => decide (b3s.lookup p.1 = some p.2)) = true := by decide +kernel
  have h3 : b3s.lookup c = some v := of_decide_eq_true (List.all_eq_true.mp h2 (c, v) h)
  unfold imgF
  rw [h3]
  exact h
theorem strs_of_get {f : Nat → Str} : ∀ (ys : List Value) (cl : List Nat), ys.length = cl.length → (∀ (i : Nat) y, ys[i]? = some y → ∃ t, y = .str (f (cl.getD i 0)) t) → StrsAre ys (cl.map f)
  | [], [], _, _ => .nil
  | [], _ :: _, h, _ => by simp at h
  | _ :: _, [], h, _ => by simp at h
  | y :: r, c :: cr, hl, h => by
    obtain ⟨t, rfl⟩ := h 0 y rfl
    exact .cons _ _ (strs_of_get r cr (by simpa using hl) fun i z hz => h (i + 1) z (by simpa using hz))
theorem join_ones (f : Nat → Nat) : ∀ (l : List Nat), Str.join ⟨#[]⟩ (l.map fun k => ⟨#[f k]⟩) = ⟨(l.map f).toArray⟩
  | [] => rfl
  | [k] => rfl
  | k :: k' :: r => by
    have ih := join_ones f (k' :: r)
    show Str.append (Str.append _ _) (Str.join ⟨#[]⟩ ((k' :: r).map fun k => ⟨#[f k]⟩)) = _
    rw [ih]
    simp [Str.append]
theorem join_imgs (f : Nat → List Nat) : ∀ (l : List Nat), Str.join ⟨#[]⟩ (l.map fun c => ⟨(f c).toArray⟩) = ⟨(l.flatMap f).toArray⟩
  | [] => rfl
  | [c] => by
    show (⟨(f c).toArray⟩ : Str) = _
    simp
  | c :: c' :: r => by
    have ih := join_imgs f (c' :: r)
    show Str.append (Str.append _ _) (Str.join ⟨#[]⟩ ((c' :: r).map fun c => ⟨(f c).toArray⟩)) = _
    rw [ih]
    simp [Str.append]
section
variable {w : World} {E : Env} {A : Around} {base : Heap} {outer : List Env} {h₀ : Heap} {L D : Addr} {mg mb : Str → Option Value} {news : List (Addr × Obj)} {mean : ExcName → Option Value}
local macro_rules | `(tactic| walk_at "call ref") => `(tactic| refine stopW ?_)
set_option maxHeartbeats 1000000 in
theorem fo_e {s : Shared} {m : Str → Option Value} {Q : Value → Shared → Prop} {c : Nat} {tk : Tok} {I C D : Addr} {oI oC : Obj} {ys : List Value} {m₂ : Str → Option Value}
    (B' : Below (cA E) base [E] h₀) (F' : Fr h₀ L s.heap m) (X' : (KT w.params).In h₀) (N' : News h₀ L s.heap ((I, oI) :: (C, oC) :: (D, LCg.lst ys) :: news)) (T' : Top qv (looseW qv loose0) mean mg mb h₀)
    (hC : LCg.NsObj oC m₂) (hk : m₂ (Str.ofString "sign") = some (.str ⟨#[c]⟩ tk)) (h1 : (c, imgF c) ∈ b3s)
    (e sc : _) (he : (match foC with | some c => eltE c | none => none) = some e) (hsc : (match foC with | some c => scE c | none => none) = some sc)
    (hq : ∀ h' tk' t, Fr h₀ L h' m → News h₀ L h' ((I, oI) :: (C, oC) :: (D, LCg.lst ys) :: news) → Q (.str ⟨(imgF c).toArray⟩ t) { s with heap := h', toks := tk' }) :
    wpAny (model pg w) ((cA E).deeper (foEnv L)) (eval e (compEnvC sc [] C (foEnv L))) Q No s := by
  have hfill : (PySem.Challenge.rw_re0100_02, KT) = (PySem.Challenge.rw_re0100_02, KT) := by k_fill; rfl
  clear hfill
  w_on
  cases he
  cases hsc
  k_steps
  refine Stop.out ?_
  with_reducible refine b3_call h1 B' F' X' N' T' (deeper_frames B') rfl rfl rfl (by k_room) fun h2 tk2 tv F₂ N₂ => ?_
  exact hq _ _ _ F₂ N₂
set_option maxHeartbeats 1000000 in
theorem fo_s0 {s : Shared} {m : Str → Option Value} {Q : Flow → Shared → Prop} {wl : List Nat} {tw : Tok}
    (B' : Below (cA E) base [E] h₀) (F' : Fr h₀ L s.heap m) (hm : m (Str.ofString "signs") = some (.str ⟨wl.toArray⟩ tw)) (X' : (KT w.params).In h₀) (N' : News h₀ L s.heap news) (T' : Top qv (looseW qv loose0) mean mg mb h₀)
    (hok : ∀ c ∈ wl, (c, imgF c) ∈ b3s) (hl : wl.length ≤ 250) (hl2 : (wl.flatMap imgF).length ≤ 1000)
    (st : Stmt) (hst : (fB (stm 10))[0]? = some st)
    (h : ∀ h' tk t, Fr h₀ L h' m → News h₀ L h' news → Q (.ret (.str ⟨(wl.flatMap imgF).toArray⟩ t)) { s with heap := h', toks := tk }) :
    wpAny (model pg w) ((cA E).deeper (foEnv L)) (exec st (foEnv L)) Q No s := by
  cases hst
  refine wpAny_Return_some ?_
  refine eval_join (pl := pure true) rfl (by decide) (by with_unfolding_all rfl) (by rfl) ?_
  refine comp_str (L := L) (h₀ := h₀) (m := m) (cl := []) (by with_unfolding_all rfl) (by decide) (by rfl) (by decide) (by rfl) rfl ?_
  refine nameX_L (cl := []) (s := { s with toks := s.toks + 1 }) F' hm ?_
  have hsz : (⟨wl.toArray⟩ : Str).cps.size = wl.length := List.size_toArray ..
  refine ⟨⟨wl.toArray⟩, tw, news, rfl, F', N', by rw [hsz]; show _ ≤ 16777216; omega, fun g => ?_⟩
  refine comp_rest (fun i y => ∃ t, y = .str ⟨(imgF (wl.getD i 0)).toArray⟩ t) trivial ?_ ?_
  · rintro i v I oI oC CC D zs m₂ hp tk hi ⟨c, u, hc, rfl⟩ hC hx F N off ne
    have hil : i < wl.length := by rw [← hsz]; exact hi
    have ec : c = wl.getD i 0 := by
      have : wl[i]? = some c := by simpa using hc
      rw [List.getD_eq_getElem?_getD, this]; rfl
    have hmem : wl.getD i 0 ∈ wl := by rw [List.getD_eq_getElem?_getD, List.getElem?_eq_getElem hil]; exact List.getElem_mem _
    subst ec
    refine fo_e (s := { s with heap := hp, toks := tk }) B' F X' N T' hC hx (hok _ hmem) _ _ rfl rfl fun h' tk' t F N => ?_
    exact ⟨h', tk', rfl, F, N, t, rfl⟩
  · intro zs hl' hz D hp tk F N o1
    have hz' := strs_of_get (f := fun c => ⟨(imgF c).toArray⟩) zs wl (by rw [hl', hsz]) hz
    refine ⟨D, zs.toArray, _, rfl, N.isList (.head _), hz', ?_, fun tk t => ?_⟩
    · have e : ∀ l : List Nat, ((l.map fun c => (⟨(imgF c).toArray⟩ : Str)).map (·.length)).sum = (l.flatMap imgF).length := by
        intro l
        induction l with
        | nil => rfl
        | cons a r ih => simp only [List.map_cons, List.sum_cons, List.flatMap_cons, List.length_append]; rw [ih]; rfl
      rw [e, List.length_map]; omega
    · rw [txt_join, join_imgs]
      exact h hp tk t F (kst_newsOf N fun p hp => .tail _ hp)
theorem foS_0 : ∃ S0, fB (stm 10) = [S0] := ⟨_, rfl⟩
set_option maxHeartbeats 4000000 in
theorem fo_call {s : Shared} {m : Str → Option Value} {Q : Value → Shared → Prop} {wl : List Nat} {tw : Tok}
    (B : Below callerA base [] h₀) (F : Fr h₀ L s.heap m) (X₀ : (KT w.params).In h₀) (N : News h₀ L s.heap news) (T : Top qv (looseW qv loose0) mean mg mb h₀) (hf : E.frame = some L) (hke : E.scope.kind = .function)
    (hok : ∀ c ∈ wl, (c, imgF c) ∈ b3s) (hl : wl.length ≤ 250) (hl2 : (wl.flatMap imgF).length ≤ 1000)
    (h : ∀ h' tk t, Fr h₀ L h' m → News h₀ L h' news → Q (.str ⟨(wl.flatMap imgF).toArray⟩ t) { s with heap := h', toks := tk }) : wpAny (model pg w) (cA E) (PySem.call (.ref 102) [.str ⟨wl.toArray⟩ tw]) Q No s := by
  w_on
  have hfill : (PySem.Challenge.rw_re0100_02, KT) = (PySem.Challenge.rw_re0100_02, KT) := by k_fill; rfl
  clear hfill
  refine wpAny_call ?_
  refine' code_def (binds := [(Str.ofString "signs", .str ⟨wl.toArray⟩ tw)]) B F X₀ N T (outer := []) (env := E) rfl hf hke ?k6 ?k7 ?hr ?k9 ?kB ?_ ?c2 ?c3 ?c4 ?c5
  case k6 => k_is
  case k7 => k_is
  case hr => k_room
  case k9 => exact BindsTo.of_eq rfl
  case c5 => decide
  case kB => exact locs rfl
  case c2 => exact rfl
  case c3 => exact rfl
  case c4 => exact rfl
  intro g' L' h' FG' F' N' B' X' T'
  obtain ⟨S0, e⟩ := foS_0
  rw [e]
  have F₁ := fr_norm [(Str.ofString "signs", .str ⟨wl.toArray⟩ tw)] F' (fun q hq => by obtain rfl := List.mem_singleton.mp hq; rfl)
  refine wpAny_mono (E := No) ?_ (fun _ _ x => x) fun _ _ x => x.elim
  have g0 : (fB (stm 10))[0]? = some S0 := by rw [e]; rfl
  have hw₁ := kstB_atN (u := fun y => List.lookup y [(Str.ofString "signs", Value.str ⟨wl.toArray⟩ tw)].reverse) (ps := [(Str.ofString "signs", Value.str ⟨wl.toArray⟩ tw)]) [Str.ofString "signs"] rfl (by decide) _ (.head _)
  refine wpAny_execs_cons (fo_s0 B' F₁ hw₁ X' N' T' hok hl hl2 S0 g0 fun h₅ tk₅ t F₅ N₅ => ?_)
  show LeaveK _ _ _ _ _ _ _
  exact leaveK_ F₅ N₅ fun F₆ N₆ => h h₅ tk₅ t F₆ N₆
end
end Mine
end
section
set_option maxRecDepth 100000
set_option linter.unusedVariables false
set_option Elab.async false
namespace Mine
open PySem PySem.W PySem.Calls PyProof.Rows
section
variable {prog : Program} {w : World} {A : Around} {h₀ : Heap} {L : Addr} {m : Str → Option Value} {env : Env}
/-- one turn's ground in a block of pairs that asks and tells without touching the heap -/
structure ZTurn (h₀ : Heap) (L : Addr) (m : Str → Option Value) (a b : Str) (news : List (Addr × Obj)) (x y : Value) (C D : Addr) (oC : Obj) (zs : List Value) (h : Heap) : Prop where
  ns : ∃ m₂, LCg.NsObj oC m₂ ∧ m₂ a = some x ∧ m₂ b = some y
  fr : Fr h₀ L h m
  nw : News h₀ L h ((C, oC) :: (D, LCg.lst zs) :: news)
  off : ∀ p ∈ news, p.1 ≠ C ∧ p.1 ≠ D
  cd : C ≠ D
theorem filter_len (T : Nat → Bool) (i : Nat) : ((List.range (i + 1)).filter T).length = ((List.range i).filter T).length + (if T i = true then 1 else 0) := by
  rw [List.range_succ, List.filter_append, List.length_append]
  congr 1
  cases h : T i <;> simp [h]
theorem zip_block {elt iter c : PySem.Expr} {a b : Str} {pa pb tp : Pos} {kk : Nat} {scope : Scope} {cl : List (Str × Addr)} {pos : Pos} {s₂ : Shared} {z : Addr} {fp wr : List Addr} {n : Nat} {xs ys : Array Value} {P Md : Nat → Value → Heap → Prop} {St : Nat → Heap → Prop} {news : List (Addr × Obj)}
    {RR : Value → Addr → Result → Shared → Prop} (T : Nat → Bool) (R : Value → Prop)
    (W : KTurns prog w A (.Tuple [.Name a pa, .Name b pb] kk tp) z fp wr n P Md St) (hP : ∀ i v h, P i v h → ∃ t x y, v = .ref t ∧ h.IsTuple t #[x, y] ∧ xs[i]? = some x ∧ ys[i]? = some y)
    (hself : ∀ (s : Shared) (Q : Value → Shared → Prop) (E : Value → Shared → Prop), St 0 s.heap → Q (.ref z) s → wpAny (model prog w) A (pyIter (.ref z)) Q E s)
    (hsz : n ≤ sizeLine) (hst : St 0 s₂.heap) (hfp : ∀ b ∈ fp, b < s₂.heap.objs.size) (hwr : ∀ b ∈ wr, h₀.get? b = none) (hLw : L ∉ wr) (hnw : ∀ p ∈ news, p.1 ∉ wr)
    (hcell : ∀ y ∈ scope.names, y.2 ≠ .cell) (hkind : scope.kind = .function) (hxa : scope.names.lookup a = some .local) (hxb : scope.names.lookup b = some .local) (hab : ¬ a = b) (hh : A.handled = none)
    (F : Fr h₀ L s₂.heap m) (N : News h₀ L s₂.heap news)
    (htest : ∀ (i : Nat) x y C D oC zs h tk, xs[i]? = some x → ys[i]? = some y → ZTurn h₀ L m a b news x y C D oC zs h →
      wpAny (model prog w) A (PySem.isTrue c (compEnvC scope cl C env) (eval c (compEnvC scope cl C env))) (fun ok s' => ∃ tk', s' = { s₂ with heap := h, toks := tk' } ∧ ok = T i) No { s₂ with heap := h, toks := tk })
    (hel : ∀ (i : Nat) x y C D oC zs h tk, xs[i]? = some x → ys[i]? = some y → ZTurn h₀ L m a b news x y C D oC zs h →
      wpAny (model prog w) A (eval elt (compEnvC scope cl C env)) (fun u s' => ∃ tk', s' = { s₂ with heap := h, toks := tk' } ∧ R u) No { s₂ with heap := h, toks := tk })
    (hRR : ∀ D C h tk m' zs, zs.length = ((List.range n).filter T).length → (∀ u ∈ zs, R u) → Fr h₀ L h m → News h₀ L h ((D, LCg.lst zs) :: news) → h.Ns C m' → h₀.get? C = none → C ≠ L → C ≠ D → (∀ p ∈ news, p.1 ≠ C ∧ p.1 ≠ D) → RR (.ref D) C (.ok .next) { s₂ with heap := h, toks := tk }) :
    wpAny (model prog w) A (newList []) (fun acc s₃ => wpAny (model prog w) A (newFunctionEnv scope env.globals cl [] env.qual none .none (some env)) (fun cenv s₄ =>
      codeAny (model prog w) A (.compStart (.ListComp elt [⟨.Tuple [.Name a pa, .Name b pb] kk tp, iter, [c], 0⟩] scope pos) 0 (.ref z) acc { cenv with scope := relabel scope env }) (RR acc cenv.locals) s₄) No s₃) No s₂ := by
  refine wpAny_newObj_type (wpAny_newFunctionEnv hcell (by intro y hy; simp at hy) (fun h₁ hns₁ hsb₁ => ?_) hkind)
  dsimp only at hns₁ hsb₁ ⊢
  generalize hH2 : s₂.heap.push { cls := .type "list", dict := none, data := .seq ([] : List Value).toArray } = H2 at hns₁ hsb₁ ⊢
  have hC : H2.objs.size = s₂.heap.objs.size + 1 := by rw [← hH2, Heap.size_push]
  have hCD : H2.objs.size ≠ s₂.heap.objs.size := by rw [hC]; exact Nat.ne_of_gt (Nat.lt_succ_self _)
  have low : ∀ q, q < s₂.heap.objs.size → q ≠ H2.objs.size ∧ q ≠ s₂.heap.objs.size := fun q hq => ⟨by rw [hC]; exact Nat.ne_of_lt (Nat.lt_succ_of_lt hq), Nat.ne_of_lt hq⟩
  have up : ∀ q o, s₂.heap.get? q = some o → h₁.get? q = some o := fun q o e => hsb₁.extBut q o (low q (Heap.lt_size e)).1 (Heap.get?_push_of_some _ (hH2 ▸ Heap.get?_push_of_some _ e))
  have hacc : h₁.get? s₂.heap.objs.size = some (LCg.lst []) := hsb₁.extBut _ _ hCD.symm (Heap.get?_push_of_some _ (hH2 ▸ Heap.get?_push_size _ rfl))
  have hst₁ : St 0 h₁ := W.frame _ _ _ hst fun q _ o e => up q o e
  have new₀ : ∀ q, s₂.heap.objs.size ≤ q → h₀.get? q = none := fun q hq => ktu_new F hq
  have hD₀ := new₀ s₂.heap.objs.size (Nat.le_refl _)
  have hC₀ : h₀.get? H2.objs.size = none := new₀ _ (by rw [hC]; exact Nat.le_succ _)
  have hLlt : L < s₂.heap.objs.size := F.ns.lt
  have hCL : H2.objs.size ≠ L := (low L hLlt).1.symm
  have hDL : s₂.heap.objs.size ≠ L := (low L hLlt).2.symm
  have hwlt : ∀ q ∈ wr, q < s₂.heap.objs.size := fun q hq => hfp q (W.sub q hq)
  have hoff : ∀ p ∈ news, p.1 ≠ H2.objs.size ∧ p.1 ≠ s₂.heap.objs.size := fun p hp => low _ (Heap.lt_size (N p hp).1)
  have loop : ∀ s₃ : Shared, s₃ = { s₂ with heap := h₁, toks := s₂.toks + ([] : List (Str × Value)).length } →
      codeAny (model prog w) A (.compLoop (.ListComp elt [⟨.Tuple [.Name a pa, .Name b pb] kk tp, iter, [c], 0⟩] scope pos) 0 (.ref z) (.ref s₂.heap.objs.size) (compEnvC scope cl H2.objs.size env))
        (RR (.ref s₂.heap.objs.size) H2.objs.size) s₃ := by
    rintro s₃ rfl
    refine kct_loop
      (fun k s' => ∃ h' tk i zs m', s' = { s₂ with heap := h', toks := tk } ∧ i ≤ n ∧ k = n + 1 - i ∧ zs.length = ((List.range i).filter T).length ∧ zs.length ≤ i ∧ (∀ u ∈ zs, R u) ∧ St i h' ∧ Fr h₀ L h' m ∧ h'.Ns H2.objs.size m' ∧ News h₀ L h' ((s₂.heap.objs.size, LCg.lst zs) :: news)) ?_ (n + 1)
      ⟨h₁, _, 0, [], _, rfl, Nat.zero_le _, rfl, rfl, Nat.le_refl _, (fun u hu => nomatch hu), hst₁, F.keeps up, hns₁, fun p hp => ?_⟩
    · rintro k s' ⟨h', tk, i, zs, m', rfl, hi, rfl, hzl, hzi, hzR, hst', F', hn', N'⟩
      by_cases hlt : i < n
      · refine W.item i _ _ _ hlt hst' fun v h₂ tk₂ hMd hk₂ => ?_
        refine W.go i v _ _ _ hMd fun h₃ hPv hst₃ hk₃ => ?_
        obtain ⟨t, x, y, rfl, hT, hx, hy⟩ := hP i v _ hPv
        have hCw : H2.objs.size ∉ wr := fun q => (low _ (hwlt _ q)).1 rfl
        have hDw : s₂.heap.objs.size ∉ wr := fun q => (low _ (hwlt _ q)).2 rfl
        have k3 : ∀ q o, q ∉ wr → h'.get? q = some o → h₃.get? q = some o := fun q o hq e => hk₃ q o hq (hk₂ q o hq e)
        refine kcp_assign (env := compEnvC scope cl H2.objs.size env) hh hT (lookup_relabel_local hxa) (lookup_relabel_local hxb) (by simp [compEnvC, relabel, hkind]) (hn'.at' fun o e => k3 _ o hCw e) fun h₄ tk₄ hn₄ hs₄ => ?_
        have hst₄ : St (i + 1) h₄ := W.frame _ _ _ hst₃ fun q hq o e => hs₄ q o (low q (hfp q hq)).1 e
        have k4 : ∀ q o, q ∉ wr → q ≠ H2.objs.size → h'.get? q = some o → h₄.get? q = some o := fun q o h1 h2 e => hs₄ q o h2 (k3 q o h1 e)
        obtain ⟨oC, heC, hoC⟩ := LCg.ns_obj hn₄
        have F₄ : Fr h₀ L h₄ m := ⟨F'.ns.at' fun o e => k4 _ o hLw hCL.symm e, fun q o e => k4 q o (fun hq => by rw [hwr q hq] at e; cases e) (fun hq => by rw [hq, hC₀] at e; cases e) (F'.keep q o e), F'.above⟩
        have N₄ : News h₀ L h₄ ((H2.objs.size, oC) :: (s₂.heap.objs.size, LCg.lst zs) :: news) := fun p hp => by
          rcases List.mem_cons.mp hp with rfl | hp
          · exact ⟨heC, hCL, hC₀⟩
          · rcases List.mem_cons.mp hp with rfl | hp
            · exact ⟨k4 _ _ hDw hCD.symm (N' _ (.head _)).1, hDL, hD₀⟩
            · exact ⟨k4 _ _ (hnw p hp) (hoff p hp).1 (N' p (.tail _ hp)).1, (N' p (.tail _ hp)).2⟩
        have Z : ZTurn h₀ L m a b news x y H2.objs.size s₂.heap.objs.size oC zs h₄ := ⟨⟨_, hoC, by simp [hab], by simp⟩, F₄, N₄, hoff, hCD⟩
        have zC := (N₄ (H2.objs.size, oC) (.head _)).1
        refine wpAny_mono (htest i x y _ _ oC zs h₄ tk₄ hx hy Z) (fun ok s₅ h₅ => ?_) fun _ _ e => e.elim
        obtain ⟨tk₅, rfl, rfl⟩ := h₅
        have fl := filter_len T i
        cases hTi : T i with
        | false =>
          rw [hTi] at fl
          simp only [Bool.false_eq_true, if_false] at fl ⊢
          exact ⟨n + 1 - (i + 1), by omega, h₄, tk₅, i + 1, zs, _, rfl, hlt, rfl, by omega, by omega, hzR, hst₄, F₄, hoC.ns zC, fun p hp => N₄ p (.tail _ hp)⟩
        | true =>
          rw [hTi] at fl
          simp only [if_true] at fl ⊢
          refine wpAny_mono (hel i x y _ _ oC zs h₄ tk₅ hx hy Z) (fun u s₆ h₆ => ?_) fun _ _ e => e.elim
          obtain ⟨tk₆, rfl, hu⟩ := h₆
          refine append_at (hsz := by show zs.toArray.size ≤ sizeLine; rw [List.size_toArray]; omega) (N₄ (s₂.heap.objs.size, LCg.lst zs) (.tail _ (.head _))).1 fun h₇ hs₇ hD₇ => ?_
          refine ⟨n + 1 - (i + 1), by omega, h₇, _, i + 1, zs ++ [u], _, rfl, hlt, rfl, by rw [List.length_append, List.length_singleton]; omega, by rw [List.length_append, List.length_singleton]; omega, (fun u' hu' => (List.mem_append.mp hu').elim (hzR u') fun q => by rw [List.mem_singleton.mp q]; exact hu), W.frame _ _ _ hst₄ fun q hq o e => hs₇.extBut q o (low q (hfp q hq)).2 e, F₄.change hs₇ hDL hD₀, (hoC.ns zC).sameBut hs₇ hCD, fun p hp => ?_⟩
          rcases List.mem_cons.mp hp with rfl | hp
          · exact ⟨hD₇.trans (congrArg some (LCg.lst_snoc zs u)), hDL, hD₀⟩
          · exact ⟨hs₇.extBut _ _ (hoff p hp).2 (N₄ p (.tail _ (.tail _ hp))).1, (N₄ p (.tail _ (.tail _ hp))).2⟩
      · obtain rfl : i = n := Nat.le_antisymm hi (Nat.not_lt.mp hlt)
        refine W.done _ _ _ hst' fun h₂ tk₂ hk₂ => ?_
        have hCw : H2.objs.size ∉ wr := fun q => (low _ (hwlt _ q)).1 rfl
        have hDw : s₂.heap.objs.size ∉ wr := fun q => (low _ (hwlt _ q)).2 rfl
        refine hRR _ _ h₂ tk₂ _ zs hzl hzR ⟨F'.ns.at' fun o e => hk₂ _ o hLw e, fun q o e => hk₂ q o (fun hq => by rw [hwr q hq] at e; cases e) (F'.keep q o e), F'.above⟩ (fun p hp => ?_) (hn'.at' fun o e => hk₂ _ o hCw e) hC₀ hCL hCD hoff
        rcases List.mem_cons.mp hp with rfl | hp
        · exact ⟨hk₂ _ _ hDw (N' _ (.head _)).1, hDL, hD₀⟩
        · exact ⟨hk₂ _ _ (hnw p hp) (N' p (.tail _ hp)).1, (N' p (.tail _ hp)).2⟩
    · rcases List.mem_cons.mp hp with rfl | hp
      · exact ⟨hacc, hDL, hD₀⟩
      · exact ⟨up _ _ (N p hp).1, (N p hp).2⟩
  exact codeAny_compStart_list (loop _ rfl) (hself _ _ _ hst₁ (loop _ rfl))
/-- a zip object just made over two lists -/
structure ZipAt (h : Heap) (I l1 l2 : Addr) (xs ys : Array Value) : Prop where
  z : IsZip h (I + 4) (I + 2) (I + 3) .none
  p : IsPair h (I + 2) (.ref I) (.ref (I + 1))
  o : IsPair h (I + 3) .none .none
  i1 : h.IsListIter I l1 0
  i2 : h.IsListIter (I + 1) l2 0
  l1 : h.IsList l1 xs
  l2 : h.IsList l2 ys
structure ZipGround (h₀ : Heap) (L : Addr) (m : Str → Option Value) (news : List (Addr × Obj)) (h : Heap) (I l1 l2 : Addr) (xs ys : Array Value) : Prop where
  at_ : ZipAt h I l1 l2 xs ys
  fr : Fr h₀ L h m
  nw : News h₀ L h news
  lt1 : l1 < I
  lt2 : l2 < I
  ltL : L < I
  sz : I + 5 ≤ h.objs.size
  new : ∀ q, I ≤ q → h₀.get? q = none
  low : ∀ p ∈ news, p.1 < I
theorem zipGround {s : Shared} {Q : Value → Shared → Prop} {l1 l2 : Addr} {xs ys : Array Value} {news : List (Addr × Obj)} (F : Fr h₀ L s.heap m) (N : News h₀ L s.heap news) (hl1 : s.heap.IsList l1 xs) (hl2 : s.heap.IsList l2 ys)
    (h : ∀ h' I, ZipGround h₀ L m news h' I l1 l2 xs ys → Q (.ref (I + 4)) { s with heap := h' }) :
    wpAny (model prog w) A (call (.type "zip") [.ref l1, .ref l2]) Q No s := by
  have lt1 : l1 < s.heap.objs.size := by obtain ⟨_, e, _⟩ := hl1; exact Heap.lt_size e
  have lt2 : l2 < s.heap.objs.size := by obtain ⟨_, e, _⟩ := hl2; exact Heap.lt_size e
  refine call_zip_2 hl1 hl2 fun h' hz hp ho h1 h2 hs hk => h h' _ ⟨⟨hz, hp, ho, h1, h2, hl1.at fun o e => hk _ o e, hl2.at fun o e => hk _ o e⟩, F.keeps hk, N.grown hk, lt1, lt2, F.ns.lt, Nat.le_of_eq hs.symm, fun q hq => ktu_new F hq, fun p hp => Heap.lt_size (N p hp).1⟩
/-- [elt for a, b in zip(..) if c], a test and an item that leave the heap alone -/
theorem comp_zip {s : Shared} {elt iter c : PySem.Expr} {a b : Str} {pa pb tp : Pos} {kk : Nat} {scope : Scope} {cl : List (Str × Addr)} {pos : Pos} {Q : Value → Shared → Prop} (R : Value → Prop)
    (hclos : closureFor scope env = pure cl) (hcell : ∀ y ∈ scope.names, y.2 ≠ .cell) (hkind : scope.kind = .function)
    (hnames : ∀ y ∈ scope.names, y.2 = .local → scope.names.lookup y.1 = some .local) (hxa : scope.names.lookup a = some .local) (hxb : scope.names.lookup b = some .local) (hab : ¬ a = b) (hh : A.handled = none)
    (h : wpAny (model prog w) A (eval iter env) (fun xv s₁ => ∃ (I l1 l2 : Addr) (xs ys : Array Value) (news : List (Addr × Obj)) (T : Nat → Bool), xv = .ref (I + 4) ∧ ZipGround h₀ L m news s₁.heap I l1 l2 xs ys ∧ min xs.size ys.size ≤ sizeLine ∧
      (∀ (i : Nat) x y C D oC zs h tk, xs[i]? = some x → ys[i]? = some y → ZTurn h₀ L m a b news x y C D oC zs h →
        wpAny (model prog w) A (PySem.isTrue c (compEnvC scope cl C env) (eval c (compEnvC scope cl C env))) (fun ok s' => ∃ tk', s' = { s₁ with heap := h, toks := tk' } ∧ ok = T i) No { s₁ with heap := h, toks := tk }) ∧
      (∀ (i : Nat) x y C D oC zs h tk, xs[i]? = some x → ys[i]? = some y → ZTurn h₀ L m a b news x y C D oC zs h →
        wpAny (model prog w) A (eval elt (compEnvC scope cl C env)) (fun u s' => ∃ tk', s' = { s₁ with heap := h, toks := tk' } ∧ R u) No { s₁ with heap := h, toks := tk }) ∧
      (∀ D h tk zs, zs.length = ((List.range (min xs.size ys.size)).filter T).length → (∀ u ∈ zs, R u) → Fr h₀ L h m → News h₀ L h ((D, LCg.lst zs) :: news) → (∀ p ∈ news, p.1 ≠ D) → Q (.ref D) { s₁ with heap := h, toks := tk })) No s)
    (hs : ∀ x, foldedSetIterable iter env x = pure x := by intro _; rfl) :
    wpAny (model prog w) A (eval (.ListComp elt [⟨.Tuple [.Name a pa, .Name b pb] kk tp, iter, [c], 0⟩] scope pos) env) Q No s := by
  rw [eval_ListComp]
  refine wpAny_comprehension_free (use := none) rfl hs hclos hkind hnames (wpAny_mono h (fun xv s₁ h₁ => ?_) fun _ _ e => e)
  obtain ⟨I, l1, l2, xs, ys, news, T, rfl, G, hsz, ht, he, fin⟩ := h₁
  refine wpAny_pyIter_zip G.at_.z ?_
  have gsz := G.sz
  have lt1 := G.lt1
  have lt2 := G.lt2
  have ltL := G.ltL
  refine zip_block (xs := xs) (ys := ys) (news := news) T R (KTurns.ofWalksU (WalksT.zip2 hh _ _ _ _ _ _ _ (ktu_apart I l1 l2 G.lt1 G.lt2) xs ys).toU) ?_ ?_ hsz ⟨G.at_.z, G.at_.p, ⟨_, _, G.at_.o⟩, G.at_.i1, G.at_.i2, G.at_.l1, G.at_.l2⟩ ?_ ?_ ?_ ?_ hcell hkind hxa hxb hab hh G.fr G.nw ht he ?_
  · rintro i v h ⟨t, vals, rfl, ⟨x, y, hx, hy, rfl⟩, hT⟩
    exact ⟨t, x, y, rfl, hT, hx, hy⟩
  · rintro s Q E ⟨hz, _⟩ hq
    exact wpAny_pyIter_zip hz hq
  · intro q hq
    have hq' : q = I + 4 ∨ q = I + 2 ∨ q = I + 3 ∨ q = I ∨ q = I + 1 ∨ q = l1 ∨ q = l2 := by simpa using hq
    show (q : Nat) < s₁.heap.objs.size
    have e1 : (I : Nat) + 5 ≤ s₁.heap.objs.size := gsz
    have e2 : (l1 : Nat) < I := lt1
    have e3 : (l2 : Nat) < I := lt2
    rcases hq' with rfl | rfl | rfl | rfl | rfl | rfl | rfl
    · exact Nat.lt_of_lt_of_le (Nat.lt_succ_self (I + 4)) gsz
    · exact Nat.lt_of_lt_of_le (Nat.add_lt_add_left (by decide) I) gsz
    · exact Nat.lt_of_lt_of_le (Nat.add_lt_add_left (by decide) I) gsz
    · exact Nat.lt_of_lt_of_le (Nat.lt_add_of_pos_right (by decide)) gsz
    · exact Nat.lt_of_lt_of_le (Nat.add_lt_add_left (by decide) I) gsz
    · exact Nat.lt_of_lt_of_le (Nat.lt_of_lt_of_le lt1 (Nat.le_add_right _ _)) gsz
    · exact Nat.lt_of_lt_of_le (Nat.lt_of_lt_of_le lt2 (Nat.le_add_right _ _)) gsz
  · intro q hq
    have hq' : q = I + 4 ∨ q = I + 3 ∨ q = I ∨ q = I + 1 := by simpa using hq
    refine G.new q ?_
    rcases hq' with rfl | rfl | rfl | rfl
    · exact Nat.le_add_right _ _
    · exact Nat.le_add_right _ _
    · exact Nat.le_refl _
    · exact Nat.le_add_right _ _
  · intro hq
    have hq' : L = I + 4 ∨ L = I + 3 ∨ L = I ∨ L = I + 1 := by simpa using hq
    rcases hq' with e | e | e | e
    · exact absurd ltL (e ▸ Nat.not_lt.mpr (Nat.le_add_right I 4))
    · exact absurd ltL (e ▸ Nat.not_lt.mpr (Nat.le_add_right I 3))
    · exact absurd ltL (e ▸ Nat.lt_irrefl _)
    · exact absurd ltL (e ▸ Nat.not_lt.mpr (Nat.le_add_right I 1))
  · intro p hp hq
    have hl := G.low p hp
    have hq' : p.1 = I + 4 ∨ p.1 = I + 3 ∨ p.1 = I ∨ p.1 = I + 1 := by simpa using hq
    rcases hq' with e | e | e | e
    · exact absurd hl (e ▸ Nat.not_lt.mpr (Nat.le_add_right I 4))
    · exact absurd hl (e ▸ Nat.not_lt.mpr (Nat.le_add_right I 3))
    · exact absurd hl (e ▸ Nat.lt_irrefl _)
    · exact absurd hl (e ▸ Nat.not_lt.mpr (Nat.le_add_right I 1))
  · intro D C h tk m' zs hzl hzR F' N' hn hC₀ hCL hCD off
    refine ⟨m', hn, fun h'' hs'' => ?_⟩
    refine fin D h'' tk zs hzl hzR (F'.change hs'' hCL hC₀) (fun p hp => ⟨hs''.extBut _ _ ?_ (N' p hp).1, (N' p hp).2⟩) fun p hp => (off p hp).2
    rcases List.mem_cons.mp hp with rfl | hp
    · exact Ne.symm hCD
    · exact (off p hp).1
end
end Mine
end
section
set_option maxRecDepth 100000
set_option linter.unusedVariables false
set_option Elab.async false
namespace Mine
open PySem PySem.W PySem.Calls PyProof.Rows
section
variable {prog : Program} {w : World} {A : Around} {s : Shared} {env : Env} {h₀ : Heap} {body : List Stmt} {Q : Flow → Shared → Prop}
/-- a loop over a range whose name may be a cell -/
theorem for_rangeC {σ : Type} {x : Str} {px : Pos} {r : Addr} {a₀ b₀ : Int} {t₀ u₀ v₀ : Tok} {n : Nat} {m₀ : Str → Option Value} (ps : σ → List (Str × Value)) (Led : σ → List (Addr × Obj)) (P : Nat → σ → Prop) (c₀ : σ)
    (hh : A.handled = none) (hr : IsRange s.heap r a₀ b₀ 1 t₀ u₀ v₀) (hsmall : Builtin.Range.small a₀ b₀ 1 = true) (hn : Builtin.Range.rangeSize a₀ b₀ 1 = (n : Int)) (F : Fr h₀ env.locals s.heap m₀) (N : News h₀ env.locals s.heap (Led c₀))
    (hk : ∀ p ∈ ps c₀, m₀ p.1 = some p.2) (hp : P 0 c₀) (hadr : ∀ c, (Led c).map (·.1) = (Led c₀).map (·.1))
    (turn : ∀ (i : Nat) k t c m h tk own, i < n → k = a₀ + (i : Int) → P i c → OwnOff own ((Led c₀).map (·.1)) → (∀ p ∈ ps c, m p.1 = some p.2) → Fr h₀ env.locals h m → News h₀ env.locals h (Led c ++ own) →
      wpAny (model prog w) A (storeName env x (.int k t)) (fun _ s₃ => wpAny (model prog w) A (execs body env) (TurnOk h₀ env.locals ps Led (P (i + 1)) own { s with heap := h, toks := tk } Q) No s₃) No { s with heap := h, toks := tk })
    (done : ∀ c m h tk, P n c → (∀ p ∈ ps c, m p.1 = some p.2) → Fr h₀ env.locals h m → News h₀ env.locals h (Led c) → Q .next { s with heap := h, toks := tk }) :
    wpAny (model prog w) A (pyIter (.ref r)) (fun it s₂ => TurnsAt prog w A h₀ env (.Name x px) body Q No it s₂) No s := by
  refine wpAny_pyIter_range hr hsmall ?_
  have W := LCg.range_walks (prog := prog) (w := w) (A := A) (I := s.heap.objs.size) hh a₀ n
  have hoffI : ∀ nx : List (Addr × Obj), nx.map (·.1) = (Led c₀).map (·.1) → ∀ p ∈ nx, p.1 ∉ [s.heap.objs.size] := by
    intro nx e p hp hI
    have h1 : p.1 ∈ (Led c₀).map (·.1) := e ▸ List.mem_map.mpr ⟨p, hp, rfl⟩
    obtain ⟨q, hq, e2⟩ := List.mem_map.mp h1
    have := Heap.lt_size (N q hq).1
    rw [e2, List.mem_singleton.mp hI] at this
    exact Nat.lt_irrefl _ this
  refine ⟨s.heap.objs.size, _, _, n, _, _, _, m₀, Led c₀, (fun i m nx => nx.map (·.1) = (Led c₀).map (·.1) ∧ ∃ c, nx = Led c ∧ (∀ p ∈ ps c, m p.1 = some p.2) ∧ P i c), rfl,
    KTurns.ofWalks (target := .Name x px) W (fun i v s Q E _ hq => by show wpAny _ _ (pure ()) _ _ _; exact wpAny_pure hq), ?_, ?_, hoffI _ rfl, ?_, F.push _, (fun p hp => ⟨Heap.get?_push_of_some _ (N p hp).1, (N p hp).2⟩), ⟨rfl, c₀, rfl, hk, hp⟩, ?_, ?_⟩
  · intro hm
    exact absurd F.ns.lt ((List.mem_singleton.mp hm) ▸ Nat.lt_irrefl _)
  · intro b hb
    rw [List.mem_singleton.mp hb]
    exact next_is_new F
  · show IsRangeIter _ _ _ _ _
    rw [hn]; simpa using Heap.get?_push_size _ rfl
  · rintro i v m₁ news₁ h₁ tk₁ own hi ⟨t, rfl⟩ ⟨hadr', c, rfl, h1, h2⟩ hoff hown _ _ _ F₁ N₁
    have hsep : OwnOff own ((Led c₀).map (·.1)) := by
      intro p hp b hb e
      obtain ⟨q, hq, e2⟩ := List.mem_map.mp (hadr' ▸ hb)
      exact hoff q hq (by rw [e2, ← e]; exact hown p hp)
    refine wpAny_assign_Name ?_
    refine wpAny_mono (turn i _ t c m₁ h₁ tk₁ own hi rfl h2 hsep h1 F₁ (kst_newsOf N₁ fun p hp => (List.mem_append.mp hp).elim (fun q => List.mem_append_right _ q) fun q => List.mem_append_left _ q)) (fun _ s₃ h₃ => wpAny_mono h₃ (fun f s₄ p => ?_) fun _ _ e => e) fun _ _ e => e
    have fin : (∃ c m h' tk' nw, s₄ = { s with heap := h', toks := tk' } ∧ P (i + 1) c ∧ Fr h₀ env.locals h' m ∧ (∀ p ∈ ps c, m p.1 = some p.2) ∧ News h₀ env.locals h' nw ∧ (∀ p ∈ Led c, p ∈ nw) ∧ (∀ p ∈ own, p ∈ nw)) →
        LoopStepU h₀ env.locals [s.heap.objs.size] own (fun m nx => nx.map (·.1) = (Led c₀).map (·.1) ∧ ∃ c, nx = Led c ∧ (∀ p ∈ ps c, m p.1 = some p.2) ∧ P (i + 1) c) { s with heap := h₁, toks := tk₁ } .next s₄ := by
      rintro ⟨c', m', h', tk', nw, e, hP, F', hm, N', hl, ho⟩
      exact ⟨rfl, h', tk', m', Led c', e, F', kst_newsOf N' fun p hp => (List.mem_append.mp hp).elim (ho p) (hl p), hoffI _ (hadr c'), hadr c', c', rfl, hm, hP⟩
    cases f with
    | ret v => exact p
    | brk => exact p
    | next => exact fin p
    | cont => exact fin p
  · rintro h' tk m' news' F' N' _ ⟨_, c, rfl, h1, h2⟩
    exact done c m' h' tk h2 h1 F' N'
end
end Mine
end
section
set_option maxRecDepth 100000
set_option linter.unusedVariables false
set_option Elab.async false
set_option pp.maxSteps 3000
namespace Mine
open PySem PySem.W PySem.Calls PyProof.Rows
abbrev leEnv (L : Addr) : Env := envOfC (Str.ofString "_law_least") (fS (stm 9)) L 97 (Value.ref 96)
def leB : List Stmt := match (fB (stm 9))[0]? with | some s => forB s | none => []
def leC1 : Option PySem.Expr := match leB[0]? with | some s => asgE s | none => none
def cmpL : PySem.Expr → Option PySem.Expr | .Compare e _ _ _ => some e | _ => none
def leC2 : Option PySem.Expr := match (match leB[1]? with | some s => ifT s | none => none) with | some e => cmpL e | none => none
def tstE : PySem.Expr → Option PySem.Expr | .ListComp _ [⟨_, _, [t], _⟩] _ _ => some t | _ => none
def itrE : PySem.Expr → Option PySem.Expr | .ListComp _ [⟨_, i, _, _⟩] _ _ => some i | _ => none
theorem slice_run (wl : List Nat) {k sz : Nat} (h : k + sz ≤ wl.length) : Txt.slice ⟨wl.toArray⟩ (some (k : Int)) (some ((k : Int) + (sz : Int))) = ⟨((wl.drop k).take sz).toArray⟩ := by
  show StrLaws.sliceText _ _ _ = _
  have hl : (⟨wl.toArray⟩ : Str).cps.toList.length = wl.length := by simp
  rw [StrLaws.sliceText_plain ⟨by omega, by omega, by rw [hl]; omega⟩, show ((k : Int) + (sz : Int) - (k : Int)).toNat = sz by omega, Int.toNat_natCast]
theorem slice_pre (wl : List Nat) {sz : Nat} (h : sz ≤ wl.length) : Txt.slice ⟨wl.toArray⟩ none (some (sz : Int)) = ⟨(wl.take sz).toArray⟩ := by
  show StrLaws.sliceText _ _ _ = _
  have hl : (⟨wl.toArray⟩ : Str).cps.toList.length = wl.length := by simp
  rw [StrLaws.sliceText_to ⟨by omega, by rw [hl]; omega⟩, show ((sz : Int) - 0).toNat = sz by omega]
  rfl
theorem str_eq (a b : List Nat) : ((⟨a.toArray⟩ : Str) == ⟨b.toArray⟩) = decide (a = b) := by
  rw [Bool.eq_iff_iff]
  simp
section
variable {w : World} {E : Env} {A : Around} {base : Heap} {outer : List Env} {h₀ : Heap} {L D : Addr} {mg mb : Str → Option Value} {news : List (Addr × Obj)} {mean : ExcName → Option Value}
set_option maxHeartbeats 1000000 in
theorem le_it1 {s : Shared} {m : Str → Option Value} {Q : Value → Shared → Prop} {wl : List Nat} {sz : Nat} {tw tz : Tok} {or oz : Obj}
    (B' : Below (cA E) base [E] h₀) (F' : Fr h₀ L s.heap m) (X' : (KT w.params).In h₀) (N' : News h₀ L s.heap ((L + 2, oz) :: (L + 1, or) :: news)) (T' : Top qv (looseW qv loose0) mean mg mb h₀)
    (hr : or.data = .cell (some (.str ⟨wl.toArray⟩ tw))) (hz : oz.data = .cell (some (.int (sz : Int) tz))) (h1 : 1 ≤ sz) (h2 : sz ≤ (⟨wl.toArray⟩ : Str).length) (hl : (⟨wl.toArray⟩ : Str).length ≤ 250)
    (e : _) (he : (match leC1 with | some c => itrE c | none => none) = some e)
    (hq : ∀ h' tk' r t u v, IsRange h' r 0 (((⟨wl.toArray⟩ : Str).length : Int) - (sz : Int) + 1) 1 t u v → Fr h₀ L h' m → News h₀ L h' ((L + 2, oz) :: (L + 1, or) :: news) → Q (.ref r) { s with heap := h', toks := tk' }) :
    wpAny (model pg w) ((cA E).deeper (leEnv L)) (eval e (leEnv L)) Q No s := by
  have hfill : (PySem.Challenge.rw_re0100_02, KT) = (PySem.Challenge.rw_re0100_02, KT) := by k_fill; rfl
  clear hfill
  w_on
  cases he
  k_steps
  exact hq _ _ _ _ _ _ (by assumption) (by assumption) (by assumption)
set_option maxHeartbeats 1000000 in
theorem le_t1 {s : Shared} {m : Str → Option Value} {Q : Bool → Shared → Prop} {wl : List Nat} {sz k : Nat} {tw tz tk : Tok} {or oz : Obj} {I C D : Addr} {oI oC : Obj} {ys : List Value} {m₂ : Str → Option Value}
    (B' : Below (cA E) base [E] h₀) (F' : Fr h₀ L s.heap m) (X' : (KT w.params).In h₀) (N' : News h₀ L s.heap ((L + 2, oz) :: (L + 1, or) :: (I, oI) :: (C, oC) :: (D, LCg.lst ys) :: news)) (T' : Top qv (looseW qv loose0) mean mg mb h₀)
    (hr : or.data = .cell (some (.str ⟨wl.toArray⟩ tw))) (hz : oz.data = .cell (some (.int (sz : Int) tz))) (h1 : 1 ≤ sz) (h2 : k + sz ≤ (⟨wl.toArray⟩ : Str).length) (hl : (⟨wl.toArray⟩ : Str).length ≤ 250)
    (hC : LCg.NsObj oC m₂) (hk : m₂ (Str.ofString "k") = some (.int (k : Int) tk))
    (e sc : _) (he : (match leC1 with | some c => tstE c | none => none) = some e) (hsc : (match leC1 with | some c => scE c | none => none) = some sc)
    (hq : ∀ h' tk', Fr h₀ L h' m → News h₀ L h' ((L + 2, oz) :: (L + 1, or) :: (I, oI) :: (C, oC) :: (D, LCg.lst ys) :: news) → Q (decide ((wl.drop k).take sz = wl.take sz)) { s with heap := h', toks := tk' }) :
    wpAny (model pg w) ((cA E).deeper (leEnv L)) (PySem.isTrue e (compEnvC sc [(Str.ofString "size", L + 2), (Str.ofString "row", L + 1)] C (leEnv L)) (eval e (compEnvC sc [(Str.ofString "size", L + 2), (Str.ofString "row", L + 1)] C (leEnv L)))) Q No s := by
  have hfill : (PySem.Challenge.rw_re0100_02, KT) = (PySem.Challenge.rw_re0100_02, KT) := by k_fill; rfl
  clear hfill
  w_on
  cases he
  cases hsc
  k_steps
  have hl' : (⟨wl.toArray⟩ : Str).length = wl.length := List.size_toArray ..
  rw [slice_run wl (by omega), slice_pre wl (by omega), str_eq]
  exact hq _ _ (by assumption) (by assumption)
set_option maxHeartbeats 1000000 in
theorem le_e1 {s : Shared} {m : Str → Option Value} {Q : Value → Shared → Prop} {k : Nat} {tk : Tok} {I C D : Addr} {oI oC : Obj} {ys : List Value} {m₂ : Str → Option Value} {cl : List (Str × Addr)}
    (B' : Below (cA E) base [E] h₀) (F' : Fr h₀ L s.heap m) (X' : (KT w.params).In h₀) (N' : News h₀ L s.heap ((I, oI) :: (C, oC) :: (D, LCg.lst ys) :: news)) (T' : Top qv (looseW qv loose0) mean mg mb h₀)
    (hC : LCg.NsObj oC m₂) (hk : m₂ (Str.ofString "k") = some (.int (k : Int) tk))
    (e sc : _) (he : (match leC1 with | some c => eltE c | none => none) = some e) (hsc : (match leC1 with | some c => scE c | none => none) = some sc)
    (hq : ∀ tk' t, Q (.int (k : Int) t) { s with toks := tk' }) :
    wpAny (model pg w) ((cA E).deeper (leEnv L)) (eval e (compEnvC sc [(Str.ofString "size", L + 2), (Str.ofString "row", L + 1)] C (leEnv L))) Q No s := by
  have hfill : (PySem.Challenge.rw_re0100_02, KT) = (PySem.Challenge.rw_re0100_02, KT) := by k_fill; rfl
  clear hfill
  w_on
  cases he
  cases hsc
  k_steps
  exact hq _ _
def nextL (pl : List Nat) (n : Nat) : List Nat := pl.drop 1 ++ [n]
section
local macro_rules | `(tactic| walk_at "call type:zip") => `(tactic| refine stopW ?_)
set_option maxHeartbeats 1000000 in
theorem le_it2 {s : Shared} {m : Str → Option Value} {Q : Value → Shared → Prop} {wl pl : List Nat} {PL : Addr} {tw : Tok} {or oz : Obj} {vs : List Value} {nt : Nat}
    (B' : Below (cA E) base [E] h₀) (F' : Fr h₀ L s.heap (kstB m [(Str.ofString "places", .ref PL)])) (X' : (KT w.params).In h₀) (N' : News h₀ L s.heap ((PL, PySem.W.listOf vs.toArray nt) :: (L + 1, or) :: (L + 2, oz) :: news)) (T' : Top qv (looseW qv loose0) mean mg mb h₀)
    (hr : or.data = .cell (some (.str ⟨wl.toArray⟩ tw))) (hl : (⟨wl.toArray⟩ : Str).length ≤ 250) (hI : IntsAre vs (natsI pl)) (hp : pl.length ≤ 250)
    (e : _) (he : (match leC2 with | some c => itrE c | none => none) = some e)
    (h : ∀ ws h' tk I D2 rest, ZipGround h₀ L (kstB m [(Str.ofString "places", .ref PL)]) (rest ++ (PL, PySem.W.listOf vs.toArray nt) :: (L + 1, or) :: (L + 2, oz) :: news) h' I PL D2 vs.toArray ws.toArray → IntsAre ws (natsI (nextL pl wl.length)) → Q (.ref (I + 4)) { s with heap := h', toks := tk }) :
    wpAny (model pg w) ((cA E).deeper (leEnv L)) (eval e (leEnv L)) Q No s := by
  have hfill : (PySem.Challenge.rw_re0100_02, KT) = (PySem.Challenge.rw_re0100_02, KT) := by k_fill; rfl
  clear hfill
  dsimp only [kstB] at F'
  have hll : (natsI pl).length = pl.length := List.length_map ..
  have hl' : (⟨wl.toArray⟩ : Str).length = wl.length := List.size_toArray ..
  w_on
  cases he
  k_steps
  rename Fr _ _ _ _ => F₂
  rename News _ _ _ _ => N₂
  rename IntsAre _ (_ ++ _) => I₂
  refine Stop.out ?_
  have e1 : List.drop 1 (natsI pl) ++ [((⟨wl.toArray⟩ : Str).length : Int)] = natsI (nextL pl wl.length) := by
    rw [hl', nextL]; simp [natsI]
  rw [e1] at I₂
  refine zipGround (m := kstB m [(Str.ofString "places", .ref PL)]) F₂ (kst_newsOf N₂ (l' := [_, _, _] ++ (PL, PySem.W.listOf vs.toArray nt) :: (L + 1, or) :: (L + 2, oz) :: news) fun p hp => hp) (N₂.isList (.tail _ (.tail _ (.tail _ (.head _))))) (N₂.isList (.head _)) fun h' I G => ?_
  exact h _ _ _ _ _ _ G I₂
end
end
end Mine
end
section
set_option maxRecDepth 100000
set_option linter.unusedVariables false
set_option Elab.async false
set_option pp.maxSteps 3000
namespace Mine
open PySem PySem.W PySem.Calls PyProof.Rows
section
variable {w : World} {E : Env} {A : Around} {base : Heap} {outer : List Env} {h₀ : Heap} {L : Addr} {mg mb : Str → Option Value} {news : List (Addr × Obj)} {mean : ExcName → Option Value}
set_option maxHeartbeats 1000000 in
theorem le_t2 {s : Shared} {m : Str → Option Value} {Q : Bool → Shared → Prop} {sz k o : Nat} {tz tk to : Tok} {oz : Obj} {C D : Addr} {oC : Obj} {ys : List Value} {m₂ : Str → Option Value}
    (B' : Below (cA E) base [E] h₀) (F' : Fr h₀ L s.heap m) (X' : (KT w.params).In h₀) (N' : News h₀ L s.heap ((L + 2, oz) :: (C, oC) :: (D, LCg.lst ys) :: news)) (T' : Top qv (looseW qv loose0) mean mg mb h₀)
    (hz : oz.data = .cell (some (.int (sz : Int) tz))) (h1 : sz ≤ 250) (h2 : k ≤ 250) (h3 : o ≤ 250)
    (hC : LCg.NsObj oC m₂) (hk : m₂ (Str.ofString "k") = some (.int (k : Int) tk)) (ho : m₂ (Str.ofString "other") = some (.int (o : Int) to))
    (e sc : _) (he : (match leC2 with | some c => tstE c | none => none) = some e) (hsc : (match leC2 with | some c => scE c | none => none) = some sc)
    (hq : ∀ tk', Q (decide (sz < o - k)) { s with toks := tk' }) :
    wpAny (model pg w) ((cA E).deeper (leEnv L)) (PySem.isTrue e (compEnvC sc [(Str.ofString "size", L + 2)] C (leEnv L)) (eval e (compEnvC sc [(Str.ofString "size", L + 2)] C (leEnv L)))) Q No s := by
  have hfill : (PySem.Challenge.rw_re0100_02, KT) = (PySem.Challenge.rw_re0100_02, KT) := by k_fill; rfl
  clear hfill
  w_on
  cases he
  cases hsc
  k_steps
  have e2 : decide ((sz : Int) < (o : Int) - (k : Int)) = decide (sz < o - k) := by
    rw [decide_eq_decide]; omega
  rw [e2]
  exact hq _
set_option maxHeartbeats 1000000 in
theorem le_e2 {s : Shared} {m : Str → Option Value} {Q : Value → Shared → Prop} {k : Nat} {tk : Tok} {C D : Addr} {oC : Obj} {ys : List Value} {m₂ : Str → Option Value}
    (B' : Below (cA E) base [E] h₀) (F' : Fr h₀ L s.heap m) (X' : (KT w.params).In h₀) (N' : News h₀ L s.heap ((C, oC) :: (D, LCg.lst ys) :: news)) (T' : Top qv (looseW qv loose0) mean mg mb h₀)
    (hC : LCg.NsObj oC m₂) (hk : m₂ (Str.ofString "k") = some (.int (k : Int) tk))
    (e sc : _) (he : (match leC2 with | some c => eltE c | none => none) = some e) (hsc : (match leC2 with | some c => scE c | none => none) = some sc)
    (hq : ∀ tk' t, Q (.int (k : Int) t) { s with toks := tk' }) :
    wpAny (model pg w) ((cA E).deeper (leEnv L)) (eval e (compEnvC sc [(Str.ofString "size", L + 2)] C (leEnv L))) Q No s := by
  have hfill : (PySem.Challenge.rw_re0100_02, KT) = (PySem.Challenge.rw_re0100_02, KT) := by k_fill; rfl
  clear hfill
  w_on
  cases he
  cases hsc
  k_steps
  exact hq _ _
def placesL (wl : List Nat) (sz : Nat) : List Nat := (List.range (wl.length - sz + 1)).filter fun k => decide ((wl.drop k).take sz = wl.take sz)
theorem ints_of_get : ∀ (ys : List Value) (l : List Nat), ys.length = l.length → (∀ (i : Nat) y, ys[i]? = some y → ∃ t, y = .int ((l.getD i 0 : Nat) : Int) t) → IntsAre ys (natsI l)
  | [], [], _, _ => .nil
  | [], _ :: _, h, _ => by simp at h
  | _ :: _, [], h, _ => by simp at h
  | y :: r, c :: cr, hl, h => by
    obtain ⟨t, rfl⟩ := h 0 y rfl
    exact .cons _ _ (ints_of_get r cr (by simpa using hl) fun i z hz => h (i + 1) z (by simpa using hz))
set_option maxHeartbeats 1000000 in
theorem le_b0 {s : Shared} {m : Str → Option Value} {Q : Flow → Shared → Prop} {wl : List Nat} {sz : Nat} {tw tz : Tok} {or oz : Obj}
    (B' : Below (cA E) base [E] h₀) (F' : Fr h₀ L s.heap m) (X' : (KT w.params).In h₀) (N' : News h₀ L s.heap ((L + 2, oz) :: (L + 1, or) :: news)) (T' : Top qv (looseW qv loose0) mean mg mb h₀)
    (hr : or.data = .cell (some (.str ⟨wl.toArray⟩ tw))) (hz : oz.data = .cell (some (.int (sz : Int) tz))) (h1 : 1 ≤ sz) (h2 : sz ≤ wl.length) (hl : wl.length ≤ 250)
    (st : Stmt) (hst : leB[0]? = some st)
    (h : ∀ PL h' tk ys, Fr h₀ L h' (upd m (Str.ofString "places") (.ref PL)) → News h₀ L h' ((PL, LCg.lst ys) :: (L + 2, oz) :: (L + 1, or) :: news) → IntsAre ys (natsI (placesL wl sz)) → Q .next { s with heap := h', toks := tk }) :
    wpAny (model pg w) ((cA E).deeper (leEnv L)) (exec st (leEnv L)) Q No s := by
  cases hst
  have hlw : (⟨wl.toArray⟩ : Str).length = wl.length := List.size_toArray ..
  refine LCt.Assign_ListComp_T (F₀ := F') (cl := [(Str.ofString "size", L + 2), (Str.ofString "row", L + 1)]) (by rfl) (by with_unfolding_all rfl) (by with_unfolding_all rfl) (by decide) (by rfl) (by decide) (by rfl) (by rfl) (by rfl) ?_
  refine le_it1 B' F' X' N' T' hr hz h1 (by rw [hlw]; exact h2) (by rw [hlw]; exact hl) _ rfl fun h₁ tk₁ r t u v hrg F₁ N₁ => ?_
  rw [hlw] at hrg
  refine LCt.CompSrcT.range rfl F₁ N₁ hrg (small_one (by omega) (by omega) (by omega) (by omega)) (n := wl.length - sz + 1) (by rw [rangeSize_nat]; omega) (by show wl.length - sz + 1 ≤ 16777216; omega) fun g => ?_
  refine comp_restT (fun k => decide ((wl.drop k).take sz = wl.take sz)) (fun i y => ∃ t, y = .int (i : Int) t) trivial ?_ ?_ ?_
  · rintro i v I oI oC C D ys m₂ h tk hi ⟨tv, rfl⟩ hC hx F N off ne
    rw [show (0 : Int) + (i : Int) = (i : Int) by omega] at hx
    refine le_t1 (s := { s with heap := h, toks := tk }) (news := (L + 2, oz) :: (L + 1, or) :: news) B' F X' (news_add (news_add N (.tail _ (.tail _ (.tail _ (.tail _ (.head _)))))) (.tail _ (.tail _ (.tail _ (.tail _ (.head _)))))) T' hr hz h1 (by rw [hlw]; omega) (by rw [hlw]; exact hl) hC hx _ _ rfl rfl fun h' tk' F N => ?_
    exact ⟨h', tk', rfl, F, kst_newsOf N fun p hp => .tail _ (.tail _ hp), rfl⟩
  · rintro i v I oI oC C D ys m₂ h tk hi _ ⟨tv, rfl⟩ hC hx F N off ne
    rw [show (0 : Int) + (i : Int) = (i : Int) by omega] at hx
    refine le_e1 (s := { s with heap := h, toks := tk }) (cl := []) B' F X' N T' hC hx _ _ rfl rfl fun tk' t => ?_
    exact ⟨h, tk', rfl, F, N, t, rfl⟩
  · intro ys hl hy D hp tk F N o1
    refine h D _ _ ys F N ?_
    refine ints_of_get ys _ (by rw [hl, placesL]) fun i y hi => hy i y hi
end
end Mine
end
section
set_option maxRecDepth 100000
set_option linter.unusedVariables false
set_option Elab.async false
set_option pp.maxSteps 3000
namespace Mine
open PySem PySem.W PySem.Calls PyProof.Rows
section
variable {w : World} {E : Env} {A : Around} {base : Heap} {outer : List Env} {h₀ : Heap} {L : Addr} {mg mb : Str → Option Value} {news : List (Addr × Obj)} {mean : ExcName → Option Value}
set_option maxHeartbeats 1000000 in
theorem le_k {s : Shared} {Q : Bool → Shared → Prop} {m : Str → Option Value} {D : Addr} {p1 : Pos} {ys : List Value} {ns : List Int} {n : Nat}
    (B' : Below (cA E) base [E] h₀) (F' : Fr h₀ L s.heap m) (X' : (KT w.params).In h₀) (N' : News h₀ L s.heap ((D, PySem.W.listOf ys.toArray n) :: news)) (T' : Top qv (looseW qv loose0) mean mg mb h₀) (hI : IntsAre ys ns) (hl : ns.length ≤ 250)
    (hq : ∀ h' tk', Fr h₀ L h' m → News h₀ L h' news → Q (decide (ns = [])) { s with heap := h', toks := tk' }) :
    wpAny (model pg w) ((cA E).deeper (leEnv L)) (eval (.List [] p1) (leEnv L)) (fun b s₂ => wpAny (model pg w) ((cA E).deeper (leEnv L)) (compareOp .Eq (.ref D) b) (fun c s₃ => wpAny (model pg w) ((cA E).deeper (leEnv L)) (truthy c) Q No s₃) No s₂) No s := by
  have hfill : (PySem.Challenge.rw_re0100_02, KT) = (PySem.Challenge.rw_re0100_02, KT) := by k_fill; rfl
  clear hfill
  have hI0 : IntsAre [] [] := .nil
  w_on
  k_steps
  have e : ∀ b : Bool, b = decide (ns = []) → ∀ h' tk', Fr h₀ L h' m → News h₀ L h' news → Q b { s with heap := h', toks := tk' } := fun b e h' tk' F N => e ▸ hq h' tk' F N
  refine e _ ?_ _ _ (by assumption) (kst_newsOf (by assumption) fun p hp => .tail _ (.tail _ hp))
  cases ns <;> rfl
set_option maxHeartbeats 1000000 in
theorem le_ret {s : Shared} {m : Str → Option Value} {Q : Flow → Shared → Prop} {sz : Nat} {tz : Tok} {or oz : Obj}
    (B' : Below (cA E) base [E] h₀) (F' : Fr h₀ L s.heap m) (X' : (KT w.params).In h₀) (N' : News h₀ L s.heap ((L + 2, oz) :: news)) (T' : Top qv (looseW qv loose0) mean mg mb h₀)
    (hz : oz.data = .cell (some (.int (sz : Int) tz)))
    (bd : List Stmt) (hbd : (match leB[1]? with | some s => ifB s | none => none) = some bd)
    (h : ∀ tk t, Q (.ret (.int (sz : Int) t)) { s with toks := tk }) :
    wpAny (model pg w) ((cA E).deeper (leEnv L)) (execs bd (leEnv L)) Q No s := by
  have hfill : (PySem.Challenge.rw_re0100_02, KT) = (PySem.Challenge.rw_re0100_02, KT) := by k_fill; rfl
  clear hfill
  w_on
  cases hbd
  k_steps
  exact h _ _
set_option maxHeartbeats 1000000 in
theorem le_s1 {s : Shared} {m : Str → Option Value} {Q : Flow → Shared → Prop}
    (B' : Below (cA E) base [E] h₀) (F' : Fr h₀ L s.heap m) (X' : (KT w.params).In h₀) (N' : News h₀ L s.heap news) (T' : Top qv (looseW qv loose0) mean mg mb h₀)
    (st : Stmt) (hst : (fB (stm 9))[1]? = some st)
    (h : ∀ tk t, Q (.ret (.int 0 t)) { s with toks := tk }) :
    wpAny (model pg w) ((cA E).deeper (leEnv L)) (exec st (leEnv L)) Q No s := by
  have hfill : (PySem.Challenge.rw_re0100_02, KT) = (PySem.Challenge.rw_re0100_02, KT) := by k_fill; rfl
  clear hfill
  w_on
  cases hst
  k_steps
  exact h _ _
set_option maxHeartbeats 1000000 in
theorem le_iter {s : Shared} {m : Str → Option Value} {Q : Value → Shared → Prop} {wl : List Nat} {tw : Tok} {or : Obj}
    (B' : Below (cA E) base [E] h₀) (F' : Fr h₀ L s.heap m) (X' : (KT w.params).In h₀) (N' : News h₀ L s.heap ((L + 1, or) :: news)) (T' : Top qv (looseW qv loose0) mean mg mb h₀)
    (hr : or.data = .cell (some (.str ⟨wl.toArray⟩ tw))) (hl : (⟨wl.toArray⟩ : Str).length ≤ 250)
    (te : PySem.Expr) (hte : (match (fB (stm 9))[0]? with | some s => forI s | none => none) = some te)
    (h : ∀ h' tk' r t u v, IsRange h' r 1 (((⟨wl.toArray⟩ : Str).length : Int) + 1) 1 t u v → Fr h₀ L h' m → News h₀ L h' ((L + 1, or) :: news) → Q (.ref r) { s with heap := h', toks := tk' }) :
    wpAny (model pg w) ((cA E).deeper (leEnv L)) (eval te (leEnv L)) Q No s := by
  have hfill : (PySem.Challenge.rw_re0100_02, KT) = (PySem.Challenge.rw_re0100_02, KT) := by k_fill; rfl
  clear hfill
  w_on
  cases hte
  k_steps
  exact h _ _ _ _ _ _ (by assumption) (by assumption) (by assumption)
def okSz (wl : List Nat) (sz : Nat) : Bool := decide (((List.range (min (placesL wl sz).length (nextL (placesL wl sz) wl.length).length)).filter fun i => decide (sz < (nextL (placesL wl sz) wl.length).getD i 0 - (placesL wl sz).getD i 0)).length = 0)
theorem places_le (wl : List Nat) (sz : Nat) (h : wl.length ≤ 250) : ∀ k ∈ placesL wl sz, k ≤ 250 := by
  intro k hk
  have := (List.mem_filter.mp hk).1
  rw [List.mem_range] at this
  omega
theorem getD_le {l : List Nat} {b : Nat} (h : ∀ k ∈ l, k ≤ b) (i : Nat) : l.getD i 0 ≤ b := by
  by_cases hi : i < l.length
  · rw [List.getD_eq_getElem?_getD, List.getElem?_eq_getElem hi]
    exact h _ (List.getElem_mem _)
  · rw [List.getD_eq_getElem?_getD, List.getElem?_eq_none (by omega)]
    exact Nat.zero_le _
set_option maxHeartbeats 1000000 in
theorem le_b1 {s : Shared} {m : Str → Option Value} {Q : Flow → Shared → Prop} {wl : List Nat} {sz : Nat} {tw tz : Tok} {or oz : Obj} {PL : Addr} {vs : List Value} {nt : Nat}
    (B' : Below (cA E) base [E] h₀) (F₀ : Fr h₀ L s.heap m) (hP : m (Str.ofString "places") = some (.ref PL)) (X' : (KT w.params).In h₀) (N' : News h₀ L s.heap ((PL, PySem.W.listOf vs.toArray nt) :: (L + 1, or) :: (L + 2, oz) :: news)) (T' : Top qv (looseW qv loose0) mean mg mb h₀)
    (hr : or.data = .cell (some (.str ⟨wl.toArray⟩ tw))) (hz : oz.data = .cell (some (.int (sz : Int) tz))) (h1 : 1 ≤ sz) (h2 : sz ≤ wl.length) (hl : wl.length ≤ 240) (hI : IntsAre vs (natsI (placesL wl sz)))
    (st : Stmt) (hst : leB[1]? = some st)
    (h0 : okSz wl sz = true → ∀ h' tk t, Fr h₀ L h' m → News h₀ L h' ((PL, PySem.W.listOf vs.toArray nt) :: (L + 1, or) :: (L + 2, oz) :: news) → Q (.ret (.int (sz : Int) t)) { s with heap := h', toks := tk })
    (h : okSz wl sz = false → ∀ h' tk, Fr h₀ L h' m → News h₀ L h' ((PL, PySem.W.listOf vs.toArray nt) :: (L + 1, or) :: (L + 2, oz) :: news) → Q .next { s with heap := h', toks := tk }) :
    wpAny (model pg w) ((cA E).deeper (leEnv L)) (exec st (leEnv L)) Q No s := by
  have hlw : (⟨wl.toArray⟩ : Str).length = wl.length := List.size_toArray ..
  have hk := all1 hP
  have F' := fr_norm _ F₀ hk
  have hpl : (placesL wl sz).length ≤ 250 := by
    have := List.length_filter_le (fun k => decide ((wl.drop k).take sz = wl.take sz)) (List.range (wl.length - sz + 1))
    rw [List.length_range] at this
    show (List.filter _ _).length ≤ _
    omega
  cases hst
  refine wpAny_If ?_
  refine wpAny_isTrue_Compare1 ?_
  refine comp_zip (h₀ := h₀) (L := L) (m := kstB m [(Str.ofString "places", .ref PL)]) (cl := [(Str.ofString "size", L + 2)]) (fun u => ∃ (k : Nat) (t : Tok), u = .int (k : Int) t) (by with_unfolding_all rfl) (by decide) (by rfl) (by decide) (by rfl) (by rfl) (by decide) rfl ?_
  refine le_it2 B' F' X' N' T' hr (by rw [hlw]; omega) hI hpl _ rfl fun ws h' tk I D2 rest G IW => ?_
  have hn : (nextL (placesL wl sz) wl.length).length ≤ 251 := by
    rw [nextL, List.length_append, List.length_drop]; simp; omega
  have sv : vs.toArray.size = (placesL wl sz).length := by rw [List.size_toArray, hI.length, List.length_map]
  have sw : ws.toArray.size = (nextL (placesL wl sz) wl.length).length := by rw [List.size_toArray, IW.length, List.length_map]
  have pb := getD_le (places_le wl sz (by omega))
  have nb : ∀ i, (nextL (placesL wl sz) wl.length).getD i 0 ≤ 250 := getD_le fun k hk => by
    rcases List.mem_append.mp hk with hk | hk
    · exact places_le wl sz (by omega) k (List.mem_of_mem_drop hk)
    · rw [List.mem_singleton.mp hk]; omega
  have vx : ∀ (i : Nat) x, vs.toArray[i]? = some x → ∃ t, x = .int (((placesL wl sz).getD i 0 : Nat) : Int) t := fun i x hx => by
    rw [List.getElem?_toArray] at hx
    obtain ⟨t, e⟩ := hI.int_at i x hx
    rw [natsI_getD] at e
    exact ⟨t, e⟩
  have vy : ∀ (i : Nat) y, ws.toArray[i]? = some y → ∃ t, y = .int (((nextL (placesL wl sz) wl.length).getD i 0 : Nat) : Int) t := fun i y hy => by
    rw [List.getElem?_toArray] at hy
    obtain ⟨t, e⟩ := IW.int_at i y hy
    rw [natsI_getD] at e
    exact ⟨t, e⟩
  refine ⟨I, PL, D2, vs.toArray, ws.toArray, _, (fun i => decide (sz < (nextL (placesL wl sz) wl.length).getD i 0 - (placesL wl sz).getD i 0)), rfl, G, by rw [sv, sw]; show _ ≤ 16777216; omega, ?_, ?_, ?_⟩
  · rintro i x y C D oC zs hp tk hx hy ⟨⟨m₂, hC, hxa, hxb⟩, F, N, off, ne⟩
    obtain ⟨tx, rfl⟩ := vx i x hx
    obtain ⟨ty, rfl⟩ := vy i y hy
    refine le_t2 (s := { s with heap := hp, toks := tk }) B' F X' (news_add N (.tail _ (.tail _ (List.mem_append_right _ (.tail _ (.tail _ (.head _))))))) T' hz (by omega) (pb i) (nb i) hC hxa hxb _ _ rfl rfl fun tk' => ?_
    exact ⟨tk', rfl, rfl⟩
  · rintro i x y C D oC zs hp tk hx hy ⟨⟨m₂, hC, hxa, hxb⟩, F, N, off, ne⟩
    obtain ⟨tx, rfl⟩ := vx i x hx
    refine le_e2 (s := { s with heap := hp, toks := tk }) B' F X' N T' hC hxa _ _ rfl rfl fun tk' t => ?_
    exact ⟨tk', rfl, _, _, rfl⟩
  · intro D hp tk zs hzl hzR F N off
    rw [sv, sw] at hzl
    have hzs : zs.length ≤ 250 := by
      have := List.length_filter_le (fun i => decide (sz < (nextL (placesL wl sz) wl.length).getD i 0 - (placesL wl sz).getD i 0)) (List.range (min (placesL wl sz).length (nextL (placesL wl sz) wl.length).length))
      rw [List.length_range] at this
      omega
    obtain ⟨ns, IZ⟩ : ∃ ns, IntsAre zs ns := by
      clear hzl hzs N
      induction zs with
      | nil => exact ⟨[], .nil⟩
      | cons u r ih =>
        obtain ⟨k, t, rfl⟩ := hzR u (.head _)
        obtain ⟨ns, i⟩ := ih fun u hu => hzR u (.tail _ hu)
        exact ⟨_, .cons _ _ i⟩
    have hnz : ns.length = zs.length := IZ.length.symm
    refine le_k (s := { s with heap := hp, toks := tk }) B' F X' N T' IZ (by omega) fun h3 tk3 F3 N3 => ?_
    have F3' := fr_same hk F3
    have N3' := kst_newsOf N3 (l' := (PL, PySem.W.listOf vs.toArray nt) :: (L + 1, or) :: (L + 2, oz) :: news) fun p hp => List.mem_append_right _ hp
    have ek : decide (ns = []) = okSz wl sz := by
      rw [okSz, ← hzl, ← hnz]
      cases ns <;> rfl
    rw [ek]
    cases hok : okSz wl sz with
    | true =>
      rw [if_pos rfl]
      exact le_ret (s := { s with heap := h3, toks := tk3 }) (or := or) (news := news) B' F3' X' (kst_newsOf N3' fun p hp => by
        rcases List.mem_cons.mp hp with rfl | hp
        · exact .tail _ (.tail _ (.head _))
        · exact .tail _ (.tail _ (.tail _ hp))) T' hz _ rfl fun tk4 t => h0 hok h3 tk4 t F3' N3'
    | false =>
      rw [if_neg (by decide)]
      exact wpAny_execs_nil (h hok h3 tk3 F3' N3')
end
end Mine
end
section
set_option maxRecDepth 100000
set_option linter.unusedVariables false
set_option Elab.async false
set_option pp.maxSteps 3000
namespace Mine
open PySem PySem.W PySem.Calls PyProof.Rows
def leastF (wl : List Nat) : Nat → Nat → Nat
  | 0, _ => 0
  | f + 1, sz => if okSz wl sz = true then sz else leastF wl f (sz + 1)
def leastP (wl : List Nat) : Nat := leastF wl wl.length 1
section
variable {w : World} {E : Env} {A : Around} {base : Heap} {outer : List Env} {h₀ : Heap} {L : Addr} {mg mb : Str → Option Value} {news : List (Addr × Obj)} {mean : ExcName → Option Value}
theorem le_for {s : Shared} {m : Str → Option Value} {Q : Flow → Shared → Prop} {wl : List Nat} {tw : Tok} {or oz : Obj} {cz : Option Value} {S0 S1 : Stmt}
    (B' : Below (cA E) base [E] h₀) (F' : Fr h₀ L s.heap m) (X' : (KT w.params).In h₀) (N' : News h₀ L s.heap ((L + 1, or) :: (L + 2, oz) :: news)) (T' : Top qv (looseW qv loose0) mean mg mb h₀)
    (hr : or.data = .cell (some (.str ⟨wl.toArray⟩ tw))) (hz : oz.data = .cell cz) (hl : wl.length ≤ 240) (hn : ∀ p ∈ news, p.1 ≠ L + 2) (h12 : L + 1 ≠ L + 2)
    (eb : leB = [S0, S1])
    (st : Stmt) (hst : (fB (stm 9))[0]? = some st)
    (h0 : ∀ h' tk t m' oz', Fr h₀ L h' m' → News h₀ L h' ((L + 2, oz') :: (L + 1, or) :: news) → Q (.ret (.int (leastP wl : Int) t)) { s with heap := h', toks := tk })
    (h : leastP wl = 0 → ∀ h' tk m' oz', Fr h₀ L h' m' → News h₀ L h' ((L + 2, oz') :: (L + 1, or) :: news) → Q .next { s with heap := h', toks := tk }) :
    wpAny (model pg w) ((cA E).deeper (leEnv L)) (exec st (leEnv L)) Q No s := by
  have hlw : (⟨wl.toArray⟩ : Str).length = wl.length := List.size_toArray ..
  cases hst
  refine For_turns F' ?_ (hE := PassesOwn.never)
  refine le_iter B' F' X' N' T' hr (by rw [hlw]; omega) _ rfl fun h₁ tk₁ r t u v hrg F₁ N₁ => ?_
  rw [hlw] at hrg
  refine for_rangeC (n := wl.length) (σ := Obj) (fun _ => []) (fun oz => (L + 2, oz) :: (L + 1, or) :: news) (fun i oz => (∃ cz, oz.data = .cell cz) ∧ leastF wl (wl.length - i) (i + 1) = leastP wl) oz rfl hrg
    (small_one (by omega) (by omega) (by omega) (by omega)) (by rw [rangeSize_nat]; omega) F₁ (kst_newsOf N₁ fun p hp => ?_) (fun p hp => nomatch hp) ⟨⟨cz, hz⟩, rfl⟩ (fun _ => rfl) ?_ ?_
  · simp only [List.mem_cons] at hp ⊢
    rcases hp with h | h | h
    · exact .inr (.inl h)
    · exact .inl h
    · exact .inr (.inr h)
  · rintro i k t' oz₁ m₁ h₂ tk₂ own hi rfl ⟨⟨cz₁, hz₁⟩, hlf⟩ hoff _ F₂ N₂
    have e : (1 : Int) + (i : Int) = ((i + 1 : Nat) : Int) := by omega
    rw [e]
    refine store_cell (cl := [(Str.ofString "size", L + 2), (Str.ofString "row", L + 1)]) (L + 2) oz₁ ((L + 1, or) :: (news ++ own)) F₂ (news := (L + 2, oz₁) :: (L + 1, or) :: (news ++ own)) N₂ (fun p hp => hp) rfl (fun p hp => ?_) hz₁ fun h₃ oz₃ F₃ N₃ hz₃ => ?_
    · rcases List.mem_cons.mp hp with rfl | hp
      · exact h12
      · rcases List.mem_append.mp hp with hp | hp
        · exact hn p hp
        · exact hoff p hp _ (by simp)
    have eb' : ∀ k : Nat, leB[k]? = [S0, S1][k]? := fun k => by rw [eb]
    show wpAny _ _ (execs leB _) _ _ _
    rw [eb]
    obtain ⟨f, hf⟩ : ∃ f, wl.length - i = f + 1 := ⟨wl.length - i - 1, by omega⟩
    rw [hf, leastF] at hlf
    refine wpAny_execs_cons (le_b0 (s := { s with heap := h₃, toks := tk₂ }) (news := news ++ own) B' F₃ X' N₃ T' hr hz₃ (by omega) (by omega) (by omega) S0 (eb' 0) fun PL h₄ tk₄ ys F₄ N₄ I₄ => ?_)
    show wpAny _ _ _ _ _ _
    have N₄' : News h₀ L h₄ ((PL, PySem.W.listOf ys.toArray ys.length) :: (L + 1, or) :: (L + 2, oz₃) :: (news ++ own)) := kst_newsOf N₄ fun p hp => by
      simp only [List.mem_cons] at hp ⊢
      rcases hp with h | h | h | h
      · exact .inl h
      · exact .inr (.inr (.inl h))
      · exact .inr (.inl h)
      · exact .inr (.inr (.inr h))
    have back : ∀ {hh : Heap}, News h₀ L hh ((PL, PySem.W.listOf ys.toArray ys.length) :: (L + 1, or) :: (L + 2, oz₃) :: (news ++ own)) → News h₀ L hh ((L + 2, oz₃) :: (L + 1, or) :: (news ++ own)) := fun N => kst_newsOf N fun p hp => by
      simp only [List.mem_cons] at hp ⊢
      rcases hp with h | h | h
      · exact .inr (.inr (.inl h))
      · exact .inr (.inl h)
      · exact .inr (.inr (.inr h))
    refine wpAny_execs_cons (le_b1 (s := { s with heap := h₄, toks := tk₄ }) (wl := wl) (sz := i + 1) (or := or) (oz := oz₃) (PL := PL) (vs := ys) (nt := ys.length) (news := news ++ own) B' F₄ (upd_at _ _ _) X' N₄' T' hr hz₃ (by omega) (by omega) hl I₄ S1 (eb' 1) (fun hok h₅ tk₅ t₅ F₅ N₅ => ?_) (fun hok h₅ tk₅ F₅ N₅ => ?_))
    · rw [if_pos hok] at hlf
      rw [hlf]
      exact h0 h₅ tk₅ t₅ _ oz₃ F₅ (kst_newsOf (back N₅) fun p hp => by
        simp only [List.mem_cons] at hp ⊢
        rcases hp with h | h | h
        · exact .inl h
        · exact .inr (.inl h)
        · exact .inr (.inr (List.mem_append_left _ h)))
    · rw [if_neg (by rw [hok]; decide)] at hlf
      show wpAny _ _ _ _ _ _
      refine wpAny_execs_nil ?_
      refine ⟨oz₃, _, h₅, tk₅, _, rfl, ⟨⟨_, hz₃⟩, ?_⟩, F₅, (fun p hp => nomatch hp), back N₅, fun p hp => ?_, fun p hp => .tail _ (.tail _ (List.mem_append_right _ hp))⟩
      · rw [show wl.length - (i + 1) = f by omega]
        exact hlf
      · simp only [List.mem_cons] at hp ⊢
        rcases hp with h | h | h
        · exact .inl h
        · exact .inr (.inl h)
        · exact .inr (.inr (List.mem_append_left _ h))
  · rintro oz₁ m₁ h₂ tk₂ ⟨_, hlf⟩ _ F₂ N₂
    rw [Nat.sub_self] at hlf
    exact h hlf.symm h₂ tk₂ m₁ oz₁ F₂ N₂
theorem leS_0 : ∃ S0 S1, fB (stm 9) = [S0, S1] := ⟨_, _, rfl⟩
theorem leB_0 : ∃ S0 S1, leB = [S0, S1] := ⟨_, _, rfl⟩
theorem le_body {s : Shared} {m : Str → Option Value} {Q : Flow → Shared → Prop} {wl : List Nat} {tw : Tok} {or oz : Obj} {cz : Option Value} {S0 S1 : Stmt}
    (B' : Below (cA E) base [E] h₀) (F' : Fr h₀ L s.heap m) (X' : (KT w.params).In h₀) (N' : News h₀ L s.heap ((L + 2, oz) :: (L + 1, or) :: news)) (T' : Top qv (looseW qv loose0) mean mg mb h₀)
    (hr : or.data = .cell (some (.str ⟨wl.toArray⟩ tw))) (hz : oz.data = .cell cz) (hl : wl.length ≤ 240) (hn : ∀ p ∈ news, p.1 ≠ L + 2) (h12 : L + 1 ≠ L + 2)
    (e0 : (fB (stm 9))[0]? = some S0) (e1 : (fB (stm 9))[1]? = some S1)
    (h0 : ∀ h' tk t m' oz', Fr h₀ L h' m' → News h₀ L h' ((L + 2, oz') :: (L + 1, or) :: news) → Q (.ret (.int (leastP wl : Int) t)) { s with heap := h', toks := tk }) :
    wpAny (model pg w) ((cA E).deeper (leEnv L)) (execs [S0, S1] (leEnv L)) Q No s := by
  obtain ⟨B0, B1, eb⟩ := leB_0
  refine wpAny_execs_cons (le_for (or := or) (oz := oz) (news := news) B' F' X' (kst_newsOf N' fun p hp => ?_) T' hr hz hl hn h12 eb S0 e0 (fun h' tk t m' oz' F N => h0 h' tk t m' oz' F N) fun hz0 h1 tk1 m1 oz1 F1 N1 => ?_)
  · simp only [List.mem_cons] at hp ⊢
    rcases hp with h | h | h
    · exact .inr (.inl h)
    · exact .inl h
    · exact .inr (.inr h)
  show wpAny _ _ _ _ _ _
  refine wpAny_execs_cons (le_s1 (s := { s with heap := h1, toks := tk1 }) B' F1 X' N1 T' S1 e1 fun tk2 t2 => ?_)
  have := h0 h1 tk2 t2 m1 oz1 F1 N1
  rw [hz0] at this
  exact this
set_option maxHeartbeats 4000000 in
theorem le_call {s : Shared} {m : Str → Option Value} {Q : Value → Shared → Prop} {wl : List Nat} {tw : Tok}
    (B : Below callerA base [] h₀) (F : Fr h₀ L s.heap m) (X₀ : (KT w.params).In h₀) (N : News h₀ L s.heap news) (T : Top qv (looseW qv loose0) mean mg mb h₀) (hf : E.frame = some L) (hke : E.scope.kind = .function)
    (hl : wl.length ≤ 240)
    (h : ∀ h' tk t, Fr h₀ L h' m → News h₀ L h' news → Q (.int (leastP wl : Int) t) { s with heap := h', toks := tk }) : wpAny (model pg w) (cA E) (PySem.call (.ref 97) [.str ⟨wl.toArray⟩ tw]) Q No s := by
  w_on
  have hfill : (PySem.Challenge.rw_re0100_02, KT) = (PySem.Challenge.rw_re0100_02, KT) := by k_fill; rfl
  clear hfill
  refine wpAny_call ?_
  refine' code_defC (binds := [(Str.ofString "row", .str ⟨wl.toArray⟩ tw)]) B F X₀ N T (outer := []) (env := E) rfl hf hke ?k6 ?k7 ?hr ?k9 ?kB ?kD ?_ ?c2 ?c3 ?c4
  case k6 => k_is
  case k7 => k_is
  case hr => k_room
  case k9 => exact BindsTo.of_eq rfl
  case kB => exact rfl
  case kD => decide +kernel
  case c2 => exact rfl
  case c3 => exact rfl
  case c4 => exact rfl
  intro g' L' h' tk' cells' FG' F' N' Y' B' X' T' l1
  refine wpAny_mono (E := No) ?_ (fun _ _ x => x) fun _ _ x => x.elim
  have hY := CellsAre.two Y'
  obtain ⟨o', o2', hE', d1', d2'⟩ := hY
  subst hE'
  obtain ⟨S0, S1, e⟩ := leS_0
  rw [e]
  have g0 : (fB (stm 9))[0]? = some S0 := by rw [e]; rfl
  have g1 : (fB (stm 9))[1]? = some S1 := by rw [e]; rfl
  have h12 : (L' + 1 : Addr) ≠ L' + 2 := Nat.ne_of_lt (Nat.lt_succ_self (L' + 1))
  exact le_body (or := o2') (oz := o') (news := news) B' F' X' N' T' d2' d1' hl (fun p hp => Nat.ne_of_lt (Nat.lt_of_lt_of_le (l1 p hp) (Nat.le_add_right _ _))) h12 g0 g1 fun h₅ tk₅ t m' oz' F₅ N₅ => leaveK_ F₅ N₅ fun F₆ N₆ => h h₅ tk₅ t F₆ (kst_newsOf N₆ fun p hp => .tail _ (.tail _ hp))
end
end Mine
end
section
set_option maxRecDepth 100000
set_option linter.unusedVariables false
set_option Elab.async false
set_option pp.maxSteps 3000
namespace Mine
open PySem PySem.W PySem.Calls PyProof.Rows
abbrev lwEnv (fa ca L : Addr) : Env := envOfC (Str.ofString "law") (fS (stm 11)) L fa (Value.ref ca)
def binL : Option PySem.Expr → Option PySem.Expr | some (.BinOp l _ _ _) => some l | _ => none
def binR : Option PySem.Expr → Option PySem.Expr | some (.BinOp _ _ r _) => some r | _ => none
def lwE (i : Nat) : Option PySem.Expr := match (fB (stm 11))[i]? with | some s => asgE s | none => none
def itrE0 : PySem.Expr → Option PySem.Expr | .ListComp _ [⟨_, i, _, _⟩] _ _ => some i | _ => none
def uIs : List Int := b1s.map fun n : Nat => (n : Int)
section
variable {w : World} {base : Heap} {h₀ : Heap} {fa ca L : Addr} {mg mb : Str → Option Value} {news : List (Addr × Obj)} {mean : ExcName → Option Value}
section
local macro_rules | `(tactic| walk_at "call type:list") => `(tactic| refine stopW ?_)
set_option maxHeartbeats 1000000 in
theorem lw_lr1 {s : Shared} {m : Str → Option Value} {Q : Value → Shared → Prop}
    (B' : Below callerA base [] h₀) (F' : Fr h₀ L s.heap m) (X' : (KT w.params).In h₀) (N' : News h₀ L s.heap news) (T' : Top qv (looseW qv loose0) mean mg mb h₀)
    (te : PySem.Expr) (hte : binR (binL (binL (binL (binL (lwE 1))))) = some te)
    (h : ∀ D h' tk vs c, Fr h₀ L h' m → News h₀ L h' ((D, W.listOf vs.toArray c) :: news) → (∀ q ∈ news, q.1 ≠ D) → IntsAre vs (rangeInts 6155 1 3) → Q (.ref D) { s with heap := h', toks := tk }) :
    wpAny (model pg w) (cA (lwEnv fa ca L)) (eval te (lwEnv fa ca L)) Q No s := by
  have hfill : (PySem.Challenge.rw_re0100_02, KT) = (PySem.Challenge.rw_re0100_02, KT) := by k_fill; rfl
  clear hfill
  w_on
  cases hte
  k_steps
  refine Stop.out ?_
  refine list_range_ints (n := 3) rfl (by assumption) (by assumption) (by assumption) (by decide) (by decide) (by decide) (by decide) (by decide) (by decide) ?_
  intro D h' tk vs c F N hd I
  k_steps
  exact h D h' tk vs c F N hd I
set_option maxHeartbeats 1000000 in
theorem lw_lr2 {s : Shared} {m : Str → Option Value} {Q : Value → Shared → Prop}
    (B' : Below callerA base [] h₀) (F' : Fr h₀ L s.heap m) (X' : (KT w.params).In h₀) (N' : News h₀ L s.heap news) (T' : Top qv (looseW qv loose0) mean mg mb h₀)
    (te : PySem.Expr) (hte : binR (binL (binL (binL (lwE 1)))) = some te)
    (h : ∀ D h' tk vs c, Fr h₀ L h' m → News h₀ L h' ((D, W.listOf vs.toArray c) :: news) → (∀ q ∈ news, q.1 ≠ D) → IntsAre vs (rangeInts 8203 1 3) → Q (.ref D) { s with heap := h', toks := tk }) :
    wpAny (model pg w) (cA (lwEnv fa ca L)) (eval te (lwEnv fa ca L)) Q No s := by
  have hfill : (PySem.Challenge.rw_re0100_02, KT) = (PySem.Challenge.rw_re0100_02, KT) := by k_fill; rfl
  clear hfill
  w_on
  cases hte
  k_steps
  refine Stop.out ?_
  refine list_range_ints (n := 3) rfl (by assumption) (by assumption) (by assumption) (by decide) (by decide) (by decide) (by decide) (by decide) (by decide) ?_
  intro D h' tk vs c F N hd I
  k_steps
  exact h D h' tk vs c F N hd I
set_option maxHeartbeats 1000000 in
theorem lw_lr3 {s : Shared} {m : Str → Option Value} {Q : Value → Shared → Prop}
    (B' : Below callerA base [] h₀) (F' : Fr h₀ L s.heap m) (X' : (KT w.params).In h₀) (N' : News h₀ L s.heap news) (T' : Top qv (looseW qv loose0) mean mg mb h₀)
    (te : PySem.Expr) (hte : binR (binL (lwE 1)) = some te)
    (h : ∀ D h' tk vs c, Fr h₀ L h' m → News h₀ L h' ((D, W.listOf vs.toArray c) :: news) → (∀ q ∈ news, q.1 ≠ D) → IntsAre vs (rangeInts 65024 1 16) → Q (.ref D) { s with heap := h', toks := tk }) :
    wpAny (model pg w) (cA (lwEnv fa ca L)) (eval te (lwEnv fa ca L)) Q No s := by
  have hfill : (PySem.Challenge.rw_re0100_02, KT) = (PySem.Challenge.rw_re0100_02, KT) := by k_fill; rfl
  clear hfill
  w_on
  cases hte
  k_steps
  refine Stop.out ?_
  refine list_range_ints (n := 16) rfl (by assumption) (by assumption) (by assumption) (by decide) (by decide) (by decide) (by decide) (by decide) (by decide) ?_
  intro D h' tk vs c F N hd I
  k_steps
  exact h D h' tk vs c F N hd I
end
theorem lw_1 {s : Shared} {m : Str → Option Value} {Q : Flow → Shared → Prop} 
    (B' : Below callerA base [] h₀) (F' : Fr h₀ L s.heap m) (X' : (KT w.params).In h₀) (N' : News h₀ L s.heap news) (T' : Top qv (looseW qv loose0) mean mg mb h₀)
    (st : Stmt) (hst : (fB (stm 11))[1]? = some st)
    (h : ∀ U h' tk uvs, Fr h₀ L h' (fun y => if y = Str.ofString "unseen" then some (.ref U) else m y) → News h₀ L h' ((U, W.listOf uvs.toArray 0) :: news) → (∀ q ∈ news, q.1 ≠ U) → IntsAre uvs uIs → Q .next { s with heap := h', toks := tk }) :
    wpAny (model pg w) (cA (lwEnv fa ca L)) (exec st (lwEnv fa ca L)) Q No s := by
  cases hst
  refine wpAny_Assign_Name ?_
  refine wpAny_BinOp (wpAny_BinOp (wpAny_BinOp (wpAny_BinOp (wpAny_BinOp ?_))))
  refine eval_ints F' N' rfl (by decide) fun D1 h1 tk1 vs1 F1 N1 hd1 I1 => ?_
  refine lw_lr1 (s := { s with heap := h1, toks := tk1 }) B' F1 X' N1 T' _ rfl fun D2 h2 tk2 vs2 c2 F2 N2 hd2 I2 => ?_
  refine add_ints (s := { s with heap := h2, toks := tk2 }) F2 N2 (.tail _ (.head _)) (.head _) I1 I2 (by decide) fun D3 h3 F3 N3 hd3 I3 => ?_
  refine lw_lr2 (s := { s with heap := h3, toks := tk2 }) B' F3 X' N3 T' _ rfl fun D4 h4 tk4 vs4 c4 F4 N4 hd4 I4 => ?_
  refine add_ints (s := { s with heap := h4, toks := tk4 }) F4 N4 (.tail _ (.head _)) (.head _) I3 I4 (by decide) fun D5 h5 F5 N5 hd5 I5 => ?_
  refine eval_ints (s := { s with heap := h5, toks := tk4 }) F5 N5 rfl (by decide) fun D6 h6 tk6 vs6 F6 N6 hd6 I6 => ?_
  refine add_ints (s := { s with heap := h6, toks := tk6 }) F6 N6 (.tail _ (.head _)) (.head _) I5 I6 (by decide) fun D7 h7 F7 N7 hd7 I7 => ?_
  refine lw_lr3 (s := { s with heap := h7, toks := tk6 }) B' F7 X' N7 T' _ rfl fun D8 h8 tk8 vs8 c8 F8 N8 hd8 I8 => ?_
  refine add_ints (s := { s with heap := h8, toks := tk8 }) F8 N8 (.tail _ (.head _)) (.head _) I7 I8 (by decide) fun D9 h9 F9 N9 hd9 I9 => ?_
  refine eval_ints (s := { s with heap := h9, toks := tk8 }) F9 N9 rfl (by decide) fun D10 h10 tk10 vs10 F10 N10 hd10 I10 => ?_
  refine add_ints (s := { s with heap := h10, toks := tk10 }) F10 N10 (.tail _ (.head _)) (.head _) I9 I10 (by decide) fun U h11 F11 N11 hd11 I11 => ?_
  refine storeX_L (s := { s with heap := h11, toks := tk10 }) F11 N11 fun h12 F12 N12 => ?_
  refine h U h12 _ (vs1 ++ vs2 ++ vs4 ++ vs6 ++ vs8 ++ vs10) F12 (fun q hq => N12 q ?_) (fun q hq => hd11 q ?_) ?_
  · rcases List.mem_cons.mp hq with rfl | hq
    · exact .head _
    · simp only [List.mem_cons]; simp [hq]
  · simp only [List.mem_cons]; simp [hq]
  · exact I11
set_option maxHeartbeats 1000000 in
theorem lw_2 {s : Shared} {m : Str → Option Value} {Q : Flow → Shared → Prop}
    (B' : Below callerA base [] h₀) (F' : Fr h₀ L s.heap m) (X' : (KT w.params).In h₀) (N' : News h₀ L s.heap news) (T' : Top qv (looseW qv loose0) mean mg mb h₀)
    (st : Stmt) (hst : (fB (stm 11))[2]? = some st)
    (h : ∀ h' tk t1 t2 t3, Fr h₀ L h' (upd (upd (upd m (Str.ofString "text") (.str ⟨([] : List Nat).toArray⟩ t1)) (Str.ofString "typed") (.str ⟨([] : List Nat).toArray⟩ t2)) (Str.ofString "meant") (.str ⟨([] : List Nat).toArray⟩ t3)) → News h₀ L h' news → Q .next { s with heap := h', toks := tk }) :
    wpAny (model pg w) (cA (lwEnv fa ca L)) (exec st (lwEnv fa ca L)) Q No s := by
  have hfill : (PySem.Challenge.rw_re0100_02, KT) = (PySem.Challenge.rw_re0100_02, KT) := by k_fill; rfl
  clear hfill
  w_on
  cases hst
  k_steps
  rename Fr _ _ _ _ => F₂
  rename News _ _ _ _ => N₂
  have e2 : Str.ofString "" = ⟨([] : List Nat).toArray⟩ := by decide
  rw [e2] at F₂
  exact h _ _ _ _ _ F₂ (kst_newsOf N₂ fun p hp => .tail _ hp)
set_option maxHeartbeats 1000000 in
theorem lw_0e {s : Shared} {m : Str → Option Value} {Q : Value → Shared → Prop} {k : Nat} {tk : Tok} {I C D S : Addr} {oI oC os : Obj} {ys : List Value} {m₂ : Str → Option Value} {vs : List Value} {ns : List Int}
    (B' : Below callerA base [] h₀) (F' : Fr h₀ L s.heap m) (X' : (KT w.params).In h₀) (N' : News h₀ L s.heap ((L + 1, os) :: (I, oI) :: (C, oC) :: (D, LCg.lst ys) :: news)) (T' : Top qv (looseW qv loose0) mean mg mb h₀)
    (hs : os.data = .cell (some (.ref S))) (hL : h₀.IsList S vs.toArray) (hI : IntsAre vs ns) (hl : ns.length ≤ 63)
    (hC : LCg.NsObj oC m₂) (hk : m₂ (Str.ofString "k") = some (.int (k : Int) tk)) (hk4 : k < 4)
    (e sc : _) (he : (match lwE 0 with | some c => eltE c | none => none) = some e) (hsc : (match lwE 0 with | some c => scE c | none => none) = some sc)
    (hq : ∀ h' tk' t, Fr h₀ L h' m → News h₀ L h' ((I, oI) :: (C, oC) :: (D, LCg.lst ys) :: news) → Q (.int (if k < ns.length then ns.getD k 0 else [0, 1, 2, 0].getD k 0) t) { s with heap := h', toks := tk' }) :
    wpAny (model pg w) (cA (lwEnv fa ca L)) (eval e (compEnvC sc [(Str.ofString "script", L + 1)] C (lwEnv fa ca L))) Q No s := by
  have hfill : (PySem.Challenge.rw_re0100_02, KT) = (PySem.Challenge.rw_re0100_02, KT) := by k_fill; rfl
  clear hfill
  w_on
  cases he
  cases hsc
  obtain rfl | rfl | rfl | rfl : k = 0 ∨ k = 1 ∨ k = 2 ∨ k = 3 := by omega
  all_goals k_steps
  all_goals first
    | (rw [if_pos (by omega)] at hq; exact hq _ _ _ (by assumption) (kst_newsOf (by assumption) fun p hp => .tail _ hp))
    | (rw [if_neg (by omega)] at hq; exact hq _ _ _ (by assumption) (kst_newsOf (by assumption) fun p hp => .tail _ (.tail _ hp)))
def drawnL (ns : List Int) : List Int := (List.range 4).map fun k => if k < ns.length then ns.getD k 0 else [0, 1, 2, 0].getD k 0
theorem ints_of_getI {f : Nat → Int} : ∀ (ys : List Value) (n i0 : Nat), ys.length = n → (∀ (i : Nat) y, ys[i]? = some y → ∃ t, y = .int (f (i0 + i)) t) → IntsAre ys ((List.range' i0 n).map f)
  | [], 0, _, _, _ => .nil
  | [], _ + 1, _, h, _ => by simp at h
  | _ :: _, 0, _, h, _ => by simp at h
  | y :: r, n + 1, i0, hl, h => by
    obtain ⟨t, rfl⟩ := h 0 y rfl
    rw [List.range'_succ, List.map_cons]
    refine .cons _ _ (ints_of_getI r n (i0 + 1) (by simpa using hl) fun i z hz => ?_)
    obtain ⟨t', e⟩ := h (i + 1) z (by simpa using hz)
    exact ⟨t', by rw [e, show i0 + 1 + i = i0 + (i + 1) by omega]⟩
set_option maxHeartbeats 1000000 in
theorem lw_0i {s : Shared} {m : Str → Option Value} {Q : Value → Shared → Prop}
    (B' : Below callerA base [] h₀) (F' : Fr h₀ L s.heap m) (X' : (KT w.params).In h₀) (N' : News h₀ L s.heap news) (T' : Top qv (looseW qv loose0) mean mg mb h₀)
    (e : _) (he : (match lwE 0 with | some c => itrE0 c | none => none) = some e)
    (hq : ∀ h' tk' r t u v, IsRange h' r 0 4 1 t u v → Fr h₀ L h' m → News h₀ L h' news → Q (.ref r) { s with heap := h', toks := tk' }) :
    wpAny (model pg w) (cA (lwEnv fa ca L)) (eval e (lwEnv fa ca L)) Q No s := by
  have hfill : (PySem.Challenge.rw_re0100_02, KT) = (PySem.Challenge.rw_re0100_02, KT) := by k_fill; rfl
  clear hfill
  w_on
  cases he
  k_steps
  exact hq _ _ _ _ _ _ (by assumption) (by assumption) (by assumption)
set_option maxHeartbeats 1000000 in
theorem lw_0 {s : Shared} {m : Str → Option Value} {Q : Flow → Shared → Prop} {S : Addr} {os : Obj} {vs : List Value} {ns : List Int}
    (B' : Below callerA base [] h₀) (F' : Fr h₀ L s.heap m) (X' : (KT w.params).In h₀) (N' : News h₀ L s.heap news) (hm : (L + 1, os) ∈ news) (T' : Top qv (looseW qv loose0) mean mg mb h₀)
    (hs : os.data = .cell (some (.ref S))) (hL : h₀.IsList S vs.toArray) (hI : IntsAre vs ns) (hl : ns.length ≤ 63)
    (st : Stmt) (hst : (fB (stm 11))[0]? = some st)
    (h : ∀ D h' tk ys, Fr h₀ L h' (upd m (Str.ofString "drawn") (.ref D)) → News h₀ L h' ((D, LCg.lst ys) :: news) → IntsAre ys (drawnL ns) → Q .next { s with heap := h', toks := tk }) :
    wpAny (model pg w) (cA (lwEnv fa ca L)) (exec st (lwEnv fa ca L)) Q No s := by
  cases hst
  refine LCg.Assign_ListComp_U (F₀ := F') (cl := [(Str.ofString "script", L + 1)]) (by rfl) (by with_unfolding_all rfl) (by with_unfolding_all rfl) (by decide) (by rfl) (by decide) (by rfl) (by rfl) (by rfl) ?_
  refine lw_0i B' F' X' N' T' _ rfl fun h₁ tk₁ r t u v hrg F₁ N₁ => ?_
  refine LCg.CompSrc.range rfl F₁ N₁ hrg (small_one (by omega) (by omega) (by omega) (by omega)) (n := 4) (by rw [rangeSize_nat]; rfl) (by decide) fun g => ?_
  refine comp_rest (fun i y => ∃ t, y = .int (if i < ns.length then ns.getD i 0 else [0, 1, 2, 0].getD i 0) t) trivial ?_ ?_
  · rintro i v I oI oC C D ys m₂ hp tk hi ⟨tv, rfl⟩ hC hx F N off ne
    rw [show (0 : Int) + (i : Int) = (i : Int) by omega] at hx
    refine lw_0e (s := { s with heap := hp, toks := tk }) B' F X' (news_add N (.tail _ (.tail _ (.tail _ hm)))) T' hs hL hI hl hC hx hi _ _ rfl rfl fun h' tk' t F N => ?_
    exact ⟨h', tk', rfl, F, N, t, rfl⟩
  · intro ys hl hy D hp tk F N o1
    refine h D _ _ ys F N ?_
    have := ints_of_getI (f := fun i => if i < ns.length then ns.getD i 0 else [0, 1, 2, 0].getD i 0) ys 4 0 hl (fun i y hi => by rw [Nat.zero_add]; exact hy i y hi)
    rw [drawnL, List.range_eq_range']
    exact this
end
end Mine
end
section
set_option maxRecDepth 100000
set_option linter.unusedVariables false
set_option Elab.async false
set_option pp.maxSteps 3000
namespace Mine
open PySem PySem.W PySem.Calls PyProof.Rows
def lwB : List Stmt := match (fB (stm 11))[3]? with | some s => forB s | none => []
theorem str_app (a b : List Nat) : (⟨a.toArray⟩ : Str) ++ ⟨b.toArray⟩ = ⟨(a ++ b).toArray⟩ := by
  show Str.append _ _ = _
  simp [Str.append]
def sgn (r : Nat) : Nat := [64257, 102, 105, 64256, 64259, 119816].getD r 0
def mng (r : Nat) : List Nat := [[102, 105], [102], [105], [102, 102], [102, 102, 105], [105]].getD r []
theorem sgn_lt (r : Nat) : sgn r < 1114112 := by
  by_cases h : r < 6
  · have : (List.range 6).all (fun r => decide (sgn r < 1114112)) = true := by decide
    exact of_decide_eq_true (List.all_eq_true.mp this r (List.mem_range.mpr h))
  · unfold sgn
    rw [List.getD_eq_getElem?_getD, List.getElem?_eq_none (by simp; omega)]
    decide
section
variable {w : World} {base : Heap} {h₀ : Heap} {fa ca L : Addr} {mg mb : Str → Option Value} {news : List (Addr × Obj)} {mean : ExcName → Option Value}
set_option maxHeartbeats 1000000 in
theorem lw_b0 {s : Shared} {m : Str → Option Value} {Q : Flow → Shared → Prop} {D : Addr} {vs : List Value} {dl : List Int} {k nt : Nat} {tk : Tok}
    (B' : Below callerA base [] h₀) (F₀ : Fr h₀ L s.heap m) (hD : m (Str.ofString "drawn") = some (.ref D)) (hk' : m (Str.ofString "k") = some (.int (k : Int) tk)) (X' : (KT w.params).In h₀) (N₀ : News h₀ L s.heap news) (hm : (D, PySem.W.listOf vs.toArray nt) ∈ news) (T' : Top qv (looseW qv loose0) mean mg mb h₀)
    (hI : IntsAre vs dl) (hl : dl.length = 4) (hk10 : k < 10)
    (st : Stmt) (hst : lwB[0]? = some st)
    (h : ∀ h' tk t, Fr h₀ L h' (upd m (Str.ofString "x") (.int (dl.getD (k % 4) 0) t)) → News h₀ L h' news → Q .next { s with heap := h', toks := tk }) :
    wpAny (model pg w) (cA (lwEnv fa ca L)) (exec st (lwEnv fa ca L)) Q No s := by
  have hfill : (PySem.Challenge.rw_re0100_02, KT) = (PySem.Challenge.rw_re0100_02, KT) := by k_fill; rfl
  clear hfill
  have hk := allC hD (all1 hk')
  have F' := fr_norm _ F₀ hk
  have N' := news_add N₀ hm
  clear F₀ N₀
  dsimp only [kstB] at F'
  w_on
  cases hst
  k_steps
  rename Fr _ _ _ _ => F₂
  rename News _ _ _ _ => N₂
  rw [show ((k : Int).fmod 4).toNat = k % 4 by rw [Int.fmod_eq_emod_of_nonneg _ (by decide)]; omega] at F₂
  exact h _ _ _ (fr_upd hk F₂) (kst_newsOf N₂ fun p hp => .tail _ hp)
set_option maxHeartbeats 1000000 in
theorem lw_b1 {s : Shared} {m : Str → Option Value} {Q : Flow → Shared → Prop} {x : Int} {k : Nat} {tk tx : Tok}
    (B' : Below callerA base [] h₀) (F₀ : Fr h₀ L s.heap m) (hx : m (Str.ofString "x") = some (.int x tx)) (hk' : m (Str.ofString "k") = some (.int (k : Int) tk)) (X' : (KT w.params).In h₀) (N' : News h₀ L s.heap news) (T' : Top qv (looseW qv loose0) mean mg mb h₀)
    (hk10 : k < 10)
    (st : Stmt) (hst : lwB[1]? = some st)
    (h : ∀ h' tk t, Fr h₀ L h' (upd m (Str.ofString "place") (.int ((x.fdiv 6 + 3 * (k : Int)).fmod 28) t)) → News h₀ L h' news → Q .next { s with heap := h', toks := tk }) :
    wpAny (model pg w) (cA (lwEnv fa ca L)) (exec st (lwEnv fa ca L)) Q No s := by
  have hfill : (PySem.Challenge.rw_re0100_02, KT) = (PySem.Challenge.rw_re0100_02, KT) := by k_fill; rfl
  clear hfill
  have hk := allC hx (all1 hk')
  have F' := fr_norm _ F₀ hk
  clear F₀
  dsimp only [kstB] at F'
  w_on
  cases hst
  k_steps
  exact h _ _ _ (fr_upd hk (by assumption)) (by assumption)
set_option maxHeartbeats 1000000 in
theorem lw_b2 {s : Shared} {m : Str → Option Value} {Q : Flow → Shared → Prop} {x : Int} {r : Nat} {tx : Tok}
    (B' : Below callerA base [] h₀) (F₀ : Fr h₀ L s.heap m) (hx : m (Str.ofString "x") = some (.int x tx)) (X' : (KT w.params).In h₀) (N' : News h₀ L s.heap news) (T' : Top qv (looseW qv loose0) mean mg mb h₀)
    (hr : x.fmod 6 = (r : Int)) (hr6 : r < 6)
    (st : Stmt) (hst : lwB[2]? = some st)
    (h : ∀ h' tk t, Fr h₀ L h' (upd m (Str.ofString "sign") (.str ⟨#[[64257, 102, 105, 64256, 64259, 119816].getD r 0]⟩ t)) → News h₀ L h' news → Q .next { s with heap := h', toks := tk }) :
    wpAny (model pg w) (cA (lwEnv fa ca L)) (exec st (lwEnv fa ca L)) Q No s := by
  have hfill : (PySem.Challenge.rw_re0100_02, KT) = (PySem.Challenge.rw_re0100_02, KT) := by k_fill; rfl
  clear hfill
  have hk := all1 hx
  have F' := fr_norm _ F₀ hk
  clear F₀
  dsimp only [kstB] at F'
  w_on
  cases hst
  k_steps
  have e1 : [64257, 102, 105, 64256, 64259, 119816].getD (x.fmod 6).toNat 0 = ((sgn r : Nat) : Int) := by
    rw [hr, Int.toNat_natCast]
    exact natsI_getD [64257, 102, 105, 64256, 64259, 119816] r
  rw [e1]
  have hc := sgn_lt r
  change ∀ h' tk t, Fr h₀ L h' (upd m (Str.ofString "sign") (.str ⟨#[sgn r]⟩ t)) → News h₀ L h' news → Q .next { s with heap := h', toks := tk } at h
  generalize sgn r = c at h hc
  k_steps
  rename Fr _ _ _ _ => F₂
  rename News _ _ _ _ => N₂
  rw [Int.toNat_natCast] at F₂
  exact h _ _ _ (fr_upd hk F₂) (kst_newsOf N₂ fun p hp => .tail _ hp)
set_option maxHeartbeats 1000000 in
theorem lw_b4 {s : Shared} {m : Str → Option Value} {Q : Flow → Shared → Prop} {tl : List Nat} {c : Nat} {t1 t2 : Tok}
    (B' : Below callerA base [] h₀) (F₀ : Fr h₀ L s.heap m) (hx : m (Str.ofString "typed") = some (.str ⟨tl.toArray⟩ t1)) (hy : m (Str.ofString "sign") = some (.str ⟨#[c]⟩ t2)) (X' : (KT w.params).In h₀) (N' : News h₀ L s.heap news) (T' : Top qv (looseW qv loose0) mean mg mb h₀)
    (hl : (⟨tl.toArray⟩ : Str).length ≤ 250)
    (st : Stmt) (hst : lwB[4]? = some st)
    (h : ∀ h' tk t, Fr h₀ L h' (upd m (Str.ofString "typed") (.str ⟨(tl ++ [c]).toArray⟩ t)) → News h₀ L h' news → Q .next { s with heap := h', toks := tk }) :
    wpAny (model pg w) (cA (lwEnv fa ca L)) (exec st (lwEnv fa ca L)) Q No s := by
  have hfill : (PySem.Challenge.rw_re0100_02, KT) = (PySem.Challenge.rw_re0100_02, KT) := by k_fill; rfl
  clear hfill
  have hk := allC hx (all1 hy)
  have F' := fr_norm _ F₀ hk
  clear F₀
  dsimp only [kstB] at F'
  w_on
  cases hst
  k_steps
  rename Fr _ _ _ _ => F₂
  rw [str_app] at F₂
  exact h _ _ _ (fr_upd hk F₂) (by assumption)
end
end Mine
end
section
set_option maxRecDepth 100000
set_option linter.unusedVariables false
set_option Elab.async false
set_option pp.maxSteps 3000
namespace Mine
open PySem PySem.W PySem.Calls PyProof.Rows
def lwT : Option PySem.Expr := match lwB[3]? with | some s => asgE s | none => none
def lwTC : Option PySem.Expr := match binR lwT with | some e => argE e | none => none
section
variable {w : World} {base : Heap} {h₀ : Heap} {fa ca L : Addr} {mg mb : Str → Option Value} {news : List (Addr × Obj)} {mean : ExcName → Option Value}
set_option maxHeartbeats 1000000 in
theorem lw_b3l {s : Shared} {m : Str → Option Value} {Q : Value → Shared → Prop} {tl : List Nat} {c : Nat} {t1 t2 : Tok}
    (B' : Below callerA base [] h₀) (F₀ : Fr h₀ L s.heap m) (hx : m (Str.ofString "text") = some (.str ⟨tl.toArray⟩ t1)) (hy : m (Str.ofString "sign") = some (.str ⟨#[c]⟩ t2)) (X' : (KT w.params).In h₀) (N' : News h₀ L s.heap news) (T' : Top qv (looseW qv loose0) mean mg mb h₀)
    (hl : (⟨tl.toArray⟩ : Str).length ≤ 250)
    (e : _) (he : binL lwT = some e)
    (h : ∀ h' tk t, Fr h₀ L h' m → News h₀ L h' news → Q (.str ⟨(tl ++ [c]).toArray⟩ t) { s with heap := h', toks := tk }) :
    wpAny (model pg w) (cA (lwEnv fa ca L)) (eval e (lwEnv fa ca L)) Q No s := by
  have hfill : (PySem.Challenge.rw_re0100_02, KT) = (PySem.Challenge.rw_re0100_02, KT) := by k_fill; rfl
  clear hfill
  have hk := allC hx (all1 hy)
  have F' := fr_norm _ F₀ hk
  clear F₀
  dsimp only [kstB] at F'
  w_on
  cases he
  k_steps
  have e1 := str_app tl [c]
  have q : ∀ (z : Str), z = ⟨(tl ++ [c]).toArray⟩ → ∀ h' tk t, Fr h₀ L h' m → News h₀ L h' news → Q (.str z t) { s with heap := h', toks := tk } := fun z e => e ▸ h
  exact q _ e1 _ _ _ (fr_same hk (by assumption)) (by assumption)
set_option maxHeartbeats 1000000 in
theorem lw_b3i {s : Shared} {m : Str → Option Value} {Q : Value → Shared → Prop} {U : Addr} {uvs : List Value} {p nu : Nat} {t1 : Tok}
    (B' : Below callerA base [] h₀) (F₀ : Fr h₀ L s.heap m) (hx : m (Str.ofString "unseen") = some (.ref U)) (hy : m (Str.ofString "place") = some (.int (p : Int) t1)) (X' : (KT w.params).In h₀) (N₀ : News h₀ L s.heap news) (hm : (U, PySem.W.listOf uvs.toArray nu) ∈ news) (T' : Top qv (looseW qv loose0) mean mg mb h₀)
    (hI : IntsAre uvs uIs) (hp : p < 28)
    (e : _) (he : (match lwTC with | some c => itrE0 c | none => none) = some e)
    (h : ∀ D h' tk vs, Fr h₀ L h' m → News h₀ L h' ((D, PySem.W.listOf vs.toArray 0) :: news) → (∀ q ∈ news, q.1 ≠ D) → IntsAre vs ((uIs.drop p).take 1) → Q (.ref D) { s with heap := h', toks := tk }) :
    wpAny (model pg w) (cA (lwEnv fa ca L)) (eval e (lwEnv fa ca L)) Q No s := by
  have hfill : (PySem.Challenge.rw_re0100_02, KT) = (PySem.Challenge.rw_re0100_02, KT) := by k_fill; rfl
  clear hfill
  have hk := allC hx (all1 hy)
  have F' := fr_norm _ F₀ hk
  have N' := news_add N₀ hm
  clear F₀ N₀
  dsimp only [kstB] at F'
  have hul : uIs.length = 27 := by decide
  w_on
  cases he
  k_steps
  rename Fr _ _ _ _ => F₂
  rename News _ _ _ _ => N₂
  rename IntsAre _ (List.take _ _) => I₂
  rename_i l1
  have e : List.take (min ((p : Int) + 1).toNat uIs.length - ((p : Int)).toNat) (List.drop ((p : Int)).toNat uIs) = (uIs.drop p).take 1 := by
    rw [Int.toNat_natCast, hul, show ((p : Int) + 1).toNat = p + 1 by omega]
    by_cases h27 : p < 27
    · rw [show min (p + 1) 27 - p = 1 by omega]
    · obtain rfl : p = 27 := by omega
      decide
  rw [e] at I₂
  exact h _ _ _ _ (fr_same hk F₂) (kst_newsOf N₂ fun q hq => by
    rcases List.mem_cons.mp hq with rfl | hq
    · exact .head _
    · exact .tail _ (.tail _ hq)) (fun q hq => Nat.ne_of_lt (kst_ltOf l1.2 q hq)) I₂
set_option maxHeartbeats 1000000 in
theorem lw_b3e {s : Shared} {m : Str → Option Value} {Q : Value → Shared → Prop} {c : Nat} {tk : Tok} {I C D : Addr} {oI oC : Obj} {ys : List Value} {m₂ : Str → Option Value}
    (B' : Below callerA base [] h₀) (F' : Fr h₀ L s.heap m) (X' : (KT w.params).In h₀) (N' : News h₀ L s.heap ((I, oI) :: (C, oC) :: (D, LCg.lst ys) :: news)) (T' : Top qv (looseW qv loose0) mean mg mb h₀)
    (hC : LCg.NsObj oC m₂) (hk : m₂ (Str.ofString "code") = some (.int (c : Int) tk)) (hc : c < 1114112)
    (e sc : _) (he : (match lwTC with | some c => eltE c | none => none) = some e) (hsc : (match lwTC with | some c => scE c | none => none) = some sc)
    (hq : ∀ tk' t, Q (.str ⟨#[c]⟩ t) { s with toks := tk' }) :
    wpAny (model pg w) (cA (lwEnv fa ca L)) (eval e (compEnvC sc [] C (lwEnv fa ca L))) Q No s := by
  have hfill : (PySem.Challenge.rw_re0100_02, KT) = (PySem.Challenge.rw_re0100_02, KT) := by k_fill; rfl
  clear hfill
  w_on
  cases he
  cases hsc
  k_steps
  rw [Int.toNat_natCast]
  exact hq _ _
set_option maxHeartbeats 1000000 in
theorem lw_add {s : Shared} {m : Str → Option Value} {Q : Value → Shared → Prop} {a b : Str} {t1 t2 : Tok}
    (B' : Below callerA base [] h₀) (F' : Fr h₀ L s.heap m) (X' : (KT w.params).In h₀) (N' : News h₀ L s.heap news) (T' : Top qv (looseW qv loose0) mean mg mb h₀)
    (ha : a.length ≤ 250) (hb : b.length ≤ 250)
    (h : ∀ h' tk t, Fr h₀ L h' m → News h₀ L h' news → Q (.str (a ++ b) t) { s with heap := h', toks := tk }) :
    wpAny (model pg w) (cA (lwEnv fa ca L)) (binaryOp .Add (.str a t1) (.str b t2)) Q No s := by
  have hfill : (PySem.Challenge.rw_re0100_02, KT) = (PySem.Challenge.rw_re0100_02, KT) := by k_fill; rfl
  clear hfill
  w_on
  k_steps
  exact h _ _ _ (by assumption) (by assumption)
def insL (p : Nat) : List Nat := (b1s.drop p).take 1
theorem insL_eq (p : Nat) : (uIs.drop p).take 1 = natsI (insL p) := by
  unfold uIs insL natsI
  rw [List.map_take, List.map_drop]
theorem insL_lt (p c : Nat) (h : c ∈ insL p) : c < 1114112 := by
  have h1 : b1s.all (fun n => decide (n < 1114112)) = true := by decide
  exact of_decide_eq_true (List.all_eq_true.mp h1 c (List.mem_of_mem_drop (List.mem_of_mem_take h)))
theorem insL_len (p : Nat) : (insL p).length ≤ 1 := by
  unfold insL
  rw [List.length_take]; omega
theorem lw_b3 {s : Shared} {m : Str → Option Value} {Q : Flow → Shared → Prop} {tl : List Nat} {c p nu : Nat} {t1 t2 t3 : Tok} {U : Addr} {uvs : List Value}
    (B' : Below callerA base [] h₀) (F₀ : Fr h₀ L s.heap m) (hx : m (Str.ofString "text") = some (.str ⟨tl.toArray⟩ t1)) (hy : m (Str.ofString "sign") = some (.str ⟨#[c]⟩ t2)) (hu : m (Str.ofString "unseen") = some (.ref U)) (hpl : m (Str.ofString "place") = some (.int (p : Int) t3)) (X' : (KT w.params).In h₀) (N₀ : News h₀ L s.heap news) (hm : (U, PySem.W.listOf uvs.toArray nu) ∈ news) (T' : Top qv (looseW qv loose0) mean mg mb h₀)
    (hI : IntsAre uvs uIs) (hp : p < 28) (hl : tl.length ≤ 200)
    (st : Stmt) (hst : lwB[3]? = some st)
    (h : ∀ h' tk t, Fr h₀ L h' (upd m (Str.ofString "text") (.str ⟨(tl ++ [c] ++ insL p).toArray⟩ t)) → News h₀ L h' news → Q .next { s with heap := h', toks := tk }) :
    wpAny (model pg w) (cA (lwEnv fa ca L)) (exec st (lwEnv fa ca L)) Q No s := by
  have hlt : (⟨tl.toArray⟩ : Str).length = tl.length := List.size_toArray ..
  cases hst
  refine wpAny_Assign_Name ?_
  refine wpAny_BinOp ?_
  refine lw_b3l B' F₀ hx hy X' N₀ T' (by rw [hlt]; omega) _ rfl fun h1 tk1 t1 F1 N1 => ?_
  refine eval_join (s := { s with heap := h1, toks := tk1 }) (pl := pure true) rfl (by decide) (by with_unfolding_all rfl) (by rfl) ?_
  refine LCg.ListComp_U (F₀ := F1) (cl := []) (by with_unfolding_all rfl) (by decide) (by rfl) (by decide) (by rfl) ?_
  refine lw_b3i (s := { s with heap := h1, toks := tk1 + 1 }) B' F1 hu hpl X' N1 hm T' hI hp _ rfl fun D h2 tk2 vs F2 N2 hd I2 => ?_
  rw [insL_eq] at I2
  have hlen : vs.length = (insL p).length := by rw [I2.length, List.length_map]
  have hil := insL_len p
  refine LCg.CompSrc.ledger (s₁ := { s with heap := h2, toks := tk2 }) rfl F2 N2 (.head _) (by show vs.toArray.size ≤ 16777216; rw [List.size_toArray, hlen]; omega) fun g => ?_
  refine comp_rest (fun i y => ∃ t, y = .str ⟨#[(insL p).getD i 0]⟩ t) (.inr ⟨_, .head _, rfl, _, rfl⟩) ?_ ?_
  · rintro i v I oI oC CC DD ys m₂ hp' tk hi hv hC hx F N off ne
    rw [List.getElem?_toArray] at hv
    have hii : i < (insL p).length := by rw [← hlen]; simpa using hi
    obtain ⟨t, e⟩ := I2.int_at i v hv
    rw [natsI_getD] at e
    subst e
    have hmem : (insL p).getD i 0 ∈ insL p := by rw [List.getD_eq_getElem?_getD, List.getElem?_eq_getElem hii]; exact List.getElem_mem _
    refine lw_b3e (s := { s with heap := hp', toks := tk }) B' F X' N T' hC hx (insL_lt p _ hmem) _ _ rfl rfl fun tk' t => ?_
    exact ⟨hp', tk', rfl, F, N, t, rfl⟩
  · intro zs hl' hz DD hp' tk F N o1
    have hz' := strs_of_get (f := fun c => ⟨#[c]⟩) zs (insL p) (by rw [hl', List.size_toArray, hlen]) hz
    refine ⟨DD, zs.toArray, _, rfl, N.isList (.head _), hz', ?_, fun tk t => ?_⟩
    · have e : ∀ l : List Nat, ((l.map fun c => (⟨#[c]⟩ : Str)).map (·.length)).sum = l.length := by
        intro l
        induction l with
        | nil => rfl
        | cons a r ih => simp only [List.map_cons, List.sum_cons, List.length_cons]; rw [ih]; show 1 + _ = _; omega
      rw [e, List.length_map]; omega
    · rw [txt_join, join_ones (fun k => k), List.map_id']
      refine lw_add (s := { s with heap := hp', toks := tk }) B' F X' N T' (by show (tl ++ [c]).toArray.size ≤ _; rw [List.size_toArray, List.length_append]; show _ + 1 ≤ _; omega) (by show (insL p).toArray.size ≤ _; rw [List.size_toArray]; omega) fun h4 tk4 t4 F4 N4 => ?_
      rw [str_app]
      refine storeX_L (s := { s with heap := h4, toks := tk4 }) F4 (kst_newsOf N4 fun p hp => .tail _ (.tail _ hp)) fun h5 F5 N5 => ?_
      exact h h5 _ t4 F5 N5
end
end Mine
end
section
set_option maxRecDepth 100000
set_option linter.unusedVariables false
set_option Elab.async false
set_option pp.maxSteps 3000
namespace Mine
open PySem PySem.W PySem.Calls PyProof.Rows
section
variable {w : World} {base : Heap} {h₀ : Heap} {fa ca L : Addr} {mg mb : Str → Option Value} {news : List (Addr × Obj)} {mean : ExcName → Option Value}
set_option maxHeartbeats 1000000 in
theorem lw_b5 {s : Shared} {m : Str → Option Value} {Q : Flow → Shared → Prop} {x : Int} {r : Nat} {tl : List Nat} {t1 t2 : Tok}
    (B' : Below callerA base [] h₀) (F₀ : Fr h₀ L s.heap m) (hx : m (Str.ofString "x") = some (.int x t1)) (hy : m (Str.ofString "meant") = some (.str ⟨tl.toArray⟩ t2)) (X' : (KT w.params).In h₀) (N' : News h₀ L s.heap news) (T' : Top qv (looseW qv loose0) mean mg mb h₀)
    (hl : (⟨tl.toArray⟩ : Str).length ≤ 250) (hr : x.fmod 6 = (r : Int)) (hr6 : r < 6)
    (st : Stmt) (hst : lwB[5]? = some st)
    (h : ∀ h' tk t, Fr h₀ L h' (upd m (Str.ofString "meant") (.str ⟨(tl ++ mng r).toArray⟩ t)) → News h₀ L h' news → Q .next { s with heap := h', toks := tk }) :
    wpAny (model pg w) (cA (lwEnv fa ca L)) (exec st (lwEnv fa ca L)) Q No s := by
  have hfill : (PySem.Challenge.rw_re0100_02, KT) = (PySem.Challenge.rw_re0100_02, KT) := by k_fill; rfl
  clear hfill
  have hk := allC hx (all1 hy)
  have F' := fr_norm _ F₀ hk
  clear F₀
  dsimp only [kstB] at F'
  w_on
  cases hst
  k_steps
  rw [hr]
  obtain rfl | rfl | rfl | rfl | rfl | rfl : r = 0 ∨ r = 1 ∨ r = 2 ∨ r = 3 ∨ r = 4 ∨ r = 5 := by omega
  all_goals k_steps
  all_goals
    rename Fr _ _ _ _ => F₂
    rename News _ _ _ _ => N₂
  · rw [show Str.ofString "fi" = ⟨(mng 0).toArray⟩ by decide, str_app] at F₂
    exact h _ _ _ (fr_upd hk F₂) (kst_newsOf N₂ fun p hp => .tail _ hp)
  · rw [show Str.ofString "f" = ⟨(mng 1).toArray⟩ by decide, str_app] at F₂
    exact h _ _ _ (fr_upd hk F₂) (kst_newsOf N₂ fun p hp => .tail _ hp)
  · rw [show Str.ofString "i" = ⟨(mng 2).toArray⟩ by decide, str_app] at F₂
    exact h _ _ _ (fr_upd hk F₂) (kst_newsOf N₂ fun p hp => .tail _ hp)
  · rw [show Str.ofString "ff" = ⟨(mng 3).toArray⟩ by decide, str_app] at F₂
    exact h _ _ _ (fr_upd hk F₂) (kst_newsOf N₂ fun p hp => .tail _ hp)
  · rw [show Str.ofString "ffi" = ⟨(mng 4).toArray⟩ by decide, str_app] at F₂
    exact h _ _ _ (fr_upd hk F₂) (kst_newsOf N₂ fun p hp => .tail _ hp)
  · rw [show Str.ofString "i" = ⟨(mng 5).toArray⟩ by decide, str_app] at F₂
    exact h _ _ _ (fr_upd hk F₂) (kst_newsOf N₂ fun p hp => .tail _ hp)
end
end Mine
end
section
set_option maxRecDepth 100000
set_option linter.unusedVariables false
set_option Elab.async false
set_option pp.maxSteps 3000
namespace Mine
open PySem PySem.W PySem.Calls PyProof.Rows
def remL (dl : List Int) (k : Nat) : Nat := ((dl.getD (k % 4) 0).fmod 6).toNat
theorem remL_lt (dl : List Int) (k : Nat) : remL dl k < 6 := by
  have h1 := Int.fmod_lt_of_pos (dl.getD (k % 4) 0) (show (0 : Int) < 6 by decide)
  have h2 := Int.fmod_nonneg_of_pos (dl.getD (k % 4) 0) (show (0 : Int) < 6 by decide)
  unfold remL
  omega
theorem remL_eq (dl : List Int) (k : Nat) : (dl.getD (k % 4) 0).fmod 6 = (remL dl k : Int) := by
  have h2 := Int.fmod_nonneg_of_pos (dl.getD (k % 4) 0) (show (0 : Int) < 6 by decide)
  unfold remL
  omega
def typL (rem : Nat → Nat) (n : Nat) : List Nat := (List.range n).map fun k => sgn (rem k)
def meaL (rem : Nat → Nat) (n : Nat) : List Nat := (List.range n).flatMap fun k => mng (rem k)
theorem typL_succ (rem : Nat → Nat) (n : Nat) : typL rem (n + 1) = typL rem n ++ [sgn (rem n)] := by
  unfold typL; rw [List.range_succ, List.map_append]; rfl
theorem meaL_succ (rem : Nat → Nat) (n : Nat) : meaL rem (n + 1) = meaL rem n ++ mng (rem n) := by
  unfold meaL; rw [List.range_succ, List.flatMap_append]; simp
theorem mng_len (r : Nat) : (mng r).length ≤ 3 := by
  by_cases h : r < 6
  · have : (List.range 6).all (fun r => decide ((mng r).length ≤ 3)) = true := by decide
    exact of_decide_eq_true (List.all_eq_true.mp this r (List.mem_range.mpr h))
  · unfold mng
    rw [List.getD_eq_getElem?_getD, List.getElem?_eq_none (by simp; omega)]
    decide
theorem meaL_len (rem : Nat → Nat) : ∀ n, (meaL rem n).length ≤ 3 * n
  | 0 => Nat.zero_le _
  | n + 1 => by
    rw [meaL_succ, List.length_append]
    have := meaL_len rem n
    have := mng_len (rem n)
    omega
theorem typL_len (rem : Nat → Nat) (n : Nat) : (typL rem n).length = n := by
  unfold typL; rw [List.length_map, List.length_range]
theorem sgn_no (r : Nat) (h : r < 6) : inB1 (sgn r : Int) = false := by
  have : (List.range 6).all (fun r => !inB1 (sgn r : Int)) = true := by decide
  simpa using List.all_eq_true.mp this r (List.mem_range.mpr h)
theorem ins_in (p c : Nat) (h : c ∈ insL p) : inB1 (c : Int) = true := by
  have h1 : b1s.all (fun n => inB1 (n : Int)) = true := by decide
  exact List.all_eq_true.mp h1 c (List.mem_of_mem_drop (List.mem_of_mem_take h))
def keepB (tl : List Nat) : List Nat := tl.filter fun c => !inB1 (c : Int)
theorem keepB_step (tl : List Nat) (r p : Nat) (h : r < 6) : keepB (tl ++ [sgn r] ++ insL p) = keepB tl ++ [sgn r] := by
  unfold keepB
  rw [List.filter_append, List.filter_append]
  have e1 : List.filter (fun c : Nat => !inB1 (c : Int)) [sgn r] = [sgn r] := by
    simp [sgn_no r h]
  have e2 : List.filter (fun c : Nat => !inB1 (c : Int)) (insL p) = [] := by
    rw [List.filter_eq_nil_iff]
    intro c hc
    simp [ins_in p c hc]
  rw [e1, e2, List.append_nil]
structure TxS where
  tl : List Nat
  ty : List Nat
  mn : List Nat
  t1 : Tok
  t2 : Tok
  t3 : Tok
structure TxOk (dl : List Int) (i : Nat) (c : TxS) : Prop where
  k : keepB c.tl = typL (remL dl) i
  l : c.tl.length ≤ 2 * i
  y : c.ty = typL (remL dl) i
  m : c.mn = meaL (remL dl) i
abbrev txPs (D U : Addr) (c : TxS) : List (Str × Value) := [(Str.ofString "drawn", .ref D), (Str.ofString "unseen", .ref U), (Str.ofString "text", .str ⟨c.tl.toArray⟩ c.t1), (Str.ofString "typed", .str ⟨c.ty.toArray⟩ c.t2), (Str.ofString "meant", .str ⟨c.mn.toArray⟩ c.t3)]
section
variable {w : World} {base : Heap} {h₀ : Heap} {fa ca L : Addr} {mg mb : Str → Option Value} {news : List (Addr × Obj)} {mean : ExcName → Option Value}
theorem lw_turn {s : Shared} {m : Str → Option Value} {Q : Flow → Shared → Prop} {D U : Addr} {dvs uvs : List Value} {dl : List Int} {c : TxS} {i nd nu : Nat} {tk : Tok} {S0 S1 S2 S3 S4 S5 : Stmt}
    (B' : Below callerA base [] h₀) (F₀ : Fr h₀ L s.heap m) (hm : ∀ p ∈ txPs D U c, m p.1 = some p.2) (hk : m (Str.ofString "k") = some (.int (i : Int) tk)) (X' : (KT w.params).In h₀) (N₀ : News h₀ L s.heap news) (hD : (D, PySem.W.listOf dvs.toArray nd) ∈ news) (hU : (U, PySem.W.listOf uvs.toArray nu) ∈ news) (T' : Top qv (looseW qv loose0) mean mg mb h₀)
    (hI : IntsAre dvs dl) (hl : dl.length = 4) (hJ : IntsAre uvs uIs) (hi : i < 10) (hc : TxOk dl i c)
    (e0 : lwB[0]? = some S0) (e1 : lwB[1]? = some S1) (e2 : lwB[2]? = some S2) (e3 : lwB[3]? = some S3) (e4 : lwB[4]? = some S4) (e5 : lwB[5]? = some S5)
    (h : ∀ h' tk m' c', Fr h₀ L h' m' → (∀ p ∈ txPs D U c', m' p.1 = some p.2) → News h₀ L h' news → TxOk dl (i + 1) c' → Q .next { s with heap := h', toks := tk }) :
    wpAny (model pg w) (cA (lwEnv fa ca L)) (execs [S0, S1, S2, S3, S4, S5] (lwEnv fa ca L)) Q No s := by
  have hd := hm _ (.head _)
  have hu := hm _ (.tail _ (.head _))
  have htx := hm _ (.tail _ (.tail _ (.head _)))
  have hty := hm _ (.tail _ (.tail _ (.tail _ (.head _))))
  have hmn := hm _ (.tail _ (.tail _ (.tail _ (.tail _ (.head _)))))
  dsimp only at hd hu htx hty hmn
  have hr6 := remL_lt dl i
  have hre := remL_eq dl i
  have hyl := typL_len (remL dl) i
  have hml := meaL_len (remL dl) i
  have cl := hc.l
  refine wpAny_execs_cons (lw_b0 B' F₀ hd hk X' N₀ hD T' hI hl hi S0 e0 fun h1 tk1 t1 F1 N1 => ?_)
  show wpAny _ _ _ _ _ _
  refine wpAny_execs_cons (lw_b1 (s := { s with heap := h1, toks := tk1 }) (k := i) B' F1 (upd_at _ _ _) (upd_ne hk (by decide)) X' N1 T' hi S1 e1 fun h2 tk2 t2 F2 N2 => ?_)
  show wpAny _ _ _ _ _ _
  refine wpAny_execs_cons (lw_b2 (s := { s with heap := h2, toks := tk2 }) (r := remL dl i) B' F2 (upd_ne (upd_at _ _ _) (by decide)) X' N2 T' hre hr6 S2 e2 fun h3 tk3 t3 F3 N3 => ?_)
  show wpAny _ _ _ _ _ _
  obtain ⟨p, hp28, hp⟩ : ∃ p : Nat, p < 28 ∧ ((dl.getD (i % 4) 0).fdiv 6 + 3 * (i : Int)).fmod 28 = (p : Int) := by
    have h1 := Int.fmod_lt_of_pos ((dl.getD (i % 4) 0).fdiv 6 + 3 * (i : Int)) (show (0 : Int) < 28 by decide)
    have h2 := Int.fmod_nonneg_of_pos ((dl.getD (i % 4) 0).fdiv 6 + 3 * (i : Int)) (show (0 : Int) < 28 by decide)
    exact ⟨(((dl.getD (i % 4) 0).fdiv 6 + 3 * (i : Int)).fmod 28).toNat, by omega, by omega⟩
  rw [hp] at F3
  refine wpAny_execs_cons (lw_b3 (s := { s with heap := h3, toks := tk3 }) (tl := c.tl) (c := sgn (remL dl i)) (p := p) B' F3 (upd_ne (upd_ne (upd_ne htx (by decide)) (by decide)) (by decide)) (upd_at _ _ _) (upd_ne (upd_ne (upd_ne hu (by decide)) (by decide)) (by decide)) (upd_ne (upd_at _ _ _) (by decide)) X' N3 hU T' hJ hp28 (by omega) S3 e3 fun h4 tk4 t4 F4 N4 => ?_)
  show wpAny _ _ _ _ _ _
  have ylen : (⟨c.ty.toArray⟩ : Str).length ≤ 250 := by show c.ty.toArray.size ≤ _; rw [List.size_toArray, hc.y]; omega
  have mlen : (⟨c.mn.toArray⟩ : Str).length ≤ 250 := by show c.mn.toArray.size ≤ _; rw [List.size_toArray, hc.m]; omega
  refine wpAny_execs_cons (lw_b4 (s := { s with heap := h4, toks := tk4 }) (tl := c.ty) (c := sgn (remL dl i)) B' F4 (upd_ne (upd_ne (upd_ne (upd_ne hty (by decide)) (by decide)) (by decide)) (by decide)) (upd_ne (upd_at _ _ _) (by decide)) X' N4 T' ylen S4 e4 fun h5 tk5 t5 F5 N5 => ?_)
  show wpAny _ _ _ _ _ _
  refine wpAny_execs_cons (lw_b5 (s := { s with heap := h5, toks := tk5 }) (tl := c.mn) (r := remL dl i) B' F5 (upd_ne (upd_ne (upd_ne (upd_ne (upd_at _ _ _) (by decide)) (by decide)) (by decide)) (by decide)) (upd_ne (upd_ne (upd_ne (upd_ne (upd_ne hmn (by decide)) (by decide)) (by decide)) (by decide)) (by decide)) X' N5 T' mlen hre hr6 S5 e5 fun h6 tk6 t6 F6 N6 => ?_)
  show wpAny _ _ _ _ _ _
  refine wpAny_execs_nil ?_
  refine h h6 tk6 _ ⟨c.tl ++ [sgn (remL dl i)] ++ insL p, c.ty ++ [sgn (remL dl i)], c.mn ++ mng (remL dl i), t4, t5, t6⟩ F6 (fun q hq => ?_) N6 ⟨?_, ?_, ?_, ?_⟩
  · simp only [List.mem_cons, List.not_mem_nil, or_false] at hq
    rcases hq with rfl | rfl | rfl | rfl | rfl <;> dsimp only
    · exact upd_ne (upd_ne (upd_ne (upd_ne (upd_ne (upd_ne hd (by decide)) (by decide)) (by decide)) (by decide)) (by decide)) (by decide)
    · exact upd_ne (upd_ne (upd_ne (upd_ne (upd_ne (upd_ne hu (by decide)) (by decide)) (by decide)) (by decide)) (by decide)) (by decide)
    · exact upd_ne (upd_ne (upd_at _ _ _) (by decide)) (by decide)
    · exact upd_ne (upd_at _ _ _) (by decide)
    · exact upd_at _ _ _
  · show keepB _ = _
    rw [keepB_step _ _ _ hr6, hc.k, typL_succ]
  · show (c.tl ++ [_] ++ insL p).length ≤ _
    have := insL_len p
    rw [List.length_append, List.length_append]
    show _ + 1 + _ ≤ _
    omega
  · show c.ty ++ _ = _
    rw [hc.y, typL_succ]
  · show c.mn ++ _ = _
    rw [hc.m, meaL_succ]
set_option maxHeartbeats 1000000 in
theorem lw_3i {s : Shared} {m : Str → Option Value} {Q : Value → Shared → Prop}
    (B' : Below callerA base [] h₀) (F' : Fr h₀ L s.heap m) (X' : (KT w.params).In h₀) (N' : News h₀ L s.heap news) (T' : Top qv (looseW qv loose0) mean mg mb h₀)
    (e : _) (he : (match (fB (stm 11))[3]? with | some s => forI s | none => none) = some e)
    (hq : ∀ h' tk' r t u v, IsRange h' r 0 10 1 t u v → Fr h₀ L h' m → News h₀ L h' news → Q (.ref r) { s with heap := h', toks := tk' }) :
    wpAny (model pg w) (cA (lwEnv fa ca L)) (eval e (lwEnv fa ca L)) Q No s := by
  have hfill : (PySem.Challenge.rw_re0100_02, KT) = (PySem.Challenge.rw_re0100_02, KT) := by k_fill; rfl
  clear hfill
  w_on
  cases he
  k_steps
  exact hq _ _ _ _ _ _ (by assumption) (by assumption) (by assumption)
theorem lwB_0 : ∃ S0 S1 S2 S3 S4 S5, lwB = [S0, S1, S2, S3, S4, S5] := ⟨_, _, _, _, _, _, rfl⟩
theorem lw_3 {s : Shared} {m : Str → Option Value} {Q : Flow → Shared → Prop} {D U : Addr} {dvs uvs : List Value} {dl : List Int} {nd nu : Nat} {t1 t2 t3 : Tok}
    (B' : Below callerA base [] h₀) (F₀ : Fr h₀ L s.heap m) (hm : ∀ p ∈ txPs D U ⟨[], [], [], t1, t2, t3⟩, m p.1 = some p.2) (X' : (KT w.params).In h₀) (N₀ : News h₀ L s.heap news) (hD : (D, PySem.W.listOf dvs.toArray nd) ∈ news) (hU : (U, PySem.W.listOf uvs.toArray nu) ∈ news) (T' : Top qv (looseW qv loose0) mean mg mb h₀)
    (hI : IntsAre dvs dl) (hl : dl.length = 4) (hJ : IntsAre uvs uIs)
    (st : Stmt) (hst : (fB (stm 11))[3]? = some st)
    (h : ∀ h' tk m' c', Fr h₀ L h' m' → (∀ p ∈ txPs D U c', m' p.1 = some p.2) → News h₀ L h' news → TxOk dl 10 c' → Q .next { s with heap := h', toks := tk }) :
    wpAny (model pg w) (cA (lwEnv fa ca L)) (exec st (lwEnv fa ca L)) Q No s := by
  cases hst
  refine for_start F₀ (by rfl) (by rfl) ?_
  refine lw_3i B' F₀ X' N₀ T' _ rfl fun h' tk' r t u v hr F₁ N₁ => ?_
  obtain ⟨S0, S1, S2, S3, S4, S5, eb⟩ := lwB_0
  refine for_range (n := 10) (σ := TxS) (txPs D U) (fun _ => news) (fun i c => TxOk dl i c) ⟨[], [], [], t1, t2, t3⟩ rfl hr
    (small_one (by omega) (by omega) (by omega) (by omega)) (by rw [rangeSize_nat]; rfl) F₁ N₁ hm ⟨rfl, Nat.le_refl _, rfl, rfl⟩ (fun _ => rfl) (fun c => offN [Str.ofString "drawn", Str.ofString "unseen", Str.ofString "text", Str.ofString "typed", Str.ofString "meant"] rfl (by decide)) ?_ ?_
  · rintro i k t' c u₁ h₂ tk₂ own hi rfl hc hoff F₂ N₂
    have e : (0 : Int) + (i : Int) = (i : Int) := by omega
    rw [e] at F₂
    have hps := kstB_atN (u := u₁) (ps := (Str.ofString "k", Value.int (i : Int) t') :: txPs D U c) [Str.ofString "k", Str.ofString "drawn", Str.ofString "unseen", Str.ofString "text", Str.ofString "typed", Str.ofString "meant"] rfl (by decide)
    have eb' : ∀ k : Nat, lwB[k]? = [S0, S1, S2, S3, S4, S5][k]? := fun k => by rw [eb]
    show wpAny _ _ (execs lwB _) _ _ _
    rw [eb]
    refine lw_turn (s := { s with heap := h₂, toks := tk₂ }) (news := news ++ own) (D := D) (U := U) (dl := dl) (c := c) B' F₂ (fun p hp => hps p (.tail _ hp)) (hps (Str.ofString "k", Value.int (i : Int) t') (.head _)) X' N₂ (List.mem_append_left _ hD) (List.mem_append_left _ hU) T' hI hl hJ hi hc (eb' 0) (eb' 1) (eb' 2) (eb' 3) (eb' 4) (eb' 5) fun h3 tk3 m3 c3 F3 hm3 N3 hc3 => ?_
    exact ⟨c3, m3, h3, tk3, _, rfl, hc3, F3, hm3, N3, fun p hp => List.mem_append_left _ hp, fun p hp => List.mem_append_right _ hp⟩
  · intro c u₁ h₂ tk₂ hc F₂ N₂
    exact h h₂ tk₂ _ c F₂ (kstB_atN (u := u₁) (ps := txPs D U c) [Str.ofString "drawn", Str.ofString "unseen", Str.ofString "text", Str.ofString "typed", Str.ofString "meant"] rfl (by decide)) N₂ hc
end
end Mine
end
section
set_option maxRecDepth 100000
set_option linter.unusedVariables false
set_option Elab.async false
set_option pp.maxSteps 3000
namespace Mine
open PySem PySem.W PySem.Calls PyProof.Rows
theorem filter_idx (q : Nat → Bool) (l : List Nat) : l.filter q = ((List.range l.length).filter fun i => q (l.getD i 0)).map fun i => l.getD i 0 := by
  have e : l = (List.range l.length).map fun i => l.getD i 0 := by
    refine List.ext_getElem? fun i => ?_
    rw [List.getElem?_map]
    by_cases h : i < l.length
    · rw [List.getElem?_range h, List.getElem?_eq_getElem h]
      simp [List.getD_eq_getElem?_getD, List.getElem?_eq_getElem h]
    · rw [List.getElem?_eq_none (by omega), List.getElem?_eq_none (by simp; omega)]; rfl
  conv => lhs; rw [e]
  rw [List.filter_map]
  rfl
theorem getD_map2 (f : Nat → Nat) (l : List Nat) (j : Nat) (h : j < l.length) : (l.map f).getD j 0 = f (l.getD j 0) := by
  simp [List.getD_eq_getElem?_getD, List.getElem?_map, List.getElem?_eq_getElem h]
def lw4C : Option PySem.Expr := match lwE 4 with | some e => argE e | none => none
section
variable {w : World} {base : Heap} {h₀ : Heap} {fa ca L : Addr} {mg mb : Str → Option Value} {news : List (Addr × Obj)} {mean : ExcName → Option Value}
local macro_rules | `(tactic| walk_at "call ref") => `(tactic| refine stopW ?_)
set_option maxHeartbeats 1000000 in
theorem lw_4t {s : Shared} {m : Str → Option Value} {Q : Bool → Shared → Prop} {c : Nat} {tk : Tok} {I C D : Addr} {oI oC : Obj} {ys : List Value} {m₂ : Str → Option Value}
    (B' : Below callerA base [] h₀) (F' : Fr h₀ L s.heap m) (X' : (KT w.params).In h₀) (N' : News h₀ L s.heap ((I, oI) :: (C, oC) :: (D, LCg.lst ys) :: news)) (T' : Top qv (looseW qv loose0) mean mg mb h₀)
    (hC : LCg.NsObj oC m₂) (hk : m₂ (Str.ofString "sign") = some (.str ⟨#[c]⟩ tk))
    (e sc : _) (he : (match lw4C with | some c => tstE c | none => none) = some e) (hsc : (match lw4C with | some c => scE c | none => none) = some sc)
    (hq : ∀ h' tk', Fr h₀ L h' m → News h₀ L h' ((I, oI) :: (C, oC) :: (D, LCg.lst ys) :: news) → Q (!inB1 (c : Int)) { s with heap := h', toks := tk' }) :
    wpAny (model pg w) (cA (lwEnv fa ca L)) (PySem.isTrue e (compEnvC sc [] C (lwEnv fa ca L)) (eval e (compEnvC sc [] C (lwEnv fa ca L)))) Q No s := by
  have hfill : (PySem.Challenge.rw_re0100_02, KT) = (PySem.Challenge.rw_re0100_02, KT) := by k_fill; rfl
  clear hfill
  w_on
  cases he
  cases hsc
  k_steps
  refine Stop.out ?_
  with_reducible refine b1_call B' F' X' N' T' rfl rfl rfl rfl (by k_room) fun h' tk' F₁ N₁ => ?_
  k_steps
  exact hq _ _ F₁ N₁
set_option maxHeartbeats 1000000 in
theorem lw_4e {s : Shared} {m : Str → Option Value} {Q : Value → Shared → Prop} {c : Nat} {tk : Tok} {I C D : Addr} {oI oC : Obj} {ys : List Value} {m₂ : Str → Option Value}
    (B' : Below callerA base [] h₀) (F' : Fr h₀ L s.heap m) (X' : (KT w.params).In h₀) (N' : News h₀ L s.heap ((I, oI) :: (C, oC) :: (D, LCg.lst ys) :: news)) (T' : Top qv (looseW qv loose0) mean mg mb h₀)
    (hC : LCg.NsObj oC m₂) (hk : m₂ (Str.ofString "sign") = some (.str ⟨#[c]⟩ tk))
    (e sc : _) (he : (match lw4C with | some c => eltE c | none => none) = some e) (hsc : (match lw4C with | some c => scE c | none => none) = some sc)
    (hq : ∀ tk' t, Q (.str ⟨#[c]⟩ t) { s with toks := tk' }) :
    wpAny (model pg w) (cA (lwEnv fa ca L)) (eval e (compEnvC sc [] C (lwEnv fa ca L))) Q No s := by
  have hfill : (PySem.Challenge.rw_re0100_02, KT) = (PySem.Challenge.rw_re0100_02, KT) := by k_fill; rfl
  clear hfill
  w_on
  cases he
  cases hsc
  k_steps
  exact hq _ _
theorem lw_4 {s : Shared} {m : Str → Option Value} {Q : Flow → Shared → Prop} {tl : List Nat} {t1 : Tok} {or : Obj} {cr : Option Value}
    (B' : Below callerA base [] h₀) (F' : Fr h₀ L s.heap m) (hx : m (Str.ofString "text") = some (.str ⟨tl.toArray⟩ t1)) (X' : (KT w.params).In h₀) (N' : News h₀ L s.heap ((L + 2, or) :: news)) (hn : ∀ p ∈ news, p.1 ≠ L + 2) (T' : Top qv (looseW qv loose0) mean mg mb h₀)
    (hor : or.data = .cell cr) (hl : tl.length ≤ 250)
    (st : Stmt) (hst : (fB (stm 11))[4]? = some st)
    (h : ∀ h' tk or' t, Fr h₀ L h' m → News h₀ L h' ((L + 2, or') :: news) → or'.data = .cell (some (.str ⟨(keepB tl).toArray⟩ t)) → Q .next { s with heap := h', toks := tk }) :
    wpAny (model pg w) (cA (lwEnv fa ca L)) (exec st (lwEnv fa ca L)) Q No s := by
  cases hst
  refine wpAny_Assign_Name ?_
  refine eval_join (pl := pure true) rfl (by decide) (by with_unfolding_all rfl) (by rfl) ?_
  refine comp_strT (L := L) (h₀ := h₀) (m := m) (cl := []) (by with_unfolding_all rfl) (by decide) (by rfl) (by decide) (by rfl) rfl ?_
  refine nameX_L (s := { s with toks := s.toks + 1 }) F' hx ?_
  have hsz : (⟨tl.toArray⟩ : Str).cps.size = tl.length := List.size_toArray ..
  refine ⟨⟨tl.toArray⟩, t1, _, rfl, F', N', by rw [hsz]; show _ ≤ 16777216; omega, fun g => ?_⟩
  have sig : ∀ i v, i < (⟨tl.toArray⟩ : Str).cps.size → SignAt ⟨tl.toArray⟩ i v → ∃ u, v = .str ⟨#[tl.getD i 0]⟩ u := by
    rintro i v hi ⟨c, u, hc, rfl⟩
    have : tl[i]? = some c := by simpa using hc
    exact ⟨u, by rw [List.getD_eq_getElem?_getD, this]; rfl⟩
  refine comp_restT (fun i => !inB1 ((tl.getD i 0 : Nat) : Int)) (fun i y => ∃ t, y = .str ⟨#[tl.getD i 0]⟩ t) trivial ?_ ?_ ?_
  · rintro i v I oI oC CC D zs m₂ hp tk hi hv hC hx F N off ne
    obtain ⟨u, rfl⟩ := sig i v hi hv
    refine lw_4t (s := { s with heap := hp, toks := tk }) B' F X' N T' hC hx _ _ rfl rfl fun h' tk' F N => ?_
    exact ⟨h', tk', rfl, F, N, rfl⟩
  · rintro i v I oI oC CC D zs m₂ hp tk hi _ hv hC hx F N off ne
    obtain ⟨u, rfl⟩ := sig i v hi hv
    refine lw_4e (s := { s with heap := hp, toks := tk }) B' F X' N T' hC hx _ _ rfl rfl fun tk' t => ?_
    exact ⟨hp, tk', rfl, F, N, t, rfl⟩
  · intro zs hl' hz D hp tk F N o1
    rw [hsz] at hl' hz
    have ek : keepB tl = ((List.range tl.length).filter fun i => !inB1 ((tl.getD i 0 : Nat) : Int)).map fun i => tl.getD i 0 := filter_idx _ tl
    have hkl : (keepB tl).length ≤ tl.length := List.length_filter_le _ _
    have hz' := strs_of_get (f := fun c => ⟨#[c]⟩) zs (keepB tl) (by rw [hl', ek, List.length_map]) fun i y hi => by
      obtain ⟨t, e⟩ := hz i y hi
      have hj : i < ((List.range tl.length).filter fun i => !inB1 ((tl.getD i 0 : Nat) : Int)).length := by
        rw [← hl']; exact (List.getElem?_eq_some_iff.mp hi).1
      exact ⟨t, by rw [e, ek, getD_map2 (fun i => tl.getD i 0) _ _ hj]⟩
    refine ⟨D, zs.toArray, _, rfl, N.isList (.head _), hz', ?_, fun tk t => ?_⟩
    · have e : ∀ l : List Nat, ((l.map fun c => (⟨#[c]⟩ : Str)).map (·.length)).sum = l.length := by
        intro l
        induction l with
        | nil => rfl
        | cons a r ih => simp only [List.map_cons, List.sum_cons, List.length_cons]; rw [ih]; show 1 + _ = _; omega
      rw [e, List.length_map]; omega
    · rw [txt_join, join_ones (fun k => k), List.map_id']
      refine store_cell (s := { s with heap := hp, toks := tk }) (L + 2) or news F (kst_newsOf N fun p hp => .tail _ hp) (fun p hp => hp) rfl hn hor fun h3 or' F₃ N₃ hor' => ?_
      exact h h3 _ or' t F₃ N₃ hor'
end
end Mine
end
section
set_option maxRecDepth 100000
set_option linter.unusedVariables false
set_option Elab.async false
set_option pp.maxSteps 3000
namespace Mine
open PySem PySem.W PySem.Calls PyProof.Rows
section
variable {w : World} {base : Heap} {h₀ : Heap} {fa ca L : Addr} {mg mb : Str → Option Value} {news : List (Addr × Obj)} {mean : ExcName → Option Value}
local macro_rules | `(tactic| walk_at "call ref") => `(tactic| refine stopW ?_)
set_option maxHeartbeats 1000000 in
theorem lw_5 {s : Shared} {m : Str → Option Value} {Q : Flow → Shared → Prop} {wl : List Nat} {t1 : Tok} {or : Obj}
    (B' : Below callerA base [] h₀) (F' : Fr h₀ L s.heap m) (X' : (KT w.params).In h₀) (N' : News h₀ L s.heap ((L + 2, or) :: news)) (T' : Top qv (looseW qv loose0) mean mg mb h₀)
    (hor : or.data = .cell (some (.str ⟨wl.toArray⟩ t1))) (hok : ∀ c ∈ wl, (c, imgF c) ∈ b3s) (hl : wl.length ≤ 250) (hl2 : (wl.flatMap imgF).length ≤ 1000)
    (st : Stmt) (hst : (fB (stm 11))[5]? = some st)
    (h : ∀ h' tk t, Fr h₀ L h' (upd m (Str.ofString "letters") (.str ⟨(wl.flatMap imgF).toArray⟩ t)) → News h₀ L h' ((L + 2, or) :: news) → Q .next { s with heap := h', toks := tk }) :
    wpAny (model pg w) (cA (lwEnv fa ca L)) (exec st (lwEnv fa ca L)) Q No s := by
  have hfill : (PySem.Challenge.rw_re0100_02, KT) = (PySem.Challenge.rw_re0100_02, KT) := by k_fill; rfl
  clear hfill
  w_on
  cases hst
  k_steps
  refine Stop.out ?_
  with_reducible refine fo_call B' F' X' N' T' rfl rfl hok hl hl2 fun h2 tk2 t2 F₂ N₂ => ?_
  refine storeX_L F₂ N₂ fun h3 F₃ N₃ => ?_
  exact h h3 _ t2 F₃ N₃
set_option maxHeartbeats 1000000 in
theorem lw_6 {s : Shared} {m : Str → Option Value} {Q : Flow → Shared → Prop} {wl ml : List Nat} {t1 t2 t3 t4 : Tok} {or : Obj}
    (B' : Below callerA base [] h₀) (F₀ : Fr h₀ L s.heap m) (h1 : m (Str.ofString "typed") = some (.str ⟨wl.toArray⟩ t2)) (h2 : m (Str.ofString "letters") = some (.str ⟨ml.toArray⟩ t3)) (h3 : m (Str.ofString "meant") = some (.str ⟨ml.toArray⟩ t4)) (X' : (KT w.params).In h₀) (N' : News h₀ L s.heap ((L + 2, or) :: news)) (T' : Top qv (looseW qv loose0) mean mg mb h₀)
    (hor : or.data = .cell (some (.str ⟨wl.toArray⟩ t1))) (hl : (⟨wl.toArray⟩ : Str).length ≤ 250) (hl2 : (⟨ml.toArray⟩ : Str).length ≤ 250)
    (st : Stmt) (hst : (fB (stm 11))[6]? = some st)
    (h : ∀ h' tk, Fr h₀ L h' m → News h₀ L h' ((L + 2, or) :: news) → Q .next { s with heap := h', toks := tk }) :
    wpAny (model pg w) (cA (lwEnv fa ca L)) (exec st (lwEnv fa ca L)) Q No s := by
  have hfill : (PySem.Challenge.rw_re0100_02, KT) = (PySem.Challenge.rw_re0100_02, KT) := by k_fill; rfl
  clear hfill
  have hk := allC h1 (allC h2 (all1 h3))
  have F' := fr_norm _ F₀ hk
  clear F₀
  dsimp only [kstB] at F'
  w_on
  cases hst
  k_steps
  · rename_i hne
    simp at hne
  · rename_i hne
    simp at hne
  · exact h _ _ (fr_same hk F') N'
set_option maxHeartbeats 1000000 in
theorem lw_7 {s : Shared} {m : Str → Option Value} {Q : Flow → Shared → Prop} {wl : List Nat} {t1 : Tok} {or : Obj}
    (B' : Below callerA base [] h₀) (F' : Fr h₀ L s.heap m) (X' : (KT w.params).In h₀) (N' : News h₀ L s.heap ((L + 2, or) :: news)) (T' : Top qv (looseW qv loose0) mean mg mb h₀)
    (hor : or.data = .cell (some (.str ⟨wl.toArray⟩ t1))) (hl : wl.length ≤ 250) (hl1 : 1 ≤ wl.length)
    (st : Stmt) (hst : (fB (stm 11))[7]? = some st)
    (h : ∀ S h' tk vs nn, Fr h₀ L h' (upd m (Str.ofString "seals") (.ref S)) → News h₀ L h' ((S, PySem.W.listOf vs.toArray nn) :: (L + 2, or) :: news) → IntsAre vs (natsI (sealsP wl)) → Q .next { s with heap := h', toks := tk }) :
    wpAny (model pg w) (cA (lwEnv fa ca L)) (exec st (lwEnv fa ca L)) Q No s := by
  have hfill : (PySem.Challenge.rw_re0100_02, KT) = (PySem.Challenge.rw_re0100_02, KT) := by k_fill; rfl
  clear hfill
  w_on
  cases hst
  k_steps
  refine Stop.out ?_
  with_reducible refine se_call B' F' X' N' T' rfl rfl hl hl1 fun S h2 tk2 vs nn F₂ N₂ _ I₂ => ?_
  refine storeX_L F₂ N₂ fun h3 F₃ N₃ => ?_
  exact h S h3 _ vs nn F₃ N₃ I₂
end
end Mine
end
section
set_option maxRecDepth 100000
set_option linter.unusedVariables false
set_option Elab.async false
set_option pp.maxSteps 3000
namespace Mine
open PySem PySem.W PySem.Calls PyProof.Rows
def cmpR : PySem.Expr → Option PySem.Expr | .Compare _ _ [e] _ => some e | _ => none
def lw8C : Option PySem.Expr := match (match (fB (stm 11))[8]? with | some s => ifT s | none => none) with | some e => cmpR e | none => none
section
variable {w : World} {base : Heap} {h₀ : Heap} {fa ca L : Addr} {mg mb : Str → Option Value} {news : List (Addr × Obj)} {mean : ExcName → Option Value}
set_option maxHeartbeats 1000000 in
theorem lw_8i {s : Shared} {m : Str → Option Value} {Q : Value → Shared → Prop}
    (B' : Below callerA base [] h₀) (F' : Fr h₀ L s.heap m) (X' : (KT w.params).In h₀) (N' : News h₀ L s.heap news) (T' : Top qv (looseW qv loose0) mean mg mb h₀)
    (e : _) (he : (match lw8C with | some c => itrE0 c | none => none) = some e)
    (hq : ∀ h' tk' r t u v, IsRange h' r 1 11 1 t u v → Fr h₀ L h' m → News h₀ L h' news → Q (.ref r) { s with heap := h', toks := tk' }) :
    wpAny (model pg w) (cA (lwEnv fa ca L)) (eval e (lwEnv fa ca L)) Q No s := by
  have hfill : (PySem.Challenge.rw_re0100_02, KT) = (PySem.Challenge.rw_re0100_02, KT) := by k_fill; rfl
  clear hfill
  w_on
  cases he
  k_steps
  exact hq _ _ _ _ _ _ (by assumption) (by assumption) (by assumption)
section
local macro_rules | `(tactic| walk_at "call ref") => `(tactic| refine stopW ?_)
set_option maxHeartbeats 1000000 in
theorem lw_8e {s : Shared} {m : Str → Option Value} {Q : Value → Shared → Prop} {wl : List Nat} {t1 : Tok} {or : Obj} {k : Nat} {tk : Tok} {I C D : Addr} {oI oC : Obj} {ys : List Value} {m₂ : Str → Option Value}
    (B' : Below callerA base [] h₀) (F' : Fr h₀ L s.heap m) (X' : (KT w.params).In h₀) (N' : News h₀ L s.heap ((L + 2, or) :: (I, oI) :: (C, oC) :: (D, LCg.lst ys) :: news)) (T' : Top qv (looseW qv loose0) mean mg mb h₀)
    (hor : or.data = .cell (some (.str ⟨wl.toArray⟩ t1))) (hl : (⟨wl.toArray⟩ : Str).length ≤ 200) (hkl : k ≤ wl.length)
    (hC : LCg.NsObj oC m₂) (hk : m₂ (Str.ofString "size") = some (.int (k : Int) tk))
    (e sc : _) (he : (match lw8C with | some c => eltE c | none => none) = some e) (hsc : (match lw8C with | some c => scE c | none => none) = some sc)
    (hq : ∀ h' tk' t, Fr h₀ L h' m → News h₀ L h' ((L + 2, or) :: (I, oI) :: (C, oC) :: (D, LCg.lst ys) :: news) → Q (.int (leastP (wl.take k) : Int) t) { s with heap := h', toks := tk' }) :
    wpAny (model pg w) (cA (lwEnv fa ca L)) (eval e (compEnvC sc [(Str.ofString "row", L + 2)] C (lwEnv fa ca L))) Q No s := by
  have hfill : (PySem.Challenge.rw_re0100_02, KT) = (PySem.Challenge.rw_re0100_02, KT) := by k_fill; rfl
  clear hfill
  have hlw : (⟨wl.toArray⟩ : Str).length = wl.length := List.size_toArray ..
  w_on
  cases he
  cases hsc
  k_steps
  refine Stop.out ?_
  rename Fr _ _ _ _ => F₂
  rename News _ _ _ _ => N₂
  rw [slice_pre wl hkl]
  have htl : (wl.take k).length ≤ 240 := by rw [List.length_take]; omega
  with_reducible exact le_call B' F₂ X' N₂ T' rfl rfl htl fun h2 tk2 t2 F₃ N₃ => hq h2 tk2 t2 F₃ N₃
end
set_option maxHeartbeats 1000000 in
theorem lw_8k {s : Shared} {Q : Bool → Shared → Prop} {m : Str → Option Value} {S D : Addr} {ys vs : List Value} {ns : List Int} {n nn : Nat}
    (B' : Below callerA base [] h₀) (F' : Fr h₀ L s.heap m) (X' : (KT w.params).In h₀) (N' : News h₀ L s.heap ((D, PySem.W.listOf ys.toArray n) :: (S, PySem.W.listOf vs.toArray nn) :: news)) (T' : Top qv (looseW qv loose0) mean mg mb h₀) (hI : IntsAre vs ns) (hJ : IntsAre ys ns) (hl : ns.length ≤ 250)
    (hq : ∀ h' tk', Fr h₀ L h' m → News h₀ L h' ((D, PySem.W.listOf ys.toArray n) :: (S, PySem.W.listOf vs.toArray nn) :: news) → Q false { s with heap := h', toks := tk' }) :
    wpAny (model pg w) (cA (lwEnv fa ca L)) (compareOp .NotEq (.ref S) (.ref D)) (fun c s₃ => wpAny (model pg w) (cA (lwEnv fa ca L)) (truthy c) Q No s₃) No s := by
  have hfill : (PySem.Challenge.rw_re0100_02, KT) = (PySem.Challenge.rw_re0100_02, KT) := by k_fill; rfl
  clear hfill
  w_on
  k_steps
  exact hq s.heap s.toks F' N'
theorem ints_of_getN {f : Nat → Nat} (ys : List Value) (n i0 : Nat) (h1 : ys.length = n) (h2 : ∀ (i : Nat) y, ys[i]? = some y → ∃ t, y = .int (f (i0 + i) : Int) t) : IntsAre ys (natsI ((List.range' i0 n).map f)) := by
  have := ints_of_getI (f := fun i => ((f i : Nat) : Int)) ys n i0 h1 h2
  rw [natsI, List.map_map]
  exact this
theorem lw_8 {s : Shared} {m : Str → Option Value} {Q : Flow → Shared → Prop} {wl : List Nat} {t1 : Tok} {or : Obj} {S : Addr} {vs : List Value} {nn : Nat}
    (B' : Below callerA base [] h₀) (F' : Fr h₀ L s.heap m) (hx : m (Str.ofString "seals") = some (.ref S)) (X' : (KT w.params).In h₀) (N' : News h₀ L s.heap ((S, PySem.W.listOf vs.toArray nn) :: (L + 2, or) :: news)) (T' : Top qv (looseW qv loose0) mean mg mb h₀)
    (hor : or.data = .cell (some (.str ⟨wl.toArray⟩ t1))) (hl : wl.length = 10) (hI : IntsAre vs (natsI (sealsP wl))) (hq : sealsP wl = (List.range' 1 10).map fun k => leastP (wl.take k))
    (st : Stmt) (hst : (fB (stm 11))[8]? = some st)
    (h : ∀ h' tk, Fr h₀ L h' m → News h₀ L h' ((S, PySem.W.listOf vs.toArray nn) :: (L + 2, or) :: news) → Q .next { s with heap := h', toks := tk }) :
    wpAny (model pg w) (cA (lwEnv fa ca L)) (exec st (lwEnv fa ca L)) Q No s := by
  have hlw : (⟨wl.toArray⟩ : Str).length = wl.length := List.size_toArray ..
  cases hst
  refine wpAny_If ?_
  refine wpAny_isTrue_Compare1 ?_
  refine nameX_L F' hx ?_
  refine LCg.ListComp_U (F₀ := F') (cl := [(Str.ofString "row", L + 2)]) (by with_unfolding_all rfl) (by decide) (by rfl) (by decide) (by rfl) ?_
  refine lw_8i B' F' X' N' T' _ rfl fun h₁ tk₁ r t u v hrg F₁ N₁ => ?_
  refine LCg.CompSrc.range rfl F₁ N₁ hrg (small_one (by omega) (by omega) (by omega) (by omega)) (n := 10) (by rw [rangeSize_nat]; rfl) (by decide) fun g => ?_
  refine comp_rest (fun i y => ∃ t, y = .int (leastP (wl.take (1 + i)) : Int) t) trivial ?_ ?_
  · rintro i v I oI oC CC DD zs m₂ hp tk hi ⟨tv, rfl⟩ hC hxx F N off ne
    rw [show (1 : Int) + (i : Int) = ((1 + i : Nat) : Int) by omega] at hxx
    refine lw_8e (s := { s with heap := hp, toks := tk }) (wl := wl) B' F X' (news_add N (.tail _ (.tail _ (.tail _ (.tail _ (.head _)))))) T' hor (by rw [hlw]; omega) (by omega) hC hxx _ _ rfl rfl fun h' tk' t F N => ?_
    exact ⟨h', tk', rfl, F, kst_newsOf N fun p hp => .tail _ hp, t, rfl⟩
  · intro zs hl' hz D hp tk F N o1
    have IZ := ints_of_getN (f := fun k => leastP (wl.take k)) zs 10 1 hl' hz
    rw [← hq] at IZ
    refine lw_8k (s := { s with heap := hp, toks := tk }) (ns := natsI (sealsP wl)) B' F X' N T' hI IZ (by rw [List.length_map, hq, List.length_map, List.length_range']; decide) fun h3 tk3 F3 N3 => ?_
    exact wpAny_execs_nil (h h3 tk3 F3 (kst_newsOf N3 fun p hp => .tail _ hp))
end
end Mine
end
section
set_option maxRecDepth 100000
set_option linter.unusedVariables false
set_option Elab.async false
set_option pp.maxSteps 3000
namespace Mine
open PySem PySem.W PySem.Calls PyProof.Rows
theorem sealsP_length (wl : List Nat) : (sealsP wl).length = wl.length := sealsN_length _ _
def lastS (wl : List Nat) : Nat := (sealsP wl).getD (wl.length - 1) 0
section
variable {w : World} {base : Heap} {h₀ : Heap} {fa ca L : Addr} {mg mb : Str → Option Value} {news : List (Addr × Obj)} {mean : ExcName → Option Value}
local macro_rules | `(tactic| walk_at "call ref") => `(tactic| refine stopW ?_)
set_option maxHeartbeats 1000000 in
theorem lw_10 {s : Shared} {m : Str → Option Value} {Q : Flow → Shared → Prop} {ml : List Nat} {t1 : Tok}
    (B' : Below callerA base [] h₀) (F₀ : Fr h₀ L s.heap m) (hx : m (Str.ofString "letters") = some (.str ⟨ml.toArray⟩ t1)) (X' : (KT w.params).In h₀) (N' : News h₀ L s.heap news) (T' : Top qv (looseW qv loose0) mean mg mb h₀)
    (hl : ml.length ≤ 240) (hl1 : 1 ≤ ml.length)
    (st : Stmt) (hst : (fB (stm 11))[10]? = some st)
    (h : ∀ h' tk t, Fr h₀ L h' (upd m (Str.ofString "least") (.int (lastS ml : Int) t)) → News h₀ L h' news → Q .next { s with heap := h', toks := tk }) :
    wpAny (model pg w) (cA (lwEnv fa ca L)) (exec st (lwEnv fa ca L)) Q No s := by
  have hfill : (PySem.Challenge.rw_re0100_02, KT) = (PySem.Challenge.rw_re0100_02, KT) := by k_fill; rfl
  clear hfill
  have hk := all1 hx
  have F' := fr_norm _ F₀ hk
  clear F₀
  dsimp only [kstB] at F'
  have hsl := sealsP_length ml
  have hll : (natsI (sealsP ml)).length = (sealsP ml).length := List.length_map ..
  w_on
  cases hst
  k_steps
  refine Stop.out ?_
  have F1 := fr_same hk F'
  with_reducible refine se_call B' F1 X' N' T' rfl rfl (by omega) hl1 fun S h2 tk2 vs nn F₂ N₂ _ I₂ => ?_
  clear F' F1
  k_steps
  rename Fr _ _ _ _ => F₃
  rename News _ _ _ _ => N₃
  rw [show (-1 + ((natsI (sealsP ml)).length : Int)).toNat = ml.length - 1 by omega, natsI_getD] at F₃
  exact h _ _ _ F₃ (kst_newsOf N₃ fun p hp => .tail _ hp)
set_option maxHeartbeats 1000000 in
theorem lw_11 {s : Shared} {m : Str → Option Value} {Q : Flow → Shared → Prop} {ml wl : List Nat} {t1 t2 t3 : Tok} {ls : Nat} {S : Addr} {vs : List Value} {nn : Nat} {or : Obj}
    (B' : Below callerA base [] h₀) (F₀ : Fr h₀ L s.heap m) (hx : m (Str.ofString "letters") = some (.str ⟨ml.toArray⟩ t1)) (hy : m (Str.ofString "least") = some (.int (ls : Int) t2)) (hS : m (Str.ofString "seals") = some (.ref S)) (X' : (KT w.params).In h₀) (N' : News h₀ L s.heap ((S, PySem.W.listOf vs.toArray nn) :: (L + 2, or) :: news)) (T' : Top qv (looseW qv loose0) mean mg mb h₀)
    (hor : or.data = .cell (some (.str ⟨wl.toArray⟩ t3))) (hl : ml.length ≤ 240) (hl1 : 1 ≤ ml.length) (hI : IntsAre vs (natsI (sealsP wl))) (hwl : wl.length = 10) (hok : ∀ c ∈ wl, (c, imgF c) ∈ b3s)
    (h1 : leastP ml = ls) (hp1 : 1 ≤ lastS wl) (hp2 : lastS wl ≤ wl.length) (hf1 : 1 ≤ ((wl.take (lastS wl)).flatMap imgF).length) (hf2 : ((wl.take (lastS wl)).flatMap imgF).length ≤ 240) (hls : lastS ((wl.take (lastS wl)).flatMap imgF) = ls)
    (st : Stmt) (hst : (fB (stm 11))[11]? = some st)
    (h : ∀ h' tk, Fr h₀ L h' m → Q (.ret (.bool true)) { s with heap := h', toks := tk }) :
    wpAny (model pg w) (cA (lwEnv fa ca L)) (exec st (lwEnv fa ca L)) Q No s := by
  have hfill : (PySem.Challenge.rw_re0100_02, KT) = (PySem.Challenge.rw_re0100_02, KT) := by k_fill; rfl
  clear hfill
  have hk := allC hx (allC hy (all1 hS))
  have F' := fr_norm _ F₀ hk
  clear F₀
  dsimp only [kstB] at F'
  have hsl := sealsP_length wl
  have hll : (natsI (sealsP wl)).length = (sealsP wl).length := List.length_map ..
  w_on
  cases hst
  k_steps
  refine Stop.out ?_
  have F1 := fr_same hk F'
  with_reducible refine le_call B' F1 X' N' T' rfl rfl hl fun h2 tk2 t2 F₂ N₂ => ?_
  clear F' F1
  rw [h1]
  have F₃ := fr_norm _ F₂ hk
  dsimp only [kstB] at F₃
  clear F₂
  k_steps
  refine Stop.out ?_
  rename Fr _ _ _ _ => F₄
  rename News _ _ _ _ => N₄
  rw [show (-1 + ((natsI (sealsP wl)).length : Int)).toNat = wl.length - 1 by omega, natsI_getD]
  rw [show (sealsP wl).getD (wl.length - 1) 0 = lastS wl from rfl, slice_pre wl hp2]
  have F5 := fr_same hk F₄
  have htl : (wl.take (lastS wl)).length ≤ 250 := by rw [List.length_take]; omega
  have hf3 : ((wl.take (lastS wl)).flatMap imgF).length ≤ 1000 := by omega
  with_reducible refine fo_call B' F5 X' N₄ T' rfl rfl (fun c hc => hok c (List.mem_of_mem_take hc)) htl hf3 fun h4 tk4 t4 F₆ N₆ => ?_
  clear F₄ F5
  generalize (wl.take (lastS wl)).flatMap imgF = fl at hf1 hf2 hls
  have F₇ := fr_norm _ F₆ hk
  dsimp only [kstB] at F₇
  clear F₆
  k_steps
  refine Stop.out ?_
  have F8 := fr_same hk F₇
  have hf4 : fl.length ≤ 250 := by omega
  with_reducible refine se_call B' F8 X' N₆ T' rfl rfl hf4 hf1 fun S2 h5 tk5 vs5 nn5 F₉ N₉ _ I₉ => ?_
  have hsl2 := sealsP_length fl
  have hll2 : (natsI (sealsP fl)).length = (sealsP fl).length := List.length_map ..
  clear F₇ F8
  have F10 := fr_norm _ F₉ hk
  dsimp only [kstB] at F10
  clear F₉
  k_steps
  · rename Fr _ _ _ _ => F11
    have e : decide ((natsI (sealsP fl)).getD (-1 + ((natsI (sealsP fl)).length : Int)).toNat 0 = (ls : Int)) = true := by
      rw [show (-1 + ((natsI (sealsP fl)).length : Int)).toNat = fl.length - 1 by omega, natsI_getD, show (sealsP fl).getD (fl.length - 1) 0 = lastS fl from rfl, hls]
      simp
    have q : ∀ (b : Bool), b = true → ∀ h' tk, Fr h₀ L h' m → Q (.ret (.bool b)) { s with heap := h', toks := tk } := fun b e => e ▸ h
    exact q _ (by first | exact e | simpa using e) _ _ (fr_same hk F11)
  · exact absurd rfl (by assumption)
end
end Mine
end
section
set_option maxRecDepth 100000
set_option linter.unusedVariables false
set_option Elab.async false
namespace Mine
open PySem PySem.W PySem.Calls PyProof.Rows
section
variable {prog : Program} {w : World} {A : Around} {E : Value → Shared → Prop} {s : Shared} {env : Env}
theorem newEnv_cell {scope : Scope} {cl : List (Str × Addr)} {n : Str} {Q : Env → Shared → Prop} (hcf : ∀ k acc, cellsFrom k scope.names acc = (n, k) :: acc) (hpc : ∀ h, pushCells h scope.names = h.push { cls := .type "cell", data := .cell none })
    (h : ∀ h' : Heap, h'.Ns s.heap.objs.size (fun _ => none) → h'.get? (s.heap.objs.size + 1) = some { cls := .type "cell", data := .cell none } → (∀ b o, s.heap.get? b = some o → h'.get? b = some o) → h'.objs.size = s.heap.objs.size + 2 →
      Q { scope, locals := s.heap.objs.size, globals := env.globals, cells := (n, s.heap.objs.size + 1) :: cl, qual := env.qual, func := none, code := env.code, frame := env.frame, builtins := env.builtins } { s with heap := h' }) :
    wpAny (model prog w) A (newFunctionEnv scope env.globals cl [] env.qual none .none (some env)) Q E s := by
  simp only [newFunctionEnv, Option.isSome_some, if_true]
  refine wpAny_bind (wpAny_alloc ?_)
  refine wpAny_bind (wpAny_layCells _ (fun name kind cells => by cases hkc : kind == NameKind.cell <;> simp [hkc]) _ _ _ _ ?_)
  rw [hcf, hpc]
  rw [show ({ s with heap := s.heap.push { cls := .type "dict", data := .dict #[] } } : Shared).heap.objs.size = s.heap.objs.size + 1 from Heap.size_push ..]
  refine wpAny_bind ?_
  rw [List.forIn_nil]
  refine wpAny_pure (wpAny_pure ?_)
  refine h _ ((Heap.Ns.new s.heap (.type "dict")).keeps fun b o e => Heap.get?_push_of_some _ e) ?_ (fun b o e => Heap.get?_push_of_some _ (Heap.get?_push_of_some _ e)) ?_
  · have e : s.heap.objs.size + 1 = (s.heap.push { cls := .type "dict", data := .dict #[] }).objs.size := (Heap.size_push ..).symm
    rw [e]
    exact Heap.get?_push_size _ rfl
  · rw [Heap.size_push, Heap.size_push]
end
end Mine
end
section
set_option maxRecDepth 100000
set_option linter.unusedVariables false
set_option Elab.async false
namespace Mine
open PySem PySem.W PySem.Calls PyProof.Rows
section
variable {prog : Program} {w : World} {A : Around} {h₀ : Heap} {L : Addr} {m : Str → Option Value} {env : Env}
/-- [elt for x in range ..] whose x is a cell -/
theorem cell_block {elt iter : PySem.Expr} {x : Str} {px : Pos} {scope : Scope} {cl : List (Str × Addr)} {pos : Pos} {s₂ : Shared} {I : Addr} {n : Nat} {a : Int} {news : List (Addr × Obj)}
    {RR : Value → Addr → Result → Shared → Prop} (R : Nat → Value → Prop)
    (hcf : ∀ k acc, cellsFrom k scope.names acc = (x, k) :: acc) (hpc : ∀ h, pushCells h scope.names = h.push { cls := .type "cell", data := .cell none })
    (hkx : ∀ C K, (compEnvC scope ((x, K) :: cl) C env).kindOf x = some .cell) (hkind : scope.kind = .function) (hh : A.handled = none)
    (hsz : n ≤ sizeLine) (hst : IsRangeIter s₂.heap I a n 1) (hI₀ : h₀.get? I = none) (hIL : I ≠ L) (off : ∀ p ∈ news, p.1 ≠ I)
    (F : Fr h₀ L s₂.heap m) (N : News h₀ L s₂.heap news)
    (hel : ∀ (i : Nat) t C D K oI oC oK zs h tk, i < n → Fr h₀ L h m → News h₀ L h ((K, oK) :: (I, oI) :: (C, oC) :: (D, LCg.lst zs) :: news) → oK.data = .cell (some (.int (a + (i : Int)) t)) → (∀ p ∈ (I, oI) :: (C, oC) :: (D, LCg.lst zs) :: news, p.1 ≠ K) →
      wpAny (model prog w) A (eval elt (compEnvC scope ((x, K) :: cl) C env)) (fun y s' => ∃ h' tk', s' = { s₂ with heap := h', toks := tk' } ∧ Fr h₀ L h' m ∧ News h₀ L h' ((K, oK) :: (I, oI) :: (C, oC) :: (D, LCg.lst zs) :: news) ∧ R i y) No { s₂ with heap := h, toks := tk })
    (hRR : ∀ D C h tk m' zs, zs.length = n → (∀ (j : Nat) y, zs[j]? = some y → R j y) → Fr h₀ L h m → News h₀ L h ((D, LCg.lst zs) :: news) → h.Ns C m' → h₀.get? C = none → C ≠ L → C ≠ D → (∀ p ∈ news, p.1 ≠ C ∧ p.1 ≠ D) → RR (.ref D) C (.ok .next) { s₂ with heap := h, toks := tk }) :
    wpAny (model prog w) A (newList []) (fun acc s₃ => wpAny (model prog w) A (newFunctionEnv scope env.globals cl [] env.qual none .none (some env)) (fun cenv s₄ =>
      codeAny (model prog w) A (.compStart (.ListComp elt [⟨.Name x px, iter, [], 0⟩] scope pos) 0 (.ref I) acc { cenv with scope := relabel scope env }) (RR acc cenv.locals) s₄) No s₃) No s₂ := by
  refine wpAny_newObj_type (newEnv_cell hcf hpc fun h₁ hns₁ hcell₁ hkp₁ hs₁ => ?_)
  dsimp only at hns₁ hcell₁ hkp₁ hs₁ ⊢
  generalize hH2 : s₂.heap.push { cls := .type "list", dict := none, data := .seq ([] : List Value).toArray } = H2 at hns₁ hcell₁ hkp₁ hs₁ ⊢
  have hC : H2.objs.size = s₂.heap.objs.size + 1 := by rw [← hH2, Heap.size_push]
  have hCD : H2.objs.size ≠ s₂.heap.objs.size := by rw [hC]; exact Nat.ne_of_gt (Nat.lt_succ_self _)
  have hKC : H2.objs.size + 1 ≠ H2.objs.size := Nat.ne_of_gt (Nat.lt_succ_self _)
  have hKD : H2.objs.size + 1 ≠ s₂.heap.objs.size := by rw [hC]; exact Nat.ne_of_gt (Nat.lt_succ_of_lt (Nat.lt_succ_self _))
  have low : ∀ q, q < s₂.heap.objs.size → q ≠ H2.objs.size ∧ q ≠ s₂.heap.objs.size ∧ q ≠ H2.objs.size + 1 := fun q hq => ⟨by rw [hC]; exact Nat.ne_of_lt (Nat.lt_succ_of_lt hq), Nat.ne_of_lt hq, by rw [hC]; exact Nat.ne_of_lt (Nat.lt_succ_of_lt (Nat.lt_succ_of_lt hq))⟩
  have up : ∀ q o, s₂.heap.get? q = some o → h₁.get? q = some o := fun q o e => hkp₁ q o (hH2 ▸ Heap.get?_push_of_some _ e)
  have hacc : h₁.get? s₂.heap.objs.size = some (LCg.lst []) := hkp₁ _ _ (hH2 ▸ Heap.get?_push_size _ rfl)
  have hD₀ : h₀.get? s₂.heap.objs.size = none := ktu_new F (Nat.le_refl _)
  have hC₀ : h₀.get? H2.objs.size = none := ktu_new F (by rw [hC]; exact Nat.le_succ _)
  have hK₀ : h₀.get? (H2.objs.size + 1) = none := ktu_new F (by rw [hC]; exact Nat.le_add_right _ 2)
  have hLlt : L < s₂.heap.objs.size := F.ns.lt
  have hCL : H2.objs.size ≠ L := (low L hLlt).1.symm
  have hDL : s₂.heap.objs.size ≠ L := (low L hLlt).2.1.symm
  have hKL : H2.objs.size + 1 ≠ L := (low L hLlt).2.2.symm
  have hIlt : I < s₂.heap.objs.size := Heap.lt_size hst
  have hoff : ∀ p ∈ news, p.1 ≠ H2.objs.size ∧ p.1 ≠ s₂.heap.objs.size ∧ p.1 ≠ H2.objs.size + 1 := fun p hp => low _ (Heap.lt_size (N p hp).1)
  have W := LCg.range_walks (prog := prog) (w := w) (A := A) (I := I) hh a n
  have st₁ : IsRangeIter h₁ I (a + ((0 : Nat) : Int) * 1) ((n : Int) - ((0 : Nat) : Int)) 1 := by
    have e1 : a + ((0 : Nat) : Int) * 1 = a := by omega
    have e2 : (n : Int) - ((0 : Nat) : Int) = n := by omega
    rw [e1, e2]
    exact up _ _ hst
  have loop : ∀ s₃ : Shared, s₃ = { s₂ with heap := h₁ } →
      codeAny (model prog w) A (.compLoop (.ListComp elt [⟨.Name x px, iter, [], 0⟩] scope pos) 0 (.ref I) (.ref s₂.heap.objs.size) (compEnvC scope ((x, H2.objs.size + 1) :: cl) H2.objs.size env))
        (RR (.ref s₂.heap.objs.size) H2.objs.size) s₃ := by
    rintro s₃ rfl
    refine codeAny_compLoop_tests
      (fun k s' => ∃ h' tk i zs m' oK cK, s' = { s₂ with heap := h', toks := tk } ∧ i ≤ n ∧ k = n + 1 - i ∧ zs.length = i ∧ (∀ (j : Nat) y, zs[j]? = some y → R j y) ∧ IsRangeIter h' I (a + (i : Nat) * 1) ((n : Int) - (i : Nat)) 1 ∧ Fr h₀ L h' m ∧ h'.Ns H2.objs.size m' ∧ News h₀ L h' ((H2.objs.size + 1, oK) :: (s₂.heap.objs.size, LCg.lst zs) :: news) ∧ oK.data = .cell cK) ?_ (n + 1)
      ⟨h₁, s₂.toks, 0, [], _, { cls := .type "cell", data := .cell none }, none, rfl, Nat.zero_le _, rfl, rfl, (fun j y hy => by simp at hy), st₁, F.keeps up, hns₁, fun p hp => ?_, rfl⟩
    · rintro k s' ⟨h', tk, i, zs, m', oK, cK, rfl, hi, rfl, hzl, hzR, hst', F', hn', N', hoK⟩
      by_cases hlt : i < n
      · refine W.item i _ _ _ hlt hst' fun v h₂ tk₂ hP hst₂ hk₂ => ?_
        obtain ⟨t, rfl⟩ := hP
        have hIK : H2.objs.size + 1 ≠ I := (low I hIlt).2.2.symm
        have hIC : H2.objs.size ≠ I := (low I hIlt).1.symm
        have hID : s₂.heap.objs.size ≠ I := (low I hIlt).2.1.symm
        have k2 : ∀ q o, q ≠ I → h'.get? q = some o → h₂.get? q = some o := fun q o hq e => hk₂ q o (by simpa using hq) e
        have cell₂ : h₂.IsCell (H2.objs.size + 1) cK := ⟨oK, k2 _ _ hIK (N' _ (.head _)).1, hoK⟩
        refine wpAny_assign_Name (wpAny_storeName_cell (by simpa [compEnvC, relabel] using hkind) (hkx _ _) (by simp [compEnvC]) cell₂ fun h₃ hc₃ hs₃ => ?_)
        obtain ⟨oK₃, heK, hdK⟩ := hc₃
        have k3 : ∀ q o, q ≠ I → q ≠ H2.objs.size + 1 → h'.get? q = some o → h₃.get? q = some o := fun q o h1 h2 e => hs₃.extBut q o h2 (k2 q o h1 e)
        have st₃ : IsRangeIter h₃ I (a + ((i + 1 : Nat) : Int) * 1) ((n : Int) - ((i + 1 : Nat) : Int)) 1 := hs₃.extBut I _ (low I hIlt).2.2 hst₂
        obtain ⟨oI, heI, hIkeep⟩ : ∃ oI : Obj, h₃.get? I = some oI ∧ ∀ h : Heap, h.get? I = some oI → IsRangeIter h I (a + ((i + 1 : Nat) : Int) * 1) ((n : Int) - ((i + 1 : Nat) : Int)) 1 := ⟨_, st₃, fun _ e => e⟩
        obtain ⟨oC, heC, hoC⟩ := LCg.ns_obj ((hn'.at' fun o e => k3 _ o hIC hKC.symm e) : h₃.Ns H2.objs.size m')
        have F₃ : Fr h₀ L h₃ m := ⟨F'.ns.at' fun o e => k3 _ o hIL.symm hKL.symm e, fun q o e => k3 q o (fun hq => by rw [hq, hI₀] at e; cases e) (fun hq => by rw [hq, hK₀] at e; cases e) (F'.keep q o e), F'.above⟩
        have N₃ : News h₀ L h₃ ((H2.objs.size + 1, oK₃) :: (I, oI) :: (H2.objs.size, oC) :: (s₂.heap.objs.size, LCg.lst zs) :: news) := fun p hp => by
          rcases List.mem_cons.mp hp with rfl | hp
          · exact ⟨heK, hKL, hK₀⟩
          rcases List.mem_cons.mp hp with rfl | hp
          · exact ⟨heI, hIL, hI₀⟩
          rcases List.mem_cons.mp hp with rfl | hp
          · exact ⟨heC, hCL, hC₀⟩
          rcases List.mem_cons.mp hp with rfl | hp
          · exact ⟨k3 _ _ hID hKD.symm (N' _ (.tail _ (.head _))).1, hDL, hD₀⟩
          · exact ⟨k3 _ _ (off p hp) (hoff p hp).2.2 (N' p (.tail _ (.tail _ hp))).1, (N' p (.tail _ (.tail _ hp))).2⟩
        refine wpAny_tests_nil ?_
        refine wpAny_mono (hel i t _ _ _ oI oC oK₃ zs h₃ tk₂ hlt F₃ N₃ hdK ?_) (fun y s₅ h₅ => ?_) fun _ _ e => e.elim
        · intro p hp
          rcases List.mem_cons.mp hp with rfl | hp
          · exact hIK.symm
          rcases List.mem_cons.mp hp with rfl | hp
          · exact hKC.symm
          rcases List.mem_cons.mp hp with rfl | hp
          · exact hKD.symm
          · exact (hoff p hp).2.2
        · obtain ⟨h₅, tk₅, rfl, F₅, N₅, hy⟩ := h₅
          refine append_at (hsz := by show zs.toArray.size ≤ sizeLine; rw [List.size_toArray]; omega) (N₅ (s₂.heap.objs.size, LCg.lst zs) (.tail _ (.tail _ (.tail _ (.head _))))).1 fun h₇ hs₇ hD₇ => ?_
          refine ⟨n + 1 - (i + 1), by omega, h₇, _, i + 1, zs ++ [y], _, oK₃, _, rfl, hlt, rfl, by rw [List.length_append, List.length_singleton, hzl], ?_, hs₇.extBut I _ hID.symm (hIkeep _ (N₅ _ (.tail _ (.head _))).1), F₅.change hs₇ hDL hD₀, (hoC.ns (N₅ _ (.tail _ (.tail _ (.head _)))).1).sameBut hs₇ hCD, fun p hp => ?_, hdK⟩
          · intro j z hz
            by_cases hj : j < zs.length
            · rw [List.getElem?_append_left hj] at hz
              exact hzR j z hz
            · rw [List.getElem?_append_right (by omega)] at hz
              have e0 : j - zs.length = 0 := by
                cases hq : j - zs.length with
                | zero => rfl
                | succ q => rw [hq] at hz; simp at hz
              rw [e0] at hz
              simp at hz
              subst hz
              rw [show j = i by omega]
              exact hy
          · rcases List.mem_cons.mp hp with rfl | hp
            · exact ⟨hs₇.extBut _ _ hKD (N₅ _ (.head _)).1, hKL, hK₀⟩
            rcases List.mem_cons.mp hp with rfl | hp
            · exact ⟨hD₇.trans (congrArg some (LCg.lst_snoc zs y)), hDL, hD₀⟩
            · exact ⟨hs₇.extBut _ _ (hoff p hp).2.1 (N₅ p (.tail _ (.tail _ (.tail _ (.tail _ hp))))).1, (N' p (.tail _ (.tail _ hp))).2⟩
      · obtain rfl : i = n := Nat.le_antisymm hi (Nat.not_lt.mp hlt)
        refine W.done _ _ _ hst' fun h₂ tk₂ hk₂ => ?_
        have k2 : ∀ q o, q ≠ I → h'.get? q = some o → h₂.get? q = some o := fun q o hq e => hk₂ q o (by simpa using hq) e
        refine hRR _ _ h₂ tk₂ _ zs hzl hzR ⟨F'.ns.at' fun o e => k2 _ o hIL.symm e, fun q o e => k2 q o (fun hq => by rw [hq, hI₀] at e; cases e) (F'.keep q o e), F'.above⟩ (fun p hp => ?_) (hn'.at' fun o e => k2 _ o (low I hIlt).1.symm e) hC₀ hCL hCD fun p hp => ⟨(hoff p hp).1, (hoff p hp).2.1⟩
        rcases List.mem_cons.mp hp with rfl | hp
        · exact ⟨k2 _ _ (low I hIlt).2.1.symm (N' _ (.tail _ (.head _))).1, hDL, hD₀⟩
        · exact ⟨k2 _ _ (off p hp) (N' p (.tail _ (.tail _ hp))).1, (N' p (.tail _ (.tail _ hp))).2⟩
    · rcases List.mem_cons.mp hp with rfl | hp
      · exact ⟨hcell₁, hKL, hK₀⟩
      rcases List.mem_cons.mp hp with rfl | hp
      · exact ⟨hacc, hDL, hD₀⟩
      · exact ⟨up _ _ (N p hp).1, (N p hp).2⟩
  exact codeAny_compStart_list (loop _ rfl) (W.self 0 _ _ _ st₁ (loop _ rfl))
end
end Mine
end
section
set_option maxRecDepth 100000
set_option linter.unusedVariables false
set_option Elab.async false
namespace Mine
open PySem PySem.W PySem.Calls PyProof.Rows
section
variable {prog : Program} {w : World} {A : Around} {h₀ : Heap} {L : Addr} {m : Str → Option Value} {env : Env}
theorem comp_cell {s : Shared} {elt iter : PySem.Expr} {x : Str} {px : Pos} {scope : Scope} {cl : List (Str × Addr)} {pos : Pos} {Q : Value → Shared → Prop} (R : Nat → Value → Prop)
    (hclos : closureFor scope env = pure cl) (hkind : scope.kind = .function)
    (hnames : ∀ y ∈ scope.names, y.2 = .local → scope.names.lookup y.1 = some .local)
    (hcf : ∀ k acc, cellsFrom k scope.names acc = (x, k) :: acc) (hpc : ∀ h, pushCells h scope.names = h.push { cls := .type "cell", data := .cell none })
    (hkx : ∀ C K, (compEnvC scope ((x, K) :: cl) C env).kindOf x = some .cell) (hh : A.handled = none)
    (h : wpAny (model prog w) A (eval iter env) (fun xv s₁ => ∃ (r : Addr) (a b : Int) (n : Nat) (t u v : Tok) (news : List (Addr × Obj)), xv = .ref r ∧ IsRange s₁.heap r a b 1 t u v ∧ Builtin.Range.small a b 1 = true ∧ Builtin.Range.rangeSize a b 1 = (n : Int) ∧ Fr h₀ L s₁.heap m ∧ News h₀ L s₁.heap news ∧ n ≤ sizeLine ∧
      (∀ (i : Nat) t C D K I oI oC oK zs h tk, i < n → Fr h₀ L h m → News h₀ L h ((K, oK) :: (I, oI) :: (C, oC) :: (D, LCg.lst zs) :: news) → oK.data = .cell (some (.int (a + (i : Int)) t)) → (∀ p ∈ (I, oI) :: (C, oC) :: (D, LCg.lst zs) :: news, p.1 ≠ K) →
        wpAny (model prog w) A (eval elt (compEnvC scope ((x, K) :: cl) C env)) (fun y s' => ∃ h' tk', s' = { s₁ with heap := h', toks := tk' } ∧ Fr h₀ L h' m ∧ News h₀ L h' ((K, oK) :: (I, oI) :: (C, oC) :: (D, LCg.lst zs) :: news) ∧ R i y) No { s₁ with heap := h, toks := tk }) ∧
      (∀ D h tk zs, zs.length = n → (∀ (j : Nat) y, zs[j]? = some y → R j y) → Fr h₀ L h m → News h₀ L h ((D, LCg.lst zs) :: news) → (∀ p ∈ news, p.1 ≠ D) → Q (.ref D) { s₁ with heap := h, toks := tk })) No s)
    (hs : ∀ x, foldedSetIterable iter env x = pure x := by intro _; rfl) :
    wpAny (model prog w) A (eval (.ListComp elt [⟨.Name x px, iter, [], 0⟩] scope pos) env) Q No s := by
  rw [eval_ListComp]
  refine wpAny_comprehension_free (use := none) rfl hs hclos hkind hnames (wpAny_mono h (fun xv s₁ h₁ => ?_) fun _ _ e => e)
  obtain ⟨r, a, b, n, t, u, v, news, rfl, hr, hsm, hn, F, N, hsz, hel, fin⟩ := h₁
  refine wpAny_pyIter_range hr hsm ?_
  refine cell_block (a := a) (n := n) (news := news) R hcf hpc hkx hkind hh hsz (by show IsRangeIter _ _ _ _ _; rw [hn]; exact Heap.get?_push_size _ rfl) (next_is_new F) (Nat.ne_of_gt F.ns.lt) (fun p hp => Nat.ne_of_lt (Heap.lt_size (N p hp).1))
    (F.keeps fun _ _ e => Heap.get?_push_of_some _ e) (N.grown fun _ _ e => Heap.get?_push_of_some _ e) (fun i t C D K oI oC oK zs h tk => hel i t C D K _ oI oC oK zs h tk) ?_
  intro D C h tk m' zs hzl hzR F' N' hn hC₀ hCL hCD off
  refine ⟨m', hn, fun h'' hs'' => ?_⟩
  refine fin D h'' tk zs hzl hzR (F'.change hs'' hCL hC₀) (fun p hp => ⟨hs''.extBut _ _ ?_ (N' p hp).1, (N' p hp).2⟩) fun p hp => (off p hp).2
  rcases List.mem_cons.mp hp with rfl | hp
  · exact Ne.symm hCD
  · exact (off p hp).1
end
end Mine
end
section
set_option maxRecDepth 100000
set_option linter.unusedVariables false
set_option Elab.async false
set_option pp.maxSteps 3000
namespace Mine
open PySem PySem.W PySem.Calls PyProof.Rows
def lw9C : Option PySem.Expr := match (match (fB (stm 11))[9]? with | some s => ifT s | none => none) with | some e => cmpR e | none => none
def lw9M : Option PySem.Expr := match lw9C with | some c => eltE c | none => none
def lw9I : Option PySem.Expr := match lw9M with | some c => argE c | none => none
abbrev c1Env (sc : Scope) (K C fa ca L : Addr) : Env := compEnvC sc [(Str.ofString "n", K), (Str.ofString "row", L + 2)] C (lwEnv fa ca L)
theorem slice_end (wl : List Nat) {n k : Nat} (h : k ≤ n) (h2 : n ≤ wl.length) : Txt.slice ⟨wl.toArray⟩ (some ((n : Int) - (k : Int))) (some (n : Int)) = ⟨((wl.drop (n - k)).take k).toArray⟩ := by
  show StrLaws.sliceText _ _ _ = _
  have hl : (⟨wl.toArray⟩ : Str).cps.toList.length = wl.length := by simp
  rw [StrLaws.sliceText_plain ⟨by omega, by omega, by rw [hl]; omega⟩, show ((n : Int) - ((n : Int) - (k : Int))).toNat = k by omega, show ((n : Int) - (k : Int)).toNat = n - k by omega]
section
variable {w : World} {base : Heap} {h₀ : Heap} {fa ca L : Addr} {mg mb : Str → Option Value} {news : List (Addr × Obj)} {mean : ExcName → Option Value}
set_option maxHeartbeats 1000000 in
theorem lw_9i {s : Shared} {m : Str → Option Value} {Q : Value → Shared → Prop} {n : Nat} {tn : Tok} {K C : Addr} {oK : Obj}
    (B' : Below callerA base [] h₀) (F' : Fr h₀ L s.heap m) (X' : (KT w.params).In h₀) (N' : News h₀ L s.heap ((K, oK) :: news)) (T' : Top qv (looseW qv loose0) mean mg mb h₀)
    (hK : oK.data = .cell (some (.int (n : Int) tn))) (hn : n ≤ 10)
    (e sc : _) (he : (match lw9I with | some c => itrE c | none => none) = some e) (hsc : (match lw9C with | some c => scE c | none => none) = some sc)
    (hq : ∀ h' tk' r t u v, IsRange h' r 0 n 1 t u v → Fr h₀ L h' m → News h₀ L h' ((K, oK) :: news) → Q (.ref r) { s with heap := h', toks := tk' }) :
    wpAny (model pg w) (cA (lwEnv fa ca L)) (eval e (c1Env sc K C fa ca L)) Q No s := by
  have hfill : (PySem.Challenge.rw_re0100_02, KT) = (PySem.Challenge.rw_re0100_02, KT) := by k_fill; rfl
  clear hfill
  w_on
  cases he
  cases hsc
  k_steps
  exact hq _ _ _ _ _ _ (by assumption) (by assumption) (by assumption)
set_option maxHeartbeats 1000000 in
theorem lw_9t {s : Shared} {m : Str → Option Value} {Q : Bool → Shared → Prop} {n k : Nat} {wl : List Nat} {t1 tn tk : Tok} {K C C2 I D : Addr} {oK or oI oC : Obj} {ys : List Value} {m₂ : Str → Option Value}
    (B' : Below callerA base [] h₀) (F' : Fr h₀ L s.heap m) (X' : (KT w.params).In h₀) (N' : News h₀ L s.heap ((L + 2, or) :: (K, oK) :: (I, oI) :: (C2, oC) :: (D, LCg.lst ys) :: news)) (T' : Top qv (looseW qv loose0) mean mg mb h₀)
    (hor : or.data = .cell (some (.str ⟨wl.toArray⟩ t1))) (hK : oK.data = .cell (some (.int (n : Int) tn))) (hn : n ≤ (⟨wl.toArray⟩ : Str).length) (hl : (⟨wl.toArray⟩ : Str).length ≤ 200) (hkn : k < n)
    (hC : LCg.NsObj oC m₂) (hk : m₂ (Str.ofString "k") = some (.int (k : Int) tk))
    (e sc sc2 : _) (he : (match lw9I with | some c => tstE c | none => none) = some e) (hsc : (match lw9C with | some c => scE c | none => none) = some sc) (hsc2 : (match lw9I with | some c => scE c | none => none) = some sc2)
    (hq : ∀ h' tk', Fr h₀ L h' m → News h₀ L h' ((L + 2, or) :: (K, oK) :: (I, oI) :: (C2, oC) :: (D, LCg.lst ys) :: news) → Q (decide (wl.take k = (wl.drop (n - k)).take k)) { s with heap := h', toks := tk' }) :
    wpAny (model pg w) (cA (lwEnv fa ca L)) (PySem.isTrue e (compEnvC sc2 [(Str.ofString "row", L + 2), (Str.ofString "n", K)] C2 (c1Env sc K C fa ca L)) (eval e (compEnvC sc2 [(Str.ofString "row", L + 2), (Str.ofString "n", K)] C2 (c1Env sc K C fa ca L)))) Q No s := by
  have hfill : (PySem.Challenge.rw_re0100_02, KT) = (PySem.Challenge.rw_re0100_02, KT) := by k_fill; rfl
  clear hfill
  w_on
  cases he
  cases hsc
  cases hsc2
  k_steps
  have hlw : (⟨wl.toArray⟩ : Str).length = wl.length := List.size_toArray ..
  rw [slice_pre wl (by omega), slice_end wl (by omega) (by omega), str_eq]
  exact hq _ _ (by assumption) (by assumption)
end
end Mine
end
section
set_option maxRecDepth 100000
set_option linter.unusedVariables false
set_option Elab.async false
set_option pp.maxSteps 3000
namespace Mine
open PySem PySem.W PySem.Calls PyProof.Rows
def bordL (wl : List Nat) (n : Nat) : List Nat := (List.range n).filter fun k => decide (wl.take k = (wl.drop (n - k)).take k)
section
variable {w : World} {base : Heap} {h₀ : Heap} {fa ca L : Addr} {mg mb : Str → Option Value} {news : List (Addr × Obj)} {mean : ExcName → Option Value}
set_option maxHeartbeats 1000000 in
theorem lw_9k {s : Shared} {m : Str → Option Value} {Q : Value → Shared → Prop} {k : Nat} {tk : Tok} {K C C2 I D : Addr} {oI oC : Obj} {ys : List Value} {m₂ : Str → Option Value}
    (B' : Below callerA base [] h₀) (F' : Fr h₀ L s.heap m) (X' : (KT w.params).In h₀) (N' : News h₀ L s.heap ((I, oI) :: (C2, oC) :: (D, LCg.lst ys) :: news)) (T' : Top qv (looseW qv loose0) mean mg mb h₀)
    (hC : LCg.NsObj oC m₂) (hk : m₂ (Str.ofString "k") = some (.int (k : Int) tk))
    (e sc sc2 : _) (he : (match lw9I with | some c => eltE c | none => none) = some e) (hsc : (match lw9C with | some c => scE c | none => none) = some sc) (hsc2 : (match lw9I with | some c => scE c | none => none) = some sc2)
    (hq : ∀ tk' t, Q (.int (k : Int) t) { s with toks := tk' }) :
    wpAny (model pg w) (cA (lwEnv fa ca L)) (eval e (compEnvC sc2 [(Str.ofString "row", L + 2), (Str.ofString "n", K)] C2 (c1Env sc K C fa ca L))) Q No s := by
  have hfill : (PySem.Challenge.rw_re0100_02, KT) = (PySem.Challenge.rw_re0100_02, KT) := by k_fill; rfl
  clear hfill
  w_on
  cases he
  cases hsc
  cases hsc2
  k_steps
  exact hq _ _
set_option maxHeartbeats 1000000 in
theorem lw_9c {s : Shared} {m : Str → Option Value} {Q : Value → Shared → Prop} {n : Nat} {wl : List Nat} {t1 tn : Tok} {K C : Addr} {oK or : Obj}
    (B' : Below callerA base [] h₀) (F' : Fr h₀ L s.heap m) (X' : (KT w.params).In h₀) (N' : News h₀ L s.heap ((K, oK) :: news)) (hm : (L + 2, or) ∈ news) (T' : Top qv (looseW qv loose0) mean mg mb h₀)
    (hor : or.data = .cell (some (.str ⟨wl.toArray⟩ t1))) (hK : oK.data = .cell (some (.int (n : Int) tn))) (hn : n ≤ wl.length) (hl : wl.length ≤ 10)
    (e sc : _) (he : lw9I = some e) (hsc : (match lw9C with | some c => scE c | none => none) = some sc)
    (hq : ∀ D h' tk' ys, Fr h₀ L h' m → News h₀ L h' ((D, LCg.lst ys) :: (K, oK) :: news) → IntsAre ys (natsI (bordL wl n)) → Q (.ref D) { s with heap := h', toks := tk' }) :
    wpAny (model pg w) (cA (lwEnv fa ca L)) (eval e (c1Env sc K C fa ca L)) Q No s := by
  have hlw : (⟨wl.toArray⟩ : Str).length = wl.length := List.size_toArray ..
  cases he
  cases hsc
  refine LCt.ListComp_T (F₀ := F') (cl := [(Str.ofString "row", L + 2), (Str.ofString "n", K)]) (by with_unfolding_all rfl) (by decide) (by rfl) (by decide) (by rfl) ?_
  refine lw_9i B' F' X' N' T' hK (by omega) _ _ rfl rfl fun h₁ tk₁ r t u v hrg F₁ N₁ => ?_
  refine LCt.CompSrcT.range rfl F₁ N₁ hrg (small_one (by omega) (by omega) (by omega) (by omega)) (n := n) (by rw [rangeSize_nat]; omega) (by show n ≤ 16777216; omega) fun g => ?_
  refine comp_restT (fun k => decide (wl.take k = (wl.drop (n - k)).take k)) (fun i y => ∃ t, y = .int (i : Int) t) trivial ?_ ?_ ?_
  · rintro i v I oI oC C D ys m₂ h tk hi ⟨tv, rfl⟩ hC hx F N off ne
    rw [show (0 : Int) + (i : Int) = (i : Int) by omega] at hx
    refine lw_9t (s := { s with heap := h, toks := tk }) (k := i) (n := n) (wl := wl) (news := (K, oK) :: news) B' F X' (news_add (news_add N (.tail _ (.tail _ (.tail _ (.head _))))) (.tail _ (.tail _ (.tail _ (.tail _ (.tail _ hm)))))) T' hor hK (by rw [hlw]; exact hn) (by rw [hlw]; omega) hi hC hx _ _ _ rfl rfl rfl fun h' tk' F N => ?_
    exact ⟨h', tk', rfl, F, kst_newsOf N fun p hp => .tail _ (.tail _ hp), rfl⟩
  · rintro i v I oI oC C D ys m₂ h tk hi _ ⟨tv, rfl⟩ hC hx F N off ne
    rw [show (0 : Int) + (i : Int) = (i : Int) by omega] at hx
    refine lw_9k (s := { s with heap := h, toks := tk }) B' F X' N T' hC hx _ _ _ rfl rfl rfl fun tk' t => ?_
    exact ⟨h, tk', rfl, F, N, t, rfl⟩
  · intro ys hl hy D hp tk F N o1
    refine hq D _ _ ys F N ?_
    refine ints_of_get ys _ (by rw [hl, bordL]) fun i y hi => hy i y hi
theorem bordL_zero (wl : List Nat) {n : Nat} (h : 1 ≤ n) : 0 ∈ bordL wl n := by
  unfold bordL
  rw [List.mem_filter]
  exact ⟨List.mem_range.mpr h, by simp⟩
section
local macro_rules | `(tactic| walk_at "eval ListComp") => `(tactic| refine stopW ?_)
local macro_rules | `(tactic| walk_at "call builtin:max") => `(tactic| refine stopW ?_)
set_option maxHeartbeats 1000000 in
theorem lw_9e {s : Shared} {m : Str → Option Value} {Q : Value → Shared → Prop} {n : Nat} {wl : List Nat} {t1 tn : Tok} {K C I D : Addr} {oK or oI oC : Obj} {ys : List Value}
    (B' : Below callerA base [] h₀) (F' : Fr h₀ L s.heap m) (X' : (KT w.params).In h₀) (N' : News h₀ L s.heap ((K, oK) :: (I, oI) :: (C, oC) :: (D, LCg.lst ys) :: news)) (hm : (L + 2, or) ∈ news) (T' : Top qv (looseW qv loose0) mean mg mb h₀)
    (hor : or.data = .cell (some (.str ⟨wl.toArray⟩ t1))) (hK : oK.data = .cell (some (.int (n : Int) tn))) (hn : n ≤ wl.length) (hl : wl.length ≤ 10) (hn1 : 1 ≤ n)
    (e sc : _) (he : lw9M = some e) (hsc : (match lw9C with | some c => scE c | none => none) = some sc)
    (hq : ∀ M h' tk' t, Fr h₀ L h' m → News h₀ L h' ((K, oK) :: (I, oI) :: (C, oC) :: (D, LCg.lst ys) :: news) → M ∈ bordL wl n → (∀ a ∈ bordL wl n, a ≤ M) → Q (.int (M : Int) t) { s with heap := h', toks := tk' }) :
    wpAny (model pg w) (cA (lwEnv fa ca L)) (eval e (c1Env sc K C fa ca L)) Q No s := by
  have hfill : (PySem.Challenge.rw_re0100_02, KT) = (PySem.Challenge.rw_re0100_02, KT) := by k_fill; rfl
  clear hfill
  w_on
  cases he
  cases hsc
  k_steps
  refine Stop.out ?_
  have hm2 : (L + 2, or) ∈ (I, oI) :: (C, oC) :: (D, LCg.lst ys) :: news := .tail _ (.tail _ (.tail _ hm))
  with_reducible refine lw_9c B' F' X' N' hm2 T' hor hK hn hl _ _ rfl rfl fun D2 h2 tk2 ys2 F₂ N₂ I₂ => ?_
  k_steps
  refine Stop.out ?_
  refine max_list_N rfl F₂ N₂ (N₂.isList (.head _)) I₂ (by rw [List.length_map]; exact List.length_pos_of_mem (bordL_zero wl hn1)) fun h3 M t3 tk3 F₃ N₃ hM hA => ?_
  obtain ⟨M, hM', rfl⟩ := List.mem_map.mp hM
  exact hq M h3 tk3 t3 F₃ (kst_newsOf N₃ fun p hp => .tail _ hp) hM' fun a ha => Int.ofNat_le.mp (hA _ (List.mem_map.mpr ⟨a, ha, rfl⟩))
end
end
end Mine
end
section
set_option maxRecDepth 100000
set_option linter.unusedVariables false
set_option Elab.async false
namespace Mine
/-- the first t signs stand at place k -/
def At (p : List Nat) (k t : Nat) : Prop := ∀ i, i < t → p.getD i 0 = p.getD (k + i) 0
/-- the places of the first t signs cover the first n -/
structure Cov (p : List Nat) (n t : Nat) : Prop where
  one : 1 ≤ t
  le : t ≤ n
  all : ∀ i, i < n → ∃ k, k ≤ i ∧ i < k + t ∧ k + t ≤ n ∧ At p k t
structure Lc (p : List Nat) (n t : Nat) : Prop where
  cov : Cov p n t
  min : ∀ t', Cov p n t' → t ≤ t'
theorem Lc.uniq {p : List Nat} {n a b : Nat} (ha : Lc p n a) (hb : Lc p n b) : a = b := Nat.le_antisymm (ha.min b hb.cov) (hb.min a ha.cov)
theorem cov_self {p : List Nat} {n : Nat} (h : 1 ≤ n) : Cov p n n := ⟨h, Nat.le_refl _, fun i hi => ⟨0, Nat.zero_le _, by omega, by omega, fun j hj => by rw [Nat.zero_add]⟩⟩
theorem Cov.end_ {p : List Nat} {n t : Nat} (h : Cov p n t) : At p (n - t) t := by
  have h1 := h.one
  have h2 := h.le
  obtain ⟨k, a, b, c, d⟩ := h.all (n - 1) (by omega)
  rw [show n - t = k by omega]; exact d
theorem Cov.bd {p : List Nat} {n t : Nat} (h : Cov p n t) (hl : t < n) : Bd p n t := ⟨hl, h.end_⟩
theorem Cov.cut {p : List Nat} {n t m : Nat} (h : Cov p n t) (h1 : t ≤ m) (h2 : m ≤ n) (he : At p (m - t) t) : Cov p m t := by
  refine ⟨h.one, h1, fun i hi => ?_⟩
  obtain ⟨k, a, b, c, d⟩ := h.all i (by omega)
  by_cases q : k + t ≤ m
  · exact ⟨k, a, b, q, d⟩
  · exact ⟨m - t, by omega, by omega, by omega, he⟩
theorem Cov.trans {p : List Nat} {n s t : Nat} (h : Cov p n s) (g : Cov p s t) : Cov p n t := by
  refine ⟨g.one, Nat.le_trans g.le h.le, fun i hi => ?_⟩
  obtain ⟨k, a, b, c, d⟩ := h.all i hi
  obtain ⟨k', a', b', c', d'⟩ := g.all (i - k) (by omega)
  refine ⟨k + k', by omega, by omega, by omega, fun j hj => ?_⟩
  rw [d' j hj, d (k' + j) (by omega), Nat.add_assoc]
/-- two ends of one beginning: the shorter ends the longer -/
theorem At.end_ {p : List Nat} {n s t : Nat} (hs : At p (n - s) s) (ht : At p (n - t) t) (h : t ≤ s) (hn : s ≤ n) : At p (s - t) t := by
  intro i hi
  rw [ht i hi, hs (s - t + i) (by omega)]
  congr 1
  omega
theorem Lc.cut {p : List Nat} {n t m : Nat} (h : Lc p n t) (h1 : t ≤ m) (h2 : m ≤ n) (he : At p (m - t) t) : Lc p m t := by
  refine ⟨h.cov.cut h1 h2 he, fun t' ht' => ?_⟩
  rcases Nat.lt_or_ge t' t with q | q
  · have e : At p (t - t') t' := At.end_ he ht'.end_ (Nat.le_of_lt q) h1
    exact h.min t' (h.cov.trans (ht'.cut (Nat.le_of_lt q) h1 e))
  · exact q
/-- the least seal of a seal is the least seal -/
theorem Lc.of_cov {p : List Nat} {n t m : Nat} (h : Lc p n t) (hm : Cov p n m) : Lc p m t :=
  h.cut (h.min m hm) hm.le (At.end_ hm.end_ h.cov.end_ (h.min m hm) hm.le)
theorem lc_step {p : List Nat} {N b z g : Nat} (hN : 1 ≤ N) (hb : MaxBd p N b) (h0 : b = 0 → z = N) (h1 : 0 < b → Lc p b z)
    (g1 : 0 < g → g < N ∧ Lc p g z) (g2 : ∀ j, 1 ≤ j → j < N → Lc p j z → j ≤ g) : Lc p N (if g < N - z then N else z) := by
  have hbd : ∀ t, Cov p N t → t < N → t ≤ b := fun t ht hl => hb.2 t (ht.bd hl)
  rcases Nat.eq_zero_or_pos b with hb0 | hb0
  · rw [h0 hb0, Nat.sub_self, if_neg (Nat.not_lt_zero _)]
    refine ⟨cov_self hN, fun t ht => ?_⟩
    rcases Nat.lt_or_ge t N with q | q
    · have := hbd t ht q
      have := ht.one
      omega
    · exact q
  · have hz := h1 hb0
    have hbN : b < N := hb.1.1
    have hzb := hz.cov.le
    have hz1 := hz.cov.one
    have eb : At p (N - b) b := hb.1.2
    have eb' : ∀ t, Cov p N t → t < N → At p (b - t) t := fun t ht hl => At.end_ eb ht.end_ (hbd t ht hl) (Nat.le_of_lt hbN)
    have cb : ∀ t, Cov p N t → t < N → Cov p b t := fun t ht hl => ht.cut (hbd t ht hl) (Nat.le_of_lt hbN) (eb' t ht hl)
    have ez : At p (N - z) z := by
      intro i hi
      rw [hz.cov.end_ i hi, eb (b - z + i) (by omega)]
      congr 1
      omega
    have hmin : ∀ t, Cov p N t → z ≤ t := by
      intro t ht
      rcases Nat.lt_or_ge t N with q | q
      · exact hz.min t (cb t ht q)
      · omega
    by_cases hg : g < N - z
    · rw [if_pos hg]
      refine ⟨cov_self hN, fun t ht => ?_⟩
      rcases Nat.lt_or_ge t N with q | q
      · exfalso
        have hzt := hmin t ht
        have c1 : Cov p t z := hz.cov.cut hzt (hbd t ht q) (At.end_ (eb' t ht q) hz.cov.end_ hzt (hbd t ht q))
        have c2 : Cov p N z := ht.trans c1
        have l2 : Lc p N z := ⟨c2, hmin⟩
        obtain ⟨k, a, b', c, d⟩ := c2.all (N - z - 1) (by omega)
        have l3 : Lc p (k + z) z := l2.cut (by omega) c (by rw [Nat.add_sub_cancel]; exact d)
        have := g2 (k + z) (by omega) (by omega) l3
        omega
      · exact q
    · rw [if_neg hg]
      obtain ⟨hgN, lg⟩ := g1 (by omega)
      refine ⟨⟨hz1, by omega, fun i hi => ?_⟩, hmin⟩
      by_cases q : i < g
      · obtain ⟨k, a, b', c, d⟩ := lg.cov.all i q
        exact ⟨k, a, b', by omega, d⟩
      · exact ⟨N - z, by omega, by omega, by omega, ez⟩
/-- a row of places without a gap -/
def Gaps (n sz : Nat) : List Nat → Prop
  | [] => True
  | [a] => n - a ≤ sz
  | a :: b :: r => b - a ≤ sz ∧ Gaps n sz (b :: r)
theorem gaps_cov {n sz : Nat} : ∀ (P : List Nat) (a : Nat), Gaps n sz (a :: P) → ∀ i, a ≤ i → i < n → ∃ k ∈ a :: P, k ≤ i ∧ i < k + sz
  | [], a, h, i, h1, h2 => ⟨a, .head _, h1, by have : n - a ≤ sz := h; omega⟩
  | b :: r, a, h, i, h1, h2 => by
    obtain ⟨g1, g2⟩ := h
    by_cases q : b ≤ i
    · obtain ⟨k, hk, x, y⟩ := gaps_cov r b g2 i q h2
      exact ⟨k, .tail _ hk, x, y⟩
    · exact ⟨a, .head _, h1, by omega⟩
theorem cov_gaps {n sz : Nat} (h0 : 0 < sz) : ∀ (P : List Nat) (a : Nat), (a :: P).Pairwise (· < ·) → (∀ i, a ≤ i → i < n → ∃ k ∈ a :: P, k ≤ i ∧ i < k + sz) → Gaps n sz (a :: P) ∨ ∃ k ∈ a :: P, n ≤ k
  | [], a, _, h => by
    by_cases q : n - a ≤ sz
    · exact .inl q
    · obtain ⟨k, hk, x, y⟩ := h (a + sz) (by omega) (by omega)
      have := List.mem_singleton.mp hk
      omega
  | b :: r, a, hp, h => by
    obtain ⟨p1, p2⟩ := List.pairwise_cons.mp hp
    have pb := p1 b (.head _)
    by_cases hbn : n ≤ b
    · exact .inr ⟨b, .tail _ (.head _), hbn⟩
    have p3 := (List.pairwise_cons.mp p2).1
    have q : b - a ≤ sz := by
      rcases Nat.lt_or_ge sz (b - a) with q | q
      · exfalso
        obtain ⟨k, hk, x, y⟩ := h (a + sz) (by omega) (by omega)
        rcases List.mem_cons.mp hk with rfl | hk
        · omega
        · rcases List.mem_cons.mp hk with rfl | hk
          · omega
          · have := p3 k hk; omega
      · exact q
    rcases cov_gaps h0 r b p2 (fun i h1 h2 => by
      obtain ⟨k, hk, x, y⟩ := h i (by omega) h2
      rcases List.mem_cons.mp hk with rfl | hk
      · exact ⟨b, .head _, h1, by omega⟩
      · exact ⟨k, hk, x, y⟩) with g | ⟨k, hk, x⟩
    · exact .inl ⟨q, g⟩
    · exact .inr ⟨k, .tail _ hk, x⟩
/-- places and their nexts -/
theorem gaps_iff {n sz : Nat} : ∀ (P : List Nat), Gaps n sz P ↔ ∀ i, i < P.length → (P.drop 1 ++ [n]).getD i 0 - P.getD i 0 ≤ sz
  | [] => ⟨fun _ i hi => absurd hi (Nat.not_lt_zero _), fun _ => trivial⟩
  | [a] => by
    constructor
    · intro h i hi
      obtain rfl : i = 0 := by simpa using hi
      exact h
    · intro h
      exact h 0 (by simp)
  | a :: b :: r => by
    have ih := gaps_iff (n := n) (sz := sz) (b :: r)
    constructor
    · rintro ⟨h1, h2⟩ i hi
      cases i with
      | zero => exact h1
      | succ i =>
        have := ih.mp h2 i (by simpa using hi)
        simpa using this
    · intro h
      refine ⟨h 0 (by simp), ih.mpr fun i hi => ?_⟩
      have := h (i + 1) (by simpa using hi)
      simpa using this
theorem at_iff {wl : List Nat} {k sz : Nat} (h : k + sz ≤ wl.length) : (wl.drop k).take sz = wl.take sz ↔ At wl k sz := by
  constructor
  · intro e i hi
    have := congrArg (fun l => l.getD i 0) e
    simp only [List.getD_eq_getElem?_getD, List.getElem?_take, if_pos hi, List.getElem?_drop] at this
    rw [List.getD_eq_getElem?_getD, List.getD_eq_getElem?_getD]
    exact this.symm
  · intro e
    refine List.ext_getElem (by simp; omega) fun i h1 h2 => ?_
    have hi : i < sz := by simp at h2; omega
    have := e i hi
    rw [List.getD_eq_getElem?_getD, List.getD_eq_getElem?_getD, List.getElem?_eq_getElem (by omega), List.getElem?_eq_getElem (by omega)] at this
    simp only [List.getElem_take, List.getElem_drop]
    simpa using this.symm
theorem at_take {p : List Nat} {n k t : Nat} (h : k + t ≤ n) : At (p.take n) k t ↔ At p k t := by
  have e : ∀ j, j < n → (p.take n).getD j 0 = p.getD j 0 := fun j hj => by
    rw [List.getD_eq_getElem?_getD, List.getD_eq_getElem?_getD, List.getElem?_take, if_pos hj]
  constructor
  · intro g i hi
    have := g i hi
    rwa [e _ (by omega), e _ (by omega)] at this
  · intro g i hi
    rw [e _ (by omega), e _ (by omega)]
    exact g i hi
theorem cov_take {p : List Nat} {n t : Nat} : Cov (p.take n) n t ↔ Cov p n t := by
  constructor
  · intro h
    exact ⟨h.one, h.le, fun i hi => by
      obtain ⟨k, a, b, c, d⟩ := h.all i hi
      exact ⟨k, a, b, c, (at_take c).mp d⟩⟩
  · intro h
    exact ⟨h.one, h.le, fun i hi => by
      obtain ⟨k, a, b, c, d⟩ := h.all i hi
      exact ⟨k, a, b, c, (at_take c).mpr d⟩⟩
theorem lc_take {p : List Nat} {n t : Nat} : Lc (p.take n) n t ↔ Lc p n t :=
  ⟨fun h => ⟨cov_take.mp h.cov, fun t' ht' => h.min t' (cov_take.mpr ht')⟩, fun h => ⟨cov_take.mpr h.cov, fun t' ht' => h.min t' (cov_take.mp ht')⟩⟩
/-- a row's seal folds to a seal -/
theorem cov_fold (f : Nat → List Nat) {wl : List Nat} {s : Nat} (h : Cov wl wl.length s) (h1 : 1 ≤ ((wl.take s).flatMap f).length) : Cov (wl.flatMap f) (wl.flatMap f).length ((wl.take s).flatMap f).length := by
  have hcut : ∀ k, (wl.flatMap f) = (wl.take k).flatMap f ++ (wl.drop k).flatMap f := fun k => by
    rw [← List.flatMap_append, List.take_append_drop]
  have hadd : ∀ k t, ((wl.take (k + t)).flatMap f) = (wl.take k).flatMap f ++ ((wl.drop k).take t).flatMap f := fun k t => by
    rw [← List.flatMap_append, List.take_add]
  have hmono : ∀ a b, a ≤ b → ((wl.take a).flatMap f).length ≤ ((wl.take b).flatMap f).length := fun a b hab => by
    obtain ⟨c, rfl⟩ := Nat.exists_eq_add_of_le hab
    rw [hadd, List.length_append]; omega
  have hle : ∀ k, ((wl.take k).flatMap f).length ≤ (wl.flatMap f).length := fun k => by
    rw [hcut k, List.length_append]; omega
  refine ⟨h1, hle s, fun i hi => ?_⟩
  -- the sign that place i comes from
  have hx : ∀ n, n ≤ wl.length → i < ((wl.take n).flatMap f).length → ∃ x, x < n ∧ ((wl.take x).flatMap f).length ≤ i ∧ i < ((wl.take (x + 1)).flatMap f).length := by
    intro n
    induction n with
    | zero => intro _ h; simp at h
    | succ n ih =>
      intro hn h
      by_cases q : ((wl.take n).flatMap f).length ≤ i
      · exact ⟨n, by omega, q, h⟩
      · obtain ⟨x, a, b⟩ := ih (by omega) (by omega)
        exact ⟨x, by omega, b⟩
  obtain ⟨x, x1, x2, x3⟩ := hx wl.length (Nat.le_refl _) (by rw [List.take_length]; exact hi)
  obtain ⟨k, a, b, c, d⟩ := h.all x x1
  have e := (at_iff c).mpr d
  have hK : ((wl.take (k + s)).flatMap f).length = ((wl.take k).flatMap f).length + ((wl.take s).flatMap f).length := by
    rw [hadd, List.length_append, e]
  refine ⟨((wl.take k).flatMap f).length, Nat.le_trans (hmono k x a) x2, ?_, ?_, ?_⟩
  · rw [← hK]; exact Nat.lt_of_lt_of_le x3 (hmono _ _ (by omega))
  · rw [← hK]; exact hle _
  · refine (at_iff (by rw [← hK]; exact hle _)).mp ?_
    have e1 : (wl.flatMap f).drop ((wl.take k).flatMap f).length = (wl.drop k).flatMap f := by
      conv => lhs; rw [hcut k]
      rw [List.drop_left]
    have e2 : (wl.drop k).flatMap f = (wl.take s).flatMap f ++ ((wl.drop k).drop s).flatMap f := by
      rw [← e, ← List.flatMap_append, List.take_append_drop]
    rw [e1, e2, List.take_left]
    conv => rhs; rw [hcut s]
    rw [List.take_left]
theorem flatMap_take_len (f : Nat → List Nat) (wl : List Nat) (s : Nat) : (wl.flatMap f).take ((wl.take s).flatMap f).length = (wl.take s).flatMap f := by
  have hcut : (wl.flatMap f) = (wl.take s).flatMap f ++ (wl.drop s).flatMap f := by
    rw [← List.flatMap_append, List.take_append_drop]
  rw [hcut, List.take_left]
end Mine
end
section
set_option maxRecDepth 100000
set_option linter.unusedVariables false
set_option Elab.async false
namespace Mine
theorem getL_cons (k a b : Nat) (r : List (Nat × Nat)) : getL k ((a, b) :: r) = if a = k then b else getL k r := rfl
theorem getD_snoc (l : List Nat) (c j : Nat) : (l ++ [c]).getD j 0 = if j < l.length then l.getD j 0 else if j = l.length then c else 0 := by
  rw [List.getD_eq_getElem?_getD]
  by_cases h : j < l.length
  · rw [if_pos h, List.getElem?_append_left h, List.getD_eq_getElem?_getD]
  · rw [if_neg h, List.getElem?_append_right (by omega)]
    by_cases q : j = l.length
    · rw [if_pos q, q, Nat.sub_self]; rfl
    · rw [if_neg q, List.getElem?_eq_none (by simp; omega)]; rfl
/-- the pass along the overlap table tells the least seals -/
structure SealsOk (p : List Nat) (n : Nat) (S : List Nat × List (Nat × Nat)) : Prop where
  s : ∀ j, j < n → Lc p (j + 1) (S.1.getD j 0)
  a : ∀ z, 0 < getL z S.2 → getL z S.2 ≤ n ∧ Lc p (getL z S.2) z
  b : ∀ z j, 1 ≤ j → j ≤ n → Lc p j z → j ≤ getL z S.2
theorem seals_ok {p tl : List Nat} {m : Nat} (ht : ∀ j, j < m → MaxBd p (j + 1) (tl.getD j 0)) : ∀ n, n ≤ m → SealsOk p n (sealsN tl n)
  | 0, _ => ⟨fun j h => absurd h (Nat.not_lt_zero _), fun z h => absurd h (Nat.lt_irrefl _), fun z j h1 h2 => by omega⟩
  | n + 1, hn => by
    obtain ⟨hs, ha, hb⟩ := seals_ok ht n (by omega)
    have hM := ht n (by omega)
    have hl := sealsN_length tl n
    have st := lc_step (p := p) (N := n + 1) (b := tl.getD n 0) (z := if 0 < tl.getD n 0 then (sealsN tl n).1.getD (tl.getD n 0 - 1) 0 else n + 1)
      (g := getL (if 0 < tl.getD n 0 then (sealsN tl n).1.getD (tl.getD n 0 - 1) 0 else n + 1) (sealsN tl n).2) (by omega) hM (fun h => by rw [h]; rfl) (fun h => by
        rw [if_pos h]
        have := hs (tl.getD n 0 - 1) (by have := hM.1.1; omega)
        rwa [show tl.getD n 0 - 1 + 1 = tl.getD n 0 by omega] at this) (fun h => ⟨by have := (ha _ h).1; omega, (ha _ h).2⟩) (fun j h1 h2 h3 => hb _ j h1 (by omega) h3)
    have e : sealOf tl (sealsN tl n).1 (sealsN tl n).2 (n + 1) = if getL (if 0 < tl.getD n 0 then (sealsN tl n).1.getD (tl.getD n 0 - 1) 0 else n + 1) (sealsN tl n).2 < n + 1 - (if 0 < tl.getD n 0 then (sealsN tl n).1.getD (tl.getD n 0 - 1) 0 else n + 1) then n + 1 else if 0 < tl.getD n 0 then (sealsN tl n).1.getD (tl.getD n 0 - 1) 0 else n + 1 := rfl
    rw [← e] at st
    have eN : sealsN tl (n + 1) = ((sealsN tl n).1 ++ [sealOf tl (sealsN tl n).1 (sealsN tl n).2 (n + 1)], (sealOf tl (sealsN tl n).1 (sealsN tl n).2 (n + 1), n + 1) :: (sealsN tl n).2) := rfl
    rw [eN]
    generalize sealOf tl (sealsN tl n).1 (sealsN tl n).2 (n + 1) = c at st
    refine ⟨fun j hj => ?_, fun z hz => ?_, fun z j h1 h2 h3 => ?_⟩
    · dsimp only
      rw [getD_snoc, hl]
      by_cases q : j < n
      · rw [if_pos q]; exact hs j q
      · obtain rfl : j = n := by omega
        rw [if_neg q, if_pos rfl]; exact st
    · dsimp only at hz ⊢
      rw [getL_cons] at hz ⊢
      by_cases q : c = z
      · rw [if_pos q]; exact ⟨Nat.le_refl _, q ▸ st⟩
      · rw [if_neg q] at hz ⊢
        exact ⟨by have := (ha z hz).1; omega, (ha z hz).2⟩
    · dsimp only
      rw [getL_cons]
      by_cases q : c = z
      · rw [if_pos q]; exact h2
      · rw [if_neg q]
        refine hb z j h1 ?_ h3
        rcases Nat.lt_or_ge n j with r | r
        · obtain rfl : j = n + 1 := by omega
          exact absurd (st.uniq h3) q
        · exact r
theorem sealsP_lc (wl : List Nat) (j : Nat) (h : j < wl.length) : Lc wl (j + 1) ((sealsP wl).getD j 0) :=
  (seals_ok (p := wl) (tl := ovT wl wl.length) (m := wl.length) (fun j hj => ovT_max wl wl.length j hj) wl.length (Nat.le_refl _)).s j h
theorem okSz_iff {wl : List Nat} {sz : Nat} (h0 : 1 ≤ sz) (h : sz ≤ wl.length) : okSz wl sz = true ↔ Cov wl wl.length sz := by
  have e : okSz wl sz = true ↔ Gaps wl.length sz (placesL wl sz) := by
    rw [gaps_iff]
    unfold okSz
    rw [decide_eq_true_eq, List.length_eq_zero_iff, List.filter_eq_nil_iff]
    have hl : min (placesL wl sz).length (nextL (placesL wl sz) wl.length).length = (placesL wl sz).length := by
      unfold nextL
      rw [List.length_append, List.length_drop]
      show min _ (_ + 1) = _
      omega
    rw [hl]
    constructor
    · intro g i hi
      have := g i (List.mem_range.mpr hi)
      rw [decide_eq_true_eq] at this
      show (nextL (placesL wl sz) wl.length).getD i 0 - _ ≤ _
      omega
    · intro g i hi
      rw [decide_eq_true_eq]
      have := g i (List.mem_range.mp hi)
      change (nextL (placesL wl sz) wl.length).getD i 0 - _ ≤ _ at this
      omega
  have hmem : ∀ k, k ∈ placesL wl sz ↔ k + sz ≤ wl.length ∧ At wl k sz := by
    intro k
    unfold placesL
    rw [List.mem_filter, List.mem_range, decide_eq_true_eq]
    constructor
    · rintro ⟨a, b⟩
      exact ⟨by omega, (at_iff (by omega)).mp b⟩
    · rintro ⟨a, b⟩
      exact ⟨by omega, (at_iff a).mpr b⟩
  have hp : (placesL wl sz).Pairwise (· < ·) := by
    unfold placesL
    exact List.Pairwise.filter _ List.pairwise_lt_range
  have h00 : 0 ∈ placesL wl sz := (hmem 0).mpr ⟨by omega, fun i _ => by rw [Nat.zero_add]⟩
  rw [e]
  cases hP : placesL wl sz with
  | nil => rw [hP] at h00; cases h00
  | cons a P =>
    rw [hP] at hmem hp h00
    have ha : a = 0 := by
      rcases List.mem_cons.mp h00 with q | q
      · exact q.symm
      · have := (List.pairwise_cons.mp hp).1 0 q
        omega
    subst ha
    constructor
    · intro g
      refine ⟨h0, h, fun i hi => ?_⟩
      obtain ⟨k, hk, x, y⟩ := gaps_cov P 0 g i (Nat.zero_le _) hi
      exact ⟨k, x, y, (hmem k).mp hk⟩
    · intro g
      rcases cov_gaps (n := wl.length) h0 P 0 hp (fun i _ hi => by
        obtain ⟨k, x, y, z, t⟩ := g.all i hi
        exact ⟨k, (hmem k).mpr ⟨z, t⟩, x, y⟩) with q | ⟨k, hk, q⟩
      · exact q
      · have := ((hmem k).mp hk).1
        omega
theorem leastF_lc {wl : List Nat} : ∀ (f sz : Nat), f + sz = wl.length + 1 → 1 ≤ f → 1 ≤ sz → (∀ t, Cov wl wl.length t → sz ≤ t) → Lc wl wl.length (leastF wl f sz)
  | 0, _, _, h, _, _ => by omega
  | f + 1, sz, h, _, h1, hm => by
    unfold leastF
    have hle : sz ≤ wl.length := by omega
    by_cases q : okSz wl sz = true
    · rw [if_pos q]; exact ⟨(okSz_iff h1 hle).mp q, hm⟩
    · rw [if_neg q]
      have hn : ¬ Cov wl wl.length sz := fun c => q ((okSz_iff h1 hle).mpr c)
      rcases Nat.eq_zero_or_pos f with hf | hf
      · subst hf
        obtain rfl : sz = wl.length := by omega
        exact absurd (cov_self h1) hn
      · refine leastF_lc f (sz + 1) (by omega) hf (by omega) fun t ht => ?_
        have := hm t ht
        rcases Nat.eq_or_lt_of_le this with q | q
        · exact absurd (q ▸ ht) hn
        · exact q
theorem leastP_lc {wl : List Nat} (h : 1 ≤ wl.length) : Lc wl wl.length (leastP wl) :=
  leastF_lc _ _ rfl h (Nat.le_refl _) fun t ht => ht.one
theorem seals_least (wl : List Nat) (n : Nat) (hn : wl.length = n) : sealsP wl = (List.range' 1 n).map fun k => leastP (wl.take k) := by
  refine List.ext_getElem (by rw [sealsP_length, List.length_map, List.length_range', hn]) fun j h1 h2 => ?_
  rw [sealsP_length] at h1
  rw [List.getElem_map, List.getElem_range']
  have e1 : (sealsP wl)[j]'(by rw [sealsP_length]; exact h1) = (sealsP wl).getD j 0 := by
    rw [List.getD_eq_getElem?_getD, List.getElem?_eq_getElem (by rw [sealsP_length]; exact h1)]; rfl
  rw [e1, show 1 + 1 * j = j + 1 by omega]
  have l2 : (wl.take (j + 1)).length = j + 1 := by rw [List.length_take]; omega
  have q := leastP_lc (wl := wl.take (j + 1)) (by omega)
  rw [l2] at q
  exact (sealsP_lc wl j h1).uniq (lc_take.mp q)
theorem lastS_lc {wl : List Nat} (h : 1 ≤ wl.length) : Lc wl wl.length (lastS wl) := by
  have := sealsP_lc wl (wl.length - 1) (by omega)
  rwa [show wl.length - 1 + 1 = wl.length by omega] at this
theorem least_last {wl : List Nat} (h : 1 ≤ wl.length) : leastP wl = lastS wl := (leastP_lc h).uniq (lastS_lc h)
theorem last_fold (f : Nat → List Nat) {wl : List Nat} (h : 1 ≤ wl.length) (hf : ∀ c ∈ wl, 1 ≤ (f c).length) :
    1 ≤ lastS wl ∧ lastS wl ≤ wl.length ∧ 1 ≤ ((wl.take (lastS wl)).flatMap f).length ∧ ((wl.take (lastS wl)).flatMap f).length ≤ (wl.flatMap f).length ∧ lastS ((wl.take (lastS wl)).flatMap f) = lastS (wl.flatMap f) := by
  have L := lastS_lc h
  have a1 := L.cov.one
  have a2 := L.cov.le
  have a3 : 1 ≤ ((wl.take (lastS wl)).flatMap f).length := by
    obtain ⟨c, r, e⟩ : ∃ c r, wl.take (lastS wl) = c :: r := by
      cases e : wl.take (lastS wl) with
      | nil =>
        have := congrArg List.length e
        rw [List.length_take, List.length_nil] at this
        omega
      | cons c r => exact ⟨c, r, rfl⟩
    have := hf c (List.mem_of_mem_take (e ▸ List.mem_cons_self))
    rw [e, List.flatMap_cons, List.length_append]
    omega
  have C := cov_fold f L.cov a3
  refine ⟨a1, a2, a3, C.le, ?_⟩
  have M := (lastS_lc (wl := wl.flatMap f) (Nat.le_trans a3 C.le)).of_cov C
  have K := lastS_lc a3
  rw [← flatMap_take_len f wl (lastS wl)] at K
  have l2 : ((wl.flatMap f).take ((wl.take (lastS wl)).flatMap f).length).length = ((wl.take (lastS wl)).flatMap f).length := by rw [flatMap_take_len]
  rw [l2] at K
  have := (lc_take.mp K).uniq M
  rwa [flatMap_take_len] at this
/-- the row of ten signs -/
theorem sgn_img : ∀ r, r < 6 → (sgn r, imgF (sgn r)) ∈ b3s ∧ imgF (sgn r) = mng r ∧ 1 ≤ (imgF (sgn r)).length := by
  have : (List.range 6).all (fun r => decide ((sgn r, imgF (sgn r)) ∈ b3s ∧ imgF (sgn r) = mng r ∧ 1 ≤ (imgF (sgn r)).length)) = true := by decide +kernel
  exact fun r h => of_decide_eq_true (List.all_eq_true.mp this r (List.mem_range.mpr h))
theorem typ_mem {dl : List Int} {n c : Nat} (h : c ∈ typL (remL dl) n) : (c, imgF c) ∈ b3s ∧ 1 ≤ (imgF c).length := by
  unfold typL at h
  obtain ⟨k, _, rfl⟩ := List.mem_map.mp h
  have := sgn_img _ (remL_lt dl k)
  exact ⟨this.1, this.2.2⟩
theorem typ_mea (dl : List Int) (n : Nat) : (typL (remL dl) n).flatMap imgF = meaL (remL dl) n := by
  unfold typL meaL
  rw [List.flatMap_map]
  have : (fun k => imgF (sgn (remL dl k))) = fun k => mng (remL dl k) := funext fun k => (sgn_img _ (remL_lt dl k)).2.1
  rw [this]
end Mine
end
section
set_option maxRecDepth 100000
set_option linter.unusedVariables false
set_option Elab.async false
set_option pp.maxSteps 3000
namespace Mine
open PySem PySem.W PySem.Calls PyProof.Rows
theorem bordL_iff {wl : List Nat} {n k : Nat} (h : n ≤ wl.length) : k ∈ bordL wl n ↔ Bd wl n k := by
  unfold bordL
  rw [List.mem_filter, List.mem_range, decide_eq_true_eq]
  constructor
  · rintro ⟨a, b⟩
    exact ⟨a, (at_iff (by omega)).mp b.symm⟩
  · rintro ⟨a, b⟩
    exact ⟨a, ((at_iff (by omega)).mpr b).symm⟩
theorem bordL_max {wl : List Nat} {i M : Nat} (h : i < wl.length) (h1 : M ∈ bordL wl (1 + i)) (h2 : ∀ a ∈ bordL wl (1 + i), a ≤ M) : M = (ovT wl wl.length).getD i 0 := by
  rw [show 1 + i = i + 1 by omega] at h1 h2
  have q := ovT_max wl wl.length i h
  exact Nat.le_antisymm (q.2 M ((bordL_iff h).mp h1)) (h2 _ ((bordL_iff h).mpr q.1))
def lw9L : Option PySem.Expr := match (match (fB (stm 11))[9]? with | some s => ifT s | none => none) with | some e => cmpL e | none => none
theorem list_of_getD (l : List Nat) (n : Nat) (h : l.length = n) : (List.range' 0 n).map (fun i => l.getD i 0) = l := by
  subst h
  refine List.ext_getElem (by simp) fun i h1 h2 => ?_
  rw [List.getElem_map, List.getElem_range', List.getD_eq_getElem?_getD, List.getElem?_eq_getElem (by simpa using h2)]
  simp
section
variable {w : World} {base : Heap} {h₀ : Heap} {fa ca L : Addr} {mg mb : Str → Option Value} {news : List (Addr × Obj)} {mean : ExcName → Option Value}
section
local macro_rules | `(tactic| walk_at "call ref") => `(tactic| refine stopW ?_)
set_option maxHeartbeats 1000000 in
theorem lw_9l {s : Shared} {m : Str → Option Value} {Q : Value → Shared → Prop} {wl : List Nat} {t1 : Tok} {or : Obj}
    (B' : Below callerA base [] h₀) (F' : Fr h₀ L s.heap m) (X' : (KT w.params).In h₀) (N' : News h₀ L s.heap ((L + 2, or) :: news)) (T' : Top qv (looseW qv loose0) mean mg mb h₀)
    (hor : or.data = .cell (some (.str ⟨wl.toArray⟩ t1))) (hwl : wl.length ≤ 250) (hw1 : 1 ≤ wl.length)
    (e : _) (he : lw9L = some e)
    (h : ∀ T h' tk vs, Fr h₀ L h' m → News h₀ L h' ((T, PySem.W.listOf vs.toArray 0) :: (L + 2, or) :: news) → IntsAre vs (natsI (ovT wl wl.length)) → Q (.ref T) { s with heap := h', toks := tk }) :
    wpAny (model pg w) (cA (lwEnv fa ca L)) (eval e (lwEnv fa ca L)) Q No s := by
  have hfill : (PySem.Challenge.rw_re0100_02, KT) = (PySem.Challenge.rw_re0100_02, KT) := by k_fill; rfl
  clear hfill
  w_on
  cases he
  k_steps
  refine Stop.out ?_
  have hl1 : (⟨wl.toArray⟩ : Str).length = wl.length := List.size_toArray ..
  with_reducible refine ov_call B' F' X' N' T' rfl rfl rfl rfl (by k_room) (by rw [hl1]; omega) (by rw [hl1]; omega) fun T h₂ tk₂ vs F₂ N₂ hT I₂ => ?_
  rw [hl1] at I₂
  exact h T h₂ tk₂ vs F₂ N₂ I₂
end
set_option maxHeartbeats 1000000 in
theorem lw_9r {s : Shared} {m : Str → Option Value} {Q : Value → Shared → Prop}
    (B' : Below callerA base [] h₀) (F' : Fr h₀ L s.heap m) (X' : (KT w.params).In h₀) (N' : News h₀ L s.heap news) (T' : Top qv (looseW qv loose0) mean mg mb h₀)
    (e : _) (he : (match lw9C with | some c => itrE0 c | none => none) = some e)
    (hq : ∀ h' tk' r t u v, IsRange h' r 1 11 1 t u v → Fr h₀ L h' m → News h₀ L h' news → Q (.ref r) { s with heap := h', toks := tk' }) :
    wpAny (model pg w) (cA (lwEnv fa ca L)) (eval e (lwEnv fa ca L)) Q No s := by
  have hfill : (PySem.Challenge.rw_re0100_02, KT) = (PySem.Challenge.rw_re0100_02, KT) := by k_fill; rfl
  clear hfill
  w_on
  cases he
  k_steps
  exact hq _ _ _ _ _ _ (by assumption) (by assumption) (by assumption)
theorem lw_9 {s : Shared} {m : Str → Option Value} {Q : Flow → Shared → Prop} {wl : List Nat} {t1 : Tok} {or : Obj}
    (B' : Below callerA base [] h₀) (F' : Fr h₀ L s.heap m) (X' : (KT w.params).In h₀) (N' : News h₀ L s.heap ((L + 2, or) :: news)) (T' : Top qv (looseW qv loose0) mean mg mb h₀)
    (hor : or.data = .cell (some (.str ⟨wl.toArray⟩ t1))) (hl : wl.length = 10)
    (st : Stmt) (hst : (fB (stm 11))[9]? = some st)
    (h : ∀ h' tk, Fr h₀ L h' m → News h₀ L h' ((L + 2, or) :: news) → Q .next { s with heap := h', toks := tk }) :
    wpAny (model pg w) (cA (lwEnv fa ca L)) (exec st (lwEnv fa ca L)) Q No s := by
  cases hst
  refine wpAny_If ?_
  refine wpAny_isTrue_Compare1 ?_
  refine lw_9l B' F' X' N' T' hor (by omega) (by omega) _ rfl fun T h₁ tk₁ vs F₁ N₁ I₁ => ?_
  refine comp_cell (L := L) (h₀ := h₀) (m := m) (cl := [(Str.ofString "row", L + 2)]) (fun i y => ∃ t, y = .int (((ovT wl wl.length).getD i 0 : Nat) : Int) t) (by with_unfolding_all rfl) (by rfl) (by decide) (fun _ _ => rfl) (fun _ => rfl) (fun _ _ => rfl) rfl ?_
  refine lw_9r (s := { s with heap := h₁, toks := tk₁ }) B' F₁ X' N₁ T' _ rfl fun h₂ tk₂ r t u v hrg F₂ N₂ => ?_
  refine ⟨r, 1, 11, 10, t, u, v, _, rfl, hrg, small_one (by omega) (by omega) (by omega) (by omega), by rw [rangeSize_nat]; rfl, F₂, N₂, by decide, ?_, ?_⟩
  · intro i tv CC DD K I oI oC oK zs hp tk hi F N hoK off
    rw [show (1 : Int) + (i : Int) = ((1 + i : Nat) : Int) by omega] at hoK
    refine lw_9e (s := { s with heap := hp, toks := tk }) (wl := wl) (n := 1 + i) B' F X' N (.tail _ (.head _)) T' hor hoK (by omega) (by omega) (by omega) _ _ rfl rfl fun M h' tk' t F N hM hA => ?_
    exact ⟨h', tk', rfl, F, N, t, by rw [bordL_max (by omega) hM hA]⟩
  · intro D hp tk zs hzl hz F N off
    have IZ := ints_of_getN (f := fun k => (ovT wl wl.length).getD k 0) zs 10 0 hzl (fun i y hi => by rw [Nat.zero_add]; exact hz i y hi)
    rw [list_of_getD _ 10 (by rw [ovT_length, hl])] at IZ
    refine lw_8k (s := { s with heap := hp, toks := tk }) (ns := natsI (ovT wl wl.length)) B' F X' N T' I₁ IZ (by rw [List.length_map, ovT_length, hl]; decide) fun h3 tk3 F3 N3 => ?_
    exact wpAny_execs_nil (h h3 tk3 F3 (kst_newsOf N3 fun p hp => .tail _ (.tail _ hp)))
end
end Mine
end
section
set_option maxRecDepth 100000
set_option linter.unusedVariables false
set_option Elab.async false
set_option pp.maxSteps 3000
namespace Mine
open PySem PySem.W PySem.Calls PyProof.Rows
section
variable {w : World} {base : Heap} {h₀ : Heap} {fa ca L : Addr} {mg mb : Str → Option Value} {news : List (Addr × Obj)} {mean : ExcName → Option Value}
theorem drawnL_len (ns : List Int) : (drawnL ns).length = 4 := by
  unfold drawnL; rw [List.length_map, List.length_range]
/-- behind the loop -/
theorem lw_b {s : Shared} {m : Str → Option Value} {Q : Flow → Shared → Prop} {D U : Addr} {dl : List Int} {c : TxS} {or : Obj} {cr : Option Value} {S4 S5 S6 S7 S8 S9 S10 S11 : Stmt}
    (B' : Below callerA base [] h₀) (F₀ : Fr h₀ L s.heap m) (hm : ∀ p ∈ txPs D U c, m p.1 = some p.2) (X' : (KT w.params).In h₀) (N₀ : News h₀ L s.heap [(L + 2, or)]) (T' : Top qv (looseW qv loose0) mean mg mb h₀)
    (hr : or.data = .cell cr) (hc : TxOk dl 10 c)
    (e4 : (fB (stm 11))[4]? = some S4) (e5 : (fB (stm 11))[5]? = some S5) (e6 : (fB (stm 11))[6]? = some S6) (e7 : (fB (stm 11))[7]? = some S7) (e8 : (fB (stm 11))[8]? = some S8) (e9 : (fB (stm 11))[9]? = some S9) (e10 : (fB (stm 11))[10]? = some S10) (e11 : (fB (stm 11))[11]? = some S11)
    (h : ∀ h' tk m', Fr h₀ L h' m' → Q (.ret (.bool true)) { s with heap := h', toks := tk }) :
    wpAny (model pg w) (cA (lwEnv fa ca L)) (execs [S4, S5, S6, S7, S8, S9, S10, S11] (lwEnv fa ca L)) Q No s := by
  have htx := hm _ (.tail _ (.tail _ (.head _)))
  have hty := hm _ (.tail _ (.tail _ (.tail _ (.head _))))
  have hmn := hm _ (.tail _ (.tail _ (.tail _ (.tail _ (.head _)))))
  dsimp only at htx hty hmn
  obtain ⟨tl, ty, mn, t1, t2, t3⟩ := c
  obtain ⟨ck, cl, cy, cm⟩ := hc
  dsimp only at htx hty hmn ck cl cy cm
  subst cy
  subst cm
  have hwl := typL_len (remL dl) 10
  have hok := fun x hx => (typ_mem (dl := dl) (n := 10) (c := x) hx).1
  have hne := fun x hx => (typ_mem (dl := dl) (n := 10) (c := x) hx).2
  have hml := meaL_len (remL dl) 10
  have htm := typ_mea dl 10
  obtain ⟨f1, f2, f3, f4, f5⟩ := last_fold imgF (wl := typL (remL dl) 10) (by omega) hne
  rw [htm] at f4 f5
  have hq := seals_least (typL (remL dl) 10) 10 hwl
  have hml1 : 1 ≤ (meaL (remL dl) 10).length := Nat.le_trans f3 f4
  have hlst := least_last hml1
  generalize typL (remL dl) 10 = wl at ck hty hwl hok hne htm f1 f2 f3 f4 f5 hq
  generalize meaL (remL dl) 10 = ml at hmn hml htm f4 f5 hml1 hlst
  refine wpAny_execs_cons (lw_4 B' F₀ htx X' N₀ (fun p hp => by cases hp) T' hr (by omega) S4 e4 fun h4 tk4 or' t4 F4 N4 hor => ?_)
  show wpAny _ _ _ _ _ _
  rw [ck] at hor
  refine wpAny_execs_cons (lw_5 (s := { s with heap := h4, toks := tk4 }) B' F4 X' N4 T' hor hok (by omega) (by rw [htm]; omega) S5 e5 fun h5 tk5 t5 F5 N5 => ?_)
  show wpAny _ _ _ _ _ _
  rw [htm] at F5
  have lw1 : (⟨wl.toArray⟩ : Str).length = wl.length := List.size_toArray ..
  have lm1 : (⟨ml.toArray⟩ : Str).length = ml.length := List.size_toArray ..
  refine wpAny_execs_cons (lw_6 (s := { s with heap := h5, toks := tk5 }) B' F5 (upd_ne hty (by decide)) (upd_at _ _ _) (upd_ne hmn (by decide)) X' N5 T' hor (by omega) (by omega) S6 e6 fun h6 tk6 F6 N6 => ?_)
  show wpAny _ _ _ _ _ _
  refine wpAny_execs_cons (lw_7 (s := { s with heap := h6, toks := tk6 }) B' F6 X' N6 T' hor (by omega) (by omega) S7 e7 fun S h7 tk7 vs nn F7 N7 I7 => ?_)
  show wpAny _ _ _ _ _ _
  refine wpAny_execs_cons (lw_8 (s := { s with heap := h7, toks := tk7 }) B' F7 (upd_at _ _ _) X' N7 T' hor hwl I7 hq S8 e8 fun h8 tk8 F8 N8 => ?_)
  show wpAny _ _ _ _ _ _
  refine wpAny_execs_cons (lw_9 (s := { s with heap := h8, toks := tk8 }) (news := [(S, PySem.W.listOf vs.toArray nn)]) B' F8 X' (kst_newsOf N8 fun p hp => ?_) T' hor hwl S9 e9 fun h9 tk9 F9 N9 => ?_)
  · simp only [List.mem_cons, List.not_mem_nil, or_false] at hp ⊢
    exact hp.symm
  show wpAny _ _ _ _ _ _
  refine wpAny_execs_cons (lw_10 (s := { s with heap := h9, toks := tk9 }) (ml := ml) B' F9 (upd_ne (upd_at _ _ _) (by decide)) X' N9 T' (by omega) hml1 S10 e10 fun h10 tk10 t10 F10 N10 => ?_)
  show wpAny _ _ _ _ _ _
  refine wpAny_execs_cons (lw_11 (s := { s with heap := h10, toks := tk10 }) (news := []) (ml := ml) (wl := wl) (S := S) (nn := nn) B' F10 (upd_ne (upd_ne (upd_at _ _ _) (by decide)) (by decide)) (upd_at _ _ _) (upd_ne (upd_at _ _ _) (by decide)) X' (kst_newsOf N10 fun p hp => ?_) T' hor (by omega) hml1 I7 hwl hok hlst f1 f2 f3 (by omega) f5 S11 e11 fun h11 tk11 F11 => ?_)
  · simp only [List.mem_cons, List.not_mem_nil, or_false] at hp ⊢
    exact hp.symm
  exact h h11 tk11 _ F11
theorem lw_body {s : Shared} {m : Str → Option Value} {Q : Flow → Shared → Prop} {S : Addr} {vs : List Value} {ns : List Int} {os or : Obj} {cr : Option Value} {S0 S1 S2 S3 S4 S5 S6 S7 S8 S9 S10 S11 : Stmt}
    (B' : Below callerA base [] h₀) (F₀ : Fr h₀ L s.heap m) (X' : (KT w.params).In h₀) (N₀ : News h₀ L s.heap [(L + 2, or), (L + 1, os)]) (T' : Top qv (looseW qv loose0) mean mg mb h₀)
    (hs : os.data = .cell (some (.ref S))) (hr : or.data = .cell cr) (hL : h₀.IsList S vs.toArray) (hI : IntsAre vs ns) (hl : ns.length ≤ 63)
    (e0 : (fB (stm 11))[0]? = some S0) (e1 : (fB (stm 11))[1]? = some S1) (e2 : (fB (stm 11))[2]? = some S2) (e3 : (fB (stm 11))[3]? = some S3)
    (e4 : (fB (stm 11))[4]? = some S4) (e5 : (fB (stm 11))[5]? = some S5) (e6 : (fB (stm 11))[6]? = some S6) (e7 : (fB (stm 11))[7]? = some S7) (e8 : (fB (stm 11))[8]? = some S8) (e9 : (fB (stm 11))[9]? = some S9) (e10 : (fB (stm 11))[10]? = some S10) (e11 : (fB (stm 11))[11]? = some S11)
    (h : ∀ h' tk m', Fr h₀ L h' m' → Q (.ret (.bool true)) { s with heap := h', toks := tk }) :
    wpAny (model pg w) (cA (lwEnv fa ca L)) (execs [S0, S1, S2, S3, S4, S5, S6, S7, S8, S9, S10, S11] (lwEnv fa ca L)) Q No s := by
  refine wpAny_execs_cons (lw_0 B' F₀ X' N₀ (.tail _ (.head _)) T' hs hL hI hl S0 e0 fun D h1 tk1 ys F1 N1 I1 => ?_)
  show wpAny _ _ _ _ _ _
  refine wpAny_execs_cons (lw_1 (s := { s with heap := h1, toks := tk1 }) B' F1 X' N1 T' S1 e1 fun U h2 tk2 uvs F2 N2 hU J => ?_)
  show wpAny _ _ _ _ _ _
  refine wpAny_execs_cons (lw_2 (s := { s with heap := h2, toks := tk2 }) B' F2 X' N2 T' S2 e2 fun h3 tk3 t1 t2 t3 F3 N3 => ?_)
  show wpAny _ _ _ _ _ _
  refine wpAny_execs_cons (lw_3 (s := { s with heap := h3, toks := tk3 }) (D := D) (U := U) (dvs := ys) (uvs := uvs) (nd := ys.length) (nu := 0) (dl := drawnL ns) (t1 := t1) (t2 := t2) (t3 := t3) B' F3 (fun p hp => ?_) X' N3 (.tail _ (.head _)) (.head _) T' I1 (drawnL_len ns) J S3 e3 fun h4 tk4 m4 c4 F4 hm4 N4 hc4 => ?_)
  · simp only [List.mem_cons, List.not_mem_nil, or_false] at hp
    rcases hp with rfl | rfl | rfl | rfl | rfl <;> dsimp only
    · exact upd_ne (upd_ne (upd_ne (upd_ne (m := upd m (Str.ofString "drawn") (.ref D)) (x := Str.ofString "unseen") (upd_at _ _ _) (by decide)) (by decide)) (by decide)) (by decide)
    · exact upd_ne (upd_ne (upd_ne (upd_at _ (Str.ofString "unseen") _) (by decide)) (by decide)) (by decide)
    · exact upd_ne (upd_ne (upd_at _ _ _) (by decide)) (by decide)
    · exact upd_ne (upd_at _ _ _) (by decide)
    · exact upd_at _ _ _
  show wpAny _ _ _ _ _ _
  exact lw_b (s := { s with heap := h4, toks := tk4 }) B' F4 hm4 X' (kst_newsOf N4 fun p hp => by obtain rfl := List.mem_singleton.mp hp; exact .tail _ (.tail _ (.head _))) T' hr hc4 e4 e5 e6 e7 e8 e9 e10 e11 h
end
end Mine
end
section
set_option maxRecDepth 100000
set_option linter.unusedVariables false
set_option Elab.async false
namespace Mine
open PySem PySem.W PySem.Calls PyProof.Rows
section
variable {w : World} {base h₀ : Heap} {fa ca L : Addr} {mg mb : Str → Option Value} {news : List (Addr × Obj)} {mean : ExcName → Option Value}
theorem lw_all {s : Shared} {m : Str → Option Value} {Q : Flow → Shared → Prop} {S : Addr} {vs : List Value} {ns : List Int} {os or : Obj} {cr : Option Value}
    (B' : Below callerA base [] h₀) (F₀ : Fr h₀ L s.heap m) (X' : (KT w.params).In h₀) (N₀ : News h₀ L s.heap [(L + 2, or), (L + 1, os)]) (T' : Top qv (looseW qv loose0) mean mg mb h₀)
    (hs : os.data = .cell (some (.ref S))) (hr : or.data = .cell cr) (hL : h₀.IsList S vs.toArray) (hI : IntsAre vs ns) (hl : ns.length ≤ 63)
    (bd : List Stmt) (hbd : bd = fB (stm 11))
    (h : ∀ h' tk m', Fr h₀ L h' m' → Q (.ret (.bool true)) { s with heap := h', toks := tk }) :
    wpAny (model pg w) (cA (lwEnv fa ca L)) (execs bd (lwEnv fa ca L)) Q No s := by
  obtain ⟨S0, S1, S2, S3, S4, S5, S6, S7, S8, S9, S10, S11, e⟩ : ∃ S0 S1 S2 S3 S4 S5 S6 S7 S8 S9 S10 S11, fB (stm 11) = [S0, S1, S2, S3, S4, S5, S6, S7, S8, S9, S10, S11] := ⟨_, _, _, _, _, _, _, _, _, _, _, _, rfl⟩
  rw [hbd, e]
  exact lw_body B' F₀ X' N₀ T' hs hr hL hI hl (by rw [e]; rfl) (by rw [e]; rfl) (by rw [e]; rfl) (by rw [e]; rfl) (by rw [e]; rfl) (by rw [e]; rfl) (by rw [e]; rfl) (by rw [e]; rfl) (by rw [e]; rfl) (by rw [e]; rfl) (by rw [e]; rfl) (by rw [e]; rfl) h
end
end Mine
end
open PySem PySem.W PySem.Calls PyProof.Rows Mine
set_option maxHeartbeats 4000000 in
theorem PySem.Challenge.cw_re0100_02_holds : PySem.Challenge.rw_re0100_02.Holds := by
  refine head _ _ rfl rfl rfl ?_
  w_on
  k_go0
  rename Fr _ _ _ _ => F₁
  rename Below _ _ _ _ => B₁
  rename (KT _).In _ => KX
  rename Heap.IsList _ _ _ => hL
  rename IntsAre _ _ => hI
  rename Top _ _ _ _ _ _ => T₁
  rename News _ _ _ _ => N₁
  rename ¬ (63 : Int) < _ => hlen
  rename_i o1 o0 hr hs X₀
  refine wpAny_mono (E := No) ?_ (fun _ _ x => x) (fun _ _ x => x.elim)
  refine lw_all (Q := _) B₁ F₁ KX N₁ T₁ hs hr hL hI (by omega) _ (by rfl) fun h' tk m' F' => ?_
  refine goodW_bool F' (by assumption) (raisesW_false ?_) ?_
  · wrow_none_raised
  · first | kc_post | wrow_post
