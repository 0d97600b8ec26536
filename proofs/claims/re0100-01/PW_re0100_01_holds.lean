import PyProof.Rows.All
import Wide.All
import OpenK.AllK
import Wide.FinOn
import Lean
import PySem.Challenge.RW_re0100_01
set_option maxRecDepth 100000
set_option linter.unusedVariables false
set_option Elab.async false
section
set_option maxRecDepth 100000
namespace Mine
open PySem PySem.W

/-- the tree x, begun in s, gives a in s' within B steps, whatever stands around it -/
def Ex (p : Program) (w : World) (n₀ : Nat) (ann : Option Value) {α : Type} (x : Sem α) (s : Shared) (B : Nat) (a : α) (s' : Shared) : Prop :=
  ∀ (K : α → Sem Fin) (H : Value → Sem Fin) (gd : Bool → Bool) (lv : List Value → List Value) (c : Code) (pos : Pos) (f : Frame) (st : List Frame) (N : Nat) (r : Flow × Shared × Code × Pos),
    (∀ pos', segRun treeTable p w n₀ ann 1 N s' ⟨K a, c, pos', f :: st⟩ = some r) →
    segRun treeTable p w n₀ ann 1 (N + B) s ⟨x.wrap K H gd lv, c, pos, f :: st⟩ = some r

section
variable {p : Program} {w : World} {n₀ : Nat} {ann : Option Value} {α β : Type} {s s' s₁ : Shared}

theorem segRun_mono (k : Nat) : ∀ (n : Nat) (s : Shared) (t : Thread) (r : Flow × Shared × Code × Pos), segRun treeTable p w n₀ ann 1 n s t = some r → segRun treeTable p w n₀ ann 1 (n + k) s t = some r
  | 0, _, _, _, h => by simp [segRun] at h
  | n + 1, s, t, r, h => by
    rw [show n + 1 + k = n + k + 1 by omega]
    unfold segRun at h ⊢
    cases he : endAt 1 t with
    | some f => rw [he] at h; exact h
    | none =>
      rw [he] at h
      cases hk : stepOk n₀ ann t with
      | false => rw [hk] at h; cases h
      | true =>
        rw [hk] at h
        cases hs : step (denote treeTable) p w s t with
        | halt o s' => rw [hs] at h; cases h
        | go s' t' => rw [hs] at h; exact segRun_mono k n s' t' r h

theorem segRun_step {n : Nat} {s s' : Shared} {t t' : Thread} {r} (he : endAt 1 t = none) (hk : stepOk n₀ ann t = true) (hs : step (denote treeTable) p w s t = .go s' t')
    (h : segRun treeTable p w n₀ ann 1 n s' t' = some r) : segRun treeTable p w n₀ ann 1 (n + 1) s t = some r := by
  unfold segRun
  rw [he, hk, hs]
  exact h

theorem Ex.more {x : Sem α} {a : α} {B B' : Nat} (h : Ex p w n₀ ann x s B a s') (hb : B ≤ B') : Ex p w n₀ ann x s B' a s' := by
  intro K H gd lv c pos f st N r hr
  have := segRun_mono (B' - B) _ _ _ _ (h K H gd lv c pos f st N r hr)
  rwa [show N + B + (B' - B) = N + B' by omega] at this

theorem Ex.pure (a : α) : Ex p w n₀ ann (Pure.pure a : Sem α) s 0 a s := fun K H gd lv c pos f st N r hr => hr pos

theorem Ex.bind {x : Sem α} {g : α → Sem β} {a : α} {b : β} {B B' : Nat} (h : Ex p w n₀ ann x s B a s₁) (h' : Ex p w n₀ ann (g a) s₁ B' b s') : Ex p w n₀ ann (x >>= g) s (B + B') b s' := by
  intro K H gd lv c pos f st N r hr
  rw [Sem.bind_eq_wrap', Sem.wrap_wrap]
  rw [show N + (B + B') = N + B' + B by omega]
  exact h _ _ _ _ c pos f st _ r fun pos' => h' K H gd lv c pos' f st N r hr

theorem Ex.keep {x : Sem α} {a : α} {B : Nat} {vs : List Value} (h : Ex p w n₀ ann x s B a s') : Ex p w n₀ ann (x.keep vs) s B a s' := by
  intro K H gd lv c pos f st N r hr
  rw [Sem.keep_eq_wrap, Sem.wrap_wrap]
  exact h _ _ _ _ c pos f st N r hr

theorem Ex.holding {x : Sem α} {a : α} {B : Nat} {vs : List Value} (h : Ex p w n₀ ann x s B a s') : Ex p w n₀ ann (holding vs x) s B a s' := by
  unfold PySem.holding
  split
  · exact h
  · exact h.keep

theorem Ex.onRaise {x : Sem α} {a : α} {B : Nat} {k : Value → Sem Unit} (h : Ex p w n₀ ann x s B a s') : Ex p w n₀ ann (x.onRaise k) s B a s' := by
  intro K H gd lv c pos f st N r hr
  rw [Sem.onRaise_eq_wrap, Sem.wrap_wrap]
  exact h _ _ _ _ c pos f st N r hr

theorem Ex.rule {tag : String} : Ex p w n₀ ann (PySem.rule tag) s 1 () s := fun K H gd lv c pos f st N r hr =>
  segRun_step (by cases st <;> rfl) rfl rfl (hr pos)
theorem Ex.standAt {q : Pos} : Ex p w n₀ ann (PySem.standAt q) s 1 () s := fun K H gd lv c pos f st N r hr =>
  segRun_step (by cases st <;> rfl) rfl rfl (hr q)
theorem Ex.point : Ex p w n₀ ann PySem.point s 1 () s := fun K H gd lv c pos f st N r hr =>
  segRun_step (by cases st <;> rfl) rfl rfl (hr pos)
theorem Ex.fresh : Ex p w n₀ ann PySem.fresh s 1 s.toks { s with toks := s.toks + 1 } := fun K H gd lv c pos f st N r hr =>
  segRun_step (by cases st <;> rfl) rfl rfl (hr pos)
theorem Ex.alloc {o : Obj} : Ex p w n₀ ann (PySem.alloc o) s 1 s.heap.objs.size { s with heap := s.heap.push o } := fun K H gd lv c pos f st N r hr =>
  segRun_step (by cases st <;> rfl) rfl rfl (hr pos)
theorem Ex.loadPart {a : Addr} {part : Option Value} {o : Obj} (ho : s.heap.get? a = some o) : Ex p w n₀ ann (PySem.loadPart a part) s 1 o s := fun K H gd lv c pos f st N r hr =>
  segRun_step (s' := s) (t' := ⟨K o, c, pos, f :: st⟩) (by cases st <;> rfl) rfl (by obtain ⟨heap, gens, drawn, toks, os⟩ := s; dsimp only at ho; simp only [PySem.loadPart, Sem.wrap, step, ho]) (hr pos)
theorem Ex.load {a : Addr} {o : Obj} (ho : s.heap.get? a = some o) : Ex p w n₀ ann (PySem.load a) s 1 o s := Ex.loadPart (part := none) ho
theorem Ex.updatePart {a : Addr} {part : Option Value} {g : Obj → Obj} {o : Obj} (ho : s.heap.get? a = some o) (ha : n₀ ≤ a) :
    Ex p w n₀ ann (PySem.updatePart a part g) s 1 () { s with heap := s.heap.update a g } := fun K H gd lv c pos f st N r hr =>
  segRun_step (s' := { s with heap := s.heap.update a g }) (t' := ⟨K (), c, pos, f :: st⟩) (by cases st <;> rfl)
    (by show (true && (Nat.ble n₀ a || _ || _ || _)) = true; rw [Nat.ble_eq_true_of_le ha]; rfl)
    (by obtain ⟨heap, gens, drawn, toks, os⟩ := s; dsimp only at ho; simp only [PySem.updatePart, Sem.wrap, step, ho, Option.isSome_some, if_true]) (hr pos)
end
end Mine
end
section
set_option maxRecDepth 100000
set_option linter.unusedVariables false
namespace Mine
open PySem PySem.W
section
theorem hash_runA (p : Program) (n₀ : Nat) (ann : Option Value) : ∀ w : World,
    (fun (s : Shared) (k : Int) (t : Tok) (K : Int → Sem Fin) (H : Value → Sem Fin) (gd : Bool → Bool) (lv : List Value → List Value) (c : Code) (pos : Pos) (f : Frame) (N : Nat) =>
      segRun treeTable p w n₀ ann 1 (N + 5) s ⟨(pyHash (.int k t)).wrap K H gd lv, c, pos, [f]⟩) =
    (fun (s : Shared) (k : Int) (t : Tok) (K : Int → Sem Fin) (H : Value → Sem Fin) (gd : Bool → Bool) (lv : List Value → List Value) (c : Code) (pos : Pos) (f : Frame) (N : Nat) =>
      segRun treeTable p w n₀ ann 1 N { s with toks := s.toks + 1 } ⟨(pyHashByItsType.reduced (rawHash k)).wrap K H gd lv, c, pos, [f]⟩) := by
  refine byRow2 "special-get-raises" (fun w => ?_) (fun w => ?_)
  · rw [PySem.W.Fast.te14374325043358763698, PySem.W.Fast.te14364793385576792824]
    kernel_rfl
  · rw [PySem.W.Fast.te14374325043358763698, PySem.W.Fast.te14364793385576792824]
    kernel_rfl
theorem hash_runB (p : Program) (n₀ : Nat) (ann : Option Value) : ∀ w : World,
    (fun (s : Shared) (k : Int) (t : Tok) (K : Int → Sem Fin) (H : Value → Sem Fin) (gd : Bool → Bool) (lv : List Value → List Value) (c : Code) (pos : Pos) (f g : Frame) (st : List Frame) (N : Nat) =>
      segRun treeTable p w n₀ ann 1 (N + 5) s ⟨(pyHash (.int k t)).wrap K H gd lv, c, pos, f :: g :: st⟩) =
    (fun (s : Shared) (k : Int) (t : Tok) (K : Int → Sem Fin) (H : Value → Sem Fin) (gd : Bool → Bool) (lv : List Value → List Value) (c : Code) (pos : Pos) (f g : Frame) (st : List Frame) (N : Nat) =>
      segRun treeTable p w n₀ ann 1 N { s with toks := s.toks + 1 } ⟨(pyHashByItsType.reduced (rawHash k)).wrap K H gd lv, c, pos, f :: g :: st⟩) := by
  refine byRow2 "special-get-raises" (fun w => ?_) (fun w => ?_)
  · rw [PySem.W.Fast.te14374325043358763698, PySem.W.Fast.te14364793385576792824]
    kernel_rfl
  · rw [PySem.W.Fast.te14374325043358763698, PySem.W.Fast.te14364793385576792824]
    kernel_rfl
theorem reduced_eq (k : Int) : pyHashByItsType.reduced (rawHash k) = pure (hashInt k) := by
  have hr := rawHash_range k
  show (if (decide (-(2 : Int) ^ 63 ≤ rawHash k) && decide (rawHash k < 2 ^ 63)) = true then _ else _) = _
  rw [if_pos (by rw [decide_eq_true hr.1, decide_eq_true hr.2]; rfl)]
  rfl
theorem Ex.hash {p : Program} {w : World} {n₀ : Nat} {ann : Option Value} {s : Shared} {k : Int} {t : Tok} : Ex p w n₀ ann (pyHash (.int k t)) s 5 (hashInt k) { s with toks := s.toks + 1 } := by
  intro K H gd lv c pos f st N r hr
  cases st with
  | nil =>
    have e := congrFun (congrFun (congrFun (congrFun (congrFun (congrFun (congrFun (congrFun (congrFun (congrFun (congrFun (hash_runA p n₀ ann w) s) k) t) K) H) gd) lv) c) pos) f) N
    refine Eq.trans e ?_
    rw [reduced_eq]; exact hr pos
  | cons g st =>
    have e := congrFun (congrFun (congrFun (congrFun (congrFun (congrFun (congrFun (congrFun (congrFun (congrFun (congrFun (congrFun (congrFun (hash_runB p n₀ ann w) s) k) t) K) H) gd) lv) c) pos) f) g) st) N
    refine Eq.trans e ?_
    rw [reduced_eq]; exact hr pos
end
end Mine
end
section
set_option maxRecDepth 100000
set_option linter.unusedVariables false
namespace Mine
open PySem PySem.W

def hp (l : List Obj) (life : Life) : Heap := ⟨l.toArray, life⟩
def dObj (es : List DictEntry) (n : Nat) : Obj := { cls := .type "dict", data := .dict es.toArray n }

theorem hp_size (l : List Obj) (life : Life) : (hp l life).objs.size = l.length := by simp [hp]
theorem hp_push (l : List Obj) (life : Life) (o : Obj) : (hp l life).push o = hp (l ++ [o]) life := by simp [hp, Heap.push]
theorem hp_get (l₁ : List Obj) (es : List DictEntry) (n : Nat) (l₂ : List Obj) (life : Life) : (hp (l₁ ++ dObj es n :: l₂) life).get? l₁.length = some (dObj es n) := by
  have e : (hp (l₁ ++ dObj es n :: l₂) life).objs[l₁.length]? = some (dObj es n) := by
    show (l₁ ++ dObj es n :: l₂).toArray[l₁.length]? = _
    rw [List.getElem?_toArray, List.getElem?_append_right (Nat.le_refl _), Nat.sub_self]; rfl
  unfold Heap.get?
  rw [e]
  rfl
theorem hp_update (l₁ : List Obj) (o : Obj) (l₂ : List Obj) (life : Life) (g : Obj → Obj) : (hp (l₁ ++ o :: l₂) life).update l₁.length g = hp (l₁ ++ g o :: l₂) life := by
  show Heap.mk ((l₁ ++ o :: l₂).toArray.modify l₁.length g) life = _
  have : (l₁ ++ o :: l₂).toArray.modify l₁.length g = (l₁ ++ g o :: l₂).toArray := by
    apply Array.ext'
    simp only [Array.toList_modify]
    induction l₁ with
    | nil => rfl
    | cons x l ih => simpa [List.modify_succ_cons] using ih
  rw [this]; rfl

section
variable {p : Program} {w : World} {n₀ : Nat} {ann : Option Value} {s : Shared}

theorem Ex.dictEntries {a : Addr} {part : Option Value} {es : List DictEntry} {n : Nat} (ho : s.heap.get? a = some (dObj es n)) : Ex p w n₀ ann (PySem.dictEntries a part) s 1 es.toArray s := by
  unfold PySem.dictEntries
  refine Ex.bind (B := 1) (B' := 0) (Ex.loadPart ho) ?_
  exact Ex.pure _
theorem Ex.dictEpoch {a : Addr} {part : Option Value} {es : List DictEntry} {n : Nat} (ho : s.heap.get? a = some (dObj es n)) : Ex p w n₀ ann (PySem.dictEpoch a part) s 1 n s := by
  unfold PySem.dictEpoch
  refine Ex.bind (B := 1) (B' := 0) (Ex.loadPart ho) ?_
  exact Ex.pure _

theorem no_places {es : List DictEntry} {h : Int} (hn : ∀ e ∈ es, e.hash ≠ h) : placesWithHash es.toArray.size (fun i => es.toArray[i]?.map (·.hash)) h = [] := by
  unfold placesWithHash
  rw [List.filter_eq_nil_iff]
  intro i hi
  simp only [List.getElem?_toArray, beq_iff_eq]
  intro q
  cases he : es[i]? with
  | none => rw [he] at q; cases q
  | some e =>
    rw [he] at q
    exact hn e (List.mem_of_getElem? he) (Option.some.inj q)

theorem Ex.dictFind {a : Addr} {es : List DictEntry} {n : Nat} {k : Int} {t : Tok} {h : Int} (ho : s.heap.get? a = some (dObj es n)) (hn : ∀ e ∈ es, e.hash ≠ h) :
    Ex p w n₀ ann (PySem.dictFind a (.int k t) h) s 1 none s := by
  unfold PySem.dictFind
  refine Ex.holding ?_
  refine Ex.bind (B' := 0) (Ex.dictEntries ho) ?_
  show Ex p w n₀ ann (if ((Value.int k t) :: (placesWithHash es.toArray.size (fun i => es.toArray[i]?.map (·.hash)) h).filterMap fun i => es.toArray[i]?.map (·.key)).all carriedByValue = true then _ else _) s 0 none s
  rw [no_places hn]
  exact Ex.pure _

theorem Ex.updKeys {l₁ l₂ : List Obj} {life : Life} {es es' : List DictEntry} {n : Nat} {part : Option Value} {g : Array DictEntry → Array DictEntry} (hh : s.heap = hp (l₁ ++ dObj es n :: l₂) life)
    (hg : g es.toArray = es'.toArray) (hz : es'.length ≤ 1000) (ha : n₀ ≤ l₁.length) : Ex p w n₀ ann (updateDictKeys l₁.length g part) s 3 () { s with heap := hp (l₁ ++ dObj es' (n + 1) :: l₂) life } := by
  unfold updateDictKeys
  have ho : s.heap.get? l₁.length = some (dObj es n) := by rw [hh]; exact hp_get ..
  refine Ex.bind (B := 1) (B' := 2) (Ex.loadPart ho) ?_
  show Ex p w n₀ ann (do PySem.updatePart l₁.length part (Obj.mapDictKeys g); PySem.lookBehind l₁.length part) s 2 () _
  have hu : s.heap.update l₁.length (Obj.mapDictKeys g) = hp (l₁ ++ dObj es' (n + 1) :: l₂) life := by
    rw [hh, hp_update]
    show hp (l₁ ++ ⟨_, _, .dict (g es.toArray) (n + 1), _⟩ :: l₂) life = _
    rw [hg]; rfl
  refine Ex.bind (B := 1) (B' := 1) (Ex.updatePart ho ha) ?_
  rw [hu]
  unfold lookBehind
  refine Ex.bind (B := 1) (B' := 0) (Ex.loadPart (hp_get ..)) ?_
  have : (dObj es' (n + 1)).data.pastItsLine = none := pastItsLine_dict (by rw [List.size_toArray]; have : sizeLine = 16777216 := by decide +kernel
                                                                            omega)
  rw [this]
  exact Ex.pure _

theorem Ex.dictSet {l₁ l₂ : List Obj} {life : Life} {es : List DictEntry} {n : Nat} {k : Int} {t : Tok} {v : Value} (hh : s.heap = hp (l₁ ++ dObj es n :: l₂) life)
    (hn : ∀ e ∈ es, e.hash ≠ hashInt k) (hz : es.length < 1000) (ha : n₀ ≤ l₁.length) :
    Ex p w n₀ ann (PySem.dictSet l₁.length (.int k t) v) s 10 () { s with heap := hp (l₁ ++ dObj (es ++ [⟨hashInt k, .int k t, v⟩]) (n + 1) :: l₂) life, toks := s.toks + 1 } := by
  unfold PySem.dictSet
  refine Ex.holding (Ex.bind (B := 5) (B' := 5) Ex.hash ?_)
  unfold dictSetHashed
  refine Ex.holding (Ex.bind (B := 1) (B' := 4) (Ex.dictFind (es := es) (n := n) (by show s.heap.get? _ = _; rw [hh]; exact hp_get ..) hn) ?_)
  refine Ex.bind (B := 1) (B' := 3) Ex.rule ?_
  exact Ex.updKeys (s := { s with toks := s.toks + 1 }) hh (by simp) (by simp; omega) ha

theorem Ex.dictPut {l₁ l₂ : List Obj} {life : Life} {es : List DictEntry} {n : Nat} {h : Int} {k : Int} {t : Tok} {v : Value} (hh : s.heap = hp (l₁ ++ dObj es n :: l₂) life)
    (hn : ∀ e ∈ es, e.hash ≠ h) (hz : es.length < 1000) (ha : n₀ ≤ l₁.length) :
    Ex p w n₀ ann (PySem.dictPut l₁.length h (.int k t) v) s 4 () { s with heap := hp (l₁ ++ dObj (es ++ [⟨h, .int k t, v⟩]) (n + 1) :: l₂) life } := by
  unfold PySem.dictPut
  refine Ex.bind (B := 1) (B' := 3) (Ex.dictFind (es := es) (n := n) (by rw [hh]; exact hp_get ..) hn) ?_
  exact Ex.updKeys hh (by simp) (by simp; omega) ha
end
end Mine
end
section
set_option maxRecDepth 100000
set_option linter.unusedVariables false
namespace Mine
open PySem PySem.W

def pr (pos : Pos) (kv : Int × Str) : Sem Value × Sem Value := (mkInt kv.1, do let x ← mkText kv.2; standAt pos; pure x)
def entL : Nat → List (Int × Str) → List DictEntry
  | _, [] => []
  | T, kv :: r => ⟨hashInt kv.1, .int kv.1 T, .str kv.2 (T + 1)⟩ :: entL (T + 3) r
def entS : Nat → List (Int × Str) → List DictEntry
  | _, [] => []
  | T, kv :: r => ⟨hashInt kv.1, .int kv.1 T, .str kv.2 (T + 1)⟩ :: entS (T + 2) r
/-- every hash of es lies below b -/
def Under (es : List DictEntry) (b : Int) : Prop := ∀ e ∈ es, e.hash < b
/-- the keys rise, the first at least b -/
def Rise : Int → List (Int × Str) → Prop
  | _, [] => True
  | b, kv :: r => b ≤ hashInt kv.1 ∧ Rise (hashInt kv.1 + 1) r

section
variable {p : Program} {w : World} {n₀ : Nat} {ann : Option Value}

theorem Ex.mkInt {s : Shared} {k : Int} : Ex p w n₀ ann (PySem.mkInt k) s 1 (.int k s.toks) { s with toks := s.toks + 1 } := by
  unfold PySem.mkInt
  exact Ex.bind (B := 1) (B' := 0) Ex.fresh (Ex.pure _)
theorem Ex.mkText {s : Shared} {v : Str} : Ex p w n₀ ann (PySem.mkText v) s 1 (.str v s.toks) { s with toks := s.toks + 1 } := by
  unfold PySem.mkText
  exact Ex.bind (B := 1) (B' := 0) Ex.fresh (Ex.pure _)
theorem Ex.prSnd {s : Shared} {kv : Int × Str} {pos : Pos} : Ex p w n₀ ann (pr pos kv).2 s 2 (.str kv.2 s.toks) { s with toks := s.toks + 1 } :=
  Ex.bind (B := 1) (B' := 1) Ex.mkText (Ex.bind (B := 1) (B' := 0) Ex.standAt (Ex.pure _))

theorem loopL (l : List Obj) (life : Life) (pos : Pos) (ha : n₀ ≤ l.length) : ∀ (kvs : List (Int × Str)) (es : List DictEntry) (n : Nat) (b : Int) (s : Shared), s.heap = hp (l ++ [dObj es n]) life → Under es b → Rise b kvs → es.length + kvs.length < 1000 →
    Ex p w n₀ ann (forIn (kvs.map (pr pos)) PUnit.unit fun (x : Sem Value × Sem Value) (_ : PUnit) => (do let kv ← x.1; let vv ← holding [kv] x.2; holding [kv, vv] (PySem.dictSet l.length kv vv); pure (ForInStep.yield PUnit.unit) : Sem (ForInStep PUnit)))
      s (13 * kvs.length) PUnit.unit { s with heap := hp (l ++ [dObj (es ++ entL s.toks kvs) (n + kvs.length)]) life, toks := s.toks + 3 * kvs.length }
  | [], es, n, b, s, hh, _, _, _ => by
    have : ({ s with heap := hp (l ++ [dObj (es ++ entL s.toks []) (n + 0)]) life, toks := s.toks + 3 * 0 } : Shared) = s := by
      obtain ⟨h, g, d, t, o⟩ := s
      simp only [entL, List.append_nil, Nat.add_zero, Nat.mul_zero] at hh ⊢
      rw [hh]
    rw [List.map_nil, List.forIn_nil]
    show Ex p w n₀ ann _ s 0 _ _
    rw [List.length_nil, this]
    exact Ex.pure _
  | kv :: r, es, n, b, s, hh, hu, hr, hz => by
    rw [List.map_cons, List.forIn_cons, List.length_cons] at *
    obtain ⟨h1, h2⟩ := hr
    refine Ex.more (B := 13 + 13 * r.length) ?_ (by omega)
    refine Ex.bind (a := ForInStep.yield PUnit.unit) (s₁ := { s with heap := hp (l ++ [dObj (es ++ [⟨hashInt kv.1, .int kv.1 s.toks, .str kv.2 (s.toks + 1)⟩]) (n + 1)]) life, toks := s.toks + 3 }) ?_ ?_
    · refine Ex.bind (B := 1) (B' := 12) Ex.mkInt ?_
      refine Ex.bind (B := 2) (B' := 10) (Ex.holding Ex.prSnd) ?_
      refine Ex.bind (B := 10) (B' := 0) (Ex.holding (Ex.dictSet (s := { s with toks := s.toks + 1 + 1 }) hh (fun e he => ?_) (by omega) ha)) (Ex.pure _)
      have := hu e he
      omega
    · have ih := loopL l life pos ha r (es ++ [⟨hashInt kv.1, .int kv.1 s.toks, .str kv.2 (s.toks + 1)⟩]) (n + 1) (hashInt kv.1 + 1)
        { s with heap := hp (l ++ [dObj (es ++ [⟨hashInt kv.1, .int kv.1 s.toks, .str kv.2 (s.toks + 1)⟩]) (n + 1)]) life, toks := s.toks + 3 } rfl
        (fun e he => by
          rcases List.mem_append.mp he with h | h
          · have := hu e h; omega
          · rw [List.mem_singleton] at h; subst h; show hashInt kv.1 < _; omega) h2 (by simp; omega)
      have e1 : es ++ entL s.toks (kv :: r) = es ++ [⟨hashInt kv.1, .int kv.1 s.toks, .str kv.2 (s.toks + 1)⟩] ++ entL (s.toks + 3) r := by simp [entL]
      have e2 : n + (r.length + 1) = n + 1 + r.length := by omega
      have e3 : s.toks + 3 * (r.length + 1) = s.toks + 3 + 3 * r.length := by omega
      rw [e1, e2, e3]
      exact ih

theorem Ex.subLong {l : List Obj} {life : Life} {pos : Pos} {kvs : List (Int × Str)} {b : Int} {s : Shared} (ha : n₀ ≤ l.length) (hh : s.heap = hp l life) (hr : Rise b kvs) (hz : kvs.length < 1000) (hl : 15 < kvs.length) :
    Ex p w n₀ ann (subDict (kvs.map (pr pos))) s (2 + 13 * kvs.length) l.length { s with heap := hp (l ++ [dObj (entL s.toks kvs) kvs.length]) life, toks := s.toks + 3 * kvs.length } := by
  unfold subDict
  have e0 : s.heap.objs.size = l.length := by rw [hh, hp_size]
  refine Ex.more (B := 1 + (1 + 13 * kvs.length + 0)) ?_ (by omega)
  refine Ex.bind Ex.alloc ?_
  rw [e0]
  refine Ex.bind (a := ()) (Ex.holding ?_) (Ex.pure _)
  rw [if_neg (by rw [List.length_map]; omega)]
  refine Ex.bind Ex.rule ?_
  refine Ex.bind (a := PUnit.unit) (B' := 0) ?_ (Ex.pure _)
  have := loopL (p := p) (w := w) (ann := ann) l life pos ha kvs [] 0 b { s with heap := s.heap.push { cls := .type "dict", data := .dict #[] } } (by show s.heap.push _ = _; rw [hh, hp_push]; rfl) (fun e he => by cases he) hr (by simpa using hz)
  rw [Nat.zero_add, List.nil_append] at this
  exact this

theorem loopE (pos : Pos) : ∀ (kvs : List (Int × Str)) (s : Shared),
    Ex p w n₀ ann (evalPairs (kvs.map (pr pos))) s (3 * kvs.length) ((entS s.toks kvs).map fun e => (e.key, e.val)) { s with toks := s.toks + 2 * kvs.length }
  | [], s => Ex.pure _
  | kv :: r, s => by
    rw [List.map_cons, evalPairs, List.length_cons]
    refine Ex.more (B := 1 + (2 + (3 * r.length + 0))) ?_ (by omega)
    refine Ex.bind Ex.mkInt (Ex.bind (Ex.holding Ex.prSnd) (Ex.bind (Ex.holding (loopE pos r _)) ?_))
    have e3 : s.toks + 2 * (r.length + 1) = s.toks + 1 + 1 + 2 * r.length := by omega
    rw [e3]
    exact Ex.pure _

theorem loopS (l : List Obj) (life : Life) (ha : n₀ ≤ l.length) : ∀ (kvs : List (Int × Str)) (T : Nat) (es : List DictEntry) (n : Nat) (b : Int) (s : Shared), s.heap = hp (l ++ [dObj es n]) life → Under es b → Rise b kvs → es.length + kvs.length < 1000 →
    Ex p w n₀ ann (forIn ((entS T kvs).map fun e => (e.key, e.val)) PUnit.unit fun (x : Value × Value) (_ : PUnit) => (do PySem.dictSet l.length x.1 x.2; pure (ForInStep.yield PUnit.unit) : Sem (ForInStep PUnit)))
      s (10 * kvs.length) PUnit.unit { s with heap := hp (l ++ [dObj (es ++ entS T kvs) (n + kvs.length)]) life, toks := s.toks + kvs.length }
  | [], T, es, n, b, s, hh, _, _, _ => by
    have : ({ s with heap := hp (l ++ [dObj (es ++ entS T []) (n + 0)]) life, toks := s.toks + 0 } : Shared) = s := by
      obtain ⟨h, g, d, t, o⟩ := s
      simp only [entS, List.append_nil, Nat.add_zero] at hh ⊢
      rw [hh]
    show Ex p w n₀ ann (forIn [] PUnit.unit _) s 0 _ _
    rw [List.forIn_nil, List.length_nil, this]
    exact Ex.pure _
  | kv :: r, T, es, n, b, s, hh, hu, hr, hz => by
    rw [entS, List.map_cons, List.forIn_cons, List.length_cons] at *
    obtain ⟨h1, h2⟩ := hr
    refine Ex.more (B := 10 + 10 * r.length) ?_ (by omega)
    refine Ex.bind (a := ForInStep.yield PUnit.unit) (s₁ := { s with heap := hp (l ++ [dObj (es ++ [⟨hashInt kv.1, .int kv.1 T, .str kv.2 (T + 1)⟩]) (n + 1)]) life, toks := s.toks + 1 }) ?_ ?_
    · refine Ex.bind (B := 10) (B' := 0) (Ex.dictSet hh (fun e he => ?_) (by omega) ha) (Ex.pure _)
      have := hu e he
      omega
    · have ih := loopS l life ha r (T + 2) (es ++ [⟨hashInt kv.1, .int kv.1 T, .str kv.2 (T + 1)⟩]) (n + 1) (hashInt kv.1 + 1)
        { s with heap := hp (l ++ [dObj (es ++ [⟨hashInt kv.1, .int kv.1 T, .str kv.2 (T + 1)⟩]) (n + 1)]) life, toks := s.toks + 1 } rfl
        (fun e he => by
          rcases List.mem_append.mp he with h | h
          · have := hu e h; omega
          · rw [List.mem_singleton] at h; subst h; show hashInt kv.1 < _; omega) h2 (by simp; omega)
      have e2 : n + (r.length + 1) = n + 1 + r.length := by omega
      have e3 : s.toks + (r.length + 1) = s.toks + 1 + r.length := by omega
      have e1 : es ++ (⟨hashInt kv.1, .int kv.1 T, .str kv.2 (T + 1)⟩ : DictEntry) :: entS (T + 2) r = es ++ [⟨hashInt kv.1, .int kv.1 T, .str kv.2 (T + 1)⟩] ++ entS (T + 2) r := by simp
      rw [e1, e2, e3]
      exact ih

theorem Ex.subShort {l : List Obj} {life : Life} {pos : Pos} {kvs : List (Int × Str)} {b : Int} {s : Shared} (ha : n₀ ≤ l.length) (hh : s.heap = hp l life) (hr : Rise b kvs) (hl : kvs.length ≤ 15) :
    Ex p w n₀ ann (subDict (kvs.map (pr pos))) s (2 + 13 * kvs.length) l.length { s with heap := hp (l ++ [dObj (entS s.toks kvs) kvs.length]) life, toks := s.toks + 3 * kvs.length } := by
  unfold subDict
  have e0 : s.heap.objs.size = l.length := by rw [hh, hp_size]
  refine Ex.more (B := 1 + (3 * kvs.length + (10 * kvs.length + 0) + 0)) ?_ (by omega)
  refine Ex.bind Ex.alloc ?_
  rw [e0]
  refine Ex.bind (a := ()) (Ex.holding ?_) (Ex.pure _)
  rw [if_pos (by rw [List.length_map]; omega)]
  refine Ex.bind (loopE pos kvs _) ?_
  refine Ex.holding (Ex.bind (a := PUnit.unit) (B' := 0) ?_ (Ex.pure _))
  have := loopS (p := p) (w := w) (ann := ann) l life ha kvs s.toks [] 0 b { s with heap := s.heap.push { cls := .type "dict", data := .dict #[] }, toks := s.toks + 2 * kvs.length } (by show s.heap.push _ = _; rw [hh, hp_push]; rfl) (fun e he => by cases he) hr (by simp; omega)
  rw [Nat.zero_add, List.nil_append] at this
  have e3 : s.toks + 3 * kvs.length = s.toks + 2 * kvs.length + kvs.length := by omega
  rw [e3]
  exact this
end
end Mine
end
section
set_option maxRecDepth 100000
set_option linter.unusedVariables false
namespace Mine
open PySem PySem.W
section
variable {p : Program} {w : World} {n₀ : Nat} {ann : Option Value}

theorem sub_dict : isSubtype (.type "dict") (.type "dict") = pure true := by rw [isSubtype_type]; kernel_rfl
theorem iter_dict : typeLookup (.type "dict") "__iter__" = pure (some (.builtin "dict.__iter__")) := by rw [typeLookup_type, builtinLookup_eq_fast]; kernel_rfl

theorem Ex.isDict {s : Shared} {a : Addr} {es : List DictEntry} {n : Nat} (ho : s.heap.get? a = some (dObj es n)) : Ex p w n₀ ann (PySem.isInstance (.ref a) (.type "dict")) s 1 true s := by
  unfold PySem.isInstance PySem.typeOf
  refine Ex.bind (B := 1) (B' := 0) (Ex.bind (B := 1) (B' := 0) (Ex.loadPart ho) (Ex.pure _)) ?_
  show Ex p w n₀ ann (isSubtype (.type "dict") (.type "dict")) s 0 true s
  rw [sub_dict]; exact Ex.pure _
theorem Ex.iterOf {s : Shared} {a : Addr} {es : List DictEntry} {n : Nat} (ho : s.heap.get? a = some (dObj es n)) : Ex p w n₀ ann (PySem.specialOf (.ref a) "__iter__") s 1 (some (.builtin "dict.__iter__")) s := by
  unfold PySem.specialOf PySem.typeOf
  refine Ex.bind (B := 1) (B' := 0) (Ex.bind (B := 1) (B' := 0) (Ex.loadPart ho) (Ex.pure _)) ?_
  show Ex p w n₀ ann (typeLookup (.type "dict") "__iter__") s 0 _ s
  rw [iter_dict]; exact Ex.pure _

theorem loopM {l₁ mid : List Obj} {life : Life} {es es2 : List DictEntry} {n m : Nat} (ha : n₀ ≤ l₁.length) (hz : es.length + es2.length < 1000)
    (hk : ∀ i e, es2[i]? = some e → (∃ k t, e.key = .int k t) ∧ ∀ e' ∈ es ++ es2.take i, e'.hash ≠ e.hash)
    (g2 : ∀ (x : List DictEntry) (y : Nat), (hp (l₁ ++ dObj x y :: (mid ++ [dObj es2 m])) life).get? (l₁.length + 1 + mid.length) = some (dObj es2 m)) :
    ∀ (k i : Nat) (s : Shared), i + k = es2.length → s.heap = hp (l₁ ++ dObj (es ++ es2.take i) (n + i) :: (mid ++ [dObj es2 m])) life →
    Ex p w n₀ ann (forIn (List.range' i k) PUnit.unit fun (i : Nat) (_ : PUnit) => (do
                    let __do_lift ← PySem.dictEntries (l₁.length + 1 + mid.length)
                    match __do_lift[i]? with
                      | some e => do
                        PySem.holding [e.key, e.val]
                            (if false = true then do
                              let __do_lift ← PySem.dictFind l₁.length e.key e.hash
                              if __do_lift.isSome = true then do
                                  PySem.rule "dict.merge.duplicate-key"
                                  let __do_lift ← newExc (Value.type "KeyError") [e.key]
                                  raiseNew __do_lift
                                  PySem.dictPut l₁.length e.hash e.key e.val
                                else PySem.dictPut l₁.length e.hash e.key e.val
                            else PySem.dictPut l₁.length e.hash e.key e.val)
                        let __do_lift ← PySem.dictEpoch (l₁.length + 1 + mid.length)
                        if (__do_lift != m) = true then do
                            unsupported "dict.changed-during-merge"
                            Pure.pure (ForInStep.yield PUnit.unit)
                          else Pure.pure (ForInStep.yield PUnit.unit)
                      | x => do
                        unsupported "dict.changed-during-merge"
                        Pure.pure (ForInStep.yield PUnit.unit) : Sem (ForInStep PUnit)))
      s (6 * k) PUnit.unit { s with heap := hp (l₁ ++ dObj (es ++ es2) (n + es2.length) :: (mid ++ [dObj es2 m])) life }
  | 0, i, s, hi, hh => by
    have : ({ s with heap := hp (l₁ ++ dObj (es ++ es2) (n + es2.length) :: (mid ++ [dObj es2 m])) life } : Shared) = s := by
      obtain ⟨h, g, d, t, o⟩ := s
      dsimp only at hh ⊢
      rw [hh, show i = es2.length by omega, List.take_length]
    rw [this, List.range'_zero, List.forIn_nil]
    exact Ex.pure _
  | k + 1, i, s, hi, hh => by
    have hlt : i < es2.length := by omega
    have he : es2[i]? = some es2[i] := List.getElem?_eq_getElem hlt
    obtain ⟨⟨kk, t, hkey⟩, hne⟩ := hk i _ he
    rw [List.range'_succ, List.forIn_cons]
    refine Ex.more (B := (1 + (4 + (1 + 0))) + 6 * k) ?_ (by omega)
    refine Ex.bind (a := ForInStep.yield PUnit.unit) (s₁ := { s with heap := hp (l₁ ++ dObj (es ++ es2.take (i + 1)) (n + (i + 1)) :: (mid ++ [dObj es2 m])) life }) ?_
      (loopM ha hz hk g2 k (i + 1) _ (by omega) rfl)
    refine Ex.bind (Ex.dictEntries (by rw [hh]; exact g2 _ _)) ?_
    have he' : es2.toArray[i]? = some es2[i] := by rw [List.getElem?_toArray]; exact he
    rw [he']
    dsimp only
    refine Ex.bind (a := ()) (s₁ := { s with heap := hp (l₁ ++ dObj (es ++ es2.take (i + 1)) (n + (i + 1)) :: (mid ++ [dObj es2 m])) life }) (Ex.holding ?_) ?_
    · rw [if_neg (by simp)]
      have q : es ++ es2.take (i + 1) = es ++ es2.take i ++ [⟨es2[i].hash, .int kk t, es2[i].val⟩] := by
        rw [List.append_assoc, List.take_succ_eq_append_getElem hlt, ← hkey]
      rw [hkey, q]
      exact Ex.dictPut hh hne (by simp; omega) ha
    · refine Ex.bind (Ex.dictEpoch (g2 _ _)) ?_
      rw [if_neg (by simp)]
      exact Ex.pure _

theorem Ex.merge {l₁ mid : List Obj} {life : Life} {es es2 : List DictEntry} {n m : Nat} {s : Shared} (ha : n₀ ≤ l₁.length) (hs : sysModules < n₀) (hh : s.heap = hp (l₁ ++ dObj es n :: (mid ++ [dObj es2 m])) life) (he : es ≠ []) (hz : es.length + es2.length < 1000)
    (hk : ∀ i e, es2[i]? = some e → (∃ k t, e.key = .int k t) ∧ ∀ e' ∈ es ++ es2.take i, e'.hash ≠ e.hash) :
    Ex p w n₀ ann (mergeMapping l₁.length (.ref (l₁.length + 1 + mid.length)) false) s (5 + 6 * es2.length) () { s with heap := hp (l₁ ++ dObj (es ++ es2) (n + es2.length) :: (mid ++ [dObj es2 m])) life } := by
  have g2 : ∀ (x : List DictEntry) (y : Nat), (hp (l₁ ++ dObj x y :: (mid ++ [dObj es2 m])) life).get? (l₁.length + 1 + mid.length) = some (dObj es2 m) := fun x y => by
    have := hp_get (l₁ ++ dObj x y :: mid) es2 m [] life
    rw [show l₁ ++ dObj x y :: (mid ++ [dObj es2 m]) = (l₁ ++ dObj x y :: mid) ++ dObj es2 m :: [] by simp]
    rw [show l₁.length + 1 + mid.length = (l₁ ++ dObj x y :: mid).length by simp; omega]
    exact this
  have ho2 : s.heap.get? (l₁.length + 1 + mid.length) = some (dObj es2 m) := by rw [hh]; exact g2 ..
  have ho1 : s.heap.get? l₁.length = some (dObj es n) := by rw [hh]; exact hp_get ..
  unfold mergeMapping
  have hsys : ((l₁.length + 1 + mid.length) == sysModules) = false := by
    rw [beq_eq_false_iff_ne]; intro q
    have h1 : @Nat.lt sysModules (l₁.length + 1 + mid.length) := Nat.lt_of_lt_of_le hs (Nat.le_trans ha (by rw [Nat.add_assoc]; exact Nat.le_add_right _ _))
    exact absurd q.symm (Nat.ne_of_lt h1)
  refine Ex.more (B := 1 + (1 + (1 + (1 + (1 + (6 * es2.length + 0)))))) ?_ (by omega)
  refine Ex.bind (Ex.isDict ho2) ?_
  dsimp only
  rw [if_pos rfl]
  refine Ex.bind (Ex.iterOf ho2) ?_
  show Ex p w n₀ ann (if ((l₁.length + 1 + mid.length) == sysModules) = true then _ else _) _ _ _ _
  rw [if_neg (by rw [hsys]; exact Bool.false_ne_true)]
  refine Ex.bind (Ex.dictEntries ho1) ?_
  rw [if_neg (by simpa using he)]
  refine Ex.bind (Ex.dictEntries ho2) ?_
  refine Ex.bind (Ex.dictEpoch ho2) ?_
  refine Ex.bind (a := PUnit.unit) (B' := 0) ?_ (Ex.pure _)
  have := loopM (p := p) (w := w) (ann := ann) (n := n) ha hz hk g2 es2.length 0 s (by omega) (by simpa using hh)
  rw [List.size_toArray, List.range_eq_range']
  exact this
end
end Mine
end
section
set_option maxRecDepth 100000
set_option linter.unusedVariables false
namespace Mine
open PySem PySem.W

def flush (run : List (Sem Value × Sem Value)) (main : Option Addr) : Sem (Option Addr) :=
  if run.isEmpty = true then pure main
  else match main with
    | none => do
      let d ← subDict run
      pure (some d)
    | some d => do
      let sub ← holding [Value.ref d] (subDict run)
      (holding [Value.ref d, Value.ref sub] (mergeMapping d (Value.ref sub) false)).onRaise fun x => do
          let _ ← holding [Value.ref d, x] (runValue (Code.builtin "proto.let_go" { }))
          pure ()
      pure (some d)

abbrev DSt := Option Addr × List (Sem Value × Sem Value)
def it (pos : Pos) (kv : Int × Str) : Option (Sem Value) × Sem Value := (some (pr pos kv).1, (pr pos kv).2)
def Gathers (f : Option (Sem Value) × Sem Value → DSt → Sem (ForInStep DSt)) : Prop :=
  ∀ (k v : Sem Value) (main : Option Addr) (run : List (Sem Value × Sem Value)), f (some k, v) (main, run) =
    if ((run ++ [(k, v)]).length == 17) = true then (do let m ← flush (run ++ [(k, v)]) main; pure (ForInStep.yield (m, []))) else pure (ForInStep.yield (main, run ++ [(k, v)]))

theorem gather {f : Option (Sem Value) × Sem Value → DSt → Sem (ForInStep DSt)} (hf : Gathers f) (pos : Pos) (main : Option Addr) (rest : List (Int × Str)) : ∀ (xs : List (Int × Str)) (run : List (Sem Value × Sem Value)), run.length + xs.length ≤ 16 →
    forIn ((xs ++ rest).map (it pos)) ((main, run) : DSt) f = forIn (rest.map (it pos)) ((main, run ++ xs.map (pr pos)) : DSt) f
  | [], run, _ => by simp
  | kv :: xs, run, h => by
    rw [List.length_cons] at h
    rw [List.cons_append, List.map_cons, List.forIn_cons]
    have e : f (it pos kv) (main, run) = pure (ForInStep.yield (main, run ++ [pr pos kv])) := by
      have := hf (pr pos kv).1 (pr pos kv).2 main run
      rw [if_neg (by simp; omega)] at this
      exact this
    rw [e, pure_bind]
    have := gather hf pos main rest xs (run ++ [pr pos kv]) (by simp; omega)
    simpa using this

def subsL : Nat → List (List (Int × Str)) → List Obj
  | _, [] => []
  | T, c :: r => dObj (entL T c) c.length :: subsL (T + 3 * c.length) r

theorem entL_length : ∀ (c : List (Int × Str)) (T : Nat), (entL T c).length = c.length
  | [], _ => rfl
  | _ :: r, T => by rw [entL, List.length_cons, entL_length r, List.length_cons]
theorem entS_length : ∀ (c : List (Int × Str)) (T : Nat), (entS T c).length = c.length
  | [], _ => rfl
  | _ :: r, T => by rw [entS, List.length_cons, entS_length r, List.length_cons]
theorem entL_append : ∀ (c d : List (Int × Str)) (T : Nat), entL T (c ++ d) = entL T c ++ entL (T + 3 * c.length) d
  | [], d, T => by simp [entL]
  | kv :: c, d, T => by
    rw [List.cons_append, entL, entL_append c d, entL, List.cons_append, List.length_cons]
    rw [show T + 3 + 3 * c.length = T + 3 * (c.length + 1) by omega]
def last1 (b : Int) : List (Int × Str) → Int
  | [] => b
  | kv :: r => last1 (hashInt kv.1 + 1) r
theorem Rise.app : ∀ {c d : List (Int × Str)} {b : Int}, Rise b (c ++ d) → Rise b c ∧ Rise (last1 b c) d
  | [], _, _, h => ⟨trivial, h⟩
  | _ :: _, _, _, h => ⟨⟨h.1, (Rise.app h.2).1⟩, (Rise.app h.2).2⟩
theorem last1_le : ∀ {c : List (Int × Str)} {b : Int}, Rise b c → b ≤ last1 b c
  | [], _, _ => Int.le_refl _
  | kv :: r, b, h => by have := last1_le h.2; have := h.1; show b ≤ last1 (hashInt kv.1 + 1) r; omega
theorem under_entL : ∀ {c : List (Int × Str)} {T : Nat} {b : Int} {es : List DictEntry}, Under es b → Rise b c → Under (es ++ entL T c) (last1 b c)
  | [], _, _, _, hu, _ => by simpa [entL, last1] using hu
  | kv :: r, T, b, es, hu, hr => by
    have := under_entL (c := r) (T := T + 3) (b := hashInt kv.1 + 1) (es := es ++ [⟨hashInt kv.1, .int kv.1 T, .str kv.2 (T + 1)⟩]) (fun e he => by
      rcases List.mem_append.mp he with h | h
      · have := hu e h; have := hr.1; omega
      · rw [List.mem_singleton] at h; subst h; show hashInt kv.1 < _; omega) hr.2
    simpa [entL, last1] using this
theorem hkL : ∀ {c : List (Int × Str)} {T : Nat} {b : Int} {es : List DictEntry}, Under es b → Rise b c →
    ∀ i e, (entL T c)[i]? = some e → (∃ k t, e.key = .int k t) ∧ ∀ e' ∈ es ++ (entL T c).take i, e'.hash ≠ e.hash
  | [], _, _, _, _, _, i, e, h => by simp [entL] at h
  | kv :: r, T, b, es, hu, hr, 0, e, h => by
    simp only [entL, List.getElem?_cons_zero, Option.some.injEq] at h
    subst h
    refine ⟨⟨_, _, rfl⟩, fun e' he' => ?_⟩
    rw [List.take_zero, List.append_nil] at he'
    have := hu e' he'
    have := hr.1
    show e'.hash ≠ hashInt kv.1
    omega
  | kv :: r, T, b, es, hu, hr, i + 1, e, h => by
    rw [entL, List.getElem?_cons_succ] at h
    have := hkL (c := r) (T := T + 3) (b := hashInt kv.1 + 1) (es := es ++ [⟨hashInt kv.1, .int kv.1 T, .str kv.2 (T + 1)⟩]) (fun e he => by
      rcases List.mem_append.mp he with h | h
      · have := hu e h; have := hr.1; omega
      · rw [List.mem_singleton] at h; subst h; show hashInt kv.1 < _; omega) hr.2 i e h
    simpa [entL] using this
theorem hkS : ∀ {c : List (Int × Str)} {T : Nat} {b : Int} {es : List DictEntry}, Under es b → Rise b c →
    ∀ i e, (entS T c)[i]? = some e → (∃ k t, e.key = .int k t) ∧ ∀ e' ∈ es ++ (entS T c).take i, e'.hash ≠ e.hash
  | [], _, _, _, _, _, i, e, h => by simp [entS] at h
  | kv :: r, T, b, es, hu, hr, 0, e, h => by
    simp only [entS, List.getElem?_cons_zero, Option.some.injEq] at h
    subst h
    refine ⟨⟨_, _, rfl⟩, fun e' he' => ?_⟩
    rw [List.take_zero, List.append_nil] at he'
    have := hu e' he'
    have := hr.1
    show e'.hash ≠ hashInt kv.1
    omega
  | kv :: r, T, b, es, hu, hr, i + 1, e, h => by
    rw [entS, List.getElem?_cons_succ] at h
    have := hkS (c := r) (T := T + 2) (b := hashInt kv.1 + 1) (es := es ++ [⟨hashInt kv.1, .int kv.1 T, .str kv.2 (T + 1)⟩]) (fun e he => by
      rcases List.mem_append.mp he with h | h
      · have := hu e h; have := hr.1; omega
      · rw [List.mem_singleton] at h; subst h; show hashInt kv.1 < _; omega) hr.2 i e h
    simpa [entS] using this

section
variable {p : Program} {w : World} {n₀ : Nat} {ann : Option Value}

theorem Ex.flushFirst {l : List Obj} {life : Life} {pos : Pos} {c : List (Int × Str)} {b : Int} {s : Shared} (ha : n₀ ≤ l.length) (hh : s.heap = hp l life) (hr : Rise b c) (hl : c.length = 17) :
    Ex p w n₀ ann (flush (c.map (pr pos)) none) s 223 (some l.length) { s with heap := hp (l ++ [dObj (entL s.toks c) c.length]) life, toks := s.toks + 3 * c.length } := by
  unfold flush
  rw [if_neg (by simp; rintro rfl; cases hl)]
  have := Ex.bind (B' := 0) (g := fun d => (Pure.pure (some d) : Sem (Option Addr))) (Ex.subLong (p := p) (w := w) (ann := ann) (pos := pos) ha hh hr (by omega) (by omega)) (Ex.pure _)
  exact this.more (by omega)

theorem Ex.flushNext {l mid : List Obj} {life : Life} {pos : Pos} {c : List (Int × Str)} {es : List DictEntry} {n : Nat} {b : Int} {s : Shared} (ha : n₀ ≤ l.length) (hs : sysModules < n₀) (hh : s.heap = hp (l ++ dObj es n :: mid) life) (he : es ≠ []) (hu : Under es b)
    (hr : Rise b c) (hl : c.length = 17) (hz : es.length + c.length < 1000) :
    Ex p w n₀ ann (flush (c.map (pr pos)) (some l.length)) s 330 (some l.length) { s with heap := hp (l ++ dObj (es ++ entL s.toks c) (n + c.length) :: (mid ++ [dObj (entL s.toks c) c.length])) life, toks := s.toks + 3 * c.length } := by
  unfold flush
  rw [if_neg (by simp; rintro rfl; cases hl)]
  have e1 := Ex.subLong (p := p) (w := w) (n₀ := n₀) (ann := ann) (pos := pos) (l := l ++ dObj es n :: mid) (by simp; omega) hh hr (by omega) (by omega)
  have e2 := Ex.merge (p := p) (w := w) (ann := ann) (mid := mid) (m := c.length) (es2 := entL s.toks c) (n := n) (life := life) (s := { s with heap := hp (l ++ dObj es n :: mid ++ [dObj (entL s.toks c) c.length]) life, toks := s.toks + 3 * c.length }) ha hs (by simp) he (by rw [entL_length]; omega) (hkL hu hr)
  have el : (l ++ dObj es n :: mid).length = l.length + 1 + mid.length := by simp; omega
  rw [el] at e1
  rw [entL_length] at e2
  refine Ex.more (B := (2 + 13 * c.length) + ((5 + 6 * c.length) + 0)) ?_ (by omega)
  exact Ex.bind (Ex.holding e1) (Ex.bind (Ex.onRaise (Ex.holding e2)) (Ex.pure _))

theorem Ex.flushLast {l mid : List Obj} {life : Life} {pos : Pos} {c : List (Int × Str)} {es : List DictEntry} {n : Nat} {b : Int} {s : Shared} (ha : n₀ ≤ l.length) (hs : sysModules < n₀) (hh : s.heap = hp (l ++ dObj es n :: mid) life) (he : es ≠ []) (hu : Under es b)
    (hr : Rise b c) (h0 : c ≠ []) (hl : c.length ≤ 15) (hz : es.length + c.length < 1000) :
    Ex p w n₀ ann (flush (c.map (pr pos)) (some l.length)) s 330 (some l.length) { s with heap := hp (l ++ dObj (es ++ entS s.toks c) (n + c.length) :: (mid ++ [dObj (entS s.toks c) c.length])) life, toks := s.toks + 3 * c.length } := by
  unfold flush
  rw [if_neg (by simp; exact h0)]
  have e1 := Ex.subShort (p := p) (w := w) (n₀ := n₀) (ann := ann) (pos := pos) (l := l ++ dObj es n :: mid) (by simp; omega) hh hr hl
  have e2 := Ex.merge (p := p) (w := w) (ann := ann) (mid := mid) (m := c.length) (es2 := entS s.toks c) (n := n) (life := life) (s := { s with heap := hp (l ++ dObj es n :: mid ++ [dObj (entS s.toks c) c.length]) life, toks := s.toks + 3 * c.length }) ha hs (by simp) he (by rw [entS_length]; omega) (hkS hu hr)
  have el : (l ++ dObj es n :: mid).length = l.length + 1 + mid.length := by simp; omega
  rw [el] at e1
  rw [entS_length] at e2
  refine Ex.more (B := (2 + 13 * c.length) + ((5 + 6 * c.length) + 0)) ?_ (by omega)
  exact Ex.bind (Ex.holding e1) (Ex.bind (Ex.onRaise (Ex.holding e2)) (Ex.pure _))
end
end Mine
end
section
set_option maxRecDepth 100000
set_option linter.unusedVariables false
namespace Mine
open PySem PySem.W
section
variable {p : Program} {w : World} {n₀ : Nat} {ann : Option Value}

theorem split17 {c : List (Int × Str)} (h : c.length = 17) : ∃ c' x, c = c' ++ [x] ∧ c'.length = 16 := by
  have hne : c ≠ [] := by rintro rfl; cases h
  exact ⟨c.dropLast, c.getLast hne, (List.dropLast_concat_getLast hne).symm, by rw [List.length_dropLast]; omega⟩

theorem chunk_eq {f : Option (Sem Value) × Sem Value → DSt → Sem (ForInStep DSt)} (hf : Gathers f) (pos : Pos) (main : Option Addr) {c : List (Int × Str)} (h : c.length = 17) (rest : List (Int × Str)) :
    forIn ((c ++ rest).map (it pos)) ((main, []) : DSt) f = (do let m ← flush (c.map (pr pos)) main; forIn (rest.map (it pos)) ((m, []) : DSt) f) := by
  obtain ⟨c', x, rfl, h16⟩ := split17 h
  rw [List.append_assoc, gather hf pos main ([x] ++ rest) c' [] (by simp; omega)]
  rw [List.nil_append, List.cons_append, List.nil_append, List.map_cons, List.forIn_cons]
  have e : f (it pos x) (main, c'.map (pr pos)) = (do let m ← flush ((c' ++ [x]).map (pr pos)) main; pure (ForInStep.yield (m, []))) := by
    have := hf (pr pos x).1 (pr pos x).2 main (c'.map (pr pos))
    rw [if_pos (by simp; omega)] at this
    rw [List.map_append]
    exact this
  rw [e, bind_assoc]
  congr 1

theorem loopD {f : Option (Sem Value) × Sem Value → DSt → Sem (ForInStep DSt)} (hf : Gathers f) {pos : Pos} {l : List Obj} {life : Life} (ha : n₀ ≤ l.length) (hs : sysModules < n₀) {last : List (Int × Str)} (hla : last.length ≤ 15) :
    ∀ (cs : List (List (Int × Str))) (mid : List Obj) (es : List DictEntry) (n : Nat) (b : Int) (s : Shared), (∀ c ∈ cs, c.length = 17) → s.heap = hp (l ++ dObj es n :: mid) life → es ≠ [] → Under es b → Rise b cs.flatten → es.length + cs.flatten.length < 1000 →
    Ex p w n₀ ann (forIn ((cs.flatten ++ last).map (it pos)) ((some l.length, []) : DSt) f) s (330 * cs.length) (some l.length, last.map (pr pos))
      { s with heap := hp (l ++ dObj (es ++ entL s.toks cs.flatten) (n + cs.flatten.length) :: (mid ++ subsL s.toks cs)) life, toks := s.toks + 3 * cs.flatten.length }
  | [], mid, es, n, b, s, _, hh, _, _, _, _ => by
    have : ({ s with heap := hp (l ++ dObj (es ++ entL s.toks []) (n + 0) :: (mid ++ [])) life, toks := s.toks + 3 * 0 } : Shared) = s := by
      obtain ⟨h, g, d, t, o⟩ := s
      simp only [entL, List.append_nil, Nat.add_zero, Nat.mul_zero] at hh ⊢
      rw [hh]
    have e := gather hf pos (some l.length) [] last [] (by simp; omega)
    rw [List.append_nil, List.map_nil, List.forIn_nil, List.nil_append] at e
    show Ex p w n₀ ann (forIn ((([] : List (List (Int × Str))).flatten ++ last).map (it pos)) ((some l.length, []) : DSt) f) s 0 _ { s with heap := hp (l ++ dObj (es ++ entL s.toks []) (n + 0) :: (mid ++ [])) life, toks := s.toks + 3 * 0 }
    rw [this, List.flatten_nil, List.nil_append, e]
    exact Ex.pure _
  | c :: cs, mid, es, n, b, s, hc, hh, he, hu, hr, hz => by
    have h17 : c.length = 17 := hc c (.head _)
    rw [List.flatten_cons] at hr hz ⊢
    rw [List.length_append] at hz
    obtain ⟨r1, r2⟩ := Rise.app hr
    rw [List.append_assoc, chunk_eq hf pos _ h17, List.length_cons]
    refine Ex.more (B := 330 + 330 * cs.length) ?_ (by omega)
    refine Ex.bind (Ex.flushNext ha hs hh he hu r1 h17 (by omega)) ?_
    have ih := loopD hf (pos := pos) ha hs hla cs (mid ++ [dObj (entL s.toks c) c.length]) (es ++ entL s.toks c) (n + c.length) (last1 b c)
      { s with heap := hp (l ++ dObj (es ++ entL s.toks c) (n + c.length) :: (mid ++ [dObj (entL s.toks c) c.length])) life, toks := s.toks + 3 * c.length }
      (fun x hx => hc x (.tail _ hx)) rfl (by simp [he]) (under_entL hu r1) r2 (by rw [List.length_append, entL_length]; omega)
    have q1 : es ++ entL s.toks (c ++ cs.flatten) = es ++ entL s.toks c ++ entL (s.toks + 3 * c.length) cs.flatten := by rw [entL_append, List.append_assoc]
    have q2 : n + (c ++ cs.flatten).length = n + c.length + cs.flatten.length := by rw [List.length_append]; omega
    have q3 : s.toks + 3 * (c ++ cs.flatten).length = s.toks + 3 * c.length + 3 * cs.flatten.length := by rw [List.length_append]; omega
    have q4 : mid ++ subsL s.toks (c :: cs) = mid ++ [dObj (entL s.toks c) c.length] ++ subsL (s.toks + 3 * c.length) cs := by simp [subsL]
    rw [q1, q2, q3, q4]
    exact ih

/-- the whole display: a first chunk, further chunks of 17, a short rest -/
theorem Ex.display {pos : Pos} {l : List Obj} {life : Life} {c : List (Int × Str)} {cs : List (List (Int × Str))} {last : List (Int × Str)} {b : Int} {s : Shared} (ha : n₀ ≤ l.length) (hs : sysModules < n₀) (hh : s.heap = hp l life)
    (hc : c.length = 17) (hcs : ∀ c ∈ cs, c.length = 17) (h0 : last ≠ []) (hla : last.length ≤ 15) (hr : Rise b ((c ++ cs.flatten) ++ last)) (hz : ((c ++ cs.flatten) ++ last).length < 1000) :
    Ex p w n₀ ann (dictDisplay (((c ++ cs.flatten) ++ last).map (it pos))) s (600 + 330 * cs.length) (.ref l.length)
      { s with heap := hp (l ++ dObj (entL s.toks (c ++ cs.flatten) ++ entS (s.toks + 3 * (c ++ cs.flatten).length) last) ((c ++ cs.flatten) ++ last).length :: (subsL (s.toks + 3 * c.length) cs ++ [dObj (entS (s.toks + 3 * (c ++ cs.flatten).length) last) last.length])) life,
               toks := s.toks + 3 * ((c ++ cs.flatten) ++ last).length } := by
  obtain ⟨r12, r3⟩ := Rise.app hr
  obtain ⟨r1, r2⟩ := Rise.app r12
  rw [List.length_append, List.length_append] at hz
  unfold dictDisplay
  dsimp only
  refine Ex.more (B := (223 + 330 * cs.length) + (330 + 0)) ?_ (by omega)
  refine Ex.bind (a := ((some l.length, last.map (pr pos)) : DSt)) (s₁ := { s with heap := hp (l ++ dObj (entL s.toks (c ++ cs.flatten)) (c ++ cs.flatten).length :: subsL (s.toks + 3 * c.length) cs) life, toks := s.toks + 3 * (c ++ cs.flatten).length }) ?_ ?_
  · rw [List.append_assoc, chunk_eq (fun k v main run => rfl) pos none hc]
    refine Ex.bind (Ex.flushFirst ha hh r1 hc) ?_
    have q1 : entL s.toks (c ++ cs.flatten) = entL s.toks c ++ entL (s.toks + 3 * c.length) cs.flatten := entL_append ..
    have q2 : (c ++ cs.flatten).length = c.length + cs.flatten.length := by rw [List.length_append]
    have q3 : s.toks + 3 * (c.length + cs.flatten.length) = s.toks + 3 * c.length + 3 * cs.flatten.length := by omega
    rw [q1, q2, q3]
    exact loopD (p := p) (w := w) (n₀ := n₀) (ann := ann) (by intro k v main run; rfl) (pos := pos) ha hs hla cs [] (entL s.toks c) c.length (last1 b c)
      { s with heap := hp (l ++ [dObj (entL s.toks c) c.length]) life, toks := s.toks + 3 * c.length } hcs rfl
      (by intro q; have := congrArg List.length q; rw [entL_length, hc] at this; cases this) (by have := under_entL (T := s.toks) (es := []) (b := b) (fun e he => by cases he) r1; simpa using this) r2 (by rw [entL_length]; omega)
  · have e := Ex.flushLast (p := p) (w := w) (ann := ann) (pos := pos) (l := l) (mid := subsL (s.toks + 3 * c.length) cs) (life := life) (c := last) (es := entL s.toks (c ++ cs.flatten)) (n := (c ++ cs.flatten).length) (b := last1 b (c ++ cs.flatten))
      (s := { s with heap := hp (l ++ dObj (entL s.toks (c ++ cs.flatten)) (c ++ cs.flatten).length :: subsL (s.toks + 3 * c.length) cs) life, toks := s.toks + 3 * (c ++ cs.flatten).length }) ha hs rfl
      (by intro q; have := congrArg List.length q; rw [entL_length, List.length_append, hc] at this; simp at this) (by have := under_entL (T := s.toks) (es := []) (b := b) (fun e he => by cases he) r12; simpa using this) r3 h0 hla (by rw [entL_length, List.length_append]; omega)
    have q2 : ((c ++ cs.flatten) ++ last).length = (c ++ cs.flatten).length + last.length := List.length_append
    have q3 : s.toks + 3 * ((c ++ cs.flatten).length + last.length) = s.toks + 3 * (c ++ cs.flatten).length + 3 * last.length := by omega
    rw [q2, q3]
    exact Ex.bind e (Ex.pure _)
end
end Mine
end
section
set_option maxRecDepth 100000
set_option linter.unusedVariables false
namespace Mine
open PySem PySem.W

def tblOf : List (Option PySem.Expr) → List PySem.Expr → List (Int × Str)
  | some (.Constant (.int k) _ _) :: ks, .Constant (.str v) _ _ :: vs => (k, v) :: tblOf ks vs
  | _, _ => []
def allConst : List (Option PySem.Expr) → List PySem.Expr → Bool
  | [], [] => true
  | some (.Constant (.int _) _ _) :: ks, .Constant (.str _) _ _ :: vs => allConst ks vs
  | _, _ => false
theorem items_eq (env : Env) (pos : Pos) : ∀ (ks : List (Option PySem.Expr)) (vs : List PySem.Expr), allConst ks vs = true →
    (evalEachOpt ks env).zip ((evalEach vs env).map fun v => do let x ← v; standAt pos; pure x) = (tblOf ks vs).map (it pos)
  | [], [], _ => rfl
  | some (.Constant (.int k) _ _) :: ks, .Constant (.str v) _ _ :: vs, h => by
    rw [arm_evalEachOpt_cons, arm_evalEach_cons, List.map_cons, List.zip_cons_cons, items_eq env pos ks vs h, tblOf, List.map_cons]
    rfl
  | [], _ :: _, h => by cases h
  | none :: _, _, h => by simp [allConst] at h
  | some e :: ks, [], h => by simp [allConst] at h
def chunks : Nat → List (Int × Str) → List (List (Int × Str))
  | 0, _ => []
  | n + 1, l => l.take 17 :: chunks n (l.drop 17)
theorem chunks_flat : ∀ (n : Nat) (l : List (Int × Str)), (chunks n l).flatten ++ l.drop (17 * n) = l
  | 0, l => by simp [chunks]
  | n + 1, l => by
    rw [chunks, List.flatten_cons, List.append_assoc]
    have := chunks_flat n (l.drop 17)
    rw [List.drop_drop] at this
    rw [show 17 * (n + 1) = 17 + 17 * n by omega, this, List.take_append_drop]
theorem chunks_17 : ∀ (n : Nat) (l : List (Int × Str)), 17 * n ≤ l.length → ∀ c ∈ chunks n l, c.length = 17
  | 0, _, _, _, h => by cases h
  | n + 1, l, hl, c, h => by
    rw [chunks, List.mem_cons] at h
    rcases h with rfl | h
    · rw [List.length_take]; omega
    · exact chunks_17 n _ (by rw [List.length_drop]; omega) c h
theorem chunks_length : ∀ (n : Nat) (l : List (Int × Str)), (chunks n l).length = n
  | 0, _ => rfl
  | n + 1, l => by rw [chunks, List.length_cons, chunks_length n]
theorem subsL_length : ∀ (cs : List (List (Int × Str))) (T : Nat), (subsL T cs).length = cs.length
  | [], _ => rfl
  | _ :: r, T => by rw [subsL, List.length_cons, subsL_length r, List.length_cons]
def riseB : Int → List (Int × Str) → Bool
  | _, [] => true
  | b, kv :: r => decide (b ≤ hashInt kv.1) && riseB (hashInt kv.1 + 1) r
theorem rise_of : ∀ {l : List (Int × Str)} {b : Int}, riseB b l = true → Rise b l
  | [], _, _ => trivial
  | _ :: _, _, h => by
    rw [riseB, Bool.and_eq_true, decide_eq_true_eq] at h
    exact ⟨h.1, rise_of h.2⟩

/-- the objects that a display of n + 1 chunks of 17 and a rest leaves, begun at the token T -/
def dictObjs (T n : Nat) (tbl : List (Int × Str)) : List Obj :=
  let c := tbl.take 17
  let cs := chunks n (tbl.drop 17)
  let last := tbl.drop (17 * (n + 1))
  dObj (entL T (c ++ cs.flatten) ++ entS (T + 3 * (c ++ cs.flatten).length) last) tbl.length :: (subsL (T + 3 * c.length) cs ++ [dObj (entS (T + 3 * (c ++ cs.flatten).length) last) last.length])

section
variable {p : Program} {w : World} {n₀ : Nat} {ann : Option Value}
theorem Ex.displayT {pos : Pos} {l : List Obj} {life : Life} {tbl : List (Int × Str)} {n : Nat} {s : Shared} (ha : n₀ ≤ l.length) (hs : sysModules < n₀) (hh : s.heap = hp l life)
    (h1 : 17 * (n + 1) < tbl.length) (h2 : tbl.length ≤ 17 * (n + 1) + 15) (hr : riseB 0 tbl = true) (hz : tbl.length < 1000) :
    Ex p w n₀ ann (dictDisplay (tbl.map (it pos))) s (600 + 330 * n) (.ref l.length) { s with heap := hp (l ++ dictObjs s.toks n tbl) life, toks := s.toks + 3 * tbl.length } := by
  have e : (tbl.take 17 ++ (chunks n (tbl.drop 17)).flatten) ++ tbl.drop (17 * (n + 1)) = tbl := by
    have := chunks_flat n (tbl.drop 17)
    rw [List.drop_drop] at this
    rw [List.append_assoc, show 17 * (n + 1) = 17 + 17 * n by omega, this, List.take_append_drop]
  have := Ex.display (p := p) (w := w) (n₀ := n₀) (ann := ann) (pos := pos) (l := l) (life := life) (c := tbl.take 17) (cs := chunks n (tbl.drop 17)) (last := tbl.drop (17 * (n + 1))) (b := 0) (s := s) ha hs hh
    (by rw [List.length_take]; omega) (chunks_17 n _ (by rw [List.length_drop]; omega)) (by intro q; have := congrArg List.length q; rw [List.length_drop, List.length_nil] at this; omega)
    (by rw [List.length_drop]; omega) (by rw [e]; exact rise_of hr) (by rw [e]; exact hz)
  rw [e, chunks_length] at this
  exact this

theorem exec_dict (n : Str) (npos : Pos) (ks : List (Option PySem.Expr)) (vs : List PySem.Expr) (dpos pos : Pos) (env : Env) : exec (.Assign [.Name n npos] (.Dict ks vs dpos) pos) env = (do
    standAt pos
    standAt dpos
    let v ← dictDisplay ((evalEachOpt ks env).zip ((evalEach vs env).map fun v => do let x ← v; standAt dpos; pure x))
    assignStores env v (← swappedStores [.Name n npos] (.Dict ks vs dpos) env) ((assignEach [.Name n npos] env).map (·.2))) := by
  rw [arm_exec_Assign]
  rfl

theorem assign_dict {nm : Str} {npos dpos pos pos0 : Pos} {ks : List (Option PySem.Expr)} {vs : List PySem.Expr} {env : Env} {l : List Obj} {life : Life} {n N : Nat} {s : Shared} {c : Code} {f : Frame} {r} (ha : n₀ ≤ l.length) (hs : sysModules < n₀) (hh : s.heap = hp l life)
    (hc : allConst ks vs = true) (h1 : 17 * (n + 1) < (tblOf ks vs).length) (h2 : (tblOf ks vs).length ≤ 17 * (n + 1) + 15) (hr : riseB 0 (tblOf ks vs) = true) (hz : (tblOf ks vs).length < 1000)
    (h : ∀ pos', segRun treeTable p w n₀ ann 1 N { s with heap := hp (l ++ dictObjs s.toks n (tblOf ks vs)) life, toks := s.toks + 3 * (tblOf ks vs).length }
      ⟨((do assignStores env (.ref l.length) (← swappedStores [.Name nm npos] (.Dict ks vs dpos) env) ((assignEach [.Name nm npos] env).map (·.2)) : Sem Flow)).wrap (fun f => match f with | .next => (execs [] env).wrap doneF deadEnd id id | f => doneF f) deadEnd id id, c, pos', [f]⟩ = some r) :
    segRun treeTable p w n₀ ann 1 (N + (600 + 330 * n) + 1 + 1) s (piecesOf [.Assign [.Name nm npos] (.Dict ks vs dpos) pos] env c pos0 [f]) = some r := by
  unfold piecesOf
  rw [execs_cons_wrap, exec_dict, items_eq env dpos ks vs hc]
  rw [Sem.bind_eq_wrap', Sem.wrap_wrap]
  refine Ex.standAt (p := p) (w := w) (n₀ := n₀) (ann := ann) _ _ _ _ c pos0 f [] _ r fun p1 => ?_
  rw [Sem.bind_eq_wrap', Sem.wrap_wrap]
  refine Ex.standAt (p := p) (w := w) (n₀ := n₀) (ann := ann) _ _ _ _ c p1 f [] _ r fun p2 => ?_
  rw [Sem.bind_eq_wrap', Sem.wrap_wrap]
  exact Ex.displayT (p := p) (w := w) (n₀ := n₀) (ann := ann) ha hs hh h1 h2 hr hz _ _ _ _ c p2 f [] N r h
end
end Mine
end
section
namespace Mine
/-- the inner loop of the overlap table: c is the sign at hand, k the length tried -/
def ovW (p tb : List Nat) (c : Nat) : Nat → Nat → Nat
  | 0, _ => 0
  | f + 1, k => if p.getD k 0 = c then k + 1 else if k = 0 then 0 else ovW p tb c f (tb.getD (k - 1) 0)
/-- the table of the first n signs -/
def ovT (p : List Nat) : Nat → List Nat
  | 0 => []
  | 1 => [0]
  | n + 2 => ovT p (n + 1) ++ [ovW p (ovT p (n + 1)) (p.getD (n + 1) 0) (n + 2) ((ovT p (n + 1)).getD n 0)]
theorem ovT_length (p : List Nat) : ∀ n, (ovT p n).length = n
  | 0 => rfl
  | 1 => rfl
  | n + 2 => by rw [ovT, List.length_append, ovT_length p (n + 1)]; rfl

/-- k is the length of a proper end of the first n signs that is a beginning, too -/
def Bd (p : List Nat) (n k : Nat) : Prop := k < n ∧ ∀ i, i < k → p.getD i 0 = p.getD (n - k + i) 0
def MaxBd (p : List Nat) (n k : Nat) : Prop := Bd p n k ∧ ∀ k', Bd p n k' → k' ≤ k

theorem bd_zero {p : List Nat} {n : Nat} (h : 0 < n) : Bd p n 0 := ⟨h, fun i hi => absurd hi (Nat.not_lt_zero i)⟩
theorem bd_ext {p : List Nat} {n k : Nat} : Bd p (n + 1) (k + 1) ↔ Bd p n k ∧ p.getD k 0 = p.getD n 0 := by
  constructor
  · rintro ⟨h1, h2⟩
    refine ⟨⟨by omega, fun i hi => ?_⟩, ?_⟩
    · have := h2 i (by omega)
      rwa [show n + 1 - (k + 1) + i = n - k + i by omega] at this
    · have := h2 k (by omega)
      rwa [show n + 1 - (k + 1) + k = n by omega] at this
  · rintro ⟨⟨h1, h2⟩, h3⟩
    refine ⟨by omega, fun i hi => ?_⟩
    rw [show n + 1 - (k + 1) + i = n - k + i by omega]
    by_cases q : i = k
    · subst q; rw [show n - i + i = n by omega]; exact h3
    · exact h2 i (by omega)
theorem bd_down {p : List Nat} {n k j : Nat} (h : Bd p n k) (hj : Bd p n j) (hlt : j < k) : Bd p k j := by
  refine ⟨hlt, fun i hi => ?_⟩
  have h1 := hj.2 i hi
  have h2 := h.2 (k - j + i) (by omega)
  have := h.1
  rw [h1, h2]
  congr 1
  omega
theorem bd_up {p : List Nat} {n k j : Nat} (h : Bd p n k) (hj : Bd p k j) : Bd p n j := by
  have a := h.1
  have b := hj.1
  refine ⟨by omega, fun i hi => ?_⟩
  have h1 := hj.2 i hi
  have h2 := h.2 (k - j + i) (by omega)
  rw [h1, h2]
  congr 1
  omega
theorem ovW_max {p tb : List Nat} {n : Nat} (ht : ∀ j, j < n → MaxBd p (j + 1) (tb.getD j 0)) : ∀ (f k : Nat), k < f → Bd p n k → (∀ k', Bd p n k' → p.getD k' 0 = p.getD n 0 → k' ≤ k) → MaxBd p (n + 1) (ovW p tb (p.getD n 0) f k)
  | 0, _, h, _, _ => absurd h (Nat.not_lt_zero _)
  | f + 1, k, hf, hb, hm => by
    unfold ovW
    by_cases h1 : p.getD k 0 = p.getD n 0
    · rw [if_pos h1]
      refine ⟨bd_ext.mpr ⟨hb, h1⟩, fun k' hk' => ?_⟩
      cases k' with
      | zero => omega
      | succ k' => have := bd_ext.mp hk'; have := hm k' this.1 this.2; omega
    · rw [if_neg h1]
      by_cases h0 : k = 0
      · rw [if_pos h0]
        subst h0
        refine ⟨bd_zero (by omega), fun k' hk' => ?_⟩
        cases k' with
        | zero => omega
        | succ k' =>
          have q := bd_ext.mp hk'
          have := hm k' q.1 q.2
          obtain rfl : k' = 0 := by omega
          exact absurd q.2 h1
      · rw [if_neg h0]
        have hk : k < n := hb.1
        have hM := ht (k - 1) (by omega)
        rw [show k - 1 + 1 = k by omega] at hM
        refine ovW_max ht f _ (by have := hM.1.1; omega) (bd_up hb hM.1) fun k' h2 h3 => ?_
        have h4 := hm k' h2 h3
        have h5 : k' ≠ k := by rintro rfl; exact h1 h3
        exact hM.2 k' (bd_down hb h2 (by omega))
theorem ovT_prefix (p : List Nat) (n j : Nat) (h : j < n) : (ovT p (n + 1)).getD j 0 = (ovT p n).getD j 0 := by
  cases n with
  | zero => omega
  | succ n =>
    rw [ovT, List.getD_eq_getElem?_getD, List.getElem?_append_left (by rw [ovT_length]; exact h), ← List.getD_eq_getElem?_getD]
theorem ovT_max (p : List Nat) : ∀ n j, j < n → MaxBd p (j + 1) ((ovT p n).getD j 0)
  | 0, _, h => absurd h (Nat.not_lt_zero _)
  | 1, j, h => by
    obtain rfl : j = 0 := by omega
    refine ⟨bd_zero (by omega), fun k' hk' => ?_⟩
    have := hk'.1
    show k' ≤ 0
    omega
  | n + 2, j, h => by
    by_cases q : j < n + 1
    · rw [ovT_prefix p (n + 1) j q]; exact ovT_max p (n + 1) j q
    · obtain rfl : j = n + 1 := by omega
      have e : (ovT p (n + 2)).getD (n + 1) 0 = ovW p (ovT p (n + 1)) (p.getD (n + 1) 0) (n + 2) ((ovT p (n + 1)).getD n 0) := by
        rw [ovT, List.getD_eq_getElem?_getD, List.getElem?_append_right (by rw [ovT_length]; omega), ovT_length, Nat.sub_self]; rfl
      rw [e]
      have hM := ovT_max p (n + 1) n (by omega)
      exact ovW_max (fun j hj => ovT_max p (n + 1) j hj) _ _ (by have := hM.1.1; omega) hM.1 fun k' h2 _ => hM.2 k' h2
end Mine
end
section
set_option maxRecDepth 100000
set_option linter.unusedVariables false
set_option Elab.async false
namespace Mine
open PySem PySem.W
noncomputable section
def stm (k : Nat) : PySem.Stmt := match PySem.Challenge.pw_re0100_01.main.body[k]? with | some s => s | none => .Pass default
def fP : PySem.Stmt → PySem.Arguments | .FunctionDef _ a _ _ _ _ _ _ _ _ => a | _ => default
def fB : PySem.Stmt → List PySem.Stmt | .FunctionDef _ _ b _ _ _ _ _ _ _ => b | _ => default
def fS : PySem.Stmt → PySem.Scope | .FunctionDef _ _ _ _ _ _ s _ _ _ => s | _ => default
def ob0 (P : PySem.Params) : PySem.Obj := PySem.W.boot_o_0 P
def ob1 (P : PySem.Params) : PySem.Obj := PySem.W.boot_o_1 P
def ob2 (P : PySem.Params) : PySem.Obj := PySem.W.boot_o_2 P
def ob3 (P : PySem.Params) : PySem.Obj := PySem.W.boot_o_3 P
def ob4 (P : PySem.Params) : PySem.Obj := PySem.W.boot_o_4 P
def ob5 (P : PySem.Params) : PySem.Obj := PySem.W.boot_o_5 P
def ob6 (P : PySem.Params) : PySem.Obj := PySem.W.boot_o_6 P
def ob7 (P : PySem.Params) : PySem.Obj := PySem.W.boot_o_7 P
def ob8 (P : PySem.Params) : PySem.Obj := PySem.W.boot_o_8 P
def ob9 (P : PySem.Params) : PySem.Obj := PySem.W.boot_o_9 P
def ob10 (P : PySem.Params) : PySem.Obj := PySem.W.boot_o_10 P
def ob11 (P : PySem.Params) : PySem.Obj := (PySem.Obj.mk (PySem.Value.type "code") none (PySem.Data.fields (List.toArray [(PySem.Value.str (PySem.Str.ofString "<module>") 182), (PySem.Value.str (PySem.Str.ofString "<module>") 183), (PySem.Value.str (PySem.Str.ofString "/claim/cut.py") 184), (PySem.Value.int 1 0), (PySem.Value.int 0 0), (PySem.Value.int 0 0), (PySem.Value.int 0 0), (PySem.Value.int 0 0), (PySem.Value.ref 11), (PySem.Value.bool Bool.false), (PySem.Value.int 181 0), (PySem.Value.ref 12), PySem.Value.none, PySem.Value.none, PySem.Value.none, PySem.Value.none, (PySem.Value.int 185 0), (PySem.Value.int 1 0), (PySem.Value.str (PySem.Str.ofString "/claim/cut.py") 186)])) (List.toArray []))
def ob12 (P : PySem.Params) : PySem.Obj := (PySem.Obj.mk (PySem.Value.type "frame") none PySem.Data.plain (List.toArray [(some (PySem.Value.ref 13)), (some (PySem.Value.ref 3)), (some (PySem.Value.ref 3)), none, (some (PySem.Value.str (PySem.Str.ofString "__main__") 164)), none, (some (PySem.Value.ref 0))]))
def ob13 (P : PySem.Params) : PySem.Obj := (PySem.Obj.mk (PySem.Value.type "dict") none (PySem.Data.dict (List.toArray [(PySem.DictEntry.mk (PySem.PyData.keyHash P (PySem.Str.ofString "__name__")) (PySem.Value.str (PySem.Str.ofString "__name__") 165) (PySem.Value.str (PySem.Str.ofString "cpy313.stringprep") 199)), (PySem.DictEntry.mk (PySem.PyData.keyHash P (PySem.Str.ofString "__doc__")) (PySem.Value.str (PySem.Str.ofString "__doc__") 166) PySem.Value.none), (PySem.DictEntry.mk (PySem.PyData.keyHash P (PySem.Str.ofString "__package__")) (PySem.Value.str (PySem.Str.ofString "__package__") 167) PySem.Value.none), (PySem.DictEntry.mk (PySem.PyData.keyHash P (PySem.Str.ofString "__loader__")) (PySem.Value.str (PySem.Str.ofString "__loader__") 168) (PySem.Value.builtin "__main__.__loader__#opaque")), (PySem.DictEntry.mk (PySem.PyData.keyHash P (PySem.Str.ofString "__spec__")) (PySem.Value.str (PySem.Str.ofString "__spec__") 169) PySem.Value.none), (PySem.DictEntry.mk (PySem.PyData.keyHash P (PySem.Str.ofString "__annotations__")) (PySem.Value.str (PySem.Str.ofString "__annotations__") 170) (PySem.Value.ref 6)), (PySem.DictEntry.mk (PySem.PyData.keyHash P (PySem.Str.ofString "__builtins__")) (PySem.Value.str (PySem.Str.ofString "__builtins__") 171) (PySem.Value.ref 4)), (PySem.DictEntry.mk (PySem.PyData.keyHash P (PySem.Str.ofString "__file__")) (PySem.Value.str (PySem.Str.ofString "__file__") 173) (PySem.Value.str (PySem.Str.ofString "/claim/cut.py") 172)), (PySem.DictEntry.mk (PySem.PyData.keyHash P (PySem.Str.ofString "__cached__")) (PySem.Value.str (PySem.Str.ofString "__cached__") 174) PySem.Value.none), (PySem.DictEntry.mk (PySem.PyData.keyHash P (PySem.Str.ofString "_generate_overlap_table")) (PySem.Value.str (PySem.Str.ofString "_generate_overlap_table") 198) (PySem.Value.ref 21)), (PySem.DictEntry.mk (PySem.PyData.keyHash P (PySem.Str.ofString "b1_set")) (PySem.Value.str (PySem.Str.ofString "b1_set") 260) (PySem.Value.ref 29)), (PySem.DictEntry.mk (PySem.PyData.keyHash P (PySem.Str.ofString "in_table_b1")) (PySem.Value.str (PySem.Str.ofString "in_table_b1") 267) (PySem.Value.ref 39))]) 12) (List.toArray []))
def ob14 (P : PySem.Params) : PySem.Obj := (PySem.Obj.mk PySem.Value.none none (PySem.Data.fields (List.toArray [(PySem.Value.int 2 0), (PySem.Value.int 0 0), (PySem.Value.ref 20), (PySem.Value.int 16 0), (PySem.Value.int 0 0), (PySem.Value.ref 38)])) (List.toArray []))
def ob15 (P : PySem.Params) : PySem.Obj := (PySem.Obj.mk (PySem.Value.type "tuple") none (PySem.Data.seq (List.toArray [(PySem.Value.str (PySem.Str.ofString "prefix") 192), (PySem.Value.str (PySem.Str.ofString "table") 193), (PySem.Value.str (PySem.Str.ofString "i") 194), (PySem.Value.str (PySem.Str.ofString "idx") 195)]) 0) (List.toArray []))
def ob16 (P : PySem.Params) : PySem.Obj := (PySem.Obj.mk PySem.Value.none none (PySem.Data.func (@PySem.FuncData.mk (PySem.Str.ofString "_generate_overlap_table") (PySem.Str.ofString "_generate_overlap_table") (fP (stm 1)) (PySem.FuncBody.stmts (fB (stm 1))) (fS (stm 1)) 0 [] PySem.Value.none PySem.Value.none PySem.Value.none PySem.Value.none none PySem.Value.none PySem.Value.none 0)) (List.toArray []))
def ob17 (P : PySem.Params) : PySem.Obj := (PySem.Obj.mk (PySem.Value.type "code") none (PySem.Data.fields (List.toArray [(PySem.Value.str (PySem.Str.ofString "_generate_overlap_table") 189), (PySem.Value.str (PySem.Str.ofString "_generate_overlap_table") 190), (PySem.Value.str (PySem.Str.ofString "/claim/cut.py") 191), (PySem.Value.int 2 0), (PySem.Value.int 1 0), (PySem.Value.int 0 0), (PySem.Value.int 0 0), (PySem.Value.int 3 0), (PySem.Value.ref 15), (PySem.Value.bool Bool.true), (PySem.Value.int 181 0), (PySem.Value.ref 16), PySem.Value.none, (PySem.Value.ref 17), (PySem.Value.ref 18), (PySem.Value.ref 19), (PySem.Value.int 196 0), (PySem.Value.int 2 0), (PySem.Value.str (PySem.Str.ofString "/claim/cut.py") 197)])) (List.toArray []))
def ob18 (P : PySem.Params) : PySem.Obj := (PySem.Obj.mk (PySem.Value.type "function") none (PySem.Data.func (@PySem.FuncData.mk (PySem.Str.ofString "_generate_overlap_table") (PySem.Str.ofString "_generate_overlap_table") (fP (stm 1)) (PySem.FuncBody.stmts (fB (stm 1))) (fS (stm 1)) 3 [] PySem.Value.none PySem.Value.none PySem.Value.none (PySem.Value.str (PySem.Str.ofString "cpy313.re._compiler") 187) none (PySem.Value.ref 20) PySem.Value.none 0)) (List.toArray []))
def ob19 (P : PySem.Params) : PySem.Obj := (PySem.Obj.mk (PySem.Value.type "list") none (PySem.Data.seq (List.toArray [(PySem.Value.int 173 201), (PySem.Value.int 847 202), (PySem.Value.int 6150 203), (PySem.Value.int 6155 204), (PySem.Value.int 6156 205), (PySem.Value.int 6157 206), (PySem.Value.int 8203 207), (PySem.Value.int 8204 208), (PySem.Value.int 8205 209), (PySem.Value.int 8288 210), (PySem.Value.int 65279 211)]) 0) (List.toArray []))
def ob20 (P : PySem.Params) : PySem.Obj := (PySem.Obj.mk (PySem.Value.type "range") none (PySem.Data.fields (List.toArray [(PySem.Value.int 65024 212), (PySem.Value.int 65040 213), (PySem.Value.int 1 214)])) (List.toArray []))
def ob21 (P : PySem.Params) : PySem.Obj := (PySem.Obj.mk (PySem.Value.type "list") none (PySem.Data.seq (List.toArray [(PySem.Value.int 65024 217), (PySem.Value.int 65025 218), (PySem.Value.int 65026 219), (PySem.Value.int 65027 220), (PySem.Value.int 65028 221), (PySem.Value.int 65029 222), (PySem.Value.int 65030 223), (PySem.Value.int 65031 224), (PySem.Value.int 65032 225), (PySem.Value.int 65033 226), (PySem.Value.int 65034 227), (PySem.Value.int 65035 228), (PySem.Value.int 65036 229), (PySem.Value.int 65037 230), (PySem.Value.int 65038 231), (PySem.Value.int 65039 232)]) 18) (List.toArray []))
def ob22 (P : PySem.Params) : PySem.Obj := (PySem.Obj.mk (PySem.Value.type "range_iterator") none (PySem.Data.fields (List.toArray [(PySem.Value.int 65040 0), (PySem.Value.int 0 0), (PySem.Value.int 1 0)])) (List.toArray []))
def ob23 (P : PySem.Params) : PySem.Obj := (PySem.Obj.mk (PySem.Value.type "StopIteration") none (PySem.Data.fields (List.toArray [(PySem.Value.ref 26), PySem.Value.none, PySem.Value.none, PySem.Value.none, (PySem.Value.bool Bool.false), PySem.Value.none])) (List.toArray []))
def ob24 (P : PySem.Params) : PySem.Obj := (PySem.Obj.mk (PySem.Value.type "list") none (PySem.Data.seq (List.toArray [(PySem.Value.int 173 201), (PySem.Value.int 847 202), (PySem.Value.int 6150 203), (PySem.Value.int 6155 204), (PySem.Value.int 6156 205), (PySem.Value.int 6157 206), (PySem.Value.int 8203 207), (PySem.Value.int 8204 208), (PySem.Value.int 8205 209), (PySem.Value.int 8288 210), (PySem.Value.int 65279 211), (PySem.Value.int 65024 217), (PySem.Value.int 65025 218), (PySem.Value.int 65026 219), (PySem.Value.int 65027 220), (PySem.Value.int 65028 221), (PySem.Value.int 65029 222), (PySem.Value.int 65030 223), (PySem.Value.int 65031 224), (PySem.Value.int 65032 225), (PySem.Value.int 65033 226), (PySem.Value.int 65034 227), (PySem.Value.int 65035 228), (PySem.Value.int 65036 229), (PySem.Value.int 65037 230), (PySem.Value.int 65038 231), (PySem.Value.int 65039 232)]) 0) (List.toArray []))
def ob25 (P : PySem.Params) : PySem.Obj := (PySem.Obj.mk (PySem.Value.type "set") none (PySem.Data.set (List.toArray [(65024, (PySem.Value.int 65024 217)), (65025, (PySem.Value.int 65025 218)), (65026, (PySem.Value.int 65026 219)), (65027, (PySem.Value.int 65027 220)), (65028, (PySem.Value.int 65028 221)), (65029, (PySem.Value.int 65029 222)), (6150, (PySem.Value.int 6150 203)), (65030, (PySem.Value.int 65030 223)), (65031, (PySem.Value.int 65031 224)), (65032, (PySem.Value.int 65032 225)), (65033, (PySem.Value.int 65033 226)), (6155, (PySem.Value.int 6155 204)), (6156, (PySem.Value.int 6156 205)), (6157, (PySem.Value.int 6157 206)), (8203, (PySem.Value.int 8203 207)), (8204, (PySem.Value.int 8204 208)), (8205, (PySem.Value.int 8205 209)), (65034, (PySem.Value.int 65034 227)), (65035, (PySem.Value.int 65035 228)), (65036, (PySem.Value.int 65036 229)), (65037, (PySem.Value.int 65037 230)), (65038, (PySem.Value.int 65038 231)), (65039, (PySem.Value.int 65039 232)), (173, (PySem.Value.int 173 201)), (847, (PySem.Value.int 847 202)), (8288, (PySem.Value.int 8288 210)), (65279, (PySem.Value.int 65279 211))]) 29 (PySem.SetTable.mk 127 (List.toArray [0, 1, 2, 3, 4, 5, 6, 7, 8, 9, 10, 11, 12, 13, 14, 15, 16, 17, 18, 19, 20, 21, 22, 45, 79, 96, 127]) (List.toArray []) 0 (Bool.not (PySem.Params.followText P "set-order")) 2 Bool.true)) (List.toArray []))
def ob26 (P : PySem.Params) : PySem.Obj := (PySem.Obj.mk (PySem.Value.type "list_iterator") none (PySem.Data.fields (List.toArray [PySem.Value.none, (PySem.Value.int 27 0)])) (List.toArray []))
def ob27 (P : PySem.Params) : PySem.Obj := (PySem.Obj.mk (PySem.Value.type "StopIteration") none (PySem.Data.fields (List.toArray [(PySem.Value.ref 31), PySem.Value.none, PySem.Value.none, PySem.Value.none, (PySem.Value.bool Bool.false), PySem.Value.none])) (List.toArray []))
def ob28 (P : PySem.Params) : PySem.Obj := (PySem.Obj.mk (PySem.Value.type "tuple") none (PySem.Data.seq (List.toArray [(PySem.Value.str (PySem.Str.ofString "code") 264)]) 0) (List.toArray []))
def ob29 (P : PySem.Params) : PySem.Obj := (PySem.Obj.mk PySem.Value.none none (PySem.Data.func (@PySem.FuncData.mk (PySem.Str.ofString "in_table_b1") (PySem.Str.ofString "in_table_b1") (fP (stm 4)) (PySem.FuncBody.stmts (fB (stm 4))) (fS (stm 4)) 0 [] PySem.Value.none PySem.Value.none PySem.Value.none PySem.Value.none none PySem.Value.none PySem.Value.none 0)) (List.toArray []))
def ob30 (P : PySem.Params) : PySem.Obj := (PySem.Obj.mk (PySem.Value.type "code") none (PySem.Data.fields (List.toArray [(PySem.Value.str (PySem.Str.ofString "in_table_b1") 261), (PySem.Value.str (PySem.Str.ofString "in_table_b1") 262), (PySem.Value.str (PySem.Str.ofString "/claim/cut.py") 263), (PySem.Value.int 16 0), (PySem.Value.int 1 0), (PySem.Value.int 0 0), (PySem.Value.int 0 0), (PySem.Value.int 3 0), (PySem.Value.ref 33), (PySem.Value.bool Bool.true), (PySem.Value.int 181 0), (PySem.Value.ref 34), PySem.Value.none, (PySem.Value.ref 35), (PySem.Value.ref 36), (PySem.Value.ref 37), (PySem.Value.int 265 0), (PySem.Value.int 16 0), (PySem.Value.str (PySem.Str.ofString "/claim/cut.py") 266)])) (List.toArray []))
def ob31 (P : PySem.Params) : PySem.Obj := (PySem.Obj.mk (PySem.Value.type "function") none (PySem.Data.func (@PySem.FuncData.mk (PySem.Str.ofString "in_table_b1") (PySem.Str.ofString "in_table_b1") (fP (stm 4)) (PySem.FuncBody.stmts (fB (stm 4))) (fS (stm 4)) 3 [] PySem.Value.none PySem.Value.none PySem.Value.none (PySem.Value.str (PySem.Str.ofString "cpy313.stringprep") 199) none (PySem.Value.ref 38) PySem.Value.none 0)) (List.toArray []))
def ob32 (P : PySem.Params) : PySem.Obj := (PySem.Obj.mk (PySem.Value.type "dict") none (PySem.Data.dict (List.toArray [(PySem.DictEntry.mk (PySem.PyData.keyHash P (PySem.Str.ofString "__name__")) (PySem.Value.str (PySem.Str.ofString "__name__") 165) (PySem.Value.str (PySem.Str.ofString "cpy313.stringprep") 199)), (PySem.DictEntry.mk (PySem.PyData.keyHash P (PySem.Str.ofString "__doc__")) (PySem.Value.str (PySem.Str.ofString "__doc__") 166) PySem.Value.none), (PySem.DictEntry.mk (PySem.PyData.keyHash P (PySem.Str.ofString "__package__")) (PySem.Value.str (PySem.Str.ofString "__package__") 167) PySem.Value.none), (PySem.DictEntry.mk (PySem.PyData.keyHash P (PySem.Str.ofString "__loader__")) (PySem.Value.str (PySem.Str.ofString "__loader__") 168) (PySem.Value.builtin "__main__.__loader__#opaque")), (PySem.DictEntry.mk (PySem.PyData.keyHash P (PySem.Str.ofString "__spec__")) (PySem.Value.str (PySem.Str.ofString "__spec__") 169) PySem.Value.none), (PySem.DictEntry.mk (PySem.PyData.keyHash P (PySem.Str.ofString "__annotations__")) (PySem.Value.str (PySem.Str.ofString "__annotations__") 170) (PySem.Value.ref 6)), (PySem.DictEntry.mk (PySem.PyData.keyHash P (PySem.Str.ofString "__builtins__")) (PySem.Value.str (PySem.Str.ofString "__builtins__") 171) (PySem.Value.ref 4)), (PySem.DictEntry.mk (PySem.PyData.keyHash P (PySem.Str.ofString "__file__")) (PySem.Value.str (PySem.Str.ofString "__file__") 173) (PySem.Value.str (PySem.Str.ofString "/claim/cut.py") 172)), (PySem.DictEntry.mk (PySem.PyData.keyHash P (PySem.Str.ofString "__cached__")) (PySem.Value.str (PySem.Str.ofString "__cached__") 174) PySem.Value.none), (PySem.DictEntry.mk (PySem.PyData.keyHash P (PySem.Str.ofString "_generate_overlap_table")) (PySem.Value.str (PySem.Str.ofString "_generate_overlap_table") 198) (PySem.Value.ref 21)), (PySem.DictEntry.mk (PySem.PyData.keyHash P (PySem.Str.ofString "b1_set")) (PySem.Value.str (PySem.Str.ofString "b1_set") 260) (PySem.Value.ref 29)), (PySem.DictEntry.mk (PySem.PyData.keyHash P (PySem.Str.ofString "in_table_b1")) (PySem.Value.str (PySem.Str.ofString "in_table_b1") 267) (PySem.Value.ref 39)), (PySem.DictEntry.mk (PySem.PyData.keyHash P (PySem.Str.ofString "b3_exceptions")) (PySem.Value.str (PySem.Str.ofString "b3_exceptions") 2218) (PySem.Value.ref 40))]) 13) (List.toArray []))
def ob33 (P : PySem.Params) : PySem.Obj := (PySem.Obj.mk (PySem.Value.type "dict") none (PySem.Data.dict (List.toArray [(PySem.DictEntry.mk (PySem.PyData.keyHash P (PySem.Str.ofString "__name__")) (PySem.Value.str (PySem.Str.ofString "__name__") 165) (PySem.Value.str (PySem.Str.ofString "law_re0100_01") 2227)), (PySem.DictEntry.mk (PySem.PyData.keyHash P (PySem.Str.ofString "__doc__")) (PySem.Value.str (PySem.Str.ofString "__doc__") 166) PySem.Value.none), (PySem.DictEntry.mk (PySem.PyData.keyHash P (PySem.Str.ofString "__package__")) (PySem.Value.str (PySem.Str.ofString "__package__") 167) PySem.Value.none), (PySem.DictEntry.mk (PySem.PyData.keyHash P (PySem.Str.ofString "__loader__")) (PySem.Value.str (PySem.Str.ofString "__loader__") 168) (PySem.Value.builtin "__main__.__loader__#opaque")), (PySem.DictEntry.mk (PySem.PyData.keyHash P (PySem.Str.ofString "__spec__")) (PySem.Value.str (PySem.Str.ofString "__spec__") 169) PySem.Value.none), (PySem.DictEntry.mk (PySem.PyData.keyHash P (PySem.Str.ofString "__annotations__")) (PySem.Value.str (PySem.Str.ofString "__annotations__") 170) (PySem.Value.ref 6)), (PySem.DictEntry.mk (PySem.PyData.keyHash P (PySem.Str.ofString "__builtins__")) (PySem.Value.str (PySem.Str.ofString "__builtins__") 171) (PySem.Value.ref 4)), (PySem.DictEntry.mk (PySem.PyData.keyHash P (PySem.Str.ofString "__file__")) (PySem.Value.str (PySem.Str.ofString "__file__") 173) (PySem.Value.str (PySem.Str.ofString "/claim/cut.py") 172)), (PySem.DictEntry.mk (PySem.PyData.keyHash P (PySem.Str.ofString "__cached__")) (PySem.Value.str (PySem.Str.ofString "__cached__") 174) PySem.Value.none), (PySem.DictEntry.mk (PySem.PyData.keyHash P (PySem.Str.ofString "_generate_overlap_table")) (PySem.Value.str (PySem.Str.ofString "_generate_overlap_table") 198) (PySem.Value.ref 21)), (PySem.DictEntry.mk (PySem.PyData.keyHash P (PySem.Str.ofString "b1_set")) (PySem.Value.str (PySem.Str.ofString "b1_set") 260) (PySem.Value.ref 29)), (PySem.DictEntry.mk (PySem.PyData.keyHash P (PySem.Str.ofString "in_table_b1")) (PySem.Value.str (PySem.Str.ofString "in_table_b1") 267) (PySem.Value.ref 39)), (PySem.DictEntry.mk (PySem.PyData.keyHash P (PySem.Str.ofString "b3_exceptions")) (PySem.Value.str (PySem.Str.ofString "b3_exceptions") 2218) (PySem.Value.ref 40)), (PySem.DictEntry.mk (PySem.PyData.keyHash P (PySem.Str.ofString "map_table_b3")) (PySem.Value.str (PySem.Str.ofString "map_table_b3") 2226) (PySem.Value.ref 85)), (PySem.DictEntry.mk (PySem.PyData.keyHash P (PySem.Str.ofString "_law_typed")) (PySem.Value.str (PySem.Str.ofString "_law_typed") 2234) (PySem.Value.ref 90)), (PySem.DictEntry.mk (PySem.PyData.keyHash P (PySem.Str.ofString "_law_line")) (PySem.Value.str (PySem.Str.ofString "_law_line") 2240) (PySem.Value.ref 95)), (PySem.DictEntry.mk (PySem.PyData.keyHash P (PySem.Str.ofString "law")) (PySem.Value.str (PySem.Str.ofString "law") 2246) (PySem.Value.ref 100))]) 17) (List.toArray []))
def ob34 (P : PySem.Params) : PySem.Obj := (PySem.Obj.mk PySem.Value.none none (PySem.Data.fields (List.toArray [(PySem.Value.int 2 0), (PySem.Value.int 0 0), (PySem.Value.ref 20), (PySem.Value.int 16 0), (PySem.Value.int 0 0), (PySem.Value.ref 38), (PySem.Value.int 19 0), (PySem.Value.int 0 0), (PySem.Value.ref 84), (PySem.Value.int 25 0), (PySem.Value.int 0 0), (PySem.Value.ref 89), (PySem.Value.int 34 0), (PySem.Value.int 0 0), (PySem.Value.ref 94), (PySem.Value.int 36 0), (PySem.Value.int 0 0), (PySem.Value.ref 99)])) (List.toArray []))
def ob35 (P : PySem.Params) : PySem.Obj := (PySem.Obj.mk (PySem.Value.type "tuple") none (PySem.Data.seq (List.toArray [(PySem.Value.str (PySem.Str.ofString "code") 2222), (PySem.Value.str (PySem.Str.ofString "r") 2223)]) 0) (List.toArray []))
def ob36 (P : PySem.Params) : PySem.Obj := (PySem.Obj.mk PySem.Value.none none (PySem.Data.func (@PySem.FuncData.mk (PySem.Str.ofString "map_table_b3") (PySem.Str.ofString "map_table_b3") (fP (stm 6)) (PySem.FuncBody.stmts (fB (stm 6))) (fS (stm 6)) 0 [] PySem.Value.none PySem.Value.none PySem.Value.none PySem.Value.none none PySem.Value.none PySem.Value.none 0)) (List.toArray []))
def ob37 (P : PySem.Params) : PySem.Obj := (PySem.Obj.mk (PySem.Value.type "code") none (PySem.Data.fields (List.toArray [(PySem.Value.str (PySem.Str.ofString "map_table_b3") 2219), (PySem.Value.str (PySem.Str.ofString "map_table_b3") 2220), (PySem.Value.str (PySem.Str.ofString "/claim/cut.py") 2221), (PySem.Value.int 19 0), (PySem.Value.int 1 0), (PySem.Value.int 0 0), (PySem.Value.int 0 0), (PySem.Value.int 3 0), (PySem.Value.ref 79), (PySem.Value.bool Bool.true), (PySem.Value.int 181 0), (PySem.Value.ref 80), PySem.Value.none, (PySem.Value.ref 81), (PySem.Value.ref 82), (PySem.Value.ref 83), (PySem.Value.int 2224 0), (PySem.Value.int 19 0), (PySem.Value.str (PySem.Str.ofString "/claim/cut.py") 2225)])) (List.toArray []))
def ob38 (P : PySem.Params) : PySem.Obj := (PySem.Obj.mk (PySem.Value.type "function") none (PySem.Data.func (@PySem.FuncData.mk (PySem.Str.ofString "map_table_b3") (PySem.Str.ofString "map_table_b3") (fP (stm 6)) (PySem.FuncBody.stmts (fB (stm 6))) (fS (stm 6)) 3 [] PySem.Value.none PySem.Value.none PySem.Value.none (PySem.Value.str (PySem.Str.ofString "cpy313.stringprep") 199) none (PySem.Value.ref 84) PySem.Value.none 0)) (List.toArray []))
def ob39 (P : PySem.Params) : PySem.Obj := (PySem.Obj.mk PySem.Value.none none (PySem.Data.func (@PySem.FuncData.mk (PySem.Str.ofString "_law_typed") (PySem.Str.ofString "_law_typed") (fP (stm 8)) (PySem.FuncBody.stmts (fB (stm 8))) (fS (stm 8)) 0 [] PySem.Value.none PySem.Value.none PySem.Value.none PySem.Value.none none PySem.Value.none PySem.Value.none 0)) (List.toArray []))
def ob40 (P : PySem.Params) : PySem.Obj := (PySem.Obj.mk (PySem.Value.type "code") none (PySem.Data.fields (List.toArray [(PySem.Value.str (PySem.Str.ofString "_law_typed") 2229), (PySem.Value.str (PySem.Str.ofString "_law_typed") 2230), (PySem.Value.str (PySem.Str.ofString "/claim/cut.py") 2231), (PySem.Value.int 25 0), (PySem.Value.int 2 0), (PySem.Value.int 0 0), (PySem.Value.int 0 0), (PySem.Value.int 3 0), (PySem.Value.ref 86), (PySem.Value.bool Bool.true), (PySem.Value.int 181 0), (PySem.Value.ref 87), PySem.Value.none, PySem.Value.none, PySem.Value.none, (PySem.Value.ref 88), (PySem.Value.int 2232 0), (PySem.Value.int 25 0), (PySem.Value.str (PySem.Str.ofString "/claim/cut.py") 2233)])) (List.toArray []))
def ob41 (P : PySem.Params) : PySem.Obj := (PySem.Obj.mk (PySem.Value.type "function") none (PySem.Data.func (@PySem.FuncData.mk (PySem.Str.ofString "_law_typed") (PySem.Str.ofString "_law_typed") (fP (stm 8)) (PySem.FuncBody.stmts (fB (stm 8))) (fS (stm 8)) 3 [] PySem.Value.none PySem.Value.none PySem.Value.none (PySem.Value.str (PySem.Str.ofString "law_re0100_01") 2227) none (PySem.Value.ref 89) PySem.Value.none 0)) (List.toArray []))
def ob42 (P : PySem.Params) : PySem.Obj := (PySem.Obj.mk PySem.Value.none none (PySem.Data.func (@PySem.FuncData.mk (PySem.Str.ofString "_law_line") (PySem.Str.ofString "_law_line") (fP (stm 9)) (PySem.FuncBody.stmts (fB (stm 9))) (fS (stm 9)) 0 [] PySem.Value.none PySem.Value.none PySem.Value.none PySem.Value.none none PySem.Value.none PySem.Value.none 0)) (List.toArray []))
def ob43 (P : PySem.Params) : PySem.Obj := (PySem.Obj.mk (PySem.Value.type "code") none (PySem.Data.fields (List.toArray [(PySem.Value.str (PySem.Str.ofString "_law_line") 2235), (PySem.Value.str (PySem.Str.ofString "_law_line") 2236), (PySem.Value.str (PySem.Str.ofString "/claim/cut.py") 2237), (PySem.Value.int 34 0), (PySem.Value.int 2 0), (PySem.Value.int 0 0), (PySem.Value.int 0 0), (PySem.Value.int 3 0), (PySem.Value.ref 91), (PySem.Value.bool Bool.true), (PySem.Value.int 181 0), (PySem.Value.ref 92), PySem.Value.none, PySem.Value.none, PySem.Value.none, (PySem.Value.ref 93), (PySem.Value.int 2238 0), (PySem.Value.int 34 0), (PySem.Value.str (PySem.Str.ofString "/claim/cut.py") 2239)])) (List.toArray []))
def ob44 (P : PySem.Params) : PySem.Obj := (PySem.Obj.mk (PySem.Value.type "function") none (PySem.Data.func (@PySem.FuncData.mk (PySem.Str.ofString "_law_line") (PySem.Str.ofString "_law_line") (fP (stm 9)) (PySem.FuncBody.stmts (fB (stm 9))) (fS (stm 9)) 3 [] PySem.Value.none PySem.Value.none PySem.Value.none (PySem.Value.str (PySem.Str.ofString "law_re0100_01") 2227) none (PySem.Value.ref 94) PySem.Value.none 0)) (List.toArray []))
def ob45 (P : PySem.Params) : PySem.Obj := (PySem.Obj.mk PySem.Value.none none (PySem.Data.func (@PySem.FuncData.mk (PySem.Str.ofString "law") (PySem.Str.ofString "law") (fP (stm 10)) (PySem.FuncBody.stmts (fB (stm 10))) (fS (stm 10)) 0 [] PySem.Value.none PySem.Value.none PySem.Value.none PySem.Value.none none PySem.Value.none PySem.Value.none 0)) (List.toArray []))
def ob46 (P : PySem.Params) : PySem.Obj := (PySem.Obj.mk (PySem.Value.type "code") none (PySem.Data.fields (List.toArray [(PySem.Value.str (PySem.Str.ofString "law") 2241), (PySem.Value.str (PySem.Str.ofString "law") 2242), (PySem.Value.str (PySem.Str.ofString "/claim/cut.py") 2243), (PySem.Value.int 36 0), (PySem.Value.int 1 0), (PySem.Value.int 0 0), (PySem.Value.int 0 0), (PySem.Value.int 3 0), (PySem.Value.ref 96), (PySem.Value.bool Bool.true), (PySem.Value.int 181 0), (PySem.Value.ref 97), PySem.Value.none, PySem.Value.none, PySem.Value.none, (PySem.Value.ref 98), (PySem.Value.int 2244 0), (PySem.Value.int 36 0), (PySem.Value.str (PySem.Str.ofString "/claim/cut.py") 2245)])) (List.toArray []))
def ob47 (P : PySem.Params) : PySem.Obj := (PySem.Obj.mk (PySem.Value.type "function") none (PySem.Data.func (@PySem.FuncData.mk (PySem.Str.ofString "law") (PySem.Str.ofString "law") (fP (stm 10)) (PySem.FuncBody.stmts (fB (stm 10))) (fS (stm 10)) 3 [] PySem.Value.none PySem.Value.none PySem.Value.none (PySem.Value.str (PySem.Str.ofString "law_re0100_01") 2227) none (PySem.Value.ref 99) PySem.Value.none 0)) (List.toArray []))
def heapP (P : PySem.Params) : PySem.Heap := hp [ob0 P, ob1 P, ob2 P, ob3 P, ob4 P, ob5 P, ob6 P, ob7 P, ob8 P, ob9 P, ob10 P, ob7 P, ob8 P, ob11 P, ob12 P] {}
def objsA (P : PySem.Params) : List PySem.Obj := [ob0 P, ob1 P, ob2 P, ob13 P, ob4 P, ob5 P, ob6 P, ob7 P, ob8 P, ob9 P, ob10 P, ob7 P, ob14 P, ob11 P, ob12 P, ob7 P, ob8 P, ob15 P, ob7 P, ob16 P, ob17 P, ob18 P, ob19 P, ob20 P, ob21 P, ob22 P, ob7 P, ob23 P, ob24 P, ob25 P, ob26 P, ob7 P, ob27 P, ob7 P, ob8 P, ob28 P, ob7 P, ob29 P, ob30 P, ob31 P]
def objsD (P : PySem.Params) : List PySem.Obj := [ob0 P, ob1 P, ob2 P, ob32 P, ob4 P, ob5 P, ob6 P, ob7 P, ob8 P, ob9 P, ob10 P, ob7 P, ob14 P, ob11 P, ob12 P, ob7 P, ob8 P, ob15 P, ob7 P, ob16 P, ob17 P, ob18 P, ob19 P, ob20 P, ob21 P, ob22 P, ob7 P, ob23 P, ob24 P, ob25 P, ob26 P, ob7 P, ob27 P, ob7 P, ob8 P, ob28 P, ob7 P, ob29 P, ob30 P, ob31 P]
def objsC (P : PySem.Params) : List PySem.Obj := [ob0 P, ob1 P, ob2 P, ob33 P, ob4 P, ob5 P, ob6 P, ob7 P, ob8 P, ob9 P, ob10 P, ob7 P, ob34 P, ob11 P, ob12 P, ob7 P, ob8 P, ob15 P, ob7 P, ob16 P, ob17 P, ob18 P, ob19 P, ob20 P, ob21 P, ob22 P, ob7 P, ob23 P, ob24 P, ob25 P, ob26 P, ob7 P, ob27 P, ob7 P, ob8 P, ob28 P, ob7 P, ob29 P, ob30 P, ob31 P]
def objsC2 (P : PySem.Params) : List PySem.Obj := [ob7 P, ob8 P, ob35 P, ob7 P, ob36 P, ob37 P, ob38 P, ob7 P, ob8 P, ob39 P, ob40 P, ob41 P, ob7 P, ob8 P, ob42 P, ob43 P, ob44 P, ob7 P, ob8 P, ob45 P, ob46 P, ob47 P]
abbrev pg : PySem.Program := PySem.Challenge.pw_re0100_01
def env0 : Env := { scope := pg.main.scope, locals := mainNs, globals := mainNs, cells := [], code := .ref 13, frame := some 14 }
def c0 : Code := .body (behindTheImports pg) env0
def q0 : Pos := ⟨0, 0, 0, 0⟩
def ann0 : Option Value := some (.ref 6)
def sP (w : World) (os : OsState) : Shared := ⟨heapP w.params, #[], boot_drawn, 187, os⟩
def sA (w : World) (os : OsState) : Shared := ⟨hp (objsA w.params) {}, #[], boot_drawn, 268, os⟩
def stsA : List Stmt := pg.main.body.take 5
theorem tpre (w : World) (os : OsState) : topGo treeTable pg w 11 ann0 12 ⟨boot_heap w.params, #[], boot_drawn, boot_toks, os⟩ (topStub pg) = some (sP w os, ⟨denote treeTable c0, c0, q0, [topFrame q0]⟩) := by
  rw [PySem.W.Fast.te15667345088766844465, PySem.W.Fast.te11892475500146522536, PySem.W.Fast.te14364793385576792824]
  kernel_rfl
theorem tblock (w : World) (os : OsState) : segRun treeTable pg w 11 ann0 1 1 (sP w os) (blockOf (behindTheImports pg) env0 c0 q0 [topFrame q0]) = some (.next, sP w os, c0, q0) := by
  rw [PySem.W.Fast.te14374325043358763698, PySem.W.Fast.te14364793385576792824]
  kernel_rfl
def tAP (w : World) : Prop := (fun os => segRun treeTable pg w 11 ann0 1 1078 (sP w os) (piecesOf stsA env0 c0 q0 [topFrame q0])) = (fun os => some (.next, sA w os, c0, ⟨16, 0, 17, 30⟩))
theorem tA_ff (w : World) : tAP ((w.withFollow "special-get-raises" false).withFollow "set-order" false) := by
  unfold tAP piecesOf
  rw [PySem.W.Fast.te14374325043358763698, PySem.W.Fast.te12563942051412417395, PySem.W.Fast.te14364793385576792824]
  kernel_rfl
theorem tA_ft (w : World) : tAP ((w.withFollow "special-get-raises" true).withFollow "set-order" false) := by
  unfold tAP piecesOf
  rw [PySem.W.Fast.te14374325043358763698, PySem.W.Fast.te12563942051412417395, PySem.W.Fast.te14364793385576792824]
  kernel_rfl
theorem tA_tf (w : World) : tAP ((w.withFollow "special-get-raises" false).withFollow "set-order" true) := by
  unfold tAP piecesOf
  rw [PySem.W.Fast.te14374325043358763698, PySem.W.Fast.te12563942051412417395, PySem.W.Fast.te14364793385576792824]
  kernel_rfl
theorem tA_tt (w : World) : tAP ((w.withFollow "special-get-raises" true).withFollow "set-order" true) := by
  unfold tAP piecesOf
  rw [PySem.W.Fast.te14374325043358763698, PySem.W.Fast.te12563942051412417395, PySem.W.Fast.te14364793385576792824]
  kernel_rfl
theorem tA : ∀ (w : World), (fun os => segRun treeTable pg w 11 ann0 1 1078 (sP w os) (piecesOf stsA env0 c0 q0 [topFrame q0])) = (fun os => some (.next, sA w os, c0, ⟨16, 0, 17, 30⟩)) :=
  byRow2 "set-order" (P := tAP) (byRow2 "special-get-raises" (P := fun w => tAP (w.withFollow "set-order" false)) tA_ff tA_ft) (byRow2 "special-get-raises" (P := fun w => tAP (w.withFollow "set-order" true)) tA_tf tA_tt)
def dKs : PySem.Stmt → List (Option PySem.Expr) | .Assign _ (.Dict ks _ _) _ => ks | _ => []
def dVs : PySem.Stmt → List PySem.Expr | .Assign _ (.Dict _ vs _) _ => vs | _ => []
def dPos : PySem.Stmt → Pos | .Assign _ (.Dict _ _ p) _ => p | _ => default
def aPos : PySem.Stmt → Pos | .Assign _ _ p => p | _ => default
def nPos : PySem.Stmt → Pos | .Assign [.Name _ p] _ _ => p | _ => default
def tbl : List (Int × Str) := tblOf (dKs (stm 5)) (dVs (stm 5))
def stD : PySem.Stmt := .Assign [.Name (Str.ofString "b3_exceptions") (nPos (stm 5))] (.Dict (dKs (stm 5)) (dVs (stm 5)) (dPos (stm 5))) (aPos (stm 5))
theorem tbl_const : allConst (dKs (stm 5)) (dVs (stm 5)) = true := by kernel_rfl
theorem tbl_length : tbl.length = 650 := by kernel_rfl
theorem tbl_rise : riseB 0 tbl = true := by kernel_rfl
def sD (w : World) (os : OsState) (X : List Obj) : Shared := ⟨hp (objsD w.params ++ X) {}, #[], boot_drawn, 2219, os⟩
theorem tStore (w : World) (os : OsState) (x1 x2 x3 x4 x5 x6 x7 x8 x9 x10 x11 x12 x13 x14 x15 x16 x17 x18 x19 x20 x21 x22 x23 x24 x25 x26 x27 x28 x29 x30 x31 x32 x33 x34 x35 x36 x37 x38 x39 : Obj) (pos' : Pos) : segRun treeTable pg w 11 ann0 1 30 ⟨hp (objsA w.params ++ (x1 :: x2 :: x3 :: x4 :: x5 :: x6 :: x7 :: x8 :: x9 :: x10 :: x11 :: x12 :: x13 :: x14 :: x15 :: x16 :: x17 :: x18 :: x19 :: x20 :: x21 :: x22 :: x23 :: x24 :: x25 :: x26 :: x27 :: x28 :: x29 :: x30 :: x31 :: x32 :: x33 :: x34 :: x35 :: x36 :: x37 :: x38 :: x39 :: [])) {}, #[], boot_drawn, 2218, os⟩
      ⟨((do assignStores env0 (.ref 40) (← swappedStores [.Name (Str.ofString "b3_exceptions") (nPos (stm 5))] (.Dict (dKs (stm 5)) (dVs (stm 5)) (dPos (stm 5))) env0) ((assignEach [.Name (Str.ofString "b3_exceptions") (nPos (stm 5))] env0).map (·.2)) : Sem Flow)).wrap (fun f => match f with | .next => (execs [] env0).wrap doneF deadEnd id id | f => doneF f) deadEnd id id, c0, pos', [topFrame q0]⟩ = some (.next, sD w os (x1 :: x2 :: x3 :: x4 :: x5 :: x6 :: x7 :: x8 :: x9 :: x10 :: x11 :: x12 :: x13 :: x14 :: x15 :: x16 :: x17 :: x18 :: x19 :: x20 :: x21 :: x22 :: x23 :: x24 :: x25 :: x26 :: x27 :: x28 :: x29 :: x30 :: x31 :: x32 :: x33 :: x34 :: x35 :: x36 :: x37 :: x38 :: x39 :: []), c0, ⟨18, 0, 18, 13⟩) := by
  rw [PySem.W.Fast.te14374325043358763698, PySem.W.Fast.te14364793385576792824]
  kernel_rfl
def stsC : List Stmt := pg.main.body.drop 6
def sC (w : World) (os : OsState) (X : List Obj) : Shared := ⟨hp (objsC w.params ++ X ++ objsC2 w.params) {}, #[], boot_drawn, 2247, os⟩
theorem tC (w : World) (os : OsState) (x1 x2 x3 x4 x5 x6 x7 x8 x9 x10 x11 x12 x13 x14 x15 x16 x17 x18 x19 x20 x21 x22 x23 x24 x25 x26 x27 x28 x29 x30 x31 x32 x33 x34 x35 x36 x37 x38 x39 : Obj) : segRun treeTable pg w 11 ann0 1 118 (sD w os (x1 :: x2 :: x3 :: x4 :: x5 :: x6 :: x7 :: x8 :: x9 :: x10 :: x11 :: x12 :: x13 :: x14 :: x15 :: x16 :: x17 :: x18 :: x19 :: x20 :: x21 :: x22 :: x23 :: x24 :: x25 :: x26 :: x27 :: x28 :: x29 :: x30 :: x31 :: x32 :: x33 :: x34 :: x35 :: x36 :: x37 :: x38 :: x39 :: [])) (piecesOf stsC env0 c0 ⟨18, 0, 18, 13⟩ [topFrame q0]) = some (.next, sC w os (x1 :: x2 :: x3 :: x4 :: x5 :: x6 :: x7 :: x8 :: x9 :: x10 :: x11 :: x12 :: x13 :: x14 :: x15 :: x16 :: x17 :: x18 :: x19 :: x20 :: x21 :: x22 :: x23 :: x24 :: x25 :: x26 :: x27 :: x28 :: x29 :: x30 :: x31 :: x32 :: x33 :: x34 :: x35 :: x36 :: x37 :: x38 :: x39 :: []), c0, ⟨36, 0, 60, 15⟩) := by
  unfold piecesOf
  rw [PySem.W.Fast.te14374325043358763698, PySem.W.Fast.te12563942051412417395, PySem.W.Fast.te14364793385576792824]
  kernel_rfl
theorem tfin (w : World) (os : OsState) (X : List Obj) : topRun treeTable pg w 11 ann0 2 (sC w os X) ⟨doneF .next, c0, ⟨36, 0, 60, 15⟩, [topFrame q0]⟩ = some (sC w os X) := by
  rfl
theorem consOf {n : Nat} {X : List Obj} (h : X.length = n + 1) : ∃ x Y, X = x :: Y ∧ Y.length = n := by
  cases X with
  | nil => cases h
  | cons x Y => exact ⟨x, Y, rfl, Nat.succ.inj h⟩
theorem all39 {Q : List Obj → Prop} (h : ∀ (x1 x2 x3 x4 x5 x6 x7 x8 x9 x10 x11 x12 x13 x14 x15 x16 x17 x18 x19 x20 x21 x22 x23 x24 x25 x26 x27 x28 x29 x30 x31 x32 x33 x34 x35 x36 x37 x38 x39 : Obj), Q (x1 :: x2 :: x3 :: x4 :: x5 :: x6 :: x7 :: x8 :: x9 :: x10 :: x11 :: x12 :: x13 :: x14 :: x15 :: x16 :: x17 :: x18 :: x19 :: x20 :: x21 :: x22 :: x23 :: x24 :: x25 :: x26 :: x27 :: x28 :: x29 :: x30 :: x31 :: x32 :: x33 :: x34 :: x35 :: x36 :: x37 :: x38 :: x39 :: [])) : ∀ X : List Obj, X.length = 39 → Q X := by
  intro X hX
  obtain ⟨x1, X1, rfl, h1⟩ := consOf hX
  obtain ⟨x2, X2, rfl, h2⟩ := consOf h1
  obtain ⟨x3, X3, rfl, h3⟩ := consOf h2
  obtain ⟨x4, X4, rfl, h4⟩ := consOf h3
  obtain ⟨x5, X5, rfl, h5⟩ := consOf h4
  obtain ⟨x6, X6, rfl, h6⟩ := consOf h5
  obtain ⟨x7, X7, rfl, h7⟩ := consOf h6
  obtain ⟨x8, X8, rfl, h8⟩ := consOf h7
  obtain ⟨x9, X9, rfl, h9⟩ := consOf h8
  obtain ⟨x10, X10, rfl, h10⟩ := consOf h9
  obtain ⟨x11, X11, rfl, h11⟩ := consOf h10
  obtain ⟨x12, X12, rfl, h12⟩ := consOf h11
  obtain ⟨x13, X13, rfl, h13⟩ := consOf h12
  obtain ⟨x14, X14, rfl, h14⟩ := consOf h13
  obtain ⟨x15, X15, rfl, h15⟩ := consOf h14
  obtain ⟨x16, X16, rfl, h16⟩ := consOf h15
  obtain ⟨x17, X17, rfl, h17⟩ := consOf h16
  obtain ⟨x18, X18, rfl, h18⟩ := consOf h17
  obtain ⟨x19, X19, rfl, h19⟩ := consOf h18
  obtain ⟨x20, X20, rfl, h20⟩ := consOf h19
  obtain ⟨x21, X21, rfl, h21⟩ := consOf h20
  obtain ⟨x22, X22, rfl, h22⟩ := consOf h21
  obtain ⟨x23, X23, rfl, h23⟩ := consOf h22
  obtain ⟨x24, X24, rfl, h24⟩ := consOf h23
  obtain ⟨x25, X25, rfl, h25⟩ := consOf h24
  obtain ⟨x26, X26, rfl, h26⟩ := consOf h25
  obtain ⟨x27, X27, rfl, h27⟩ := consOf h26
  obtain ⟨x28, X28, rfl, h28⟩ := consOf h27
  obtain ⟨x29, X29, rfl, h29⟩ := consOf h28
  obtain ⟨x30, X30, rfl, h30⟩ := consOf h29
  obtain ⟨x31, X31, rfl, h31⟩ := consOf h30
  obtain ⟨x32, X32, rfl, h32⟩ := consOf h31
  obtain ⟨x33, X33, rfl, h33⟩ := consOf h32
  obtain ⟨x34, X34, rfl, h34⟩ := consOf h33
  obtain ⟨x35, X35, rfl, h35⟩ := consOf h34
  obtain ⟨x36, X36, rfl, h36⟩ := consOf h35
  obtain ⟨x37, X37, rfl, h37⟩ := consOf h36
  obtain ⟨x38, X38, rfl, h38⟩ := consOf h37
  obtain ⟨x39, X39, rfl, h39⟩ := consOf h38
  obtain rfl := List.eq_nil_of_length_eq_zero h39
  exact h x1 x2 x3 x4 x5 x6 x7 x8 x9 x10 x11 x12 x13 x14 x15 x16 x17 x18 x19 x20 x21 x22 x23 x24 x25 x26 x27 x28 x29 x30 x31 x32 x33 x34 x35 x36 x37 x38 x39
def XD : List Obj := dictObjs 268 37 tbl
theorem XD_length : XD.length = 39 := by
  show (_ :: (subsL _ _ ++ [_])).length = 39
  rw [List.length_cons, List.length_append, subsL_length, chunks_length]; rfl
theorem body_eq : behindTheImports pg = stsA ++ ([stD] ++ (stsC ++ [])) := by kernel_rfl
def steps : Nat := 12 + (1 + (1078 + ((30 + (600 + 330 * 37) + 1 + 1) + (118 + 2))))
theorem trun (w : World) (os : OsState) : topRun treeTable pg w 11 ann0 steps ⟨boot_heap w.params, #[], boot_drawn, boot_toks, os⟩ (topStub pg) = some (sC w os XD) := by
  refine go_top (tpre w os) ?_
  refine piece_block (tblock w os) ?_
  rw [body_eq]
  refine piece_app (congrFun (tA w) os) ?_
  have hD : segRun treeTable pg w 11 ann0 1 (30 + (600 + 330 * 37) + 1 + 1) (sA w os) (piecesOf [stD] env0 c0 ⟨16, 0, 17, 30⟩ [topFrame q0]) = some (.next, sD w os XD, c0, ⟨18, 0, 18, 13⟩) := by
    refine assign_dict (l := objsA w.params) (n := 37) (life := {}) (s := sA w os) (by show 11 ≤ 40; decide) (by show 1 < 11; decide) rfl tbl_const (by show _ < tbl.length; rw [tbl_length]; decide) (by show tbl.length ≤ _; rw [tbl_length]; decide) tbl_rise (by show tbl.length < _; rw [tbl_length]; decide) fun pos' => ?_
    have ht : (sA w os).toks + 3 * (tblOf (dKs (stm 5)) (dVs (stm 5))).length = 2218 := by show 268 + 3 * tbl.length = 2218; rw [tbl_length]
    rw [ht]
    exact all39 (Q := fun X => segRun treeTable pg w 11 ann0 1 30 ⟨hp (objsA w.params ++ X) {}, #[], boot_drawn, 2218, os⟩ _ = some (.next, sD w os X, c0, ⟨18, 0, 18, 13⟩)) (fun x1 x2 x3 x4 x5 x6 x7 x8 x9 x10 x11 x12 x13 x14 x15 x16 x17 x18 x19 x20 x21 x22 x23 x24 x25 x26 x27 x28 x29 x30 x31 x32 x33 x34 x35 x36 x37 x38 x39 => tStore w os x1 x2 x3 x4 x5 x6 x7 x8 x9 x10 x11 x12 x13 x14 x15 x16 x17 x18 x19 x20 x21 x22 x23 x24 x25 x26 x27 x28 x29 x30 x31 x32 x33 x34 x35 x36 x37 x38 x39 pos') XD XD_length
  refine piece_app hD ?_
  refine piece_app (all39 (Q := fun X => segRun treeTable pg w 11 ann0 1 118 (sD w os X) (piecesOf stsC env0 c0 ⟨18, 0, 18, 13⟩ [topFrame q0]) = some (.next, sC w os X, c0, ⟨36, 0, 60, 15⟩)) (tC w os) XD XD_length) ?_
  exact piece_nil (tfin w os XD)
end
end Mine
end
section
set_option maxRecDepth 100000
set_option linter.unusedVariables false
set_option Elab.async false
namespace Mine
open PySem PySem.W PySem.Calls PyProof.Rows
noncomputable section
def dMain : Obj := dObj (entL 268 (tbl.take 17 ++ (chunks 37 (tbl.drop 17)).flatten) ++ entS (268 + 3 * (tbl.take 17 ++ (chunks 37 (tbl.drop 17)).flatten).length) (tbl.drop (17 * 38))) tbl.length
def KT (P : Params) : Frag := (nat_lit 2, ob2 P) :: (nat_lit 3, ob33 P) :: (nat_lit 6, ob6 P) :: (nat_lit 15, ob7 P) :: (nat_lit 17, ob15 P) :: (nat_lit 18, ob7 P) :: (nat_lit 20, ob17 P) :: (nat_lit 21, ob18 P) :: (nat_lit 29, ob25 P) :: (nat_lit 33, ob7 P) :: (nat_lit 35, ob28 P) :: (nat_lit 36, ob7 P) :: (nat_lit 38, ob30 P) :: (nat_lit 39, ob31 P) :: (nat_lit 40, dMain) :: (nat_lit 79, ob7 P) :: (nat_lit 81, ob35 P) :: (nat_lit 82, ob7 P) :: (nat_lit 84, ob37 P) :: (nat_lit 85, ob38 P) :: (nat_lit 86, ob7 P) :: (nat_lit 89, ob40 P) :: (nat_lit 90, ob41 P) :: (nat_lit 91, ob7 P) :: (nat_lit 94, ob43 P) :: (nat_lit 95, ob44 P) :: (nat_lit 96, ob7 P) :: (nat_lit 99, ob46 P) :: (nat_lit 100, ob47 P) :: []
def asT : List Addr := 2 :: 3 :: 6 :: 15 :: 17 :: 18 :: 20 :: 21 :: 29 :: 33 :: 35 :: 36 :: 38 :: 39 :: 40 :: 79 :: 81 :: 82 :: 84 :: 85 :: 86 :: 89 :: 90 :: 91 :: 94 :: 95 :: 96 :: 99 :: 100 :: []
def qv : Program := { pg with main := { pg.main with body := [stm 1, stm 4, stm 6, stm 8, stm 9, stm 10] } }
def loose0 : List Str := [Str.ofString "b1_set", Str.ofString "b3_exceptions"]
def HK : Hook := kHook KT asT (fun _ => by kernel_rfl)
def H1 (X : List Obj) (P : Params) : Heap := hp (objsC P ++ X ++ objsC2 P) {}
theorem y1 (w : World) (os : OsState) (es : List DictEntry) (n : Nat) (x2 x3 x4 x5 x6 x7 x8 x9 x10 x11 x12 x13 x14 x15 x16 x17 x18 x19 x20 x21 x22 x23 x24 x25 x26 x27 x28 x29 x30 x31 x32 x33 x34 x35 x36 x37 x38 x39 : Obj) : asT.map (sC w os (dObj es n :: x2 :: x3 :: x4 :: x5 :: x6 :: x7 :: x8 :: x9 :: x10 :: x11 :: x12 :: x13 :: x14 :: x15 :: x16 :: x17 :: x18 :: x19 :: x20 :: x21 :: x22 :: x23 :: x24 :: x25 :: x26 :: x27 :: x28 :: x29 :: x30 :: x31 :: x32 :: x33 :: x34 :: x35 :: x36 :: x37 :: x38 :: x39 :: [])).heap.get? = (some (ob2 w.params) :: some (ob33 w.params) :: some (ob6 w.params) :: some (ob7 w.params) :: some (ob15 w.params) :: some (ob7 w.params) :: some (ob17 w.params) :: some (ob18 w.params) :: some (ob25 w.params) :: some (ob7 w.params) :: some (ob28 w.params) :: some (ob7 w.params) :: some (ob30 w.params) :: some (ob31 w.params) :: some (dObj es n) :: some (ob7 w.params) :: some (ob35 w.params) :: some (ob7 w.params) :: some (ob37 w.params) :: some (ob38 w.params) :: some (ob7 w.params) :: some (ob40 w.params) :: some (ob41 w.params) :: some (ob7 w.params) :: some (ob43 w.params) :: some (ob44 w.params) :: some (ob7 w.params) :: some (ob46 w.params) :: some (ob47 w.params) :: []) := by
  kernel_rfl
theorem c1 (w : World) (os : OsState) (es : List DictEntry) (n : Nat) (x2 x3 x4 x5 x6 x7 x8 x9 x10 x11 x12 x13 x14 x15 x16 x17 x18 x19 x20 x21 x22 x23 x24 x25 x26 x27 x28 x29 x30 x31 x32 x33 x34 x35 x36 x37 x38 x39 : Obj) : staticsOk (importedModules pg.main.body) (boot_heap w.params) (H1 (dObj es n :: x2 :: x3 :: x4 :: x5 :: x6 :: x7 :: x8 :: x9 :: x10 :: x11 :: x12 :: x13 :: x14 :: x15 :: x16 :: x17 :: x18 :: x19 :: x20 :: x21 :: x22 :: x23 :: x24 :: x25 :: x26 :: x27 :: x28 :: x29 :: x30 :: x31 :: x32 :: x33 :: x34 :: x35 :: x36 :: x37 :: x38 :: x39 :: []) w.params) = true := by
  kernel_rfl
theorem c2 (w : World) (os : OsState) (es : List DictEntry) (n : Nat) (x2 x3 x4 x5 x6 x7 x8 x9 x10 x11 x12 x13 x14 x15 x16 x17 x18 x19 x20 x21 x22 x23 x24 x25 x26 x27 x28 x29 x30 x31 x32 x33 x34 x35 x36 x37 x38 x39 : Obj) : namesBound pg (H1 (dObj es n :: x2 :: x3 :: x4 :: x5 :: x6 :: x7 :: x8 :: x9 :: x10 :: x11 :: x12 :: x13 :: x14 :: x15 :: x16 :: x17 :: x18 :: x19 :: x20 :: x21 :: x22 :: x23 :: x24 :: x25 :: x26 :: x27 :: x28 :: x29 :: x30 :: x31 :: x32 :: x33 :: x34 :: x35 :: x36 :: x37 :: x38 :: x39 :: []) w.params) = true := by
  kernel_rfl
theorem c3 (w : World) (os : OsState) (es : List DictEntry) (n : Nat) (x2 x3 x4 x5 x6 x7 x8 x9 x10 x11 x12 x13 x14 x15 x16 x17 x18 x19 x20 x21 x22 x23 x24 x25 x26 x27 x28 x29 x30 x31 x32 x33 x34 x35 x36 x37 x38 x39 : Obj) : gensDone (sC w os (dObj es n :: x2 :: x3 :: x4 :: x5 :: x6 :: x7 :: x8 :: x9 :: x10 :: x11 :: x12 :: x13 :: x14 :: x15 :: x16 :: x17 :: x18 :: x19 :: x20 :: x21 :: x22 :: x23 :: x24 :: x25 :: x26 :: x27 :: x28 :: x29 :: x30 :: x31 :: x32 :: x33 :: x34 :: x35 :: x36 :: x37 :: x38 :: x39 :: [])) = true := by
  kernel_rfl
theorem c4 (w : World) (os : OsState) (es : List DictEntry) (n : Nat) (x2 x3 x4 x5 x6 x7 x8 x9 x10 x11 x12 x13 x14 x15 x16 x17 x18 x19 x20 x21 x22 x23 x24 x25 x26 x27 x28 x29 x30 x31 x32 x33 x34 x35 x36 x37 x38 x39 : Obj) : laidKept (boot_heap w.params) (H1 (dObj es n :: x2 :: x3 :: x4 :: x5 :: x6 :: x7 :: x8 :: x9 :: x10 :: x11 :: x12 :: x13 :: x14 :: x15 :: x16 :: x17 :: x18 :: x19 :: x20 :: x21 :: x22 :: x23 :: x24 :: x25 :: x26 :: x27 :: x28 :: x29 :: x30 :: x31 :: x32 :: x33 :: x34 :: x35 :: x36 :: x37 :: x38 :: x39 :: []) w.params) = true := by
  kernel_rfl
theorem o1 (w : World) (os : OsState) (es : List DictEntry) (n : Nat) (x2 x3 x4 x5 x6 x7 x8 x9 x10 x11 x12 x13 x14 x15 x16 x17 x18 x19 x20 x21 x22 x23 x24 x25 x26 x27 x28 x29 x30 x31 x32 x33 x34 x35 x36 x37 x38 x39 : Obj) : seen ((recsOf qv).map (·.name)) (ownsOf qv) [] { sC w os (dObj es n :: x2 :: x3 :: x4 :: x5 :: x6 :: x7 :: x8 :: x9 :: x10 :: x11 :: x12 :: x13 :: x14 :: x15 :: x16 :: x17 :: x18 :: x19 :: x20 :: x21 :: x22 :: x23 :: x24 :: x25 :: x26 :: x27 :: x28 :: x29 :: x30 :: x31 :: x32 :: x33 :: x34 :: x35 :: x36 :: x37 :: x38 :: x39 :: []) with gens := #[] } = expectedOf qv := by
  kernel_rfl
theorem o2 (w : World) (os : OsState) (es : List DictEntry) (n : Nat) (x2 x3 x4 x5 x6 x7 x8 x9 x10 x11 x12 x13 x14 x15 x16 x17 x18 x19 x20 x21 x22 x23 x24 x25 x26 x27 x28 x29 x30 x31 x32 x33 x34 x35 x36 x37 x38 x39 : Obj) : (sC w os (dObj es n :: x2 :: x3 :: x4 :: x5 :: x6 :: x7 :: x8 :: x9 :: x10 :: x11 :: x12 :: x13 :: x14 :: x15 :: x16 :: x17 :: x18 :: x19 :: x20 :: x21 :: x22 :: x23 :: x24 :: x25 :: x26 :: x27 :: x28 :: x29 :: x30 :: x31 :: x32 :: x33 :: x34 :: x35 :: x36 :: x37 :: x38 :: x39 :: [])).heap.bltView = bltViewBooted := by
  kernel_rfl
theorem o3 (w : World) (os : OsState) (es : List DictEntry) (n : Nat) (x2 x3 x4 x5 x6 x7 x8 x9 x10 x11 x12 x13 x14 x15 x16 x17 x18 x19 x20 x21 x22 x23 x24 x25 x26 x27 x28 x29 x30 x31 x32 x33 x34 x35 x36 x37 x38 x39 : Obj) : (sC w os (dObj es n :: x2 :: x3 :: x4 :: x5 :: x6 :: x7 :: x8 :: x9 :: x10 :: x11 :: x12 :: x13 :: x14 :: x15 :: x16 :: x17 :: x18 :: x19 :: x20 :: x21 :: x22 :: x23 :: x24 :: x25 :: x26 :: x27 :: x28 :: x29 :: x30 :: x31 :: x32 :: x33 :: x34 :: x35 :: x36 :: x37 :: x38 :: x39 :: [])).heap.keysOk (looseW qv loose0) ((recsOf qv).map (·.name)) ((litsOf qv).map (·.1)) ((clssOf qv (looseW qv loose0)).map (·.name)) = true := by
  kernel_rfl
theorem o3b (w : World) (os : OsState) (es : List DictEntry) (n : Nat) (x2 x3 x4 x5 x6 x7 x8 x9 x10 x11 x12 x13 x14 x15 x16 x17 x18 x19 x20 x21 x22 x23 x24 x25 x26 x27 x28 x29 x30 x31 x32 x33 x34 x35 x36 x37 x38 x39 : Obj) : (sC w os (dObj es n :: x2 :: x3 :: x4 :: x5 :: x6 :: x7 :: x8 :: x9 :: x10 :: x11 :: x12 :: x13 :: x14 :: x15 :: x16 :: x17 :: x18 :: x19 :: x20 :: x21 :: x22 :: x23 :: x24 :: x25 :: x26 :: x27 :: x28 :: x29 :: x30 :: x31 :: x32 :: x33 :: x34 :: x35 :: x36 :: x37 :: x38 :: x39 :: [])).heap.accountedOkI (importedModules pg.main.body) = true := by
  kernel_rfl
theorem o3c (w : World) (os : OsState) (es : List DictEntry) (n : Nat) (x2 x3 x4 x5 x6 x7 x8 x9 x10 x11 x12 x13 x14 x15 x16 x17 x18 x19 x20 x21 x22 x23 x24 x25 x26 x27 x28 x29 x30 x31 x32 x33 x34 x35 x36 x37 x38 x39 : Obj) : ((sC w os (dObj es n :: x2 :: x3 :: x4 :: x5 :: x6 :: x7 :: x8 :: x9 :: x10 :: x11 :: x12 :: x13 :: x14 :: x15 :: x16 :: x17 :: x18 :: x19 :: x20 :: x21 :: x22 :: x23 :: x24 :: x25 :: x26 :: x27 :: x28 :: x29 :: x30 :: x31 :: x32 :: x33 :: x34 :: x35 :: x36 :: x37 :: x38 :: x39 :: [])).heap.isNs mainGlobals && (sC w os (dObj es n :: x2 :: x3 :: x4 :: x5 :: x6 :: x7 :: x8 :: x9 :: x10 :: x11 :: x12 :: x13 :: x14 :: x15 :: x16 :: x17 :: x18 :: x19 :: x20 :: x21 :: x22 :: x23 :: x24 :: x25 :: x26 :: x27 :: x28 :: x29 :: x30 :: x31 :: x32 :: x33 :: x34 :: x35 :: x36 :: x37 :: x38 :: x39 :: [])).heap.isNs builtinsNs) = true := by
  kernel_rfl
theorem o3d (w : World) (os : OsState) (es : List DictEntry) (n : Nat) (x2 x3 x4 x5 x6 x7 x8 x9 x10 x11 x12 x13 x14 x15 x16 x17 x18 x19 x20 x21 x22 x23 x24 x25 x26 x27 x28 x29 x30 x31 x32 x33 x34 x35 x36 x37 x38 x39 : Obj) : tablesOk qv (sC w os (dObj es n :: x2 :: x3 :: x4 :: x5 :: x6 :: x7 :: x8 :: x9 :: x10 :: x11 :: x12 :: x13 :: x14 :: x15 :: x16 :: x17 :: x18 :: x19 :: x20 :: x21 :: x22 :: x23 :: x24 :: x25 :: x26 :: x27 :: x28 :: x29 :: x30 :: x31 :: x32 :: x33 :: x34 :: x35 :: x36 :: x37 :: x38 :: x39 :: [])).heap = true := by
  kernel_rfl
theorem o3e (w : World) (os : OsState) (es : List DictEntry) (n : Nat) (x2 x3 x4 x5 x6 x7 x8 x9 x10 x11 x12 x13 x14 x15 x16 x17 x18 x19 x20 x21 x22 x23 x24 x25 x26 x27 x28 x29 x30 x31 x32 x33 x34 x35 x36 x37 x38 x39 : Obj) : (xlAt qv [] (sC w os (dObj es n :: x2 :: x3 :: x4 :: x5 :: x6 :: x7 :: x8 :: x9 :: x10 :: x11 :: x12 :: x13 :: x14 :: x15 :: x16 :: x17 :: x18 :: x19 :: x20 :: x21 :: x22 :: x23 :: x24 :: x25 :: x26 :: x27 :: x28 :: x29 :: x30 :: x31 :: x32 :: x33 :: x34 :: x35 :: x36 :: x37 :: x38 :: x39 :: [])) && recOk [] (sC w os (dObj es n :: x2 :: x3 :: x4 :: x5 :: x6 :: x7 :: x8 :: x9 :: x10 :: x11 :: x12 :: x13 :: x14 :: x15 :: x16 :: x17 :: x18 :: x19 :: x20 :: x21 :: x22 :: x23 :: x24 :: x25 :: x26 :: x27 :: x28 :: x29 :: x30 :: x31 :: x32 :: x33 :: x34 :: x35 :: x36 :: x37 :: x38 :: x39 :: []))) = true := by
  kernel_rfl
theorem o4 (w : World) (os : OsState) (es : List DictEntry) (n : Nat) (x2 x3 x4 x5 x6 x7 x8 x9 x10 x11 x12 x13 x14 x15 x16 x17 x18 x19 x20 x21 x22 x23 x24 x25 x26 x27 x28 x29 x30 x31 x32 x33 x34 x35 x36 x37 x38 x39 : Obj) : tabsOk qv (sC w os (dObj es n :: x2 :: x3 :: x4 :: x5 :: x6 :: x7 :: x8 :: x9 :: x10 :: x11 :: x12 :: x13 :: x14 :: x15 :: x16 :: x17 :: x18 :: x19 :: x20 :: x21 :: x22 :: x23 :: x24 :: x25 :: x26 :: x27 :: x28 :: x29 :: x30 :: x31 :: x32 :: x33 :: x34 :: x35 :: x36 :: x37 :: x38 :: x39 :: [])) = true := by
  kernel_rfl
theorem o5 (w : World) (os : OsState) (es : List DictEntry) (n : Nat) (x2 x3 x4 x5 x6 x7 x8 x9 x10 x11 x12 x13 x14 x15 x16 x17 x18 x19 x20 x21 x22 x23 x24 x25 x26 x27 x28 x29 x30 x31 x32 x33 x34 x35 x36 x37 x38 x39 : Obj) : pinSeenD qv (drecsOf qv) (sC w os (dObj es n :: x2 :: x3 :: x4 :: x5 :: x6 :: x7 :: x8 :: x9 :: x10 :: x11 :: x12 :: x13 :: x14 :: x15 :: x16 :: x17 :: x18 :: x19 :: x20 :: x21 :: x22 :: x23 :: x24 :: x25 :: x26 :: x27 :: x28 :: x29 :: x30 :: x31 :: x32 :: x33 :: x34 :: x35 :: x36 :: x37 :: x38 :: x39 :: [])) = pinGoodD (drecsOf qv) := by
  kernel_rfl
theorem o6 (w : World) (os : OsState) (es : List DictEntry) (n : Nat) (x2 x3 x4 x5 x6 x7 x8 x9 x10 x11 x12 x13 x14 x15 x16 x17 x18 x19 x20 x21 x22 x23 x24 x25 x26 x27 x28 x29 x30 x31 x32 x33 x34 x35 x36 x37 x38 x39 : Obj) : plainSeenE qv (looseW qv loose0) (sC w os (dObj es n :: x2 :: x3 :: x4 :: x5 :: x6 :: x7 :: x8 :: x9 :: x10 :: x11 :: x12 :: x13 :: x14 :: x15 :: x16 :: x17 :: x18 :: x19 :: x20 :: x21 :: x22 :: x23 :: x24 :: x25 :: x26 :: x27 :: x28 :: x29 :: x30 :: x31 :: x32 :: x33 :: x34 :: x35 :: x36 :: x37 :: x38 :: x39 :: [])) = plainGoodE qv (looseW qv loose0) := by
  kernel_rfl
theorem o7 (w : World) (os : OsState) (es : List DictEntry) (n : Nat) (x2 x3 x4 x5 x6 x7 x8 x9 x10 x11 x12 x13 x14 x15 x16 x17 x18 x19 x20 x21 x22 x23 x24 x25 x26 x27 x28 x29 x30 x31 x32 x33 x34 x35 x36 x37 x38 x39 : Obj) : plainSeenD qv loose0 (sC w os (dObj es n :: x2 :: x3 :: x4 :: x5 :: x6 :: x7 :: x8 :: x9 :: x10 :: x11 :: x12 :: x13 :: x14 :: x15 :: x16 :: x17 :: x18 :: x19 :: x20 :: x21 :: x22 :: x23 :: x24 :: x25 :: x26 :: x27 :: x28 :: x29 :: x30 :: x31 :: x32 :: x33 :: x34 :: x35 :: x36 :: x37 :: x38 :: x39 :: [])) = plainGoodD qv loose0 := by
  kernel_rfl
theorem o8 (w : World) (os : OsState) (es : List DictEntry) (n : Nat) (x2 x3 x4 x5 x6 x7 x8 x9 x10 x11 x12 x13 x14 x15 x16 x17 x18 x19 x20 x21 x22 x23 x24 x25 x26 x27 x28 x29 x30 x31 x32 x33 x34 x35 x36 x37 x38 x39 : Obj) : wideSeen qv (sC w os (dObj es n :: x2 :: x3 :: x4 :: x5 :: x6 :: x7 :: x8 :: x9 :: x10 :: x11 :: x12 :: x13 :: x14 :: x15 :: x16 :: x17 :: x18 :: x19 :: x20 :: x21 :: x22 :: x23 :: x24 :: x25 :: x26 :: x27 :: x28 :: x29 :: x30 :: x31 :: x32 :: x33 :: x34 :: x35 :: x36 :: x37 :: x38 :: x39 :: [])) = wideGood qv := by
  kernel_rfl
theorem o9 (w : World) (os : OsState) (es : List DictEntry) (n : Nat) (x2 x3 x4 x5 x6 x7 x8 x9 x10 x11 x12 x13 x14 x15 x16 x17 x18 x19 x20 x21 x22 x23 x24 x25 x26 x27 x28 x29 x30 x31 x32 x33 x34 x35 x36 x37 x38 x39 : Obj) : clsSeenW qv loose0 (sC w os (dObj es n :: x2 :: x3 :: x4 :: x5 :: x6 :: x7 :: x8 :: x9 :: x10 :: x11 :: x12 :: x13 :: x14 :: x15 :: x16 :: x17 :: x18 :: x19 :: x20 :: x21 :: x22 :: x23 :: x24 :: x25 :: x26 :: x27 :: x28 :: x29 :: x30 :: x31 :: x32 :: x33 :: x34 :: x35 :: x36 :: x37 :: x38 :: x39 :: [])) = clsGoodW qv loose0 := by
  kernel_rfl
theorem looksX (w : World) (os : OsState) (es : List DictEntry) (n : Nat) (x2 x3 x4 x5 x6 x7 x8 x9 x10 x11 x12 x13 x14 x15 x16 x17 x18 x19 x20 x21 x22 x23 x24 x25 x26 x27 x28 x29 x30 x31 x32 x33 x34 x35 x36 x37 x38 x39 : Obj) :
    ((staticsOk (importedModules pg.main.body) (boot_heap w.params) (H1 (dObj es n :: x2 :: x3 :: x4 :: x5 :: x6 :: x7 :: x8 :: x9 :: x10 :: x11 :: x12 :: x13 :: x14 :: x15 :: x16 :: x17 :: x18 :: x19 :: x20 :: x21 :: x22 :: x23 :: x24 :: x25 :: x26 :: x27 :: x28 :: x29 :: x30 :: x31 :: x32 :: x33 :: x34 :: x35 :: x36 :: x37 :: x38 :: x39 :: []) w.params) && namesBound pg (H1 (dObj es n :: x2 :: x3 :: x4 :: x5 :: x6 :: x7 :: x8 :: x9 :: x10 :: x11 :: x12 :: x13 :: x14 :: x15 :: x16 :: x17 :: x18 :: x19 :: x20 :: x21 :: x22 :: x23 :: x24 :: x25 :: x26 :: x27 :: x28 :: x29 :: x30 :: x31 :: x32 :: x33 :: x34 :: x35 :: x36 :: x37 :: x38 :: x39 :: []) w.params) && gensDone (sC w os (dObj es n :: x2 :: x3 :: x4 :: x5 :: x6 :: x7 :: x8 :: x9 :: x10 :: x11 :: x12 :: x13 :: x14 :: x15 :: x16 :: x17 :: x18 :: x19 :: x20 :: x21 :: x22 :: x23 :: x24 :: x25 :: x26 :: x27 :: x28 :: x29 :: x30 :: x31 :: x32 :: x33 :: x34 :: x35 :: x36 :: x37 :: x38 :: x39 :: [])) && laidKept (boot_heap w.params) (H1 (dObj es n :: x2 :: x3 :: x4 :: x5 :: x6 :: x7 :: x8 :: x9 :: x10 :: x11 :: x12 :: x13 :: x14 :: x15 :: x16 :: x17 :: x18 :: x19 :: x20 :: x21 :: x22 :: x23 :: x24 :: x25 :: x26 :: x27 :: x28 :: x29 :: x30 :: x31 :: x32 :: x33 :: x34 :: x35 :: x36 :: x37 :: x38 :: x39 :: []) w.params)),
      openSeen qv loose0 (importedModules pg.main.body) (fun s => xlAt qv [] s && recOk [] s) true (sC w os (dObj es n :: x2 :: x3 :: x4 :: x5 :: x6 :: x7 :: x8 :: x9 :: x10 :: x11 :: x12 :: x13 :: x14 :: x15 :: x16 :: x17 :: x18 :: x19 :: x20 :: x21 :: x22 :: x23 :: x24 :: x25 :: x26 :: x27 :: x28 :: x29 :: x30 :: x31 :: x32 :: x33 :: x34 :: x35 :: x36 :: x37 :: x38 :: x39 :: [])), asT.map (sC w os (dObj es n :: x2 :: x3 :: x4 :: x5 :: x6 :: x7 :: x8 :: x9 :: x10 :: x11 :: x12 :: x13 :: x14 :: x15 :: x16 :: x17 :: x18 :: x19 :: x20 :: x21 :: x22 :: x23 :: x24 :: x25 :: x26 :: x27 :: x28 :: x29 :: x30 :: x31 :: x32 :: x33 :: x34 :: x35 :: x36 :: x37 :: x38 :: x39 :: [])).heap.get?) =
    (true, openGood qv loose0, (some (ob2 w.params) :: some (ob33 w.params) :: some (ob6 w.params) :: some (ob7 w.params) :: some (ob15 w.params) :: some (ob7 w.params) :: some (ob17 w.params) :: some (ob18 w.params) :: some (ob25 w.params) :: some (ob7 w.params) :: some (ob28 w.params) :: some (ob7 w.params) :: some (ob30 w.params) :: some (ob31 w.params) :: some (dObj es n) :: some (ob7 w.params) :: some (ob35 w.params) :: some (ob7 w.params) :: some (ob37 w.params) :: some (ob38 w.params) :: some (ob7 w.params) :: some (ob40 w.params) :: some (ob41 w.params) :: some (ob7 w.params) :: some (ob43 w.params) :: some (ob44 w.params) :: some (ob7 w.params) :: some (ob46 w.params) :: some (ob47 w.params) :: [])) := by
  refine looks_pair ?_ (looks_pair ?_ (y1 w os es n x2 x3 x4 x5 x6 x7 x8 x9 x10 x11 x12 x13 x14 x15 x16 x17 x18 x19 x20 x21 x22 x23 x24 x25 x26 x27 x28 x29 x30 x31 x32 x33 x34 x35 x36 x37 x38 x39))
  · rw [c1 w os es n x2 x3 x4 x5 x6 x7 x8 x9 x10 x11 x12 x13 x14 x15 x16 x17 x18 x19 x20 x21 x22 x23 x24 x25 x26 x27 x28 x29 x30 x31 x32 x33 x34 x35 x36 x37 x38 x39, c2 w os es n x2 x3 x4 x5 x6 x7 x8 x9 x10 x11 x12 x13 x14 x15 x16 x17 x18 x19 x20 x21 x22 x23 x24 x25 x26 x27 x28 x29 x30 x31 x32 x33 x34 x35 x36 x37 x38 x39, c3 w os es n x2 x3 x4 x5 x6 x7 x8 x9 x10 x11 x12 x13 x14 x15 x16 x17 x18 x19 x20 x21 x22 x23 x24 x25 x26 x27 x28 x29 x30 x31 x32 x33 x34 x35 x36 x37 x38 x39, c4 w os es n x2 x3 x4 x5 x6 x7 x8 x9 x10 x11 x12 x13 x14 x15 x16 x17 x18 x19 x20 x21 x22 x23 x24 x25 x26 x27 x28 x29 x30 x31 x32 x33 x34 x35 x36 x37 x38 x39]; rfl
  · unfold openSeen openGood
    refine looks_pair (o1 w os es n x2 x3 x4 x5 x6 x7 x8 x9 x10 x11 x12 x13 x14 x15 x16 x17 x18 x19 x20 x21 x22 x23 x24 x25 x26 x27 x28 x29 x30 x31 x32 x33 x34 x35 x36 x37 x38 x39) (looks_pair (o2 w os es n x2 x3 x4 x5 x6 x7 x8 x9 x10 x11 x12 x13 x14 x15 x16 x17 x18 x19 x20 x21 x22 x23 x24 x25 x26 x27 x28 x29 x30 x31 x32 x33 x34 x35 x36 x37 x38 x39) (looks_pair ?_ (looks_pair (o4 w os es n x2 x3 x4 x5 x6 x7 x8 x9 x10 x11 x12 x13 x14 x15 x16 x17 x18 x19 x20 x21 x22 x23 x24 x25 x26 x27 x28 x29 x30 x31 x32 x33 x34 x35 x36 x37 x38 x39) (looks_pair (o5 w os es n x2 x3 x4 x5 x6 x7 x8 x9 x10 x11 x12 x13 x14 x15 x16 x17 x18 x19 x20 x21 x22 x23 x24 x25 x26 x27 x28 x29 x30 x31 x32 x33 x34 x35 x36 x37 x38 x39) (looks_pair (o6 w os es n x2 x3 x4 x5 x6 x7 x8 x9 x10 x11 x12 x13 x14 x15 x16 x17 x18 x19 x20 x21 x22 x23 x24 x25 x26 x27 x28 x29 x30 x31 x32 x33 x34 x35 x36 x37 x38 x39) (looks_pair (o7 w os es n x2 x3 x4 x5 x6 x7 x8 x9 x10 x11 x12 x13 x14 x15 x16 x17 x18 x19 x20 x21 x22 x23 x24 x25 x26 x27 x28 x29 x30 x31 x32 x33 x34 x35 x36 x37 x38 x39) (looks_pair (o8 w os es n x2 x3 x4 x5 x6 x7 x8 x9 x10 x11 x12 x13 x14 x15 x16 x17 x18 x19 x20 x21 x22 x23 x24 x25 x26 x27 x28 x29 x30 x31 x32 x33 x34 x35 x36 x37 x38 x39) (o9 w os es n x2 x3 x4 x5 x6 x7 x8 x9 x10 x11 x12 x13 x14 x15 x16 x17 x18 x19 x20 x21 x22 x23 x24 x25 x26 x27 x28 x29 x30 x31 x32 x33 x34 x35 x36 x37 x38 x39))))))))
    have e3 := Bool.and_eq_true_iff.mp (o3c w os es n x2 x3 x4 x5 x6 x7 x8 x9 x10 x11 x12 x13 x14 x15 x16 x17 x18 x19 x20 x21 x22 x23 x24 x25 x26 x27 x28 x29 x30 x31 x32 x33 x34 x35 x36 x37 x38 x39)
    show (_ && _ && _ && _ && _ && (xlAt qv [] _ && recOk [] _) && _) = true
    rw [o3 w os es n x2 x3 x4 x5 x6 x7 x8 x9 x10 x11 x12 x13 x14 x15 x16 x17 x18 x19 x20 x21 x22 x23 x24 x25 x26 x27 x28 x29 x30 x31 x32 x33 x34 x35 x36 x37 x38 x39, o3b w os es n x2 x3 x4 x5 x6 x7 x8 x9 x10 x11 x12 x13 x14 x15 x16 x17 x18 x19 x20 x21 x22 x23 x24 x25 x26 x27 x28 x29 x30 x31 x32 x33 x34 x35 x36 x37 x38 x39, e3.1, e3.2, o3d w os es n x2 x3 x4 x5 x6 x7 x8 x9 x10 x11 x12 x13 x14 x15 x16 x17 x18 x19 x20 x21 x22 x23 x24 x25 x26 x27 x28 x29 x30 x31 x32 x33 x34 x35 x36 x37 x38 x39, o3e w os es n x2 x3 x4 x5 x6 x7 x8 x9 x10 x11 x12 x13 x14 x15 x16 x17 x18 x19 x20 x21 x22 x23 x24 x25 x26 x27 x28 x29 x30 x31 x32 x33 x34 x35 x36 x37 x38 x39]
    rfl
theorem XD_eq : ∃ x2 x3 x4 x5 x6 x7 x8 x9 x10 x11 x12 x13 x14 x15 x16 x17 x18 x19 x20 x21 x22 x23 x24 x25 x26 x27 x28 x29 x30 x31 x32 x33 x34 x35 x36 x37 x38 x39, XD = dMain :: x2 :: x3 :: x4 :: x5 :: x6 :: x7 :: x8 :: x9 :: x10 :: x11 :: x12 :: x13 :: x14 :: x15 :: x16 :: x17 :: x18 :: x19 :: x20 :: x21 :: x22 :: x23 :: x24 :: x25 :: x26 :: x27 :: x28 :: x29 :: x30 :: x31 :: x32 :: x33 :: x34 :: x35 :: x36 :: x37 :: x38 :: x39 :: [] := by
  have h := XD_length
  obtain ⟨x1, X1, e1, h1⟩ := consOf h
  have : x1 = dMain := (List.cons.inj (e1.symm.trans (rfl : XD = dMain :: XD.tail))).1
  subst this
  obtain ⟨x2, X2, rfl, h2⟩ := consOf h1
  obtain ⟨x3, X3, rfl, h3⟩ := consOf h2
  obtain ⟨x4, X4, rfl, h4⟩ := consOf h3
  obtain ⟨x5, X5, rfl, h5⟩ := consOf h4
  obtain ⟨x6, X6, rfl, h6⟩ := consOf h5
  obtain ⟨x7, X7, rfl, h7⟩ := consOf h6
  obtain ⟨x8, X8, rfl, h8⟩ := consOf h7
  obtain ⟨x9, X9, rfl, h9⟩ := consOf h8
  obtain ⟨x10, X10, rfl, h10⟩ := consOf h9
  obtain ⟨x11, X11, rfl, h11⟩ := consOf h10
  obtain ⟨x12, X12, rfl, h12⟩ := consOf h11
  obtain ⟨x13, X13, rfl, h13⟩ := consOf h12
  obtain ⟨x14, X14, rfl, h14⟩ := consOf h13
  obtain ⟨x15, X15, rfl, h15⟩ := consOf h14
  obtain ⟨x16, X16, rfl, h16⟩ := consOf h15
  obtain ⟨x17, X17, rfl, h17⟩ := consOf h16
  obtain ⟨x18, X18, rfl, h18⟩ := consOf h17
  obtain ⟨x19, X19, rfl, h19⟩ := consOf h18
  obtain ⟨x20, X20, rfl, h20⟩ := consOf h19
  obtain ⟨x21, X21, rfl, h21⟩ := consOf h20
  obtain ⟨x22, X22, rfl, h22⟩ := consOf h21
  obtain ⟨x23, X23, rfl, h23⟩ := consOf h22
  obtain ⟨x24, X24, rfl, h24⟩ := consOf h23
  obtain ⟨x25, X25, rfl, h25⟩ := consOf h24
  obtain ⟨x26, X26, rfl, h26⟩ := consOf h25
  obtain ⟨x27, X27, rfl, h27⟩ := consOf h26
  obtain ⟨x28, X28, rfl, h28⟩ := consOf h27
  obtain ⟨x29, X29, rfl, h29⟩ := consOf h28
  obtain ⟨x30, X30, rfl, h30⟩ := consOf h29
  obtain ⟨x31, X31, rfl, h31⟩ := consOf h30
  obtain ⟨x32, X32, rfl, h32⟩ := consOf h31
  obtain ⟨x33, X33, rfl, h33⟩ := consOf h32
  obtain ⟨x34, X34, rfl, h34⟩ := consOf h33
  obtain ⟨x35, X35, rfl, h35⟩ := consOf h34
  obtain ⟨x36, X36, rfl, h36⟩ := consOf h35
  obtain ⟨x37, X37, rfl, h37⟩ := consOf h36
  obtain ⟨x38, X38, rfl, h38⟩ := consOf h37
  obtain ⟨x39, X39, rfl, h39⟩ := consOf h38
  obtain rfl := List.eq_nil_of_length_eq_zero h39
  exact ⟨x2, x3, x4, x5, x6, x7, x8, x9, x10, x11, x12, x13, x14, x15, x16, x17, x18, x19, x20, x21, x22, x23, x24, x25, x26, x27, x28, x29, x30, x31, x32, x33, x34, x35, x36, x37, x38, x39, e1⟩
theorem left0 : LeftO pg qv loose0 (fun s => xlAt qv [] s && recOk [] s) HK.obs HK.val 29462 := by
  obtain ⟨x2, x3, x4, x5, x6, x7, x8, x9, x10, x11, x12, x13, x14, x15, x16, x17, x18, x19, x20, x21, x22, x23, x24, x25, x26, x27, x28, x29, x30, x31, x32, x33, x34, x35, x36, x37, x38, x39, hX⟩ := XD_eq
  refine LeftO.of_pieces (H₀ := boot_heap) (H₁ := H1 XD) (gs₀ := #[]) (gs₁ := #[]) (d₀ := boot_drawn) (d₁ := boot_drawn) (k₀ := boot_toks) (k₁ := 2247) (m₀ := 11) (ann := ann0) (M := steps)
    (boot_open (by kernel_rfl) (by kernel_rfl) (fun s => by kernel_rfl)) (fun w => by kernel_rfl) trun (by kernel_rfl) (fun w => funext fun os => ?_)
  have h := looksX w os (entL 268 (tbl.take 17 ++ (chunks 37 (tbl.drop 17)).flatten) ++ entS (268 + 3 * (tbl.take 17 ++ (chunks 37 (tbl.drop 17)).flatten).length) (tbl.drop (17 * 38))) tbl.length x2 x3 x4 x5 x6 x7 x8 x9 x10 x11 x12 x13 x14 x15 x16 x17 x18 x19 x20 x21 x22 x23 x24 x25 x26 x27 x28 x29 x30 x31 x32 x33 x34 x35 x36 x37 x38 x39
  rw [hX]
  exact h
end
end Mine
end
section
set_option maxRecDepth 100000
set_option linter.unusedVariables false
set_option Elab.async false
namespace Mine
open PySem PySem.W PySem.Calls PyProof.Rows
theorem eT : ∀ P, asT = (KT P).map (·.1) := fun _ => by kernel_rfl
set_option maxHeartbeats 4000000 in
theorem head (d : DefRec) (kwd : List (Str × PySem.Expr)) (hd : defOf qv (Str.ofString "law") = some (d, kwd)) (hp : pg.theDef (Str.ofString "law") = some (d.params, d.body, d.scope)) (hk : kwWritten? d.params.kwonlyargs d.params.kw_defaults = some kwd)
    (call : WalkO qv loose0 (XL qv []) (kHook KT asT eT).says PySem.Challenge.rw_re0100_01.row.toRowW d kwd fun f vs => PySem.call f vs) : PySem.Challenge.rw_re0100_01.Holds := by
  w_on
  o_law
  refine holds_open (q := qv) (loose := loose0) (Xt := fun s => xlAt qv [] s && recOk [] s) (XP := XL qv []) (Yf := (kHook KT asT eT).obs) (Ya := (kHook KT asT eT).val) (YP := (kHook KT asT eT).says) left0 (Hook.of (kHook KT asT eT)) (Hook.keeps (kHook KT asT eT)) (fun s e => xl_of s (Bool.and_eq_true_iff.mp e).1) XL.keeps hd hp hk (fun s e => recFacts_of (Bool.and_eq_true_iff.mp e).2) (by rfl) (by first | assumption | decide +kernel) (by decide +kernel) ⟨rfl, rfl, rfl, rfl, rfl, by decide +kernel⟩ ?hw call
  case hw => w_witness2
end Mine
end
section
set_option maxRecDepth 100000
set_option linter.unusedVariables false
set_option Elab.async false
namespace Mine
open PySem PySem.W PySem.Calls PyProof.Rows
section
variable {prog : Program} {w : World} {A : Around} {s : Shared} {env : Env} {h₀ : Heap} {x : Str} {body : List Stmt} {Q : Flow → Shared → Prop}
abbrev No : Value → Shared → Prop := fun _ _ => False

theorem fr_norm {L : Addr} {h : Heap} {m : Str → Option Value} (ps : List (Str × Value)) (F : Fr h₀ L h m) (hk : ∀ p ∈ ps, m p.1 = some p.2) : Fr h₀ L h (kstB m ps) := by
  have e : kstB m ps = m := by
    funext z
    exact kstB_eq hk fun _ => rfl
  rw [e]; exact F

theorem kstB_at {u : Str → Option Value} : ∀ {ps : List (Str × Value)}, (ps.map (·.1)).Nodup → ∀ p ∈ ps, kstB u ps p.1 = some p.2
  | [], _, _, h => nomatch h
  | q :: r, hd, p, h => by
    show (if p.1 = q.1 then some q.2 else kstB u r p.1) = some p.2
    rw [List.map_cons, List.nodup_cons] at hd
    rcases List.mem_cons.mp h with rfl | h
    · rw [if_pos rfl]
    · rw [if_neg (fun e : p.1 = q.1 => hd.1 (by rw [← e]; exact List.mem_map.mpr ⟨p, h, rfl⟩))]
      exact kstB_at hd.2 p h

theorem kstB_atN {u : Str → Option Value} {ps : List (Str × Value)} (names : List Str) (e : ps.map (·.1) = names) (hd : names.Nodup) : ∀ p ∈ ps, kstB u ps p.1 = some p.2 := kstB_at (e ▸ hd)
theorem offN {x : Str} {ps : List (Str × Value)} (names : List Str) (e : ps.map (·.1) = names) (hd : x ∉ names) : ∀ p ∈ ps, p.1 ≠ x := fun p hp q => hd (by rw [← e, ← q]; exact List.mem_map.mpr ⟨p, hp, rfl⟩)

/-- the frame and the ledger at a loop's turn, by a state c of one's own -/
def TurnOk {σ : Type} (h₀ : Heap) (L : Addr) (ps : σ → List (Str × Value)) (Led : σ → List (Addr × Obj)) (P : σ → Prop) (own : List (Addr × Obj)) (s₁ : Shared) (Q : Flow → Shared → Prop) (f : Flow) (s₂ : Shared) : Prop :=
  match f with
  | .ret v => Q (.ret v) s₂
  | .brk => Q .next s₂
  | _ => ∃ c m h tk nw, s₂ = { s₁ with heap := h, toks := tk } ∧ P c ∧ Fr h₀ L h m ∧ (∀ p ∈ ps c, m p.1 = some p.2) ∧ News h₀ L h nw ∧ (∀ p ∈ Led c, p ∈ nw) ∧ (∀ p ∈ own, p ∈ nw)

theorem loop_st {σ : Type} {I : Addr} {fp wr : List Addr} {n : Nat} {Pv : Nat → Value → Prop} {St : Nat → Heap → Prop} {m₀ : Str → Option Value} (ps : σ → List (Str × Value)) (Led : σ → List (Addr × Obj)) (P : Nat → σ → Prop) (c₀ : σ)
    (W : Walks prog w A I fp wr n Pv St) (hLf : env.locals ∉ fp) (hwr : ∀ b ∈ wr, h₀.get? b = none) (hnw : ∀ p ∈ Led c₀, p.1 ∉ wr) (hfp : ∀ q ∈ Led c₀, q.1 ∉ fp) (hst : St 0 s.heap) (F : Fr h₀ env.locals s.heap m₀) (N : News h₀ env.locals s.heap (Led c₀))
    (hk : ∀ p ∈ ps c₀, m₀ p.1 = some p.2) (hp : P 0 c₀) (hadr : ∀ c, (Led c).map (·.1) = (Led c₀).map (·.1)) (hx : ∀ c, ∀ p ∈ ps c, p.1 ≠ x)
    (turn : ∀ i v c u h tk own, i < n → Pv i v → P i c → OwnOff own ((Led c₀).map (·.1)) → Fr h₀ env.locals h (kstB u ((x, v) :: ps c)) → News h₀ env.locals h (Led c ++ own) →
      wpAny (model prog w) A (execs body env) (TurnOk h₀ env.locals ps Led (P (i + 1)) own { s with heap := h, toks := tk } Q) No { s with heap := h, toks := tk })
    (done : ∀ c u h tk, P n c → Fr h₀ env.locals h (kstB u (ps c)) → News h₀ env.locals h (Led c) → Q .next { s with heap := h, toks := tk }) :
    LoopAtV prog w A h₀ env x body Q No (.ref I) s := by
  refine loop_invN (fun i m nx => ∃ c, nx = Led c ∧ (∀ p ∈ ps c, m p.1 = some p.2) ∧ P i c) W hLf hwr hnw hfp hst F N ⟨c₀, rfl, hk, hp⟩ ?_ ?_
  · rintro i v m₁ nx h tk own hi hv _ hoff ⟨c, rfl, h1, h2⟩ F₁ N₁
    have F₂ : Fr h₀ env.locals h (kstB m₁ ((x, v) :: ps c)) := by
      have e : kstB m₁ ((x, v) :: ps c) = fun y => if y = x then some v else m₁ y := by
        funext y
        show (if y = x then some v else kstB m₁ (ps c) y) = _
        rw [kstB_eq h1 fun _ => rfl]
      rw [e]; exact F₁
    refine wpAny_mono (turn i v c m₁ h tk own hi hv h2 hoff F₂ N₁) (fun f s₂ p => ?_) fun _ _ e => e
    have fin : (∃ c m h' tk' nw, s₂ = { s with heap := h', toks := tk' } ∧ P (i + 1) c ∧ Fr h₀ env.locals h' m ∧ (∀ p ∈ ps c, m p.1 = some p.2) ∧ News h₀ env.locals h' nw ∧ (∀ p ∈ Led c, p ∈ nw) ∧ (∀ p ∈ own, p ∈ nw)) →
        InvEndN h₀ env.locals (fun m nx => ∃ c, nx = Led c ∧ (∀ p ∈ ps c, m p.1 = some p.2) ∧ P (i + 1) c) own ((Led c₀).map (·.1)) { s with heap := h, toks := tk } s₂ := by
      rintro ⟨c', m', h', tk', nw, e, hP, F', hm, N', hl, ho⟩
      exact ⟨h', tk', m', nw, Led c', e, F', N', hl, ho, hadr c', c', rfl, hm, hP⟩
    cases f with
    | ret v => exact p
    | brk => exact p
    | next => exact fin p
    | cont => exact fin p
  · rintro m₁ nx h tk ⟨c, rfl, h1, h2⟩ F₁ N₁
    exact done c m₁ h tk h2 (fr_norm _ F₁ h1) N₁

theorem for_range {σ : Type} {r : Addr} {a₀ b₀ : Int} {t₀ u₀ v₀ : Tok} {n : Nat} {m₀ : Str → Option Value} (ps : σ → List (Str × Value)) (Led : σ → List (Addr × Obj)) (P : Nat → σ → Prop) (c₀ : σ)
    (hh : A.handled = none) (hr : IsRange s.heap r a₀ b₀ 1 t₀ u₀ v₀) (hsmall : Builtin.Range.small a₀ b₀ 1 = true) (hn : Builtin.Range.rangeSize a₀ b₀ 1 = (n : Int)) (F : Fr h₀ env.locals s.heap m₀) (N : News h₀ env.locals s.heap (Led c₀))
    (hk : ∀ p ∈ ps c₀, m₀ p.1 = some p.2) (hp : P 0 c₀) (hadr : ∀ c, (Led c).map (·.1) = (Led c₀).map (·.1)) (hx : ∀ c, ∀ p ∈ ps c, p.1 ≠ x)
    (turn : ∀ (i : Nat) k t c u h tk own, i < n → k = a₀ + (i : Int) → P i c → OwnOff own ((Led c₀).map (·.1)) → Fr h₀ env.locals h (kstB u ((x, .int k t) :: ps c)) → News h₀ env.locals h (Led c ++ own) →
      wpAny (model prog w) A (execs body env) (TurnOk h₀ env.locals ps Led (P (i + 1)) own { s with heap := h, toks := tk } Q) No { s with heap := h, toks := tk })
    (done : ∀ c u h tk, P n c → Fr h₀ env.locals h (kstB u (ps c)) → News h₀ env.locals h (Led c) → Q .next { s with heap := h, toks := tk }) :
    wpAny (model prog w) A (pyIter (.ref r)) (fun it s₂ => LoopAtV prog w A h₀ env x body Q No it s₂) No s := by
  refine wpAny_pyIter_range hr hsmall ?_
  have W : Walks prog w A s.heap.objs.size [s.heap.objs.size] [s.heap.objs.size] n (fun i v => i < n ∧ ∃ t, v = .int (a₀ + i * 1) t)
      (fun i h => IsRangeIter h s.heap.objs.size (a₀ + (i : Nat) * 1) ((n : Int) - (i : Nat)) 1) := (Walks.range hh _ a₀ 1 n).bound
  refine loop_st ps Led P c₀ W ?_ ?_ ?_ ?_ (by show IsRangeIter _ _ _ _ _; rw [hn]; simpa using Heap.get?_push_size _ rfl) (F.push _) (fun p hp => ⟨Heap.get?_push_of_some _ (N p hp).1, (N p hp).2⟩) hk hp hadr hx ?_ ?_
  · intro hm
    exact absurd F.ns.lt ((List.mem_singleton.mp hm) ▸ Nat.lt_irrefl _)
  · intro b hb
    rw [List.mem_singleton.mp hb]
    exact next_is_new F
  · intro p hp hI
    exact absurd (Heap.lt_size (N p hp).1) ((List.mem_singleton.mp hI) ▸ Nat.lt_irrefl _)
  · intro p hp hI
    exact absurd (Heap.lt_size (N p hp).1) ((List.mem_singleton.mp hI) ▸ Nat.lt_irrefl _)
  · rintro i v c u h tk own hi ⟨_, t, rfl⟩ hP hoff F₁ N₁
    exact turn i _ t c u h tk own hi (by omega) hP hoff F₁ N₁
  · exact done

/-- a loop over a list that the call has made and that the loop leaves alone -/
theorem for_made {σ : Type} {l : Addr} {vs : List Value} {nn : Nat} {m₀ : Str → Option Value} (ps : σ → List (Str × Value)) (Led : σ → List (Addr × Obj)) (P : Nat → σ → Prop) (c₀ : σ)
    (hh : A.handled = none) (hl : ∀ c, (l, listOf vs.toArray nn) ∈ Led c) (F : Fr h₀ env.locals s.heap m₀) (N : News h₀ env.locals s.heap (Led c₀))
    (hk : ∀ p ∈ ps c₀, m₀ p.1 = some p.2) (hp : P 0 c₀) (hadr : ∀ c, (Led c).map (·.1) = (Led c₀).map (·.1)) (hx : ∀ c, ∀ p ∈ ps c, p.1 ≠ x)
    (turn : ∀ (i : Nat) v c u h tk own, vs[i]? = some v → P i c → OwnOff own ((Led c₀).map (·.1)) → Fr h₀ env.locals h (kstB u ((x, v) :: ps c)) → News h₀ env.locals h (Led c ++ own) →
      wpAny (model prog w) A (execs body env) (TurnOk h₀ env.locals ps Led (P (i + 1)) own { s with heap := h, toks := tk } Q) No { s with heap := h, toks := tk })
    (done : ∀ c u h tk, P vs.length c → Fr h₀ env.locals h (kstB u (ps c)) → News h₀ env.locals h (Led c) → Q .next { s with heap := h, toks := tk }) :
    wpAny (model prog w) A (pyIter (.ref l)) (fun it s₂ => LoopAtV prog w A h₀ env x body Q No it s₂) No s := by
  have hol : s.heap.get? l = some (listOf vs.toArray nn) := (N _ (hl c₀)).1
  have hl₀ : h₀.get? l = none := (N _ (hl c₀)).2.2
  have hlL : l ≠ env.locals := (N _ (hl c₀)).2.1
  have hls : s.heap.IsList l vs.toArray := ⟨_, hol, rfl, nn, rfl⟩
  have hne : l ≠ s.heap.objs.size := Nat.ne_of_lt (Heap.lt_size hol)
  refine wpAny_pyIter_list hls ?_
  have W := Walks.list (prog := prog) (w := w) hh s.heap.objs.size l hne vs.toArray
  have hlen : vs.toArray.size = vs.length := by simp
  rw [hlen] at W
  let J : Nat → (Str → Option Value) → List (Addr × Obj) → Prop := fun i m nx => ∃ c, nx = Led c ∧ (∀ p ∈ ps c, m p.1 = some p.2) ∧ P i c
  let J' : Nat → (Str → Option Value) → List (Addr × Obj) → Prop := fun i m₁ news₁ => news₁.map (·.1) = (Led c₀).map (·.1) ∧ J i m₁ news₁
  refine ⟨_, _, _, vs.length, _, _, m₀, Led c₀, J', rfl, W, ?_, ?_, ?_, ⟨⟨_, Heap.get?_push_size _ rfl, rfl, rfl⟩, hls.at fun o e => Heap.get?_push_of_some _ e⟩, F.push _, (fun p hp => ⟨Heap.get?_push_of_some _ (N p hp).1, (N p hp).2⟩), ⟨rfl, c₀, rfl, hk, hp⟩, ?_, ?_⟩
  · intro hm
    rcases List.mem_cons.mp hm with e | hm
    · exact absurd F.ns.lt (e ▸ Nat.lt_irrefl _)
    · exact hlL (List.mem_singleton.mp hm).symm
  · intro b hb
    rw [List.mem_singleton.mp hb]
    exact next_is_new F
  · intro p hp hI
    exact absurd (Heap.lt_size (N p hp).1) ((List.mem_singleton.mp hI) ▸ Nat.lt_irrefl _)
  · rintro i v m₁ news₁ s₁ own ⟨hh', tk', rfl⟩ hin hP ⟨hadr', c, rfl, h1, h2⟩ hoff hown hgo _ _ F₁ N₁
    have hv : vs[i]? = some v := by simpa using hP
    -- what of own is the list itself is in the ledger, too
    have hsep : OwnOff (own.filter fun p => p.1 != l) ((Led c₀).map (·.1)) := by
      intro p hp b hb e
      obtain ⟨hp1, hp2⟩ := List.mem_filter.mp hp
      obtain ⟨q, hq, rfl⟩ := List.mem_map.mp hb
      rcases List.mem_cons.mp (hown p hp1) with h3 | h3
      · exact absurd (Heap.lt_size (N q hq).1) (by rw [← e, h3]; exact Nat.lt_irrefl _)
      · rw [List.mem_singleton.mp h3] at hp2
        simp at hp2
    have F₂ : Fr h₀ env.locals hh' (kstB m₁ ((x, v) :: ps c)) := by
      have e : kstB m₁ ((x, v) :: ps c) = fun y => if y = x then some v else m₁ y := by
        funext y
        show (if y = x then some v else kstB m₁ (ps c) y) = _
        rw [kstB_eq h1 fun _ => rfl]
      rw [e]; exact F₁
    have N₂ : News h₀ env.locals hh' (Led c ++ own.filter fun p => p.1 != l) := fun p hp => N₁ p ((List.mem_append.mp hp).elim (fun h => List.mem_append.mpr (.inr h)) fun h => List.mem_append.mpr (.inl (List.mem_filter.mp h).1))
    have hown2 : ∀ p ∈ own, p.1 = l → p.2 = listOf vs.toArray nn := by
      intro p hp e
      have a := (N₁ p (List.mem_append_left _ hp)).1
      have b := (N₂ _ (List.mem_append_left _ (hl c))).1
      rw [e] at a
      exact Option.some.inj (a.symm.trans b)
    refine wpAny_mono (turn i v c m₁ hh' tk' _ hv h2 hsep F₂ N₂) (fun f s₂ p => ?_) fun _ _ e => e
    have fin : (∃ c m h' tk'' nw, s₂ = { s with heap := h', toks := tk'' } ∧ P (i + 1) c ∧ Fr h₀ env.locals h' m ∧ (∀ p ∈ ps c, m p.1 = some p.2) ∧ News h₀ env.locals h' nw ∧ (∀ p ∈ Led c, p ∈ nw) ∧ (∀ p ∈ own.filter fun p => p.1 != l, p ∈ nw)) →
        LoopStepU h₀ env.locals [s.heap.objs.size] own (J' (i + 1)) { s with heap := hh', toks := tk' } .next s₂ := by
      rintro ⟨c', m', h', tk'', nw, e, hP', F', hm, N', hl', ho⟩
      refine ⟨rfl, h', tk'', m', Led c', e, F', fun p hp => ?_, fun p hp hq => ?_, hadr c', c', rfl, hm, hP'⟩
      · rcases List.mem_append.mp hp with hp | hp
        · by_cases e2 : p.1 = l
          · have e3 : p = (l, listOf vs.toArray nn) := Prod.ext e2 (hown2 p hp e2)
            rw [e3]; exact N' _ (hl' _ (hl c'))
          · exact N' p (ho p (List.mem_filter.mpr ⟨hp, by simpa using e2⟩))
        · exact N' p (hl' p hp)
      · have h3 : p.1 ∈ (Led c').map (·.1) := List.mem_map.mpr ⟨p, hp, rfl⟩
        rw [hadr c', ← hadr c] at h3
        obtain ⟨q, hq1, hq2⟩ := List.mem_map.mp h3
        exact hoff q hq1 (by rw [hq2]; exact hq)
    cases f with
    | ret v => exact .ret p
    | brk => exact .brk p
    | next => exact .next (fin p)
    | cont => exact .cont (fin p)
  · rintro h' tk m' news' F' N' _ ⟨_, c, rfl, h1, h2⟩
    exact done c m' h' tk h2 (fr_norm _ F' h1) N'

/-- the start of a for -/
theorem for_start {Q : Flow → Shared → Prop} {x : Str} {px pos : Pos} {iter : PySem.Expr} {body : List Stmt} {L : Addr} {h : Heap} {m : Str → Option Value} (F : Fr h₀ L h m) (hx : env.kindOf x = some .local)
    (hp : (env.scope.kind == .class || (env.scope.kind == .module && env.locals != env.globals)) = false)
    (h : wpAny (model prog w) A (eval iter env) (fun xv s₁ => wpAny (model prog w) A (pyIter xv) (fun it s₂ => LoopAtV prog w A h₀ env x body Q No it s₂) No s₁) No s)
    (hs : ∀ x, foldedSetIterable iter env x = pure x := by intro _; rfl) :
    wpAny (model prog w) A (exec (.For (.Name x px) iter body [] pos) env) Q No s := For_invV h₀ hx hp h hs PassesOwn.never
end
end Mine
namespace Mine
open PySem PySem.W PySem.Calls PyProof.Rows
section
variable {prog : Program} {w : World} {A : Around} {h₀ : Heap} {L : Addr} {m : Str → Option Value} {env : Env}
/-- the turns of a comprehension whose element leaves the ledger as it is -/
theorem comp_rest {elt : PySem.Expr} {x : Str} {scope : Scope} {cl : List (Str × Addr)} {s : Shared} {S : List (Addr × Obj) → Prop} {P : Nat → Value → Prop} {Fin : List Value → List (Addr × Obj) → Prop} {news : List (Addr × Obj)} {N : Nat} (R : Nat → Value → Prop)
    (hS : S news)
    (hel : ∀ i v I oI oC C D ys m₂ h tk, i < N → P i v → LCg.NsObj oC m₂ → m₂ x = some v → Fr h₀ L h m → News h₀ L h ((I, oI) :: (C, oC) :: (D, LCg.lst ys) :: news) → LCg.Off3 I C D news → ((@Ne Nat I C) ∧ (@Ne Nat I D) ∧ (@Ne Nat C D)) →
      wpAny (model prog w) A (eval elt (compEnvC scope cl C env)) (fun y s' => ∃ h' tk', s' = { s with heap := h', toks := tk' } ∧ Fr h₀ L h' m ∧ News h₀ L h' ((I, oI) :: (C, oC) :: (D, LCg.lst ys) :: news) ∧ R i y) No { s with heap := h, toks := tk })
    (hFin : ∀ ys, ys.length = N → (∀ (i : Nat) y, ys[i]? = some y → R i y) → Fin ys news) :
    LCg.CompRest prog w A h₀ L m env elt x scope cl s S P Fin N 0 [] news := by
  have go : ∀ (k i : Nat) (ys : List Value), k + i = N → ys.length = i → (∀ (j : Nat) y, ys[j]? = some y → R j y) → LCg.CompRest prog w A h₀ L m env elt x scope cl s S P Fin k i ys news := by
    intro k
    induction k with
    | zero =>
      intro i ys hk hl hy
      exact LCg.CompRest.zero (hFin ys (by omega) hy)
    | succ k ih =>
      intro i ys hk hl hy
      refine LCg.CompRest.succ ?_
      intro v I oI C oC D m₂ h tk E' hP hC hx F N off ne
      refine wpAny_mono (hel i v I oI oC C D ys m₂ h tk (by omega) hP hC hx F N off ne) (fun y s' hs => ?_) fun _ _ x => x.elim
      obtain ⟨h', tk', rfl, F', N', hR⟩ := hs
      refine LCg.CompEnd.intro F' N' news (fun p hp => hp) off hS ?_
      refine ih (i + 1) (ys ++ [y]) (by omega) (by simp [hl]) ?_
      intro j z hz
      by_cases hj : j < ys.length
      · rw [List.getElem?_append_left hj] at hz; exact hy j z hz
      · rw [List.getElem?_append_right (by omega)] at hz
        have : j - ys.length = 0 := by
          cases hq : j - ys.length with
          | zero => rfl
          | succ q => rw [hq] at hz; simp at hz
        have hj' : j = i := by omega
        rw [this] at hz
        simp at hz
        subst hz; subst hj'; exact hR
  exact go N 0 [] (by omega) rfl (fun j y h => by simp at h)
end
end Mine
namespace Mine
open PySem PySem.W PySem.Calls PyProof.Rows
section
variable {prog : Program} {w : World} {A : Around} {env : Env}
/-- ''.join([..]) -/
theorem eval_join {s : Shared} {Q : Value → Shared → Prop} {e : PySem.Expr} {k1 : Nat} {p1 p2 p3 : Pos} {pl : Sem Bool} {nm : Str} {ex : PySem.Expr} (hex : ex = .Call (.Attribute (.Constant (.str nm) k1 p1) (Str.ofString "join") p2) [e] [] p3) (hnm : nm = ⟨#[]⟩)
    (he : eval (.Call (.Attribute (.Constant (.str nm) k1 p1) (Str.ofString "join") p2) [e] [] p3) env = (do
      let ov ← eval (.Constant (.str nm) k1 p1) env
      standAt p2.atName
      let (f, first) ← holding [ov] (getMethod ov (Str.ofString "join") pl)
      callWith p3 f first (backTo p3 (starEach [e] env)) []))
    (he2 : starEach [e] env = (false, eval e env) :: starEach [] env)
    (h : wpAny (model prog w) A (eval e env) (fun v s₂ => ∃ (D : Addr) (vs : Array Value) (ys : List Str), v = .ref D ∧ s₂.heap.IsList D vs ∧ StrsAre vs.toList ys ∧ (ys.map (·.length)).sum + ys.length ≤ 1048576 ∧ ∀ tk t, Q (.str (Txt.join ⟨#[]⟩ ys) t) { s₂ with toks := tk }) No { s with toks := s.toks + 1 }) :
    wpAny (model prog w) A (eval ex env) Q No s := by
  subst hex
  refine MethodCall_ (Constant_str (GM.join (callWith_method1 (spliced_more (wpAny_mono h (fun v s₂ hv => ?_) fun _ _ x => x) he2) he2))) he
  obtain ⟨D, vs, ys, rfl, hl, hy, hw, hq⟩ := hv
  refine spliced_none ?_
  show wpAny _ _ (call (.builtin "str.join") [.str nm s.toks, .ref D]) _ _ _
  rw [hnm]
  exact join_listW hl hy (by decide) hw fun t' k => hq k t'
end
end Mine
namespace Mine
open PySem PySem.W PySem.Calls PyProof.Rows
def forB : Stmt → List Stmt | .For _ _ b _ _ => b | _ => []
def forI : Stmt → Option PySem.Expr | .For _ i _ _ _ => some i | _ => none
def whT : Stmt → Option PySem.Expr | .While t _ _ _ => some t | _ => none
def whB : Stmt → Option (List Stmt) | .While _ b _ _ => some b | _ => none
def whE : Stmt → Option (List Stmt) | .While _ _ b _ => some b | _ => none
def ifT : Stmt → Option PySem.Expr | .If t _ _ _ => some t | _ => none
def ifB : Stmt → Option (List Stmt) | .If _ b _ _ => some b | _ => none
def retE : Stmt → Option PySem.Expr | .Return e _ => e | _ => none
def asgE : Stmt → Option PySem.Expr | .Assign _ e _ => some e | _ => none
def argE : PySem.Expr → Option PySem.Expr | .Call _ [e] _ _ => some e | _ => none
def eltE : PySem.Expr → Option PySem.Expr | .ListComp e _ _ _ => some e | _ => none
def scE : PySem.Expr → Option Scope | .ListComp _ _ s _ => some s | _ => none
def itE : PySem.Expr → Option PySem.Expr | .ListComp _ [⟨_, i, _, _⟩] _ _ => some i | _ => none
abbrev natsI (l : List Nat) : List Int := l.map (fun n : Nat => ((n : Nat) : Int))
theorem natsI_getD (l : List Nat) (k : Nat) : (natsI l).getD k 0 = ((l.getD k 0 : Nat) : Int) := by
  simp [List.getD_eq_getElem?_getD, List.getElem?_map]
  cases l[k]? <;> rfl
theorem natsI_set (l : List Nat) (k v : Nat) : (natsI l).set k (v : Int) = natsI (l.set k v) := by
  simp [natsI, List.map_set]
theorem push_snoc (vs : List Value) (v : Value) : vs.toArray.push v = (vs ++ [v]).toArray := by simp
theorem txt_join (sep : Str) (ys : List Str) : Txt.join sep ys = Str.join sep ys := beq_iff_eq.mp (join_closes rfl)
end Mine
namespace Mine
open PySem PySem.W PySem.Calls PyProof.Rows
def litsE : List PySem.Expr → List (Int × Nat × Pos)
  | .Constant (.int i) k p :: r => (i, k, p) :: litsE r
  | _ => []
def litE (p : Int × Nat × Pos) : PySem.Expr := .Constant (.int p.1) p.2.1 p.2.2
section
variable {prog : Program} {w : World} {A : Around} {env : Env} {h₀ : Heap} {L : Addr} {m : Str → Option Value} {news : List (Addr × Obj)}
theorem spliced_ints {pos : Pos} : ∀ (l : List (Int × Nat × Pos)) {s : Shared} {Q : List Value → Shared → Prop}, (∀ vs tk, IntsAre vs (l.map (·.1)) → Q vs { s with toks := tk }) → wpAny (model prog w) A (spliced (backTo pos (starEach (l.map litE) env))) Q No s
  | [], s, Q, h => spliced_none (h [] s.toks .nil)
  | p :: r, s, Q, h => spliced_more (wpAny_Constant_int (spliced_ints r fun vs tk hv => h _ tk (.cons _ _ hv))) rfl
/-- a display of ints -/
theorem eval_ints {s : Shared} {Q : Value → Shared → Prop} {elts : List PySem.Expr} {pos : Pos} (F : Fr h₀ L s.heap m) (N : News h₀ L s.heap news) (hl : elts = (litsE elts).map litE) (hn : (litsE elts).length ≤ 1000)
    (h : ∀ D h' tk vs, Fr h₀ L h' m → News h₀ L h' ((D, W.listOf vs.toArray 0) :: news) → (∀ q ∈ news, q.1 ≠ D) → IntsAre vs ((litsE elts).map (·.1)) → Q (.ref D) { s with heap := h', toks := tk }) :
    wpAny (model prog w) A (eval (.List elts pos) env) Q No s := by
  refine List_ ?_
  rw [hl]
  refine spliced_ints _ fun vs tk hv => ?_
  refine newList_N (s := { s with toks := tk }) F N (fun h' F' N' => h _ h' tk vs F' N' (fun q hq => Nat.ne_of_lt (Heap.lt_size (N q hq).1)) hv) ?_
  have := hv.length
  rw [List.length_map] at this
  show vs.length ≤ 16777216
  omega
/-- two made lists of ints, glued -/
theorem add_ints {s : Shared} {Q : Value → Shared → Prop} {D₁ D₂ : Addr} {vs ws : List Value} {ns ms : List Int} {n₁ n₂ : Nat} (F : Fr h₀ L s.heap m) (N : News h₀ L s.heap news) (h1 : (D₁, W.listOf vs.toArray n₁) ∈ news) (h2 : (D₂, W.listOf ws.toArray n₂) ∈ news)
    (hi : IntsAre vs ns) (hj : IntsAre ws ms) (hl : ns.length + ms.length ≤ 1000)
    (h : ∀ D h', Fr h₀ L h' m → News h₀ L h' ((D, W.listOf (vs ++ ws).toArray 0) :: news) → (∀ q ∈ news, q.1 ≠ D) → IntsAre (vs ++ ws) (ns ++ ms) → Q (.ref D) { s with heap := h' }) :
    wpAny (model prog w) A (binaryOp .Add (.ref D₁) (.ref D₂)) Q No s := by
  refine add_lists_ints F N (N.isList h1) (N.isList h2) hi hj (fun h' F' N' I => h _ h' F' N' (fun q hq => Nat.ne_of_lt (Heap.lt_size (N q hq).1)) I) (by show _ ≤ 16777216; omega)
/-- list(range(a, b)) once the range is made -/
theorem list_range_ints {s : Shared} {Q : Value → Shared → Prop} {r : Addr} {a b : Int} {n : Nat} {t u v : Tok} (hh : A.handled = none) (F : Fr h₀ L s.heap m) (N : News h₀ L s.heap news) (hr : IsRange s.heap r a b 1 t u v) (ha : -1000000 ≤ a) (hb : b ≤ 1000000) (ha' : a ≤ 1000000) (hb' : -1000000 ≤ b) (hn : (b - a).toNat = n) (hn' : n ≤ 1000)
    (h : ∀ D h' tk vs c, Fr h₀ L h' m → News h₀ L h' ((D, W.listOf vs.toArray c) :: news) → (∀ q ∈ news, q.1 ≠ D) → IntsAre vs (rangeInts a 1 n) → Q (.ref D) { s with heap := h', toks := tk }) :
    wpAny (model prog w) A (call (.type "list") [.ref r]) Q No s := by
  refine list_rangeD hh F N hr (small_one (by omega) (by omega) (by omega) (by omega)) (n := n) (by rw [rangeSize_nat, hn]) (by omega) fun h' tk ys F' N' hk h0 hl hp hc => ?_
  obtain ⟨⟨c, hc'⟩, hap⟩ := hp
  refine h _ h' tk ys c F' (fun q hq => ?_) (fun q hq => Nat.ne_of_lt (Heap.lt_size (N q hq).1)) (IntsAre.ofCarried hc)
  rcases List.mem_cons.mp hq with rfl | hq
  · exact ⟨hc', Ne.symm (Nat.ne_of_lt F.ns.lt), h0⟩
  · exact N' q hq
end
end Mine
end
section
set_option maxRecDepth 100000
set_option linter.unusedVariables false
set_option Elab.async false
namespace Mine
open PySem PySem.W PySem.Calls PyProof.Rows
/-- where a walk is to stand still -/
structure Stop (P : Prop) : Prop where
  out :: (go : P)
theorem stopW {P : Prop} (h : Stop P) : P := h.go
def upd (m : Str → Option Value) (x : Str) (v : Value) : Str → Option Value := fun y => if y = x then some v else m y
theorem upd_at (m : Str → Option Value) (x : Str) (v : Value) : upd m x v x = some v := if_pos rfl
theorem upd_ne {m : Str → Option Value} {x y : Str} {v : Value} {r : Option Value} (h : m y = r) (hn : y ≠ x) : upd m x v y = r := (if_neg hn).trans h
theorem kstB_id {m : Str → Option Value} {ps : List (Str × Value)} (hk : ∀ p ∈ ps, m p.1 = some p.2) : kstB m ps = m := funext fun z => kstB_eq hk fun _ => rfl
theorem fr_upd {h₀ h : Heap} {L : Addr} {m : Str → Option Value} {x : Str} {v : Value} {ps : List (Str × Value)} (hk : ∀ p ∈ ps, m p.1 = some p.2) (F : Fr h₀ L h (upd (kstB m ps) x v)) : Fr h₀ L h (upd m x v) := by
  rw [kstB_id hk] at F; exact F
theorem fr_same {h₀ h : Heap} {L : Addr} {m : Str → Option Value} {ps : List (Str × Value)} (hk : ∀ p ∈ ps, m p.1 = some p.2) (F : Fr h₀ L h (kstB m ps)) : Fr h₀ L h m := by
  rw [kstB_id hk] at F; exact F
theorem all1 {m : Str → Option Value} {x : Str} {v : Value} (h : m x = some v) : ∀ p ∈ [(x, v)], m p.1 = some p.2 := fun p hp => by obtain rfl := List.mem_singleton.mp hp; exact h
theorem allC {m : Str → Option Value} {x : Str} {v : Value} {ps : List (Str × Value)} (h : m x = some v) (r : ∀ p ∈ ps, m p.1 = some p.2) : ∀ p ∈ (x, v) :: ps, m p.1 = some p.2 := fun p hp => by
  rcases List.mem_cons.mp hp with rfl | hp
  · exact h
  · exact r p hp
theorem news_add {h₀ h : Heap} {L : Addr} {news : List (Addr × Obj)} {p : Addr × Obj} (N : News h₀ L h news) (hm : p ∈ news) : News h₀ L h (p :: news) := fun q hq => by
  rcases List.mem_cons.mp hq with rfl | hq
  · exact N _ hm
  · exact N q hq
section
variable {M : Model} {A : Around} {E : Value → Shared → Prop} {s : Shared} {h₀ : Heap} {L a : Addr} {m : Str → Option Value} {cn : Str} {cs : Scope} {ccd : Value} {cl : List (Str × Addr)}
  {x : Str} {v : Value} {Q : Unit → Shared → Prop} {news rest : List (Addr × Obj)} {c : Addr} {o : Obj} {v₀ : Option Value}
/-- a cell stored anew; the rest of the ledger stays -/
theorem store_cell (c : Addr) (o : Obj) (rest : List (Addr × Obj)) (F : Fr h₀ L s.heap m) (N : News h₀ L s.heap news) (hp : ∀ p ∈ (c, o) :: rest, p ∈ news) (hc : cl.lookup x = some c) (h2 : ∀ p ∈ rest, p.1 ≠ c) (hd : o.data = .cell v₀)
    (h : ∀ h' o', Fr h₀ L h' m → News h₀ L h' ((c, o') :: rest) → o'.data = .cell (some v) → Q () { s with heap := h' })
    (hk : cs.kind = .function := by rfl) (hx : (envX cn cs L a ccd cl).kindOf x = some .cell := by rfl) : wpAny M A (storeName (envX cn cs L a ccd cl) x v) Q E s :=
  storeX_C (g := fun o' => (c, o') :: rest) F (kst_newsOf N hp) hc (.head h2) hd h hk hx
end
end Mine
namespace Mine
open PySem PySem.W PySem.Calls PyProof.Rows
section
variable {prog : Program} {w : World} {A : Around} {h₀ : Heap} {L : Addr} {m : Str → Option Value} {env : Env}
theorem comp_restT {ct elt : PySem.Expr} {x : Str} {scope : Scope} {cl : List (Str × Addr)} {s : Shared} {S : List (Addr × Obj) → Prop} {P : Nat → Value → Prop} {Fin : List Value → List (Addr × Obj) → Prop} {news : List (Addr × Obj)} {N : Nat} (T : Nat → Bool) (R : Nat → Value → Prop)
    (hS : S news)
    (htest : ∀ i v I oI oC C D ys m₂ h tk, i < N → P i v → LCg.NsObj oC m₂ → m₂ x = some v → Fr h₀ L h m → News h₀ L h ((I, oI) :: (C, oC) :: (D, LCg.lst ys) :: news) → LCg.Off3 I C D news → ((@Ne Nat I C) ∧ (@Ne Nat I D) ∧ (@Ne Nat C D)) →
      wpAny (model prog w) A (PySem.isTrue ct (compEnvC scope cl C env) (eval ct (compEnvC scope cl C env))) (fun ok s' => ∃ h' tk', s' = { s with heap := h', toks := tk' } ∧ Fr h₀ L h' m ∧ News h₀ L h' ((I, oI) :: (C, oC) :: (D, LCg.lst ys) :: news) ∧ ok = T i) No { s with heap := h, toks := tk })
    (hel : ∀ i v I oI oC C D ys m₂ h tk, i < N → T i = true → P i v → LCg.NsObj oC m₂ → m₂ x = some v → Fr h₀ L h m → News h₀ L h ((I, oI) :: (C, oC) :: (D, LCg.lst ys) :: news) → LCg.Off3 I C D news → ((@Ne Nat I C) ∧ (@Ne Nat I D) ∧ (@Ne Nat C D)) →
      wpAny (model prog w) A (eval elt (compEnvC scope cl C env)) (fun y s' => ∃ h' tk', s' = { s with heap := h', toks := tk' } ∧ Fr h₀ L h' m ∧ News h₀ L h' ((I, oI) :: (C, oC) :: (D, LCg.lst ys) :: news) ∧ R i y) No { s with heap := h, toks := tk })
    (hFin : ∀ ys, ys.length = ((List.range N).filter T).length → (∀ (j : Nat) y, ys[j]? = some y → R (((List.range N).filter T).getD j 0) y) → Fin ys news) :
    LCt.CompRestT prog w A h₀ L m env ct elt x scope cl s S P Fin N 0 [] news := by
  have go : ∀ (k i : Nat) (ys : List Value), k + i = N → ys.length = ((List.range i).filter T).length → (∀ (j : Nat) y, ys[j]? = some y → R (((List.range i).filter T).getD j 0) y) → LCt.CompRestT prog w A h₀ L m env ct elt x scope cl s S P Fin k i ys news := by
    intro k
    induction k with
    | zero =>
      intro i ys hk hl hy
      obtain rfl : i = N := by omega
      exact LCt.CompRestT.zero (hFin ys hl hy)
    | succ k ih =>
      intro i ys hk hl hy
      refine LCt.CompRestT.succ ?_
      intro v I oI C oC D m₂ h tk E' hP hC hx F N' off ne
      refine wpAny_mono (htest i v I oI oC C D ys m₂ h tk (by omega) hP hC hx F N' off ne) (fun ok s' hs => ?_) fun _ _ x => x.elim
      obtain ⟨h', tk', rfl, F', N', rfl⟩ := hs
      have er : (List.range (i + 1)).filter T = (List.range i).filter T ++ (if T i = true then [i] else []) := by
        rw [List.range_succ, List.filter_append]
        congr 1
        cases hT : T i <;> simp [hT]
      cases hT : T i with
      | true =>
        rw [hT, if_pos rfl] at er
        simp only [if_true]
        refine wpAny_mono (hel i v I oI oC C D ys m₂ h' tk' (by omega) hT hP hC hx F' N' off ne) (fun y s' hs => ?_) fun _ _ x => x.elim
        obtain ⟨h'', tk'', rfl, F'', N'', hR⟩ := hs
        refine LCg.CompEnd.intro F'' N'' news (fun p hp => hp) off hS ?_
        refine ih (i + 1) (ys ++ [y]) (by omega) (by rw [er]; simp [hl]) ?_
        intro j z hz
        rw [er]
        by_cases hj : j < ys.length
        · rw [List.getElem?_append_left hj] at hz
          have := hy j z hz
          rw [List.getD_eq_getElem?_getD, List.getElem?_append_left (by omega), ← List.getD_eq_getElem?_getD]
          exact this
        · rw [List.getElem?_append_right (by omega)] at hz
          have e0 : j - ys.length = 0 := by
            cases hq : j - ys.length with
            | zero => rfl
            | succ q => rw [hq] at hz; simp at hz
          rw [e0] at hz
          simp at hz
          subst hz
          rw [List.getD_eq_getElem?_getD, List.getElem?_append_right (by omega), show j - ((List.range i).filter T).length = 0 by omega]
          exact hR
      | false =>
        rw [hT] at er
        simp only [Bool.false_eq_true, if_false, List.append_nil] at er ⊢
        refine LCg.CompEnd.intro F' N' news (fun p hp => hp) off hS ?_
        exact ih (i + 1) ys (by omega) (by rw [er]; exact hl) (by rw [er]; exact hy)
  exact go N 0 [] (by omega) rfl (fun j y h => by simp at h)
end
end Mine
end
section
set_option maxRecDepth 100000
set_option linter.unusedVariables false
set_option Elab.async false
set_option pp.maxSteps 3000
namespace Mine
open PySem PySem.W PySem.Calls PyProof.Rows
abbrev ovEnv (L : Addr) : Env := envOf (Str.ofString "_generate_overlap_table") (fS (stm 1)) L 21 (Value.ref 20)
def ovFor : List Stmt := match (fB (stm 1))[1]? with | some s => forB s | none => []
theorem item_ne (p : Str) {i j : Nat} (hi : i < p.length) (hj : j < p.length) : (Txt.item p (i : Int) != Txt.item p (j : Int)) = (p.cps.toList.getD i 0 != p.cps.toList.getD j 0) := by
  rw [item_meets (x := p) (i := (i : Int)) ⟨by omega, by omega⟩, item_meets (x := p) (i := (j : Int)) ⟨by omega, by omega⟩]
  have e : ∀ k : Nat, p.cps.getD ((k : Int)).toNat 0 = p.cps.toList.getD k 0 := by
    intro k
    rw [Int.toNat_natCast]
    simp [Array.getD_eq_getD_getElem?, List.getD_eq_getElem?_getD]
  rw [e, e]
  rw [Bool.eq_iff_iff]
  simp

section
variable {w : World} {A : Around} {base : Heap} {outer : List Env} {h₀ : Heap} {L D : Addr} {mg mb : Str → Option Value} {news : List (Addr × Obj)} {mean : ExcName → Option Value}

set_option maxHeartbeats 4000000 in
theorem ov_test {s : Shared} {m : Str → Option Value} {Q : Bool → Shared → Prop} {i k : Nat} {ti tk : Tok} {p : Str} {tp : Tok}
    (B' : Below A base outer h₀) (F' : Fr h₀ L s.heap (kstB m [(Str.ofString "prefix", .str p tp), (Str.ofString "i", .int (i : Int) ti), (Str.ofString "idx", .int (k : Int) tk), (Str.ofString "table", .ref D)])) (X' : (KT w.params).In h₀) (N' : News h₀ L s.heap news) (T' : Top qv (looseW qv loose0) mean mg mb h₀)
    (hi : i < p.length) (hk : k < i) (hp : p.length ≤ 1000)
    (te : PySem.Expr) (hte : (match ovFor[1]? with | some s => whT s | none => none) = some te)
    (h : ∀ tk', Q (p.cps.toList.getD i 0 != p.cps.toList.getD k 0) { s with toks := tk' }) :
    wpAny (model pg w) (A.deeper (ovEnv L)) (PySem.isTrue te (ovEnv L) (eval te (ovEnv L))) Q No s := by
  have hfill : (PySem.Challenge.rw_re0100_01, KT) = (PySem.Challenge.rw_re0100_01, KT) := by k_fill; rfl
  clear hfill
  dsimp only [kstB] at F'
  w_on
  cases hte
  k_steps
  rw [item_ne p hi (Nat.lt_trans hk hi)]
  exact h _

set_option maxHeartbeats 4000000 in
theorem ov_body {s : Shared} {m : Str → Option Value} {Q : Flow → Shared → Prop} {i k : Nat} {ti tk : Tok} {p : Str} {tp : Tok} {vs : List Value} {tb : List Nat} {c : Nat}
    (B' : Below A base outer h₀) (F' : Fr h₀ L s.heap (kstB m [(Str.ofString "prefix", .str p tp), (Str.ofString "i", .int (i : Int) ti), (Str.ofString "idx", .int (k : Int) tk), (Str.ofString "table", .ref D)])) (X' : (KT w.params).In h₀) (N' : News h₀ L s.heap ((D, W.listOf vs.toArray c) :: news)) (T' : Top qv (looseW qv loose0) mean mg mb h₀)
    (hi : i < p.length) (hk : k < i) (hp : p.length ≤ 1000) (hI : IntsAre vs (natsI tb)) (hlen : (natsI tb).length = p.length) (hD : ∀ q ∈ news, q.1 ≠ D)
    (te : List Stmt) (hte : (match ovFor[1]? with | some s => whB s | none => none) = some te)
    (h0 : k = 0 → ∀ h' tk' u vs', Fr h₀ L h' (kstB u [(Str.ofString "prefix", .str p tp), (Str.ofString "table", .ref D)]) → News h₀ L h' ((D, W.listOf vs'.toArray c) :: news) → IntsAre vs' (natsI (tb.set i 0)) → Q .brk { s with heap := h', toks := tk' })
    (h1 : k ≠ 0 → ∀ h' tk' u t, Fr h₀ L h' (kstB u [(Str.ofString "prefix", .str p tp), (Str.ofString "i", .int (i : Int) ti), (Str.ofString "idx", .int (tb.getD (k - 1) 0 : Nat) t), (Str.ofString "table", .ref D)]) → News h₀ L h' ((D, W.listOf vs.toArray c) :: news) → Q .next { s with heap := h', toks := tk' })
    :
    wpAny (model pg w) (A.deeper (ovEnv L)) (execs te (ovEnv L)) Q No s := by
  have hfill : (PySem.Challenge.rw_re0100_01, KT) = (PySem.Challenge.rw_re0100_01, KT) := by k_fill; rfl
  clear hfill
  dsimp only [kstB] at F'
  w_on
  cases hte
  k_steps
  · rename_i hk0 _
    refine ksa_set F' N' (.head hD) hI (by omega) (by omega) (by omega) ?_
    intro h' F' N' hi' hl' hs'
    k_steps
    refine h0 (by omega) _ _ _ _ (fr_norm _ (by assumption) ?_) (by assumption) ?_
    · intro q hq
      simp only [List.mem_cons, List.not_mem_nil, or_false] at hq
      rcases hq with rfl | rfl <;> rfl
    · rw [← natsI_set]; exact hi'
  · rename_i hk0 _ _ _ _ _
    refine h1 (by omega) _ _ _ ?_ (fr_norm _ (by assumption) ?_) (by assumption)
    rotate_left
    intro q hq
    simp only [List.mem_cons, List.not_mem_nil, or_false] at hq
    rcases hq with rfl | rfl | rfl | rfl
    · rfl
    · rfl
    · show some _ = some _
      rw [show ((k : Int) - 1).toNat = k - 1 by omega, natsI_getD]
    · rfl

set_option maxHeartbeats 4000000 in
theorem ov_else {s : Shared} {m : Str → Option Value} {Q : Flow → Shared → Prop} {i k : Nat} {ti tk : Tok} {p : Str} {tp : Tok} {vs : List Value} {tb : List Nat} {c : Nat}
    (B' : Below A base outer h₀) (F' : Fr h₀ L s.heap (kstB m [(Str.ofString "prefix", .str p tp), (Str.ofString "i", .int (i : Int) ti), (Str.ofString "idx", .int (k : Int) tk), (Str.ofString "table", .ref D)])) (X' : (KT w.params).In h₀) (N' : News h₀ L s.heap ((D, W.listOf vs.toArray c) :: news)) (T' : Top qv (looseW qv loose0) mean mg mb h₀)
    (hi : i < p.length) (hk : k < i) (hp : p.length ≤ 1000) (hI : IntsAre vs (natsI tb)) (hlen : (natsI tb).length = p.length) (hD : ∀ q ∈ news, q.1 ≠ D)
    (te : List Stmt) (hte : (match ovFor[1]? with | some s => whE s | none => none) = some te)
    (h0 : ∀ h' tk' u vs', Fr h₀ L h' (kstB u [(Str.ofString "prefix", .str p tp), (Str.ofString "table", .ref D)]) → News h₀ L h' ((D, W.listOf vs'.toArray c) :: news) → IntsAre vs' (natsI (tb.set i (k + 1))) → Q .next { s with heap := h', toks := tk' })
    :
    wpAny (model pg w) (A.deeper (ovEnv L)) (execs te (ovEnv L)) Q No s := by
  have hfill : (PySem.Challenge.rw_re0100_01, KT) = (PySem.Challenge.rw_re0100_01, KT) := by k_fill; rfl
  clear hfill
  dsimp only [kstB] at F'
  w_on
  cases hte
  k_steps
  refine ksa_set F' N' (.head hD) hI (by omega) (by omega) (by omega) ?_
  intro h' F' N' hi' hl' hs'
  k_steps
  refine h0 _ _ _ _ (fr_norm _ (by assumption) ?_) (by assumption) ?_
  · intro q hq
    simp only [List.mem_cons, List.not_mem_nil, or_false] at hq
    rcases hq with rfl | rfl <;> rfl
  · rw [← natsI_set]; exact hi'
end
end Mine
end
section
set_option maxRecDepth 100000
set_option linter.unusedVariables false
set_option Elab.async false
set_option pp.maxSteps 3000
namespace Mine
open PySem PySem.W PySem.Calls PyProof.Rows
section
variable {w : World} {A : Around} {base : Heap} {outer : List Env} {h₀ : Heap} {L D : Addr} {mg mb : Str → Option Value} {news : List (Addr × Obj)} {mean : ExcName → Option Value}

theorem ov_while {i : Nat} {ti : Tok} {p : Str} {tp : Tok} {vs : List Value} {tb : List Nat} {c : Nat} {Q : Flow → Shared → Prop} {s₀ : Shared}
    (B' : Below A base outer h₀) (X' : (KT w.params).In h₀) (T' : Top qv (looseW qv loose0) mean mg mb h₀)
    (hi : i < p.length) (hp : p.length ≤ 1000) (hI : IntsAre vs (natsI tb)) (hlen : (natsI tb).length = p.length) (hD : ∀ q ∈ news, q.1 ≠ D)
    (hb : ∀ j, j < i → tb.getD j 0 ≤ j)
    (te : PySem.Expr) (hte : (match ovFor[1]? with | some s => whT s | none => none) = some te)
    (bo : List Stmt) (hbo : (match ovFor[1]? with | some s => whB s | none => none) = some bo)
    (el : List Stmt) (hel : (match ovFor[1]? with | some s => whE s | none => none) = some el) :
    ∀ (f k : Nat) (tk : Tok) (m : Str → Option Value) (h : Heap) (tks : Nat), k < f → k < i →
      Fr h₀ L h (kstB m [(Str.ofString "prefix", .str p tp), (Str.ofString "i", .int (i : Int) ti), (Str.ofString "idx", .int (k : Int) tk), (Str.ofString "table", .ref D)]) →
      News h₀ L h ((D, W.listOf vs.toArray c) :: news) →
      (∀ (v : Nat) h' tk' u vs', Fr h₀ L h' (kstB u [(Str.ofString "prefix", .str p tp), (Str.ofString "table", .ref D)]) → News h₀ L h' ((D, W.listOf vs'.toArray c) :: news) → IntsAre vs' (natsI (tb.set i v)) → v = ovW p.cps.toList tb (p.cps.toList.getD i 0) f k → Q .next { s₀ with heap := h', toks := tk' }) →
      WhlRest pg w (A.deeper (ovEnv L)) No (ovEnv L) te bo el Q f { s₀ with heap := h, toks := tks }
  | 0, k, _, _, _, _, h, _, _, _, _ => absurd h (Nat.not_lt_zero _)
  | f + 1, k, tk, m, h, tks, hf, hk, F', N', hQ' => by
    refine whl_turn PassesOwn.never ?_
    refine ov_test (news := (D, W.listOf vs.toArray c) :: news) B' F' X' N' T' hi hk hp te hte fun tk₁ => ?_
    by_cases hne : p.cps.toList.getD k 0 = p.cps.toList.getD i 0
    · refine WhlIf.no (by rw [bne_eq_false_iff_eq]; exact hne.symm) ?_
      refine ov_else B' F' X' N' T' hi hk hp hI hlen hD el hel fun h' tk' u vs' F N I => ?_
      exact hQ' (k + 1) h' tk' u vs' F N I (by rw [ovW, if_pos hne])
    · refine WhlIf.yes (by rw [bne_iff_ne]; exact fun e => hne e.symm) ?_
      refine ov_body B' F' X' N' T' hi hk hp hI hlen hD bo hbo (fun h0 h' tk' u vs' F N I => ?_) (fun h0 h' tk' u t F N => ?_)
      · exact hQ' 0 h' tk' u vs' F N I (by rw [ovW, if_neg hne, if_pos h0])
      · have hb' := hb (k - 1) (by omega)
        exact ov_while B' X' T' hi hp hI hlen hD hb te hte bo hbo el hel f _ t u h' tk' (by omega) (by omega) F N (fun v h'' tk'' u' vs' F N I e => hQ' v h'' tk'' u' vs' F N I (by rw [ovW, if_neg hne, if_neg h0]; exact e))

set_option maxHeartbeats 4000000 in
theorem ov_iter {s : Shared} {m : Str → Option Value} {Q : Value → Shared → Prop} {p : Str} {tp : Tok}
    (B' : Below A base outer h₀) (F' : Fr h₀ L s.heap (kstB m [(Str.ofString "prefix", .str p tp), (Str.ofString "table", .ref D)])) (X' : (KT w.params).In h₀) (N' : News h₀ L s.heap news) (T' : Top qv (looseW qv loose0) mean mg mb h₀)
    (hp : p.length ≤ 1000)
    (te : PySem.Expr) (hte : (match (fB (stm 1))[1]? with | some s => forI s | none => none) = some te)
    (h : ∀ h' tk' r t u v, IsRange h' r 1 p.length 1 t u v → Fr h₀ L h' (kstB m [(Str.ofString "prefix", .str p tp), (Str.ofString "table", .ref D)]) → News h₀ L h' news → Q (.ref r) { s with heap := h', toks := tk' }) :
    wpAny (model pg w) (A.deeper (ovEnv L)) (eval te (ovEnv L)) Q No s := by
  have hfill : (PySem.Challenge.rw_re0100_01, KT) = (PySem.Challenge.rw_re0100_01, KT) := by k_fill; rfl
  clear hfill
  dsimp only [kstB] at F'
  w_on
  cases hte
  k_steps
  exact h _ _ _ _ _ _ (by assumption) (by assumption) (by assumption)
set_option maxHeartbeats 4000000 in
theorem ov_first {s : Shared} {m : Str → Option Value} {Q : Flow → Shared → Prop} {i : Nat} {ti : Tok} {p : Str} {tp : Tok} {vs : List Value} {tb : List Nat} {c : Nat}
    (B' : Below A base outer h₀) (F' : Fr h₀ L s.heap (kstB m [(Str.ofString "i", .int (i : Int) ti), (Str.ofString "prefix", .str p tp), (Str.ofString "table", .ref D)])) (X' : (KT w.params).In h₀) (N' : News h₀ L s.heap ((D, W.listOf vs.toArray c) :: news)) (T' : Top qv (looseW qv loose0) mean mg mb h₀)
    (hi : i < p.length) (h0 : 0 < i) (hp : p.length ≤ 1000) (hI : IntsAre vs (natsI tb)) (hlen : (natsI tb).length = p.length)
    (te : Stmt) (hte : ovFor[0]? = some te)
    (h1 : ∀ h' tk' u t, Fr h₀ L h' (kstB u [(Str.ofString "prefix", .str p tp), (Str.ofString "i", .int (i : Int) ti), (Str.ofString "idx", .int (tb.getD (i - 1) 0 : Nat) t), (Str.ofString "table", .ref D)]) → News h₀ L h' ((D, W.listOf vs.toArray c) :: news) → Q .next { s with heap := h', toks := tk' })
    :
    wpAny (model pg w) (A.deeper (ovEnv L)) (exec te (ovEnv L)) Q No s := by
  have hfill : (PySem.Challenge.rw_re0100_01, KT) = (PySem.Challenge.rw_re0100_01, KT) := by k_fill; rfl
  clear hfill
  dsimp only [kstB] at F'
  w_on
  cases hte
  k_steps
  refine h1 _ _ _ ?_ (fr_norm _ (by assumption) ?_) (by assumption)
  rotate_left
  intro q hq
  simp only [List.mem_cons, List.not_mem_nil, or_false] at hq
  rcases hq with rfl | rfl | rfl | rfl
  · rfl
  · rfl
  · show some _ = some _
    rw [show ((i : Int) - 1).toNat = i - 1 by omega, natsI_getD]
  · rfl

/-- the table when the places below i + 1 are told -/
def tabAt (p : List Nat) (n i : Nat) : List Nat := ovT p (i + 1) ++ List.replicate (n - (i + 1)) 0
theorem tabAt_length {p : List Nat} {n i : Nat} (h : i < n) : (tabAt p n i).length = n := by
  rw [tabAt, List.length_append, ovT_length, List.length_replicate]; omega
theorem tabAt_getD {p : List Nat} {n i j : Nat} (h : j < i + 1) : (tabAt p n i).getD j 0 = (ovT p (i + 1)).getD j 0 := by
  rw [tabAt, List.getD_eq_getElem?_getD, List.getElem?_append_left (by rw [ovT_length]; exact h), ← List.getD_eq_getElem?_getD]
theorem ovW_congr {p tb tb' : List Nat} {c i : Nat} (h : ∀ j, j < i → tb.getD j 0 = tb'.getD j 0) (hb : ∀ j, j < i → tb.getD j 0 ≤ j) : ∀ f k, k ≤ i → ovW p tb c f k = ovW p tb' c f k
  | 0, _, _ => rfl
  | f + 1, k, hk => by
    unfold ovW
    split
    · rfl
    · split
      · rfl
      · have := hb (k - 1) (by omega)
        rw [ovW_congr h hb f _ (by omega), h (k - 1) (by omega)]
theorem ovT_le (p : List Nat) (n j : Nat) (h : j < n) : (ovT p n).getD j 0 ≤ j := by
  have := (ovT_max p n j h).1.1
  omega
theorem tabAt_succ {p : List Nat} {n i : Nat} (h : i + 1 < n) :
    (tabAt p n i).set (i + 1) (ovW p (tabAt p n i) (p.getD (i + 1) 0) (i + 2) ((tabAt p n i).getD i 0)) = tabAt p n (i + 1) := by
  have e1 : (tabAt p n i).getD i 0 = (ovT p (i + 1)).getD i 0 := tabAt_getD (by omega)
  have hb : ∀ j, j < i + 1 → (tabAt p n i).getD j 0 ≤ j := fun j hj => by rw [tabAt_getD hj]; exact ovT_le p _ _ hj
  rw [ovW_congr (tb' := ovT p (i + 1)) (i := i + 1) (fun j hj => tabAt_getD hj) hb _ _ (by have := hb i (by omega); omega), e1]
  unfold tabAt
  rw [ovT, List.set_append_right _ _ (by rw [ovT_length]; exact Nat.le_refl _), ovT_length, Nat.sub_self]
  obtain ⟨k, hk⟩ : ∃ k, n - (i + 1) = k + 1 := ⟨n - (i + 1) - 1, by omega⟩
  rw [hk, List.replicate_succ, List.set_cons_zero, List.append_assoc, show n - (i + 1 + 1) = k by omega]
  rfl
theorem tabAt_end {p : List Nat} {n : Nat} (h : 0 < n) : tabAt p n (n - 1) = ovT p n := by
  unfold tabAt
  rw [show n - 1 + 1 = n by omega, Nat.sub_self]; simp
theorem tabAt_zero {p : List Nat} {n : Nat} (h : 0 < n) : tabAt p n 0 = List.replicate n 0 := by
  unfold tabAt
  obtain ⟨k, rfl⟩ : ∃ k, n = k + 1 := ⟨n - 1, by omega⟩
  rw [show k + 1 - (0 + 1) = k by omega, List.replicate_succ]; rfl

theorem ov_for {s : Shared} {m : Str → Option Value} {Q : Flow → Shared → Prop} {p : Str} {tp : Tok} {vs : List Value}
    (B' : Below A base outer h₀) (F' : Fr h₀ L s.heap (kstB m [(Str.ofString "prefix", .str p tp), (Str.ofString "table", .ref D)])) (X' : (KT w.params).In h₀) (N' : News h₀ L s.heap ((D, W.listOf vs.toArray 0) :: news)) (T' : Top qv (looseW qv loose0) mean mg mb h₀) (hh : A.handled = none)
    (h0 : 0 < p.length) (hp : p.length ≤ 1000) (hI : IntsAre vs (natsI (List.replicate p.length 0))) (hD : ∀ q ∈ news, q.1 ≠ D)
    (te : Stmt) (hte : (fB (stm 1))[1]? = some te)
    (h1 : ∀ h' tk' u vs', Fr h₀ L h' (kstB u [(Str.ofString "prefix", .str p tp), (Str.ofString "table", .ref D)]) → News h₀ L h' ((D, W.listOf vs'.toArray 0) :: news) → IntsAre vs' (natsI (ovT p.cps.toList p.length)) → Q .next { s with heap := h', toks := tk' }) :
    wpAny (model pg w) (A.deeper (ovEnv L)) (exec te (ovEnv L)) Q No s := by
  cases hte
  refine for_start F' (by rfl) (by rfl) ?_
  refine ov_iter B' F' X' N' T' hp _ rfl fun h' tk' r t u v hr F₁ N₁ => ?_
  refine for_range (n := p.length - 1) (σ := List Value) (fun _ => [(Str.ofString "prefix", .str p tp), (Str.ofString "table", .ref D)]) (fun vs => (D, W.listOf vs.toArray 0) :: news) (fun i vs => IntsAre vs (natsI (tabAt p.cps.toList p.length i))) vs hh hr
    (small_one (by omega) (by omega) (by omega) (by omega)) (by rw [rangeSize_nat]; omega) F₁ N₁ (kstB_atN [Str.ofString "prefix", Str.ofString "table"] rfl (by decide)) (by rw [tabAt_zero h0]; exact hI) (fun _ => rfl) (fun _ => offN [Str.ofString "prefix", Str.ofString "table"] rfl (by decide)) ?_ ?_
  · rintro i k t' vs₁ u₁ h₂ tk₂ own hi rfl hI₁ hoff F₂ N₂
    have hi' : i + 1 < p.length := by omega
    have e : (1 : Int) + (i : Int) = ((i + 1 : Nat) : Int) := by omega
    rw [e] at F₂
    refine wpAny_execs_cons ?_
    have hlen : (natsI (tabAt p.cps.toList p.length i)).length = p.length := by rw [List.length_map, tabAt_length (by omega)]
    have hDo : ∀ q ∈ news ++ own, q.1 ≠ D := by
      intro q hq
      rcases List.mem_append.mp hq with hq | hq
      · exact hD q hq
      · exact hoff q hq D (by simp)
    refine ov_first (news := news ++ own) B' F₂ X' N₂ T' hi' (by omega) hp hI₁ hlen _ rfl fun h₃ tk₃ u₃ t₃ F₃ N₃ => ?_
    show wpAny _ _ _ _ _ _
    refine wpAny_execs_cons ?_
    have hb : ∀ j, j < i + 1 → (tabAt p.cps.toList p.length i).getD j 0 ≤ j := fun j hj => by rw [tabAt_getD hj]; exact ovT_le _ _ _ hj
    refine whl_start (i + 2) ?_
    rw [show i + 1 - 1 = i by omega] at F₃
    refine ov_while (s₀ := { s with heap := h₂, toks := tk₂ }) (news := news ++ own) B' X' T' hi' hp hI₁ hlen hDo hb _ rfl _ rfl _ rfl (i + 2) _ t₃ u₃ h₃ tk₃ (by have := hb i (by omega); omega) (by have := hb i (by omega); omega) F₃ N₃ ?_
    intro v' h₄ tk₄ u₄ vs₄ F₄ N₄ I₄ e₄
    show wpAny _ _ _ _ _ _
    refine wpAny_execs_nil ?_
    refine ⟨vs₄, _, h₄, tk₄, (D, W.listOf vs₄.toArray 0) :: (news ++ own), rfl, ?_, F₄, kstB_atN [Str.ofString "prefix", Str.ofString "table"] rfl (by decide), N₄, fun q hq => ?_, fun q hq => ?_⟩
    · rw [e₄, tabAt_succ hi'] at I₄
      exact I₄
    · rcases List.mem_cons.mp hq with rfl | hq
      · exact .head _
      · exact .tail _ (List.mem_append_left _ hq)
    · exact .tail _ (List.mem_append_right _ hq)
  · intro vs₁ u₁ h₂ tk₂ hI₁ F₂ N₂
    rw [tabAt_end h0] at hI₁
    exact h1 h₂ tk₂ u₁ vs₁ F₂ N₂ hI₁
end
end Mine
end
section
set_option maxRecDepth 100000
set_option linter.unusedVariables false
set_option Elab.async false
set_option pp.maxSteps 3000
namespace Mine
open PySem PySem.W PySem.Calls PyProof.Rows
section
variable {w : World} {A A₀ : Around} {base : Heap} {outer : List Env} {h₀ : Heap} {L : Addr} {mg mb : Str → Option Value} {news : List (Addr × Obj)} {mean : ExcName → Option Value}
set_option maxHeartbeats 4000000 in
theorem ov_s1 {s : Shared} {m : Str → Option Value} {Q : Flow → Shared → Prop} {p : Str} {t : Tok}
    (B' : Below A base outer h₀) (F' : Fr h₀ L s.heap (kstB m [(Str.ofString "prefix", .str p t)])) (X' : (KT w.params).In h₀) (N' : News h₀ L s.heap news) (T' : Top qv (looseW qv loose0) mean mg mb h₀) (hp : p.length ≤ 1000)
    (st : Stmt) (hst : (fB (stm 1))[0]? = some st)
    (h : ∀ D h' tk u vs, Fr h₀ L h' (kstB u [(Str.ofString "prefix", .str p t), (Str.ofString "table", .ref D)]) → News h₀ L h' ((D, W.listOf vs.toArray 0) :: news) → IntsAre vs (natsI (List.replicate p.length 0)) → (∀ q ∈ news, q.1 ≠ D) → Q .next { s with heap := h', toks := tk }) :
    wpAny (model pg w) (A.deeper (ovEnv L)) (exec st (ovEnv L)) Q No s := by
  have hfill : (PySem.Challenge.rw_re0100_01, KT) = (PySem.Challenge.rw_re0100_01, KT) := by k_fill; rfl
  clear hfill
  dsimp only [kstB] at F'
  w_on
  cases hst
  k_steps
  rename News _ _ _ (_ :: _ :: _) => kN
  rename_i l3 _ _
  refine h ?D _ _ _ (List.replicate p.length (Value.int 0 s.toks)) (fr_norm _ (by assumption) ?a) ?b ?c ?d
  case a =>
    intro q hq
    simp only [List.mem_cons, List.not_mem_nil, or_false] at hq
    rcases hq with rfl | rfl <;> rfl
  case b =>
    intro q hq
    have e : (List.replicate ((p.length : Int)).toNat [Value.int 0 s.toks]).flatten = List.replicate p.length (Value.int 0 s.toks) := by
      rw [Int.toNat_natCast]
      induction p.length with
      | zero => rfl
      | succ n ih => rw [List.replicate_succ, List.flatten_cons, ih, List.replicate_succ]; rfl
    rw [e] at kN
    rcases List.mem_cons.mp hq with rfl | hq
    · exact kN _ (.head _)
    · exact kN _ (.tail _ (.tail _ hq))
  case c =>
    induction p.length with
    | zero => exact .nil
    | succ n ih => exact .cons 0 s.toks ih
  case d =>
    intro q hq
    exact Nat.ne_of_lt (kst_ltOf l3.2 q hq)
set_option maxHeartbeats 4000000 in
theorem ov_s3 {s : Shared} {m : Str → Option Value} {Q : Flow → Shared → Prop} {p : Str} {t : Tok} {D : Addr}
    (B' : Below A base outer h₀) (F' : Fr h₀ L s.heap (kstB m [(Str.ofString "prefix", .str p t), (Str.ofString "table", .ref D)])) (X' : (KT w.params).In h₀) (N' : News h₀ L s.heap news) (T' : Top qv (looseW qv loose0) mean mg mb h₀)
    (st : Stmt) (hst : (fB (stm 1))[2]? = some st)
    (h : Q (.ret (.ref D)) s) :
    wpAny (model pg w) (A.deeper (ovEnv L)) (exec st (ovEnv L)) Q No s := by
  have hfill : (PySem.Challenge.rw_re0100_01, KT) = (PySem.Challenge.rw_re0100_01, KT) := by k_fill; rfl
  clear hfill
  dsimp only [kstB] at F'
  w_on
  cases hst
  k_steps
  exact h
set_option maxHeartbeats 4000000 in
theorem ov_call {s : Shared} {m : Str → Option Value} {env : Env} {Q : Value → Shared → Prop} {p : Str} {t : Tok}
    (B : Below A₀ base outer h₀) (F : Fr h₀ L s.heap m) (X₀ : (KT w.params).In h₀) (N : News h₀ L s.heap news) (T : Top qv (looseW qv loose0) mean mg mb h₀) (hA : A.frames = some (env :: outer)) (hf : env.frame = some L) (hke : env.scope.kind = .function) (hh : A.handled = none) (hroom : A.depth < recursionLimit)
    (h0 : 0 < p.length) (hp : p.length ≤ 1000)
    (h : ∀ D h' tk vs, Fr h₀ L h' m → News h₀ L h' ((D, W.listOf vs.toArray 0) :: news) → (∀ q ∈ news, q.1 ≠ D) → IntsAre vs (natsI (ovT p.cps.toList p.length)) → Q (.ref D) { s with heap := h', toks := tk }) : wpAny (model pg w) A (PySem.call (.ref 21) [.str p t]) Q No s := by
  w_on
  have hfill : (PySem.Challenge.rw_re0100_01, KT) = (PySem.Challenge.rw_re0100_01, KT) := by k_fill; rfl
  clear hfill
  refine wpAny_call ?_
  refine' code_def (binds := [(Str.ofString "prefix", .str p t)]) B F X₀ N T hA hf hke ?k6 ?k7 hroom ?k9 ?kB ?_ ?c2 ?c3 ?c4 ?c5
  case k6 => k_is
  case k7 => k_is
  case k9 => exact BindsTo.of_eq rfl
  case c5 => decide
  case kB => exact locs rfl
  case c2 => exact rfl
  case c3 => exact rfl
  case c4 => exact rfl
  intro g' L' h' FG' F' N' B' X' T'
  refine wpAny_mono (E := No) ?_ (fun _ _ x => x) fun _ _ x => x.elim
  have F₁ := fr_norm [(Str.ofString "prefix", .str p t)] F' (fun q hq => by obtain rfl := List.mem_singleton.mp hq; rfl)
  refine wpAny_execs_cons (ov_s1 B' F₁ X' N' T' hp _ rfl fun D h₂ tk₂ u₂ vs₂ F₂ N₂ I₂ hD => ?_)
  show wpAny _ _ _ _ _ _
  refine wpAny_execs_cons (ov_for B' F₂ X' N₂ T' hh h0 hp I₂ hD _ rfl fun h₃ tk₃ u₃ vs₃ F₃ N₃ I₃ => ?_)
  show wpAny _ _ _ _ _ _
  refine wpAny_execs_cons (ov_s3 B' F₃ X' N₃ T' _ rfl ?_)
  show LeaveK _ _ _ _ _ _ _
  exact leaveK_ F₃ N₃ fun F₄ N₄ => h D h₃ tk₃ vs₃ F₄ N₄ hD I₃
end
end Mine
end
section
set_option maxRecDepth 100000
set_option linter.unusedVariables false
set_option Elab.async false
set_option pp.maxSteps 3000
namespace Mine
open PySem PySem.W PySem.Calls PyProof.Rows PyProof.V PySem.Spec
section
variable {w : World}
def kvL : Nat → List (Int × Str) → List (Int × Value)
  | _, [] => []
  | T, kv :: r => (kv.1, .str kv.2 (T + 1)) :: kvL (T + 3) r
def kvS : Nat → List (Int × Str) → List (Int × Value)
  | _, [] => []
  | T, kv :: r => (kv.1, .str kv.2 (T + 1)) :: kvS (T + 2) r
def dOf (l : List (Int × Str)) : List (PyData × PyData) := l.map fun kv => (.int kv.1, .str kv.2)
theorem entL_pairs : ∀ (T : Nat) (l : List (Int × Str)), Pairs (intKind pg w) (entL T l) (kvL T l)
  | _, [] => .nil
  | T, kv :: r => .cons (intKind_is pg w kv.1 T) rfl (entL_pairs (T + 3) r)
theorem entS_pairs : ∀ (T : Nat) (l : List (Int × Str)), Pairs (intKind pg w) (entS T l) (kvS T l)
  | _, [] => .nil
  | T, kv :: r => .cons (intKind_is pg w kv.1 T) rfl (entS_pairs (T + 2) r)
theorem pairs_append {knd : KeyKind pg w Int} : ∀ {es es' : List DictEntry} {kvs kvs' : List (Int × Value)}, Pairs knd es kvs → Pairs knd es' kvs' → Pairs knd (es ++ es') (kvs ++ kvs')
  | _, _, _, _, .nil, h => h
  | _, _, _, _, .cons a b c, h => .cons a b (pairs_append c h)
theorem entL_keys : ∀ (T : Nat) (l : List (Int × Str)), ∀ e ∈ entL T l, ∃ k, (intKind pg w).is k e.key = true ∧ e.hash = (intKind pg w).hash k
  | _, [], _, h => nomatch h
  | T, kv :: r, e, h => by
    rcases List.mem_cons.mp h with rfl | h
    · exact ⟨kv.1, intKind_is pg w kv.1 T, rfl⟩
    · exact entL_keys (T + 3) r e h
theorem entS_keys : ∀ (T : Nat) (l : List (Int × Str)), ∀ e ∈ entS T l, ∃ k, (intKind pg w).is k e.key = true ∧ e.hash = (intKind pg w).hash k
  | _, [], _, h => nomatch h
  | T, kv :: r, e, h => by
    rcases List.mem_cons.mp h with rfl | h
    · exact ⟨kv.1, intKind_is pg w kv.1 T, rfl⟩
    · exact entS_keys (T + 2) r e h
theorem kvL_fst : ∀ (T : Nat) (l : List (Int × Str)), (kvL T l).map (·.1) = l.map (·.1)
  | _, [] => rfl
  | T, kv :: r => by rw [kvL, List.map_cons, List.map_cons, kvL_fst (T + 3) r]
theorem kvS_fst : ∀ (T : Nat) (l : List (Int × Str)), (kvS T l).map (·.1) = l.map (·.1)
  | _, [] => rfl
  | T, kv :: r => by rw [kvS, List.map_cons, List.map_cons, kvS_fst (T + 2) r]
theorem kvL_flat : ∀ (T : Nat) (l : List (Int × Str)), FlatPairs PyData.int (kvL T l) (dOf l)
  | _, [] => .nil
  | T, kv :: r => .cons (.str _ _) (kvL_flat (T + 3) r)
theorem kvS_flat : ∀ (T : Nat) (l : List (Int × Str)), FlatPairs PyData.int (kvS T l) (dOf l)
  | _, [] => .nil
  | T, kv :: r => .cons (.str _ _) (kvS_flat (T + 2) r)
theorem flat_append : ∀ {kvs kvs' : List (Int × Value)} {D D' : List (PyData × PyData)}, FlatPairs PyData.int kvs D → FlatPairs PyData.int kvs' D' → FlatPairs PyData.int (kvs ++ kvs') (D ++ D')
  | _, _, _, _, .nil, h => h
  | _, _, _, _, .cons a b, h => .cons a (flat_append b h)
theorem rise_le : ∀ {l : List (Int × Str)} {b : Int}, Rise b l → ∀ kv ∈ l, b ≤ hashInt kv.1
  | _ :: _, _, h, kv, hm => by
    rcases List.mem_cons.mp hm with rfl | hm
    · exact h.1
    · have := rise_le h.2 kv hm; have := h.1; omega
theorem rise_nodup : ∀ {l : List (Int × Str)} {b : Int}, Rise b l → (l.map (·.1)).Nodup
  | [], _, _ => List.nodup_nil
  | kv :: r, _, h => by
    rw [List.map_cons, List.nodup_cons]
    refine ⟨fun hm => ?_, rise_nodup h.2⟩
    obtain ⟨q, hq, e⟩ := List.mem_map.mp hm
    have := rise_le h.2 q hq
    rw [e] at this
    omega
theorem tbl_split : (tbl.take 17 ++ (chunks 37 (tbl.drop 17)).flatten) ++ tbl.drop (17 * 38) = tbl := by
  have e := chunks_flat 37 (tbl.drop 17)
  rw [List.drop_drop] at e
  rw [List.append_assoc, show 17 * 38 = 17 + 17 * 37 by rfl, e, List.take_append_drop]
theorem dOf_append (a b : List (Int × Str)) : dOf (a ++ b) = dOf a ++ dOf b := List.map_append
theorem dObj_tab {T T' n : Nat} {a b l : List (Int × Str)} (hl : a ++ b = l) (hr : Rise 0 l) {h : Heap} {d : Addr} (hd : (d == sysModules) = false) (ho : h.get? d = some (dObj (entL T a ++ entS T' b) n)) : TabAt (intKind pg w) PyData.int h d (dOf l) := by
  subst hl
  refine TabAt.ofObj (kvs := kvL T a ++ kvS T' b) hd ho ⟨_, _, ⟨rfl, rfl, rfl⟩, rfl, ?_, ?_, ?_⟩ ?_
  · intro e he
    rw [List.mem_toArray] at he
    rcases List.mem_append.mp he with he | he
    · exact entL_keys _ _ e he
    · exact entS_keys _ _ e he
  · exact pairs_append (entL_pairs _ _) (entS_pairs _ _)
  · rw [List.map_append, kvL_fst, kvS_fst, ← List.map_append]
    exact rise_nodup hr
  · rw [dOf_append]
    exact flat_append (kvL_flat _ _) (kvS_flat _ _)
theorem dMain_tab {h : Heap} (X : (KT w.params).In h) : TabAt (intKind pg w) PyData.int h 40 (dOf tbl) := by
  have ho : h.get? 40 = some dMain := X 40 dMain (by kernel_rfl)
  exact dObj_tab tbl_split (rise_of tbl_rise) (by decide) ho
theorem lookup_dOf (c : Int) : ∀ (l : List (Int × Str)), Spec.lookup (.int c) (dOf l) = (l.lookup c).map .str
  | [] => rfl
  | kv :: r => by
    have ih := lookup_dOf c r
    rw [dOf, List.map_cons, List.lookup_cons]
    unfold Spec.lookup
    by_cases h : c = kv.1
    · subst h; rw [same_int]; simp
    · rw [show (c == kv.1) = false by simpa using h]
      rw [same_int, show decide (kv.1 = c) = false from decide_eq_false fun e => h e.symm]
      exact ih
/-- what the law's signs are in table B.3 -/
def b3s : List (Nat × List Nat) := [(102, [102]), (70, [102]), (8497, [102]), (119813, [102]), (120437, [102]), (105, [105]), (73, [105]), (8464, [105]), (8465, [105]), (119816, [105]), (64257, [102, 105]), (64256, [102, 102]), (64259, [102, 102, 105])]
def b1s : List Nat := [173, 847, 6150, 6155, 6156, 6157, 8203, 8204, 8205, 8288, 65024, 65025, 65026, 65027, 65028, 65029, 65030, 65031, 65032, 65033, 65034, 65035, 65036, 65037, 65038, 65039, 65279]
theorem b3_look : b3s.all (fun p => decide (tbl.lookup (p.1 : Int) = if p.1 < 128 then none else some ⟨p.2.toArray⟩)) = true := by decide +kernel
/-- the set's elements in its own order, with their tokens -/
def setL : Obj → List (Int × Value) | ⟨_, _, .set es _ _, _⟩ => es.toList | _ => []
def b1o (P : Params) : List (Int × Nat) := (setL (ob25 P)).map fun e => match e.2 with | .int k t => (k, t) | _ => (0, 0)
def inB1 (k : Int) : Bool := b1s.any fun n => ((n : Nat) : Int) == k
theorem b1o_eq (P : Params) : setL (ob25 P) = (b1o P).map fun p => (hashInt p.1, Value.int p.1 p.2) := by kernel_rfl
theorem b1o_in (P : Params) : (b1o P).all (fun p => inB1 p.1) = true := by kernel_rfl
theorem b1o_all (P : Params) : b1s.all (fun n => (b1o P).any fun p => p.1 == ((n : Nat) : Int)) = true := by kernel_rfl
theorem set_of {h : Heap} (X : (KT w.params).In h) : h.SetOf (intKind pg w) 29 inB1 27 := by
  have ho : h.get? 29 = some (ob25 w.params) := X 29 _ (by kernel_rfl)
  refine ⟨_, _, _, _, ho, ⟨rfl, rfl, rfl⟩, rfl, ?_, ?_, by decide, by rfl, by rfl⟩
  · show ElemsOf _ (setL (ob25 w.params))
    rw [b1o_eq]
    intro e he
    obtain ⟨p, hp, rfl⟩ := List.mem_map.mp he
    exact ⟨⟨_, intKind_is pg w _ _, rfl⟩, rfl⟩
  · show ∀ k, _ ↔ ∃ e ∈ setL (ob25 w.params), _
    rw [b1o_eq]
    intro k
    constructor
    · intro hk
      obtain ⟨n, hn, e⟩ := List.any_eq_true.mp hk
      have h1 := List.all_eq_true.mp (b1o_all w.params) n hn
      obtain ⟨p, hp, e2⟩ := List.any_eq_true.mp h1
      refine ⟨_, List.mem_map.mpr ⟨p, hp, rfl⟩, ?_⟩
      have e3 : p.1 = k := by rw [beq_iff_eq.mp e2]; exact beq_iff_eq.mp e
      subst e3
      exact intKind_is pg w _ _
    · rintro ⟨e, he, hk⟩
      obtain ⟨p, hp, rfl⟩ := List.mem_map.mp he
      have h1 := List.all_eq_true.mp (b1o_in w.params) p hp
      have e3 : k = p.1 := (intKind pg w).inj _ _ _ hk (intKind_is pg w p.1 p.2)
      rw [e3]; exact h1
end
end Mine
end
section
set_option maxRecDepth 100000
set_option linter.unusedVariables false
set_option Elab.async false
set_option pp.maxSteps 3000
namespace Mine
open PySem PySem.W PySem.Calls PyProof.Rows
abbrev b1Env (L : Addr) : Env := envOf (Str.ofString "in_table_b1") (fS (stm 4)) L 39 (Value.ref 38)
abbrev b3Env (L : Addr) : Env := envOf (Str.ofString "map_table_b3") (fS (stm 6)) L 85 (Value.ref 84)
section
variable {w : World} {A A₀ : Around} {base : Heap} {outer : List Env} {h₀ : Heap} {L : Addr} {mg mb : Str → Option Value} {news : List (Addr × Obj)} {mean : ExcName → Option Value}
set_option maxHeartbeats 4000000 in
theorem b1_s0 {s : Shared} {m : Str → Option Value} {Q : Flow → Shared → Prop} {c : Nat} {t : Tok}
    (B' : Below A base outer h₀) (F' : Fr h₀ L s.heap (kstB m [(Str.ofString "code", .str ⟨#[c]⟩ t)])) (X' : (KT w.params).In h₀) (N' : News h₀ L s.heap news) (T' : Top qv (looseW qv loose0) mean mg mb h₀) 
    (st : Stmt) (hst : (fB (stm 4))[0]? = some st)
    (h : ∀ tk, Q (.ret (.bool (inB1 (c : Int)))) { s with toks := tk }) :
    wpAny (model pg w) (A.deeper (b1Env L)) (exec st (b1Env L)) Q No s := by
  have hfill : (PySem.Challenge.rw_re0100_01, KT) = (PySem.Challenge.rw_re0100_01, KT) := by k_fill; rfl
  clear hfill
  have S' := set_of X'
  dsimp only [kstB] at F'
  w_on
  cases hst
  k_steps
  refine wpAny_inSet_of (knd := intKind pg w) (intKind_is pg w _ _) rfl (S := inB1) (n := 27) ?_ (h _)
  obtain ⟨o, es, ep, t', ho, r⟩ := S'
  exact ⟨o, es, ep, t', F'.keep _ _ ho, r⟩
set_option maxHeartbeats 4000000 in
theorem b1_call {s : Shared} {m : Str → Option Value} {env : Env} {Q : Value → Shared → Prop} {c : Nat} {t : Tok}
    (B : Below A₀ base outer h₀) (F : Fr h₀ L s.heap m) (X₀ : (KT w.params).In h₀) (N : News h₀ L s.heap news) (T : Top qv (looseW qv loose0) mean mg mb h₀) (hA : A.frames = some (env :: outer)) (hf : env.frame = some L) (hke : env.scope.kind = .function) (hh : A.handled = none) (hroom : A.depth < recursionLimit)
    (h : ∀ h' tk, Fr h₀ L h' m → News h₀ L h' news → Q (.bool (inB1 (c : Int))) { s with heap := h', toks := tk }) : wpAny (model pg w) A (PySem.call (.ref 39) [.str ⟨#[c]⟩ t]) Q No s := by
  w_on
  have hfill : (PySem.Challenge.rw_re0100_01, KT) = (PySem.Challenge.rw_re0100_01, KT) := by k_fill; rfl
  clear hfill
  refine wpAny_call ?_
  refine' code_def (binds := [(Str.ofString "code", .str ⟨#[c]⟩ t)]) B F X₀ N T hA hf hke ?k6 ?k7 hroom ?k9 ?kB ?_ ?c2 ?c3 ?c4 ?c5
  case k6 => k_is
  case k7 => k_is
  case k9 => exact BindsTo.of_eq rfl
  case c5 => decide
  case kB => exact locs rfl
  case c2 => exact rfl
  case c3 => exact rfl
  case c4 => exact rfl
  intro g' L' h' FG' F' N' B' X' T'
  refine wpAny_mono (E := No) ?_ (fun _ _ x => x) fun _ _ x => x.elim
  have F₁ := fr_norm [(Str.ofString "code", .str ⟨#[c]⟩ t)] F' (fun q hq => by obtain rfl := List.mem_singleton.mp hq; rfl)
  refine wpAny_execs_cons (b1_s0 B' F₁ X' N' T' _ rfl fun tk => ?_)
  show LeaveK _ _ _ _ _ _ _
  exact leaveK_ F₁ N' fun F₄ N₄ => h h' tk F₄ N₄

set_option maxHeartbeats 4000000 in
theorem b3_s0 {s : Shared} {m : Str → Option Value} {Q : Flow → Shared → Prop} {c : Nat} {t : Tok}
    (B' : Below A base outer h₀) (F' : Fr h₀ L s.heap (kstB m [(Str.ofString "code", .str ⟨#[c]⟩ t)])) (X' : (KT w.params).In h₀) (N' : News h₀ L s.heap news) (T' : Top qv (looseW qv loose0) mean mg mb h₀) 
    (st : Stmt) (hst : (fB (stm 6))[0]? = some st)
    (h : ∀ h' tk u v, Fr h₀ L h' (kstB u [(Str.ofString "code", .str ⟨#[c]⟩ t), (Str.ofString "r", v)]) → News h₀ L h' news → PyProof.V.Flat v (((tbl.lookup (c : Int)).map PyData.str).getD .none) → Q .next { s with heap := h', toks := tk }) :
    wpAny (model pg w) (A.deeper (b3Env L)) (exec st (b3Env L)) Q No s := by
  have hfill : (PySem.Challenge.rw_re0100_01, KT) = (PySem.Challenge.rw_re0100_01, KT) := by k_fill; rfl
  clear hfill
  have T40 := dMain_tab X'
  have hl := lookup_dOf (c : Int) tbl
  revert T40 hl
  generalize dOf tbl = D
  intro T40 hl
  dsimp only [kstB] at F'
  w_on
  cases hst
  k_steps
  refine h _ _ _ ?v (fr_norm _ (by assumption) ?a) (by assumption) ?b
  case a =>
    intro q hq
    simp only [List.mem_cons, List.not_mem_nil, or_false] at hq
    rcases hq with rfl | rfl <;> rfl
  case b => rw [← hl]; assumption
set_option maxHeartbeats 4000000 in
theorem b3_tail1 {s : Shared} {m : Str → Option Value} {Q : Flow → Shared → Prop} {c : Nat} {t : Tok} {v : Str} {tv : Tok}
    (B' : Below A base outer h₀) (F' : Fr h₀ L s.heap (kstB m [(Str.ofString "code", .str ⟨#[c]⟩ t), (Str.ofString "r", .str v tv)])) (X' : (KT w.params).In h₀) (N' : News h₀ L s.heap news) (T' : Top qv (looseW qv loose0) mean mg mb h₀) 
    (st : List Stmt) (hst : (match fB (stm 6) with | _ :: r => some r | _ => none) = some st)
    (h : Q (.ret (.str v tv)) s) :
    wpAny (model pg w) (A.deeper (b3Env L)) (execs st (b3Env L)) Q No s := by
  have hfill : (PySem.Challenge.rw_re0100_01, KT) = (PySem.Challenge.rw_re0100_01, KT) := by k_fill; rfl
  clear hfill
  dsimp only [kstB] at F'
  w_on
  cases hst
  k_steps
  exact h
set_option maxHeartbeats 4000000 in
theorem b3_tail2 {s : Shared} {m : Str → Option Value} {Q : Flow → Shared → Prop} {c : Nat} {t : Tok} 
    (B' : Below A base outer h₀) (F' : Fr h₀ L s.heap (kstB m [(Str.ofString "code", .str ⟨#[c]⟩ t), (Str.ofString "r", .none)])) (X' : (KT w.params).In h₀) (N' : News h₀ L s.heap news) (T' : Top qv (looseW qv loose0) mean mg mb h₀) 
    (st : List Stmt) (hst : (match fB (stm 6) with | _ :: r => some r | _ => none) = some st) 
    (h : ∀ tk tv, Q (.ret (.str (Txt.lower ⟨#[c]⟩) tv)) { s with toks := tk }) :
    wpAny (model pg w) (A.deeper (b3Env L)) (execs st (b3Env L)) Q No s := by
  have hfill : (PySem.Challenge.rw_re0100_01, KT) = (PySem.Challenge.rw_re0100_01, KT) := by k_fill; rfl
  clear hfill
  dsimp only [kstB] at F'
  w_on
  cases hst
  k_steps
  refine SCL.lower (by show (1 : Nat) ≤ _; decide) fun _ => ?_
  exact h _ _
theorem lower_low : b3s.all (fun p => p.1 < 128 → decide (Txt.lower ⟨#[p.1]⟩ = ⟨p.2.toArray⟩)) = true := by decide +kernel
set_option maxHeartbeats 4000000 in
theorem b3_call {s : Shared} {m : Str → Option Value} {env : Env} {Q : Value → Shared → Prop} {c : Nat} {v : List Nat} {t : Tok} (hc : (c, v) ∈ b3s)
    (B : Below A₀ base outer h₀) (F : Fr h₀ L s.heap m) (X₀ : (KT w.params).In h₀) (N : News h₀ L s.heap news) (T : Top qv (looseW qv loose0) mean mg mb h₀) (hA : A.frames = some (env :: outer)) (hf : env.frame = some L) (hke : env.scope.kind = .function) (hh : A.handled = none) (hroom : A.depth < recursionLimit)
    (h : ∀ h' tk tv, Fr h₀ L h' m → News h₀ L h' news → Q (.str ⟨v.toArray⟩ tv) { s with heap := h', toks := tk }) : wpAny (model pg w) A (PySem.call (.ref 85) [.str ⟨#[c]⟩ t]) Q No s := by
  w_on
  have hfill : (PySem.Challenge.rw_re0100_01, KT) = (PySem.Challenge.rw_re0100_01, KT) := by k_fill; rfl
  clear hfill
  refine wpAny_call ?_
  refine' code_def (binds := [(Str.ofString "code", .str ⟨#[c]⟩ t)]) B F X₀ N T hA hf hke ?k6 ?k7 hroom ?k9 ?kB ?_ ?c2 ?c3 ?c4 ?c5
  case k6 => k_is
  case k7 => k_is
  case k9 => exact BindsTo.of_eq rfl
  case c5 => decide
  case kB => exact locs rfl
  case c2 => exact rfl
  case c3 => exact rfl
  case c4 => exact rfl
  intro g' L' h' FG' F' N' B' X' T'
  refine wpAny_mono (E := No) ?_ (fun _ _ x => x) fun _ _ x => x.elim
  have F₁ := fr_norm [(Str.ofString "code", .str ⟨#[c]⟩ t)] F' (fun q hq => by obtain rfl := List.mem_singleton.mp hq; rfl)
  have hl : List.lookup (c : Int) tbl = if c < 128 then none else some ⟨v.toArray⟩ := of_decide_eq_true (List.all_eq_true.mp b3_look (c, v) hc)
  refine wpAny_execs_cons (b3_s0 B' F₁ X' N' T' _ rfl fun h₂ tk₂ u₂ r F₂ N₂ hr => ?_)
  show wpAny _ _ _ _ _ _
  rw [hl] at hr
  by_cases h128 : c < 128
  · rw [if_pos h128] at hr
    obtain rfl : r = .none := by cases hr h₂; rfl
    refine b3_tail2 B' F₂ X' N₂ T' _ rfl fun tk tv => ?_
    show LeaveK _ _ _ _ _ _ _
    have e : Txt.lower ⟨#[c]⟩ = ⟨v.toArray⟩ := of_decide_eq_true (of_decide_eq_true (List.all_eq_true.mp lower_low (c, v) hc) h128)
    rw [e]
    exact leaveK_ F₂ N₂ fun F₄ N₄ => h h₂ tk tv F₄ N₄
  · rw [if_neg h128] at hr
    obtain ⟨tv, rfl⟩ := PyProof.V.Flat.str_inv hr
    refine b3_tail1 B' F₂ X' N₂ T' _ rfl ?_
    show LeaveK _ _ _ _ _ _ _
    exact leaveK_ F₂ N₂ fun F₄ N₄ => h h₂ tk₂ tv F₄ N₄
end
end Mine
end
section
set_option maxRecDepth 100000
set_option linter.unusedVariables false
set_option Elab.async false
set_option pp.maxSteps 3000
namespace Mine
open PySem PySem.W PySem.Calls PyProof.Rows
abbrev lnEnv (L : Addr) : Env := envOfC (Str.ofString "_law_line") (fS (stm 9)) L 95 (Value.ref 94)
def lnE : Option PySem.Expr := match (fB (stm 9))[0]? with | some s => retE s | none => none
def lnC : Option PySem.Expr := match lnE with | some e => argE e | none => none
section
variable {w : World} {A A₀ : Around} {base : Heap} {outer : List Env} {h₀ : Heap} {L : Addr} {mg mb : Str → Option Value} {news : List (Addr × Obj)} {mean : ExcName → Option Value}
set_option maxHeartbeats 4000000 in
theorem ln_elt {s : Shared} {m : Str → Option Value} {Q : Value → Shared → Prop} {size few k : Nat} {tz tf tk : Tok} {cs cf : Addr} {os of : Obj} {I C D : Addr} {oI oC : Obj} {ys : List Value} {m₂ : Str → Option Value}
    (B' : Below A base outer h₀) (F' : Fr h₀ L s.heap m) (X' : (KT w.params).In h₀) (N' : News h₀ L s.heap ((I, oI) :: (C, oC) :: (D, LCg.lst ys) :: (cf, of) :: (cs, os) :: news)) (T' : Top qv (looseW qv loose0) mean mg mb h₀)
    (hs : os.data = .cell (some (.int (size : Int) tz))) (hf : of.data = .cell (some (.int (few : Int) tf)))
    (hC : LCg.NsObj oC m₂) (hk : m₂ (Str.ofString "k") = some (.int (k : Int) tk)) (h1 : few < size) (h2 : size ≤ 300) (h3 : k < size)
    (e sc : _) (he : (match lnC with | some c => eltE c | none => none) = some e) (hsc : (match lnC with | some c => scE c | none => none) = some sc)
    (hq : ∀ tk' t, Q (.str ⟨#[if k * few / size < (k + 1) * few / size then 105 else 102]⟩ t) { s with toks := tk' }) :
    wpAny (model pg w) (A.deeper (lnEnv L)) (eval e (compEnvC sc [(Str.ofString "size", cs), (Str.ofString "few", cf)] C (lnEnv L))) Q No s := by
  have hfill : (PySem.Challenge.rw_re0100_01, KT) = (PySem.Challenge.rw_re0100_01, KT) := by k_fill; rfl
  clear hfill
  w_on
  cases he
  cases hsc
  k_steps
  · rename_i hlt
    have e1 : (k * few / size < (k + 1) * few / size) := by
      rw [Int.fdiv_eq_ediv_of_nonneg _ (by omega), Int.fdiv_eq_ediv_of_nonneg _ (by omega)] at hlt
      exact_mod_cast hlt
    rw [if_pos e1] at hq
    exact hq _ _
  · rename_i hlt
    have e1 : ¬ (k * few / size < (k + 1) * few / size) := by
      rw [Int.fdiv_eq_ediv_of_nonneg _ (by omega), Int.fdiv_eq_ediv_of_nonneg _ (by omega)] at hlt
      exact_mod_cast hlt
    rw [if_neg e1] at hq
    exact hq _ _

def lineL (size few : Nat) : List Nat := (List.range size).map fun k => if k * few / size < (k + 1) * few / size then 105 else 102
theorem strs_of {f : Nat → Nat} : ∀ (ys : List Value) (i0 : Nat), (∀ (i : Nat) y, ys[i]? = some y → ∃ t, y = .str ⟨#[f (i0 + i)]⟩ t) → StrsAre ys ((List.range' i0 ys.length).map fun k => ⟨#[f k]⟩)
  | [], _, _ => .nil
  | y :: r, i0, h => by
    obtain ⟨t, rfl⟩ := h 0 y rfl
    rw [List.length_cons, List.range'_succ, List.map_cons]
    refine .cons _ _ (strs_of r (i0 + 1) fun i z hz => ?_)
    obtain ⟨t', e⟩ := h (i + 1) z (by simpa using hz)
    exact ⟨t', by rw [e, show i0 + 1 + i = i0 + (i + 1) by omega]⟩
theorem join_ones (f : Nat → Nat) : ∀ (l : List Nat), Str.join ⟨#[]⟩ (l.map fun k => ⟨#[f k]⟩) = ⟨(l.map f).toArray⟩
  | [] => rfl
  | [k] => rfl
  | k :: k' :: r => by
    have ih := join_ones f (k' :: r)
    show Str.append (Str.append _ _) (Str.join ⟨#[]⟩ ((k' :: r).map fun k => ⟨#[f k]⟩)) = _
    rw [ih]
    simp [Str.append]
set_option maxHeartbeats 4000000 in
theorem ln_src {s : Shared} {m : Str → Option Value} {Q : Value → Shared → Prop} {size : Nat} {tz : Tok} {os : Obj} 
    (B' : Below A base outer h₀) (F' : Fr h₀ L s.heap m) (X' : (KT w.params).In h₀) (N' : News h₀ L s.heap news) (T' : Top qv (looseW qv loose0) mean mg mb h₀)
    (hm : (L + 1, os) ∈ news) (hs : os.data = .cell (some (.int (size : Int) tz))) (h2 : size ≤ 300)
    (e : _) (he : (match lnC with | some c => itE c | none => none) = some e)
    (hq : ∀ h' tk' r t u v, IsRange h' r 0 size 1 t u v → Fr h₀ L h' m → News h₀ L h' news → Q (.ref r) { s with heap := h', toks := tk' }) :
    wpAny (model pg w) (A.deeper (lnEnv L)) (eval e (lnEnv L)) Q No s := by
  have hfill : (PySem.Challenge.rw_re0100_01, KT) = (PySem.Challenge.rw_re0100_01, KT) := by k_fill; rfl
  clear hfill
  w_on
  cases he
  k_steps
  exact hq _ _ _ _ _ _ (by assumption) (by assumption) (by assumption)
set_option maxHeartbeats 4000000 in
theorem ln_body {s : Shared} {m : Str → Option Value} {Q : Flow → Shared → Prop} {size few : Nat} {tz tf : Tok} {os of : Obj} (hh : A.handled = none)
    (B' : Below A base outer h₀) (F' : Fr h₀ L s.heap m) (X' : (KT w.params).In h₀) (N' : News h₀ L s.heap ((L + 2, of) :: (L + 1, os) :: news)) (T' : Top qv (looseW qv loose0) mean mg mb h₀)
    (hs : os.data = .cell (some (.int (size : Int) tz))) (hf : of.data = .cell (some (.int (few : Int) tf))) (h1 : few < size) (h2 : size ≤ 300)
    (st : _) (hst : (fB (stm 9))[0]? = some st)
    (hq : ∀ h' tk t, Fr h₀ L h' m → News h₀ L h' ((L + 2, of) :: (L + 1, os) :: news) → Q (.ret (.str ⟨(lineL size few).toArray⟩ t)) { s with heap := h', toks := tk }) :
    wpAny (model pg w) (A.deeper (lnEnv L)) (exec st (lnEnv L)) Q No s := by
  cases hst
  refine wpAny_Return_some ?_
  refine eval_join (pl := pure true) rfl (by decide) (by with_unfolding_all rfl) (by rfl) ?_
  refine LCg.ListComp_U (F₀ := F') (cl := [(Str.ofString "size", L + 1), (Str.ofString "few", L + 2)]) (by with_unfolding_all rfl) (by decide) (by rfl) (by decide) (by rfl) ?_
  refine ln_src (s := { s with toks := s.toks + 1 }) B' F' X' N' T' (.tail _ (.head _)) hs h2 _ rfl fun h₁ tk₁ r t u v hr F₁ N₁ => ?_
  refine LCg.CompSrc.range hh F₁ N₁ hr (small_one (by omega) (by omega) (by omega) (by omega)) (n := size) (by rw [rangeSize_nat]; omega) (by show size ≤ 16777216; omega) fun g => ?_
  refine comp_rest (fun i y => ∃ t, y = .str ⟨#[if i * few / size < (i + 1) * few / size then 105 else 102]⟩ t) trivial ?_ ?_
  · rintro i v I oI oC C D ys m₂ h tk hi ⟨tv, rfl⟩ hC hx F N off ne
    have e : (0 : Int) + (i : Int) = (i : Int) := by omega
    rw [e] at hx
    refine ln_elt B' F X' N T' hs hf hC hx h1 h2 hi _ _ rfl rfl fun tk' t => ?_
    exact ⟨h, tk', rfl, F, N, t, rfl⟩
  · intro ys hl hy D h tk F N o1
    have hy' := strs_of (f := fun i => if i * few / size < (i + 1) * few / size then 105 else 102) ys 0 (fun i y h => by rw [Nat.zero_add]; exact hy i y h)
    refine ⟨D, ys.toArray, _, rfl, N.isList (.head _), hy', ?_, fun tk t => ?_⟩
    · have : ∀ l : List Nat, ((l.map fun k => (⟨#[if k * few / size < (k + 1) * few / size then 105 else 102]⟩ : Str)).map (·.length)).sum = l.length := by
        intro l
        induction l with
        | nil => rfl
        | cons a r ih => simp only [List.map_cons, List.sum_cons, List.length_cons]; rw [ih]; show 1 + _ = _; omega
      rw [this]
      simp only [List.length_map, List.length_range']
      omega
    · have e : Txt.join ⟨#[]⟩ ((List.range' 0 ys.length).map fun k => (⟨#[if k * few / size < (k + 1) * few / size then 105 else 102]⟩ : Str)) = ⟨(lineL size few).toArray⟩ := by
        rw [hl, ← List.range_eq_range', show Txt.join ⟨#[]⟩ = Str.join ⟨#[]⟩ from funext fun l => beq_iff_eq.mp (join_closes rfl)]
        exact join_ones (fun k => if k * few / size < (k + 1) * few / size then 105 else 102) _
      rw [e]
      exact hq h tk t F (fun p hp => N p (.tail _ hp))

set_option maxHeartbeats 4000000 in
theorem ln_call {s : Shared} {m : Str → Option Value} {env : Env} {Q : Value → Shared → Prop} {size few : Nat} {tz tf : Tok}
    (B : Below A₀ base outer h₀) (F : Fr h₀ L s.heap m) (X₀ : (KT w.params).In h₀) (N : News h₀ L s.heap news) (T : Top qv (looseW qv loose0) mean mg mb h₀) (hA : A.frames = some (env :: outer)) (hf : env.frame = some L) (hke : env.scope.kind = .function) (hh : A.handled = none) (hroom : A.depth < recursionLimit)
    (h1 : few < size) (h2 : size ≤ 300)
    (h : ∀ h' tk t, Fr h₀ L h' m → News h₀ L h' news → Q (.str ⟨(lineL size few).toArray⟩ t) { s with heap := h', toks := tk }) : wpAny (model pg w) A (PySem.call (.ref 95) [.int (size : Int) tz, .int (few : Int) tf]) Q No s := by
  w_on
  have hfill : (PySem.Challenge.rw_re0100_01, KT) = (PySem.Challenge.rw_re0100_01, KT) := by k_fill; rfl
  clear hfill
  refine wpAny_call ?_
  refine' code_defC (binds := [(Str.ofString "size", .int (size : Int) tz), (Str.ofString "few", .int (few : Int) tf)]) B F X₀ N T hA hf hke ?k6 ?k7 hroom ?k9 ?kB ?kD ?_ ?c2 ?c3 ?c4
  case k6 => k_is
  case k7 => k_is
  case k9 => exact BindsTo.of_eq rfl
  case kB => exact rfl
  case kD => decide +kernel
  case c2 => exact rfl
  case c3 => exact rfl
  case c4 => exact rfl
  intro g' L' h' tk' cells' FG' F' N' Y' B' X' T' l1
  refine wpAny_mono (E := No) ?_ (fun _ _ x => x) fun _ _ x => x.elim
  have hY := CellsAre.two Y'
  obtain ⟨o', o2', hE', d1', d2'⟩ := hY
  subst hE'
  refine wpAny_execs_cons (ln_body (size := size) (few := few) hh B' F' X' N' T' d2' d1' h1 h2 _ rfl fun h₂ tk₂ t F₂ N₂ => ?_)
  show LeaveK _ _ _ _ _ _ _
  exact leaveK_ F₂ N₂ fun F₄ N₄ => h h₂ tk₂ t F₄ (fun p hp => N₄ p (.tail _ (.tail _ hp)))
end
end Mine
end
section
set_option maxRecDepth 100000
set_option linter.unusedVariables false
set_option Elab.async false
set_option pp.maxSteps 3000
namespace Mine
open PySem PySem.W PySem.Calls PyProof.Rows
abbrev tyEnv (L : Addr) : Env := envOf (Str.ofString "_law_typed") (fS (stm 8)) L 90 (Value.ref 89)
def tyFor : List Stmt := match (fB (stm 8))[3]? with | some s => forB s | none => []
section
variable {w : World} {A A₀ : Around} {base : Heap} {outer : List Env} {h₀ : Heap} {L : Addr} {mg mb : Str → Option Value} {news : List (Addr × Obj)} {mean : ExcName → Option Value}
abbrev tyPs (k : Nat) (tk : Tok) (word : Str) (tw : Tok) (x : Int) (tx : Tok) (U C FM : Addr) : List (Str × Value) :=
  [(Str.ofString "k", .int (k : Int) tk), (Str.ofString "word", .str word tw), (Str.ofString "x", .int x tx), (Str.ofString "unseen", .ref U), (Str.ofString "codes", .ref C), (Str.ofString "forms", .ref FM)]
set_option maxHeartbeats 1000000 in
theorem ty_if {s : Shared} {m : Str → Option Value} {Q : Flow → Shared → Prop} {word : Str} {x : Int} {tw tx tk : Tok} {k : Nat} {U C FM : Addr} {uvs cvs : List Value} {cns uns : List Int} {nu nc : Nat}
    (B' : Below A base outer h₀) (F' : Fr h₀ L s.heap (kstB m (tyPs k tk word tw x tx U C FM))) (X' : (KT w.params).In h₀) 
    (N' : News h₀ L s.heap ((C, W.listOf cvs.toArray nc) :: (U, W.listOf uvs.toArray nu) :: news)) (T' : Top qv (looseW qv loose0) mean mg mb h₀) (hw : word.length ≤ 300) (hk : k < word.length)
    (hU : IntsAre uvs uns) (hlu : uns.length = 27) (hC : IntsAre cvs cns) (hlc : cns.length ≤ 600) (hap : ∀ p ∈ (U, W.listOf uvs.toArray nu) :: news, p.1 ≠ C)
    (st : Stmt) (hst : tyFor[0]? = some st)
    (h : ∀ h' tk' u cvs' cns' nc', (cns' = cns ∨ ∃ j : Nat, j < 27 ∧ cns' = cns ++ [uns.getD j 0]) → Fr h₀ L h' (kstB u (tyPs k tk word tw x tx U C FM)) → News h₀ L h' ((C, W.listOf cvs'.toArray nc') :: (U, W.listOf uvs.toArray nu) :: news) → IntsAre cvs' cns' → Q .next { s with heap := h', toks := tk' }) :
    wpAny (model pg w) (A.deeper (tyEnv L)) (exec st (tyEnv L)) Q No s := by
  have hfill : (PySem.Challenge.rw_re0100_01, KT) = (PySem.Challenge.rw_re0100_01, KT) := by k_fill; rfl
  clear hfill
  have F0 := F'
  dsimp only [kstB, tyPs] at F'
  w_on
  cases hst
  k_steps
  · refine append_K (its := cvs.toArray) (n := nc) F' N' (.head hap) ?_ (by rw [List.size_toArray, hC.length]; show _ ≤ 16777216; omega)
    intro h' F₁ N₁
    rw [push_snoc] at N₁
    k_steps
    refine h _ _ m _ (cns ++ [_]) (nc + 1) (.inr ⟨_, ?_, rfl⟩) F₁ N₁ (hC.append (.cons _ _ .nil))
    have := Int.fmod_lt_of_pos ((x.fdiv 2 + (k : Int)).fdiv 3) (show (0 : Int) < 27 by decide)
    have := Int.fmod_nonneg_of_pos ((x.fdiv 2 + (k : Int)).fdiv 3) (show (0 : Int) < 27 by decide)
    omega
  · exact h _ _ m cvs cns nc (.inl rfl) F' N' hC
end
end Mine
end
section
set_option maxRecDepth 100000
set_option linter.unusedVariables false
set_option Elab.async false
set_option pp.maxSteps 3000
namespace Mine
open PySem PySem.W PySem.Calls PyProof.Rows
section
variable {w : World} {A A₀ : Around} {base : Heap} {outer : List Env} {h₀ : Heap} {L : Addr} {mg mb : Str → Option Value} {news : List (Addr × Obj)} {mean : ExcName → Option Value}
set_option maxHeartbeats 1000000 in
theorem ty_app {s : Shared} {m : Str → Option Value} {Q : Flow → Shared → Prop} {word : Str} {x : Int} {tw tx tk : Tok} {k : Nat} {U C FM : Addr} {uvs cvs fvs : List Value} {cns fns : List Int} {nu nc nf : Nat}
    (B' : Below A base outer h₀) (F' : Fr h₀ L s.heap (kstB m (tyPs k tk word tw x tx U C FM))) (X' : (KT w.params).In h₀) 
    (N' : News h₀ L s.heap ((C, W.listOf cvs.toArray nc) :: (FM, W.listOf fvs.toArray nf) :: news)) (T' : Top qv (looseW qv loose0) mean mg mb h₀) (hw : word.length ≤ 300) (hk : k < word.length)
    (hU : IntsAre fvs fns) (hlu : fns.length = 5) (hC : IntsAre cvs cns) (hlc : cns.length ≤ 600) (hap : ∀ p ∈ (FM, W.listOf fvs.toArray nf) :: news, p.1 ≠ C)
    (st : Stmt) (hst : tyFor[1]? = some st)
    (h : ∀ h' tk' u cvs' c nc', (if Txt.item word (k : Int) = Txt.item (Str.ofString "fi") (x.fmod 2) then ∃ j : Nat, j < 5 ∧ c = fns.getD j 0 else c = 64257) → Fr h₀ L h' (kstB u (tyPs k tk word tw x tx U C FM)) → News h₀ L h' ((C, W.listOf cvs'.toArray nc') :: (FM, W.listOf fvs.toArray nf) :: news) → IntsAre cvs' (cns ++ [c]) → Q .next { s with heap := h', toks := tk' }) :
    wpAny (model pg w) (A.deeper (tyEnv L)) (exec st (tyEnv L)) Q No s := by
  have hfill : (PySem.Challenge.rw_re0100_01, KT) = (PySem.Challenge.rw_re0100_01, KT) := by k_fill; rfl
  clear hfill
  have F0 := F'
  dsimp only [kstB, tyPs] at F'
  w_on
  cases hst
  k_steps
  · rename_i hc _
    refine append_K (its := cvs.toArray) (n := nc) F' N' (.head hap) ?_ (by rw [List.size_toArray, hC.length]; show _ ≤ 16777216; omega)
    intro h' F₁ N₁
    rw [push_snoc] at N₁
    have := Int.fmod_lt_of_pos (x.fdiv 2 + (k : Int)) (show (0 : Int) < 5 by decide)
    have := Int.fmod_nonneg_of_pos (x.fdiv 2 + (k : Int)) (show (0 : Int) < 5 by decide)
    exact h _ _ m _ _ (nc + 1) (by rw [if_pos (beq_iff_eq.mp hc)]; exact ⟨_, by omega, rfl⟩) F₁ N₁ (hC.append (.cons _ _ .nil))
  · rename_i hc
    refine append_K (its := cvs.toArray) (n := nc) F' N' (.head hap) ?_ (by rw [List.size_toArray, hC.length]; show _ ≤ 16777216; omega)
    intro h' F₁ N₁
    rw [push_snoc] at N₁
    exact h _ _ m _ _ (nc + 1) (by rw [if_neg (fun e => by rw [e] at hc; simp at hc)]) F₁ N₁ (hC.append (.cons _ _ .nil))
set_option maxHeartbeats 1000000 in
theorem ty_iter {s : Shared} {m : Str → Option Value} {Q : Value → Shared → Prop} {word : Str} {x : Int} {tw tx : Tok} {U C FM : Addr} 
    (B' : Below A base outer h₀) (F' : Fr h₀ L s.heap (kstB m [(Str.ofString "word", .str word tw)])) (X' : (KT w.params).In h₀) 
    (N' : News h₀ L s.heap news) (T' : Top qv (looseW qv loose0) mean mg mb h₀) (hw : word.length ≤ 300)
    (te : PySem.Expr) (hte : (match (fB (stm 8))[3]? with | some s => forI s | none => none) = some te)
    (h : ∀ h' tk' r t u v, IsRange h' r 0 word.length 1 t u v → Fr h₀ L h' (kstB m [(Str.ofString "word", .str word tw)]) → News h₀ L h' news → Q (.ref r) { s with heap := h', toks := tk' }) :
    wpAny (model pg w) (A.deeper (tyEnv L)) (eval te (tyEnv L)) Q No s := by
  have hfill : (PySem.Challenge.rw_re0100_01, KT) = (PySem.Challenge.rw_re0100_01, KT) := by k_fill; rfl
  clear hfill
  dsimp only [kstB] at F'
  w_on
  cases hte
  k_steps
  exact h _ _ _ _ _ _ (by assumption) (by assumption) (by assumption)
/-- what a sign folds to -/
def imgS (c : Nat) : List Nat := if inB1 (c : Int) then [] else (b3s.lookup c).getD []
def okS (c : Nat) : Prop := inB1 (c : Int) = true ∨ (inB1 (c : Int) = false ∧ ∃ v, (c, v) ∈ b3s)
/-- a letter typed: l itself, or fi -/
def subL (b : Nat) (l : Nat) : List Nat := if l = (if b = 0 then 102 else 105) then [l] else [102, 105]
def uIs : List Int := b1s.map fun n : Nat => (n : Int)
def fIs (b : Nat) : List Int := if b = 0 then [102, 70, 8497, 119813, 120437] else [105, 73, 8464, 8465, 119816]
theorem uIs_ok : ∀ j, j < 27 → ∃ n : Nat, uIs.getD j 0 = (n : Int) ∧ okS n ∧ imgS n = [] := by
  have h : (List.range 27).all (fun j => inB1 (uIs.getD j 0) && decide (0 ≤ uIs.getD j 0)) = true := by decide +kernel
  intro j hj
  have := List.all_eq_true.mp h j (List.mem_range.mpr hj)
  rw [Bool.and_eq_true, decide_eq_true_eq] at this
  refine ⟨(uIs.getD j 0).toNat, by omega, ?_⟩
  have e : (((uIs.getD j 0).toNat : Nat) : Int) = uIs.getD j 0 := by omega
  have h1 : inB1 (((uIs.getD j 0).toNat : Nat) : Int) = true := by rw [e]; exact this.1
  exact ⟨.inl h1, by unfold imgS; rw [if_pos h1]⟩
theorem fIs_ok : ∀ b, b < 2 → ∀ j, j < 5 → ∃ n : Nat, (fIs b).getD j 0 = (n : Int) ∧ okS n ∧ imgS n = [if b = 0 then 102 else 105] := by
  have h : (List.range 2).all (fun b => (List.range 5).all fun j => !inB1 ((fIs b).getD j 0) && decide (0 ≤ (fIs b).getD j 0) && decide ((((fIs b).getD j 0).toNat, [if b = 0 then 102 else 105]) ∈ b3s) && decide (b3s.lookup ((fIs b).getD j 0).toNat = some [if b = 0 then 102 else 105])) = true := by decide +kernel
  intro b hb j hj
  have := List.all_eq_true.mp (List.all_eq_true.mp h b (List.mem_range.mpr hb)) j (List.mem_range.mpr hj)
  rw [Bool.and_eq_true, Bool.and_eq_true, Bool.and_eq_true, decide_eq_true_eq, decide_eq_true_eq, decide_eq_true_eq, Bool.not_eq_true'] at this
  obtain ⟨⟨⟨h1, h2⟩, h3⟩, h4⟩ := this
  have e : ((((fIs b).getD j 0).toNat : Nat) : Int) = (fIs b).getD j 0 := by omega
  refine ⟨((fIs b).getD j 0).toNat, e.symm, .inr ⟨by rw [e]; exact h1, _, h3⟩, ?_⟩
  unfold imgS
  rw [e, h1, h4]; rfl
theorem s64257 : okS 64257 ∧ imgS 64257 = [102, 105] := by
  refine ⟨.inr ⟨by decide +kernel, [102, 105], by decide +kernel⟩, by decide +kernel⟩
end
end Mine
end
section
set_option maxRecDepth 100000
set_option linter.unusedVariables false
set_option Elab.async false
set_option pp.maxSteps 3000
namespace Mine
open PySem PySem.W PySem.Calls PyProof.Rows
section
variable {w : World} {A A₀ : Around} {base : Heap} {outer : List Env} {h₀ : Heap} {L : Addr} {mg mb : Str → Option Value} {news : List (Addr × Obj)} {mean : ExcName → Option Value}
abbrev tyQs (word : Str) (tw : Tok) (x : Int) (tx : Tok) (U C FM : Addr) : List (Str × Value) :=
  [(Str.ofString "word", .str word tw), (Str.ofString "x", .int x tx), (Str.ofString "unseen", .ref U), (Str.ofString "codes", .ref C), (Str.ofString "forms", .ref FM)]
abbrev tyNs : List Str := [Str.ofString "word", Str.ofString "x", Str.ofString "unseen", Str.ofString "codes", Str.ofString "forms"]
structure TyS (wl : List Nat) (b i : Nat) (cvs : List Value) (cl : List Nat) : Prop where
  isI : IntsAre cvs (natsI cl)
  ok : ∀ c ∈ cl, okS c
  img : cl.flatMap imgS = (wl.take i).flatMap (subL b)
  len : cl.length ≤ 2 * i
theorem fIs_len (b : Nat) : (fIs b).length = 5 := by unfold fIs; split <;> rfl
theorem item_at (wl : List Nat) (k : Nat) (hk : k < wl.length) : Txt.item ⟨wl.toArray⟩ (k : Int) = ⟨#[wl.getD k 0]⟩ := by
  rw [item_meets (x := ⟨wl.toArray⟩) (i := (k : Int)) ⟨by omega, by show (k : Int) < (wl.toArray.size : Int); rw [List.size_toArray]; omega⟩, Int.toNat_natCast]
  simp [List.getD_eq_getElem?_getD]
theorem item_fi {x : Int} {b : Nat} (hb : x.fmod 2 = (b : Int)) (hb2 : b < 2) : Txt.item (Str.ofString "fi") (x.fmod 2) = ⟨#[if b = 0 then 102 else 105]⟩ := by
  rw [hb]
  obtain rfl | rfl : b = 0 ∨ b = 1 := by omega
  · decide +kernel
  · decide +kernel
theorem TyS.step {wl : List Nat} {b i : Nat} {cvs cvs' cvs'' : List Value} {cl : List Nat} {c : Int} {cns' : List Int} {x : Int} (h : TyS wl b i cvs cl) (hi : i < wl.length) (hb2 : b < 2) (hb : x.fmod 2 = (b : Int))
    (h1 : cns' = natsI cl ∨ ∃ j : Nat, j < 27 ∧ cns' = natsI cl ++ [uIs.getD j 0]) (hc : if Txt.item ⟨wl.toArray⟩ (i : Int) = Txt.item (Str.ofString "fi") (x.fmod 2) then ∃ j : Nat, j < 5 ∧ c = (fIs b).getD j 0 else c = 64257)
    (I : IntsAre cvs'' (cns' ++ [c])) : ∃ cl', TyS wl b (i + 1) cvs'' cl' := by
  have e1 : (wl.take (i + 1)).flatMap (subL b) = (wl.take i).flatMap (subL b) ++ subL b (wl.getD i 0) := by
    rw [List.take_add_one, List.getElem?_eq_getElem hi, List.flatMap_append]
    simp [List.getD_eq_getElem?_getD, List.getElem?_eq_getElem hi]
  -- the sign before
  obtain ⟨cl1, rfl, ok1, im1, ln1⟩ : ∃ cl1, cns' = natsI cl1 ∧ (∀ c ∈ cl1, okS c) ∧ cl1.flatMap imgS = (wl.take i).flatMap (subL b) ∧ cl1.length ≤ 2 * i + 1 := by
    rcases h1 with rfl | ⟨j, hj, rfl⟩
    · exact ⟨cl, rfl, h.ok, h.img, by have := h.len; omega⟩
    · obtain ⟨n, e, o, im⟩ := uIs_ok j hj
      refine ⟨cl ++ [n], by rw [e]; simp, fun c hc => ?_, ?_, by have := h.len; simp; omega⟩
      · rcases List.mem_append.mp hc with hc | hc
        · exact h.ok c hc
        · rw [List.mem_singleton.mp hc]; exact o
      · rw [List.flatMap_append, h.img]; simp [im]
  obtain ⟨n, rfl, o, im⟩ : ∃ n : Nat, c = (n : Int) ∧ okS n ∧ imgS n = subL b (wl.getD i 0) := by
    rw [item_at wl i hi, item_fi hb hb2] at hc
    by_cases q : wl.getD i 0 = if b = 0 then 102 else 105
    · rw [if_pos (by rw [q])] at hc
      obtain ⟨j, hj, rfl⟩ := hc
      obtain ⟨n, e, o, im⟩ := fIs_ok b hb2 j hj
      exact ⟨n, e, o, by rw [im, subL, if_pos q, q]⟩
    · rw [if_neg (fun e => q (by simpa using e))] at hc
      exact ⟨64257, hc, s64257.1, by rw [s64257.2, subL, if_neg q]⟩
  refine ⟨cl1 ++ [n], ?_, fun c hc => ?_, ?_, ?_⟩
  · have : natsI (cl1 ++ [n]) = natsI cl1 ++ [(n : Int)] := by simp
    rw [this]; exact I
  · rcases List.mem_append.mp hc with hc | hc
    · exact ok1 c hc
    · rw [List.mem_singleton.mp hc]; exact o
  · rw [List.flatMap_append, im1, e1]; simp [im]
  · simp; omega

theorem ty_for {s : Shared} {m : Str → Option Value} {Q : Flow → Shared → Prop} {wl : List Nat} {x : Int} {b : Nat} {tw tx : Tok} {U C FM : Addr} {uvs fvs : List Value} {nu nf : Nat}
    (B' : Below A base outer h₀) (F' : Fr h₀ L s.heap (kstB m (tyQs ⟨wl.toArray⟩ tw x tx U C FM))) (X' : (KT w.params).In h₀) 
    (N' : News h₀ L s.heap ((C, W.listOf ([] : List Value).toArray 0) :: (U, W.listOf uvs.toArray nu) :: (FM, W.listOf fvs.toArray nf) :: news)) (T' : Top qv (looseW qv loose0) mean mg mb h₀) (hh : A.handled = none) (hw : wl.length ≤ 250)
    (hU : IntsAre uvs uIs) (hF : IntsAre fvs (fIs b)) (hb2 : b < 2) (hb : x.fmod 2 = (b : Int)) (hap : ∀ p ∈ (U, W.listOf uvs.toArray nu) :: (FM, W.listOf fvs.toArray nf) :: news, p.1 ≠ C)
    (st : Stmt) (hst : (fB (stm 8))[3]? = some st)
    (h : ∀ h' tk' u cvs nc cl, TyS wl b wl.length cvs cl → Fr h₀ L h' (kstB u (tyQs ⟨wl.toArray⟩ tw x tx U C FM)) → News h₀ L h' ((C, W.listOf cvs.toArray nc) :: (U, W.listOf uvs.toArray nu) :: (FM, W.listOf fvs.toArray nf) :: news) → Q .next { s with heap := h', toks := tk' }) :
    wpAny (model pg w) (A.deeper (tyEnv L)) (exec st (tyEnv L)) Q No s := by
  cases hst
  refine for_start F' (by rfl) (by rfl) ?_
  have hwl : (⟨wl.toArray⟩ : Str).length = wl.length := List.size_toArray ..
  have F0 := fr_norm [(Str.ofString "word", .str ⟨wl.toArray⟩ tw)] F' (fun q hq => by obtain rfl := List.mem_singleton.mp hq; rfl)
  refine ty_iter (x := x) (tx := tx) (U := U) (C := C) (FM := FM) B' F0 X' N' T' (by rw [hwl]; omega) _ rfl fun h' tk' r t u v hr F₁ N₁ => ?_
  refine for_range (n := wl.length) (σ := List Value × List Nat × Nat) (fun _ => tyQs ⟨wl.toArray⟩ tw x tx U C FM) (fun c => (C, W.listOf c.1.toArray c.2.2) :: (U, W.listOf uvs.toArray nu) :: (FM, W.listOf fvs.toArray nf) :: news) (fun i c => TyS wl b i c.1 c.2.1) ([], [], 0) hh hr
    (small_one (by omega) (by omega) (by rw [hwl]; omega) (by rw [hwl]; omega)) (by rw [rangeSize_nat, hwl]; omega) F₁ N₁ ?_ ⟨.nil, fun _ h => absurd h List.not_mem_nil, rfl, Nat.zero_le _⟩ (fun _ => rfl) (fun _ => offN tyNs rfl (by decide)) ?_ ?_
  · intro q hq
    have := kstB_atN (u := m) (ps := tyQs ⟨wl.toArray⟩ tw x tx U C FM) tyNs rfl (by decide) q hq
    rw [kstB_eq (rest := _) (m₁ := kstB m (tyQs ⟨wl.toArray⟩ tw x tx U C FM)) ?_ fun _ => rfl]
    · exact this
    · intro p hp; obtain rfl := List.mem_singleton.mp hp; rfl
  · rintro i k t' ⟨cvs, cl, nc⟩ u₁ h₂ tk₂ own hi rfl hS hoff F₂ N₂
    dsimp only at hS N₂
    have e : (0 : Int) + (i : Int) = (i : Int) := by omega
    rw [e] at F₂
    have hlc : (natsI cl).length ≤ 600 := by rw [List.length_map]; have := hS.len; omega
    have hCo : ∀ q ∈ (U, W.listOf uvs.toArray nu) :: (FM, W.listOf fvs.toArray nf) :: (news ++ own), q.1 ≠ C := by
      intro q hq
      rw [← List.cons_append, ← List.cons_append] at hq
      rcases List.mem_append.mp hq with hq | hq
      · exact hap q hq
      · exact hoff q hq C (by simp)
    refine wpAny_execs_cons (ty_if (s := { s with heap := h₂, toks := tk₂ }) (m := u₁) (news := (FM, W.listOf fvs.toArray nf) :: (news ++ own)) (FM := FM) B' F₂ X' N₂ T' (by rw [hwl]; omega) (by rw [hwl]; exact hi) hU (by decide) hS.isI hlc hCo _ rfl fun h₃ tk₃ u₃ cvs₃ cns₃ nc₃ h1 F₃ N₃ I₃ => ?_)
    show wpAny _ _ _ _ _ _
    have hl3 : cns₃.length ≤ 600 := by
      rcases h1 with rfl | ⟨j, _, rfl⟩
      · exact hlc
      · rw [List.length_append, List.length_map]; have := hS.len; simp; omega
    refine wpAny_execs_cons (ty_app (s := { s with heap := h₃, toks := tk₃ }) (m := u₃) (uvs := uvs) (nu := nu) (nc := nc₃) (nf := nf) (news := (U, W.listOf uvs.toArray nu) :: (news ++ own)) B' F₃ X' (fun p hp => N₃ p ?_) T' (by rw [hwl]; omega) (by rw [hwl]; exact hi) hF (fIs_len b) I₃ hl3 (fun p hp => hCo p ?_) _ rfl fun h₄ tk₄ u₄ cvs₄ c₄ nc₄ hc F₄ N₄ I₄ => ?_)
    · simp only [List.mem_cons] at hp ⊢
      rcases hp with rfl | rfl | rfl | hp
      · exact .inl rfl
      · exact .inr (.inr (.inl rfl))
      · exact .inr (.inl rfl)
      · exact .inr (.inr (.inr hp))
    · simp only [List.mem_cons] at hp ⊢
      rcases hp with rfl | rfl | hp
      · exact .inr (.inl rfl)
      · exact .inl rfl
      · exact .inr (.inr hp)
    show wpAny _ _ _ _ _ _
    refine wpAny_execs_nil ?_
    obtain ⟨cl', hS'⟩ := hS.step (cvs' := cvs₃) (cvs'' := cvs₄) hi hb2 hb h1 hc I₄
    refine ⟨(cvs₄, cl', nc₄), _, h₄, tk₄, _, rfl, hS', F₄, ?_, N₄, fun q hq => ?_, fun q hq => ?_⟩
    · intro q hq
      exact kstB_atN (tyNs.cons (Str.ofString "k")) rfl (by decide) q (.tail _ hq)
    · simp only [List.mem_cons, List.mem_append] at hq ⊢
      rcases hq with rfl | rfl | rfl | hq
      · exact .inl rfl
      · exact .inr (.inr (.inl rfl))
      · exact .inr (.inl rfl)
      · exact .inr (.inr (.inr (.inl hq)))
    · simp only [List.mem_cons, List.mem_append]
      exact .inr (.inr (.inr (.inr hq)))
  · rintro ⟨cvs, cl, nc⟩ u₁ h₂ tk₂ hS F₂ N₂
    exact h h₂ tk₂ u₁ cvs nc cl hS F₂ N₂
end
end Mine
end
section
set_option maxRecDepth 100000
set_option linter.unusedVariables false
set_option Elab.async false
set_option pp.maxSteps 3000
namespace Mine
open PySem PySem.W PySem.Calls PyProof.Rows
def binL : Option PySem.Expr → Option PySem.Expr | some (.BinOp l _ _ _) => some l | _ => none
def binR : Option PySem.Expr → Option PySem.Expr | some (.BinOp _ _ r _) => some r | _ => none
def tyU : Option PySem.Expr := match (fB (stm 8))[0]? with | some s => asgE s | none => none
section
variable {w : World} {A A₀ : Around} {base : Heap} {outer : List Env} {h₀ : Heap} {L : Addr} {mg mb : Str → Option Value} {news : List (Addr × Obj)} {mean : ExcName → Option Value}
set_option maxHeartbeats 1000000 in
theorem ty_lr1 {s : Shared} {m : Str → Option Value} {Q : Value → Shared → Prop}
    (B' : Below A base outer h₀) (F' : Fr h₀ L s.heap m) (X' : (KT w.params).In h₀) (N' : News h₀ L s.heap news) (T' : Top qv (looseW qv loose0) mean mg mb h₀) (hh : A.handled = none)
    (te : PySem.Expr) (hte : binR (binL (binL (binL (binL tyU)))) = some te)
    (h : ∀ D h' tk vs c, Fr h₀ L h' m → News h₀ L h' ((D, W.listOf vs.toArray c) :: news) → (∀ q ∈ news, q.1 ≠ D) → IntsAre vs (rangeInts 6155 1 3) → Q (.ref D) { s with heap := h', toks := tk }) :
    wpAny (model pg w) (A.deeper (tyEnv L)) (eval te (tyEnv L)) Q No s := by
  have hfill : (PySem.Challenge.rw_re0100_01, KT) = (PySem.Challenge.rw_re0100_01, KT) := by k_fill; rfl
  clear hfill
  w_on
  cases hte
  k_steps
  refine list_range_ints (n := 3) hh (by assumption) (by assumption) (by assumption) (by decide) (by decide) (by decide) (by decide) (by decide) (by decide) ?_
  intro D h' tk vs c F N hd I
  k_steps
  exact h D h' tk vs c F N hd I
set_option maxHeartbeats 1000000 in
theorem ty_lr2 {s : Shared} {m : Str → Option Value} {Q : Value → Shared → Prop}
    (B' : Below A base outer h₀) (F' : Fr h₀ L s.heap m) (X' : (KT w.params).In h₀) (N' : News h₀ L s.heap news) (T' : Top qv (looseW qv loose0) mean mg mb h₀) (hh : A.handled = none)
    (te : PySem.Expr) (hte : binR (binL (binL (binL tyU))) = some te)
    (h : ∀ D h' tk vs c, Fr h₀ L h' m → News h₀ L h' ((D, W.listOf vs.toArray c) :: news) → (∀ q ∈ news, q.1 ≠ D) → IntsAre vs (rangeInts 8203 1 3) → Q (.ref D) { s with heap := h', toks := tk }) :
    wpAny (model pg w) (A.deeper (tyEnv L)) (eval te (tyEnv L)) Q No s := by
  have hfill : (PySem.Challenge.rw_re0100_01, KT) = (PySem.Challenge.rw_re0100_01, KT) := by k_fill; rfl
  clear hfill
  w_on
  cases hte
  k_steps
  refine list_range_ints (n := 3) hh (by assumption) (by assumption) (by assumption) (by decide) (by decide) (by decide) (by decide) (by decide) (by decide) ?_
  intro D h' tk vs c F N hd I
  k_steps
  exact h D h' tk vs c F N hd I
set_option maxHeartbeats 1000000 in
theorem ty_lr3 {s : Shared} {m : Str → Option Value} {Q : Value → Shared → Prop}
    (B' : Below A base outer h₀) (F' : Fr h₀ L s.heap m) (X' : (KT w.params).In h₀) (N' : News h₀ L s.heap news) (T' : Top qv (looseW qv loose0) mean mg mb h₀) (hh : A.handled = none)
    (te : PySem.Expr) (hte : binR (binL tyU) = some te)
    (h : ∀ D h' tk vs c, Fr h₀ L h' m → News h₀ L h' ((D, W.listOf vs.toArray c) :: news) → (∀ q ∈ news, q.1 ≠ D) → IntsAre vs (rangeInts 65024 1 16) → Q (.ref D) { s with heap := h', toks := tk }) :
    wpAny (model pg w) (A.deeper (tyEnv L)) (eval te (tyEnv L)) Q No s := by
  have hfill : (PySem.Challenge.rw_re0100_01, KT) = (PySem.Challenge.rw_re0100_01, KT) := by k_fill; rfl
  clear hfill
  w_on
  cases hte
  k_steps
  refine list_range_ints (n := 16) hh (by assumption) (by assumption) (by assumption) (by decide) (by decide) (by decide) (by decide) (by decide) (by decide) ?_
  intro D h' tk vs c F N hd I
  k_steps
  exact h D h' tk vs c F N hd I
end
end Mine
end
section
set_option maxRecDepth 100000
set_option linter.unusedVariables false
set_option Elab.async false
set_option pp.maxSteps 3000
namespace Mine
open PySem PySem.W PySem.Calls PyProof.Rows
section
variable {w : World} {A A₀ : Around} {base : Heap} {outer : List Env} {h₀ : Heap} {L : Addr} {mg mb : Str → Option Value} {news : List (Addr × Obj)} {mean : ExcName → Option Value}
theorem ty_s0 {s : Shared} {m : Str → Option Value} {Q : Flow → Shared → Prop} 
    (B' : Below A base outer h₀) (F' : Fr h₀ L s.heap m) (X' : (KT w.params).In h₀) (N' : News h₀ L s.heap news) (T' : Top qv (looseW qv loose0) mean mg mb h₀) (hh : A.handled = none)
    (st : Stmt) (hst : (fB (stm 8))[0]? = some st)
    (h : ∀ U h' tk uvs, Fr h₀ L h' (fun y => if y = Str.ofString "unseen" then some (.ref U) else m y) → News h₀ L h' ((U, W.listOf uvs.toArray 0) :: news) → (∀ q ∈ news, q.1 ≠ U) → IntsAre uvs uIs → Q .next { s with heap := h', toks := tk }) :
    wpAny (model pg w) (A.deeper (tyEnv L)) (exec st (tyEnv L)) Q No s := by
  cases hst
  refine wpAny_Assign_Name ?_
  refine wpAny_BinOp (wpAny_BinOp (wpAny_BinOp (wpAny_BinOp (wpAny_BinOp ?_))))
  refine eval_ints F' N' rfl (by decide) fun D1 h1 tk1 vs1 F1 N1 hd1 I1 => ?_
  refine ty_lr1 (s := { s with heap := h1, toks := tk1 }) B' F1 X' N1 T' hh _ rfl fun D2 h2 tk2 vs2 c2 F2 N2 hd2 I2 => ?_
  refine add_ints (s := { s with heap := h2, toks := tk2 }) F2 N2 (.tail _ (.head _)) (.head _) I1 I2 (by decide) fun D3 h3 F3 N3 hd3 I3 => ?_
  refine ty_lr2 (s := { s with heap := h3, toks := tk2 }) B' F3 X' N3 T' hh _ rfl fun D4 h4 tk4 vs4 c4 F4 N4 hd4 I4 => ?_
  refine add_ints (s := { s with heap := h4, toks := tk4 }) F4 N4 (.tail _ (.head _)) (.head _) I3 I4 (by decide) fun D5 h5 F5 N5 hd5 I5 => ?_
  refine eval_ints (s := { s with heap := h5, toks := tk4 }) F5 N5 rfl (by decide) fun D6 h6 tk6 vs6 F6 N6 hd6 I6 => ?_
  refine add_ints (s := { s with heap := h6, toks := tk6 }) F6 N6 (.tail _ (.head _)) (.head _) I5 I6 (by decide) fun D7 h7 F7 N7 hd7 I7 => ?_
  refine ty_lr3 (s := { s with heap := h7, toks := tk6 }) B' F7 X' N7 T' hh _ rfl fun D8 h8 tk8 vs8 c8 F8 N8 hd8 I8 => ?_
  refine add_ints (s := { s with heap := h8, toks := tk8 }) F8 N8 (.tail _ (.head _)) (.head _) I7 I8 (by decide) fun D9 h9 F9 N9 hd9 I9 => ?_
  refine eval_ints (s := { s with heap := h9, toks := tk8 }) F9 N9 rfl (by decide) fun D10 h10 tk10 vs10 F10 N10 hd10 I10 => ?_
  refine add_ints (s := { s with heap := h10, toks := tk10 }) F10 N10 (.tail _ (.head _)) (.head _) I9 I10 (by decide) fun U h11 F11 N11 hd11 I11 => ?_
  refine storeX_L (cl := []) (s := { s with heap := h11, toks := tk10 }) F11 N11 fun h12 F12 N12 => ?_
  refine h U h12 _ (vs1 ++ vs2 ++ vs4 ++ vs6 ++ vs8 ++ vs10) F12 (fun q hq => N12 q ?_) (fun q hq => hd11 q ?_) ?_
  · rcases List.mem_cons.mp hq with rfl | hq
    · exact .head _
    · simp only [List.mem_cons]; simp [hq]
  · simp only [List.mem_cons]; simp [hq]
  · exact I11
def subV : Option PySem.Expr → Option PySem.Expr | some (.Subscript v _ _) => some v | _ => none
def subI : Option PySem.Expr → Option PySem.Expr | some (.Subscript _ i _) => some i | _ => none
def tyF : Option PySem.Expr := match (fB (stm 8))[1]? with | some s => asgE s | none => none
set_option maxHeartbeats 1000000 in
theorem ty_mod {s : Shared} {m : Str → Option Value} {Q : Value → Shared → Prop} {x : Int} {tx : Tok}
    (B' : Below A base outer h₀) (F' : Fr h₀ L s.heap (kstB m [(Str.ofString "x", .int x tx)])) (X' : (KT w.params).In h₀) (N' : News h₀ L s.heap news) (T' : Top qv (looseW qv loose0) mean mg mb h₀)
    (te : PySem.Expr) (hte : subI tyF = some te)
    (h : ∀ tk t, Q (.int (x.fmod 2) t) { s with toks := tk }) :
    wpAny (model pg w) (A.deeper (tyEnv L)) (eval te (tyEnv L)) Q No s := by
  have hfill : (PySem.Challenge.rw_re0100_01, KT) = (PySem.Challenge.rw_re0100_01, KT) := by k_fill; rfl
  clear hfill
  dsimp only [kstB] at F'
  w_on
  cases hte
  k_steps
  exact h _ _
set_option maxHeartbeats 1000000 in
theorem ty_s1 {s : Shared} {m : Str → Option Value} {Q : Flow → Shared → Prop} {x : Int} {b : Nat} {tx : Tok} (hb : x.fmod 2 = (b : Int)) (hb2 : b < 2)
    (B' : Below A base outer h₀) (F' : Fr h₀ L s.heap (kstB m [(Str.ofString "x", .int x tx)])) (X' : (KT w.params).In h₀) (N' : News h₀ L s.heap news) (T' : Top qv (looseW qv loose0) mean mg mb h₀) (hh : A.handled = none)
    (st : Stmt) (hst : (fB (stm 8))[1]? = some st)
    (h : ∀ FM h' tk fvs, Fr h₀ L h' (fun y => if y = Str.ofString "forms" then some (.ref FM) else (kstB m [(Str.ofString "x", .int x tx)]) y) → News h₀ L h' ((FM, W.listOf fvs.toArray 0) :: news) → IntsAre fvs (fIs b) → Q .next { s with heap := h', toks := tk }) :
    wpAny (model pg w) (A.deeper (tyEnv L)) (exec st (tyEnv L)) Q No s := by
  cases hst
  refine wpAny_Assign_Name ?_
  refine Subscript_ ?_
  refine List_ ?_
  refine spliced_more ?_
  refine eval_ints F' N' rfl (by decide) fun D1 h1 tk1 vs1 F1 N1 hd1 I1 => ?_
  refine spliced_more (eval_ints (s := { s with heap := h1, toks := tk1 }) F1 N1 rfl (by decide) fun D2 h2 tk2 vs2 F2 N2 hd2 I2 => ?_)
  refine spliced_none ?_
  refine newList_N (s := { s with heap := h2, toks := tk2 }) F2 N2 (fun h3 F3 N3 => ?_) (by show 2 ≤ 16777216; decide)
  refine ty_mod (s := { s with heap := h3, toks := tk2 }) B' F3 X' N3 T' _ rfl fun tk4 t4 => ?_
  rw [hb]
  have hl : h3.IsList h2.objs.size #[.ref D1, .ref D2] := N3.isList (.head _)
  obtain rfl | rfl : b = 0 ∨ b = 1 := by omega
  · refine tail_any (s := { s with heap := h3, toks := tk4 }) hl.typeIs slot_list_getitem.lookup (wpAny_getItem_list (x := .ref D1) hl (by decide) (by decide) rfl ?_) (by with_unfolding_all rfl)
    refine storeX_L (cl := []) (s := { s with heap := h3, toks := tk4 }) F3 N3 fun h5 F5 N5 => ?_
    refine h D1 h5 _ vs1 F5 (fun q hq => N5 q ?_) I1
    rcases List.mem_cons.mp hq with rfl | hq
    · simp
    · simp [hq]
  · refine tail_any (s := { s with heap := h3, toks := tk4 }) hl.typeIs slot_list_getitem.lookup (wpAny_getItem_list (x := .ref D2) hl (by decide) (by decide) rfl ?_) (by with_unfolding_all rfl)
    refine storeX_L (cl := []) (s := { s with heap := h3, toks := tk4 }) F3 N3 fun h5 F5 N5 => ?_
    refine h D2 h5 _ vs2 F5 (fun q hq => N5 q ?_) I2
    rcases List.mem_cons.mp hq with rfl | hq
    · simp
    · simp [hq]
theorem ty_s2 {s : Shared} {m : Str → Option Value} {Q : Flow → Shared → Prop}
    (B' : Below A base outer h₀) (F' : Fr h₀ L s.heap m) (X' : (KT w.params).In h₀) (N' : News h₀ L s.heap news) (T' : Top qv (looseW qv loose0) mean mg mb h₀)
    (st : Stmt) (hst : (fB (stm 8))[2]? = some st)
    (h : ∀ C h' tk, Fr h₀ L h' (fun y => if y = Str.ofString "codes" then some (.ref C) else m y) → News h₀ L h' ((C, W.listOf ([] : List Value).toArray 0) :: news) → (∀ q ∈ news, q.1 ≠ C) → Q .next { s with heap := h', toks := tk }) :
    wpAny (model pg w) (A.deeper (tyEnv L)) (exec st (tyEnv L)) Q No s := by
  cases hst
  refine wpAny_Assign_Name (List_ (spliced_none ?_))
  refine newList_N F' N' (fun h3 F3 N3 => ?_) (by show 0 ≤ 16777216; decide)
  refine storeX_L (cl := []) (s := { s with heap := h3 }) F3 N3 fun h5 F5 N5 => ?_
  exact h _ h5 _ F5 N5 (fun q hq => Nat.ne_of_lt (Heap.lt_size (N' q hq).1))
def tyR : Option PySem.Expr := match (fB (stm 8))[4]? with | some s => retE s | none => none
set_option maxHeartbeats 1000000 in
theorem ty_elt {s : Shared} {m : Str → Option Value} {Q : Value → Shared → Prop} {c : Nat} {tk : Tok} {I C D : Addr} {oI oC : Obj} {ys : List Value} {m₂ : Str → Option Value}
    (B' : Below A base outer h₀) (F' : Fr h₀ L s.heap m) (X' : (KT w.params).In h₀) (N' : News h₀ L s.heap ((I, oI) :: (C, oC) :: (D, LCg.lst ys) :: news)) (T' : Top qv (looseW qv loose0) mean mg mb h₀)
    (hC : LCg.NsObj oC m₂) (hk : m₂ (Str.ofString "code") = some (.int (c : Int) tk)) (h1 : c < 1114112)
    (e sc : _) (he : (match tyR with | some c => eltE c | none => none) = some e) (hsc : (match tyR with | some c => scE c | none => none) = some sc)
    (hq : ∀ tk' t, Q (.str ⟨#[c]⟩ t) { s with toks := tk' }) :
    wpAny (model pg w) (A.deeper (tyEnv L)) (eval e (compEnvC sc [] C (tyEnv L))) Q No s := by
  have hfill : (PySem.Challenge.rw_re0100_01, KT) = (PySem.Challenge.rw_re0100_01, KT) := by k_fill; rfl
  clear hfill
  w_on
  cases he
  cases hsc
  k_steps
  rw [Int.toNat_natCast]
  exact hq _ _
theorem okS_lt {c : Nat} (h : okS c) : c < 1114112 := by
  rcases h with h | ⟨_, v, h⟩
  · obtain ⟨n, hn, e⟩ := List.any_eq_true.mp h
    have h1 : b1s.all (fun n => decide (n < 1114112)) = true := by decide
    have := of_decide_eq_true (List.all_eq_true.mp h1 n hn)
    have := beq_iff_eq.mp e
    omega
  · have h1 : b3s.all (fun p => decide (p.1 < 1114112)) = true := by decide
    exact of_decide_eq_true (List.all_eq_true.mp h1 (c, v) h)
theorem strs_of_get {f : Nat → Str} : ∀ (ys : List Value) (cl : List Nat), ys.length = cl.length → (∀ (i : Nat) y, ys[i]? = some y → ∃ t, y = .str (f (cl.getD i 0)) t) → StrsAre ys (cl.map f)
  | [], [], _, _ => .nil
  | [], _ :: _, h, _ => by simp at h
  | _ :: _, [], h, _ => by simp at h
  | y :: r, c :: cr, hl, h => by
    obtain ⟨t, rfl⟩ := h 0 y rfl
    exact .cons _ _ (strs_of_get r cr (by simpa using hl) fun i z hz => h (i + 1) z (by simpa using hz))
set_option maxHeartbeats 1000000 in
theorem ty_ret {s : Shared} {m : Str → Option Value} {Q : Flow → Shared → Prop} {C : Addr} {cvs : List Value} {nc : Nat} {cl : List Nat}
    (B' : Below A base outer h₀) (F' : Fr h₀ L s.heap m) (hm : m (Str.ofString "codes") = some (.ref C)) (X' : (KT w.params).In h₀) (N' : News h₀ L s.heap ((C, W.listOf cvs.toArray nc) :: news)) (T' : Top qv (looseW qv loose0) mean mg mb h₀) (hh : A.handled = none)
    (hI : IntsAre cvs (natsI cl)) (hl : cl.length ≤ 600) (hok : ∀ c ∈ cl, okS c)
    (st : Stmt) (hst : (fB (stm 8))[4]? = some st)
    (h : ∀ D h' tk ys, Fr h₀ L h' m → News h₀ L h' ((D, LCg.lst ys) :: (C, W.listOf cvs.toArray nc) :: news) → LCg.Off1 D ((C, W.listOf cvs.toArray nc) :: news) → StrsAre ys (cl.map fun c => ⟨#[c]⟩) → Q (.ret (.ref D)) { s with heap := h', toks := tk }) :
    wpAny (model pg w) (A.deeper (tyEnv L)) (exec st (tyEnv L)) Q No s := by
  cases hst
  refine wpAny_Return_some ?_
  refine LCg.ListComp_U (F₀ := F') (cl := []) (by with_unfolding_all rfl) (by decide) (by rfl) (by decide) (by rfl) ?_
  refine ld F' hm ?_
  have hlen : cvs.length = cl.length := by rw [hI.length, List.length_map]
  refine LCg.CompSrc.ledger hh F' N' (.head _) (by show cvs.toArray.size ≤ 16777216; rw [List.size_toArray, hlen]; omega) fun g => ?_
  refine comp_rest (fun i y => ∃ t, y = .str ⟨#[cl.getD i 0]⟩ t) (.inr ⟨_, .head _, rfl, _, rfl⟩) ?_ ?_
  · rintro i v I oI oC CC D ys m₂ hp tk hi hv hC hx F N off ne
    rw [List.getElem?_toArray] at hv
    have hil : i < cl.length := by rw [← hlen]; simpa using hi
    obtain ⟨t, e⟩ := hI.int_at i v hv
    rw [natsI_getD] at e
    subst e
    have hmem : cl.getD i 0 ∈ cl := by rw [List.getD_eq_getElem?_getD, List.getElem?_eq_getElem hil]; exact List.getElem_mem _
    refine ty_elt (s := { s with heap := hp, toks := tk }) B' F X' N T' hC hx (okS_lt (hok _ hmem)) _ _ rfl rfl fun tk' t => ?_
    exact ⟨hp, tk', rfl, F, N, t, rfl⟩
  · intro ys hl' hy D hp tk F N o1
    refine h D hp tk ys F N o1 (strs_of_get ys cl (by rw [hl', List.size_toArray, hlen]) hy)
end
end Mine
end
section
set_option maxRecDepth 100000
set_option linter.unusedVariables false
set_option Elab.async false
set_option pp.maxSteps 3000
namespace Mine
open PySem PySem.W PySem.Calls PyProof.Rows
section
variable {w : World} {A A₀ : Around} {base : Heap} {outer : List Env} {h₀ : Heap} {L : Addr} {mg mb : Str → Option Value} {news : List (Addr × Obj)} {mean : ExcName → Option Value}
def tyS (i : Nat) : Stmt := match (fB (stm 8))[i]? with | some s => s | none => .Pass default
theorem tyS_0 : (fB (stm 8))[0]? = some (tyS 0) := rfl
theorem tyS_1 : (fB (stm 8))[1]? = some (tyS 1) := rfl
theorem tyS_2 : (fB (stm 8))[2]? = some (tyS 2) := rfl
theorem tyS_3 : (fB (stm 8))[3]? = some (tyS 3) := rfl
theorem tyS_4 : (fB (stm 8))[4]? = some (tyS 4) := rfl
theorem tyS_b : fB (stm 8) = [tyS 0, tyS 1, tyS 2, tyS 3, tyS 4] := rfl
theorem ty_body {s : Shared} {Q : Flow → Shared → Prop} {wl : List Nat} {x : Int} {b : Nat} {tw tx : Tok} {S0 S1 S2 S3 S4 : Stmt} (hb : x.fmod 2 = (b : Int)) (hb2 : b < 2)
    (B' : Below A base outer h₀) (F' : Fr h₀ L s.heap (fun y => List.lookup y [(Str.ofString "word", .str ⟨wl.toArray⟩ tw), (Str.ofString "x", .int x tx)].reverse)) (X' : (KT w.params).In h₀) (N' : News h₀ L s.heap news) (T' : Top qv (looseW qv loose0) mean mg mb h₀) (hh : A.handled = none) (hw : wl.length ≤ 250)
    (e0 : (fB (stm 8))[0]? = some S0) (e1 : (fB (stm 8))[1]? = some S1) (e2 : (fB (stm 8))[2]? = some S2) (e3 : (fB (stm 8))[3]? = some S3) (e4 : (fB (stm 8))[4]? = some S4)
    (h : ∀ (D : Addr) (h' : Heap) (tk : Nat) (ys : List Value) (cl : List Nat) (m' : Str → Option Value) (nw : List (Addr × Obj)), Fr h₀ L h' m' → News h₀ L h' nw → (∀ p ∈ (D, LCg.lst ys) :: news, p ∈ nw) → (∀ q ∈ news, q.1 ≠ D) → StrsAre ys (cl.map fun c => ⟨#[c]⟩) → (∀ c ∈ cl, okS c) → cl.flatMap imgS = wl.flatMap (subL b) → cl.length ≤ 600 → Q (.ret (.ref D)) { s with heap := h', toks := tk }) :
    wpAny (model pg w) (A.deeper (tyEnv L)) (execs [S0, S1, S2, S3, S4] (tyEnv L)) Q No s := by
  refine wpAny_execs_cons (ty_s0 B' F' X' N' T' hh _ e0 fun U h₁ tk₁ uvs F₁ N₁ hU IU => ?_)
  show wpAny _ _ _ _ _ _
  have F₁' := fr_norm [(Str.ofString "x", .int x tx)] F₁ (fun q hq => by obtain rfl := List.mem_singleton.mp hq; rfl)
  refine wpAny_execs_cons (ty_s1 (s := { s with heap := h₁, toks := tk₁ }) hb hb2 B' F₁' X' N₁ T' hh _ e1 fun FM h₂ tk₂ fvs F₂ N₂ IF => ?_)
  show wpAny _ _ _ _ _ _
  refine wpAny_execs_cons (ty_s2 (s := { s with heap := h₂, toks := tk₂ }) B' F₂ X' N₂ T' _ e2 fun C h₃ tk₃ F₃ N₃ hC => ?_)
  show wpAny _ _ _ _ _ _
  have F₃' := fr_norm (tyQs ⟨wl.toArray⟩ tw x tx U C FM) F₃ (fun q hq => by
    simp only [List.mem_cons, List.not_mem_nil, or_false] at hq
    rcases hq with rfl | rfl | rfl | rfl | rfl <;> rfl)
  refine wpAny_execs_cons (ty_for (s := { s with heap := h₃, toks := tk₃ }) (nu := 0) (nf := 0) (uvs := uvs) (fvs := fvs) (news := news) B' F₃' X' (fun p hp => N₃ p ?_) T' hh hw IU IF hb2 hb (fun p hp => hC p ?_) _ e3 fun h₄ tk₄ u₄ cvs nc cl hS F₄ N₄ => ?_)
  · simp only [List.mem_cons] at hp ⊢
    rcases hp with rfl | rfl | rfl | hp
    · exact .inl rfl
    · exact .inr (.inr (.inl rfl))
    · exact .inr (.inl rfl)
    · exact .inr (.inr (.inr hp))
  · simp only [List.mem_cons] at hp ⊢
    rcases hp with rfl | rfl | hp
    · exact .inr (.inl rfl)
    · exact .inl rfl
    · exact .inr (.inr hp)
  show wpAny _ _ _ _ _ _
  have hl := hS.len
  refine wpAny_execs_cons (ty_ret (s := { s with heap := h₄, toks := tk₄ }) B' F₄ (by rfl) X' N₄ T' hh hS.isI (by omega) hS.ok _ e4 fun D h₅ tk₅ ys F₅ N₅ o1 hy => ?_)
  refine h D h₅ tk₅ ys cl _ _ F₅ N₅ (fun p hp => ?_) (fun q hq => ?_) hy hS.ok ?_ (by omega)
  · rcases List.mem_cons.mp hp with rfl | hp
    · exact .head _
    · exact .tail _ (.tail _ (.tail _ (.tail _ hp)))
  · have ho : ∀ l : List (Addr × Obj), LCg.Off1 D l → ∀ p ∈ l, p.1 ≠ D := by
      intro l
      induction l with
      | nil => intro _ p hp; cases hp
      | cons a r ih =>
        intro ho p hp
        rcases List.mem_cons.mp hp with rfl | hp
        · exact ho.1
        · exact ih ho.2 p hp
    exact ho _ o1 q (.tail _ (.tail _ (.tail _ hq)))
  · have := hS.img
    rwa [List.take_length] at this
set_option maxHeartbeats 4000000 in
theorem ty_call {s : Shared} {m : Str → Option Value} {env : Env} {Q : Value → Shared → Prop} {wl : List Nat} {x : Int} {b : Nat} {tw tx : Tok} (hb : x.fmod 2 = (b : Int)) (hb2 : b < 2)
    (B : Below A₀ base outer h₀) (F : Fr h₀ L s.heap m) (X₀ : (KT w.params).In h₀) (N : News h₀ L s.heap news) (T : Top qv (looseW qv loose0) mean mg mb h₀) (hA : A.frames = some (env :: outer)) (hf : env.frame = some L) (hke : env.scope.kind = .function) (hh : A.handled = none) (hroom : A.depth < recursionLimit)
    (hw : wl.length ≤ 250)
    (h : ∀ (D : Addr) (h' : Heap) (tk : Nat) (ys : List Value) (cl : List Nat), Fr h₀ L h' m → News h₀ L h' ((D, LCg.lst ys) :: news) → (∀ q ∈ news, q.1 ≠ D) → StrsAre ys (cl.map fun c => ⟨#[c]⟩) → (∀ c ∈ cl, okS c) → cl.flatMap imgS = wl.flatMap (subL b) → cl.length ≤ 600 → Q (.ref D) { s with heap := h', toks := tk }) : wpAny (model pg w) A (PySem.call (.ref 90) [.str ⟨wl.toArray⟩ tw, .int x tx]) Q No s := by
  w_on
  have hfill : (PySem.Challenge.rw_re0100_01, KT) = (PySem.Challenge.rw_re0100_01, KT) := by k_fill; rfl
  clear hfill
  refine wpAny_call ?_
  refine' code_def (binds := [(Str.ofString "word", .str ⟨wl.toArray⟩ tw), (Str.ofString "x", .int x tx)]) B F X₀ N T hA hf hke ?k6 ?k7 hroom ?k9 ?kB ?_ ?c2 ?c3 ?c4 ?c5
  case k6 => k_is
  case k7 => k_is
  case k9 => exact BindsTo.of_eq rfl
  case c5 => decide
  case kB => exact locs rfl
  case c2 => exact rfl
  case c3 => exact rfl
  case c4 => exact rfl
  intro g' L' h' FG' F' N' B' X' T'
  rw [tyS_b]
  with_reducible refine wpAny_mono (E := No) ?_ (fun _ _ x => x) fun _ _ x => x.elim
  with_reducible exact ty_body hb hb2 B' F' X' N' T' hh hw tyS_0 tyS_1 tyS_2 tyS_3 tyS_4 fun D h₅ tk₅ ys cl m' nw F₅ N₅ hnw hD hy hok hcl hl => leaveK_ F₅ N₅ fun F₆ N₆ => h D h₅ tk₅ ys cl F₆ (kst_newsOf N₆ hnw) hD hy hok hcl hl
end
end Mine
end
section
set_option maxRecDepth 100000
set_option linter.unusedVariables false
set_option Elab.async false
set_option pp.maxSteps 3000
namespace Mine
open PySem PySem.W PySem.Calls PyProof.Rows
abbrev laEnv (fa ca L : Addr) : Env := envOfC (Str.ofString "law") (fS (stm 10)) L fa (Value.ref ca)
def laB : List Stmt := match (fB (stm 10))[1]? with | some s => forB s | none => []
section
variable {w : World} {base h₀ : Heap} {fa ca L : Addr} {mg mb : Str → Option Value} {news : List (Addr × Obj)} {mean : ExcName → Option Value}
abbrev laA (fa ca L : Addr) : Around := callerA.deeper (laEnv fa ca L)
set_option maxHeartbeats 1000000 in
theorem la_b0 {s : Shared} {m : Str → Option Value} {Q : Flow → Shared → Prop} {oz of oi : Obj} {size few : Nat} {tz tf : Tok} {ci : Option Value}
    (B' : Below callerA base [] h₀) (F' : Fr h₀ L s.heap m) (X' : (KT w.params).In h₀) (N' : News h₀ L s.heap ((L + 3, oi) :: (L + 2, of) :: (L + 1, oz) :: news)) (T' : Top qv (looseW qv loose0) mean mg mb h₀) 
    (hz : oz.data = .cell (some (.int (size : Int) tz))) (hf : of.data = .cell (some (.int (few : Int) tf))) (hi : oi.data = .cell ci)
    (st : Stmt) (hst : laB[0]? = some st) 
    (h : ∀ tk, Q (if 55 < size then .brk else .next) { s with toks := tk }) :
    wpAny (model pg w) (laA fa ca L) (exec st (laEnv fa ca L)) Q No s := by
  have hfill : (PySem.Challenge.rw_re0100_01, KT) = (PySem.Challenge.rw_re0100_01, KT) := by k_fill; rfl
  clear hfill
  w_on
  cases hst
  k_steps
  · rw [if_pos (by omega)] at h
    exact h _
  · rw [if_neg (by omega)] at h
    exact h _
end
end Mine
end
section
set_option maxRecDepth 100000
set_option linter.unusedVariables false
set_option Elab.async false
set_option pp.maxSteps 3000
namespace Mine
open PySem PySem.W PySem.Calls PyProof.Rows
section
variable {w : World} {base h₀ : Heap} {fa ca L : Addr} {mg mb : Str → Option Value} {news : List (Addr × Obj)} {mean : ExcName → Option Value}
local macro_rules | `(tactic| walk_at "call ref") => `(tactic| refine stopW ?_)
theorem laA_frames : (laA fa ca L).frames = some (laEnv fa ca L :: []) := rfl
theorem laA_room : (laA fa ca L).depth < recursionLimit := by k_room
set_option maxHeartbeats 1000000 in
theorem la_b1 {s : Shared} {m : Str → Option Value} {Q : Flow → Shared → Prop} {wl : List Nat} {x : Int} {b : Nat} {tw tx : Tok}
    (B' : Below callerA base [] h₀) (F₀ : Fr h₀ L s.heap m) (hw : m (Str.ofString "word") = some (.str ⟨wl.toArray⟩ tw)) (hx : m (Str.ofString "x") = some (.int x tx)) (X' : (KT w.params).In h₀) (N' : News h₀ L s.heap news) (T' : Top qv (looseW qv loose0) mean mg mb h₀) 
    (hb : x.fmod 2 = (b : Int)) (hb2 : b < 2) (hwl : wl.length ≤ 250)
    (st : Stmt) (hst : laB[1]? = some st) 
    (h : ∀ (D : Addr) (h' : Heap) (tk : Nat) (ys : List Value) (cl : List Nat), Fr h₀ L h' (upd m (Str.ofString "signs") (.ref D)) → News h₀ L h' ((D, LCg.lst ys) :: news) → StrsAre ys (cl.map fun c => ⟨#[c]⟩) → (∀ c ∈ cl, okS c) → cl.flatMap imgS = wl.flatMap (subL b) → cl.length ≤ 600 → Q .next { s with heap := h', toks := tk }) :
    wpAny (model pg w) (laA fa ca L) (exec st (laEnv fa ca L)) Q No s := by
  have hfill : (PySem.Challenge.rw_re0100_01, KT) = (PySem.Challenge.rw_re0100_01, KT) := by k_fill; rfl
  clear hfill
  have hk := allC hw (all1 hx)
  have F' := fr_norm _ F₀ hk
  clear F₀
  dsimp only [kstB] at F'
  w_on
  cases hst
  k_steps
  refine Stop.out ?_
  have F1 := fr_same hk F'
  with_reducible refine ty_call hb hb2 B' F1 X' N' T' laA_frames rfl rfl rfl laA_room hwl fun D h' tk ys cl F₂ N₂ hD hy hok hcl hl => ?_
  refine storeX_L F₂ N₂ fun h3 F₃ N₃ => ?_
  exact h D h3 _ ys cl F₃ N₃ hy hok hcl hl
set_option maxHeartbeats 1000000 in
theorem la_b4 {s : Shared} {m : Str → Option Value} {Q : Flow → Shared → Prop} {x : Int} {b : Nat} {tx : Tok} {oz of : Obj} {size few : Nat} {tz tf : Tok}
    (B' : Below callerA base [] h₀) (F₀ : Fr h₀ L s.heap m) (hx : m (Str.ofString "x") = some (.int x tx)) (X' : (KT w.params).In h₀) (N' : News h₀ L s.heap ((L + 2, of) :: (L + 1, oz) :: news)) (T' : Top qv (looseW qv loose0) mean mg mb h₀) 
    (hz : oz.data = .cell (some (.int (size : Int) tz))) (hf : of.data = .cell (some (.int (few : Int) tf))) (hn : ∀ p ∈ news, p.1 ≠ L + 1 ∧ p.1 ≠ L + 2)
    (hb : x.fmod 2 = (b : Int)) (hb2 : b < 2) (h1 : few < size) (h2 : size ≤ 200)
    (st : Stmt) (hst : laB[4]? = some st)
    (h : ∀ h' tk oz' of' tz' tf', Fr h₀ L h' m → News h₀ L h' ((L + 2, of') :: (L + 1, oz') :: news) → oz'.data = .cell (some (.int ((if b = 0 then size + few else size + size - few : Nat) : Int) tz')) → of'.data = .cell (some (.int ((if b = 0 then few else size : Nat) : Int) tf')) → Q .next { s with heap := h', toks := tk }) :
    wpAny (model pg w) (laA fa ca L) (exec st (laEnv fa ca L)) Q No s := by
  have hfill : (PySem.Challenge.rw_re0100_01, KT) = (PySem.Challenge.rw_re0100_01, KT) := by k_fill; rfl
  clear hfill
  have hk := all1 hx
  have F' := fr_norm _ F₀ hk
  clear F₀
  dsimp only [kstB] at F'
  w_on
  cases hst
  k_steps
  · rename_i e0 D _ lD _ F₁ N₁
    have eb : b = 0 := by omega
    refine store_cell (L + 1) oz ((L + 2, of) :: news) F₁ N₁ (fun p hp => ?_) rfl (fun p hp => ?_) hz fun h2 oz' F₂ N₂ hz' => ?_
    · simp only [List.mem_cons] at hp ⊢
      rcases hp with h | h | h <;> first | exact .inl h | exact .inr (.inl h) | exact .inr (.inr (.inl h)) | exact .inr (.inr (.inr h))
    · rcases List.mem_cons.mp hp with rfl | hp
      · k_ne
      · exact (hn p hp).1
    k_steps
    refine store_cell (L + 2) of ((L + 1, oz') :: news) F₂ N₂ (fun p hp => ?_) rfl (fun p hp => ?_) hf fun h3 of' F₃ N₃ hf' => ?_
    · simp only [List.mem_cons] at hp ⊢
      rcases hp with h | h | h <;> first | exact .inl h | exact .inr (.inl h) | exact .inr (.inr h)
    · rcases List.mem_cons.mp hp with rfl | hp
      · k_ne
      · exact (hn p hp).2
    k_steps
    exact h h3 _ oz' of' _ _ (fr_same hk F₃) N₃ (by rw [hz', if_pos eb]; push_cast; rfl) (by rw [hf', if_pos eb])
  · rename_i e0 D _ lD _ F₁ N₁
    have eb : b ≠ 0 := by omega
    refine store_cell (L + 1) oz ((L + 2, of) :: news) F₁ N₁ (fun p hp => ?_) rfl (fun p hp => ?_) hz fun h2 oz' F₂ N₂ hz' => ?_
    · simp only [List.mem_cons] at hp ⊢
      rcases hp with h | h | h <;> first | exact .inl h | exact .inr (.inl h) | exact .inr (.inr (.inl h)) | exact .inr (.inr (.inr h))
    · rcases List.mem_cons.mp hp with rfl | hp
      · k_ne
      · exact (hn p hp).1
    k_steps
    refine store_cell (L + 2) of ((L + 1, oz') :: news) F₂ N₂ (fun p hp => ?_) rfl (fun p hp => ?_) hf fun h3 of' F₃ N₃ hf' => ?_
    · simp only [List.mem_cons] at hp ⊢
      rcases hp with h | h | h <;> first | exact .inl h | exact .inr (.inl h) | exact .inr (.inr h)
    · rcases List.mem_cons.mp hp with rfl | hp
      · k_ne
      · exact (hn p hp).2
    k_steps
    exact h h3 _ oz' of' _ _ (fr_same hk F₃) N₃ (by rw [hz', if_neg eb, show (((size + size - few : Nat) : Nat) : Int) = (size : Int) + size - few by omega]) (by rw [hf', if_neg eb])
set_option maxHeartbeats 1000000 in
theorem la_b3 {s : Shared} {m : Str → Option Value} {Q : Flow → Shared → Prop} {kl : List Nat} {x : Int} {b : Nat} {tk₀ tx : Tok}
    (B' : Below callerA base [] h₀) (F₀ : Fr h₀ L s.heap m) (hw : m (Str.ofString "kept") = some (.str ⟨kl.toArray⟩ tk₀)) (hx : m (Str.ofString "x") = some (.int x tx)) (X' : (KT w.params).In h₀) (N' : News h₀ L s.heap news) (T' : Top qv (looseW qv loose0) mean mg mb h₀) 
    (hb : x.fmod 2 = (b : Int)) (hb2 : b < 2) (hkl : kl.length ≤ 250)
    (st : Stmt) (hst : laB[3]? = some st)
    (h : ∀ h' tk t, Fr h₀ L h' (upd m (Str.ofString "kept") (.str ⟨(kl ++ [if b = 0 then 102 else 105]).toArray⟩ t)) → News h₀ L h' news → Q .next { s with heap := h', toks := tk }) :
    wpAny (model pg w) (laA fa ca L) (exec st (laEnv fa ca L)) Q No s := by
  have hfill : (PySem.Challenge.rw_re0100_01, KT) = (PySem.Challenge.rw_re0100_01, KT) := by k_fill; rfl
  clear hfill
  have hk := allC hw (all1 hx)
  have F' := fr_norm _ F₀ hk
  clear F₀
  dsimp only [kstB] at F'
  w_on
  cases hst
  k_steps
  have e : (⟨kl.toArray⟩ : Str) ++ Txt.item (Str.ofString "fi") (x.fmod 2) = ⟨(kl ++ [if b = 0 then 102 else 105]).toArray⟩ := by
    rw [item_fi hb hb2]
    show Str.append _ _ = _
    simp [Str.append]
  rename Fr _ _ _ _ => F₂
  rw [e] at F₂
  exact h _ _ _ (fr_upd hk F₂) (by assumption)
end
end Mine
end
section
set_option maxRecDepth 100000
set_option linter.unusedVariables false
set_option Elab.async false
set_option pp.maxSteps 3000
namespace Mine
open PySem PySem.W PySem.Calls PyProof.Rows
section
variable {w : World} {base h₀ : Heap} {fa ca L : Addr} {mg mb : Str → Option Value} {news : List (Addr × Obj)} {mean : ExcName → Option Value}
local macro_rules | `(tactic| walk_at "call ref") => `(tactic| refine stopW ?_)
def laE (i : Nat) : Option PySem.Expr := match laB[i]? with | some s => asgE s | none => none
def laW : Option PySem.Expr := match laE 2 with | some e => argE e | none => none
theorem b3_mem {c : Nat} (h : inB1 (c : Int) = false) (hok : okS c) : (c, imgS c) ∈ b3s := by
  rcases hok with h1 | ⟨_, v, hv⟩
  · rw [h] at h1; cases h1
  · have h2 : b3s.all (fun p => decide (b3s.lookup p.1 = some p.2)) = true := by decide +kernel
    have h3 : b3s.lookup c = some v := of_decide_eq_true (List.all_eq_true.mp h2 (c, v) hv)
    unfold imgS
    rw [h, h3]
    exact hv
set_option maxHeartbeats 1000000 in
theorem la_b2e {s : Shared} {m : Str → Option Value} {Q : Value → Shared → Prop} {c : Nat} {tk : Tok} {I C D : Addr} {oI oC : Obj} {ys : List Value} {m₂ : Str → Option Value}
    (B' : Below callerA base [] h₀) (F' : Fr h₀ L s.heap m) (X' : (KT w.params).In h₀) (N' : News h₀ L s.heap ((I, oI) :: (C, oC) :: (D, LCg.lst ys) :: news)) (T' : Top qv (looseW qv loose0) mean mg mb h₀)
    (hC : LCg.NsObj oC m₂) (hk : m₂ (Str.ofString "sign") = some (.str ⟨#[c]⟩ tk)) (h1 : okS c)
    (e sc : _) (he : (match laW with | some c => eltE c | none => none) = some e) (hsc : (match laW with | some c => scE c | none => none) = some sc)
    (hq : ∀ h' tk' t, Fr h₀ L h' m → News h₀ L h' ((I, oI) :: (C, oC) :: (D, LCg.lst ys) :: news) → Q (.str ⟨(imgS c).toArray⟩ t) { s with heap := h', toks := tk' }) :
    wpAny (model pg w) (laA fa ca L) (eval e (compEnvC sc [] C (laEnv fa ca L))) Q No s := by
  have hfill : (PySem.Challenge.rw_re0100_01, KT) = (PySem.Challenge.rw_re0100_01, KT) := by k_fill; rfl
  clear hfill
  w_on
  cases he
  cases hsc
  k_steps
  refine Stop.out ?_
  with_reducible refine b1_call B' F' X' N' T' laA_frames rfl rfl rfl laA_room fun h' tk' F₁ N₁ => ?_
  cases hb : inB1 (c : Int)
  · k_steps
    refine Stop.out ?_
    with_reducible refine b3_call (b3_mem hb h1) B' F₁ X' N₁ T' laA_frames rfl rfl rfl laA_room fun h2 tk2 tv F₂ N₂ => ?_
    k_steps
    exact hq _ _ _ F₂ N₂
  · k_steps
    have e0 : imgS c = [] := by unfold imgS; rw [if_pos hb]
    rw [e0] at hq
    have e1 : (⟨([] : List Nat).toArray⟩ : Str) = Str.ofString "" := by decide
    rw [e1] at hq
    exact hq _ _ _ F₁ N₁
theorem join_imgs (f : Nat → List Nat) : ∀ (l : List Nat), Str.join ⟨#[]⟩ (l.map fun c => ⟨(f c).toArray⟩) = ⟨(l.flatMap f).toArray⟩
  | [] => rfl
  | [c] => by
    show (⟨(f c).toArray⟩ : Str) = _
    simp
  | c :: c' :: r => by
    have ih := join_imgs f (c' :: r)
    show Str.append (Str.append _ _) (Str.join ⟨#[]⟩ ((c' :: r).map fun c => ⟨(f c).toArray⟩)) = _
    rw [ih]
    simp [Str.append]
set_option maxHeartbeats 1000000 in
theorem la_b2 {s : Shared} {m : Str → Option Value} {Q : Flow → Shared → Prop} {S : Addr} {ys : List Value} {cl : List Nat}
    (B' : Below callerA base [] h₀) (F' : Fr h₀ L s.heap m) (hm : m (Str.ofString "signs") = some (.ref S)) (X' : (KT w.params).In h₀) (N' : News h₀ L s.heap news) (hS : (S, LCg.lst ys) ∈ news) (T' : Top qv (looseW qv loose0) mean mg mb h₀) 
    (hy : StrsAre ys (cl.map fun c => ⟨#[c]⟩)) (hok : ∀ c ∈ cl, okS c) (hl : cl.length ≤ 600) (hl2 : (cl.flatMap imgS).length ≤ 1000)
    (st : Stmt) (hst : laB[2]? = some st) 
    (h : ∀ h' tk t, Fr h₀ L h' (upd m (Str.ofString "word") (.str ⟨(cl.flatMap imgS).toArray⟩ t)) → News h₀ L h' news → Q .next { s with heap := h', toks := tk }) :
    wpAny (model pg w) (laA fa ca L) (exec st (laEnv fa ca L)) Q No s := by
  cases hst
  refine wpAny_Assign_Name ?_
  refine eval_join (pl := pure true) rfl (by decide) (by with_unfolding_all rfl) (by rfl) ?_
  refine LCg.ListComp_U (F₀ := F') (cl := []) (by with_unfolding_all rfl) (by decide) (by rfl) (by decide) (by rfl) ?_
  refine nameX_L (s := { s with toks := s.toks + 1 }) F' hm ?_
  have hlen : ys.length = cl.length := by rw [hy.length, List.length_map]
  refine LCg.CompSrc.ledger (s₁ := { s with toks := s.toks + 1 }) rfl F' N' hS (by show ys.toArray.size ≤ 16777216; rw [List.size_toArray, hlen]; omega) fun g => ?_
  refine comp_rest (fun i y => ∃ t, y = .str ⟨(imgS (cl.getD i 0)).toArray⟩ t) (.inr ⟨_, hS, rfl, _, rfl⟩) ?_ ?_
  · rintro i v I oI oC CC D zs m₂ hp tk hi hv hC hx F N off ne
    rw [List.getElem?_toArray] at hv
    have hil : i < cl.length := by rw [← hlen]; simpa using hi
    obtain ⟨t, rfl⟩ : ∃ t, v = .str ⟨#[cl.getD i 0]⟩ t := by
      obtain ⟨t, e⟩ := hy.get i ⟨#[cl.getD i 0]⟩ (by rw [List.getElem?_map, List.getElem?_eq_getElem hil]; simp [List.getD_eq_getElem?_getD, List.getElem?_eq_getElem hil])
      rw [hv] at e
      exact ⟨t, Option.some.inj e⟩
    have hmem : cl.getD i 0 ∈ cl := by rw [List.getD_eq_getElem?_getD, List.getElem?_eq_getElem hil]; exact List.getElem_mem _
    refine la_b2e (s := { s with heap := hp, toks := tk }) B' F X' N T' hC hx (hok _ hmem) _ _ rfl rfl fun h' tk' t F N => ?_
    exact ⟨h', tk', rfl, F, N, t, rfl⟩
  · intro zs hl' hz D hp tk F N o1
    have hz' := strs_of_get (f := fun c => ⟨(imgS c).toArray⟩) zs cl (by rw [hl', List.size_toArray, hlen]) hz
    refine ⟨D, zs.toArray, _, rfl, N.isList (.head _), hz', ?_, fun tk t => ?_⟩
    · have e : ∀ l : List Nat, ((l.map fun c => (⟨(imgS c).toArray⟩ : Str)).map (·.length)).sum = (l.flatMap imgS).length := by
        intro l
        induction l with
        | nil => rfl
        | cons a r ih => simp only [List.map_cons, List.sum_cons, List.flatMap_cons, List.length_append]; rw [ih]; rfl
      rw [e, List.length_map]; omega
    · rw [txt_join, join_imgs]
      refine storeX_L (s := { s with heap := hp, toks := tk }) F (kst_newsOf N fun p hp => .tail _ hp) fun h3 F₃ N₃ => ?_
      exact h h3 _ t F₃ N₃

set_option maxHeartbeats 1000000 in
theorem la_b5 {s : Shared} {m : Str → Option Value} {Q : Flow → Shared → Prop} {wl : List Nat} {oz of : Obj} {size few : Nat} {tw tz tf : Tok}
    (B' : Below callerA base [] h₀) (F₀ : Fr h₀ L s.heap m) (hw : m (Str.ofString "word") = some (.str ⟨wl.toArray⟩ tw)) (X' : (KT w.params).In h₀) (N' : News h₀ L s.heap ((L + 2, of) :: (L + 1, oz) :: news)) (T' : Top qv (looseW qv loose0) mean mg mb h₀) 
    (hz : oz.data = .cell (some (.int (size : Int) tz))) (hf : of.data = .cell (some (.int (few : Int) tf))) (h1 : few < size) (h2 : size ≤ 200)
    (hwl : wl = lineL size few)
    (st : Stmt) (hst : laB[5]? = some st) 
    (h : ∀ h' tk, Fr h₀ L h' m → News h₀ L h' ((L + 2, of) :: (L + 1, oz) :: news) → Q .next { s with heap := h', toks := tk }) :
    wpAny (model pg w) (laA fa ca L) (exec st (laEnv fa ca L)) Q No s := by
  have hfill : (PySem.Challenge.rw_re0100_01, KT) = (PySem.Challenge.rw_re0100_01, KT) := by k_fill; rfl
  clear hfill
  have hk := all1 hw
  have F' := fr_norm _ F₀ hk
  clear F₀
  dsimp only [kstB] at F'
  w_on
  cases hst
  k_steps
  refine Stop.out ?_
  have F1 := fr_same hk F'
  with_reducible refine ln_call B' F1 X' N' T' laA_frames rfl rfl rfl laA_room h1 (by omega) fun h' tk' t F₂ N₂ => ?_
  k_steps
  · rename_i hne
    rw [hwl] at hne
    simp at hne
  · exact h _ _ F₂ N₂
theorem slice_mid (wl : List Nat) (h : 3 ≤ wl.length) : Txt.slice ⟨wl.toArray⟩ (some 1) (some (-1)) = ⟨((wl.drop 1).take (wl.length - 2)).toArray⟩ := by
  show StrLaws.sliceText _ _ _ = _
  have hl : (⟨wl.toArray⟩ : Str).length = wl.length := List.size_toArray ..
  rw [StrLaws.sliceText_neg_hi _ _ (by decide) (by rw [hl]; omega), StrLaws.sliceText_plain ⟨by decide, by rw [hl]; omega, by rw [hl]; show _ ≤ ((wl.toArray.toList.length : Nat) : Int); simp; omega⟩, hl]
  rw [show ((-1 : Int) + (wl.length : Int) - 1).toNat = wl.length - 2 by omega]
  rfl
set_option maxHeartbeats 1000000 in
theorem la_b6 {s : Shared} {m : Str → Option Value} {Q : Flow → Shared → Prop} {wl : List Nat} {oi : Obj} {ci : Option Value} {tw : Tok}
    (B' : Below callerA base [] h₀) (F₀ : Fr h₀ L s.heap m) (hw : m (Str.ofString "word") = some (.str ⟨wl.toArray⟩ tw)) (X' : (KT w.params).In h₀) (N' : News h₀ L s.heap ((L + 3, oi) :: news)) (T' : Top qv (looseW qv loose0) mean mg mb h₀) 
    (hi : oi.data = .cell ci) (hn : ∀ p ∈ news, p.1 ≠ L + 3)
    (hwl : wl.length ≤ 200) (hwl2 : 3 ≤ wl.length)
    (st : Stmt) (hst : laB[6]? = some st)
    (h : ∀ h' tk oi' t, Fr h₀ L h' m → News h₀ L h' ((L + 3, oi') :: news) → oi'.data = .cell (some (.str ⟨((wl.drop 1).take (wl.length - 2)).toArray⟩ t)) → Q .next { s with heap := h', toks := tk }) :
    wpAny (model pg w) (laA fa ca L) (exec st (laEnv fa ca L)) Q No s := by
  have hfill : (PySem.Challenge.rw_re0100_01, KT) = (PySem.Challenge.rw_re0100_01, KT) := by k_fill; rfl
  clear hfill
  have hk := all1 hw
  have F' := fr_norm _ F₀ hk
  clear F₀
  dsimp only [kstB] at F'
  w_on
  cases hst
  k_steps
  rename Fr _ _ _ _ => F₂
  rename News _ _ _ _ => N₂
  rw [slice_mid wl hwl2]
  refine store_cell (L + 3) oi news F₂ N₂ (fun p hp => hp) rfl hn hi fun h3 oi' F₃ N₃ hi' => ?_
  exact h _ _ _ _ (fr_same hk F₃) N₃ hi'
set_option maxHeartbeats 1000000 in
theorem la_b7 {s : Shared} {m : Str → Option Value} {Q : Flow → Shared → Prop} {wl il : List Nat} {oi : Obj} {ti : Tok} {tw : Tok}
    (B' : Below callerA base [] h₀) (F₀ : Fr h₀ L s.heap m) (hw : m (Str.ofString "word") = some (.str ⟨wl.toArray⟩ tw)) (X' : (KT w.params).In h₀) (N' : News h₀ L s.heap ((L + 3, oi) :: news)) (T' : Top qv (looseW qv loose0) mean mg mb h₀) 
    (hi : oi.data = .cell (some (.str ⟨il.toArray⟩ ti))) 
    (hwl : wl.length ≤ 200) (hwl2 : 3 ≤ wl.length) (hil : il.length ≤ 200) (hil2 : 1 ≤ il.length)
    (st : Stmt) (hst : laB[7]? = some st)
    (h : ∀ T W h' tk vs ws, Fr h₀ L h' (upd (upd m (Str.ofString "whole") (.ref W)) (Str.ofString "table") (.ref T)) → News h₀ L h' ((W, PySem.W.listOf ws.toArray 0) :: (T, PySem.W.listOf vs.toArray 0) :: (L + 3, oi) :: news) → IntsAre vs (natsI (ovT il il.length)) → IntsAre ws (natsI (ovT wl wl.length)) → (∀ q ∈ (L + 3, oi) :: news, q.1 ≠ T ∧ q.1 ≠ W) → Q .next { s with heap := h', toks := tk }) :
    wpAny (model pg w) (laA fa ca L) (exec st (laEnv fa ca L)) Q No s := by
  have hfill : (PySem.Challenge.rw_re0100_01, KT) = (PySem.Challenge.rw_re0100_01, KT) := by k_fill; rfl
  clear hfill
  have hk := all1 hw
  have F' := fr_norm _ F₀ hk
  clear F₀
  dsimp only [kstB] at F'
  w_on
  cases hst
  k_steps
  refine Stop.out ?_
  have F1 := fr_same hk F'
  have hl1 : (⟨il.toArray⟩ : Str).length = il.length := List.size_toArray ..
  have hl2 : (⟨wl.toArray⟩ : Str).length = wl.length := List.size_toArray ..
  with_reducible refine ov_call B' F1 X' N' T' laA_frames rfl rfl rfl laA_room (by rw [hl1]; omega) (by rw [hl1]; omega) fun T h₂ tk₂ vs F₂ N₂ hT I₂ => ?_
  rw [hl1] at I₂
  have F₂' := fr_norm _ F₂ hk
  dsimp only [kstB] at F₂'
  clear F1 F' F₂
  k_steps
  refine Stop.out ?_
  have F₂ := fr_same hk F₂'
  with_reducible refine ov_call B' F₂ X' N₂ T' laA_frames rfl rfl rfl laA_room (by rw [hl2]; omega) (by rw [hl2]; omega) fun W h₃ tk₃ ws F₃ N₃ hW I₃ => ?_
  rw [hl2] at I₃
  clear F₂' F₂
  k_steps
  rename Fr _ _ _ _ => F₄
  rename News _ _ _ _ => N₄
  exact h T W _ _ vs ws F₄ (kst_newsOf N₄ fun p hp => .tail _ hp) I₂ I₃ (fun q hq => ⟨hT q hq, hW q (.tail _ hq)⟩)
end
end Mine
end
section
set_option maxRecDepth 100000
set_option linter.unusedVariables false
set_option Elab.async false
set_option pp.maxSteps 3000
namespace Mine
open PySem PySem.W PySem.Calls PyProof.Rows
section
variable {w : World} {base h₀ : Heap} {fa ca L : Addr} {mg mb : Str → Option Value} {news : List (Addr × Obj)} {mean : ExcName → Option Value}
set_option maxHeartbeats 1000000 in
theorem la_b8 {s : Shared} {m : Str → Option Value} {Q : Flow → Shared → Prop} {T : Addr} {vs : List Value} {tl : List Nat} {nt : Nat}
    (B' : Below callerA base [] h₀) (F₀ : Fr h₀ L s.heap m) (hm : m (Str.ofString "table") = some (.ref T)) (X' : (KT w.params).In h₀) (N₀ : News h₀ L s.heap news) (hT : (T, PySem.W.listOf vs.toArray nt) ∈ news) (T' : Top qv (looseW qv loose0) mean mg mb h₀) 
    (hI : IntsAre vs (natsI tl)) (hl : 1 ≤ tl.length) (hl2 : tl.length ≤ 300)
    (st : Stmt) (hst : laB[8]? = some st)
    (h : ∀ NM h' tk nvs, Fr h₀ L h' (upd m (Str.ofString "numbers") (.ref NM)) → News h₀ L h' ((NM, PySem.W.listOf nvs.toArray 0) :: news) → (∀ q ∈ news, q.1 ≠ NM) → IntsAre nvs (natsI [tl.getD (tl.length - 1) 0]) → Q .next { s with heap := h', toks := tk }) :
    wpAny (model pg w) (laA fa ca L) (exec st (laEnv fa ca L)) Q No s := by
  have hfill : (PySem.Challenge.rw_re0100_01, KT) = (PySem.Challenge.rw_re0100_01, KT) := by k_fill; rfl
  clear hfill
  have hk := all1 hm
  have F' := fr_norm _ F₀ hk
  have N' := news_add N₀ hT
  clear F₀ N₀
  have hll : (natsI tl).length = tl.length := List.length_map ..
  dsimp only [kstB] at F'
  w_on
  cases hst
  k_steps
  rename Fr _ _ _ _ => F₂
  rename News _ _ _ _ => N₂
  rename_i tt _ _ lD _
  have e0 : (natsI tl).getD (-1 + ((natsI tl).length : Int)).toNat 0 = ((tl.getD (tl.length - 1) 0 : Nat) : Int) := by rw [hll, show (-1 + (tl.length : Int)).toNat = tl.length - 1 by omega, natsI_getD]
  rw [e0] at N₂
  refine h _ _ _ [.int _ tt] (fr_upd hk F₂) (kst_newsOf N₂ fun p hp => ?_) (fun q hq => Nat.ne_of_lt (kst_ltOf lD.2 q hq)) (.cons _ _ .nil)
  rcases List.mem_cons.mp hp with rfl | hp
  · exact .head _
  · exact .tail _ (.tail _ hp)
def laWh : Option Stmt := laB[9]?
set_option maxHeartbeats 1000000 in
theorem la_b9t {s : Shared} {m : Str → Option Value} {Q : Bool → Shared → Prop} {NM : Addr} {nvs : List Value} {nl kl : List Nat} {nn : Nat} {tk₀ : Tok}
    (B' : Below callerA base [] h₀) (F₀ : Fr h₀ L s.heap m) (hm : m (Str.ofString "numbers") = some (.ref NM)) (hkp : m (Str.ofString "kept") = some (.str ⟨kl.toArray⟩ tk₀)) (X' : (KT w.params).In h₀) (N' : News h₀ L s.heap ((NM, PySem.W.listOf nvs.toArray nn) :: news)) (T' : Top qv (looseW qv loose0) mean mg mb h₀) 
    (hI : IntsAre nvs (natsI nl)) (hl : 1 ≤ nl.length) (hl2 : nl.length ≤ 300) (hkl : kl.length ≤ 250)
    (te : PySem.Expr) (hte : (match laWh with | some s => whT s | none => none) = some te)
    (h : ∀ tk, Q (decide (0 < nl.getD (nl.length - 1) 0 ∧ nl.length ≤ kl.length)) { s with toks := tk }) :
    wpAny (model pg w) (laA fa ca L) (PySem.isTrue te (laEnv fa ca L) (eval te (laEnv fa ca L))) Q No s := by
  have hfill : (PySem.Challenge.rw_re0100_01, KT) = (PySem.Challenge.rw_re0100_01, KT) := by k_fill; rfl
  clear hfill
  have hk := allC hm (all1 hkp)
  have F' := fr_norm _ F₀ hk
  clear F₀
  have hll : (natsI nl).length = nl.length := List.length_map ..
  have hkS : (⟨kl.toArray⟩ : Str).length = kl.length := List.size_toArray ..
  have hkS2 : (⟨kl.toArray⟩ : Str).length ≤ 250 := by omega
  have e0 : (natsI nl).getD (-1 + ((natsI nl).length : Int)).toNat 0 = ((nl.getD (nl.length - 1) 0 : Nat) : Int) := by rw [hll, show (-1 + (nl.length : Int)).toNat = nl.length - 1 by omega, natsI_getD]
  dsimp only [kstB] at F'
  w_on
  cases hte
  k_steps
  · rw [decide_eq_true ⟨by omega, by omega⟩] at h
    exact h _
  · rw [decide_eq_false (by omega)] at h
    exact h _
  · rw [decide_eq_false (by omega)] at h
    exact h _
set_option maxHeartbeats 1000000 in
theorem la_b9b {s : Shared} {m : Str → Option Value} {Q : Flow → Shared → Prop} {NM T : Addr} {nvs vs : List Value} {nl tl : List Nat} {nn nt : Nat} 
    (B' : Below callerA base [] h₀) (F₀ : Fr h₀ L s.heap m) (hm : m (Str.ofString "numbers") = some (.ref NM)) (hmt : m (Str.ofString "table") = some (.ref T)) (X' : (KT w.params).In h₀) (N' : News h₀ L s.heap ((NM, PySem.W.listOf nvs.toArray nn) :: (T, PySem.W.listOf vs.toArray nt) :: news)) (T' : Top qv (looseW qv loose0) mean mg mb h₀) 
    (hI : IntsAre nvs (natsI nl)) (hl : 1 ≤ nl.length) (hl2 : nl.length ≤ 300) (hIt : IntsAre vs (natsI tl)) (hlt : tl.length ≤ 300)
    (h0 : 0 < nl.getD (nl.length - 1) 0) (h1 : nl.getD (nl.length - 1) 0 - 1 < tl.length)
    (hap : ∀ p ∈ (T, PySem.W.listOf vs.toArray nt) :: news, p.1 ≠ NM)
    (te : List Stmt) (hte : (match laWh with | some s => whB s | none => none) = some te)
    (h : ∀ h' tk nvs', Fr h₀ L h' m → News h₀ L h' ((NM, PySem.W.listOf nvs'.toArray (nn + 1)) :: (T, PySem.W.listOf vs.toArray nt) :: news) → IntsAre nvs' (natsI (nl ++ [tl.getD (nl.getD (nl.length - 1) 0 - 1) 0])) → Q .next { s with heap := h', toks := tk }) :
    wpAny (model pg w) (laA fa ca L) (execs te (laEnv fa ca L)) Q No s := by
  have hfill : (PySem.Challenge.rw_re0100_01, KT) = (PySem.Challenge.rw_re0100_01, KT) := by k_fill; rfl
  clear hfill
  have hk := allC hm (all1 hmt)
  have F' := fr_norm _ F₀ hk
  clear F₀
  have hll : (natsI nl).length = nl.length := List.length_map ..
  have hlk : (natsI tl).length = tl.length := List.length_map ..
  have e0 : (natsI nl).getD (-1 + ((natsI nl).length : Int)).toNat 0 = ((nl.getD (nl.length - 1) 0 : Nat) : Int) := by rw [hll, show (-1 + (nl.length : Int)).toNat = nl.length - 1 by omega, natsI_getD]
  dsimp only [kstB] at F'
  w_on
  cases hte
  k_steps
  have e1 : ((natsI tl).getD ((natsI nl).getD (-1 + ((natsI nl).length : Int)).toNat 0 - 1).toNat 0) = ((tl.getD (nl.getD (nl.length - 1) 0 - 1) 0 : Nat) : Int) := by
    rw [e0, show (((nl.getD (nl.length - 1) 0 : Nat) : Int) - 1).toNat = nl.getD (nl.length - 1) 0 - 1 by omega, natsI_getD]
  rw [e1]
  refine append_K (its := nvs.toArray) (n := nn) F' N' (.head hap) ?_ (by rw [List.size_toArray, hI.length]; show _ ≤ 16777216; omega)
  intro h' F₁ N₁
  rw [push_snoc] at N₁
  k_steps
  refine h _ _ _ (fr_same hk F₁) N₁ ?_
  rw [show natsI (nl ++ [tl.getD (nl.getD (nl.length - 1) 0 - 1) 0]) = natsI nl ++ [((tl.getD (nl.getD (nl.length - 1) 0 - 1) 0 : Nat) : Int)] by simp]
  exact hI.append (.cons _ _ .nil)
/-- the numbers of the while -/
def numsF (tl : List Nat) (K : Nat) : Nat → List Nat → List Nat
  | 0, nl => nl
  | f + 1, nl => if 0 < nl.getD (nl.length - 1) 0 ∧ nl.length ≤ K then numsF tl K f (nl ++ [tl.getD (nl.getD (nl.length - 1) 0 - 1) 0]) else nl
theorem la_while {NM T : Addr} {vs : List Value} {tl kl : List Nat} {nt : Nat} {tk₀ : Tok} {m : Str → Option Value} {Q : Flow → Shared → Prop} {s₀ : Shared}
    (B' : Below callerA base [] h₀) (hm : m (Str.ofString "numbers") = some (.ref NM)) (hmt : m (Str.ofString "table") = some (.ref T)) (hkp : m (Str.ofString "kept") = some (.str ⟨kl.toArray⟩ tk₀)) (X' : (KT w.params).In h₀) (T' : Top qv (looseW qv loose0) mean mg mb h₀)
    (hkl : kl.length ≤ 250) (hIt : IntsAre vs (natsI tl)) (hlt : tl.length ≤ 300) (hb : ∀ j, tl.getD j 0 ≤ tl.length)
    (hap : ∀ p ∈ (T, PySem.W.listOf vs.toArray nt) :: news, p.1 ≠ NM)
    (te : PySem.Expr) (hte : (match laWh with | some s => whT s | none => none) = some te)
    (bo : List Stmt) (hbo : (match laWh with | some s => whB s | none => none) = some bo) :
    ∀ (f : Nat) (nl : List Nat) (nvs : List Value) (nn : Nat) (h : Heap) (tks : Nat), kl.length + 1 < nl.length + f → 1 ≤ nl.length → nl.length ≤ kl.length + 1 → (∀ k ∈ nl, k ≤ tl.length) → Fr h₀ L h m → News h₀ L h ((NM, PySem.W.listOf nvs.toArray nn) :: (T, PySem.W.listOf vs.toArray nt) :: news) → IntsAre nvs (natsI nl) →
      (∀ h' tk' nvs' nn', Fr h₀ L h' m → News h₀ L h' ((NM, PySem.W.listOf nvs'.toArray nn') :: (T, PySem.W.listOf vs.toArray nt) :: news) → IntsAre nvs' (natsI (numsF tl kl.length f nl)) → Q .next { s₀ with heap := h', toks := tk' }) →
      WhlRest pg w (laA fa ca L) No (laEnv fa ca L) te bo [] Q f { s₀ with heap := h, toks := tks }
  | 0, nl, nvs, nn, h, tks, hf, _, hle, _, _, _, _, _ => absurd hf (by omega)
  | f + 1, nl, nvs, nn, h, tks, hf, hl, hle, hk, F', N', hI, hQ => by
    refine whl_turn PassesOwn.never ?_
    refine la_b9t (s := { s₀ with heap := h, toks := tks }) B' F' hm hkp X' N' T' hI hl (by omega) hkl te hte fun tk₁ => ?_
    have hmem : nl.getD (nl.length - 1) 0 ∈ nl := by
      rw [List.getD_eq_getElem?_getD, List.getElem?_eq_getElem (by omega)]
      exact List.getElem_mem _
    by_cases hc : 0 < nl.getD (nl.length - 1) 0 ∧ nl.length ≤ kl.length
    · refine WhlIf.yes (decide_eq_true hc) ?_
      have hlast := hk _ hmem
      refine la_b9b (s := { s₀ with heap := h, toks := tk₁ }) B' F' hm hmt X' N' T' hI hl (by omega) hIt hlt hc.1 (by omega) hap bo hbo fun h' tk nvs' F₁ N₁ I₁ => ?_
      show WhlRest pg w (laA fa ca L) No (laEnv fa ca L) te bo [] Q f _
      refine la_while B' hm hmt hkp X' T' hkl hIt hlt hb hap te hte bo hbo f _ nvs' (nn + 1) h' tk (by rw [List.length_append]; simp; omega) (by simp) (by rw [List.length_append]; simp; omega) (fun k hk' => ?_) F₁ N₁ I₁ fun h'' tk'' nvs'' nn'' F₂ N₂ I₂ => hQ h'' tk'' nvs'' nn'' F₂ N₂ (by rw [numsF, if_pos hc]; exact I₂)
      rcases List.mem_append.mp hk' with hk' | hk'
      · exact hk k hk'
      · rw [List.mem_singleton.mp hk']; exact hb _
    · refine WhlIf.no (decide_eq_false hc) ?_
      exact wpAny_execs_nil (hQ h tk₁ nvs nn F' N' (by rw [numsF, if_neg hc]; exact hI))
end
end Mine
end
section
set_option maxRecDepth 100000
set_option linter.unusedVariables false
set_option Elab.async false
set_option pp.maxSteps 3000
namespace Mine
open PySem PySem.W PySem.Calls PyProof.Rows
def ifTs : Option Stmt → Option PySem.Expr | some (.If t _ _ _) => some t | _ => none
def cmpL : Option PySem.Expr → Option PySem.Expr | some (.Compare l _ _ _) => some l | _ => none
def la10 : Option PySem.Expr := match cmpL (ifTs laB[10]?) with | some e => argE e | none => none
def eltT : PySem.Expr → Option PySem.Expr | .ListComp _ [⟨_, _, [t], _⟩] _ _ => some t | _ => none
def la11 : Option PySem.Expr := laE 11
def la12 : Option PySem.Expr := match laE 12 with | some (.Subscript (.BinOp l _ _ _) _ _) => some l | _ => none
def la14 : Option PySem.Expr := cmpL (ifTs laB[14]?)
section
variable {w : World} {base h₀ : Heap} {fa ca L : Addr} {mg mb : Str → Option Value} {news : List (Addr × Obj)} {mean : ExcName → Option Value}
set_option maxHeartbeats 1000000 in
theorem la_10e {s : Shared} {m : Str → Option Value} {Q : Value → Shared → Prop} {il : List Nat} {ti : Tok} {oi : Obj} {k : Nat} {tk : Tok} {I C D : Addr} {oI oC : Obj} {ys : List Value} {m₂ : Str → Option Value}
    (B' : Below callerA base [] h₀) (F' : Fr h₀ L s.heap m) (X' : (KT w.params).In h₀) (N' : News h₀ L s.heap ((L + 3, oi) :: (I, oI) :: (C, oC) :: (D, LCg.lst ys) :: news)) (T' : Top qv (looseW qv loose0) mean mg mb h₀)
    (hi : oi.data = .cell (some (.str ⟨il.toArray⟩ ti)))
    (hC : LCg.NsObj oC m₂) (hk : m₂ (Str.ofString "k") = some (.int (k : Int) tk)) (h1 : k < il.length) (hil : il.length ≤ 250)
    (e sc : _) (he : (match la10 with | some c => eltE c | none => none) = some e) (hsc : (match la10 with | some c => scE c | none => none) = some sc)
    (hq : ∀ tk' t, Q (.str ⟨#[il.getD k 0]⟩ t) { s with toks := tk' }) :
    wpAny (model pg w) (laA fa ca L) (eval e (compEnvC sc [(Str.ofString "inner", L + 3)] C (laEnv fa ca L))) Q No s := by
  have hfill : (PySem.Challenge.rw_re0100_01, KT) = (PySem.Challenge.rw_re0100_01, KT) := by k_fill; rfl
  clear hfill
  have hS : (⟨il.toArray⟩ : Str).length = il.length := List.size_toArray ..
  have hS2 : (⟨il.toArray⟩ : Str).length ≤ 250 := by omega
  w_on
  cases he
  cases hsc
  k_steps
  rw [item_at il k h1]
  exact hq _ _
set_option maxHeartbeats 1000000 in
theorem la_11t {s : Shared} {m : Str → Option Value} {Q : Bool → Shared → Prop} {size few : Nat} {tz tf : Tok} {oz of : Obj} {k : Nat} {tk : Tok} {I C D : Addr} {oI oC : Obj} {ys : List Value} {m₂ : Str → Option Value}
    (B' : Below callerA base [] h₀) (F' : Fr h₀ L s.heap m) (X' : (KT w.params).In h₀) (N' : News h₀ L s.heap ((L + 2, of) :: (L + 1, oz) :: (I, oI) :: (C, oC) :: (D, LCg.lst ys) :: news)) (T' : Top qv (looseW qv loose0) mean mg mb h₀)
    (hz : oz.data = .cell (some (.int (size : Int) tz))) (hf : of.data = .cell (some (.int (few : Int) tf)))
    (hC : LCg.NsObj oC m₂) (hk : m₂ (Str.ofString "k") = some (.int (k : Int) tk)) (h1 : few < size) (h2 : size ≤ 200) (h3 : k < size)
    (e sc : _) (he : (match la11 with | some c => eltT c | none => none) = some e) (hsc : (match la11 with | some c => scE c | none => none) = some sc)
    (hq : ∀ h' tk', Fr h₀ L h' m → News h₀ L h' ((L + 2, of) :: (L + 1, oz) :: (I, oI) :: (C, oC) :: (D, LCg.lst ys) :: news) → Q (decide (k * few % size = 1 ∨ k * (size - few) % size = 1)) { s with heap := h', toks := tk' }) :
    wpAny (model pg w) (laA fa ca L) (PySem.isTrue e (compEnvC sc [(Str.ofString "size", L + 1), (Str.ofString "few", L + 2)] C (laEnv fa ca L)) (eval e (compEnvC sc [(Str.ofString "size", L + 1), (Str.ofString "few", L + 2)] C (laEnv fa ca L)))) Q No s := by
  have hfill : (PySem.Challenge.rw_re0100_01, KT) = (PySem.Challenge.rw_re0100_01, KT) := by k_fill; rfl
  clear hfill
  w_on
  cases he
  cases hsc
  k_steps
  rename Fr _ _ _ _ => F₂
  rename News _ _ _ _ => N₂
  have e : ([((k : Int) * (few : Int)).fmod (size : Int), ((k : Int) * ((size : Int) - (few : Int))).fmod (size : Int)].any fun x => x == 1) = decide (k * few % size = 1 ∨ k * (size - few) % size = 1) := by
    rw [show ((size : Int) - (few : Int)) = ((size - few : Nat) : Int) by omega, Int.fmod_eq_emod_of_nonneg _ (by omega), Int.fmod_eq_emod_of_nonneg _ (by omega)]
    rw [← Int.natCast_mul, ← Int.natCast_mul, ← Int.natCast_emod, ← Int.natCast_emod]
    simp only [List.any_cons, List.any_nil, Bool.or_false]
    rw [Bool.eq_iff_iff]
    simp only [Bool.or_eq_true, beq_iff_eq, decide_eq_true_eq]
    omega
  rw [e]
  exact hq _ _ F₂ (kst_newsOf N₂ fun p hp => .tail _ hp)
set_option maxHeartbeats 1000000 in
theorem la_12t {s : Shared} {m : Str → Option Value} {Q : Bool → Shared → Prop} {il : List Nat} {ti : Tok} {oi : Obj} {k : Nat} {tk : Tok} {I C D : Addr} {oI oC : Obj} {ys : List Value} {m₂ : Str → Option Value}
    (B' : Below callerA base [] h₀) (F' : Fr h₀ L s.heap m) (X' : (KT w.params).In h₀) (N' : News h₀ L s.heap ((L + 3, oi) :: (I, oI) :: (C, oC) :: (D, LCg.lst ys) :: news)) (T' : Top qv (looseW qv loose0) mean mg mb h₀)
    (hi : oi.data = .cell (some (.str ⟨il.toArray⟩ ti)))
    (hC : LCg.NsObj oC m₂) (hk : m₂ (Str.ofString "k") = some (.int (k : Int) tk)) (h1 : k < il.length) (hil : il.length ≤ 250)
    (e sc : _) (he : (match la12 with | some c => eltT c | none => none) = some e) (hsc : (match la12 with | some c => scE c | none => none) = some sc)
    (hq : ∀ tk', Q (decide (il.getD k 0 = 102)) { s with toks := tk' }) :
    wpAny (model pg w) (laA fa ca L) (PySem.isTrue e (compEnvC sc [(Str.ofString "inner", L + 3)] C (laEnv fa ca L)) (eval e (compEnvC sc [(Str.ofString "inner", L + 3)] C (laEnv fa ca L)))) Q No s := by
  have hfill : (PySem.Challenge.rw_re0100_01, KT) = (PySem.Challenge.rw_re0100_01, KT) := by k_fill; rfl
  clear hfill
  have hS : (⟨il.toArray⟩ : Str).length = il.length := List.size_toArray ..
  have hS2 : (⟨il.toArray⟩ : Str).length ≤ 250 := by omega
  w_on
  cases he
  cases hsc
  k_steps
  rw [item_at il k h1]
  have e : ((⟨#[il.getD k 0]⟩ : Str) == Str.ofString "f") = decide (il.getD k 0 = 102) := by
    have e1 : Str.ofString "f" = ⟨#[102]⟩ := by decide
    rw [e1, Bool.eq_iff_iff]
    simp
  rw [e]
  exact hq _
set_option maxHeartbeats 1000000 in
theorem la_14t {s : Shared} {m : Str → Option Value} {Q : Bool → Shared → Prop} {k : Int} {tk : Tok} {I C D : Addr} {oI oC : Obj} {ys : List Value} {m₂ : Str → Option Value}
    (B' : Below callerA base [] h₀) (F' : Fr h₀ L s.heap m) (X' : (KT w.params).In h₀) (N' : News h₀ L s.heap ((I, oI) :: (C, oC) :: (D, LCg.lst ys) :: news)) (T' : Top qv (looseW qv loose0) mean mg mb h₀)
    (hC : LCg.NsObj oC m₂) (hk : m₂ (Str.ofString "k") = some (.int k tk)) 
    (e sc : _) (he : (match la14 with | some c => eltT c | none => none) = some e) (hsc : (match la14 with | some c => scE c | none => none) = some sc)
    (hq : ∀ tk', Q false { s with toks := tk' }) :
    wpAny (model pg w) (laA fa ca L) (PySem.isTrue e (compEnvC sc [] C (laEnv fa ca L)) (eval e (compEnvC sc [] C (laEnv fa ca L)))) Q No s := by
  have hfill : (PySem.Challenge.rw_re0100_01, KT) = (PySem.Challenge.rw_re0100_01, KT) := by k_fill; rfl
  clear hfill
  w_on
  cases he
  cases hsc
  k_steps
  exact hq _

set_option maxHeartbeats 1000000 in
theorem la_11e {s : Shared} {m : Str → Option Value} {Q : Value → Shared → Prop} {k : Nat} {tk : Tok} {I C D : Addr} {oI oC : Obj} {ys : List Value} {m₂ : Str → Option Value}
    (B' : Below callerA base [] h₀) (F' : Fr h₀ L s.heap m) (X' : (KT w.params).In h₀) (N' : News h₀ L s.heap ((I, oI) :: (C, oC) :: (D, LCg.lst ys) :: news)) (T' : Top qv (looseW qv loose0) mean mg mb h₀)
    (hC : LCg.NsObj oC m₂) (hk : m₂ (Str.ofString "k") = some (.int (k : Int) tk)) 
    (e sc : _) (he : (match la11 with | some c => eltE c | none => none) = some e) (hsc : (match la11 with | some c => scE c | none => none) = some sc)
    (hq : ∀ tk' t, Q (.int (k : Int) t) { s with toks := tk' }) :
    wpAny (model pg w) (laA fa ca L) (eval e (compEnvC sc [(Str.ofString "size", L + 1), (Str.ofString "few", L + 2)] C (laEnv fa ca L))) Q No s := by
  have hfill : (PySem.Challenge.rw_re0100_01, KT) = (PySem.Challenge.rw_re0100_01, KT) := by k_fill; rfl
  clear hfill
  w_on
  cases he
  cases hsc
  k_steps
  exact hq _ _
set_option maxHeartbeats 1000000 in
theorem la_12e {s : Shared} {m : Str → Option Value} {Q : Value → Shared → Prop} {k : Nat} {tk : Tok} {I C D : Addr} {oI oC : Obj} {ys : List Value} {m₂ : Str → Option Value}
    (B' : Below callerA base [] h₀) (F' : Fr h₀ L s.heap m) (X' : (KT w.params).In h₀) (N' : News h₀ L s.heap ((I, oI) :: (C, oC) :: (D, LCg.lst ys) :: news)) (T' : Top qv (looseW qv loose0) mean mg mb h₀)
    (hC : LCg.NsObj oC m₂) (hk : m₂ (Str.ofString "k") = some (.int (k : Int) tk)) 
    (e sc : _) (he : (match la12 with | some c => eltE c | none => none) = some e) (hsc : (match la12 with | some c => scE c | none => none) = some sc)
    (hq : ∀ tk' t, Q (.int ((k + 1 : Nat) : Int) t) { s with toks := tk' }) :
    wpAny (model pg w) (laA fa ca L) (eval e (compEnvC sc [(Str.ofString "inner", L + 3)] C (laEnv fa ca L))) Q No s := by
  have hfill : (PySem.Challenge.rw_re0100_01, KT) = (PySem.Challenge.rw_re0100_01, KT) := by k_fill; rfl
  clear hfill
  w_on
  cases he
  cases hsc
  k_steps
  exact hq _ _
set_option maxHeartbeats 1000000 in
theorem la_10k {s : Shared} {m : Str → Option Value} {Q : Bool → Shared → Prop} {kl : List Nat} {a : Str} {ta tk₀ : Tok} {p1 : Pos}
    (B' : Below callerA base [] h₀) (F₀ : Fr h₀ L s.heap m) (hkp : m (Str.ofString "kept") = some (.str ⟨kl.toArray⟩ tk₀)) (X' : (KT w.params).In h₀) (N' : News h₀ L s.heap news) (T' : Top qv (looseW qv loose0) mean mg mb h₀)
    (hq : ∀ tk', Q (a != ⟨kl.toArray⟩) { s with toks := tk' }) :
    wpAny (model pg w) (laA fa ca L) (eval (.Name (Str.ofString "kept") p1) (laEnv fa ca L)) (fun b s₂ => wpAny (model pg w) (laA fa ca L) (compareOp .NotEq (.str a ta) b) (fun c s₃ => wpAny (model pg w) (laA fa ca L) (truthy c) Q No s₃) No s₂) No s := by
  have hfill : (PySem.Challenge.rw_re0100_01, KT) = (PySem.Challenge.rw_re0100_01, KT) := by k_fill; rfl
  clear hfill
  have hk := all1 hkp
  have F' := fr_norm _ F₀ hk
  clear F₀
  dsimp only [kstB] at F'
  w_on
  k_steps
  exact hq _
set_option maxHeartbeats 1000000 in
theorem la_b10 {s : Shared} {m : Str → Option Value} {Q : Flow → Shared → Prop} {NM : Addr} {nvs : List Value} {nl kl il : List Nat} {nn : Nat} {tk₀ ti : Tok} {oi : Obj}
    (B' : Below callerA base [] h₀) (F' : Fr h₀ L s.heap m) (hm : m (Str.ofString "numbers") = some (.ref NM)) (hkp : m (Str.ofString "kept") = some (.str ⟨kl.toArray⟩ tk₀)) (X' : (KT w.params).In h₀) (N' : News h₀ L s.heap news) (hN : (NM, PySem.W.listOf nvs.toArray nn) ∈ news) (hi : (L + 3, oi) ∈ news) (T' : Top qv (looseW qv loose0) mean mg mb h₀) 
    (hI : IntsAre nvs (natsI nl)) (hl : nl.length ≤ 300) (hoi : oi.data = .cell (some (.str ⟨il.toArray⟩ ti))) (hil : il.length ≤ 250) (hlt : ∀ k ∈ nl, k < il.length)
    (hres : nl.map (fun k => il.getD k 0) = kl)
    (st : Stmt) (hst : laB[10]? = some st) 
    (h : ∀ h' tk, Fr h₀ L h' m → News h₀ L h' news → Q .next { s with heap := h', toks := tk }) :
    wpAny (model pg w) (laA fa ca L) (exec st (laEnv fa ca L)) Q No s := by
  cases hst
  refine wpAny_If ?_
  refine wpAny_isTrue_Compare1 ?_
  refine eval_join (pl := pure true) rfl (by decide) (by with_unfolding_all rfl) (by rfl) ?_
  refine LCg.ListComp_U (F₀ := F') (cl := [(Str.ofString "inner", L + 3)]) (by with_unfolding_all rfl) (by decide) (by rfl) (by decide) (by rfl) ?_
  refine nameX_L (s := { s with toks := s.toks + 1 }) F' hm ?_
  have hlen : nvs.length = nl.length := by rw [hI.length, List.length_map]
  refine LCg.CompSrc.ledger (s₁ := { s with toks := s.toks + 1 }) rfl F' N' hN (by show nvs.toArray.size ≤ 16777216; rw [List.size_toArray, hlen]; omega) fun g => ?_
  refine comp_rest (fun i y => ∃ t, y = .str ⟨#[il.getD (nl.getD i 0) 0]⟩ t) (.inr ⟨_, hN, rfl, _, rfl⟩) ?_ ?_
  · rintro i v I oI oC CC D zs m₂ hp tk hi' hv hC hx F N off ne
    rw [List.getElem?_toArray] at hv
    have hil' : i < nl.length := by rw [← hlen]; simpa using hi'
    obtain ⟨t, e⟩ := hI.int_at i v hv
    rw [natsI_getD] at e
    subst e
    have hmem : nl.getD i 0 ∈ nl := by rw [List.getD_eq_getElem?_getD, List.getElem?_eq_getElem hil']; exact List.getElem_mem _
    refine la_10e (s := { s with heap := hp, toks := tk }) B' F X' (news_add N (.tail _ (.tail _ (.tail _ hi)))) T' hoi hC hx (hlt _ hmem) hil _ _ rfl rfl fun tk' t => ?_
    exact ⟨hp, tk', rfl, F, N, t, rfl⟩
  · intro zs hl' hz D hp tk F N o1
    have hz' := strs_of_get (f := fun c => ⟨#[il.getD c 0]⟩) zs nl (by rw [hl', List.size_toArray, hlen]) hz
    refine ⟨D, zs.toArray, _, rfl, N.isList (.head _), hz', ?_, fun tk t => ?_⟩
    · have e : ∀ l : List Nat, ((l.map fun c => (⟨#[il.getD c 0]⟩ : Str)).map (·.length)).sum = l.length := by
        intro l
        induction l with
        | nil => rfl
        | cons a r ih => simp only [List.map_cons, List.sum_cons, List.length_cons]; rw [ih]; show 1 + _ = _; omega
      rw [e, List.length_map]; omega
    · rw [txt_join, join_ones (fun c => il.getD c 0), hres]
      have N2 := kst_newsOf N (l' := news) fun p hp => .tail _ hp
      refine la_10k (s := { s with heap := hp, toks := tk }) B' F hkp X' N2 T' fun tk' => ?_
      rw [show ((⟨kl.toArray⟩ : Str) != ⟨kl.toArray⟩) = false by simp]
      exact wpAny_execs_nil (h hp tk' F N2)
end
end Mine
end
section
set_option maxRecDepth 100000
set_option linter.unusedVariables false
set_option Elab.async false
set_option pp.maxSteps 3000
namespace Mine
open PySem PySem.W PySem.Calls PyProof.Rows
/-- ints that stand for the numbers of a list by places -/
theorem ints_of_get : ∀ (ys : List Value) (ks : List Nat), ys.length = ks.length → (∀ (i : Nat) y, ys[i]? = some y → ∃ t, y = .int ((ks.getD i 0 : Nat) : Int) t) → IntsAre ys (natsI ks)
  | [], [], _, _ => .nil
  | [], _ :: _, h, _ => by simp at h
  | _ :: _, [], h, _ => by simp at h
  | y :: r, c :: cr, hl, h => by
    obtain ⟨t, rfl⟩ := h 0 y rfl
    exact .cons _ _ (ints_of_get r cr (by simpa using hl) fun i z hz => h (i + 1) z (by simpa using hz))
theorem getD_map (f : Nat → Nat) (l : List Nat) (j : Nat) (h : j < l.length) : (l.map f).getD j 0 = f (l.getD j 0) := by
  simp [List.getD_eq_getElem?_getD, List.getElem?_map, List.getElem?_eq_getElem h]
section
variable {w : World} {base h₀ : Heap} {fa ca L : Addr} {mg mb : Str → Option Value} {news : List (Addr × Obj)} {mean : ExcName → Option Value}
def itE1 : PySem.Expr → Option PySem.Expr | .ListComp _ [⟨_, i, _, _⟩] _ _ => some i | _ => none
def stepsL (size few : Nat) : List Nat := ((List.range (size - 1)).filter fun i => decide ((i + 1) * few % size = 1 ∨ (i + 1) * (size - few) % size = 1)).map (· + 1)
set_option maxHeartbeats 1000000 in
theorem la_11i {s : Shared} {m : Str → Option Value} {Q : Value → Shared → Prop} {size : Nat} {tz : Tok} {oz : Obj} 
    (B' : Below callerA base [] h₀) (F' : Fr h₀ L s.heap m) (X' : (KT w.params).In h₀) (N₀ : News h₀ L s.heap news) (hm : (L + 1, oz) ∈ news) (T' : Top qv (looseW qv loose0) mean mg mb h₀)
    (hs : oz.data = .cell (some (.int (size : Int) tz))) (h2 : size ≤ 300)
    (e : _) (he : (match la11 with | some c => itE1 c | none => none) = some e)
    (hq : ∀ h' tk' r t u v, IsRange h' r 1 size 1 t u v → Fr h₀ L h' m → News h₀ L h' news → Q (.ref r) { s with heap := h', toks := tk' }) :
    wpAny (model pg w) (laA fa ca L) (eval e (laEnv fa ca L)) Q No s := by
  have hfill : (PySem.Challenge.rw_re0100_01, KT) = (PySem.Challenge.rw_re0100_01, KT) := by k_fill; rfl
  clear hfill
  have N' := news_add N₀ hm
  clear N₀
  w_on
  cases he
  k_steps
  exact hq _ _ _ _ _ _ (by assumption) (by assumption) (kst_newsOf (by assumption) fun p hp => .tail _ hp)
set_option maxHeartbeats 1000000 in
theorem la_b11 {s : Shared} {m : Str → Option Value} {Q : Flow → Shared → Prop} {oz of : Obj} {size few : Nat} {tz tf : Tok}
    (B' : Below callerA base [] h₀) (F' : Fr h₀ L s.heap m) (X' : (KT w.params).In h₀) (N' : News h₀ L s.heap news) (hmz : (L + 1, oz) ∈ news) (hmf : (L + 2, of) ∈ news) (T' : Top qv (looseW qv loose0) mean mg mb h₀) 
    (hz : oz.data = .cell (some (.int (size : Int) tz))) (hf : of.data = .cell (some (.int (few : Int) tf))) (h1 : few < size) (h2 : size ≤ 200)
    (st : Stmt) (hst : laB[11]? = some st) 
    (h : ∀ D h' tk ys, Fr h₀ L h' (upd m (Str.ofString "steps") (.ref D)) → News h₀ L h' ((D, LCg.lst ys) :: news) → IntsAre ys (natsI (stepsL size few)) → Q .next { s with heap := h', toks := tk }) :
    wpAny (model pg w) (laA fa ca L) (exec st (laEnv fa ca L)) Q No s := by
  cases hst
  refine LCt.Assign_ListComp_T (F₀ := F') (cl := [(Str.ofString "size", L + 1), (Str.ofString "few", L + 2)]) (by rfl) (by with_unfolding_all rfl) (by with_unfolding_all rfl) (by decide) (by rfl) (by decide) (by rfl) (by rfl) (by rfl) ?_
  refine la_11i B' F' X' N' hmz T' hz (by omega) _ rfl fun h₁ tk₁ r t u v hr F₁ N₁ => ?_
  refine LCt.CompSrcT.range rfl F₁ N₁ hr (small_one (by omega) (by omega) (by omega) (by omega)) (n := size - 1) (by rw [rangeSize_nat]; omega) (by show size - 1 ≤ 16777216; omega) fun g => ?_
  refine comp_restT (fun i => decide ((i + 1) * few % size = 1 ∨ (i + 1) * (size - few) % size = 1)) (fun i y => ∃ t, y = .int ((i + 1 : Nat) : Int) t) trivial ?_ ?_ ?_
  · rintro i v I oI oC C D ys m₂ h tk hi ⟨tv, rfl⟩ hC hx F N off ne
    rw [show (1 : Int) + (i : Int) = ((i + 1 : Nat) : Int) by omega] at hx
    refine la_11t (s := { s with heap := h, toks := tk }) B' F X' (news_add (news_add N (.tail _ (.tail _ (.tail _ hmz)))) (.tail _ (.tail _ (.tail _ (.tail _ hmf))))) T' hz hf hC hx h1 h2 (by omega) _ _ rfl rfl fun h' tk' F N => ?_
    exact ⟨h', tk', rfl, F, kst_newsOf N fun p hp => .tail _ (.tail _ hp), rfl⟩
  · rintro i v I oI oC C D ys m₂ h tk hi _ ⟨tv, rfl⟩ hC hx F N off ne
    rw [show (1 : Int) + (i : Int) = ((i + 1 : Nat) : Int) by omega] at hx
    refine la_11e (s := { s with heap := h, toks := tk }) B' F X' N T' hC hx _ _ rfl rfl fun tk' t => ?_
    exact ⟨h, tk', rfl, F, N, t, rfl⟩
  · intro ys hl hy D hp tk F N o1
    refine h D _ _ ys F N ?_
    refine ints_of_get ys _ (by rw [hl, stepsL, List.length_map]) fun i y hi => ?_
    obtain ⟨t, e⟩ := hy i y hi
    refine ⟨t, ?_⟩
    rw [e, stepsL, getD_map]
    rw [← hl]
    exact (List.getElem?_eq_some_iff.mp hi).1

def edgeL (nl il : List Nat) : List Nat := ((List.range nl.length).filter fun i => decide (il.getD (nl.getD i 0) 0 = 102)).map fun i => nl.getD i 0 + 1
set_option maxHeartbeats 1000000 in
theorem la_b12 {s : Shared} {m : Str → Option Value} {Q : Flow → Shared → Prop} {NM : Addr} {nvs : List Value} {nl il : List Nat} {nn : Nat} {ti : Tok} {oi : Obj}
    (B' : Below callerA base [] h₀) (F' : Fr h₀ L s.heap m) (hm : m (Str.ofString "numbers") = some (.ref NM)) (X' : (KT w.params).In h₀) (N' : News h₀ L s.heap news) (hN : (NM, PySem.W.listOf nvs.toArray nn) ∈ news) (hi : (L + 3, oi) ∈ news) (T' : Top qv (looseW qv loose0) mean mg mb h₀) 
    (hI : IntsAre nvs (natsI nl)) (hl : nl.length ≤ 300) (hoi : oi.data = .cell (some (.str ⟨il.toArray⟩ ti))) (hil : il.length ≤ 250) (hlt : ∀ k ∈ nl, k < il.length)
    (st : Stmt) (hst : laB[12]? = some st) 
    (h : ∀ h' tk t, Fr h₀ L h' (upd m (Str.ofString "edge") (.int (((edgeL nl il ++ [0]).getD 0 0 : Nat) : Int) t)) → News h₀ L h' news → Q .next { s with heap := h', toks := tk }) :
    wpAny (model pg w) (laA fa ca L) (exec st (laEnv fa ca L)) Q No s := by
  cases hst
  refine wpAny_Assign_Name ?_
  refine Subscript_ ?_
  refine wpAny_BinOp ?_
  refine LCt.ListComp_T (F₀ := F') (cl := [(Str.ofString "inner", L + 3)]) (by with_unfolding_all rfl) (by decide) (by rfl) (by decide) (by rfl) ?_
  refine nameX_L F' hm ?_
  have hlen : nvs.length = nl.length := by rw [hI.length, List.length_map]
  have hsz : nvs.toArray.size = nl.length := by rw [List.size_toArray, hlen]
  refine LCt.CompSrcT.ledger rfl F' N' hN (by show nvs.toArray.size ≤ 16777216; rw [hsz]; omega) fun g => ?_
  rw [hsz]
  have hval : ∀ i v, i < nl.length → nvs.toArray[i]? = some v → ∃ t, v = .int ((nl.getD i 0 : Nat) : Int) t := by
    intro i v hi' hv
    rw [List.getElem?_toArray] at hv
    obtain ⟨t, e⟩ := hI.int_at i v hv
    rw [natsI_getD] at e
    exact ⟨t, e⟩
  refine comp_restT (fun i => decide (il.getD (nl.getD i 0) 0 = 102)) (fun i y => ∃ t, y = .int ((nl.getD i 0 + 1 : Nat) : Int) t) (.inr ⟨_, hN, rfl, _, rfl⟩) ?_ ?_ ?_
  · rintro i v I oI oC C D ys m₂ hp tk hi' hv hC hx F N off ne
    obtain ⟨t, rfl⟩ := hval i v hi' hv
    have hmem : nl.getD i 0 ∈ nl := by rw [List.getD_eq_getElem?_getD, List.getElem?_eq_getElem hi']; exact List.getElem_mem _
    refine la_12t (s := { s with heap := hp, toks := tk }) B' F X' (news_add N (.tail _ (.tail _ (.tail _ hi)))) T' hoi hC hx (hlt _ hmem) hil _ _ rfl rfl fun tk' => ?_
    exact ⟨hp, tk', rfl, F, N, rfl⟩
  · rintro i v I oI oC C D ys m₂ hp tk hi' _ hv hC hx F N off ne
    obtain ⟨t, rfl⟩ := hval i v hi' hv
    refine la_12e (s := { s with heap := hp, toks := tk }) B' F X' N T' hC hx _ _ rfl rfl fun tk' t => ?_
    exact ⟨hp, tk', rfl, F, N, t, rfl⟩
  · intro ys hl' hy D hp tk F N o1
    have hle : ((List.range nl.length).filter fun i => decide (il.getD (nl.getD i 0) 0 = 102)).length ≤ 300 := by
      have := List.length_filter_le (fun i => decide (il.getD (nl.getD i 0) 0 = 102)) (List.range nl.length)
      rw [List.length_range] at this
      omega
    have Iy : IntsAre ys (natsI (edgeL nl il)) := by
      refine ints_of_get ys _ (by rw [hl', edgeL, List.length_map]) fun i y hi => ?_
      obtain ⟨t, e⟩ := hy i y hi
      refine ⟨t, ?_⟩
      have hj : i < ((List.range nl.length).filter fun i => decide (il.getD (nl.getD i 0) 0 = 102)).length := by
        rw [← hl']
        exact (List.getElem?_eq_some_iff.mp hi).1
      rw [e, edgeL, getD_map (fun i => nl.getD i 0 + 1) _ _ hj]
    have hel : (edgeL nl il).length ≤ 300 := by rw [edgeL, List.length_map]; exact hle
    refine eval_ints (s := { s with heap := hp, toks := tk }) F N rfl (by decide) fun D2 h2 tk2 zs F2 N2 hd2 I2 => ?_
    refine add_ints (s := { s with heap := h2, toks := tk2 }) (n₁ := ys.length) F2 N2 (.tail _ (.head _)) (.head _) Iy I2 (by rw [List.length_map]; show _ + 1 ≤ _; omega) fun D3 h3 F3 N3 hd3 I3 => ?_
    refine wpAny_Constant_int ?_
    have I4 : IntsAre (ys ++ zs) (natsI (edgeL nl il ++ [0])) := by
      rw [show natsI (edgeL nl il ++ [0]) = natsI (edgeL nl il) ++ [0] by simp]
      exact I3
    have hl3 : h3.IsList D3 (ys ++ zs).toArray := N3.isList (.head _)
    have hget : (natsI (edgeL nl il ++ [0]))[0]? = some (((edgeL nl il ++ [0]).getD 0 0 : Nat) : Int) := by
      cases edgeL nl il <;> rfl
    obtain ⟨t4, e4⟩ := I4.get 0 _ hget
    refine tail_any (s := { s with heap := h3, toks := tk2 + 1 }) hl3.typeIs slot_list_getitem.lookup (wpAny_getItem_list (s := { s with heap := h3, toks := tk2 + 1 }) hl3 (by decide) (by decide) (by rw [List.getElem?_toArray]; exact e4) ?_) (by with_unfolding_all rfl)
    refine storeX_L (s := { s with heap := h3, toks := tk2 + 1 }) F3 N3 fun h5 F5 N5 => ?_
    exact h h5 _ t4 F5 (kst_newsOf N5 fun p hp => .tail _ (.tail _ (.tail _ hp)))
set_option maxHeartbeats 1000000 in
theorem la_b13 {s : Shared} {m : Str → Option Value} {Q : Flow → Shared → Prop} {NM ST WH : Addr} {nvs svs wvs : List Value} {nl sl wl : List Nat} {nn ns' nw e : Nat} {te tz : Tok} {oz : Obj} {size : Nat}
    (B' : Below callerA base [] h₀) (F₀ : Fr h₀ L s.heap m) (hm : m (Str.ofString "numbers") = some (.ref NM)) (hm2 : m (Str.ofString "steps") = some (.ref ST)) (hm3 : m (Str.ofString "whole") = some (.ref WH)) (hm4 : m (Str.ofString "edge") = some (.int (e : Int) te)) (X' : (KT w.params).In h₀) (N₀ : News h₀ L s.heap news)
    (hN : (NM, PySem.W.listOf nvs.toArray nn) ∈ news) (hS : (ST, PySem.W.listOf svs.toArray ns') ∈ news) (hW : (WH, PySem.W.listOf wvs.toArray nw) ∈ news) (hz : (L + 1, oz) ∈ news) (T' : Top qv (looseW qv loose0) mean mg mb h₀) 
    (hI : IntsAre nvs (natsI nl)) (hI2 : IntsAre svs (natsI sl)) (hI3 : IntsAre wvs (natsI wl)) (hl : 1 ≤ nl.length) (hl2 : 1 ≤ sl.length) (hl3 : 2 ≤ wl.length) (hl4 : wl.length ≤ 300) (hoz : oz.data = .cell (some (.int (size : Int) tz))) (hsz : size ≤ 200)
    (he : nl.length ≤ 300) (he2 : sl.length ≤ 300) (hw1 : nl.getD 0 0 + 2 + sl.getD 0 0 = size) (hw2 : wl.drop (wl.length - 2) = [e, 0])
    (st : Stmt) (hst : laB[13]? = some st)
    (h : ∀ h' tk, Fr h₀ L h' m → News h₀ L h' news → Q .next { s with heap := h', toks := tk }) :
    wpAny (model pg w) (laA fa ca L) (exec st (laEnv fa ca L)) Q No s := by
  have hfill : (PySem.Challenge.rw_re0100_01, KT) = (PySem.Challenge.rw_re0100_01, KT) := by k_fill; rfl
  clear hfill
  have hk := allC hm (allC hm2 (allC hm3 (all1 hm4)))
  have F' := fr_norm _ F₀ hk
  have N' := news_add (news_add (news_add (news_add N₀ hN) (.tail _ hS)) (.tail _ (.tail _ hW))) (.tail _ (.tail _ (.tail _ hz)))
  clear F₀ N₀
  have q1 : (natsI nl).length = nl.length := List.length_map ..
  have q2 : (natsI sl).length = sl.length := List.length_map ..
  have q3 : (natsI wl).length = wl.length := List.length_map ..
  dsimp only [kstB] at F'
  w_on
  cases hst
  k_steps
  · rename_i hne
    rw [show Int.toNat 0 = 0 from rfl, natsI_getD, natsI_getD] at hne
    exact absurd (show ((nl.getD 0 0 : Nat) : Int) = _ by omega) hne
  · rename Fr _ _ _ _ => F₂
    rename News _ _ _ _ => N₂
    exact h _ _ (fr_same hk F₂) (kst_newsOf N₂ fun p hp => .tail _ (.tail _ (.tail _ (.tail _ (.tail _ (.tail _ hp))))))
  · rename_i hne
    rw [q3, ← List.map_drop, hw2] at hne
    exact absurd rfl hne
set_option maxHeartbeats 1000000 in
theorem la_14k {s : Shared} {Q : Bool → Shared → Prop} {m : Str → Option Value} {D : Addr} {p1 : Pos} {n : Nat}
    (B' : Below callerA base [] h₀) (F' : Fr h₀ L s.heap m) (X' : (KT w.params).In h₀) (N' : News h₀ L s.heap ((D, PySem.W.listOf ([] : List Value).toArray n) :: news)) (T' : Top qv (looseW qv loose0) mean mg mb h₀)
    (hq : ∀ h' tk', Fr h₀ L h' m → News h₀ L h' news → Q false { s with heap := h', toks := tk' }) :
    wpAny (model pg w) (laA fa ca L) (eval (.List [] p1) (laEnv fa ca L)) (fun b s₂ => wpAny (model pg w) (laA fa ca L) (compareOp .NotEq (.ref D) b) (fun c s₃ => wpAny (model pg w) (laA fa ca L) (truthy c) Q No s₃) No s₂) No s := by
  have hfill : (PySem.Challenge.rw_re0100_01, KT) = (PySem.Challenge.rw_re0100_01, KT) := by k_fill; rfl
  clear hfill
  have hI0 : IntsAre [] [] := .nil
  w_on
  k_steps
  exact hq _ _ (by assumption) (kst_newsOf (by assumption) fun p hp => .tail _ (.tail _ hp))
def iterOf : PySem.Expr → Option PySem.Expr | .ListComp _ [⟨_, i, _, _⟩] _ _ => some i | _ => none
set_option maxHeartbeats 1000000 in
theorem la_b14 {s : Shared} {m : Str → Option Value} {Q : Flow → Shared → Prop} {T WH : Addr} {tvs wvs : List Value} {tl wl : List Int} {nt nw : Nat}
    (B' : Below callerA base [] h₀) (F' : Fr h₀ L s.heap m) (hm : m (Str.ofString "table") = some (.ref T)) (hm2 : m (Str.ofString "whole") = some (.ref WH)) (X' : (KT w.params).In h₀) (N' : News h₀ L s.heap news) (hN : (T, PySem.W.listOf tvs.toArray nt) ∈ news) (hW : (WH, PySem.W.listOf wvs.toArray nw) ∈ news) (T' : Top qv (looseW qv loose0) mean mg mb h₀) 
    (hI : IntsAre tvs tl) (hI2 : IntsAre wvs wl) (hl : tl.length ≤ 300) (hl2 : wl.length ≤ 300) 
    (st : Stmt) (hst : laB[14]? = some st) 
    (h : ∀ h' tk, Fr h₀ L h' m → News h₀ L h' news → Q .next { s with heap := h', toks := tk }) :
    wpAny (model pg w) (laA fa ca L) (exec st (laEnv fa ca L)) Q No s := by
  cases hst
  refine wpAny_If ?_
  refine wpAny_isTrue_Compare1 ?_
  refine LCt.ListComp_T (F₀ := F') (cl := []) (by with_unfolding_all rfl) (by decide) (by rfl) (by decide) (by rfl) ?_
  refine wpAny_BinOp ?_
  refine nameX_L F' hm ?_
  refine nameX_L F' hm2 ?_
  refine add_ints F' N' hN hW hI hI2 (by omega) fun D h1 F1 N1 hd I1 => ?_
  refine LCt.CompSrcT.ledger rfl F1 N1 (.head _) (by show (tvs ++ wvs).toArray.size ≤ 16777216; rw [List.size_toArray, I1.length, List.length_append]; omega) fun g => ?_
  refine comp_restT (fun i => false) (fun i y => True) (.inr ⟨_, .head _, rfl, _, rfl⟩) ?_ ?_ ?_
  · rintro i v I oI oC C DD ys m₂ hp tk hi' hv hC hx F N off ne
    rw [List.getElem?_toArray] at hv
    obtain ⟨t, rfl⟩ := I1.int_at i v hv
    refine la_14t (s := { s with heap := hp, toks := tk }) B' F X' N T' hC hx _ _ rfl rfl fun tk' => ?_
    exact ⟨hp, tk', rfl, F, N, rfl⟩
  · rintro i v I oI oC C DD ys m₂ hp tk hi' hf
    cases hf
  · intro ys hl' hy DD hp tk F N o1
    have e0 : ys = [] := by
      have : ((List.range (tvs ++ wvs).toArray.size).filter fun _ => false) = [] := by simp
      rw [this] at hl'
      exact List.eq_nil_of_length_eq_zero hl'
    subst e0
    refine la_14k (s := { s with heap := hp, toks := tk }) B' F X' N T' fun h' tk' F2 N2 => ?_
    exact wpAny_execs_nil (h h' tk' F2 (kst_newsOf N2 fun p hp => .tail _ hp))
end
end Mine
end
section
set_option maxRecDepth 100000
set_option linter.unusedVariables false
set_option Elab.async false
namespace Mine
/-- the letters as bits, the first the lowest -/
noncomputable def encL (l : List Nat) : Nat := List.rec (motive := fun _ => Nat) 0 (fun c _ ih => Nat.add (bif Nat.beq c 102 then 0 else 1) (Nat.mul 2 ih)) l
/-- the k below the bound at which the word of m bits has a border, falling -/
noncomputable def bordsB (W m : Nat) (b : Nat) : List Nat := Nat.rec (motive := fun _ => List Nat) [] (fun k ih => bif Nat.beq (Nat.mod W (Nat.pow 2 k)) (Nat.div W (Nat.pow 2 (Nat.sub m k))) then k :: ih else ih) b
def bitB (W k : Nat) : Nat := bif Nat.beq (Nat.mod (Nat.div W (Nat.pow 2 k)) 2) 0 then 102 else 105
noncomputable def lineB (size few : Nat) (n : Nat) (acc : List Nat) : List Nat := Nat.rec (motive := fun _ => List Nat → List Nat) (fun a => a) (fun k ih a => ih ((bif Nat.blt (Nat.div (Nat.mul k few) size) (Nat.div (Nat.mul (Nat.succ k) few) size) then 105 else 102) :: a)) n acc
/-- no step below k0 -/
noncomputable def noStep (size few : Nat) (k0 : Nat) : Bool := Nat.rec (motive := fun _ => Bool) true (fun k ih => bif Nat.beq (Nat.mod (Nat.mul (Nat.succ k) few) size) 1 then false else bif Nat.beq (Nat.mod (Nat.mul (Nat.succ k) (Nat.sub size few)) size) 1 then false else ih) k0
structure St where
  wl : List Nat
  kl : List Nat
  size : Nat
  few : Nat
def subB (b l : Nat) (r : List Nat) : List Nat := bif Nat.beq l (bif Nat.beq b 0 then 102 else 105) then l :: r else 102 :: 105 :: r
noncomputable def subAll (b : Nat) (l : List Nat) : List Nat := List.rec (motive := fun _ => List Nat) [] (fun c _ ih => subB b c ih) l
noncomputable def stepS (b : Nat) (s : St) : St := ⟨subAll b s.wl, s.kl ++ [bif Nat.beq b 0 then 102 else 105], bif Nat.beq b 0 then Nat.add s.size s.few else Nat.sub (Nat.add s.size s.size) s.few, bif Nat.beq b 0 then s.few else s.size⟩
noncomputable def eqL (a b : List Nat) : Bool := List.rec (motive := fun _ => List Nat → Bool) (fun b => match b with | [] => true | _ => false) (fun c _ ih b => match b with | [] => false | d :: r => bif Nat.beq c d then ih r else false) a b
def headB (l : List Nat) : Nat := match l with | [] => 0 | c :: _ => c
noncomputable def edgeB (Wi : Nat) (B : List Nat) : Nat := List.rec (motive := fun _ => Nat) 0 (fun k _ ih => bif Nat.beq (bitB Wi k) 102 then Nat.succ k else ih) B
noncomputable def goodB (s : St) : Bool :=
  let W := encL s.wl
  let n := s.size
  let Wi := Nat.mod (Nat.div W 2) (Nat.pow 2 (Nat.sub n 2))
  let B := bordsB Wi (Nat.sub n 2) (Nat.sub n 2)
  let k0 := Nat.sub (Nat.sub n 2) (headB B)
  eqL s.wl (lineB n s.few n []) && eqL (B.map (bitB Wi)) s.kl && Nat.blt 0 k0 && (Nat.beq (Nat.mod (Nat.mul k0 s.few) n) 1 || Nat.beq (Nat.mod (Nat.mul k0 (Nat.sub n s.few)) n) 1) && noStep n s.few (Nat.sub k0 1) &&
    eqL (bordsB W n n) [0] && Nat.beq (headB (bordsB (Nat.mod W (Nat.pow 2 (Nat.sub n 1))) (Nat.sub n 1) (Nat.sub n 1))) (edgeB Wi B) && Nat.ble 3 n && Nat.ble n 200 && Nat.blt s.few n
noncomputable def chk (f : Nat) (s : St) : Bool := Nat.rec (motive := fun _ => St → Bool) (fun _ => true) (fun _ ih s => bif Nat.blt 55 s.size then true else goodB (stepS 0 s) && ih (stepS 0 s) && goodB (stepS 1 s) && ih (stepS 1 s)) f s
def init : St := ⟨[102, 105], [], 2, 1⟩

noncomputable def leaves : Nat → St → List St
  | 0, s => [s]
  | m + 1, s => leaves m (stepS 0 s) ++ leaves m (stepS 1 s)
theorem chk_succ (f : Nat) (s : St) : chk (f + 1) s = (bif Nat.blt 55 s.size then true else goodB (stepS 0 s) && chk f (stepS 0 s) && goodB (stepS 1 s) && chk f (stepS 1 s)) := rfl
theorem chk_add (n : Nat) : ∀ (m : Nat) (s : St), chk m s = true → (∀ t ∈ leaves m s, chk n t = true) → chk (n + m) s = true
  | 0, s, _, h => h s (.head _)
  | m + 1, s, h1, h2 => by
    rw [show n + (m + 1) = (n + m) + 1 by omega, chk_succ]
    rw [chk_succ] at h1
    cases hb : Nat.blt 55 s.size with
    | true => rfl
    | false =>
      rw [hb] at h1
      simp only [cond_false, Bool.and_eq_true] at h1 ⊢
      obtain ⟨⟨⟨a, b⟩, c⟩, d⟩ := h1
      exact ⟨⟨⟨a, chk_add n m _ b fun t ht => h2 t (List.mem_append_left _ ht)⟩, c⟩, chk_add n m _ d fun t ht => h2 t (List.mem_append_right _ ht)⟩
theorem chk4 : chk 4 init = true := by decide +kernel
theorem lf_0 : chk 10 (stepS 0 (stepS 0 (stepS 0 (stepS 0 init)))) = true := by decide +kernel
theorem lf_1 : chk 10 (stepS 1 (stepS 0 (stepS 0 (stepS 0 init)))) = true := by decide +kernel
theorem lf_2 : chk 10 (stepS 0 (stepS 1 (stepS 0 (stepS 0 init)))) = true := by decide +kernel
theorem lf_3 : chk 10 (stepS 1 (stepS 1 (stepS 0 (stepS 0 init)))) = true := by decide +kernel
theorem lf_4 : chk 10 (stepS 0 (stepS 0 (stepS 1 (stepS 0 init)))) = true := by decide +kernel
theorem lf_5 : chk 10 (stepS 1 (stepS 0 (stepS 1 (stepS 0 init)))) = true := by decide +kernel
theorem lf_6 : chk 10 (stepS 0 (stepS 1 (stepS 1 (stepS 0 init)))) = true := by decide +kernel
theorem lf_7 : chk 10 (stepS 1 (stepS 1 (stepS 1 (stepS 0 init)))) = true := by decide +kernel
theorem lf_8 : chk 10 (stepS 0 (stepS 0 (stepS 0 (stepS 1 init)))) = true := by decide +kernel
theorem lf_9 : chk 10 (stepS 1 (stepS 0 (stepS 0 (stepS 1 init)))) = true := by decide +kernel
theorem lf_10 : chk 10 (stepS 0 (stepS 1 (stepS 0 (stepS 1 init)))) = true := by decide +kernel
theorem lf_11 : chk 10 (stepS 1 (stepS 1 (stepS 0 (stepS 1 init)))) = true := by decide +kernel
theorem lf_12 : chk 10 (stepS 0 (stepS 0 (stepS 1 (stepS 1 init)))) = true := by decide +kernel
theorem lf_13 : chk 10 (stepS 1 (stepS 0 (stepS 1 (stepS 1 init)))) = true := by decide +kernel
theorem lf_14 : chk 10 (stepS 0 (stepS 1 (stepS 1 (stepS 1 init)))) = true := by decide +kernel
theorem lf_15 : chk 10 (stepS 1 (stepS 1 (stepS 1 (stepS 1 init)))) = true := by decide +kernel
theorem chk14 : chk 14 init = true := by
  refine chk_add 10 4 init chk4 fun t ht => ?_
  simp only [leaves, List.mem_append, List.mem_singleton] at ht
  rcases ht with (((ht | ht) | (ht | ht)) | ((ht | ht) | (ht | ht))) | (((ht | ht) | (ht | ht)) | ((ht | ht) | (ht | ht))) <;> subst ht
  · exact lf_0
  · exact lf_1
  · exact lf_2
  · exact lf_3
  · exact lf_4
  · exact lf_5
  · exact lf_6
  · exact lf_7
  · exact lf_8
  · exact lf_9
  · exact lf_10
  · exact lf_11
  · exact lf_12
  · exact lf_13
  · exact lf_14
  · exact lf_15
end Mine
end
section
set_option maxRecDepth 100000
set_option linter.unusedVariables false
set_option Elab.async false
namespace Mine
theorem eqL_eq : ∀ (a b : List Nat), eqL a b = true → a = b
  | [], [], _ => rfl
  | [], _ :: _, h => by cases h
  | _ :: _, [], h => by cases h
  | c :: r, d :: t, h => by
    have h' : (bif Nat.beq c d then eqL r t else false) = true := h
    cases hb : Nat.beq c d with
    | false => rw [hb] at h'; cases h'
    | true =>
      rw [hb] at h'
      rw [Nat.eq_of_beq_eq_true hb, eqL_eq r t h']
theorem lineB_eq (size few : Nat) : ∀ (n : Nat) (acc : List Nat), lineB size few n acc = (List.range n).map (fun k => if k * few / size < (k + 1) * few / size then 105 else 102) ++ acc
  | 0, acc => rfl
  | n + 1, acc => by
    have e : lineB size few (n + 1) acc = lineB size few n ((bif Nat.blt (Nat.div (Nat.mul n few) size) (Nat.div (Nat.mul (Nat.succ n) few) size) then 105 else 102) :: acc) := rfl
    rw [e, lineB_eq size few n, List.range_succ, List.map_append, List.append_assoc]
    congr 1
    show _ = [_] ++ acc
    rw [List.singleton_append]
    congr 1
    have hb : Nat.blt (Nat.div (Nat.mul n few) size) (Nat.div (Nat.mul (Nat.succ n) few) size) = decide (n * few / size < (n + 1) * few / size) := by
      rw [Bool.eq_iff_iff, decide_eq_true_eq]
      exact Iff.of_eq Nat.blt_eq
    rw [hb]
    by_cases h : n * few / size < (n + 1) * few / size <;> simp [h]
/-- W tells the letters of the first m places of p -/
def Bits (W m : Nat) (p : List Nat) : Prop := W < 2 ^ m ∧ ∀ i, i < m → (W.testBit i = true ↔ p.getD i 0 ≠ 102)
def Binary (p : List Nat) : Prop := ∀ c ∈ p, c = 102 ∨ c = 105
theorem Binary.at {p : List Nat} (h : Binary p) {i : Nat} (hi : i < p.length) : p.getD i 0 = 102 ∨ p.getD i 0 = 105 := by
  rw [List.getD_eq_getElem?_getD, List.getElem?_eq_getElem hi]
  exact h _ (List.getElem_mem _)
theorem encL_cons (c : Nat) (r : List Nat) : encL (c :: r) = (bif Nat.beq c 102 then 0 else 1) + 2 * encL r := rfl
theorem enc_bits : ∀ (p : List Nat), Bits (encL p) p.length p
  | [] => ⟨by show 0 < 1; decide, fun i hi => absurd hi (Nat.not_lt_zero _)⟩
  | c :: r => by
    obtain ⟨h1, h2⟩ := enc_bits r
    rw [encL_cons]
    have hb : (bif Nat.beq c 102 then 0 else 1) = if c = 102 then 0 else 1 := by
      by_cases h : c = 102
      · subst h; rfl
      · rw [if_neg h]
        cases hq : Nat.beq c 102 with
        | true => exact absurd (Nat.eq_of_beq_eq_true hq) h
        | false => rfl
    rw [hb]
    refine ⟨?_, fun i hi => ?_⟩
    · rw [List.length_cons, Nat.pow_succ]
      split <;> omega
    · cases i with
      | zero =>
        rw [Nat.testBit_zero]
        show _ ↔ c ≠ 102
        by_cases h : c = 102
        · simp [h]
        · simp [h]
      | succ i =>
        rw [Nat.testBit_succ]
        have e : ((if c = 102 then 0 else 1) + 2 * encL r) / 2 = encL r := by split <;> omega
        rw [e]
        exact h2 i (by simpa using hi)
theorem Bits.at {W m : Nat} {p : List Nat} (h : Bits W m p) (hp : Binary p) (hm : m ≤ p.length) {k : Nat} (hk : k < m) : bitB W k = p.getD k 0 := by
  have e : Nat.mod (Nat.div W (Nat.pow 2 k)) 2 = (W.testBit k).toNat := by
    show W / 2 ^ k % 2 = _
    rw [Nat.testBit_eq_decide_div_mod_eq]
    have : W / 2 ^ k % 2 < 2 := Nat.mod_lt _ (by decide)
    by_cases q : W / 2 ^ k % 2 = 1
    · rw [q]; rfl
    · have : W / 2 ^ k % 2 = 0 := by omega
      rw [this]; rfl
  unfold bitB
  rw [e]
  have h2 := h.2 k hk
  have h3 := hp.at (i := k) (by omega)
  cases hb : W.testBit k with
  | true =>
    have := h2.mp hb
    rcases h3 with h3 | h3
    · exact absurd h3 this
    · rw [h3]; rfl
  | false =>
    have : ¬ p.getD k 0 ≠ 102 := fun q => by rw [h2.mpr q] at hb; cases hb
    rw [show p.getD k 0 = 102 by simpa using this]; rfl
theorem bd_iff {W m : Nat} {p : List Nat} (h : Bits W m p) (hp : Binary p) (hm : m ≤ p.length) {k : Nat} (hk : k < m) : Nat.beq (Nat.mod W (Nat.pow 2 k)) (Nat.div W (Nat.pow 2 (Nat.sub m k))) = true ↔ Bd p m k := by
  have key : ∀ i, i < k → (W.testBit i = W.testBit (m - k + i) ↔ p.getD i 0 = p.getD (m - k + i) 0) := by
    intro i hi
    have a := h.2 i (by omega)
    have b := h.2 (m - k + i) (by omega)
    rcases hp.at (i := i) (by omega) with h1 | h1 <;> rcases hp.at (i := m - k + i) (by omega) with h2 | h2 <;> rw [h1] at a ⊢ <;> rw [h2] at b ⊢
    · constructor
      · intro _; rfl
      · intro _
        cases q1 : W.testBit i <;> cases q2 : W.testBit (m - k + i) <;> simp_all
    · constructor
      · intro q; rw [q] at a; exact absurd (b.mpr (by decide)) (fun z => (a.mp z) rfl)
      · intro q; cases q
    · constructor
      · intro q; rw [← q] at b; exact absurd (a.mpr (by decide)) (fun z => (b.mp z) rfl)
      · intro q; cases q
    · constructor
      · intro _; rfl
      · intro _
        rw [a.mpr (by decide), b.mpr (by decide)]
  constructor
  · intro e
    have e' : W % 2 ^ k = W / 2 ^ (m - k) := Nat.eq_of_beq_eq_true e
    refine ⟨hk, fun i hi => (key i hi).mp ?_⟩
    have q1 : (W % 2 ^ k).testBit i = W.testBit i := by rw [Nat.testBit_mod_two_pow]; simp [hi]
    have q2 : (W / 2 ^ (m - k)).testBit i = W.testBit (i + (m - k)) := Nat.testBit_div_two_pow ..
    rw [← q1, e', q2, Nat.add_comm]
  · intro ⟨_, hb⟩
    have : W % 2 ^ k = W / 2 ^ (m - k) := by
      refine Nat.eq_of_testBit_eq fun i => ?_
      rw [Nat.testBit_mod_two_pow, Nat.testBit_div_two_pow]
      by_cases hi : i < k
      · rw [decide_eq_true hi, Bool.true_and, Nat.add_comm i]
        exact (key i hi).mpr (hb i hi)
      · rw [decide_eq_false hi, Bool.false_and]
        exact (Nat.testBit_lt_two_pow (Nat.lt_of_lt_of_le h.1 (Nat.pow_le_pow_right (by decide) (by omega)))).symm
    show Nat.beq (W % 2 ^ k) (W / 2 ^ (m - k)) = true
    rw [this]; exact Nat.beq_refl _

theorem bordsB_succ (W m b : Nat) : bordsB W m (b + 1) = bif Nat.beq (Nat.mod W (Nat.pow 2 b)) (Nat.div W (Nat.pow 2 (Nat.sub m b))) then b :: bordsB W m b else bordsB W m b := rfl
/-- the greatest border below b, and the list behind it -/
theorem bords_head {W m : Nat} {p : List Nat} (h : Bits W m p) (hp : Binary p) (hm : m ≤ p.length) : ∀ b, 0 < b → b ≤ m → ∃ c, c < b ∧ Bd p m c ∧ (∀ k, k < b → Bd p m k → k ≤ c) ∧ bordsB W m b = c :: bordsB W m c
  | 0, h0, _ => absurd h0 (Nat.lt_irrefl _)
  | b + 1, _, hb => by
    rw [bordsB_succ]
    cases hq : Nat.beq (Nat.mod W (Nat.pow 2 b)) (Nat.div W (Nat.pow 2 (Nat.sub m b))) with
    | true => exact ⟨b, by omega, (bd_iff h hp hm (by omega)).mp hq, fun k hk _ => by omega, rfl⟩
    | false =>
      have hnb : ¬ Bd p m b := fun q => by rw [(bd_iff h hp hm (by omega)).mpr q] at hq; cases hq
      have h0 : 0 < b := by
        cases b with
        | zero => exact absurd (bd_zero (by omega)) hnb
        | succ b => omega
      obtain ⟨c, h1, h2, h3, h4⟩ := bords_head h hp hm b h0 (by omega)
      refine ⟨c, by omega, h2, fun k hk hbk => ?_, h4⟩
      by_cases e : k = b
      · subst e; exact absurd hbk hnb
      · exact h3 k (by omega) hbk
theorem max_unique {p : List Nat} {n a b : Nat} (h1 : MaxBd p n a) (h2 : MaxBd p n b) : a = b := Nat.le_antisymm (h2.2 a h1.1) (h1.2 b h2.1)
theorem tab_head {W m : Nat} {p : List Nat} (h : Bits W m p) (hp : Binary p) (hm : m ≤ p.length) (h0 : 0 < m) : headB (bordsB W m m) = (ovT p m).getD (m - 1) 0 := by
  obtain ⟨c, h1, h2, h3, h4⟩ := bords_head h hp hm m h0 (Nat.le_refl _)
  rw [h4]
  have hM := ovT_max p m (m - 1) (by omega)
  rw [show m - 1 + 1 = m by omega] at hM
  exact max_unique ⟨h2, fun k hk => h3 k hk.1 hk⟩ hM
theorem tab_next {W m : Nat} {p : List Nat} (h : Bits W m p) (hp : Binary p) (hm : m ≤ p.length) {b : Nat} (h0 : 0 < b) (hb : Bd p m b) : bordsB W m b = (ovT p m).getD (b - 1) 0 :: bordsB W m ((ovT p m).getD (b - 1) 0) := by
  obtain ⟨c, h1, h2, h3, h4⟩ := bords_head h hp hm b h0 (Nat.le_of_lt hb.1)
  have hM := ovT_max p m (b - 1) (by have := hb.1; omega)
  rw [show b - 1 + 1 = b by omega] at hM
  have e : c = (ovT p m).getD (b - 1) 0 := max_unique ⟨bd_down hb h2 h1, fun k hk => h3 k hk.1 (bd_up hb hk)⟩ hM
  rw [h4, ← e]
theorem last_snoc (pre : List Nat) (b : Nat) : (pre ++ [b]).getD ((pre ++ [b]).length - 1) 0 = b := by
  rw [List.getD_eq_getElem?_getD]
  simp
theorem nums_eq {W m : Nat} {p : List Nat} (h : Bits W m p) (hp : Binary p) (hm : m ≤ p.length) (K : Nat) : ∀ (f b : Nat) (pre : List Nat), b < m → Bd p m b → (bordsB W m b).length ≤ f → pre.length + 1 + (bordsB W m b).length ≤ K + 1 → numsF (ovT p m) K f (pre ++ [b]) = pre ++ b :: bordsB W m b
  | f, 0, pre, _, _, _, _ => by
    have e : numsF (ovT p m) K f (pre ++ [0]) = pre ++ [0] := by
      cases f with
      | zero => rfl
      | succ f => rw [numsF, if_neg]; rw [last_snoc]; omega
    rw [e]; rfl
  | 0, b + 1, pre, hb, hB, hf, _ => by
    rw [tab_next h hp hm (by omega) hB] at hf
    simp at hf
  | f + 1, b + 1, pre, hb, hB, hf, hK => by
    have e := tab_next h hp hm (by omega) hB
    obtain ⟨c, h1, h2, h3, h4⟩ := bords_head h hp hm (b + 1) (by omega) (by omega)
    have hc : c = (ovT p m).getD (b + 1 - 1) 0 := by rw [e] at h4; exact (List.cons.inj h4).1.symm
    rw [← hc] at e
    rw [e] at hf hK ⊢
    rw [numsF, last_snoc, if_pos ⟨by omega, by simp at hK ⊢; omega⟩, ← hc, nums_eq h hp hm K f c (pre ++ [b + 1]) (by omega) h2 (by simpa using hf) (by simp at hK ⊢; omega)]
    simp
  termination_by f => f
theorem bords_bd {W m : Nat} {p : List Nat} (h : Bits W m p) (hp : Binary p) (hm : m ≤ p.length) : ∀ b, b ≤ m → ∀ k ∈ bordsB W m b, k < b
  | 0, _, k, hk => by cases hk
  | b + 1, hb, k, hk => by
    rw [bordsB_succ] at hk
    cases hq : Nat.beq (Nat.mod W (Nat.pow 2 b)) (Nat.div W (Nat.pow 2 (Nat.sub m b))) with
    | true =>
      rw [hq] at hk
      rcases List.mem_cons.mp hk with rfl | hk
      · omega
      · have := bords_bd h hp hm b (by omega) k hk; omega
    | false =>
      rw [hq] at hk
      have := bords_bd h hp hm b (by omega) k hk; omega
theorem edge_eq (g : Nat → Nat) (W : Nat) : ∀ (l : List Nat), (∀ k ∈ l, bitB W k = g k) → edgeB W l = (((l.filter fun k => decide (g k = 102)).map (· + 1)) ++ [0]).getD 0 0
  | [], _ => rfl
  | k :: r, h => by
    have e : edgeB W (k :: r) = bif Nat.beq (bitB W k) 102 then Nat.succ k else edgeB W r := rfl
    rw [e, h k (.head _)]
    by_cases q : g k = 102
    · rw [q]
      simp [List.filter_cons, q]
    · have hb : Nat.beq (g k) 102 = false := by
        cases hq : Nat.beq (g k) 102 with
        | true => exact absurd (Nat.eq_of_beq_eq_true hq) q
        | false => rfl
      rw [hb, List.filter_cons, if_neg (by simpa using q)]
      exact edge_eq g W r fun k hk => h k (.tail _ hk)
theorem filter_places (P : Nat → Bool) (l : List Nat) : ((List.range l.length).filter fun i => P (l.getD i 0)).map (fun i => l.getD i 0) = l.filter P := by
  have h : ∀ (l : List Nat) , (List.range l.length).map (fun i => l.getD i 0) = l := by
    intro l
    refine List.ext_getElem (by simp) fun i h1 h2 => ?_
    simp [List.getD_eq_getElem?_getD, List.getElem?_eq_getElem (by simpa using h1)]
  conv => rhs; rw [← h l]
  rw [List.filter_map]
  rfl
theorem edgeL_eq (nl il : List Nat) : edgeL nl il = (nl.filter fun k => decide (il.getD k 0 = 102)).map (· + 1) := by
  rw [edgeL, ← filter_places (fun k => decide (il.getD k 0 = 102)) nl, List.map_map]
  rfl
theorem noStep_spec (size few : Nat) : ∀ k0, noStep size few k0 = true → ∀ i, i < k0 → ¬ ((i + 1) * few % size = 1 ∨ (i + 1) * (size - few) % size = 1)
  | 0, _, i, hi => absurd hi (Nat.not_lt_zero _)
  | k0 + 1, h, i, hi => by
    have e : noStep size few (k0 + 1) = bif Nat.beq (Nat.mod (Nat.mul (Nat.succ k0) few) size) 1 then false else bif Nat.beq (Nat.mod (Nat.mul (Nat.succ k0) (Nat.sub size few)) size) 1 then false else noStep size few k0 := rfl
    rw [e] at h
    cases q1 : Nat.beq (Nat.mod (Nat.mul (Nat.succ k0) few) size) 1 with
    | true => rw [q1] at h; cases h
    | false =>
      cases q2 : Nat.beq (Nat.mod (Nat.mul (Nat.succ k0) (Nat.sub size few)) size) 1 with
      | true => rw [q1, q2] at h; cases h
      | false =>
        rw [q1, q2] at h
        by_cases e : i = k0
        · subst e
          rintro (z | z)
          · have : Nat.beq (Nat.mod (Nat.mul (Nat.succ i) few) size) 1 = true := by
              show Nat.beq ((i + 1) * few % size) 1 = true
              rw [z]; rfl
            rw [this] at q1; cases q1
          · have : Nat.beq (Nat.mod (Nat.mul (Nat.succ i) (Nat.sub size few)) size) 1 = true := by
              show Nat.beq ((i + 1) * (size - few) % size) 1 = true
              rw [z]; rfl
            rw [this] at q2; cases q2
        · exact noStep_spec size few k0 h i (by omega)
theorem filter_first (P : Nat → Bool) : ∀ (N i0 : Nat), i0 < N → P i0 = true → (∀ i, i < i0 → P i = false) → ∃ r, (List.range N).filter P = i0 :: r
  | 0, _, h, _, _ => absurd h (Nat.not_lt_zero _)
  | N + 1, i0, h, h1, h2 => by
    rw [List.range_succ, List.filter_append]
    by_cases e : i0 = N
    · subst e
      have : (List.range i0).filter P = [] := by
        rw [List.filter_eq_nil_iff]
        intro a ha
        rw [h2 a (List.mem_range.mp ha)]; simp
      rw [this]
      exact ⟨[], by simp [h1]⟩
    · obtain ⟨r, hr⟩ := filter_first P N i0 (by omega) h1 h2
      rw [hr]
      exact ⟨_, rfl⟩
end Mine
end
section
set_option maxRecDepth 100000
set_option linter.unusedVariables false
set_option Elab.async false
namespace Mine
abbrev innerL (wl : List Nat) : List Nat := (wl.drop 1).take (wl.length - 2)
abbrev numsL (wl kl : List Nat) : List Nat := numsF (ovT (innerL wl) (innerL wl).length) kl.length (kl.length + 1) [(ovT (innerL wl) (innerL wl).length).getD ((innerL wl).length - 1) 0]
structure Good (s : St) : Prop where
  line : s.wl = lineL s.size s.few
  len : s.wl.length = s.size
  s3 : 3 ≤ s.size
  s200 : s.size ≤ 200
  few : s.few < s.size
  kept : (numsL s.wl s.kl).map (fun k => (innerL s.wl).getD k 0) = s.kl
  lt : ∀ k ∈ numsL s.wl s.kl, k < (innerL s.wl).length
  ne : 1 ≤ (numsL s.wl s.kl).length
  steps : 1 ≤ (stepsL s.size s.few).length
  sum : (numsL s.wl s.kl).getD 0 0 + 2 + (stepsL s.size s.few).getD 0 0 = s.size
  ends : (ovT s.wl s.wl.length).drop ((ovT s.wl s.wl.length).length - 2) = [(edgeL (numsL s.wl s.kl) (innerL s.wl) ++ [0]).getD 0 0, 0]
theorem beq_t {a b : Nat} (h : Nat.beq a b = true) : a = b := Nat.eq_of_beq_eq_true h
theorem line_len (size few : Nat) : (lineL size few).length = size := by rw [lineL, List.length_map, List.length_range]
theorem line_bin (size few : Nat) : Binary (lineL size few) := by
  intro c hc
  obtain ⟨k, _, rfl⟩ := List.mem_map.mp hc
  by_cases h : k * few / size < (k + 1) * few / size <;> simp [h]
theorem good_spec (s : St) (h : goodB s = true) : Good s := by
  obtain ⟨wl, kl, n, few⟩ := s
  have h' := h
  unfold goodB at h'
  simp only [Bool.and_eq_true] at h'
  obtain ⟨⟨⟨⟨⟨⟨⟨⟨⟨a1, a2⟩, a3⟩, a4⟩, a5⟩, a6⟩, a7⟩, a8⟩, a9⟩, a10⟩ := h'
  have e1 : wl = lineL n few := by
    rw [eqL_eq _ _ a1, lineB_eq, List.append_nil]; rfl
  have hlen : wl.length = n := by rw [e1, line_len]
  have hbin : Binary wl := by rw [e1]; exact line_bin n few
  have h3 : 3 ≤ n := Nat.le_of_ble_eq_true a8
  have h200 : n ≤ 200 := Nat.le_of_ble_eq_true a9
  have hfew : few < n := by rw [← Nat.blt_eq]; exact a10
  have hW := enc_bits wl
  rw [hlen] at hW
  -- the word without its first and its last letter
  have hilen : (innerL wl).length = n - 2 := by
    rw [List.length_take, List.length_drop, hlen]; omega
  have hibin : Binary (innerL wl) := fun c hc => hbin c (List.mem_of_mem_drop (List.mem_of_mem_take hc))
  have higet : ∀ i, i < n - 2 → (innerL wl).getD i 0 = wl.getD (i + 1) 0 := by
    intro i hi
    rw [List.getD_eq_getElem?_getD, List.getElem?_take, if_pos (by rw [hlen]; exact hi), List.getElem?_drop, ← List.getD_eq_getElem?_getD, Nat.add_comm]
  have hWi : Bits (Nat.mod (Nat.div (encL wl) 2) (Nat.pow 2 (Nat.sub n 2))) (n - 2) (innerL wl) := by
    refine ⟨Nat.mod_lt _ (Nat.pow_pos (by decide)), fun i hi => ?_⟩
    have e : (encL wl / 2 % 2 ^ (n - 2)).testBit i = (encL wl).testBit (i + 1) := by
      rw [Nat.testBit_mod_two_pow, decide_eq_true hi, Bool.true_and, Nat.testBit_succ]
    show (encL wl / 2 % 2 ^ (n - 2)).testBit i = true ↔ _
    rw [e, higet i hi]
    exact hW.2 (i + 1) (by omega)
  have hW1 : Bits (Nat.mod (encL wl) (Nat.pow 2 (Nat.sub n 1))) (n - 1) wl := by
    refine ⟨Nat.mod_lt _ (Nat.pow_pos (by decide)), fun i hi => ?_⟩
    have e : (encL wl % 2 ^ (n - 1)).testBit i = (encL wl).testBit i := by
      rw [Nat.testBit_mod_two_pow, decide_eq_true hi, Bool.true_and]
    show (encL wl % 2 ^ (n - 1)).testBit i = true ↔ _
    rw [e]
    exact hW.2 i (by omega)
  generalize hWg : Nat.mod (Nat.div (encL wl) 2) (Nat.pow 2 (Nat.sub n 2)) = Wi at a2 a3 a4 a5 a7 hWi
  change eqL ((bordsB Wi (n - 2) (n - 2)).map (bitB Wi)) kl = true at a2
  have hB := bords_bd hWi hibin (by omega) (n - 2) (Nat.le_refl _)
  obtain ⟨c, c1, c2, c3, c4⟩ := bords_head hWi hibin (by omega) (n - 2) (by omega) (Nat.le_refl _)
  have hkl : (bordsB Wi (n - 2) (n - 2)).map (fun k => (innerL wl).getD k 0) = kl := by
    rw [← eqL_eq _ _ a2]
    refine List.map_congr_left fun k hk => ?_
    exact (hWi.at hibin (by omega) (hB k hk)).symm
  have htl : (ovT (innerL wl) (n - 2)).getD (n - 2 - 1) 0 = c := by
    rw [← tab_head hWi hibin (by omega) (by omega), c4]; rfl
  have hkl2 : kl.length = (bordsB Wi (n - 2) (n - 2)).length := by rw [← hkl, List.length_map]
  have hn : numsL wl kl = bordsB Wi (n - 2) (n - 2) := by
    unfold numsL
    rw [hilen, htl]
    have := nums_eq hWi hibin (by omega) kl.length (kl.length + 1) c [] c1 c2 (by rw [hkl2, c4]; simp; omega) (by rw [hkl2, c4]; simp; omega)
    rw [List.nil_append, List.nil_append] at this
    rw [this, c4]
  have hh : headB (bordsB Wi (n - 2) (n - 2)) = c := by rw [c4]; rfl
  have hk0 : Nat.sub (Nat.sub n 2) (headB (bordsB Wi (Nat.sub n 2) (Nat.sub n 2))) = n - 2 - c := by
    show n - 2 - headB (bordsB Wi (n - 2) (n - 2)) = _
    rw [hh]
  rw [hk0] at a3 a4 a5
  have k0 : 0 < n - 2 - c := by rw [← Nat.blt_eq]; exact a3
  obtain ⟨r, hr⟩ := filter_first (fun i => decide ((i + 1) * few % n = 1 ∨ (i + 1) * (n - few) % n = 1)) (n - 1) (n - 2 - c - 1) (by omega) (by
      rw [decide_eq_true_eq, show n - 2 - c - 1 + 1 = n - 2 - c by omega]
      rw [Bool.or_eq_true] at a4
      rcases a4 with a4 | a4
      · exact .inl (beq_t a4)
      · exact .inr (beq_t a4)) (fun i hi => decide_eq_false (noStep_spec n few _ a5 i hi))
  have hst : stepsL n few = (n - 2 - c) :: r.map (· + 1) := by
    rw [stepsL, hr, List.map_cons, show n - 2 - c - 1 + 1 = n - 2 - c by omega]
  refine ⟨e1, hlen, h3, h200, hfew, by show (numsL wl kl).map _ = kl; rw [hn]; exact hkl, ?_, ?_, ?_, ?_, ?_⟩
  · intro k hk
    rw [show numsL wl kl = _ from hn] at hk
    rw [show (innerL wl).length = n - 2 from hilen]
    exact hB k hk
  · show 1 ≤ (numsL wl kl).length
    rw [hn, c4]; simp
  · show 1 ≤ (stepsL n few).length
    rw [hst]; simp
  · show (numsL wl kl).getD 0 0 + 2 + (stepsL n few).getD 0 0 = n
    rw [hn, c4, hst]
    show c + 2 + (n - 2 - c) = n
    omega
  · show (ovT wl wl.length).drop ((ovT wl wl.length).length - 2) = [(edgeL (numsL wl kl) (innerL wl) ++ [0]).getD 0 0, 0]
    rw [hn, edgeL_eq, ← edge_eq (fun k => (innerL wl).getD k 0) Wi _ (fun k hk => hWi.at hibin (by omega) (hB k hk)), ovT_length, hlen]
    have z1 : (ovT wl n).getD (n - 1) 0 = 0 := by
      rw [← tab_head hW hbin (by omega) (by omega), eqL_eq _ _ a6]; rfl
    have z2 : (ovT wl n).getD (n - 2) 0 = edgeB Wi (bordsB Wi (n - 2) (n - 2)) := by
      have q := tab_head hW1 hbin (by omega) (by omega)
      have q2 : headB (bordsB (Nat.mod (encL wl) (Nat.pow 2 (Nat.sub n 1))) (n - 1) (n - 1)) = edgeB Wi (bordsB Wi (n - 2) (n - 2)) := beq_t a7
      rw [← q2, q, show n - 1 - 1 = n - 2 by omega]
      obtain ⟨k, rfl⟩ : ∃ k, n = k + 1 := ⟨n - 1, by omega⟩
      rw [show k + 1 - 1 = k by omega, ovT_prefix wl k (k + 1 - 2) (by omega)]
    have hl : (ovT wl n).length = n := ovT_length wl n
    refine List.ext_getElem (by rw [List.length_drop, hl]; simp; omega) fun i i1 i2 => ?_
    rw [List.getElem_drop]
    have hi2 : i < 2 := by simpa using i2
    have hg : ∀ j (hj : j < (ovT wl n).length), (ovT wl n)[j] = (ovT wl n).getD j 0 := by
      intro j hj
      rw [List.getD_eq_getElem?_getD, List.getElem?_eq_getElem hj]; rfl
    rw [hg]
    obtain rfl | rfl : i = 0 ∨ i = 1 := by omega
    · exact z2
    · rw [show n - 2 + 1 = n - 1 by omega]; exact z1
theorem subAll_eq (b : Nat) (hb : b < 2) : ∀ l : List Nat, subAll b l = l.flatMap (subL b)
  | [] => rfl
  | c :: r => by
    have e : subAll b (c :: r) = subB b c (subAll b r) := rfl
    rw [e, subAll_eq b hb r, List.flatMap_cons]
    have hq : (bif Nat.beq b 0 then 102 else 105) = (if b = 0 then 102 else 105) := by
      obtain rfl | rfl : b = 0 ∨ b = 1 := by omega
      · rfl
      · rfl
    unfold subB subL
    rw [hq]
    by_cases h : c = if b = 0 then 102 else 105
    · rw [if_pos h, ← h]
      rw [show Nat.beq c c = true from Nat.beq_refl c]; rfl
    · rw [if_neg h]
      have : Nat.beq c (if b = 0 then 102 else 105) = false := by
        cases q : Nat.beq c (if b = 0 then 102 else 105) with
        | true => exact absurd (beq_t q) h
        | false => rfl
      rw [this]; rfl
end Mine
end
section
set_option maxRecDepth 100000
set_option linter.unusedVariables false
set_option Elab.async false
set_option pp.maxSteps 3000
namespace Mine
open PySem PySem.W PySem.Calls PyProof.Rows
section
variable {w : World} {base h₀ : Heap} {fa ca L : Addr} {mg mb : Str → Option Value} {news : List (Addr × Obj)} {mean : ExcName → Option Value}
theorem la_b9 {NM T : Addr} {nvs vs : List Value} {tl kl : List Nat} {nt nn t0 : Nat} {tk₀ : Tok} {m : Str → Option Value} {Q : Flow → Shared → Prop} {s : Shared}
    (B' : Below callerA base [] h₀) (F' : Fr h₀ L s.heap m) (hm : m (Str.ofString "numbers") = some (.ref NM)) (hmt : m (Str.ofString "table") = some (.ref T)) (hkp : m (Str.ofString "kept") = some (.str ⟨kl.toArray⟩ tk₀)) (X' : (KT w.params).In h₀) (N' : News h₀ L s.heap ((NM, PySem.W.listOf nvs.toArray nn) :: (T, PySem.W.listOf vs.toArray nt) :: news)) (T' : Top qv (looseW qv loose0) mean mg mb h₀)
    (hkl : kl.length ≤ 250) (hI : IntsAre nvs (natsI [t0])) (hIt : IntsAre vs (natsI tl)) (hlt : tl.length ≤ 300) (hb : ∀ j, tl.getD j 0 ≤ tl.length) (h0 : t0 ≤ tl.length)
    (hap : ∀ p ∈ (T, PySem.W.listOf vs.toArray nt) :: news, p.1 ≠ NM)
    (st : Stmt) (hst : laB[9]? = some st)
    (h : ∀ h' tk' nvs' nn', Fr h₀ L h' m → News h₀ L h' ((NM, PySem.W.listOf nvs'.toArray nn') :: (T, PySem.W.listOf vs.toArray nt) :: news) → IntsAre nvs' (natsI (numsF tl kl.length (kl.length + 1) [t0])) → Q .next { s with heap := h', toks := tk' }) :
    wpAny (model pg w) (laA fa ca L) (exec st (laEnv fa ca L)) Q No s := by
  cases hst
  refine whl_start (kl.length + 1) ?_
  exact la_while (s₀ := s) B' hm hmt hkp X' T' hkl hIt hlt hb hap _ rfl _ rfl (kl.length + 1) [t0] nvs nn s.heap s.toks (by simp) (by simp) (by simp) (fun k hk => by rw [List.mem_singleton.mp hk]; exact h0) F' N' hI h
theorem ovT_getD_le (p : List Nat) (n j : Nat) : (ovT p n).getD j 0 ≤ n := by
  by_cases h : j < n
  · have := ovT_le p n j h; omega
  · rw [List.getD_eq_getElem?_getD, List.getElem?_eq_none (by rw [ovT_length]; omega)]
    exact Nat.zero_le _
/-- what holds of the pure state between the turns -/
structure StOk (f : Nat) (st : St) : Prop where
  c : chk f st = true
  len : st.wl.length = st.size
  few : st.few < st.size
  s : st.size ≤ 200
  k : st.kl.length + f ≤ 14
theorem StOk.step {f : Nat} {st : St} (h : StOk (f + 1) st) (h55 : ¬ 55 < st.size) {b : Nat} (hb : b < 2) : Good (stepS b st) ∧ StOk f (stepS b st) := by
  have hc := h.c
  rw [chk_succ, show Nat.blt 55 st.size = false by
    cases q : Nat.blt 55 st.size with
    | true => exact absurd (by rw [← Nat.blt_eq]; exact q) h55
    | false => rfl] at hc
  simp only [cond_false, Bool.and_eq_true] at hc
  obtain ⟨⟨⟨a, b'⟩, c⟩, d⟩ := hc
  have G : Good (stepS b st) ∧ chk f (stepS b st) = true := by
    obtain rfl | rfl : b = 0 ∨ b = 1 := by omega
    · exact ⟨good_spec _ a, b'⟩
    · exact ⟨good_spec _ c, d⟩
  refine ⟨G.1, G.2, G.1.len, G.1.few, G.1.s200, ?_⟩
  have : (stepS b st).kl.length = st.kl.length + 1 := by
    show (st.kl ++ [_]).length = _
    simp
  have := h.k
  omega
abbrev cells3 (L : Addr) (oi of oz : Obj) : List (Addr × Obj) := [(L + 3, oi), (L + 2, of), (L + 1, oz)]
structure Cells (oi of oz : Obj) (st : St) : Prop where
  i : ∃ ci, oi.data = .cell ci
  f : ∃ t, of.data = .cell (some (.int (st.few : Int) t))
  z : ∃ t, oz.data = .cell (some (.int (st.size : Int) t))
set_option maxHeartbeats 2000000 in
theorem la_turn {s : Shared} {m : Str → Option Value} {Q : Flow → Shared → Prop} {st : St} {f : Nat} {x : Int} {tx tw tk₀ : Tok} {oi of oz : Obj} {S0 S1 S2 S3 S4 S5 S6 S7 S8 S9 S10 S11 S12 S13 S14 : Stmt}
    (B' : Below callerA base [] h₀) (F₀ : Fr h₀ L s.heap m) (X' : (KT w.params).In h₀) (N₀ : News h₀ L s.heap ((L + 3, oi) :: (L + 2, of) :: (L + 1, oz) :: news)) (T' : Top qv (looseW qv loose0) mean mg mb h₀)
    (hx : m (Str.ofString "x") = some (.int x tx)) (hw : m (Str.ofString "word") = some (.str ⟨st.wl.toArray⟩ tw)) (hk : m (Str.ofString "kept") = some (.str ⟨st.kl.toArray⟩ tk₀))
    (hc : Cells oi of oz st) (hn : ∀ p ∈ news, p.1 ≠ L + 1 ∧ p.1 ≠ L + 2 ∧ p.1 ≠ L + 3) (hs : StOk (f + 1) st)
    (e0 : laB[0]? = some S0) (e1 : laB[1]? = some S1) (e2 : laB[2]? = some S2) (e3 : laB[3]? = some S3) (e4 : laB[4]? = some S4) (e5 : laB[5]? = some S5) (e6 : laB[6]? = some S6) (e7 : laB[7]? = some S7) (e8 : laB[8]? = some S8) (e9 : laB[9]? = some S9) (e10 : laB[10]? = some S10) (e11 : laB[11]? = some S11) (e12 : laB[12]? = some S12) (e13 : laB[13]? = some S13) (e14 : laB[14]? = some S14)
    (hbrk : ∀ tk, Q .brk { s with toks := tk })
    (hnext : ∀ h' tk m' oi' of' oz' st' tw' tk', Fr h₀ L h' m' → News h₀ L h' ((L + 3, oi') :: (L + 2, of') :: (L + 1, oz') :: news) → m' (Str.ofString "word") = some (.str ⟨st'.wl.toArray⟩ tw') → m' (Str.ofString "kept") = some (.str ⟨st'.kl.toArray⟩ tk') → Cells oi' of' oz' st' → StOk f st' → Q .next { s with heap := h', toks := tk }) :
    wpAny (model pg w) (laA fa ca L) (execs [S0, S1, S2, S3, S4, S5, S6, S7, S8, S9, S10, S11, S12, S13, S14] (laEnv fa ca L)) Q No s := by
  obtain ⟨⟨ci, hci⟩, ⟨tf, hcf⟩, ⟨tz, hcz⟩⟩ := hc
  refine wpAny_execs_cons (la_b0 (few := st.few) B' F₀ X' N₀ T' hcz hcf hci S0 e0 fun tk₁ => ?_)
  by_cases h55 : 55 < st.size
  · rw [if_pos h55]
    exact hbrk _
  rw [if_neg h55]
  show wpAny _ _ _ _ _ _
  obtain ⟨b, hb2, hb⟩ : ∃ b : Nat, b < 2 ∧ x.fmod 2 = (b : Int) := by
    have h1 := Int.fmod_lt_of_pos x (show (0 : Int) < 2 by decide)
    have h2 := Int.fmod_nonneg_of_pos x (show (0 : Int) < 2 by decide)
    exact ⟨(x.fmod 2).toNat, by omega, by omega⟩
  obtain ⟨G, hs'⟩ := hs.step h55 hb2
  have hlw := hs.len
  have hwl2 : (stepS b st).wl = st.wl.flatMap (subL b) := subAll_eq b hb2 _
  have hkl2 : (stepS b st).kl = st.kl ++ [if b = 0 then 102 else 105] := by
    show st.kl ++ [bif Nat.beq b 0 then 102 else 105] = _
    obtain rfl | rfl : b = 0 ∨ b = 1 := by omega
    · rfl
    · rfl
  have hsz2 : (stepS b st).size = if b = 0 then st.size + st.few else st.size + st.size - st.few := by
    obtain rfl | rfl : b = 0 ∨ b = 1 := by omega
    · rfl
    · rfl
  have hfw2 : (stepS b st).few = if b = 0 then st.few else st.size := by
    obtain rfl | rfl : b = 0 ∨ b = 1 := by omega
    · rfl
    · rfl
  generalize stepS b st = st' at G hs' hwl2 hkl2 hsz2 hfw2
  have hk14 := hs'.k
  have hk14' := hs.k
  -- signs
  refine wpAny_execs_cons (la_b1 (s := { s with toks := tk₁ }) B' F₀ hw hx X' N₀ T' hb hb2 (by omega) S1 e1 fun D h₂ tk₂ ys cl F₂ N₂ hy hok hcl hcll => ?_)
  show wpAny _ _ _ _ _ _
  -- the word anew
  have hcl' : cl.flatMap imgS = st'.wl := by rw [hcl, hwl2]
  refine wpAny_execs_cons (la_b2 (s := { s with heap := h₂, toks := tk₂ }) (ys := ys) (cl := cl) B' F₂ (upd_at _ _ _) X' N₂ (.head _) T' hy hok hcll (by rw [hcl']; have := G.len; have := G.s200; omega) S2 e2 fun h₃ tk₃ tw₃ F₃ N₃ => ?_)
  show wpAny _ _ _ _ _ _
  rw [hcl'] at F₃
  have N₃' := kst_newsOf N₃ (l' := (L + 3, oi) :: (L + 2, of) :: (L + 1, oz) :: news) fun p hp => .tail _ hp
  -- kept
  refine wpAny_execs_cons (la_b3 (s := { s with heap := h₃, toks := tk₃ }) (kl := st.kl) (x := x) B' F₃ (upd_ne (upd_ne hk (by decide)) (by decide)) (upd_ne (upd_ne hx (by decide)) (by decide)) X' N₃' T' hb hb2 (by omega) S3 e3 fun h₄ tk₄ tk5 F₄ N₄ => ?_)
  show wpAny _ _ _ _ _ _
  rw [← hkl2] at F₄
  -- size, few
  refine wpAny_execs_cons (la_b4 (s := { s with heap := h₄, toks := tk₄ }) (x := x) (news := (L + 3, oi) :: news) B' F₄ (upd_ne (upd_ne (upd_ne hx (by decide)) (by decide)) (by decide)) X' (kst_newsOf N₄ fun p hp => ?_) T' hcz hcf (fun p hp => ?_) hb hb2 hs.few hs.s S4 e4 fun h₅ tk₅ oz' of' tz' tf' F₅ N₅ hcz' hcf' => ?_)
  · simp only [List.mem_cons] at hp ⊢
    rcases hp with h | h | h | h
    · exact .inr (.inl h)
    · exact .inr (.inr (.inl h))
    · exact .inl h
    · exact .inr (.inr (.inr h))
  · rcases List.mem_cons.mp hp with rfl | hp
    · exact ⟨by k_ne, by k_ne⟩
    · exact ⟨(hn p hp).1, (hn p hp).2.1⟩
  show wpAny _ _ _ _ _ _
  rw [← hsz2] at hcz'
  rw [← hfw2] at hcf'
  have hw5 : upd (upd (upd m (Str.ofString "signs") (.ref D)) (Str.ofString "word") (.str ⟨st'.wl.toArray⟩ tw₃)) (Str.ofString "kept") (.str ⟨st'.kl.toArray⟩ tk5) (Str.ofString "word") = some (.str ⟨st'.wl.toArray⟩ tw₃) := upd_ne (upd_at _ _ _) (by decide)
  have hk5 : upd (upd (upd m (Str.ofString "signs") (.ref D)) (Str.ofString "word") (.str ⟨st'.wl.toArray⟩ tw₃)) (Str.ofString "kept") (.str ⟨st'.kl.toArray⟩ tk5) (Str.ofString "kept") = some (.str ⟨st'.kl.toArray⟩ tk5) := upd_at _ _ _
  generalize upd (upd (upd m (Str.ofString "signs") (.ref D)) (Str.ofString "word") (.str ⟨st'.wl.toArray⟩ tw₃)) (Str.ofString "kept") (.str ⟨st'.kl.toArray⟩ tk5) = m5 at F₅ hw5 hk5
  -- the line
  refine wpAny_execs_cons (la_b5 (s := { s with heap := h₅, toks := tk₅ }) B' F₅ hw5 X' N₅ T' hcz' hcf' G.few G.s200 G.line S5 e5 fun h₆ tk₆ F₆ N₆ => ?_)
  show wpAny _ _ _ _ _ _
  have hlen' := G.len
  have h3' := G.s3
  have h200' := G.s200
  -- inner
  refine wpAny_execs_cons (la_b6 (s := { s with heap := h₆, toks := tk₆ }) (news := (L + 2, of') :: (L + 1, oz') :: news) B' F₆ hw5 X' (kst_newsOf N₆ fun p hp => ?_) T' hci (fun p hp => ?_) (by omega) (by omega) S6 e6 fun h₇ tk₇ oi' ti F₇ N₇ hci' => ?_)
  · simp only [List.mem_cons] at hp ⊢
    rcases hp with h | h | h | h
    · exact .inr (.inr (.inl h))
    · exact .inl h
    · exact .inr (.inl h)
    · exact .inr (.inr (.inr h))
  · rcases List.mem_cons.mp hp with rfl | hp
    · k_ne
    · rcases List.mem_cons.mp hp with rfl | hp
      · k_ne
      · exact (hn p hp).2.2
  show wpAny _ _ _ _ _ _
  have hil : (innerL st'.wl).length = st'.size - 2 := by
    rw [List.length_take, List.length_drop]; omega
  -- the tables
  refine wpAny_execs_cons (la_b7 (s := { s with heap := h₇, toks := tk₇ }) (il := innerL st'.wl) B' F₇ hw5 X' N₇ T' hci' (by omega) (by omega) (by omega) (by omega) S7 e7 fun T W h₈ tk₈ vs ws F₈ N₈ I₈ J₈ hq => ?_)
  show wpAny _ _ _ _ _ _
  have hw8 : upd (upd m5 (Str.ofString "whole") (.ref W)) (Str.ofString "table") (.ref T) (Str.ofString "whole") = some (.ref W) := upd_ne (upd_at _ _ _) (by decide)
  have hw8w : upd (upd m5 (Str.ofString "whole") (.ref W)) (Str.ofString "table") (.ref T) (Str.ofString "word") = _ := upd_ne (upd_ne hw5 (by decide)) (by decide)
  have ht8 : upd (upd m5 (Str.ofString "whole") (.ref W)) (Str.ofString "table") (.ref T) (Str.ofString "table") = some (.ref T) := upd_at _ _ _
  have hk8 : upd (upd m5 (Str.ofString "whole") (.ref W)) (Str.ofString "table") (.ref T) (Str.ofString "kept") = some (.str ⟨st'.kl.toArray⟩ tk5) := upd_ne (upd_ne hk5 (by decide)) (by decide)
  generalize upd (upd m5 (Str.ofString "whole") (.ref W)) (Str.ofString "table") (.ref T) = m8 at F₈ hw8 ht8 hk8 hw8w
  have htl : (ovT (innerL st'.wl) (innerL st'.wl).length).length = (innerL st'.wl).length := ovT_length _ _
  -- numbers
  refine wpAny_execs_cons (la_b8 (s := { s with heap := h₈, toks := tk₈ }) B' F₈ ht8 X' N₈ (.tail _ (.head _)) T' I₈ (by rw [htl]; omega) (by rw [htl]; omega) S8 e8 fun NM h₉ tk₉ nvs F₉ N₉ hNM I₉ => ?_)
  show wpAny _ _ _ _ _ _
  rw [htl] at I₉
  have hnm9 : upd m8 (Str.ofString "numbers") (.ref NM) (Str.ofString "numbers") = some (.ref NM) := upd_at _ _ _
  have hw9 : upd m8 (Str.ofString "numbers") (.ref NM) (Str.ofString "whole") = some (.ref W) := upd_ne hw8 (by decide)
  have hw9w : upd m8 (Str.ofString "numbers") (.ref NM) (Str.ofString "word") = _ := upd_ne hw8w (by decide)
  have ht9 : upd m8 (Str.ofString "numbers") (.ref NM) (Str.ofString "table") = some (.ref T) := upd_ne ht8 (by decide)
  have hk9 : upd m8 (Str.ofString "numbers") (.ref NM) (Str.ofString "kept") = some (.str ⟨st'.kl.toArray⟩ tk5) := upd_ne hk8 (by decide)
  generalize upd m8 (Str.ofString "numbers") (.ref NM) = m9 at F₉ hw9 ht9 hk9 hw9w hnm9
  refine wpAny_execs_cons (la_b9 (s := { s with heap := h₉, toks := tk₉ }) (T := T) (vs := vs) (nt := 0) (nn := 0) (nvs := nvs) (tl := ovT (innerL st'.wl) (innerL st'.wl).length) (kl := st'.kl) (news := (W, PySem.W.listOf ws.toArray 0) :: (L + 3, oi') :: (L + 2, of') :: (L + 1, oz') :: news) B' F₉ hnm9 ht9 hk9 X' (kst_newsOf N₉ fun p hp => ?_) T' (by omega) I₉ I₈ (by rw [htl]; omega) (fun j => by rw [htl]; exact ovT_getD_le _ _ _) (by rw [htl]; exact ovT_getD_le _ _ _) (fun p hp => hNM p ?_) S9 e9 fun hA tkA nvsA nnA FA NA IA => ?_)
  · simp only [List.mem_cons] at hp ⊢
    rcases hp with h | h | h | h | h | h | h
    · exact .inl h
    · exact .inr (.inr (.inl h))
    · exact .inr (.inl h)
    · exact .inr (.inr (.inr (.inl h)))
    · exact .inr (.inr (.inr (.inr (.inl h))))
    · exact .inr (.inr (.inr (.inr (.inr (.inl h)))))
    · exact .inr (.inr (.inr (.inr (.inr (.inr h)))))
  · simp only [List.mem_cons] at hp ⊢
    rcases hp with h | h | h | h | h | h
    · exact .inr (.inl h)
    · exact .inl h
    · exact .inr (.inr (.inl h))
    · exact .inr (.inr (.inr (.inl h)))
    · exact .inr (.inr (.inr (.inr (.inl h))))
    · exact .inr (.inr (.inr (.inr (.inr h))))
  show wpAny _ _ _ _ _ _
  have hNl : (numsL st'.wl st'.kl).length ≤ 300 := by
    have := congrArg List.length G.kept
    rw [List.length_map] at this
    omega
  change IntsAre nvsA (natsI (numsL st'.wl st'.kl)) at IA
  refine wpAny_execs_cons (la_b10 (s := { s with heap := hA, toks := tkA }) (il := innerL st'.wl) B' FA hnm9 hk9 X' NA (.head _) (.tail _ (.tail _ (.tail _ (.head _)))) T' IA hNl hci' (by omega) G.lt G.kept S10 e10 fun hB tkB FB NB => ?_)
  show wpAny _ _ _ _ _ _
  refine wpAny_execs_cons (la_b11 (s := { s with heap := hB, toks := tkB }) B' FB X' NB (.tail _ (.tail _ (.tail _ (.tail _ (.tail _ (.head _)))))) (.tail _ (.tail _ (.tail _ (.tail _ (.head _))))) T' hcz' hcf' G.few G.s200 S11 e11 fun ST hC tkC svs FC NC IC => ?_)
  show wpAny _ _ _ _ _ _
  refine wpAny_execs_cons (la_b12 (s := { s with heap := hC, toks := tkC }) (il := innerL st'.wl) B' FC (upd_ne hnm9 (by decide)) X' NC (.tail _ (.head _)) (.tail _ (.tail _ (.tail _ (.tail _ (.head _))))) T' IA hNl hci' (by omega) G.lt S12 e12 fun hD tkD tE FD ND => ?_)
  show wpAny _ _ _ _ _ _
  have hstl : (stepsL st'.size st'.few).length ≤ 300 := by
    rw [stepsL, List.length_map]
    have := List.length_filter_le (fun i => decide ((i + 1) * st'.few % st'.size = 1 ∨ (i + 1) * (st'.size - st'.few) % st'.size = 1)) (List.range (st'.size - 1))
    rw [List.length_range] at this
    omega
  have hwl : (ovT st'.wl st'.wl.length).length = st'.size := by rw [ovT_length, hlen']
  refine wpAny_execs_cons (la_b13 (s := { s with heap := hD, toks := tkD }) (wl := ovT st'.wl st'.wl.length) B' FD (upd_ne (upd_ne hnm9 (by decide)) (by decide)) (upd_ne (upd_at _ _ _) (by decide)) (upd_ne (upd_ne hw9 (by decide)) (by decide)) (upd_at _ _ _) X' ND (.tail _ (.head _)) (.head _) (.tail _ (.tail _ (.tail _ (.head _)))) (.tail _ (.tail _ (.tail _ (.tail _ (.tail _ (.tail _ (.head _))))))) T' IA IC J₈ G.ne G.steps (by omega) (by omega) hcz' G.s200 hNl hstl G.sum G.ends S13 e13 fun hE tkE FE NE => ?_)
  show wpAny _ _ _ _ _ _
  refine wpAny_execs_cons (la_b14 (s := { s with heap := hE, toks := tkE }) B' FE (upd_ne (upd_ne ht9 (by decide)) (by decide)) (upd_ne (upd_ne hw9 (by decide)) (by decide)) X' NE (.tail _ (.tail _ (.head _))) (.tail _ (.tail _ (.tail _ (.head _)))) T' I₈ J₈ (by rw [List.length_map, htl]; omega) (by rw [List.length_map]; omega) S14 e14 fun hF tkF FF NF => ?_)
  show wpAny _ _ _ _ _ _
  refine wpAny_execs_nil ?_
  exact hnext hF tkF _ oi' of' oz' st' tw₃ tk5 FF (kst_newsOf NF fun p hp => .tail _ (.tail _ (.tail _ (.tail _ hp)))) (upd_ne (upd_ne hw9w (by decide)) (by decide)) (upd_ne (upd_ne hk9 (by decide)) (by decide)) ⟨⟨_, hci'⟩, ⟨_, hcf'⟩, ⟨_, hcz'⟩⟩ hs'
end
end Mine
end
section
set_option maxRecDepth 100000
set_option linter.unusedVariables false
set_option Elab.async false
set_option pp.maxSteps 3000
namespace Mine
open PySem PySem.W PySem.Calls PyProof.Rows
section
variable {w : World} {base h₀ : Heap} {fa ca L : Addr} {mg mb : Str → Option Value} {news : List (Addr × Obj)} {mean : ExcName → Option Value}
set_option maxHeartbeats 1000000 in
theorem la_iter {s : Shared} {m : Str → Option Value} {Q : Value → Shared → Prop} {l : Addr} {vs : List Value} {ns : List Int} {oi of oz : Obj}
    (B' : Below callerA base [] h₀) (F₀ : Fr h₀ L s.heap m) (hm : m (Str.ofString "script") = some (.ref l)) (hL : h₀.IsList l vs.toArray) (hI : IntsAre vs ns) (hl : ns.length ≤ 63) (X' : (KT w.params).In h₀) (N' : News h₀ L s.heap [(L + 3, oi), (L + 2, of), (L + 1, oz)]) (T' : Top qv (looseW qv loose0) mean mg mb h₀)
    (e : _) (he : (match (fB (stm 10))[1]? with | some s => forI s | none => none) = some e)
    (h : ∀ S h' tk ws, Fr h₀ L h' m → News h₀ L h' [(L + 3, oi), (L + 2, of), (L + 1, oz), (S, PySem.W.listOf ws.toArray 0)] → IntsAre ws (ns.take 10 ++ [5, 2, 5, 6]) → L + 3 < S → Q (.ref S) { s with heap := h', toks := tk }) :
    wpAny (model pg w) (laA fa ca L) (eval e (laEnv fa ca L)) Q No s := by
  have hfill : (PySem.Challenge.rw_re0100_01, KT) = (PySem.Challenge.rw_re0100_01, KT) := by k_fill; rfl
  clear hfill
  have hk := all1 hm
  have F' := fr_norm _ F₀ hk
  clear F₀
  dsimp only [kstB] at F'
  w_on
  cases he
  k_steps
  rename Fr _ _ _ _ => F₂
  rename News _ _ _ _ => N₂
  rename IntsAre _ (_ ++ _) => I₂
  rename_i l1
  refine h _ _ _ _ (fr_same hk F₂) (kst_newsOf N₂ fun p hp => ?_) I₂ l1.2.2.1
  simp only [List.mem_cons] at hp ⊢
  rcases hp with h | h | h | h | h
  · exact .inr (.inr (.inr (.inl h)))
  · exact .inr (.inr (.inr (.inr (.inl h))))
  · exact .inr (.inr (.inr (.inr (.inr (.inl h)))))
  · exact .inl h
  · cases h
set_option maxHeartbeats 1000000 in
theorem la_00 {s : Shared} {m : Str → Option Value} {Q : Flow → Shared → Prop} {oz of oi : Obj} {cz cf ci : Option Value}
    (B' : Below callerA base [] h₀) (F' : Fr h₀ L s.heap m) (X' : (KT w.params).In h₀) (N' : News h₀ L s.heap [(L + 3, oi), (L + 2, of), (L + 1, oz)]) (T' : Top qv (looseW qv loose0) mean mg mb h₀) 
    (hz : oz.data = .cell cz) (hf : of.data = .cell cf) (hi : oi.data = .cell ci)
    (st : Stmt) (hst : (fB (stm 10))[0]? = some st)
    (h : ∀ h' tk tw tk' of' oz' tz tf, Fr h₀ L h' (upd (upd m (Str.ofString "word") (.str ⟨init.wl.toArray⟩ tw)) (Str.ofString "kept") (.str ⟨init.kl.toArray⟩ tk')) → News h₀ L h' [(L + 3, oi), (L + 2, of'), (L + 1, oz')] → oz'.data = .cell (some (.int 2 tz)) → of'.data = .cell (some (.int 1 tf)) → Q .next { s with heap := h', toks := tk }) :
    wpAny (model pg w) (laA fa ca L) (exec st (laEnv fa ca L)) Q No s := by
  have hfill : (PySem.Challenge.rw_re0100_01, KT) = (PySem.Challenge.rw_re0100_01, KT) := by k_fill; rfl
  clear hfill
  w_on
  cases hst
  k_steps
  rename Fr _ _ _ _ => F₂
  rename News _ _ _ _ => N₂
  have e1 : Str.ofString "fi" = ⟨init.wl.toArray⟩ := by decide
  have e2 : Str.ofString "" = ⟨init.kl.toArray⟩ := by decide
  rw [e1, e2] at F₂
  exact h _ _ _ _ _ _ _ _ F₂ (kst_newsOf N₂ fun p hp => .tail _ hp) (by assumption) (by assumption)
set_option maxHeartbeats 1000000 in
theorem la_2 {s : Shared} {m : Str → Option Value} {Q : Flow → Shared → Prop} 
    (B' : Below callerA base [] h₀) (F' : Fr h₀ L s.heap m) (X' : (KT w.params).In h₀) (N' : News h₀ L s.heap news) (T' : Top qv (looseW qv loose0) mean mg mb h₀) 
    (st : Stmt) (hst : (fB (stm 10))[2]? = some st)
    (h : ∀ tk, Q (.ret (.bool true)) { s with toks := tk }) :
    wpAny (model pg w) (laA fa ca L) (exec st (laEnv fa ca L)) Q No s := by
  have hfill : (PySem.Challenge.rw_re0100_01, KT) = (PySem.Challenge.rw_re0100_01, KT) := by k_fill; rfl
  clear hfill
  w_on
  cases hst
  k_steps
  exact h _

theorem init_ok : StOk (14 - 0) init := ⟨chk14, rfl, by decide, by decide, by decide⟩
structure LoS where
  st : St
  tw : Tok
  tk : Tok
  oi : Obj
  of : Obj
  oz : Obj
abbrev loPs (c : LoS) : List (Str × Value) := [(Str.ofString "word", .str ⟨c.st.wl.toArray⟩ c.tw), (Str.ofString "kept", .str ⟨c.st.kl.toArray⟩ c.tk)]
theorem la_loop {s : Shared} {m : Str → Option Value} {Q : Flow → Shared → Prop} {l : Addr} {vs : List Value} {ns : List Int} {oi of oz : Obj} {tw tk₀ : Tok} {S0 S1 S2 S3 S4 S5 S6 S7 S8 S9 S10 S11 S12 S13 S14 : Stmt}
    (B' : Below callerA base [] h₀) (F₀ : Fr h₀ L s.heap m) (hm : m (Str.ofString "script") = some (.ref l)) (hw : m (Str.ofString "word") = some (.str ⟨init.wl.toArray⟩ tw)) (hk : m (Str.ofString "kept") = some (.str ⟨init.kl.toArray⟩ tk₀)) (hL : h₀.IsList l vs.toArray) (hI : IntsAre vs ns) (hl : ns.length ≤ 63) (X' : (KT w.params).In h₀) (N' : News h₀ L s.heap [(L + 3, oi), (L + 2, of), (L + 1, oz)]) (T' : Top qv (looseW qv loose0) mean mg mb h₀)
    (hc : Cells oi of oz init)
    (eb : laB = [S0, S1, S2, S3, S4, S5, S6, S7, S8, S9, S10, S11, S12, S13, S14])
    (st : Stmt) (hst : (fB (stm 10))[1]? = some st)
    (h : ∀ h' tk m', Fr h₀ L h' m' → Q .next { s with heap := h', toks := tk }) :
    wpAny (model pg w) (laA fa ca L) (exec st (laEnv fa ca L)) Q No s := by
  cases hst
  refine for_start F₀ (by rfl) (by rfl) ?_
  refine la_iter B' F₀ hm hL hI hl X' N' T' _ rfl fun S h₁ tk₁ ws F₁ N₁ I₁ hS => ?_
  have hlen : ws.length ≤ 14 := by
    rw [I₁.length, List.length_append, List.length_take]
    simp; omega
  refine for_made (σ := LoS) (l := S) (vs := ws) (nn := 0) loPs (fun c => [(L + 3, c.oi), (L + 2, c.of), (L + 1, c.oz), (S, PySem.W.listOf ws.toArray 0)]) (fun i c => Cells c.oi c.of c.oz c.st ∧ StOk (14 - i) c.st) ⟨init, tw, tk₀, oi, of, oz⟩ rfl (fun c => .tail _ (.tail _ (.tail _ (.head _)))) F₁ N₁ ?_ ⟨hc, init_ok⟩ (fun _ => rfl) (fun c => offN [Str.ofString "word", Str.ofString "kept"] rfl (by decide)) ?_ ?_
  · intro p hp
    simp only [List.mem_cons, List.not_mem_nil, or_false] at hp
    rcases hp with rfl | rfl
    · exact hw
    · exact hk
  · rintro i v c u h₂ tk₂ own hv ⟨hcc, hso⟩ hoff F₂ N₂
    have hi : i < 14 := by
      have := (List.getElem?_eq_some_iff.mp hv).1
      omega
    obtain ⟨n, t, rfl, _⟩ := I₁.at i v hv
    rw [show 14 - i = (14 - (i + 1)) + 1 by omega] at hso
    have N₃ : News h₀ L h₂ ((L + 3, c.oi) :: (L + 2, c.of) :: (L + 1, c.oz) :: ((S, PySem.W.listOf ws.toArray 0) :: own)) := N₂
    have hoffS : ∀ p ∈ ((S, PySem.W.listOf ws.toArray 0) :: own), p.1 ≠ L + 1 ∧ p.1 ≠ L + 2 ∧ p.1 ≠ L + 3 := by
      intro p hp
      rcases List.mem_cons.mp hp with rfl | hp
      · exact ⟨Nat.ne_of_gt (Nat.lt_of_le_of_lt (Nat.add_le_add_left (by decide) L) hS), Nat.ne_of_gt (Nat.lt_of_le_of_lt (Nat.add_le_add_left (by decide) L) hS), Nat.ne_of_gt hS⟩
      · exact ⟨hoff p hp _ (by simp), hoff p hp _ (by simp), hoff p hp _ (by simp)⟩
    have hps := kstB_atN (u := u) (ps := (Str.ofString "x", Value.int n t) :: loPs c) [Str.ofString "x", Str.ofString "word", Str.ofString "kept"] rfl (by decide)
    have eb' : ∀ k : Nat, laB[k]? = [S0, S1, S2, S3, S4, S5, S6, S7, S8, S9, S10, S11, S12, S13, S14][k]? := fun k => by rw [eb]
    show wpAny _ _ (execs laB _) _ _ _
    rw [eb]
    refine la_turn (s := { s with heap := h₂, toks := tk₂ }) (st := c.st) B' F₂ X' N₃ T' (hps (Str.ofString "x", Value.int n t) (.head _)) (hps _ (.tail _ (.head _))) (hps _ (.tail _ (.tail _ (.head _)))) hcc hoffS hso (eb' 0) (eb' 1) (eb' 2) (eb' 3) (eb' 4) (eb' 5) (eb' 6) (eb' 7) (eb' 8) (eb' 9) (eb' 10) (eb' 11) (eb' 12) (eb' 13) (eb' 14) (fun tk => ?_) (fun h' tk m' oi' of' oz' st' tw' tk' F' N' hw' hk' hc' hs' => ?_)
    · exact h h₂ tk _ F₂
    · refine ⟨⟨st', tw', tk', oi', of', oz'⟩, m', h', tk, _, rfl, ⟨hc', hs'⟩, F', fun p hp => ?_, N', fun p hp => ?_, fun p hp => ?_⟩
      · simp only [List.mem_cons, List.not_mem_nil, or_false] at hp
        rcases hp with rfl | rfl
        · exact hw'
        · exact hk'
      · simp only [List.mem_cons, List.not_mem_nil, or_false] at hp ⊢
        rcases hp with h | h | h | h
        · exact .inl h
        · exact .inr (.inl h)
        · exact .inr (.inr (.inl h))
        · exact .inr (.inr (.inr (.inl h)))
      · exact .tail _ (.tail _ (.tail _ (.tail _ hp)))
  · intro c u h₂ tk₂ _ F₂ N₂
    exact h h₂ tk₂ _ F₂
theorem la_body {s : Shared} {m : Str → Option Value} {Q : Flow → Shared → Prop} {l : Addr} {vs : List Value} {ns : List Int} {oi of oz : Obj} {ci cz cf : Option Value} {S0 S1 S2 : Stmt}
    (B' : Below callerA base [] h₀) (F₀ : Fr h₀ L s.heap m) (hm : m (Str.ofString "script") = some (.ref l)) (hL : h₀.IsList l vs.toArray) (hI : IntsAre vs ns) (hl : ns.length ≤ 63) (X' : (KT w.params).In h₀) (N' : News h₀ L s.heap [(L + 3, oi), (L + 2, of), (L + 1, oz)]) (T' : Top qv (looseW qv loose0) mean mg mb h₀)
    (hz : oz.data = .cell cz) (hf : of.data = .cell cf) (hi : oi.data = .cell ci)
    (e0 : (fB (stm 10))[0]? = some S0) (e1 : (fB (stm 10))[1]? = some S1) (e2 : (fB (stm 10))[2]? = some S2)
    (h : ∀ h' tk m', Fr h₀ L h' m' → Q (.ret (.bool true)) { s with heap := h', toks := tk }) :
    wpAny (model pg w) (laA fa ca L) (execs [S0, S1, S2] (laEnv fa ca L)) Q No s := by
  refine wpAny_execs_cons (la_00 B' F₀ X' N' T' hz hf hi S0 e0 fun h₁ tk₁ tw tk' of' oz' tz tf F₁ N₁ hz' hf' => ?_)
  show wpAny _ _ _ _ _ _
  refine wpAny_execs_cons (la_loop (s := { s with heap := h₁, toks := tk₁ }) B' F₁ (upd_ne (upd_ne hm (by decide)) (by decide)) (upd_ne (upd_at _ _ _) (by decide)) (upd_at _ _ _) hL hI hl X' N₁ T' ⟨⟨_, hi⟩, ⟨_, hf'⟩, ⟨_, hz'⟩⟩ rfl S1 e1 fun h₂ tk₂ m₂ F₂ => ?_)
  show wpAny _ _ _ _ _ _
  refine wpAny_execs_cons (la_2 (s := { s with heap := h₂, toks := tk₂ }) (news := []) B' F₂ X' News.nil T' S2 e2 fun tk₃ => ?_)
  exact h h₂ tk₃ m₂ F₂
end
end Mine
end
section
set_option maxRecDepth 100000
set_option linter.unusedVariables false
set_option Elab.async false
set_option pp.maxSteps 600
set_option pp.deepTerms.threshold 4
namespace Mine
open PySem PySem.W PySem.Calls PyProof.Rows
section
variable {w : World} {base h₀ : Heap} {fa ca L : Addr} {mg mb : Str → Option Value} {news : List (Addr × Obj)} {mean : ExcName → Option Value}
theorem la_all {s : Shared} {m : Str → Option Value} {Q : Flow → Shared → Prop} {l : Addr} {vs : List Value} {ns : List Int} {oi of oz : Obj} {ci cz cf : Option Value}
    (B' : Below callerA base [] h₀) (F₀ : Fr h₀ L s.heap m) (hm : m (Str.ofString "script") = some (.ref l)) (hL : h₀.IsList l vs.toArray) (hI : IntsAre vs ns) (hl : ns.length ≤ 63) (X' : (KT w.params).In h₀) (N' : News h₀ L s.heap [(L + 3, oi), (L + 2, of), (L + 1, oz)]) (T' : Top qv (looseW qv loose0) mean mg mb h₀)
    (hz : oz.data = .cell cz) (hf : of.data = .cell cf) (hi : oi.data = .cell ci)
    (bd : List Stmt) (hbd : bd = fB (stm 10))
    (h : ∀ h' tk m', Fr h₀ L h' m' → Q (.ret (.bool true)) { s with heap := h', toks := tk }) :
    wpAny (model pg w) (laA fa ca L) (execs bd (laEnv fa ca L)) Q No s := by
  obtain ⟨S0, S1, S2, e⟩ : ∃ S0 S1 S2, fB (stm 10) = [S0, S1, S2] := ⟨_, _, _, rfl⟩
  rw [hbd, e]
  exact la_body B' F₀ hm hL hI hl X' N' T' hz hf hi (by rw [e]; rfl) (by rw [e]; rfl) (by rw [e]; rfl) h
end
end Mine
end
open PySem PySem.W PySem.Calls PyProof.Rows Mine
set_option maxHeartbeats 4000000 in
theorem PySem.Challenge.cw_re0100_01_holds : PySem.Challenge.rw_re0100_01.Holds := by
  refine head _ _ rfl rfl rfl ?_
  w_on
  k_go0
  rename Fr _ _ _ _ => F₁
  rename Below _ _ _ _ => B₁
  rename (KT _).In _ => KX
  rename Heap.IsList _ _ _ => hL
  rename IntsAre _ _ => hI
  rename Top _ _ _ _ _ _ => T₁
  rename News _ _ _ _ => N₁
  rename ¬ (63 : Int) < _ => hlen
  rename_i o2 o1 o0 hi hf hz X₀
  refine wpAny_mono (E := No) ?_ (fun _ _ x => x) (fun _ _ x => x.elim)
  refine la_all (Q := _) B₁ F₁ (by rfl) hL hI (by omega) KX N₁ T₁ hz hf hi _ (by rfl) fun h' tk m' F' => ?_
  refine goodW_bool F' (by assumption) (raisesW_false ?_) ?_
  · wrow_none_raised
  · first | kc_post | wrow_post
