import PyProof.Rows.All
import Wide.All
import OpenK.AllK
import Wide.FinOn
import KE.KSortTup
import Lean
import PySem.Challenge.RW_uc0039_01
-- part H1
set_option linter.all false
namespace Mine
noncomputable section
open PySem PySem.W PySem.Calls PyProof.Rows
set_option Elab.async false
set_option maxRecDepth 100000
noncomputable abbrev pw : Program := PySem.Challenge.pw_uc0039_01
noncomputable abbrev S (x : String) : PySem.Str := PySem.Str.ofString x
noncomputable def st (i : Nat) : Stmt := pw.main.body.getD i (.Pass default)
noncomputable def emptyArgs : Arguments := { posonlyargs := [], args := [], vararg := none, kwonlyargs := [], kw_defaults := [], kwarg := none, defaults := [] }
noncomputable def fnOfSt (s : Stmt) (globals : Addr) (dV kV doc pm : Value) (an : Option Addr) (cd ct : Value) (bl : Addr) : FuncData := match s with
  | .FunctionDef name args body _ _ _ scope _ _ _ => { name := name, qualname := name, params := args, body := .stmts body, scope := scope, globals := globals, closure := [], defaults := dV, kwdefaults := kV, doc := doc, pyModule := pm, annotations := an, code := cd, closureTuple := ct, builtins := bl }
  | _ => default
noncomputable def fn (i : Nat) (globals : Addr) (_ : Nat) (dV kV doc pm : Value) (an : Option Addr) (cd ct : Value) (bl : Addr) : FuncData := fnOfSt (st i) globals dV kV doc pm an cd ct bl
noncomputable def hEnv : Env := { scope := pw.main.scope, locals := mainNs, globals := mainNs, cells := [], code := .ref 13, frame := some 14 }
noncomputable abbrev hC : Code := Code.body (behindTheImports pw) hEnv
noncomputable abbrev hB : List Frame := [topFrame default]
noncomputable abbrev PairS := Sem Value × Sem Value
/-- what one run of pairs does to the dict under way -/
noncomputable def addRun (run : List PairS) : Option Addr → Sem (Option Addr)
  | none => (subDict run).bind fun a => .pure (some a)
  | some d => (holding [.ref d] (subDict run)).bind fun sub =>
      ((holding [.ref d, .ref sub] (mergeMapping d (.ref sub) false)).onRaise (fun x => (holding [.ref d, x] (runValue (.builtin "proto.let_go" {}))).bind fun _ => .pure ())).bind fun _ => .pure (some d)
noncomputable def addRuns : List (List PairS) → Option Addr → Sem (Option Addr)
  | [], m => .pure m
  | c :: cs, m => (addRun c m).bind (addRuns cs)
noncomputable abbrev SemSt := Option Addr × List PairS
theorem forIn_runs {f : Option (Sem Value) × Sem Value → SemSt → Sem (ForInStep SemSt)}
    (h1 : ∀ k v m (run : List PairS), (run ++ [(k, v)]).length ≠ 17 → f (some k, v) (m, run) = .pure (.yield (m, run ++ [(k, v)])))
    (h2 : ∀ k v m (run : List PairS), (run ++ [(k, v)]).length = 17 → f (some k, v) (m, run) = (addRun (run ++ [(k, v)]) m).bind fun m' => .pure (.yield (m', []))) :
    ∀ (l : List PairS) (rest) (m) (run : List PairS), run.length + l.length = 17 → 0 < l.length →
      forIn (l.map (fun p => (some p.1, p.2)) ++ rest) ((m, run) : SemSt) f = (addRun (run ++ l) m).bind fun m' => forIn rest ((m', []) : SemSt) f
  | [], _, _, _, _, h => absurd h (Nat.lt_irrefl _)
  | [(k, v)], rest, m, run, h, _ => by
    rw [List.map_cons, List.map_nil, List.cons_append, List.nil_append, List.forIn_cons, h2 k v m run (by simpa using h)]
    exact Sem.bind_assoc _ _ _
  | (k, v) :: (k', v') :: l, rest, m, run, h, _ => by
    rw [List.map_cons, List.cons_append, List.forIn_cons, h1 k v m run (by simp at h ⊢; omega)]
    show forIn ((_ :: l).map _ ++ rest) ((m, run ++ [(k, v)]) : SemSt) f = _
    rw [forIn_runs h1 h2 ((k', v') :: l) rest m (run ++ [(k, v)]) (by simp at h ⊢; omega) (by simp), List.append_assoc]; rfl
theorem forIn_last {f : Option (Sem Value) × Sem Value → SemSt → Sem (ForInStep SemSt)}
    (h1 : ∀ k v m (run : List PairS), (run ++ [(k, v)]).length ≠ 17 → f (some k, v) (m, run) = .pure (.yield (m, run ++ [(k, v)]))) :
    ∀ (l : List PairS) (m) (run : List PairS), run.length + l.length < 17 →
      forIn (l.map (fun p => (some p.1, p.2))) ((m, run) : SemSt) f = .pure (m, run ++ l)
  | [], m, run, _ => by simp; rfl
  | (k, v) :: l, m, run, h => by
    rw [List.map_cons, List.forIn_cons, h1 k v m run (by simp at h ⊢; omega)]
    show forIn (l.map _) ((m, run ++ [(k, v)]) : SemSt) f = _
    rw [forIn_last h1 l m (run ++ [(k, v)]) (by simp at h ⊢; omega), List.append_assoc]; rfl
theorem forIn_all {f : Option (Sem Value) × Sem Value → SemSt → Sem (ForInStep SemSt)}
    (h1 : ∀ k v m (run : List PairS), (run ++ [(k, v)]).length ≠ 17 → f (some k, v) (m, run) = .pure (.yield (m, run ++ [(k, v)])))
    (h2 : ∀ k v m (run : List PairS), (run ++ [(k, v)]).length = 17 → f (some k, v) (m, run) = (addRun (run ++ [(k, v)]) m).bind fun m' => .pure (.yield (m', [])))
    (last : List PairS) (hl : last.length < 17) :
    ∀ (cs : List (List PairS)) (m), (∀ c ∈ cs, c.length = 17) →
      forIn ((cs.flatten ++ last).map (fun p => (some p.1, p.2))) ((m, []) : SemSt) f = (addRuns cs m).bind fun m' => .pure (m', last)
  | [], m, _ => forIn_last h1 last m [] (by simpa using hl)
  | c :: cs, m, h => by
    have hc := h c (.head _)
    rw [List.flatten_cons, List.append_assoc, List.map_append, forIn_runs h1 h2 c _ m [] (by simpa using hc) (by omega)]
    have : (fun m' => forIn ((cs.flatten ++ last).map (fun p : PairS => (some p.1, p.2))) ((m', []) : SemSt) f) = fun m' => (addRuns cs m').bind fun m' => .pure (m', last) :=
      funext fun m' => forIn_all h1 h2 last hl cs m' fun c hc => h c (.tail _ hc)
    rw [this]
    show (addRun c m).bind _ = ((addRun c m).bind (addRuns cs)).bind _
    rw [Sem.bind_assoc]
theorem display_runs (cs : List (List PairS)) (last : List PairS) (hl : last.length < 17) (hne : last ≠ []) (h : ∀ c ∈ cs, c.length = 17) :
    dictDisplay ((cs.flatten ++ last).map (fun p => (some p.1, p.2))) = (addRuns cs none).bind fun m => (addRun last m).bind fun r => match r with | some d => .pure (.ref d) | none => newDict := by
  unfold dictDisplay
  simp only
  rw [forIn_all (fun k v m run hr => ?a) (fun k v m run hr => ?b) last hl cs none h]
  case a =>
    have : ((run ++ [(k, v)]).length == 17) = false := by simpa using hr
    simp only [this]; rfl
  case b =>
    have : ((run ++ [(k, v)]).length == 17) = true := by simpa using hr
    simp only [this, if_true]
    have hne : (run ++ [(k, v)]).isEmpty = false := by simp
    rw [hne]
    cases m <;> rfl
  have hle : last.isEmpty = false := by cases last <;> simp_all
  rw [show ∀ (x : Sem (Option Addr)) (g : SemSt → Sem Value), ((x.bind fun m' => Sem.pure (m', last)) >>= g) = x.bind fun m' => g (m', last) from fun x g => Sem.bind_assoc _ _ _]
  congr 1
  funext m
  simp only [hle]
  cases m <;> rfl


noncomputable abbrev Shd := Shared
noncomputable def Goes (w : World) {α : Type} (s : Shd) (p : Pos) (x : Sem α) (n : Nat) (a : α) (s' : Shd) (p' : Pos) : Prop :=
  ∀ (K : α → Sem Fin) (H : Value → Sem Fin) (gd : Bool → Bool) (lv : List Value → List Value) (N : Nat) (r : Flow × Shared × Code × Pos),
    segRun treeTable pw w 11 (some (.ref 6)) 1 N s' ⟨K a, hC, p', hB⟩ = some r →
    segRun treeTable pw w 11 (some (.ref 6)) 1 (n + N) s ⟨x.wrap K H gd lv, hC, p, hB⟩ = some r

section
variable {w : World} {α β : Type} {s s₁ s₂ : Shd} {p p₁ p₂ : Pos}
theorem Goes.pure (a : α) : Goes w s p (.pure a) 0 a s p := fun K H gd lv N r h => by rw [Nat.zero_add]; exact h
theorem Goes.bind {x : Sem α} {f : α → Sem β} {n m : Nat} {a : α} {b : β} (h : Goes w s p x n a s₁ p₁) (k : Goes w s₁ p₁ (f a) m b s₂ p₂) : Goes w s p (x.bind f) (n + m) b s₂ p₂ := fun K H gd lv N r q => by
  rw [Sem.bind_eq_wrap, Sem.wrap_wrap, Nat.add_assoc]
  exact h _ _ _ _ _ _ (k K H gd lv N r q)
theorem Goes.keep {x : Sem α} {n : Nat} {a : α} (vs : List Value) (h : Goes w s p x n a s₁ p₁) : Goes w s p (x.keep vs) n a s₁ p₁ := fun K H gd lv N r q => by
  rw [Sem.keep_eq_wrap, Sem.wrap_wrap]
  exact h _ _ _ _ _ _ q
theorem Goes.holding {x : Sem α} {n : Nat} {a : α} (vs : List Value) (h : Goes w s p x n a s₁ p₁) : Goes w s p (holding vs x) n a s₁ p₁ := by
  rw [holding_eq_keep]; exact h.keep _
theorem Goes.onRaise {x : Sem α} {n : Nat} {a : α} (k : Value → Sem Unit) (h : Goes w s p x n a s₁ p₁) : Goes w s p (x.onRaise k) n a s₁ p₁ := fun K H gd lv N r q => by
  rw [Sem.onRaise_eq_wrap, Sem.wrap_wrap]
  exact h _ _ _ _ _ _ q
theorem Goes.cast {x y : Sem α} {n m : Nat} {a b : α} (h : Goes w s p x n a s₁ p₁) (e : x = y := by rfl) (en : n = m := by rfl) (ea : a = b := by rfl) : Goes w s p y m b s₁ p₁ := by subst e; subst en; subst ea; exact h
theorem Goes.fresh (k : Tok → Sem α) {n : Nat} {a : α} (h : Goes w { s with toks := s.toks + 1 } p (k s.toks) n a s₁ p₁) : Goes w s p (.fresh k) (n + 1) a s₁ p₁ := fun K H gd lv N r q => by
  rw [show n + 1 + N = (n + N) + 1 by omega]
  exact h K H gd lv N r q
theorem Goes.at (q : Pos) (k : Unit → Sem α) {n : Nat} {a : α} (h : Goes w s q (k ()) n a s₁ p₁) : Goes w s p (.at q k) (n + 1) a s₁ p₁ := fun K H gd lv N r q' => by
  rw [show n + 1 + N = (n + N) + 1 by omega]
  exact h K H gd lv N r q'
theorem Goes.rule (t : String) (k : Unit → Sem α) {n : Nat} {a : α} (h : Goes w s p (k ()) n a s₁ p₁) : Goes w s p (.rule t k) (n + 1) a s₁ p₁ := fun K H gd lv N r q' => by
  rw [show n + 1 + N = (n + N) + 1 by omega]
  exact h K H gd lv N r q'
theorem Goes.load {b : Addr} {part : Option Value} {o : Obj} (k : Obj → Sem α) {n : Nat} {a : α} (ho : s.heap.get? b = some o) (h : Goes w s p (k o) n a s₁ p₁) : Goes w s p (.load b part k) (n + 1) a s₁ p₁ := fun K H gd lv N r q => by
  rw [show n + 1 + N = (n + N) + 1 by omega]
  have := h K H gd lv N r q
  obtain ⟨heap, gens, drawn, toks, os⟩ := s
  unfold segRun
  show (match stepOk 11 (some (.ref 6)) ⟨.load b part fun x => (k x).wrap K H gd lv, hC, p, hB⟩ with | false => none | true => match (match heap.get? b with | some o => Step.go ⟨heap, gens, drawn, toks, os⟩ ⟨(k o).wrap K H gd lv, hC, p, hB⟩ | none => _) with | .go s' t' => _ | .halt _ _ => none) = some r
  rw [show heap.get? b = some o from ho]
  exact this
theorem Goes.update {b : Addr} {part : Option Value} {f : Obj → Obj} {o : Obj} (k : Unit → Sem α) {n : Nat} {a : α} (hb : 11 ≤ b) (ho : s.heap.get? b = some o) (h : Goes w { s with heap := s.heap.update b f } p (k ()) n a s₁ p₁) :
    Goes w s p (.update b part f k) (n + 1) a s₁ p₁ := fun K H gd lv N r q => by
  rw [show n + 1 + N = (n + N) + 1 by omega]
  have := h K H gd lv N r q
  obtain ⟨heap, gens, drawn, toks, os⟩ := s
  unfold segRun
  have hk : stepOk 11 (some (.ref 6)) ⟨.update b part f fun x => (k x).wrap K H gd lv, hC, p, hB⟩ = true := by
    show (true && (Nat.ble 11 b || b == mainNs || b == cStatics || some (Value.ref 6) == some (.ref b))) = true
    rw [show Nat.ble 11 b = true from Nat.ble_eq_true_of_le hb]; rfl
  show (match stepOk 11 (some (.ref 6)) ⟨.update b part f fun x => (k x).wrap K H gd lv, hC, p, hB⟩ with | false => none | true => match (if (heap.get? b).isSome then Step.go ⟨heap.update b f, gens, drawn, toks, os⟩ ⟨(k ()).wrap K H gd lv, hC, p, hB⟩ else _) with | .go s' t' => _ | .halt _ _ => none) = some r
  rw [hk, show heap.get? b = some o from ho]
  exact this
theorem Goes.alloc {o : Obj} (k : Addr → Sem α) {n : Nat} {a : α} (h : Goes w { s with heap := s.heap.push o } p (k s.heap.objs.size) n a s₁ p₁) : Goes w s p (.alloc o k) (n + 1) a s₁ p₁ := fun K H gd lv N r q => by
  rw [show n + 1 + N = (n + N) + 1 by omega]
  exact h K H gd lv N r q
end



noncomputable def hI (x : Int) : Int := if (if x < 0 then -((x.natAbs % (2 ^ 61 - 1 : Nat) : Nat) : Int) else ((x.natAbs % (2 ^ 61 - 1 : Nat) : Nat) : Int)) == -1 then -2 else (if x < 0 then -((x.natAbs % (2 ^ 61 - 1 : Nat) : Nat) : Int) else ((x.natAbs % (2 ^ 61 - 1 : Nat) : Nat) : Int))
theorem hash_go_false (w : World) (i : Int) (t : Tok) (heap : Heap) (gens drawn toks os p) (K : Int → Sem Fin) (H gd lv) :
    segGo treeTable pw (w.withFollow "special-get-raises" false) 11 (some (.ref 6)) 1 5 ⟨heap, gens, drawn, toks, os⟩ ⟨(pyHash (.int i t)).wrap K H gd lv, hC, p, hB⟩ = some (⟨heap, gens, drawn, toks + 1, os⟩, ⟨(pyHashByItsType.reduced (hI i)).wrap K H gd lv, hC, p, hB⟩) := by kernel_rfl
theorem hash_go_true (w : World) (i : Int) (t : Tok) (heap : Heap) (gens drawn toks os p) (K : Int → Sem Fin) (H gd lv) :
    segGo treeTable pw (w.withFollow "special-get-raises" true) 11 (some (.ref 6)) 1 5 ⟨heap, gens, drawn, toks, os⟩ ⟨(pyHash (.int i t)).wrap K H gd lv, hC, p, hB⟩ = some (⟨heap, gens, drawn, toks + 1, os⟩, ⟨(pyHashByItsType.reduced (hI i)).wrap K H gd lv, hC, p, hB⟩) := by kernel_rfl

theorem hash_goes {w : World} {i : Int} {t : Tok} {heap : Heap} {gens drawn toks os p} (h0 : 0 ≤ i) (h1 : i < 2 ^ 40) :
    Goes w ⟨heap, gens, drawn, toks, os⟩ p (pyHash (.int i t)) 5 i ⟨heap, gens, drawn, toks + 1, os⟩ p := fun K H gd lv N r q => by
  have e : ∀ w : World, segGo treeTable pw w 11 (some (.ref 6)) 1 5 ⟨heap, gens, drawn, toks, os⟩ ⟨(pyHash (.int i t)).wrap K H gd lv, hC, p, hB⟩ = some (⟨heap, gens, drawn, toks + 1, os⟩, ⟨(pyHashByItsType.reduced (hI i)).wrap K H gd lv, hC, p, hB⟩) :=
    byRow2 "special-get-raises" (P := fun w => segGo treeTable pw w 11 (some (.ref 6)) 1 5 ⟨heap, gens, drawn, toks, os⟩ ⟨(pyHash (.int i t)).wrap K H gd lv, hC, p, hB⟩ = some (⟨heap, gens, drawn, toks + 1, os⟩, ⟨(pyHashByItsType.reduced (hI i)).wrap K H gd lv, hC, p, hB⟩))
      (fun w => hash_go_false w i t heap gens drawn toks os p K H gd lv) (fun w => hash_go_true w i t heap gens drawn toks os p K H gd lv)
  have hi : hI i = i := by
    obtain ⟨n, rfl⟩ := Int.eq_ofNat_of_zero_le h0
    unfold hI
    have a : ¬ ((n : Int) < 0) := by omega
    have b : n % (2 ^ 61 - 1) = n := Nat.mod_eq_of_lt (by omega)
    simp only [a, if_false, Int.natAbs_natCast, b]
    split <;> simp_all <;> omega
  have hr : pyHashByItsType.reduced i = .pure i := by
    unfold pyHashByItsType.reduced
    rw [if_pos (by simp; omega)]
    have : (i == -1) = false := by simp; omega
    rw [this]; rfl
  refine seg_go (e w) ?_
  rw [hi, hr]; exact q
noncomputable abbrev dObj (es : List DictEntry) (n : Nat) : Obj := { cls := .type "dict", data := .dict es.toArray n }
noncomputable abbrev HH (a : List Obj) (X : Obj) (b : List Obj) : Heap := ⟨(a ++ X :: b).toArray, {}⟩
theorem HH_get {a b : List Obj} {es n} {d : Addr} (hd : d = a.length) : (HH a (dObj es n) b).get? d = some (dObj es n) := by
  subst hd
  unfold Heap.get?
  have : (HH a (dObj es n) b).objs[a.length]? = some (dObj es n) := by simp [HH]
  rw [this]
theorem HH_upd {a b : List Obj} {X : Obj} {d : Addr} {f : Obj → Obj} (hd : d = a.length) : (HH a X b).update d f = HH a (f X) b := by
  subst hd
  show Heap.mk _ _ = Heap.mk _ _
  congr 1
  apply Array.ext_getElem?
  intro i
  simp only [Array.getElem?_modify, List.getElem?_toArray, List.getElem?_append]
  by_cases h : a.length = i
  · subst h; simp
  · rw [if_neg h]
    by_cases h2 : i < a.length
    · simp [h2]
    · simp only [h2, if_false]
      obtain ⟨k, hk⟩ : ∃ k, i - a.length = k + 1 := ⟨i - a.length - 1, by omega⟩
      rw [hk]; simp
theorem HH_push {a b : List Obj} {X o : Obj} : (HH a X b).push o = HH a X (b ++ [o]) := by
  show Heap.mk _ _ = Heap.mk _ _
  congr 1
  simp
theorem HH_size {a b : List Obj} {X : Obj} : (HH a X b).objs.size = a.length + 1 + b.length := by simp [HH]; omega
theorem HH_sub {a b : List Obj} {X Y : Obj} : HH a X (b ++ [Y]) = HH (a ++ X :: b) Y [] := by simp [HH]

theorem places_nil {es : List DictEntry} {h : Int} (hn : ∀ e ∈ es, e.hash ≠ h) : placesWithHash es.toArray.size (fun i => es.toArray[i]?.map (·.hash)) h = [] := by
  unfold placesWithHash
  rw [List.filter_eq_nil_iff]
  intro i hi
  simp only [List.getElem?_toArray, beq_iff_eq]
  cases he : es[i]? with
  | none => simp
  | some e => simpa using hn e (List.mem_of_getElem? he)

section
variable {w : World} {s s₁ s₂ : Shd} {p p₁ p₂ : Pos} {d : Addr} {es : List DictEntry} {n : Nat}
theorem find_goes {i : Int} {t : Tok} (ho : s.heap.get? d = some (dObj es n)) (hn : ∀ e ∈ es, e.hash ≠ i) : Goes w s p (dictFind d (.int i t) i) 1 none s p := by
  unfold dictFind
  refine Goes.holding _ ?_
  unfold dictEntries
  refine Goes.cast (x := Sem.load d _ fun o => _) (Goes.load _ ho (n := 0) ?_) rfl
  show Goes w s p (if ((Value.int i t :: ((placesWithHash es.toArray.size (fun i => es.toArray[i]?.map (·.hash)) i).filterMap fun i => es.toArray[i]?.map (·.key))).all carriedByValue) = true then _ else _) 0 none s p
  rw [places_nil hn]
  exact Goes.pure _
theorem updK_goes {f : Array DictEntry → Array DictEntry} {part : Option Value} (hd : 11 ≤ d) (ho : s.heap.get? d = some (dObj es n)) {es' : List DictEntry} (hf : f es.toArray = es'.toArray) (hs : es'.length ≤ sizeLine)
    {h' : Heap} (hu : s.heap.update d (fun _ => dObj es' (n + 1)) = h') (hg : h'.get? d = some (dObj es' (n + 1))) (hm : s.heap.update d (Obj.mapDictKeys f) = h') :
    Goes w s p (updateDictKeys d f part) 3 () { s with heap := h' } p := by
  unfold updateDictKeys
  refine Goes.cast (x := Sem.load d _ fun o => _) (Goes.load _ ho (n := 2) ?_) rfl
  refine Goes.cast (x := Sem.update d part (Obj.mapDictKeys f) fun _ => lookBehind d part) (Goes.update _ hd ho (n := 1) ?_) rfl
  rw [hm]
  unfold lookBehind
  refine Goes.cast (x := Sem.load d _ fun o => _) (Goes.load (o := dObj es' (n + 1)) _ hg (n := 0) ?_) rfl
  have : (dObj es' (n + 1)).data.pastItsLine = none := by
    show (if es'.toArray.size > sizeLine + 1 then some "dict:memory" else none) = none
    rw [if_neg (by simp; omega)]
  simp only [Sem.bind]
  split
  · rename_i what hw
    rw [this] at hw; cases hw
  · exact Goes.pure _
theorem setD_goes {i : Int} {t : Tok} {v : Value} {a b : List Obj} {gens drawn toks os} (h0 : 0 ≤ i) (h1 : i < 2 ^ 40) (hd : d = a.length) (h11 : 11 ≤ d) (hn : ∀ e ∈ es, e.hash ≠ i) (hs : es.length < sizeLine) :
    Goes w ⟨HH a (dObj es n) b, gens, drawn, toks, os⟩ p (dictSet d (.int i t) v) 10 () ⟨HH a (dObj (es ++ [⟨i, .int i t, v⟩]) (n + 1)) b, gens, drawn, toks + 1, os⟩ p := by
  unfold dictSet
  refine Goes.holding _ (Goes.cast (Goes.bind (hash_goes h0 h1) (m := 5) ?_))
  unfold dictSetHashed
  refine Goes.holding _ (Goes.cast (Goes.bind (find_goes (es := es) (n := n) (HH_get hd) hn) (m := 4) ?_))
  refine Goes.rule _ _ (n := 3) ?_
  exact updK_goes h11 (HH_get hd) (es' := es ++ [⟨i, .int i t, v⟩]) (by simp) (by simp; omega) (HH_upd hd) (HH_get hd) (by rw [HH_upd hd]; congr 1; simp [Obj.mapDictKeys])
end
noncomputable abbrev P15 : Pos := ⟨82, 16, 82, 9999⟩
noncomputable def pK (q : Pos) (x : Int × PySem.Str) : PairS := (mkInt x.1, (mkText x.2).bind fun y => (standAt q).bind fun _ => .pure y)
noncomputable def longE : Nat → List (Int × PySem.Str) → List DictEntry
  | _, [] => []
  | t, x :: r => ⟨x.1, .int x.1 t, .str x.2 (t + 1)⟩ :: longE (t + 3) r
noncomputable def shortV : Nat → List (Int × PySem.Str) → List (Value × Value)
  | _, [] => []
  | t, x :: r => (.int x.1 t, .str x.2 (t + 1)) :: shortV (t + 2) r
noncomputable def shortE : Nat → List (Int × PySem.Str) → List DictEntry
  | _, [] => []
  | t, x :: r => ⟨x.1, .int x.1 t, .str x.2 (t + 1)⟩ :: shortE (t + 2) r
noncomputable def Asc : Int → List (Int × PySem.Str) → Prop
  | _, [] => True
  | m, x :: r => m < x.1 ∧ x.1 < 2 ^ 40 ∧ Asc x.1 r
noncomputable def lastK : Int → List (Int × PySem.Str) → Int
  | m, [] => m
  | _, x :: r => lastK x.1 r
noncomputable def Bnd (es : List DictEntry) (m : Int) : Prop := ∀ e ∈ es, e.hash ≤ m

section
variable {w : World} {p q : Pos} {d : Addr} {es : List DictEntry} {n : Nat} {a b : List Obj} {gens : Array GenState} {drawn : Drawn} {toks : Nat} {os : OsState}
theorem Bnd.ne {m i : Int} (B : Bnd es m) (h : m < i) : ∀ e ∈ es, e.hash ≠ i := fun e he => by have := B e he; omega
theorem Bnd.push {m i : Int} {k v : Value} (B : Bnd es m) (h : m < i) : Bnd (es ++ [⟨i, k, v⟩]) i := fun e he => by
  rcases List.mem_append.mp he with he | he
  · have := B e he; omega
  · obtain rfl := List.mem_singleton.mp he; exact Int.le_refl _

theorem key_goes {i : Int} {heap : Heap} : Goes w ⟨heap, gens, drawn, toks, os⟩ q (mkInt i) 1 (.int i toks) ⟨heap, gens, drawn, toks + 1, os⟩ q := Goes.fresh _ (Goes.pure _)
theorem val_goes {x : PySem.Str} {heap : Heap} : Goes w ⟨heap, gens, drawn, toks, os⟩ q ((mkText x).bind fun y => (standAt q).bind fun _ => .pure y) 2 (.str x toks) ⟨heap, gens, drawn, toks + 1, os⟩ q := Goes.fresh _ (Goes.at _ _ (Goes.pure _))
theorem long_goes (hd : d = a.length) (h11 : 11 ≤ d) : ∀ (l : List (Int × PySem.Str)) (es : List DictEntry) (n toks : Nat) (m : Int), 0 ≤ m → Asc m l → Bnd es m → es.length + l.length < sizeLine →
    Goes w ⟨HH a (dObj es n) b, gens, drawn, toks, os⟩ q
      (forIn (l.map (pK q)) PUnit.unit fun x _ => do
        let kv ← x.1
        let vv ← holding [kv] x.2
        holding [kv, vv] (dictSet d kv vv)
        pure (ForInStep.yield PUnit.unit)) (13 * l.length) PUnit.unit ⟨HH a (dObj (es ++ longE toks l) (n + l.length)) b, gens, drawn, toks + 3 * l.length, os⟩ q
  | [], es, n, toks, m, _, _, _, _ => by
    simp only [longE, List.append_nil, List.length_nil, Nat.mul_zero, Nat.add_zero]
    exact Goes.pure _
  | x :: l, es, n, toks, m, hm, ⟨h1, h2, hA⟩, B, hs => by
    have ih := long_goes hd h11 l (es ++ [⟨x.1, .int x.1 toks, .str x.2 (toks + 1)⟩]) (n + 1) (toks + 1 + 1 + 1) x.1 (by omega) hA (B.push h1) (by simp at hs ⊢; omega)
    rw [List.map_cons, List.forIn_cons]
    refine Goes.cast (n := 13 + 13 * l.length) (Goes.bind (a := ForInStep.yield PUnit.unit) (s₁ := ⟨HH a (dObj (es ++ [⟨x.1, .int x.1 toks, .str x.2 (toks + 1)⟩]) (n + 1)) b, gens, drawn, toks + 1 + 1 + 1, os⟩) (p₁ := q) ?_ ?_) rfl (by simp; omega) rfl
    · refine Goes.cast (n := 1 + 12) (Goes.bind key_goes ?_)
      refine Goes.cast (n := 2 + 10) (Goes.bind (Goes.holding _ val_goes) ?_)
      refine Goes.cast (n := 10 + 0) (Goes.bind (Goes.holding _ (setD_goes (by omega) h2 hd h11 (B.ne h1) (by simp at hs; omega))) (Goes.pure _))
    · have e : (es ++ [⟨x.1, .int x.1 toks, .str x.2 (toks + 1)⟩]) ++ longE (toks + 1 + 1 + 1) l = es ++ longE toks (x :: l) := by simp [longE]
      rw [e] at ih
      rw [show n + (x :: l).length = n + 1 + l.length by simp; omega, show toks + 3 * (x :: l).length = toks + 1 + 1 + 1 + 3 * l.length by simp; omega]
      exact ih
theorem pairs_goes : ∀ (l : List (Int × PySem.Str)) (toks : Nat) (heap : Heap), Goes w ⟨heap, gens, drawn, toks, os⟩ q (evalPairs (l.map (pK q))) (3 * l.length) (shortV toks l) ⟨heap, gens, drawn, toks + 2 * l.length, os⟩ q
  | [], toks, heap => Goes.pure _
  | x :: l, toks, heap => by
    have ih := pairs_goes l (toks + 1 + 1) heap
    refine Goes.cast (n := 1 + (2 + (3 * l.length + 0))) (Goes.bind key_goes ?_) rfl (by simp; omega) rfl
    refine Goes.bind (Goes.holding _ val_goes) ?_
    rw [show toks + 2 * (x :: l).length = toks + 1 + 1 + 2 * l.length by simp; omega]
    exact Goes.bind (Goes.holding _ ih) (Goes.pure _)
theorem short_goes (hd : d = a.length) (h11 : 11 ≤ d) : ∀ (l : List (Int × PySem.Str)) (es : List DictEntry) (n toks T : Nat) (m : Int), 0 ≤ m → Asc m l → Bnd es m → es.length + l.length < sizeLine →
    Goes w ⟨HH a (dObj es n) b, gens, drawn, toks, os⟩ q
      (forIn (shortV T l) PUnit.unit fun x _ => do
        dictSet d x.1 x.2
        pure (ForInStep.yield PUnit.unit)) (10 * l.length) PUnit.unit ⟨HH a (dObj (es ++ shortE T l) (n + l.length)) b, gens, drawn, toks + l.length, os⟩ q
  | [], es, n, toks, T, m, _, _, _, _ => by
    simp only [shortE, List.append_nil, List.length_nil, Nat.mul_zero, Nat.add_zero]
    exact Goes.pure _
  | x :: l, es, n, toks, T, m, hm, ⟨h1, h2, hA⟩, B, hs => by
    have ih := short_goes hd h11 l (es ++ [⟨x.1, .int x.1 T, .str x.2 (T + 1)⟩]) (n + 1) (toks + 1) (T + 2) x.1 (by omega) hA (B.push h1) (by simp at hs ⊢; omega)
    rw [shortV, List.forIn_cons]
    refine Goes.cast (n := 10 + 10 * l.length) (Goes.bind (a := ForInStep.yield PUnit.unit) (s₁ := ⟨HH a (dObj (es ++ [⟨x.1, .int x.1 T, .str x.2 (T + 1)⟩]) (n + 1)) b, gens, drawn, toks + 1, os⟩) (p₁ := q) ?_ ?_) rfl (by simp; omega) rfl
    · refine Goes.cast (n := 10 + 0) (Goes.bind (setD_goes (by omega) h2 hd h11 (B.ne h1) (by simp at hs; omega)) (Goes.pure _))
    · have e : (es ++ [⟨x.1, .int x.1 T, .str x.2 (T + 1)⟩]) ++ shortE (T + 2) l = es ++ shortE T (x :: l) := by simp [shortE]
      rw [e] at ih
      rw [show n + (x :: l).length = n + 1 + l.length by simp; omega, show toks + (x :: l).length = toks + 1 + l.length by simp; omega]
      exact ih
theorem alloc_goes : Goes w ⟨⟨a.toArray, {}⟩, gens, drawn, toks, os⟩ q (alloc { cls := .type "dict", data := .dict #[] }) 1 a.length ⟨HH a (dObj [] 0) [], gens, drawn, toks, os⟩ q := by
  have e : (⟨a.toArray, {}⟩ : Heap).push { cls := .type "dict", data := .dict #[] } = HH a (dObj [] 0) [] := by
    show Heap.mk _ _ = Heap.mk _ _
    congr 1
    simp
  have z : (⟨a.toArray, {}⟩ : Heap).objs.size = a.length := by simp
  have h := Goes.alloc (w := w) (s := ⟨⟨a.toArray, {}⟩, gens, drawn, toks, os⟩) (p := q) (o := { cls := .type "dict", data := .dict #[] }) (fun d => Sem.pure d) (Goes.pure _)
  dsimp only at h
  rw [e, z] at h
  exact h
theorem sub_long {l : List (Int × PySem.Str)} {m : Int} (h11 : 11 ≤ a.length) (hl : l.length = 17) (hm : 0 ≤ m) (hA : Asc m l) :
    Goes w ⟨⟨a.toArray, {}⟩, gens, drawn, toks, os⟩ q (subDict (l.map (pK q))) 223 a.length ⟨HH a (dObj (longE toks l) 17) [], gens, drawn, toks + 51, os⟩ q := by
  unfold subDict
  have hlen : ¬ (l.map (pK q)).length ≤ 15 := by simp; omega
  refine Goes.cast (n := 1 + (222 + 0)) (Goes.bind alloc_goes (Goes.bind (a := ()) (f := fun _ => Sem.pure a.length) (Goes.holding _ ?_) (Goes.pure _))) rfl
  rw [if_neg hlen]
  refine Goes.rule _ _ (n := 221) ?_
  have h := long_goes (w := w) (q := q) (b := []) (gens := gens) (drawn := drawn) (os := os) rfl h11 l [] 0 toks m hm hA (fun e he => by cases he) (by rw [hl, sizeLine_eq]; decide)
  rw [hl] at h
  exact Goes.cast (n := 221 + 0) (Goes.bind h (Goes.pure _)) rfl
theorem sub_short {l : List (Int × PySem.Str)} {m : Int} (h11 : 11 ≤ a.length) (hl : l.length ≤ 15) (hm : 0 ≤ m) (hA : Asc m l) :
    Goes w ⟨⟨a.toArray, {}⟩, gens, drawn, toks, os⟩ q (subDict (l.map (pK q))) (1 + 13 * l.length) a.length ⟨HH a (dObj (shortE toks l) l.length) [], gens, drawn, toks + 3 * l.length, os⟩ q := by
  unfold subDict
  have hlen : (l.map (pK q)).length ≤ 15 := by simp; omega
  refine Goes.cast (n := 1 + (13 * l.length + 0)) (Goes.bind alloc_goes (Goes.bind (a := ()) (f := fun _ => Sem.pure a.length) (Goes.holding _ ?_) (Goes.pure _))) rfl
  rw [if_pos hlen]
  have h := short_goes (w := w) (q := q) (b := []) (gens := gens) (drawn := drawn) (os := os) rfl h11 l [] 0 (toks + 2 * l.length) toks m hm hA (fun e he => by cases he) (by rw [sizeLine_eq]; simp; omega)
  rw [show toks + 2 * l.length + l.length = toks + 3 * l.length by omega, Nat.zero_add] at h
  refine Goes.cast (n := 3 * l.length + (10 * l.length + 0)) (Goes.bind (pairs_goes l toks _) (Goes.holding _ (Goes.bind h (Goes.pure _)))) rfl (by omega) rfl
end
theorem sub_dict : isSubtype (.type "dict") (.type "dict") = pure true := by rw [isSubtype_type]; kernel_rfl
theorem look_dict_iter : typeLookup (.type "dict") "__iter__" = pure (some (.builtin "dict.__iter__")) := by rw [typeLookup_type, builtinLookup_eq_fast]; kernel_rfl
theorem HH_get2 {a ss : List Obj} {X : Obj} {es n} {x : Nat} (hx : x = a.length + 1 + ss.length) : (HH a X (ss ++ [dObj es n])).get? x = some (dObj es n) := by
  rw [HH_sub]
  have h : x = (a ++ X :: ss).length := by
    rw [List.length_append, List.length_cons, hx]; omega
  exact HH_get h
section
variable {w : World} {p q : Pos} {d x : Nat} {es es2 : List DictEntry} {n n2 : Nat} {a ss : List Obj} {gens : Array GenState} {drawn : Drawn} {toks : Nat} {os : OsState}
theorem load_goes {s : Shd} {b : Addr} {part : Option Value} {o : Obj} (ho : s.heap.get? b = some o) : Goes w s q (loadPart b part) 1 o s q := Goes.load _ ho (Goes.pure _)
theorem entries_goes {s : Shd} {b : Addr} {part : Option Value} (ho : s.heap.get? b = some (dObj es n)) : Goes w s q (dictEntries b part) 1 es.toArray s q := by
  unfold dictEntries
  exact Goes.cast (n := 1 + 0) (Goes.bind (load_goes ho) (Goes.pure _)) rfl
theorem epoch_goes {s : Shd} {b : Addr} {part : Option Value} (ho : s.heap.get? b = some (dObj es n)) : Goes w s q (dictEpoch b part) 1 n s q := by
  unfold dictEpoch
  exact Goes.cast (n := 1 + 0) (Goes.bind (load_goes ho) (Goes.pure _)) rfl
theorem put_goes {i : Int} {t : Tok} {v : Value} {b : List Obj} (hd : d = a.length) (h11 : 11 ≤ d) (hn : ∀ e ∈ es, e.hash ≠ i) (hs : es.length < sizeLine) :
    Goes w ⟨HH a (dObj es n) b, gens, drawn, toks, os⟩ p (dictPut d i (.int i t) v) 4 () ⟨HH a (dObj (es ++ [⟨i, .int i t, v⟩]) (n + 1)) b, gens, drawn, toks, os⟩ p := by
  unfold dictPut
  refine Goes.cast (n := 1 + 3) (Goes.bind (find_goes (es := es) (n := n) (HH_get hd) hn) ?_) rfl
  exact updK_goes h11 (HH_get hd) (es' := es ++ [⟨i, .int i t, v⟩]) (by simp) (by simp; omega) (HH_upd hd) (HH_get hd) (by rw [HH_upd hd]; congr 1; simp [Obj.mapDictKeys])
/-- entries of int keys in rising order -/
noncomputable def Rise : Int → List DictEntry → Prop
  | _, [] => True
  | m, e :: r => m < e.hash ∧ (∃ t, e.key = .int e.hash t) ∧ Rise e.hash r
theorem Rise.get : ∀ {l : List DictEntry} {m : Int} {k : Nat} {e : DictEntry}, Rise m l → l[k]? = some e → (∃ t, e.key = .int e.hash t) ∧ m < e.hash ∧ ∀ e' ∈ l.take k, e'.hash < e.hash
  | [], _, _, _, _, h => by simp at h
  | x :: l, m, 0, e, ⟨h1, h2, h3⟩, h => by
    obtain rfl : x = e := by simpa using h
    exact ⟨h2, h1, fun e' he => by simp at he⟩
  | x :: l, m, k + 1, e, ⟨h1, h2, h3⟩, h => by
    obtain ⟨a, b, c⟩ := h3.get (k := k) (by simpa using h)
    exact ⟨a, by omega, fun e' he => by
      rw [List.take_succ_cons] at he
      rcases List.mem_cons.mp he with rfl | he
      · exact b
      · exact c e' he⟩
theorem merge_loop {f : Nat → PUnit → Sem (ForInStep PUnit)} {b : List Obj} {size : Nat} (hz : size = es2.length) 
    (hf : ∀ k e, es2[k]? = some e → k < size → Goes w ⟨HH a (dObj (es ++ es2.take k) (n + k)) b, gens, drawn, toks, os⟩ q (f k ()) 6 (.yield ()) ⟨HH a (dObj (es ++ es2.take (k + 1)) (n + (k + 1))) b, gens, drawn, toks, os⟩ q) :
    ∀ (m k : Nat), k + m = size → Goes w ⟨HH a (dObj (es ++ es2.take k) (n + k)) b, gens, drawn, toks, os⟩ q (forIn (List.range' k m) PUnit.unit f) (6 * m) () ⟨HH a (dObj (es ++ es2) (n + es2.length)) b, gens, drawn, toks, os⟩ q
  | 0, k, h => by
    have : k = es2.length := by omega
    subst this
    rw [List.take_of_length_le (Nat.le_refl _)]
    exact Goes.pure _
  | m + 1, k, h => by
    rw [List.range'_succ, List.forIn_cons]
    have hk : k < es2.length := by omega
    exact Goes.cast (Goes.bind (hf k es2[k] (by simp) (by omega)) (merge_loop hz hf m (k + 1) (by omega))) rfl (by omega) rfl
theorem merge_goes {m : Int} (hd : d = a.length) (h11 : 11 ≤ d) (hx : x = a.length + 1 + ss.length) (hne : es ≠ []) (B : Bnd es m) (R : Rise m es2) (hs : es.length + es2.length < sizeLine) :
    Goes w ⟨HH a (dObj es n) (ss ++ [dObj es2 n2]), gens, drawn, toks, os⟩ q (mergeMapping d (.ref x) false) (5 + 6 * es2.length) () ⟨HH a (dObj (es ++ es2) (n + es2.length)) (ss ++ [dObj es2 n2]), gens, drawn, toks, os⟩ q := by
  have G2 : ∀ (X : Obj), (HH a X (ss ++ [dObj es2 n2])).get? x = some (dObj es2 n2) := fun X => HH_get2 hx
  unfold mergeMapping
  have h1 : ∀ s : Shd, s.heap.get? x = some (dObj es2 n2) → Goes w s q (isInstance (.ref x) (.type "dict")) 1 true s q := fun s ho => by
    unfold isInstance typeOf
    refine Goes.cast (n := 1 + 0) (Goes.bind (Goes.cast (n := 1 + 0) (Goes.bind (load_goes ho) (Goes.pure _)) rfl) ?_) rfl
    show Goes w s q (isSubtype (.type "dict") (.type "dict")) 0 true s q
    rw [sub_dict]; exact Goes.pure _
  have h2 : ∀ s : Shd, s.heap.get? x = some (dObj es2 n2) → Goes w s q (specialOf (.ref x) "__iter__") 1 (some (.builtin "dict.__iter__")) s q := fun s ho => by
    unfold specialOf typeOf
    refine Goes.cast (n := 1 + 0) (Goes.bind (Goes.cast (n := 1 + 0) (Goes.bind (load_goes ho) (Goes.pure _)) rfl) ?_) rfl
    show Goes w s q (typeLookup (.type "dict") "__iter__") 0 _ s q
    rw [look_dict_iter]; exact Goes.pure _
  refine Goes.cast (n := 1 + (1 + (1 + (1 + (1 + (6 * es2.length + 0)))))) (Goes.bind (h1 _ (G2 _)) ?_) rfl (by omega) rfl
  dsimp only
  rw [if_pos rfl]
  refine Goes.bind (h2 _ (G2 _)) ?_
  have hb : ((some (Value.builtin "dict.__iter__") : Option Value) == some (.builtin "dict.__iter__")) = true := by decide
  refine Goes.cast (n := 0 + (1 + (1 + (1 + (6 * es2.length + 0))))) (Goes.bind (Goes.pure _) ?_) rfl (by omega) rfl
  rw [hb]
  dsimp only
  have hsm : (x == sysModules) = false := by
    have : sysModules = 1 := rfl
    rw [this, beq_eq_false_iff_ne]; omega
  rw [hsm, if_neg (by decide)]
  refine Goes.bind (entries_goes (HH_get hd)) ?_
  have hem : es.toArray.isEmpty = false := by cases es <;> simp_all
  rw [hem, if_neg (by decide)]
  refine Goes.bind (entries_goes (G2 _)) ?_
  refine Goes.bind (epoch_goes (G2 _)) ?_
  refine Goes.bind (a := ()) (f := fun _ => Sem.pure ()) ?_ (Goes.pure _)
  rw [List.range_eq_range']
  rw [show dObj es n = dObj (es ++ es2.take 0) (n + 0) by simp]
  refine Goes.cast (merge_loop (size := es2.toArray.size) (by simp) ?hf es2.toArray.size 0 (by omega)) rfl (by simp) rfl
  case hf =>
    intro k e hk hlt
    obtain ⟨⟨t, hkey⟩, hme, htk⟩ := R.get hk
    refine Goes.cast (n := 1 + (4 + (1 + 0))) (Goes.bind (entries_goes (G2 _)) ?_) rfl
    have : es2.toArray[k]? = some e := by simpa using hk
    rw [this]
    dsimp only
    have hkl : k < es2.length := by
      rcases Nat.lt_or_ge k es2.length with h | h
      · exact h
      · rw [List.getElem?_eq_none h] at hk; cases hk
    have e1 : es ++ es2.take (k + 1) = (es ++ es2.take k) ++ [⟨e.hash, .int e.hash t, e.val⟩] := by
      rw [List.take_succ, hk, List.append_assoc]
      congr 2
      obtain ⟨h, ky, v⟩ := e
      simp only at hkey
      simp [hkey]
    have P := put_goes (w := w) (p := q) (d := d) (es := es ++ es2.take k) (n := n + k) (a := a) (b := ss ++ [dObj es2 n2]) (gens := gens) (drawn := drawn) (toks := toks) (os := os) (i := e.hash) (t := t) (v := e.val) hd h11 (fun e' he' => by
      rcases List.mem_append.mp he' with h | h
      · have := B e' h; omega
      · have := htk e' h; omega) (by rw [List.length_append, List.length_take]; omega)
    rw [e1, hkey]
    refine Goes.bind (a := ()) (Goes.holding _ (Goes.cast P (if_neg (by decide)).symm)) (Goes.bind (epoch_goes (G2 _)) ?_)
    rw [if_neg (by simp)]; exact Goes.pure _
end
noncomputable def runsE : Nat → List (List (Int × PySem.Str)) → List DictEntry
  | _, [] => []
  | t, c :: cs => longE t c ++ runsE (t + 51) cs
noncomputable def subsO : Nat → List (List (Int × PySem.Str)) → List Obj
  | _, [] => []
  | t, c :: cs => dObj (longE t c) 17 :: subsO (t + 51) cs
noncomputable def topK (m : Int) (cs : List (List (Int × PySem.Str))) : Int := cs.foldl lastK m
theorem Asc.split : ∀ {l r : List (Int × PySem.Str)} {m : Int}, Asc m (l ++ r) → Asc m l ∧ Asc (lastK m l) r
  | [], _, _, h => ⟨trivial, h⟩
  | _ :: _, _, _, ⟨h1, h2, h3⟩ => ⟨⟨h1, h2, h3.split.1⟩, h3.split.2⟩
theorem lastK_le : ∀ {l : List (Int × PySem.Str)} {m : Int}, Asc m l → m ≤ lastK m l
  | [], _, _ => Int.le_refl _
  | x :: l, m, ⟨h1, _, h3⟩ => by have := lastK_le h3; show m ≤ lastK x.1 l; omega
theorem rise_long : ∀ {l : List (Int × PySem.Str)} {m : Int} (t : Nat), Asc m l → Rise m (longE t l)
  | [], _, _, _ => trivial
  | _ :: _, _, t, ⟨h1, _, h3⟩ => ⟨h1, ⟨t, rfl⟩, rise_long (t + 3) h3⟩
theorem rise_short : ∀ {l : List (Int × PySem.Str)} {m : Int} (t : Nat), Asc m l → Rise m (shortE t l)
  | [], _, _, _ => trivial
  | _ :: _, _, t, ⟨h1, _, h3⟩ => ⟨h1, ⟨t, rfl⟩, rise_short (t + 2) h3⟩
theorem bnd_long : ∀ {l : List (Int × PySem.Str)} {m : Int} (t : Nat), Asc m l → Bnd (longE t l) (lastK m l)
  | [], _, _, _ => fun e he => by cases he
  | x :: l, m, t, ⟨h1, _, h3⟩ => fun e he => by
    rcases List.mem_cons.mp he with rfl | he
    · exact lastK_le h3
    · exact bnd_long (t + 3) h3 e he
theorem long_len : ∀ (t : Nat) (l : List (Int × PySem.Str)), (longE t l).length = l.length
  | _, [] => rfl
  | t, x :: l => by simp [longE, long_len (t + 3) l]
theorem short_len : ∀ (t : Nat) (l : List (Int × PySem.Str)), (shortE t l).length = l.length
  | _, [] => rfl
  | t, x :: l => by simp [shortE, short_len (t + 2) l]
theorem Bnd.app {e1 e2 : List DictEntry} {m m' : Int} (h1 : Bnd e1 m) (h2 : Bnd e2 m') (h : m ≤ m') : Bnd (e1 ++ e2) m' := fun e he => by
  rcases List.mem_append.mp he with he | he
  · have := h1 e he; omega
  · exact h2 e he
section
variable {w : World} {q : Pos} {a ss : List Obj} {gens : Array GenState} {drawn : Drawn} {os : OsState}
theorem run_goes {c : List (Int × PySem.Str)} {es : List DictEntry} {n toks : Nat} {m : Int} (h11 : 11 ≤ a.length) (hl : c.length = 17) (hm : 0 ≤ m) (hA : Asc m c) (hne : es ≠ []) (B : Bnd es m) (hs : es.length + 17 < sizeLine) :
    Goes w ⟨HH a (dObj es n) ss, gens, drawn, toks, os⟩ q (addRun (c.map (pK q)) (some a.length)) 330 (some a.length) ⟨HH a (dObj (es ++ longE toks c) (n + 17)) (ss ++ [dObj (longE toks c) 17]), gens, drawn, toks + 51, os⟩ q := by
  unfold addRun
  have h := sub_long (w := w) (q := q) (a := a ++ dObj es n :: ss) (gens := gens) (drawn := drawn) (os := os) (toks := toks) (by simp; omega) hl hm hA
  rw [← HH_sub] at h
  have hlen : (a ++ dObj es n :: ss).length = a.length + 1 + ss.length := by rw [List.length_append, List.length_cons]; omega
  have hm2 := merge_goes (w := w) (q := q) (d := a.length) (x := a.length + 1 + ss.length) (es := es) (es2 := longE toks c) (n := n) (n2 := 17) (a := a) (ss := ss) (gens := gens) (drawn := drawn) (toks := toks + 51) (os := os) (m := m) rfl h11 rfl hne B (rise_long toks hA) (by rw [long_len, hl]; exact hs)
  rw [long_len, hl] at hm2
  rw [hlen] at h
  exact Goes.cast (n := 223 + (107 + 0)) (Goes.bind (Goes.holding _ h) (Goes.bind (a := ()) (f := fun _ => Sem.pure (some a.length)) (Goes.onRaise _ (Goes.holding _ hm2)) (Goes.pure _))) rfl
theorem runs_goes (h11 : 11 ≤ a.length) : ∀ (cs : List (List (Int × PySem.Str))) (es : List DictEntry) (n toks : Nat) (ss : List Obj) (m : Int), (∀ c ∈ cs, c.length = 17) → 0 ≤ m → Asc m cs.flatten → es ≠ [] → Bnd es m → es.length + 17 * cs.length < sizeLine →
    Goes w ⟨HH a (dObj es n) ss, gens, drawn, toks, os⟩ q (addRuns (cs.map (·.map (pK q))) (some a.length)) (330 * cs.length) (some a.length) ⟨HH a (dObj (es ++ runsE toks cs) (n + 17 * cs.length)) (ss ++ subsO toks cs), gens, drawn, toks + 51 * cs.length, os⟩ q
  | [], es, n, toks, ss, m, _, _, _, _, _, _ => by
    simp only [runsE, subsO, List.append_nil, List.length_nil, Nat.mul_zero, Nat.add_zero]
    exact Goes.pure _
  | c :: cs, es, n, toks, ss, m, hc, hm, hA, hne, B, hs => by
    rw [List.flatten_cons] at hA
    obtain ⟨A1, A2⟩ := hA.split
    have hlc := hc c (.head _)
    have ih := runs_goes h11 cs (es ++ longE toks c) (n + 17) (toks + 51) (ss ++ [dObj (longE toks c) 17]) (lastK m c) (fun c' h => hc c' (.tail _ h)) (by have := lastK_le A1; omega) A2 (by simp [hne]) (B.app (bnd_long toks A1) (lastK_le A1)) (by rw [List.length_append, long_len, hlc]; rw [List.length_cons] at hs; omega)
    rw [List.append_assoc, List.append_assoc] at ih
    have h := Goes.bind (f := addRuns (cs.map (·.map (pK q)))) (run_goes (w := w) (q := q) (ss := ss) (gens := gens) (drawn := drawn) (os := os) (n := n) (toks := toks) h11 hlc hm A1 hne B (by rw [List.length_cons] at hs; omega)) ih
    rw [show n + 17 * (c :: cs).length = n + 17 + 17 * cs.length by rw [List.length_cons]; omega, show toks + 51 * (c :: cs).length = toks + 51 + 51 * cs.length by rw [List.length_cons]; omega]
    exact Goes.cast h rfl (by rw [List.length_cons]; omega) rfl
theorem display_goes {c : List (Int × PySem.Str)} {cs : List (List (Int × PySem.Str))} {last : List (Int × PySem.Str)} {toks : Nat} {m : Int} (h11 : 11 ≤ a.length) (hc : ∀ x ∈ c :: cs, x.length = 17) (hl : last.length < 16) (hne : last ≠ []) (hm : 0 ≤ m)
    (hA : Asc m ((c :: cs).flatten ++ last)) (hs : 17 * cs.length + 40 < sizeLine) :
    Goes w ⟨⟨a.toArray, {}⟩, gens, drawn, toks, os⟩ q (dictDisplay (((c :: cs).flatten ++ last).map fun x => (some (pK q x).1, (pK q x).2))) (223 + (330 * cs.length + (6 + 19 * last.length))) (.ref a.length)
      ⟨HH a (dObj (longE toks c ++ runsE (toks + 51) cs ++ shortE (toks + 51 + 51 * cs.length) last) (17 + 17 * cs.length + last.length)) (subsO (toks + 51) cs ++ [dObj (shortE (toks + 51 + 51 * cs.length) last) last.length]), gens, drawn, toks + 51 + 51 * cs.length + 3 * last.length, os⟩ q := by
  have e : ((c :: cs).flatten ++ last).map (fun x => ((some (pK q x).1, (pK q x).2) : Option (Sem Value) × Sem Value)) = (((c :: cs).map (·.map (pK q))).flatten ++ last.map (pK q)).map (fun p => (some p.1, p.2)) := by
    rw [← List.map_flatten, ← List.map_append, List.map_map]; rfl
  rw [e, display_runs _ _ (by simp; omega) (by simpa using hne) (fun x hx => by
    obtain ⟨y, hy, rfl⟩ := List.mem_map.mp hx
    rw [List.length_map]; exact hc y hy)]
  obtain ⟨A0, A3⟩ := hA.split
  rw [List.flatten_cons] at A0
  obtain ⟨A1, A2⟩ := A0.split
  have hlc := hc c (.head _)
  have h1 := sub_long (w := w) (q := q) (a := a) (gens := gens) (drawn := drawn) (os := os) (toks := toks) h11 hlc hm A1
  have hn1 : longE toks c ≠ [] := by
    intro h
    have := long_len toks c
    rw [h, hlc] at this; cases this
  have h2 := runs_goes (w := w) (q := q) (gens := gens) (drawn := drawn) (os := os) h11 cs (longE toks c) 17 (toks + 51) [] (lastK m c) (fun x h => hc x (.tail _ h)) (by have := lastK_le A1; omega) A2 hn1 (bnd_long toks A1) (by rw [long_len, hlc]; omega)
  rw [List.nil_append] at h2
  have hM : lastK m (c :: cs).flatten = lastK (lastK m c) cs.flatten := by
    rw [List.flatten_cons]
    have : ∀ (l r : List (Int × PySem.Str)) (m : Int), lastK m (l ++ r) = lastK (lastK m l) r := fun l => by
      induction l with
      | nil => intro r m; rfl
      | cons x l ih => intro r m; exact ih r x.1
    exact this _ _ _
  have hB : ∀ (cs : List (List (Int × PySem.Str))) (t : Nat) (m : Int), Asc m cs.flatten → Bnd (runsE t cs) (lastK m cs.flatten) := fun cs => by
    induction cs with
    | nil => intro t m _ e he; cases he
    | cons x cs ih =>
      intro t m hA
      rw [List.flatten_cons] at hA ⊢
      obtain ⟨a1, a2⟩ := hA.split
      have this : ∀ (l r : List (Int × PySem.Str)) (m : Int), lastK m (l ++ r) = lastK (lastK m l) r := fun l => by
        induction l with
        | nil => intro r m; rfl
        | cons x l ih => intro r m; exact ih r x.1
      rw [this]
      exact (bnd_long t a1).app (ih (t + 51) _ a2) (lastK_le a2)
  have hr : ∀ (cs : List (List (Int × PySem.Str))) (t : Nat), (∀ x ∈ cs, x.length = 17) → (runsE t cs).length = 17 * cs.length := fun cs => by
    induction cs with
    | nil => intro t _; rfl
    | cons x cs ih => intro t h; rw [runsE, List.length_append, long_len, h x (.head _), ih (t + 51) (fun y hy => h y (.tail _ hy)), List.length_cons]; omega
  have h3 := sub_short (w := w) (q := q) (l := last) (a := a ++ dObj (longE toks c ++ runsE (toks + 51) cs) (17 + 17 * cs.length) :: subsO (toks + 51) cs) (gens := gens) (drawn := drawn) (os := os) (toks := toks + 51 + 51 * cs.length) (m := lastK m (c :: cs).flatten) (by rw [List.length_append]; omega) (by omega)
    (by rw [hM]; have := lastK_le A1; have := lastK_le A2; omega) A3
  rw [← HH_sub, show (a ++ dObj (longE toks c ++ runsE (toks + 51) cs) (17 + 17 * cs.length) :: subsO (toks + 51) cs).length = a.length + 1 + (subsO (toks + 51) cs).length by rw [List.length_append, List.length_cons]; omega] at h3
  have h4 := merge_goes (w := w) (q := q) (d := a.length) (x := a.length + 1 + (subsO (toks + 51) cs).length) (es := longE toks c ++ runsE (toks + 51) cs) (es2 := shortE (toks + 51 + 51 * cs.length) last) (n := 17 + 17 * cs.length) (n2 := last.length) (a := a) (ss := subsO (toks + 51) cs) (gens := gens) (drawn := drawn) (toks := toks + 51 + 51 * cs.length + 3 * last.length) (os := os) (m := lastK m (c :: cs).flatten) rfl h11 rfl
    (by intro h; exact hn1 (List.append_eq_nil_iff.mp h).1) (by rw [hM]; exact (bnd_long toks A1).app (hB cs _ _ A2) (lastK_le A2)) (rise_short _ A3) (by rw [List.length_append, long_len, hlc, hr cs _ (fun x h => hc x (.tail _ h)), short_len]; omega)
  rw [short_len] at h4
  have k1 : Goes w ⟨⟨a.toArray, {}⟩, gens, drawn, toks, os⟩ q (addRuns ((c :: cs).map (·.map (pK q))) none) (223 + 330 * cs.length) (some a.length) _ q :=
    Goes.cast (n := 223 + 0 + 330 * cs.length) (Goes.bind (f := addRuns (cs.map (·.map (pK q)))) (Goes.bind (f := fun a => Sem.pure (some a)) h1 (Goes.pure _)) h2) rfl
  have k2 := Goes.bind (f := fun sub => ((holding [.ref a.length, .ref sub] (mergeMapping a.length (.ref sub) false)).onRaise (fun x => (holding [.ref a.length, x] (runValue (.builtin "proto.let_go" {}))).bind fun _ => .pure ())).bind fun _ => .pure (some a.length)) (Goes.holding [.ref a.length] h3)
    (Goes.bind (f := fun _ => Sem.pure (some a.length)) (Goes.onRaise (fun x => (holding [.ref a.length, x] (runValue (.builtin "proto.let_go" {}))).bind fun _ => .pure ()) (Goes.holding [.ref a.length, .ref (a.length + 1 + (subsO (toks + 51) cs).length)] h4)) (Goes.pure _))
  have k3 : Goes w _ q (addRun (last.map (pK q)) (some a.length)) (6 + 19 * last.length) (some a.length) _ q := Goes.cast k2 rfl (by omega) rfl
  exact Goes.cast (n := (223 + 330 * cs.length) + ((6 + 19 * last.length) + 0)) (Goes.bind k1 (Goes.bind (f := fun r => match r with | some d => Sem.pure (Value.ref d) | none => newDict) k3 (Goes.pure (Value.ref a.length)))) rfl (by omega) rfl
end
end
end Mine

-- part H2
set_option linter.all false
namespace Mine
open PySem PySem.W PySem.Calls PyProof.Rows
set_option Elab.async false
set_option maxRecDepth 100000
noncomputable section

noncomputable def opre_11 (P : Params) : Obj := ⟨.type "tuple", none, .seq #[] 0, #[]⟩
noncomputable def opre_12 (P : Params) : Obj := ⟨.none, none, .fields #[], #[]⟩
noncomputable def opre_13 (P : Params) : Obj := ⟨.type "code", none, .fields #[.str (S "<module>") 182, .str (S "<module>") 183, .str (S "/claim/cut.py") 184, .int (1) 0, .int (0) 0, .int (0) 0, .int (0) 0, .int (0) 0, .ref 11, .bool false, .int (181) 0, .ref 12, .none, .none, .none, .none, .int (185) 0, .int (1) 0, .str (S "/claim/cut.py") 186], #[]⟩
noncomputable def opre_14 (P : Params) : Obj := ⟨.type "frame", none, .plain, #[(some (.ref 13)), (some (.ref 3)), (some (.ref 3)), none, (some (.str (S "__main__") 164)), none, (some (.ref 0))]⟩
noncomputable def heap_pre (P : Params) : Heap := ⟨⟨[PySem.W.boot_o_0 P, PySem.W.boot_o_1 P, PySem.W.boot_o_2 P, PySem.W.boot_o_3 P, PySem.W.boot_o_4 P, PySem.W.boot_o_5 P, PySem.W.boot_o_6 P, PySem.W.boot_o_7 P, PySem.W.boot_o_8 P, PySem.W.boot_o_9 P, PySem.W.boot_o_10 P, opre_11 P, opre_12 P, opre_13 P, opre_14 P]⟩, {}⟩
noncomputable def tblock (P : Params) : BT := (.node (PySem.W.boot_o_0 P) (.node (PySem.W.boot_o_1 P) (.node (PySem.W.boot_o_3 P) (.node (PySem.W.boot_o_7 P) .nil .nil) (.node (opre_11 P) .nil .nil)) (.node (PySem.W.boot_o_5 P) (.node (PySem.W.boot_o_9 P) .nil .nil) (.node (opre_13 P) .nil .nil))) (.node (PySem.W.boot_o_2 P) (.node (PySem.W.boot_o_4 P) (.node (PySem.W.boot_o_8 P) .nil .nil) (.node (opre_12 P) .nil .nil)) (.node (PySem.W.boot_o_6 P) (.node (PySem.W.boot_o_10 P) .nil .nil) (.node (opre_14 P) .nil .nil))))
noncomputable abbrev sblock (w : World) (os : OsState) : SharedT := ⟨tblock w.params, 15, {}, #[], {}, 187, os⟩
noncomputable def op1_15 (P : Params) : Obj := ⟨.type "tuple", none, .seq #[.int (0) 189, .none] 0, #[]⟩
noncomputable def op1_16 (P : Params) : Obj := ⟨.type "dict", none, .dict #[⟨PyData.keyHash P (S "key"), .str (S "key") 190, .none⟩] 1, #[]⟩
noncomputable def op1_17 (P : Params) : Obj := ⟨.type "tuple", none, .seq #[] 0, #[]⟩
noncomputable def op1_18 (P : Params) : Obj := ⟨.none, none, .fields #[], #[]⟩
noncomputable def op1_19 (P : Params) : Obj := ⟨.type "tuple", none, .seq #[.str (S "a") 194, .str (S "x") 195, .str (S "lo") 196, .str (S "hi") 197, .str (S "key") 198] 0, #[]⟩
noncomputable def op1_20 (P : Params) : Obj := ⟨.type "tuple", none, .seq #[] 0, #[]⟩
noncomputable def op1_21 (P : Params) : Obj := ⟨.none, none, .func (fn 1 (0) 0 (.none) (.none) (.none) (.none) (none) (.none) (.none) 0), #[]⟩
noncomputable def op1_22 (P : Params) : Obj := ⟨.type "code", none, .fields #[.str (S "insort_right") 191, .str (S "insort_right") 192, .str (S "/claim/cut.py") 193, .int (2) 0, .int (4) 0, .int (0) 0, .int (1) 0, .int (3) 0, .ref 17, .bool true, .int (181) 0, .ref 18, .none, .ref 19, .ref 20, .ref 21, .int (199) 0, .int (2) 0, .str (S "/claim/cut.py") 200], #[]⟩
noncomputable def op1_23 (P : Params) : Obj := ⟨.type "function", none, .func (fn 1 (3) 0 (.ref 15) (.ref 16) (.none) (.str (S "cpy313.bisect") 187) (none) (.ref 22) (.none) 0), #[]⟩
noncomputable def op2_24 (P : Params) : Obj := ⟨.type "tuple", none, .seq #[.int (0) 202, .none] 0, #[]⟩
noncomputable def op2_25 (P : Params) : Obj := ⟨.type "dict", none, .dict #[⟨PyData.keyHash P (S "key"), .str (S "key") 203, .none⟩] 1, #[]⟩
noncomputable def op2_26 (P : Params) : Obj := ⟨.type "tuple", none, .seq #[] 0, #[]⟩
noncomputable def op2_27 (P : Params) : Obj := ⟨.none, none, .fields #[], #[]⟩
noncomputable def op2_28 (P : Params) : Obj := ⟨.type "tuple", none, .seq #[.str (S "a") 207, .str (S "x") 208, .str (S "lo") 209, .str (S "hi") 210, .str (S "key") 211, .str (S "mid") 212] 0, #[]⟩
noncomputable def op2_29 (P : Params) : Obj := ⟨.type "tuple", none, .seq #[] 0, #[]⟩
noncomputable def op2_30 (P : Params) : Obj := ⟨.none, none, .func (fn 2 (0) 0 (.none) (.none) (.none) (.none) (none) (.none) (.none) 0), #[]⟩
noncomputable def op2_31 (P : Params) : Obj := ⟨.type "code", none, .fields #[.str (S "bisect_right") 204, .str (S "bisect_right") 205, .str (S "/claim/cut.py") 206, .int (8) 0, .int (4) 0, .int (0) 0, .int (1) 0, .int (3) 0, .ref 26, .bool true, .int (181) 0, .ref 27, .none, .ref 28, .ref 29, .ref 30, .int (213) 0, .int (8) 0, .str (S "/claim/cut.py") 214], #[]⟩
noncomputable def op2_32 (P : Params) : Obj := ⟨.type "function", none, .func (fn 2 (3) 0 (.ref 24) (.ref 25) (.none) (.str (S "cpy313.bisect") 187) (none) (.ref 31) (.none) 0), #[]⟩
noncomputable def op3_33 (P : Params) : Obj := ⟨.type "tuple", none, .seq #[.int (0) 216, .none] 0, #[]⟩
noncomputable def op3_34 (P : Params) : Obj := ⟨.type "dict", none, .dict #[⟨PyData.keyHash P (S "key"), .str (S "key") 217, .none⟩] 1, #[]⟩
noncomputable def op3_35 (P : Params) : Obj := ⟨.type "tuple", none, .seq #[] 0, #[]⟩
noncomputable def op3_36 (P : Params) : Obj := ⟨.none, none, .fields #[], #[]⟩
noncomputable def op3_37 (P : Params) : Obj := ⟨.type "tuple", none, .seq #[.str (S "a") 221, .str (S "x") 222, .str (S "lo") 223, .str (S "hi") 224, .str (S "key") 225] 0, #[]⟩
noncomputable def op3_38 (P : Params) : Obj := ⟨.type "tuple", none, .seq #[] 0, #[]⟩
noncomputable def op3_39 (P : Params) : Obj := ⟨.none, none, .func (fn 3 (0) 0 (.none) (.none) (.none) (.none) (none) (.none) (.none) 0), #[]⟩
noncomputable def op3_40 (P : Params) : Obj := ⟨.type "code", none, .fields #[.str (S "insort_left") 218, .str (S "insort_left") 219, .str (S "/claim/cut.py") 220, .int (28) 0, .int (4) 0, .int (0) 0, .int (1) 0, .int (3) 0, .ref 35, .bool true, .int (181) 0, .ref 36, .none, .ref 37, .ref 38, .ref 39, .int (226) 0, .int (28) 0, .str (S "/claim/cut.py") 227], #[]⟩
noncomputable def op3_41 (P : Params) : Obj := ⟨.type "function", none, .func (fn 3 (3) 0 (.ref 33) (.ref 34) (.none) (.str (S "cpy313.bisect") 187) (none) (.ref 40) (.none) 0), #[]⟩
noncomputable def op4_3 (P : Params) : Obj := ⟨.type "dict", none, .dict #[⟨PyData.keyHash P (S "__name__"), .str (S "__name__") 165, .str (S "cpy313.bisect") 187⟩, ⟨PyData.keyHash P (S "__doc__"), .str (S "__doc__") 166, .none⟩, ⟨PyData.keyHash P (S "__package__"), .str (S "__package__") 167, .none⟩, ⟨PyData.keyHash P (S "__loader__"), .str (S "__loader__") 168, .builtin "__main__.__loader__#opaque"⟩, ⟨PyData.keyHash P (S "__spec__"), .str (S "__spec__") 169, .none⟩, ⟨PyData.keyHash P (S "__annotations__"), .str (S "__annotations__") 170, .ref 6⟩, ⟨PyData.keyHash P (S "__builtins__"), .str (S "__builtins__") 171, .ref 4⟩, ⟨PyData.keyHash P (S "__file__"), .str (S "__file__") 173, .str (S "/claim/cut.py") 172⟩, ⟨PyData.keyHash P (S "__cached__"), .str (S "__cached__") 174, .none⟩, ⟨PyData.keyHash P (S "insort_right"), .str (S "insort_right") 201, .ref 23⟩, ⟨PyData.keyHash P (S "bisect_right"), .str (S "bisect_right") 215, .ref 32⟩, ⟨PyData.keyHash P (S "insort_left"), .str (S "insort_left") 228, .ref 41⟩, ⟨PyData.keyHash P (S "bisect_left"), .str (S "bisect_left") 242, .ref 50⟩] 13, #[]⟩
noncomputable def op4_12 (P : Params) : Obj := ⟨.none, none, .fields #[.int (2) 0, .int (0) 0, .ref 22, .int (8) 0, .int (0) 0, .ref 31, .int (28) 0, .int (0) 0, .ref 40, .int (34) 0, .int (0) 0, .ref 49], #[]⟩
noncomputable def op4_42 (P : Params) : Obj := ⟨.type "tuple", none, .seq #[.int (0) 229, .none] 0, #[]⟩
noncomputable def op4_43 (P : Params) : Obj := ⟨.type "dict", none, .dict #[⟨PyData.keyHash P (S "key"), .str (S "key") 230, .none⟩] 1, #[]⟩
noncomputable def op4_44 (P : Params) : Obj := ⟨.type "tuple", none, .seq #[] 0, #[]⟩
noncomputable def op4_45 (P : Params) : Obj := ⟨.none, none, .fields #[], #[]⟩
noncomputable def op4_46 (P : Params) : Obj := ⟨.type "tuple", none, .seq #[.str (S "a") 234, .str (S "x") 235, .str (S "lo") 236, .str (S "hi") 237, .str (S "key") 238, .str (S "mid") 239] 0, #[]⟩
noncomputable def op4_47 (P : Params) : Obj := ⟨.type "tuple", none, .seq #[] 0, #[]⟩
noncomputable def op4_48 (P : Params) : Obj := ⟨.none, none, .func (fn 4 (0) 0 (.none) (.none) (.none) (.none) (none) (.none) (.none) 0), #[]⟩
noncomputable def op4_49 (P : Params) : Obj := ⟨.type "code", none, .fields #[.str (S "bisect_left") 231, .str (S "bisect_left") 232, .str (S "/claim/cut.py") 233, .int (34) 0, .int (4) 0, .int (0) 0, .int (1) 0, .int (3) 0, .ref 44, .bool true, .int (181) 0, .ref 45, .none, .ref 46, .ref 47, .ref 48, .int (240) 0, .int (34) 0, .str (S "/claim/cut.py") 241], #[]⟩
noncomputable def op4_50 (P : Params) : Obj := ⟨.type "function", none, .func (fn 4 (3) 0 (.ref 42) (.ref 43) (.none) (.str (S "cpy313.bisect") 187) (none) (.ref 49) (.none) 0), #[]⟩
noncomputable def tp4 (P : Params) : BT := (.node (PySem.W.boot_o_0 P) (.node (PySem.W.boot_o_1 P) (.node (op4_3 P) (.node (PySem.W.boot_o_7 P) (.node (op1_15 P) (.node (op2_31 P) .nil .nil) (.node (op4_47 P) .nil .nil)) (.node (op1_23 P) (.node (op3_39 P) .nil .nil) .nil)) (.node (opre_11 P) (.node (op1_19 P) (.node (op3_35 P) .nil .nil) .nil) (.node (op2_27 P) (.node (op4_43 P) .nil .nil) .nil))) (.node (PySem.W.boot_o_5 P) (.node (PySem.W.boot_o_9 P) (.node (op1_17 P) (.node (op3_33 P) .nil .nil) (.node (op4_49 P) .nil .nil)) (.node (op2_25 P) (.node (op3_41 P) .nil .nil) .nil)) (.node (opre_13 P) (.node (op1_21 P) (.node (op3_37 P) .nil .nil) .nil) (.node (op2_29 P) (.node (op4_45 P) .nil .nil) .nil)))) (.node (PySem.W.boot_o_2 P) (.node (PySem.W.boot_o_4 P) (.node (PySem.W.boot_o_8 P) (.node (op1_16 P) (.node (op2_32 P) .nil .nil) (.node (op4_48 P) .nil .nil)) (.node (op2_24 P) (.node (op3_40 P) .nil .nil) .nil)) (.node (op4_12 P) (.node (op1_20 P) (.node (op3_36 P) .nil .nil) .nil) (.node (op2_28 P) (.node (op4_44 P) .nil .nil) .nil))) (.node (PySem.W.boot_o_6 P) (.node (PySem.W.boot_o_10 P) (.node (op1_18 P) (.node (op3_34 P) .nil .nil) (.node (op4_50 P) .nil .nil)) (.node (op2_26 P) (.node (op4_42 P) .nil .nil) .nil)) (.node (opre_14 P) (.node (op1_22 P) (.node (op3_38 P) .nil .nil) .nil) (.node (op2_30 P) (.node (op4_46 P) .nil .nil) .nil)))))
noncomputable abbrev sp4 (w : World) (os : OsState) : SharedT := ⟨tp4 w.params, 51, {}, #[], {}, 243, os⟩
noncomputable def op6_51 (P : Params) : Obj := ⟨.type "tuple", none, .seq #[] 0, #[]⟩
noncomputable def op6_52 (P : Params) : Obj := ⟨.none, none, .fields #[], #[]⟩
noncomputable def op6_53 (P : Params) : Obj := ⟨.type "tuple", none, .seq #[.str (S "a") 248, .str (S "b") 249] 0, #[]⟩
noncomputable def op6_54 (P : Params) : Obj := ⟨.type "tuple", none, .seq #[] 0, #[]⟩
noncomputable def op6_55 (P : Params) : Obj := ⟨.none, none, .func (fn 6 (0) 0 (.none) (.none) (.none) (.none) (none) (.none) (.none) 0), #[]⟩
noncomputable def op6_56 (P : Params) : Obj := ⟨.type "code", none, .fields #[.str (S "ne") 245, .str (S "ne") 246, .str (S "/claim/cut.py") 247, .int (55) 0, .int (2) 0, .int (0) 0, .int (0) 0, .int (3) 0, .ref 51, .bool true, .int (181) 0, .ref 52, .none, .ref 53, .ref 54, .ref 55, .int (250) 0, .int (55) 0, .str (S "/claim/cut.py") 251], #[]⟩
noncomputable def op6_57 (P : Params) : Obj := ⟨.type "function", none, .func (fn 6 (3) 0 (.none) (.none) (.none) (.str (S "cpy313.operator") 243) (none) (.ref 56) (.none) 0), #[]⟩
noncomputable def op7_58 (P : Params) : Obj := ⟨.type "tuple", none, .seq #[] 0, #[]⟩
noncomputable def op7_59 (P : Params) : Obj := ⟨.none, none, .fields #[], #[]⟩
noncomputable def op7_60 (P : Params) : Obj := ⟨.type "tuple", none, .seq #[.str (S "a") 256, .str (S "b") 257] 0, #[]⟩
noncomputable def op7_61 (P : Params) : Obj := ⟨.type "tuple", none, .seq #[] 0, #[]⟩
noncomputable def op7_62 (P : Params) : Obj := ⟨.none, none, .func (fn 7 (0) 0 (.none) (.none) (.none) (.none) (none) (.none) (.none) 0), #[]⟩
noncomputable def op7_63 (P : Params) : Obj := ⟨.type "code", none, .fields #[.str (S "mul") 253, .str (S "mul") 254, .str (S "/claim/cut.py") 255, .int (57) 0, .int (2) 0, .int (0) 0, .int (0) 0, .int (3) 0, .ref 58, .bool true, .int (181) 0, .ref 59, .none, .ref 60, .ref 61, .ref 62, .int (258) 0, .int (57) 0, .str (S "/claim/cut.py") 259], #[]⟩
noncomputable def op7_64 (P : Params) : Obj := ⟨.type "function", none, .func (fn 7 (3) 0 (.none) (.none) (.none) (.str (S "cpy313.operator") 243) (none) (.ref 63) (.none) 0), #[]⟩
noncomputable def op8_65 (P : Params) : Obj := ⟨.type "tuple", none, .seq #[] 0, #[]⟩
noncomputable def op8_66 (P : Params) : Obj := ⟨.none, none, .fields #[], #[]⟩
noncomputable def op8_67 (P : Params) : Obj := ⟨.type "tuple", none, .seq #[.str (S "a") 264, .str (S "b") 265, .str (S "msg") 266] 0, #[]⟩
noncomputable def op8_68 (P : Params) : Obj := ⟨.type "tuple", none, .seq #[] 0, #[]⟩
noncomputable def op8_69 (P : Params) : Obj := ⟨.none, none, .func (fn 8 (0) 0 (.none) (.none) (.none) (.none) (none) (.none) (.none) 0), #[]⟩
noncomputable def op8_70 (P : Params) : Obj := ⟨.type "code", none, .fields #[.str (S "concat") 261, .str (S "concat") 262, .str (S "/claim/cut.py") 263, .int (59) 0, .int (2) 0, .int (0) 0, .int (0) 0, .int (3) 0, .ref 65, .bool true, .int (181) 0, .ref 66, .none, .ref 67, .ref 68, .ref 69, .int (267) 0, .int (59) 0, .str (S "/claim/cut.py") 268], #[]⟩
noncomputable def op8_71 (P : Params) : Obj := ⟨.type "function", none, .func (fn 8 (3) 0 (.none) (.none) (.none) (.str (S "cpy313.operator") 243) (none) (.ref 70) (.none) 0), #[]⟩
noncomputable def op9_72 (P : Params) : Obj := ⟨.type "tuple", none, .seq #[] 0, #[]⟩
noncomputable def op9_73 (P : Params) : Obj := ⟨.none, none, .fields #[], #[]⟩
noncomputable def op9_74 (P : Params) : Obj := ⟨.type "tuple", none, .seq #[.str (S "a") 273, .str (S "b") 274, .str (S "count") 275, .str (S "i") 276] 0, #[]⟩
noncomputable def op9_75 (P : Params) : Obj := ⟨.type "tuple", none, .seq #[] 0, #[]⟩
noncomputable def op9_76 (P : Params) : Obj := ⟨.none, none, .func (fn 9 (0) 0 (.none) (.none) (.none) (.none) (none) (.none) (.none) 0), #[]⟩
noncomputable def op9_77 (P : Params) : Obj := ⟨.type "code", none, .fields #[.str (S "countOf") 270, .str (S "countOf") 271, .str (S "/claim/cut.py") 272, .int (64) 0, .int (2) 0, .int (0) 0, .int (0) 0, .int (3) 0, .ref 72, .bool true, .int (181) 0, .ref 73, .none, .ref 74, .ref 75, .ref 76, .int (277) 0, .int (64) 0, .str (S "/claim/cut.py") 278], #[]⟩
noncomputable def op9_78 (P : Params) : Obj := ⟨.type "function", none, .func (fn 9 (3) 0 (.none) (.none) (.none) (.str (S "cpy313.operator") 243) (none) (.ref 77) (.none) 0), #[]⟩
noncomputable def op10_79 (P : Params) : Obj := ⟨.type "tuple", none, .seq #[] 0, #[]⟩
noncomputable def op10_80 (P : Params) : Obj := ⟨.none, none, .fields #[], #[]⟩
noncomputable def op10_81 (P : Params) : Obj := ⟨.type "tuple", none, .seq #[.str (S "a") 283, .str (S "b") 284] 0, #[]⟩
noncomputable def op10_82 (P : Params) : Obj := ⟨.type "tuple", none, .seq #[] 0, #[]⟩
noncomputable def op10_83 (P : Params) : Obj := ⟨.none, none, .func (fn 10 (0) 0 (.none) (.none) (.none) (.none) (none) (.none) (.none) 0), #[]⟩
noncomputable def op10_84 (P : Params) : Obj := ⟨.type "code", none, .fields #[.str (S "getitem") 280, .str (S "getitem") 281, .str (S "/claim/cut.py") 282, .int (70) 0, .int (2) 0, .int (0) 0, .int (0) 0, .int (3) 0, .ref 79, .bool true, .int (181) 0, .ref 80, .none, .ref 81, .ref 82, .ref 83, .int (285) 0, .int (70) 0, .str (S "/claim/cut.py") 286], #[]⟩
noncomputable def op10_85 (P : Params) : Obj := ⟨.type "function", none, .func (fn 10 (3) 0 (.none) (.none) (.none) (.str (S "cpy313.operator") 243) (none) (.ref 84) (.none) 0), #[]⟩
noncomputable def op11_12 (P : Params) : Obj := ⟨.none, none, .fields #[.int (2) 0, .int (0) 0, .ref 22, .int (8) 0, .int (0) 0, .ref 31, .int (28) 0, .int (0) 0, .ref 40, .int (34) 0, .int (0) 0, .ref 49, .int (55) 0, .int (0) 0, .ref 56, .int (57) 0, .int (0) 0, .ref 63, .int (59) 0, .int (0) 0, .ref 70, .int (64) 0, .int (0) 0, .ref 77, .int (70) 0, .int (0) 0, .ref 84, .int (72) 0, .int (0) 0, .ref 91], #[]⟩
noncomputable def op11_86 (P : Params) : Obj := ⟨.type "tuple", none, .seq #[] 0, #[]⟩
noncomputable def op11_87 (P : Params) : Obj := ⟨.none, none, .fields #[], #[]⟩
noncomputable def op11_88 (P : Params) : Obj := ⟨.type "tuple", none, .seq #[.str (S "a") 291, .str (S "b") 292, .str (S "i") 293, .str (S "j") 294] 0, #[]⟩
noncomputable def op11_89 (P : Params) : Obj := ⟨.type "tuple", none, .seq #[] 0, #[]⟩
noncomputable def op11_90 (P : Params) : Obj := ⟨.none, none, .func (fn 11 (0) 0 (.none) (.none) (.none) (.none) (none) (.none) (.none) 0), #[]⟩
noncomputable def op11_91 (P : Params) : Obj := ⟨.type "code", none, .fields #[.str (S "indexOf") 288, .str (S "indexOf") 289, .str (S "/claim/cut.py") 290, .int (72) 0, .int (2) 0, .int (0) 0, .int (0) 0, .int (3) 0, .ref 86, .bool true, .int (181) 0, .ref 87, .none, .ref 88, .ref 89, .ref 90, .int (295) 0, .int (72) 0, .str (S "/claim/cut.py") 296], #[]⟩
noncomputable def op11_92 (P : Params) : Obj := ⟨.type "function", none, .func (fn 11 (3) 0 (.none) (.none) (.none) (.str (S "cpy313.operator") 243) (none) (.ref 91) (.none) 0), #[]⟩
noncomputable def op12_3 (P : Params) : Obj := ⟨.type "dict", none, .dict #[⟨PyData.keyHash P (S "__name__"), .str (S "__name__") 165, .str (S "cpy313.stringprep") 298⟩, ⟨PyData.keyHash P (S "__doc__"), .str (S "__doc__") 166, .none⟩, ⟨PyData.keyHash P (S "__package__"), .str (S "__package__") 167, .none⟩, ⟨PyData.keyHash P (S "__loader__"), .str (S "__loader__") 168, .builtin "__main__.__loader__#opaque"⟩, ⟨PyData.keyHash P (S "__spec__"), .str (S "__spec__") 169, .none⟩, ⟨PyData.keyHash P (S "__annotations__"), .str (S "__annotations__") 170, .ref 6⟩, ⟨PyData.keyHash P (S "__builtins__"), .str (S "__builtins__") 171, .ref 4⟩, ⟨PyData.keyHash P (S "__file__"), .str (S "__file__") 173, .str (S "/claim/cut.py") 172⟩, ⟨PyData.keyHash P (S "__cached__"), .str (S "__cached__") 174, .none⟩, ⟨PyData.keyHash P (S "insort_right"), .str (S "insort_right") 201, .ref 23⟩, ⟨PyData.keyHash P (S "bisect_right"), .str (S "bisect_right") 215, .ref 32⟩, ⟨PyData.keyHash P (S "insort_left"), .str (S "insort_left") 228, .ref 41⟩, ⟨PyData.keyHash P (S "bisect_left"), .str (S "bisect_left") 242, .ref 50⟩, ⟨PyData.keyHash P (S "ne"), .str (S "ne") 252, .ref 57⟩, ⟨PyData.keyHash P (S "mul"), .str (S "mul") 260, .ref 64⟩, ⟨PyData.keyHash P (S "concat"), .str (S "concat") 269, .ref 71⟩, ⟨PyData.keyHash P (S "countOf"), .str (S "countOf") 279, .ref 78⟩, ⟨PyData.keyHash P (S "getitem"), .str (S "getitem") 287, .ref 85⟩, ⟨PyData.keyHash P (S "indexOf"), .str (S "indexOf") 297, .ref 92⟩] 19, #[]⟩
noncomputable def tp12 (P : Params) : BT := (.node (PySem.W.boot_o_0 P) (.node (PySem.W.boot_o_1 P) (.node (op12_3 P) (.node (PySem.W.boot_o_7 P) (.node (op1_15 P) (.node (op2_31 P) (.node (op7_63 P) .nil .nil) .nil) (.node (op4_47 P) (.node (op10_79 P) .nil .nil) .nil)) (.node (op1_23 P) (.node (op3_39 P) (.node (op8_71 P) .nil .nil) .nil) (.node (op6_55 P) (.node (op11_87 P) .nil .nil) .nil))) (.node (opre_11 P) (.node (op1_19 P) (.node (op3_35 P) (.node (op8_67 P) .nil .nil) .nil) (.node (op6_51 P) (.node (op10_83 P) .nil .nil) .nil)) (.node (op2_27 P) (.node (op4_43 P) (.node (op9_75 P) .nil .nil) .nil) (.node (op7_59 P) (.node (op11_91 P) .nil .nil) .nil)))) (.node (PySem.W.boot_o_5 P) (.node (PySem.W.boot_o_9 P) (.node (op1_17 P) (.node (op3_33 P) (.node (op8_65 P) .nil .nil) .nil) (.node (op4_49 P) (.node (op10_81 P) .nil .nil) .nil)) (.node (op2_25 P) (.node (op3_41 P) (.node (op9_73 P) .nil .nil) .nil) (.node (op6_57 P) (.node (op11_89 P) .nil .nil) .nil))) (.node (opre_13 P) (.node (op1_21 P) (.node (op3_37 P) (.node (op8_69 P) .nil .nil) .nil) (.node (op6_53 P) (.node (op10_85 P) .nil .nil) .nil)) (.node (op2_29 P) (.node (op4_45 P) (.node (op9_77 P) .nil .nil) .nil) (.node (op7_61 P) .nil .nil))))) (.node (PySem.W.boot_o_2 P) (.node (PySem.W.boot_o_4 P) (.node (PySem.W.boot_o_8 P) (.node (op1_16 P) (.node (op2_32 P) (.node (op7_64 P) .nil .nil) .nil) (.node (op4_48 P) (.node (op10_80 P) .nil .nil) .nil)) (.node (op2_24 P) (.node (op3_40 P) (.node (op9_72 P) .nil .nil) .nil) (.node (op6_56 P) (.node (op11_88 P) .nil .nil) .nil))) (.node (op11_12 P) (.node (op1_20 P) (.node (op3_36 P) (.node (op8_68 P) .nil .nil) .nil) (.node (op6_52 P) (.node (op10_84 P) .nil .nil) .nil)) (.node (op2_28 P) (.node (op4_44 P) (.node (op9_76 P) .nil .nil) .nil) (.node (op7_60 P) (.node (op11_92 P) .nil .nil) .nil)))) (.node (PySem.W.boot_o_6 P) (.node (PySem.W.boot_o_10 P) (.node (op1_18 P) (.node (op3_34 P) (.node (op8_66 P) .nil .nil) .nil) (.node (op4_50 P) (.node (op10_82 P) .nil .nil) .nil)) (.node (op2_26 P) (.node (op4_42 P) (.node (op9_74 P) .nil .nil) .nil) (.node (op7_58 P) (.node (op11_90 P) .nil .nil) .nil))) (.node (opre_14 P) (.node (op1_22 P) (.node (op3_38 P) (.node (op8_70 P) .nil .nil) .nil) (.node (op6_54 P) (.node (op11_86 P) .nil .nil) .nil)) (.node (op2_30 P) (.node (op4_46 P) (.node (op9_78 P) .nil .nil) .nil) (.node (op7_62 P) .nil .nil))))))
noncomputable abbrev sp12 (w : World) (os : OsState) : SharedT := ⟨tp12 w.params, 93, {}, #[], {}, 300, os⟩
noncomputable def op13_3 (P : Params) : Obj := ⟨.type "dict", none, .dict #[⟨PyData.keyHash P (S "__name__"), .str (S "__name__") 165, .str (S "cpy313.stringprep") 298⟩, ⟨PyData.keyHash P (S "__doc__"), .str (S "__doc__") 166, .none⟩, ⟨PyData.keyHash P (S "__package__"), .str (S "__package__") 167, .none⟩, ⟨PyData.keyHash P (S "__loader__"), .str (S "__loader__") 168, .builtin "__main__.__loader__#opaque"⟩, ⟨PyData.keyHash P (S "__spec__"), .str (S "__spec__") 169, .none⟩, ⟨PyData.keyHash P (S "__annotations__"), .str (S "__annotations__") 170, .ref 6⟩, ⟨PyData.keyHash P (S "__builtins__"), .str (S "__builtins__") 171, .ref 4⟩, ⟨PyData.keyHash P (S "__file__"), .str (S "__file__") 173, .str (S "/claim/cut.py") 172⟩, ⟨PyData.keyHash P (S "__cached__"), .str (S "__cached__") 174, .none⟩, ⟨PyData.keyHash P (S "insort_right"), .str (S "insort_right") 201, .ref 23⟩, ⟨PyData.keyHash P (S "bisect_right"), .str (S "bisect_right") 215, .ref 32⟩, ⟨PyData.keyHash P (S "insort_left"), .str (S "insort_left") 228, .ref 41⟩, ⟨PyData.keyHash P (S "bisect_left"), .str (S "bisect_left") 242, .ref 50⟩, ⟨PyData.keyHash P (S "ne"), .str (S "ne") 252, .ref 57⟩, ⟨PyData.keyHash P (S "mul"), .str (S "mul") 260, .ref 64⟩, ⟨PyData.keyHash P (S "concat"), .str (S "concat") 269, .ref 71⟩, ⟨PyData.keyHash P (S "countOf"), .str (S "countOf") 279, .ref 78⟩, ⟨PyData.keyHash P (S "getitem"), .str (S "getitem") 287, .ref 85⟩, ⟨PyData.keyHash P (S "indexOf"), .str (S "indexOf") 297, .ref 92⟩, ⟨PyData.keyHash P (S "b1_set"), .str (S "b1_set") 359, .ref 100⟩] 20, #[]⟩
noncomputable def op13_93 (P : Params) : Obj := ⟨.type "list", none, .seq #[.int (173) 300, .int (847) 301, .int (6150) 302, .int (6155) 303, .int (6156) 304, .int (6157) 305, .int (8203) 306, .int (8204) 307, .int (8205) 308, .int (8288) 309, .int (65279) 310] 0, #[]⟩
noncomputable def op13_94 (P : Params) : Obj := ⟨.type "range", none, .fields #[.int (65024) 311, .int (65040) 312, .int (1) 313], #[]⟩
noncomputable def op13_95 (P : Params) : Obj := ⟨.type "list", none, .seq #[.int (65024) 316, .int (65025) 317, .int (65026) 318, .int (65027) 319, .int (65028) 320, .int (65029) 321, .int (65030) 322, .int (65031) 323, .int (65032) 324, .int (65033) 325, .int (65034) 326, .int (65035) 327, .int (65036) 328, .int (65037) 329, .int (65038) 330, .int (65039) 331] 18, #[]⟩
noncomputable def op13_96 (P : Params) : Obj := ⟨.type "range_iterator", none, .fields #[.int (65040) 0, .int (0) 0, .int (1) 0], #[]⟩
noncomputable def op13_97 (P : Params) : Obj := ⟨.type "tuple", none, .seq #[] 0, #[]⟩
noncomputable def op13_98 (P : Params) : Obj := ⟨.type "StopIteration", none, .fields #[.ref 97, .none, .none, .none, .bool false, .none], #[]⟩
noncomputable def op13_99 (P : Params) : Obj := ⟨.type "list", none, .seq #[.int (173) 300, .int (847) 301, .int (6150) 302, .int (6155) 303, .int (6156) 304, .int (6157) 305, .int (8203) 306, .int (8204) 307, .int (8205) 308, .int (8288) 309, .int (65279) 310, .int (65024) 316, .int (65025) 317, .int (65026) 318, .int (65027) 319, .int (65028) 320, .int (65029) 321, .int (65030) 322, .int (65031) 323, .int (65032) 324, .int (65033) 325, .int (65034) 326, .int (65035) 327, .int (65036) 328, .int (65037) 329, .int (65038) 330, .int (65039) 331] 0, #[]⟩
noncomputable def op13_100 (P : Params) : Obj := ⟨.type "set", none, .set #[(65024, .int (65024) 316), (65025, .int (65025) 317), (65026, .int (65026) 318), (65027, .int (65027) 319), (65028, .int (65028) 320), (65029, .int (65029) 321), (6150, .int (6150) 302), (65030, .int (65030) 322), (65031, .int (65031) 323), (65032, .int (65032) 324), (65033, .int (65033) 325), (6155, .int (6155) 303), (6156, .int (6156) 304), (6157, .int (6157) 305), (8203, .int (8203) 306), (8204, .int (8204) 307), (8205, .int (8205) 308), (65034, .int (65034) 326), (65035, .int (65035) 327), (65036, .int (65036) 328), (65037, .int (65037) 329), (65038, .int (65038) 330), (65039, .int (65039) 331), (173, .int (173) 300), (847, .int (847) 301), (8288, .int (8288) 309), (65279, .int (65279) 310)] 29 ⟨127, #[0, 1, 2, 3, 4, 5, 6, 7, 8, 9, 10, 11, 12, 13, 14, 15, 16, 17, 18, 19, 20, 21, 22, 45, 79, 96, 127], #[], 0, !P.followText "set-order", 2, true⟩, #[]⟩
noncomputable def op13_101 (P : Params) : Obj := ⟨.type "list_iterator", none, .fields #[.none, .int (27) 0], #[]⟩
noncomputable def op13_102 (P : Params) : Obj := ⟨.type "tuple", none, .seq #[] 0, #[]⟩
noncomputable def op13_103 (P : Params) : Obj := ⟨.type "StopIteration", none, .fields #[.ref 102, .none, .none, .none, .bool false, .none], #[]⟩
noncomputable def tp13 (P : Params) : BT := (.node (PySem.W.boot_o_0 P) (.node (PySem.W.boot_o_1 P) (.node (op13_3 P) (.node (PySem.W.boot_o_7 P) (.node (op1_15 P) (.node (op2_31 P) (.node (op7_63 P) .nil .nil) (.node (op13_95 P) .nil .nil)) (.node (op4_47 P) (.node (op10_79 P) .nil .nil) .nil)) (.node (op1_23 P) (.node (op3_39 P) (.node (op8_71 P) .nil .nil) (.node (op13_103 P) .nil .nil)) (.node (op6_55 P) (.node (op11_87 P) .nil .nil) .nil))) (.node (opre_11 P) (.node (op1_19 P) (.node (op3_35 P) (.node (op8_67 P) .nil .nil) (.node (op13_99 P) .nil .nil)) (.node (op6_51 P) (.node (op10_83 P) .nil .nil) .nil)) (.node (op2_27 P) (.node (op4_43 P) (.node (op9_75 P) .nil .nil) .nil) (.node (op7_59 P) (.node (op11_91 P) .nil .nil) .nil)))) (.node (PySem.W.boot_o_5 P) (.node (PySem.W.boot_o_9 P) (.node (op1_17 P) (.node (op3_33 P) (.node (op8_65 P) .nil .nil) (.node (op13_97 P) .nil .nil)) (.node (op4_49 P) (.node (op10_81 P) .nil .nil) .nil)) (.node (op2_25 P) (.node (op3_41 P) (.node (op9_73 P) .nil .nil) .nil) (.node (op6_57 P) (.node (op11_89 P) .nil .nil) .nil))) (.node (opre_13 P) (.node (op1_21 P) (.node (op3_37 P) (.node (op8_69 P) .nil .nil) (.node (op13_101 P) .nil .nil)) (.node (op6_53 P) (.node (op10_85 P) .nil .nil) .nil)) (.node (op2_29 P) (.node (op4_45 P) (.node (op9_77 P) .nil .nil) .nil) (.node (op7_61 P) (.node (op13_93 P) .nil .nil) .nil))))) (.node (PySem.W.boot_o_2 P) (.node (PySem.W.boot_o_4 P) (.node (PySem.W.boot_o_8 P) (.node (op1_16 P) (.node (op2_32 P) (.node (op7_64 P) .nil .nil) (.node (op13_96 P) .nil .nil)) (.node (op4_48 P) (.node (op10_80 P) .nil .nil) .nil)) (.node (op2_24 P) (.node (op3_40 P) (.node (op9_72 P) .nil .nil) .nil) (.node (op6_56 P) (.node (op11_88 P) .nil .nil) .nil))) (.node (op11_12 P) (.node (op1_20 P) (.node (op3_36 P) (.node (op8_68 P) .nil .nil) (.node (op13_100 P) .nil .nil)) (.node (op6_52 P) (.node (op10_84 P) .nil .nil) .nil)) (.node (op2_28 P) (.node (op4_44 P) (.node (op9_76 P) .nil .nil) .nil) (.node (op7_60 P) (.node (op11_92 P) .nil .nil) .nil)))) (.node (PySem.W.boot_o_6 P) (.node (PySem.W.boot_o_10 P) (.node (op1_18 P) (.node (op3_34 P) (.node (op8_66 P) .nil .nil) (.node (op13_98 P) .nil .nil)) (.node (op4_50 P) (.node (op10_82 P) .nil .nil) .nil)) (.node (op2_26 P) (.node (op4_42 P) (.node (op9_74 P) .nil .nil) .nil) (.node (op7_58 P) (.node (op11_90 P) .nil .nil) .nil))) (.node (opre_14 P) (.node (op1_22 P) (.node (op3_38 P) (.node (op8_70 P) .nil .nil) (.node (op13_102 P) .nil .nil)) (.node (op6_54 P) (.node (op11_86 P) .nil .nil) .nil)) (.node (op2_30 P) (.node (op4_46 P) (.node (op9_78 P) .nil .nil) .nil) (.node (op7_62 P) (.node (op13_94 P) .nil .nil) .nil))))))
noncomputable abbrev sp13 (w : World) (os : OsState) : SharedT := ⟨tp13 w.params, 104, {}, #[], {}, 360, os⟩
noncomputable def op14_3 (P : Params) : Obj := ⟨.type "dict", none, .dict #[⟨PyData.keyHash P (S "__name__"), .str (S "__name__") 165, .str (S "cpy313.stringprep") 298⟩, ⟨PyData.keyHash P (S "__doc__"), .str (S "__doc__") 166, .none⟩, ⟨PyData.keyHash P (S "__package__"), .str (S "__package__") 167, .none⟩, ⟨PyData.keyHash P (S "__loader__"), .str (S "__loader__") 168, .builtin "__main__.__loader__#opaque"⟩, ⟨PyData.keyHash P (S "__spec__"), .str (S "__spec__") 169, .none⟩, ⟨PyData.keyHash P (S "__annotations__"), .str (S "__annotations__") 170, .ref 6⟩, ⟨PyData.keyHash P (S "__builtins__"), .str (S "__builtins__") 171, .ref 4⟩, ⟨PyData.keyHash P (S "__file__"), .str (S "__file__") 173, .str (S "/claim/cut.py") 172⟩, ⟨PyData.keyHash P (S "__cached__"), .str (S "__cached__") 174, .none⟩, ⟨PyData.keyHash P (S "insort_right"), .str (S "insort_right") 201, .ref 23⟩, ⟨PyData.keyHash P (S "bisect_right"), .str (S "bisect_right") 215, .ref 32⟩, ⟨PyData.keyHash P (S "insort_left"), .str (S "insort_left") 228, .ref 41⟩, ⟨PyData.keyHash P (S "bisect_left"), .str (S "bisect_left") 242, .ref 50⟩, ⟨PyData.keyHash P (S "ne"), .str (S "ne") 252, .ref 57⟩, ⟨PyData.keyHash P (S "mul"), .str (S "mul") 260, .ref 64⟩, ⟨PyData.keyHash P (S "concat"), .str (S "concat") 269, .ref 71⟩, ⟨PyData.keyHash P (S "countOf"), .str (S "countOf") 279, .ref 78⟩, ⟨PyData.keyHash P (S "getitem"), .str (S "getitem") 287, .ref 85⟩, ⟨PyData.keyHash P (S "indexOf"), .str (S "indexOf") 297, .ref 92⟩, ⟨PyData.keyHash P (S "b1_set"), .str (S "b1_set") 359, .ref 100⟩, ⟨PyData.keyHash P (S "in_table_b1"), .str (S "in_table_b1") 366, .ref 110⟩] 21, #[]⟩
noncomputable def op14_12 (P : Params) : Obj := ⟨.none, none, .fields #[.int (2) 0, .int (0) 0, .ref 22, .int (8) 0, .int (0) 0, .ref 31, .int (28) 0, .int (0) 0, .ref 40, .int (34) 0, .int (0) 0, .ref 49, .int (55) 0, .int (0) 0, .ref 56, .int (57) 0, .int (0) 0, .ref 63, .int (59) 0, .int (0) 0, .ref 70, .int (64) 0, .int (0) 0, .ref 77, .int (70) 0, .int (0) 0, .ref 84, .int (72) 0, .int (0) 0, .ref 91, .int (80) 0, .int (0) 0, .ref 109], #[]⟩
noncomputable def op14_104 (P : Params) : Obj := ⟨.type "tuple", none, .seq #[] 0, #[]⟩
noncomputable def op14_105 (P : Params) : Obj := ⟨.none, none, .fields #[], #[]⟩
noncomputable def op14_106 (P : Params) : Obj := ⟨.type "tuple", none, .seq #[.str (S "code") 363] 0, #[]⟩
noncomputable def op14_107 (P : Params) : Obj := ⟨.type "tuple", none, .seq #[] 0, #[]⟩
noncomputable def op14_108 (P : Params) : Obj := ⟨.none, none, .func (fn 14 (0) 0 (.none) (.none) (.none) (.none) (none) (.none) (.none) 0), #[]⟩
noncomputable def op14_109 (P : Params) : Obj := ⟨.type "code", none, .fields #[.str (S "in_table_b1") 360, .str (S "in_table_b1") 361, .str (S "/claim/cut.py") 362, .int (80) 0, .int (1) 0, .int (0) 0, .int (0) 0, .int (3) 0, .ref 104, .bool true, .int (181) 0, .ref 105, .none, .ref 106, .ref 107, .ref 108, .int (364) 0, .int (80) 0, .str (S "/claim/cut.py") 365], #[]⟩
noncomputable def op14_110 (P : Params) : Obj := ⟨.type "function", none, .func (fn 14 (3) 0 (.none) (.none) (.none) (.str (S "cpy313.stringprep") 298) (none) (.ref 109) (.none) 0), #[]⟩
noncomputable def tp14 (P : Params) : BT := (.node (PySem.W.boot_o_0 P) (.node (PySem.W.boot_o_1 P) (.node (op14_3 P) (.node (PySem.W.boot_o_7 P) (.node (op1_15 P) (.node (op2_31 P) (.node (op7_63 P) .nil .nil) (.node (op13_95 P) .nil .nil)) (.node (op4_47 P) (.node (op10_79 P) .nil .nil) .nil)) (.node (op1_23 P) (.node (op3_39 P) (.node (op8_71 P) .nil .nil) (.node (op13_103 P) .nil .nil)) (.node (op6_55 P) (.node (op11_87 P) .nil .nil) .nil))) (.node (opre_11 P) (.node (op1_19 P) (.node (op3_35 P) (.node (op8_67 P) .nil .nil) (.node (op13_99 P) .nil .nil)) (.node (op6_51 P) (.node (op10_83 P) .nil .nil) .nil)) (.node (op2_27 P) (.node (op4_43 P) (.node (op9_75 P) .nil .nil) (.node (op14_107 P) .nil .nil)) (.node (op7_59 P) (.node (op11_91 P) .nil .nil) .nil)))) (.node (PySem.W.boot_o_5 P) (.node (PySem.W.boot_o_9 P) (.node (op1_17 P) (.node (op3_33 P) (.node (op8_65 P) .nil .nil) (.node (op13_97 P) .nil .nil)) (.node (op4_49 P) (.node (op10_81 P) .nil .nil) .nil)) (.node (op2_25 P) (.node (op3_41 P) (.node (op9_73 P) .nil .nil) (.node (op14_105 P) .nil .nil)) (.node (op6_57 P) (.node (op11_89 P) .nil .nil) .nil))) (.node (opre_13 P) (.node (op1_21 P) (.node (op3_37 P) (.node (op8_69 P) .nil .nil) (.node (op13_101 P) .nil .nil)) (.node (op6_53 P) (.node (op10_85 P) .nil .nil) .nil)) (.node (op2_29 P) (.node (op4_45 P) (.node (op9_77 P) .nil .nil) (.node (op14_109 P) .nil .nil)) (.node (op7_61 P) (.node (op13_93 P) .nil .nil) .nil))))) (.node (PySem.W.boot_o_2 P) (.node (PySem.W.boot_o_4 P) (.node (PySem.W.boot_o_8 P) (.node (op1_16 P) (.node (op2_32 P) (.node (op7_64 P) .nil .nil) (.node (op13_96 P) .nil .nil)) (.node (op4_48 P) (.node (op10_80 P) .nil .nil) .nil)) (.node (op2_24 P) (.node (op3_40 P) (.node (op9_72 P) .nil .nil) (.node (op14_104 P) .nil .nil)) (.node (op6_56 P) (.node (op11_88 P) .nil .nil) .nil))) (.node (op14_12 P) (.node (op1_20 P) (.node (op3_36 P) (.node (op8_68 P) .nil .nil) (.node (op13_100 P) .nil .nil)) (.node (op6_52 P) (.node (op10_84 P) .nil .nil) .nil)) (.node (op2_28 P) (.node (op4_44 P) (.node (op9_76 P) .nil .nil) (.node (op14_108 P) .nil .nil)) (.node (op7_60 P) (.node (op11_92 P) .nil .nil) .nil)))) (.node (PySem.W.boot_o_6 P) (.node (PySem.W.boot_o_10 P) (.node (op1_18 P) (.node (op3_34 P) (.node (op8_66 P) .nil .nil) (.node (op13_98 P) .nil .nil)) (.node (op4_50 P) (.node (op10_82 P) .nil .nil) .nil)) (.node (op2_26 P) (.node (op4_42 P) (.node (op9_74 P) .nil .nil) (.node (op14_106 P) .nil .nil)) (.node (op7_58 P) (.node (op11_90 P) .nil .nil) .nil))) (.node (opre_14 P) (.node (op1_22 P) (.node (op3_38 P) (.node (op8_70 P) .nil .nil) (.node (op13_102 P) .nil .nil)) (.node (op6_54 P) (.node (op11_86 P) .nil .nil) .nil)) (.node (op2_30 P) (.node (op4_46 P) (.node (op9_78 P) .nil .nil) (.node (op14_110 P) .nil .nil)) (.node (op7_62 P) (.node (op13_94 P) .nil .nil) .nil))))))
noncomputable abbrev sp14 (w : World) (os : OsState) : SharedT := ⟨tp14 w.params, 111, {}, #[], {}, 367, os⟩

noncomputable def b3T : List Expr := match st 15 with | .Assign t _ _ => t | _ => []
noncomputable def b3Q : Pos := match st 15 with | .Assign _ _ q => q | _ => default
noncomputable def b3P : Pos := match st 15 with | .Assign _ (.Dict _ _ p) _ => p | _ => default
noncomputable def keyOf : Option Expr → Int | some (.Constant (.int i) _ _) => i | _ => 0
noncomputable def strOf : Expr → PySem.Str | .Constant (.str s) _ _ => s | _ => PySem.Str.empty
noncomputable def b3D : List (Int × PySem.Str) := match st 15 with | .Assign _ (.Dict ks vs _) _ => (ks.zip vs).map (fun p => (keyOf p.1, strOf p.2)) | _ => []
noncomputable def cutsN {α : Type} : Nat → List α → List (List α)
  | 0, _ => []
  | k + 1, l => l.take 17 :: cutsN k (l.drop 17)
noncomputable def b3c : List (Int × PySem.Str) := b3D.take 17
noncomputable def b3cs : List (List (Int × PySem.Str)) := cutsN 37 (b3D.drop 17)
noncomputable def b3l : List (Int × PySem.Str) := b3D.drop 646
noncomputable def b3main : List DictEntry := longE 367 b3c ++ runsE 418 b3cs ++ shortE 2305 b3l
noncomputable def b3subs : List Obj := subsO 418 b3cs ++ [dObj (shortE 2305 b3l) 4]

noncomputable def L14 (P : Params) : List Obj := [PySem.W.boot_o_0 P, PySem.W.boot_o_1 P, PySem.W.boot_o_2 P, op14_3 P, PySem.W.boot_o_4 P, PySem.W.boot_o_5 P, PySem.W.boot_o_6 P, PySem.W.boot_o_7 P, PySem.W.boot_o_8 P, PySem.W.boot_o_9 P, PySem.W.boot_o_10 P, opre_11 P, op14_12 P, opre_13 P, opre_14 P, op1_15 P, op1_16 P, op1_17 P, op1_18 P, op1_19 P, op1_20 P, op1_21 P, op1_22 P, op1_23 P, op2_24 P, op2_25 P, op2_26 P, op2_27 P, op2_28 P, op2_29 P, op2_30 P, op2_31 P, op2_32 P, op3_33 P, op3_34 P, op3_35 P, op3_36 P, op3_37 P, op3_38 P, op3_39 P, op3_40 P, op3_41 P, op4_42 P, op4_43 P, op4_44 P, op4_45 P, op4_46 P, op4_47 P, op4_48 P, op4_49 P, op4_50 P, op6_51 P, op6_52 P, op6_53 P, op6_54 P, op6_55 P, op6_56 P, op6_57 P, op7_58 P, op7_59 P, op7_60 P, op7_61 P, op7_62 P, op7_63 P, op7_64 P, op8_65 P, op8_66 P, op8_67 P, op8_68 P, op8_69 P, op8_70 P, op8_71 P, op9_72 P, op9_73 P, op9_74 P, op9_75 P, op9_76 P, op9_77 P, op9_78 P, op10_79 P, op10_80 P, op10_81 P, op10_82 P, op10_83 P, op10_84 P, op10_85 P, op11_86 P, op11_87 P, op11_88 P, op11_89 P, op11_90 P, op11_91 P, op11_92 P, op13_93 P, op13_94 P, op13_95 P, op13_96 P, op13_97 P, op13_98 P, op13_99 P, op13_100 P, op13_101 P, op13_102 P, op13_103 P, op14_104 P, op14_105 P, op14_106 P, op14_107 P, op14_108 P, op14_109 P, op14_110 P]
noncomputable def op15_111 (_ : Params) : Obj := dObj b3main 650
noncomputable def op15_112 (_ : Params) : Obj := b3subs.getD 0 default
noncomputable def op15_113 (_ : Params) : Obj := b3subs.getD 1 default
noncomputable def op15_114 (_ : Params) : Obj := b3subs.getD 2 default
noncomputable def op15_115 (_ : Params) : Obj := b3subs.getD 3 default
noncomputable def op15_116 (_ : Params) : Obj := b3subs.getD 4 default
noncomputable def op15_117 (_ : Params) : Obj := b3subs.getD 5 default
noncomputable def op15_118 (_ : Params) : Obj := b3subs.getD 6 default
noncomputable def op15_119 (_ : Params) : Obj := b3subs.getD 7 default
noncomputable def op15_120 (_ : Params) : Obj := b3subs.getD 8 default
noncomputable def op15_121 (_ : Params) : Obj := b3subs.getD 9 default
noncomputable def op15_122 (_ : Params) : Obj := b3subs.getD 10 default
noncomputable def op15_123 (_ : Params) : Obj := b3subs.getD 11 default
noncomputable def op15_124 (_ : Params) : Obj := b3subs.getD 12 default
noncomputable def op15_125 (_ : Params) : Obj := b3subs.getD 13 default
noncomputable def op15_126 (_ : Params) : Obj := b3subs.getD 14 default
noncomputable def op15_127 (_ : Params) : Obj := b3subs.getD 15 default
noncomputable def op15_128 (_ : Params) : Obj := b3subs.getD 16 default
noncomputable def op15_129 (_ : Params) : Obj := b3subs.getD 17 default
noncomputable def op15_130 (_ : Params) : Obj := b3subs.getD 18 default
noncomputable def op15_131 (_ : Params) : Obj := b3subs.getD 19 default
noncomputable def op15_132 (_ : Params) : Obj := b3subs.getD 20 default
noncomputable def op15_133 (_ : Params) : Obj := b3subs.getD 21 default
noncomputable def op15_134 (_ : Params) : Obj := b3subs.getD 22 default
noncomputable def op15_135 (_ : Params) : Obj := b3subs.getD 23 default
noncomputable def op15_136 (_ : Params) : Obj := b3subs.getD 24 default
noncomputable def op15_137 (_ : Params) : Obj := b3subs.getD 25 default
noncomputable def op15_138 (_ : Params) : Obj := b3subs.getD 26 default
noncomputable def op15_139 (_ : Params) : Obj := b3subs.getD 27 default
noncomputable def op15_140 (_ : Params) : Obj := b3subs.getD 28 default
noncomputable def op15_141 (_ : Params) : Obj := b3subs.getD 29 default
noncomputable def op15_142 (_ : Params) : Obj := b3subs.getD 30 default
noncomputable def op15_143 (_ : Params) : Obj := b3subs.getD 31 default
noncomputable def op15_144 (_ : Params) : Obj := b3subs.getD 32 default
noncomputable def op15_145 (_ : Params) : Obj := b3subs.getD 33 default
noncomputable def op15_146 (_ : Params) : Obj := b3subs.getD 34 default
noncomputable def op15_147 (_ : Params) : Obj := b3subs.getD 35 default
noncomputable def op15_148 (_ : Params) : Obj := b3subs.getD 36 default
noncomputable def op15_149 (_ : Params) : Obj := b3subs.getD 37 default
noncomputable def tq15 (P : Params) : BT := (.node (PySem.W.boot_o_0 P) (.node (PySem.W.boot_o_1 P) (.node (op14_3 P) (.node (PySem.W.boot_o_7 P) (.node (op1_15 P) (.node (op2_31 P) (.node (op7_63 P) (.node (op15_127 P) .nil .nil) .nil) (.node (op13_95 P) .nil .nil)) (.node (op4_47 P) (.node (op10_79 P) (.node (op15_143 P) .nil .nil) .nil) (.node (op15_111 P) .nil .nil))) (.node (op1_23 P) (.node (op3_39 P) (.node (op8_71 P) (.node (op15_135 P) .nil .nil) .nil) (.node (op13_103 P) .nil .nil)) (.node (op6_55 P) (.node (op11_87 P) .nil .nil) (.node (op15_119 P) .nil .nil)))) (.node (opre_11 P) (.node (op1_19 P) (.node (op3_35 P) (.node (op8_67 P) (.node (op15_131 P) .nil .nil) .nil) (.node (op13_99 P) .nil .nil)) (.node (op6_51 P) (.node (op10_83 P) (.node (op15_147 P) .nil .nil) .nil) (.node (op15_115 P) .nil .nil))) (.node (op2_27 P) (.node (op4_43 P) (.node (op9_75 P) (.node (op15_139 P) .nil .nil) .nil) (.node (op14_107 P) .nil .nil)) (.node (op7_59 P) (.node (op11_91 P) .nil .nil) (.node (op15_123 P) .nil .nil))))) (.node (PySem.W.boot_o_5 P) (.node (PySem.W.boot_o_9 P) (.node (op1_17 P) (.node (op3_33 P) (.node (op8_65 P) (.node (op15_129 P) .nil .nil) .nil) (.node (op13_97 P) .nil .nil)) (.node (op4_49 P) (.node (op10_81 P) (.node (op15_145 P) .nil .nil) .nil) (.node (op15_113 P) .nil .nil))) (.node (op2_25 P) (.node (op3_41 P) (.node (op9_73 P) (.node (op15_137 P) .nil .nil) .nil) (.node (op14_105 P) .nil .nil)) (.node (op6_57 P) (.node (op11_89 P) .nil .nil) (.node (op15_121 P) .nil .nil)))) (.node (opre_13 P) (.node (op1_21 P) (.node (op3_37 P) (.node (op8_69 P) (.node (op15_133 P) .nil .nil) .nil) (.node (op13_101 P) .nil .nil)) (.node (op6_53 P) (.node (op10_85 P) (.node (op15_149 P) .nil .nil) .nil) (.node (op15_117 P) .nil .nil))) (.node (op2_29 P) (.node (op4_45 P) (.node (op9_77 P) (.node (op15_141 P) .nil .nil) .nil) (.node (op14_109 P) .nil .nil)) (.node (op7_61 P) (.node (op13_93 P) .nil .nil) (.node (op15_125 P) .nil .nil)))))) (.node (PySem.W.boot_o_2 P) (.node (PySem.W.boot_o_4 P) (.node (PySem.W.boot_o_8 P) (.node (op1_16 P) (.node (op2_32 P) (.node (op7_64 P) (.node (op15_128 P) .nil .nil) .nil) (.node (op13_96 P) .nil .nil)) (.node (op4_48 P) (.node (op10_80 P) (.node (op15_144 P) .nil .nil) .nil) (.node (op15_112 P) .nil .nil))) (.node (op2_24 P) (.node (op3_40 P) (.node (op9_72 P) (.node (op15_136 P) .nil .nil) .nil) (.node (op14_104 P) .nil .nil)) (.node (op6_56 P) (.node (op11_88 P) .nil .nil) (.node (op15_120 P) .nil .nil)))) (.node (op14_12 P) (.node (op1_20 P) (.node (op3_36 P) (.node (op8_68 P) (.node (op15_132 P) .nil .nil) .nil) (.node (op13_100 P) .nil .nil)) (.node (op6_52 P) (.node (op10_84 P) (.node (op15_148 P) .nil .nil) .nil) (.node (op15_116 P) .nil .nil))) (.node (op2_28 P) (.node (op4_44 P) (.node (op9_76 P) (.node (op15_140 P) .nil .nil) .nil) (.node (op14_108 P) .nil .nil)) (.node (op7_60 P) (.node (op11_92 P) .nil .nil) (.node (op15_124 P) .nil .nil))))) (.node (PySem.W.boot_o_6 P) (.node (PySem.W.boot_o_10 P) (.node (op1_18 P) (.node (op3_34 P) (.node (op8_66 P) (.node (op15_130 P) .nil .nil) .nil) (.node (op13_98 P) .nil .nil)) (.node (op4_50 P) (.node (op10_82 P) (.node (op15_146 P) .nil .nil) .nil) (.node (op15_114 P) .nil .nil))) (.node (op2_26 P) (.node (op4_42 P) (.node (op9_74 P) (.node (op15_138 P) .nil .nil) .nil) (.node (op14_106 P) .nil .nil)) (.node (op7_58 P) (.node (op11_90 P) .nil .nil) (.node (op15_122 P) .nil .nil)))) (.node (opre_14 P) (.node (op1_22 P) (.node (op3_38 P) (.node (op8_70 P) (.node (op15_134 P) .nil .nil) .nil) (.node (op13_102 P) .nil .nil)) (.node (op6_54 P) (.node (op11_86 P) .nil .nil) (.node (op15_118 P) .nil .nil))) (.node (op2_30 P) (.node (op4_46 P) (.node (op9_78 P) (.node (op15_142 P) .nil .nil) .nil) (.node (op14_110 P) .nil .nil)) (.node (op7_62 P) (.node (op13_94 P) .nil .nil) (.node (op15_126 P) .nil .nil)))))))
noncomputable abbrev sq15 (w : World) (os : OsState) : SharedT := ⟨tq15 w.params, 150, {}, #[], {}, 2317, os⟩
noncomputable def op15_3 (P : Params) : Obj := ⟨.type "dict", none, .dict #[⟨PyData.keyHash P (S "__name__"), .str (S "__name__") 165, .str (S "cpy313.stringprep") 298⟩, ⟨PyData.keyHash P (S "__doc__"), .str (S "__doc__") 166, .none⟩, ⟨PyData.keyHash P (S "__package__"), .str (S "__package__") 167, .none⟩, ⟨PyData.keyHash P (S "__loader__"), .str (S "__loader__") 168, .builtin "__main__.__loader__#opaque"⟩, ⟨PyData.keyHash P (S "__spec__"), .str (S "__spec__") 169, .none⟩, ⟨PyData.keyHash P (S "__annotations__"), .str (S "__annotations__") 170, .ref 6⟩, ⟨PyData.keyHash P (S "__builtins__"), .str (S "__builtins__") 171, .ref 4⟩, ⟨PyData.keyHash P (S "__file__"), .str (S "__file__") 173, .str (S "/claim/cut.py") 172⟩, ⟨PyData.keyHash P (S "__cached__"), .str (S "__cached__") 174, .none⟩, ⟨PyData.keyHash P (S "insort_right"), .str (S "insort_right") 201, .ref 23⟩, ⟨PyData.keyHash P (S "bisect_right"), .str (S "bisect_right") 215, .ref 32⟩, ⟨PyData.keyHash P (S "insort_left"), .str (S "insort_left") 228, .ref 41⟩, ⟨PyData.keyHash P (S "bisect_left"), .str (S "bisect_left") 242, .ref 50⟩, ⟨PyData.keyHash P (S "ne"), .str (S "ne") 252, .ref 57⟩, ⟨PyData.keyHash P (S "mul"), .str (S "mul") 260, .ref 64⟩, ⟨PyData.keyHash P (S "concat"), .str (S "concat") 269, .ref 71⟩, ⟨PyData.keyHash P (S "countOf"), .str (S "countOf") 279, .ref 78⟩, ⟨PyData.keyHash P (S "getitem"), .str (S "getitem") 287, .ref 85⟩, ⟨PyData.keyHash P (S "indexOf"), .str (S "indexOf") 297, .ref 92⟩, ⟨PyData.keyHash P (S "b1_set"), .str (S "b1_set") 359, .ref 100⟩, ⟨PyData.keyHash P (S "in_table_b1"), .str (S "in_table_b1") 366, .ref 110⟩, ⟨PyData.keyHash P (S "b3_exceptions"), .str (S "b3_exceptions") 2317, .ref 111⟩] 22, #[]⟩
noncomputable def tp15 (P : Params) : BT := (.node (PySem.W.boot_o_0 P) (.node (PySem.W.boot_o_1 P) (.node (op15_3 P) (.node (PySem.W.boot_o_7 P) (.node (op1_15 P) (.node (op2_31 P) (.node (op7_63 P) (.node (op15_127 P) .nil .nil) .nil) (.node (op13_95 P) .nil .nil)) (.node (op4_47 P) (.node (op10_79 P) (.node (op15_143 P) .nil .nil) .nil) (.node (op15_111 P) .nil .nil))) (.node (op1_23 P) (.node (op3_39 P) (.node (op8_71 P) (.node (op15_135 P) .nil .nil) .nil) (.node (op13_103 P) .nil .nil)) (.node (op6_55 P) (.node (op11_87 P) .nil .nil) (.node (op15_119 P) .nil .nil)))) (.node (opre_11 P) (.node (op1_19 P) (.node (op3_35 P) (.node (op8_67 P) (.node (op15_131 P) .nil .nil) .nil) (.node (op13_99 P) .nil .nil)) (.node (op6_51 P) (.node (op10_83 P) (.node (op15_147 P) .nil .nil) .nil) (.node (op15_115 P) .nil .nil))) (.node (op2_27 P) (.node (op4_43 P) (.node (op9_75 P) (.node (op15_139 P) .nil .nil) .nil) (.node (op14_107 P) .nil .nil)) (.node (op7_59 P) (.node (op11_91 P) .nil .nil) (.node (op15_123 P) .nil .nil))))) (.node (PySem.W.boot_o_5 P) (.node (PySem.W.boot_o_9 P) (.node (op1_17 P) (.node (op3_33 P) (.node (op8_65 P) (.node (op15_129 P) .nil .nil) .nil) (.node (op13_97 P) .nil .nil)) (.node (op4_49 P) (.node (op10_81 P) (.node (op15_145 P) .nil .nil) .nil) (.node (op15_113 P) .nil .nil))) (.node (op2_25 P) (.node (op3_41 P) (.node (op9_73 P) (.node (op15_137 P) .nil .nil) .nil) (.node (op14_105 P) .nil .nil)) (.node (op6_57 P) (.node (op11_89 P) .nil .nil) (.node (op15_121 P) .nil .nil)))) (.node (opre_13 P) (.node (op1_21 P) (.node (op3_37 P) (.node (op8_69 P) (.node (op15_133 P) .nil .nil) .nil) (.node (op13_101 P) .nil .nil)) (.node (op6_53 P) (.node (op10_85 P) (.node (op15_149 P) .nil .nil) .nil) (.node (op15_117 P) .nil .nil))) (.node (op2_29 P) (.node (op4_45 P) (.node (op9_77 P) (.node (op15_141 P) .nil .nil) .nil) (.node (op14_109 P) .nil .nil)) (.node (op7_61 P) (.node (op13_93 P) .nil .nil) (.node (op15_125 P) .nil .nil)))))) (.node (PySem.W.boot_o_2 P) (.node (PySem.W.boot_o_4 P) (.node (PySem.W.boot_o_8 P) (.node (op1_16 P) (.node (op2_32 P) (.node (op7_64 P) (.node (op15_128 P) .nil .nil) .nil) (.node (op13_96 P) .nil .nil)) (.node (op4_48 P) (.node (op10_80 P) (.node (op15_144 P) .nil .nil) .nil) (.node (op15_112 P) .nil .nil))) (.node (op2_24 P) (.node (op3_40 P) (.node (op9_72 P) (.node (op15_136 P) .nil .nil) .nil) (.node (op14_104 P) .nil .nil)) (.node (op6_56 P) (.node (op11_88 P) .nil .nil) (.node (op15_120 P) .nil .nil)))) (.node (op14_12 P) (.node (op1_20 P) (.node (op3_36 P) (.node (op8_68 P) (.node (op15_132 P) .nil .nil) .nil) (.node (op13_100 P) .nil .nil)) (.node (op6_52 P) (.node (op10_84 P) (.node (op15_148 P) .nil .nil) .nil) (.node (op15_116 P) .nil .nil))) (.node (op2_28 P) (.node (op4_44 P) (.node (op9_76 P) (.node (op15_140 P) .nil .nil) .nil) (.node (op14_108 P) .nil .nil)) (.node (op7_60 P) (.node (op11_92 P) .nil .nil) (.node (op15_124 P) .nil .nil))))) (.node (PySem.W.boot_o_6 P) (.node (PySem.W.boot_o_10 P) (.node (op1_18 P) (.node (op3_34 P) (.node (op8_66 P) (.node (op15_130 P) .nil .nil) .nil) (.node (op13_98 P) .nil .nil)) (.node (op4_50 P) (.node (op10_82 P) (.node (op15_146 P) .nil .nil) .nil) (.node (op15_114 P) .nil .nil))) (.node (op2_26 P) (.node (op4_42 P) (.node (op9_74 P) (.node (op15_138 P) .nil .nil) .nil) (.node (op14_106 P) .nil .nil)) (.node (op7_58 P) (.node (op11_90 P) .nil .nil) (.node (op15_122 P) .nil .nil)))) (.node (opre_14 P) (.node (op1_22 P) (.node (op3_38 P) (.node (op8_70 P) (.node (op15_134 P) .nil .nil) .nil) (.node (op13_102 P) .nil .nil)) (.node (op6_54 P) (.node (op11_86 P) .nil .nil) (.node (op15_118 P) .nil .nil))) (.node (op2_30 P) (.node (op4_46 P) (.node (op9_78 P) (.node (op15_142 P) .nil .nil) .nil) (.node (op14_110 P) .nil .nil)) (.node (op7_62 P) (.node (op13_94 P) .nil .nil) (.node (op15_126 P) .nil .nil)))))))
noncomputable abbrev sp15 (w : World) (os : OsState) : SharedT := ⟨tp15 w.params, 150, {}, #[], {}, 2318, os⟩
noncomputable def op16_150 (P : Params) : Obj := ⟨.type "tuple", none, .seq #[] 0, #[]⟩
noncomputable def op16_151 (P : Params) : Obj := ⟨.none, none, .fields #[], #[]⟩
noncomputable def op16_152 (P : Params) : Obj := ⟨.type "tuple", none, .seq #[.str (S "code") 2321, .str (S "r") 2322] 0, #[]⟩
noncomputable def op16_153 (P : Params) : Obj := ⟨.type "tuple", none, .seq #[] 0, #[]⟩
noncomputable def op16_154 (P : Params) : Obj := ⟨.none, none, .func (fn 16 (0) 0 (.none) (.none) (.none) (.none) (none) (.none) (.none) 0), #[]⟩
noncomputable def op16_155 (P : Params) : Obj := ⟨.type "code", none, .fields #[.str (S "map_table_b3") 2318, .str (S "map_table_b3") 2319, .str (S "/claim/cut.py") 2320, .int (83) 0, .int (1) 0, .int (0) 0, .int (0) 0, .int (3) 0, .ref 150, .bool true, .int (181) 0, .ref 151, .none, .ref 152, .ref 153, .ref 154, .int (2323) 0, .int (83) 0, .str (S "/claim/cut.py") 2324], #[]⟩
noncomputable def op16_156 (P : Params) : Obj := ⟨.type "function", none, .func (fn 16 (3) 0 (.none) (.none) (.none) (.str (S "cpy313.stringprep") 298) (none) (.ref 155) (.none) 0), #[]⟩
noncomputable def op18_157 (P : Params) : Obj := ⟨.type "tuple", none, .seq #[] 0, #[]⟩
noncomputable def op18_158 (P : Params) : Obj := ⟨.none, none, .fields #[], #[]⟩
noncomputable def op18_159 (P : Params) : Obj := ⟨.type "tuple", none, .seq #[.str (S "x") 2331, .str (S "veils") 2332, .str (S "beside") 2333, .str (S "which") 2334, .str (S "means") 2335, .str (S "sign") 2336, .str (S "alphabet") 2337, .str (S "hidden") 2338] 0, #[]⟩
noncomputable def op18_160 (P : Params) : Obj := ⟨.type "tuple", none, .seq #[] 0, #[]⟩
noncomputable def op18_161 (P : Params) : Obj := ⟨.none, none, .func (fn 18 (0) 0 (.none) (.none) (.none) (.none) (none) (.none) (.none) 0), #[]⟩
noncomputable def op18_162 (P : Params) : Obj := ⟨.type "code", none, .fields #[.str (S "_law_typed") 2328, .str (S "_law_typed") 2329, .str (S "/claim/cut.py") 2330, .int (89) 0, .int (1) 0, .int (0) 0, .int (0) 0, .int (3) 0, .ref 157, .bool true, .int (181) 0, .ref 158, .none, .ref 159, .ref 160, .ref 161, .int (2339) 0, .int (89) 0, .str (S "/claim/cut.py") 2340], #[]⟩
noncomputable def op18_163 (P : Params) : Obj := ⟨.type "function", none, .func (fn 18 (3) 0 (.none) (.none) (.none) (.str (S "law_uc0039_01") 2326) (none) (.ref 162) (.none) 0), #[]⟩
noncomputable def op19_164 (P : Params) : Obj := ⟨.type "tuple", none, .seq #[] 0, #[]⟩
noncomputable def op19_165 (P : Params) : Obj := ⟨.none, none, .fields #[], #[]⟩
noncomputable def op19_166 (P : Params) : Obj := ⟨.type "tuple", none, .seq #[.str (S "text") 2345, .str (S "kept") 2346, .str (S "sign") 2347, .str (S "unseen") 2348] 0, #[]⟩
noncomputable def op19_167 (P : Params) : Obj := ⟨.type "tuple", none, .seq #[] 0, #[]⟩
noncomputable def op19_168 (P : Params) : Obj := ⟨.none, none, .func (fn 19 (0) 0 (.none) (.none) (.none) (.none) (none) (.none) (.none) 0), #[]⟩
noncomputable def op19_169 (P : Params) : Obj := ⟨.type "code", none, .fields #[.str (S "_law_prepared") 2342, .str (S "_law_prepared") 2343, .str (S "/claim/cut.py") 2344, .int (113) 0, .int (1) 0, .int (0) 0, .int (0) 0, .int (3) 0, .ref 164, .bool true, .int (181) 0, .ref 165, .none, .ref 166, .ref 167, .ref 168, .int (2349) 0, .int (113) 0, .str (S "/claim/cut.py") 2350], #[]⟩
noncomputable def op19_170 (P : Params) : Obj := ⟨.type "function", none, .func (fn 19 (3) 0 (.none) (.none) (.none) (.str (S "law_uc0039_01") 2326) (none) (.ref 169) (.none) 0), #[]⟩
noncomputable def op20_171 (P : Params) : Obj := ⟨.type "tuple", none, .seq #[] 0, #[]⟩
noncomputable def op20_172 (P : Params) : Obj := ⟨.none, none, .fields #[], #[]⟩
noncomputable def op20_173 (P : Params) : Obj := ⟨.type "tuple", none, .seq #[.str (S "bead") 2355] 0, #[]⟩
noncomputable def op20_174 (P : Params) : Obj := ⟨.type "tuple", none, .seq #[] 0, #[]⟩
noncomputable def op20_175 (P : Params) : Obj := ⟨.none, none, .func (fn 20 (0) 0 (.none) (.none) (.none) (.none) (none) (.none) (.none) 0), #[]⟩
noncomputable def op20_176 (P : Params) : Obj := ⟨.type "code", none, .fields #[.str (S "_law_letter") 2352, .str (S "_law_letter") 2353, .str (S "/claim/cut.py") 2354, .int (122) 0, .int (1) 0, .int (0) 0, .int (0) 0, .int (3) 0, .ref 171, .bool true, .int (181) 0, .ref 172, .none, .ref 173, .ref 174, .ref 175, .int (2356) 0, .int (122) 0, .str (S "/claim/cut.py") 2357], #[]⟩
noncomputable def op20_177 (P : Params) : Obj := ⟨.type "function", none, .func (fn 20 (3) 0 (.none) (.none) (.none) (.str (S "law_uc0039_01") 2326) (none) (.ref 176) (.none) 0), #[]⟩
noncomputable def op21_178 (P : Params) : Obj := ⟨.type "tuple", none, .seq #[] 0, #[]⟩
noncomputable def op21_179 (P : Params) : Obj := ⟨.none, none, .fields #[], #[]⟩
noncomputable def op21_180 (P : Params) : Obj := ⟨.none, none, .func (fn 21 (0) 0 (.none) (.none) (.none) (.none) (none) (.none) (.none) 0), #[]⟩
noncomputable def op21_181 (P : Params) : Obj := ⟨.type "code", none, .fields #[.str (S "_law_endless") 2359, .str (S "_law_endless") 2360, .str (S "/claim/cut.py") 2361, .int (124) 0, .int (1) 0, .int (0) 0, .int (0) 0, .int (3) 0, .ref 178, .bool true, .int (181) 0, .ref 179, .none, .none, .none, .ref 180, .int (2362) 0, .int (124) 0, .str (S "/claim/cut.py") 2363], #[]⟩
noncomputable def op21_182 (P : Params) : Obj := ⟨.type "function", none, .func (fn 21 (3) 0 (.none) (.none) (.none) (.str (S "law_uc0039_01") 2326) (none) (.ref 181) (.none) 0), #[]⟩
noncomputable def op22_3 (P : Params) : Obj := ⟨.type "dict", none, .dict #[⟨PyData.keyHash P (S "__name__"), .str (S "__name__") 165, .str (S "law_uc0039_01") 2326⟩, ⟨PyData.keyHash P (S "__doc__"), .str (S "__doc__") 166, .none⟩, ⟨PyData.keyHash P (S "__package__"), .str (S "__package__") 167, .none⟩, ⟨PyData.keyHash P (S "__loader__"), .str (S "__loader__") 168, .builtin "__main__.__loader__#opaque"⟩, ⟨PyData.keyHash P (S "__spec__"), .str (S "__spec__") 169, .none⟩, ⟨PyData.keyHash P (S "__annotations__"), .str (S "__annotations__") 170, .ref 6⟩, ⟨PyData.keyHash P (S "__builtins__"), .str (S "__builtins__") 171, .ref 4⟩, ⟨PyData.keyHash P (S "__file__"), .str (S "__file__") 173, .str (S "/claim/cut.py") 172⟩, ⟨PyData.keyHash P (S "__cached__"), .str (S "__cached__") 174, .none⟩, ⟨PyData.keyHash P (S "insort_right"), .str (S "insort_right") 201, .ref 23⟩, ⟨PyData.keyHash P (S "bisect_right"), .str (S "bisect_right") 215, .ref 32⟩, ⟨PyData.keyHash P (S "insort_left"), .str (S "insort_left") 228, .ref 41⟩, ⟨PyData.keyHash P (S "bisect_left"), .str (S "bisect_left") 242, .ref 50⟩, ⟨PyData.keyHash P (S "ne"), .str (S "ne") 252, .ref 57⟩, ⟨PyData.keyHash P (S "mul"), .str (S "mul") 260, .ref 64⟩, ⟨PyData.keyHash P (S "concat"), .str (S "concat") 269, .ref 71⟩, ⟨PyData.keyHash P (S "countOf"), .str (S "countOf") 279, .ref 78⟩, ⟨PyData.keyHash P (S "getitem"), .str (S "getitem") 287, .ref 85⟩, ⟨PyData.keyHash P (S "indexOf"), .str (S "indexOf") 297, .ref 92⟩, ⟨PyData.keyHash P (S "b1_set"), .str (S "b1_set") 359, .ref 100⟩, ⟨PyData.keyHash P (S "in_table_b1"), .str (S "in_table_b1") 366, .ref 110⟩, ⟨PyData.keyHash P (S "b3_exceptions"), .str (S "b3_exceptions") 2317, .ref 111⟩, ⟨PyData.keyHash P (S "map_table_b3"), .str (S "map_table_b3") 2325, .ref 156⟩, ⟨PyData.keyHash P (S "_law_typed"), .str (S "_law_typed") 2341, .ref 163⟩, ⟨PyData.keyHash P (S "_law_prepared"), .str (S "_law_prepared") 2351, .ref 170⟩, ⟨PyData.keyHash P (S "_law_letter"), .str (S "_law_letter") 2358, .ref 177⟩, ⟨PyData.keyHash P (S "_law_endless"), .str (S "_law_endless") 2364, .ref 182⟩, ⟨PyData.keyHash P (S "law"), .str (S "law") 2370, .ref 187⟩] 28, #[]⟩
noncomputable def op22_12 (P : Params) : Obj := ⟨.none, none, .fields #[.int (2) 0, .int (0) 0, .ref 22, .int (8) 0, .int (0) 0, .ref 31, .int (28) 0, .int (0) 0, .ref 40, .int (34) 0, .int (0) 0, .ref 49, .int (55) 0, .int (0) 0, .ref 56, .int (57) 0, .int (0) 0, .ref 63, .int (59) 0, .int (0) 0, .ref 70, .int (64) 0, .int (0) 0, .ref 77, .int (70) 0, .int (0) 0, .ref 84, .int (72) 0, .int (0) 0, .ref 91, .int (80) 0, .int (0) 0, .ref 109, .int (83) 0, .int (0) 0, .ref 155, .int (89) 0, .int (0) 0, .ref 162, .int (113) 0, .int (0) 0, .ref 169, .int (122) 0, .int (0) 0, .ref 176, .int (124) 0, .int (0) 0, .ref 181, .int (126) 0, .int (0) 0, .ref 186], #[]⟩
noncomputable def op22_183 (P : Params) : Obj := ⟨.type "tuple", none, .seq #[] 0, #[]⟩
noncomputable def op22_184 (P : Params) : Obj := ⟨.none, none, .fields #[], #[]⟩
noncomputable def op22_185 (P : Params) : Obj := ⟨.none, none, .func (fn 22 (0) 0 (.none) (.none) (.none) (.none) (none) (.none) (.none) 0), #[]⟩
noncomputable def op22_186 (P : Params) : Obj := ⟨.type "code", none, .fields #[.str (S "law") 2365, .str (S "law") 2366, .str (S "/claim/cut.py") 2367, .int (126) 0, .int (1) 0, .int (0) 0, .int (0) 0, .int (3) 0, .ref 183, .bool true, .int (181) 0, .ref 184, .none, .none, .none, .ref 185, .int (2368) 0, .int (126) 0, .str (S "/claim/cut.py") 2369], #[]⟩
noncomputable def op22_187 (P : Params) : Obj := ⟨.type "function", none, .func (fn 22 (3) 0 (.none) (.none) (.none) (.str (S "law_uc0039_01") 2326) (none) (.ref 186) (.none) 0), #[]⟩
noncomputable def tp22 (P : Params) : BT := (.node (PySem.W.boot_o_0 P) (.node (PySem.W.boot_o_1 P) (.node (op22_3 P) (.node (PySem.W.boot_o_7 P) (.node (op1_15 P) (.node (op2_31 P) (.node (op7_63 P) (.node (op15_127 P) .nil .nil) .nil) (.node (op13_95 P) (.node (op18_159 P) .nil .nil) .nil)) (.node (op4_47 P) (.node (op10_79 P) (.node (op15_143 P) .nil .nil) .nil) (.node (op15_111 P) (.node (op20_175 P) .nil .nil) .nil))) (.node (op1_23 P) (.node (op3_39 P) (.node (op8_71 P) (.node (op15_135 P) .nil .nil) .nil) (.node (op13_103 P) (.node (op19_167 P) .nil .nil) .nil)) (.node (op6_55 P) (.node (op11_87 P) (.node (op16_151 P) .nil .nil) .nil) (.node (op15_119 P) (.node (op22_183 P) .nil .nil) .nil)))) (.node (opre_11 P) (.node (op1_19 P) (.node (op3_35 P) (.node (op8_67 P) (.node (op15_131 P) .nil .nil) .nil) (.node (op13_99 P) (.node (op18_163 P) .nil .nil) .nil)) (.node (op6_51 P) (.node (op10_83 P) (.node (op15_147 P) .nil .nil) .nil) (.node (op15_115 P) (.node (op21_179 P) .nil .nil) .nil))) (.node (op2_27 P) (.node (op4_43 P) (.node (op9_75 P) (.node (op15_139 P) .nil .nil) .nil) (.node (op14_107 P) (.node (op20_171 P) .nil .nil) .nil)) (.node (op7_59 P) (.node (op11_91 P) (.node (op16_155 P) .nil .nil) .nil) (.node (op15_123 P) (.node (op22_187 P) .nil .nil) .nil))))) (.node (PySem.W.boot_o_5 P) (.node (PySem.W.boot_o_9 P) (.node (op1_17 P) (.node (op3_33 P) (.node (op8_65 P) (.node (op15_129 P) .nil .nil) .nil) (.node (op13_97 P) (.node (op18_161 P) .nil .nil) .nil)) (.node (op4_49 P) (.node (op10_81 P) (.node (op15_145 P) .nil .nil) .nil) (.node (op15_113 P) (.node (op20_177 P) .nil .nil) .nil))) (.node (op2_25 P) (.node (op3_41 P) (.node (op9_73 P) (.node (op15_137 P) .nil .nil) .nil) (.node (op14_105 P) (.node (op19_169 P) .nil .nil) .nil)) (.node (op6_57 P) (.node (op11_89 P) (.node (op16_153 P) .nil .nil) .nil) (.node (op15_121 P) (.node (op22_185 P) .nil .nil) .nil)))) (.node (opre_13 P) (.node (op1_21 P) (.node (op3_37 P) (.node (op8_69 P) (.node (op15_133 P) .nil .nil) .nil) (.node (op13_101 P) (.node (op19_165 P) .nil .nil) .nil)) (.node (op6_53 P) (.node (op10_85 P) (.node (op15_149 P) .nil .nil) .nil) (.node (op15_117 P) (.node (op21_181 P) .nil .nil) .nil))) (.node (op2_29 P) (.node (op4_45 P) (.node (op9_77 P) (.node (op15_141 P) .nil .nil) .nil) (.node (op14_109 P) (.node (op20_173 P) .nil .nil) .nil)) (.node (op7_61 P) (.node (op13_93 P) (.node (op18_157 P) .nil .nil) .nil) (.node (op15_125 P) .nil .nil)))))) (.node (PySem.W.boot_o_2 P) (.node (PySem.W.boot_o_4 P) (.node (PySem.W.boot_o_8 P) (.node (op1_16 P) (.node (op2_32 P) (.node (op7_64 P) (.node (op15_128 P) .nil .nil) .nil) (.node (op13_96 P) (.node (op18_160 P) .nil .nil) .nil)) (.node (op4_48 P) (.node (op10_80 P) (.node (op15_144 P) .nil .nil) .nil) (.node (op15_112 P) (.node (op20_176 P) .nil .nil) .nil))) (.node (op2_24 P) (.node (op3_40 P) (.node (op9_72 P) (.node (op15_136 P) .nil .nil) .nil) (.node (op14_104 P) (.node (op19_168 P) .nil .nil) .nil)) (.node (op6_56 P) (.node (op11_88 P) (.node (op16_152 P) .nil .nil) .nil) (.node (op15_120 P) (.node (op22_184 P) .nil .nil) .nil)))) (.node (op22_12 P) (.node (op1_20 P) (.node (op3_36 P) (.node (op8_68 P) (.node (op15_132 P) .nil .nil) .nil) (.node (op13_100 P) (.node (op19_164 P) .nil .nil) .nil)) (.node (op6_52 P) (.node (op10_84 P) (.node (op15_148 P) .nil .nil) .nil) (.node (op15_116 P) (.node (op21_180 P) .nil .nil) .nil))) (.node (op2_28 P) (.node (op4_44 P) (.node (op9_76 P) (.node (op15_140 P) .nil .nil) .nil) (.node (op14_108 P) (.node (op20_172 P) .nil .nil) .nil)) (.node (op7_60 P) (.node (op11_92 P) (.node (op16_156 P) .nil .nil) .nil) (.node (op15_124 P) .nil .nil))))) (.node (PySem.W.boot_o_6 P) (.node (PySem.W.boot_o_10 P) (.node (op1_18 P) (.node (op3_34 P) (.node (op8_66 P) (.node (op15_130 P) .nil .nil) .nil) (.node (op13_98 P) (.node (op18_162 P) .nil .nil) .nil)) (.node (op4_50 P) (.node (op10_82 P) (.node (op15_146 P) .nil .nil) .nil) (.node (op15_114 P) (.node (op21_178 P) .nil .nil) .nil))) (.node (op2_26 P) (.node (op4_42 P) (.node (op9_74 P) (.node (op15_138 P) .nil .nil) .nil) (.node (op14_106 P) (.node (op19_170 P) .nil .nil) .nil)) (.node (op7_58 P) (.node (op11_90 P) (.node (op16_154 P) .nil .nil) .nil) (.node (op15_122 P) (.node (op22_186 P) .nil .nil) .nil)))) (.node (opre_14 P) (.node (op1_22 P) (.node (op3_38 P) (.node (op8_70 P) (.node (op15_134 P) .nil .nil) .nil) (.node (op13_102 P) (.node (op19_166 P) .nil .nil) .nil)) (.node (op6_54 P) (.node (op11_86 P) (.node (op16_150 P) .nil .nil) .nil) (.node (op15_118 P) (.node (op21_182 P) .nil .nil) .nil))) (.node (op2_30 P) (.node (op4_46 P) (.node (op9_78 P) (.node (op15_142 P) .nil .nil) .nil) (.node (op14_110 P) (.node (op20_174 P) .nil .nil) .nil)) (.node (op7_62 P) (.node (op13_94 P) (.node (op18_158 P) .nil .nil) .nil) (.node (op15_126 P) .nil .nil)))))))
noncomputable abbrev sp22 (w : World) (os : OsState) : SharedT := ⟨tp22 w.params, 188, {}, #[], {}, 2371, os⟩
noncomputable def heap_fin (P : Params) : Heap := ⟨⟨[PySem.W.boot_o_0 P, PySem.W.boot_o_1 P, PySem.W.boot_o_2 P, op22_3 P, PySem.W.boot_o_4 P, PySem.W.boot_o_5 P, PySem.W.boot_o_6 P, PySem.W.boot_o_7 P, PySem.W.boot_o_8 P, PySem.W.boot_o_9 P, PySem.W.boot_o_10 P, opre_11 P, op22_12 P, opre_13 P, opre_14 P, op1_15 P, op1_16 P, op1_17 P, op1_18 P, op1_19 P, op1_20 P, op1_21 P, op1_22 P, op1_23 P, op2_24 P, op2_25 P, op2_26 P, op2_27 P, op2_28 P, op2_29 P, op2_30 P, op2_31 P, op2_32 P, op3_33 P, op3_34 P, op3_35 P, op3_36 P, op3_37 P, op3_38 P, op3_39 P, op3_40 P, op3_41 P, op4_42 P, op4_43 P, op4_44 P, op4_45 P, op4_46 P, op4_47 P, op4_48 P, op4_49 P, op4_50 P, op6_51 P, op6_52 P, op6_53 P, op6_54 P, op6_55 P, op6_56 P, op6_57 P, op7_58 P, op7_59 P, op7_60 P, op7_61 P, op7_62 P, op7_63 P, op7_64 P, op8_65 P, op8_66 P, op8_67 P, op8_68 P, op8_69 P, op8_70 P, op8_71 P, op9_72 P, op9_73 P, op9_74 P, op9_75 P, op9_76 P, op9_77 P, op9_78 P, op10_79 P, op10_80 P, op10_81 P, op10_82 P, op10_83 P, op10_84 P, op10_85 P, op11_86 P, op11_87 P, op11_88 P, op11_89 P, op11_90 P, op11_91 P, op11_92 P, op13_93 P, op13_94 P, op13_95 P, op13_96 P, op13_97 P, op13_98 P, op13_99 P, op13_100 P, op13_101 P, op13_102 P, op13_103 P, op14_104 P, op14_105 P, op14_106 P, op14_107 P, op14_108 P, op14_109 P, op14_110 P, op15_111 P, op15_112 P, op15_113 P, op15_114 P, op15_115 P, op15_116 P, op15_117 P, op15_118 P, op15_119 P, op15_120 P, op15_121 P, op15_122 P, op15_123 P, op15_124 P, op15_125 P, op15_126 P, op15_127 P, op15_128 P, op15_129 P, op15_130 P, op15_131 P, op15_132 P, op15_133 P, op15_134 P, op15_135 P, op15_136 P, op15_137 P, op15_138 P, op15_139 P, op15_140 P, op15_141 P, op15_142 P, op15_143 P, op15_144 P, op15_145 P, op15_146 P, op15_147 P, op15_148 P, op15_149 P, op16_150 P, op16_151 P, op16_152 P, op16_153 P, op16_154 P, op16_155 P, op16_156 P, op18_157 P, op18_158 P, op18_159 P, op18_160 P, op18_161 P, op18_162 P, op18_163 P, op19_164 P, op19_165 P, op19_166 P, op19_167 P, op19_168 P, op19_169 P, op19_170 P, op20_171 P, op20_172 P, op20_173 P, op20_174 P, op20_175 P, op20_176 P, op20_177 P, op21_178 P, op21_179 P, op21_180 P, op21_181 P, op21_182 P, op22_183 P, op22_184 P, op22_185 P, op22_186 P, op22_187 P]⟩, {}⟩

noncomputable abbrev sR := @PySem.W.Fast.tw10110043849684766642
noncomputable abbrev tT := PySem.W.Fast.tw14364793385576792824
noncomputable abbrev xS := @PySem.W.Fast.tw12563942051412417395
noncomputable abbrev pO (l : List Stmt) (env : Env) (c : Code) (p : Pos) (B : List Frame) : Thread := ⟨(xS l env).wrap doneF deadEnd id id, c, p, B⟩
theorem pO_eq : @piecesOf = @pO := by unfold piecesOf pO; rw [PySem.W.Fast.te12563942051412417395]
theorem sR_eq : @segRunT = @sR := PySem.W.Fast.te10110043849684766642
theorem tT_eq : treeTable = tT := PySem.W.Fast.te14364793385576792824

noncomputable def gA : List Stmt := [st 0, st 1, st 2, st 3, st 4, st 5, st 6, st 7, st 8, st 9, st 10, st 11, st 12]
theorem qA (w : World) : (fun os => sR tT pw w 11 (some (.ref 6)) 1 375 (sblock w os) (pO gA hEnv hC ⟨0, 0, 0, 0⟩ hB)) = fun os => some (.next, sp12 w os, hC, ⟨78, 0, 78, 8⟩) := by kernel_rfl
theorem rA (w : World) : (fun os => segRunT treeTable pw w 11 (some (.ref 6)) 1 375 (sblock w os) (piecesOf gA hEnv hC ⟨0, 0, 0, 0⟩ hB)) = fun os => some (.next, sp12 w os, hC, ⟨78, 0, 78, 8⟩) := by
  rw [sR_eq, tT_eq, pO_eq]
  exact qA w
noncomputable def gB : List Stmt := [st 13]
theorem qB_false_false (w : World) : (fun os => sR tT pw (World.withFollow (World.withFollow w "set-order" false) "special-get-raises" false) 11 (some (.ref 6)) 1 999 (sp12 (World.withFollow (World.withFollow w "set-order" false) "special-get-raises" false) os) (pO gB hEnv hC ⟨78, 0, 78, 8⟩ hB)) = fun os => some (.next, sp13 (World.withFollow (World.withFollow w "set-order" false) "special-get-raises" false) os, hC, ⟨79, 0, 79, 6⟩) := by kernel_rfl
theorem qB_false_true (w : World) : (fun os => sR tT pw (World.withFollow (World.withFollow w "set-order" true) "special-get-raises" false) 11 (some (.ref 6)) 1 999 (sp12 (World.withFollow (World.withFollow w "set-order" true) "special-get-raises" false) os) (pO gB hEnv hC ⟨78, 0, 78, 8⟩ hB)) = fun os => some (.next, sp13 (World.withFollow (World.withFollow w "set-order" true) "special-get-raises" false) os, hC, ⟨79, 0, 79, 6⟩) := by kernel_rfl
theorem qB_false (w : World) : (fun os => sR tT pw (World.withFollow w "special-get-raises" false) 11 (some (.ref 6)) 1 999 (sp12 (World.withFollow w "special-get-raises" false) os) (pO gB hEnv hC ⟨78, 0, 78, 8⟩ hB)) = fun os => some (.next, sp13 (World.withFollow w "special-get-raises" false) os, hC, ⟨79, 0, 79, 6⟩) := byRow2 "set-order" (P := fun w => (fun os => sR tT pw (World.withFollow w "special-get-raises" false) 11 (some (.ref 6)) 1 999 (sp12 (World.withFollow w "special-get-raises" false) os) (pO gB hEnv hC ⟨78, 0, 78, 8⟩ hB)) = fun os => some (.next, sp13 (World.withFollow w "special-get-raises" false) os, hC, ⟨79, 0, 79, 6⟩)) qB_false_false qB_false_true w
theorem qB_true_false (w : World) : (fun os => sR tT pw (World.withFollow (World.withFollow w "set-order" false) "special-get-raises" true) 11 (some (.ref 6)) 1 999 (sp12 (World.withFollow (World.withFollow w "set-order" false) "special-get-raises" true) os) (pO gB hEnv hC ⟨78, 0, 78, 8⟩ hB)) = fun os => some (.next, sp13 (World.withFollow (World.withFollow w "set-order" false) "special-get-raises" true) os, hC, ⟨79, 0, 79, 6⟩) := by kernel_rfl
theorem qB_true_true (w : World) : (fun os => sR tT pw (World.withFollow (World.withFollow w "set-order" true) "special-get-raises" true) 11 (some (.ref 6)) 1 999 (sp12 (World.withFollow (World.withFollow w "set-order" true) "special-get-raises" true) os) (pO gB hEnv hC ⟨78, 0, 78, 8⟩ hB)) = fun os => some (.next, sp13 (World.withFollow (World.withFollow w "set-order" true) "special-get-raises" true) os, hC, ⟨79, 0, 79, 6⟩) := by kernel_rfl
theorem qB_true (w : World) : (fun os => sR tT pw (World.withFollow w "special-get-raises" true) 11 (some (.ref 6)) 1 999 (sp12 (World.withFollow w "special-get-raises" true) os) (pO gB hEnv hC ⟨78, 0, 78, 8⟩ hB)) = fun os => some (.next, sp13 (World.withFollow w "special-get-raises" true) os, hC, ⟨79, 0, 79, 6⟩) := byRow2 "set-order" (P := fun w => (fun os => sR tT pw (World.withFollow w "special-get-raises" true) 11 (some (.ref 6)) 1 999 (sp12 (World.withFollow w "special-get-raises" true) os) (pO gB hEnv hC ⟨78, 0, 78, 8⟩ hB)) = fun os => some (.next, sp13 (World.withFollow w "special-get-raises" true) os, hC, ⟨79, 0, 79, 6⟩)) qB_true_false qB_true_true w
theorem rB (w : World) : (fun os => segRunT treeTable pw w 11 (some (.ref 6)) 1 999 (sp12 w os) (piecesOf gB hEnv hC ⟨78, 0, 78, 8⟩ hB)) = fun os => some (.next, sp13 w os, hC, ⟨79, 0, 79, 6⟩) := by
  rw [sR_eq, tT_eq, pO_eq]
  exact byRow2 "special-get-raises" (P := fun w => (fun os => sR tT pw w 11 (some (.ref 6)) 1 999 (sp12 w os) (pO gB hEnv hC ⟨78, 0, 78, 8⟩ hB)) = fun os => some (.next, sp13 w os, hC, ⟨79, 0, 79, 6⟩)) qB_false qB_true w
noncomputable def gC : List Stmt := [st 14]
theorem qC (w : World) : (fun os => sR tT pw w 11 (some (.ref 6)) 1 30 (sp13 w os) (pO gC hEnv hC ⟨79, 0, 79, 6⟩ hB)) = fun os => some (.next, sp14 w os, hC, ⟨80, 0, 81, 30⟩) := by kernel_rfl
theorem rC (w : World) : (fun os => segRunT treeTable pw w 11 (some (.ref 6)) 1 30 (sp13 w os) (piecesOf gC hEnv hC ⟨79, 0, 79, 6⟩ hB)) = fun os => some (.next, sp14 w os, hC, ⟨80, 0, 81, 30⟩) := by
  rw [sR_eq, tT_eq, pO_eq]
  exact qC w

noncomputable def gD : List Stmt := [st 15]
noncomputable def b3R (v : Value) : Sem Flow := assignStores hEnv v none ((assignEach b3T hEnv).map (·.2))
noncomputable def b3B (f : Flow) : Sem Flow := match f with | .next => Sem.pure .next | f => Sem.pure f
noncomputable def b3i : List (Option (Sem Value) × Sem Value) := b3D.map fun x => (some (pK b3P x).1, (pK b3P x).2)
theorem exec15 : execs gD hEnv = (Sem.at b3Q fun _ => Sem.at b3P fun _ => (dictDisplay b3i).bind b3R).bind b3B := by kernel_rfl
noncomputable def ascB : Int → List (Int × PySem.Str) → Bool
  | _, [] => true
  | m, x :: r => decide (m < x.1) && decide (x.1 < 2 ^ 40) && ascB x.1 r
theorem asc_of : ∀ (l : List (Int × PySem.Str)) (m : Int), ascB m l = true → Asc m l
  | [], _, _ => trivial
  | x :: r, m, h => by
    simp only [ascB, Bool.and_eq_true, decide_eq_true_eq] at h
    exact ⟨h.1.1, h.1.2, asc_of r x.1 h.2⟩
theorem b3_asc : Asc 0 b3D := asc_of _ _ (by kernel_rfl)
theorem b3_split : b3D = (b3c :: b3cs).flatten ++ b3l := by kernel_rfl
theorem b3_len : ((b3c :: b3cs).all fun x => x.length == 17) = true := by kernel_rfl
theorem b3_heap14 (w : World) : (fun os => (sp14 w os).abs) = fun os => (⟨⟨(L14 w.params).toArray, {}⟩, #[], {}, 367, os⟩ : Shared) := by kernel_rfl
theorem b3_heap15 (w : World) : (fun os => (sq15 w os).abs) = fun os => (⟨HH (L14 w.params) (dObj b3main 650) b3subs, #[], {}, 2317, os⟩ : Shared) := by kernel_rfl
theorem b3_end (w : World) : (fun os => sR tT pw w 11 (some (.ref 6)) 1 10 (sq15 w os) ⟨((b3R (.ref 111)).bind b3B).wrap doneF deadEnd id id, hC, b3P, hB⟩) = fun os => some (.next, sp15 w os, hC, ⟨82, 0, 82, 13⟩) := by kernel_rfl
theorem rD (w : World) (os : OsState) : segRun treeTable pw w 11 (some (.ref 6)) 1 (12517 + 10) (sp14 w os).abs (piecesOf gD hEnv hC ⟨80, 0, 81, 30⟩ hB) = some (.next, (sp15 w os).abs, hC, ⟨82, 0, 82, 13⟩) := by
  have hL : (L14 w.params).length = 111 := by kernel_rfl
  have hlen : b3cs.length = 37 := by kernel_rfl
  have hl4 : b3l.length = 4 := by kernel_rfl
  have g := display_goes (w := w) (q := b3P) (a := L14 w.params) (gens := #[]) (drawn := {}) (os := os) (c := b3c) (cs := b3cs) (last := b3l) (toks := 367) (m := 0) (by rw [hL]; decide)
    (fun x hx => by simpa using List.all_eq_true.mp b3_len x hx) (by rw [hl4]; decide) (by intro h; rw [h] at hl4; cases hl4) (by decide) (b3_split ▸ b3_asc) (by rw [hlen, sizeLine_eq]; decide)
  rw [← b3_split, hL, hlen, hl4] at g
  have g2 : Goes w (sp14 w os).abs ⟨80, 0, 81, 30⟩ (Sem.at b3Q fun _ => Sem.at b3P fun _ => dictDisplay b3i) 12517 (.ref 111) (sq15 w os).abs b3P := by
    rw [congrFun (b3_heap14 w) os, congrFun (b3_heap15 w) os]
    exact Goes.cast (Goes.at _ _ (Goes.at _ _ g)) rfl
  have e : (execs gD hEnv).wrap doneF deadEnd id id = (Sem.at b3Q fun _ => Sem.at b3P fun _ => dictDisplay b3i).wrap (fun v => ((b3R v).bind b3B).wrap doneF deadEnd id id) deadEnd id id := by
    rw [exec15]
    show ((((Sem.at b3Q fun _ => Sem.at b3P fun _ => dictDisplay b3i).bind b3R).bind b3B)).wrap doneF deadEnd id id = _
    rw [Sem.bind_assoc, Sem.bind_eq_wrap, Sem.wrap_wrap]
    rfl
  show segRun treeTable pw w 11 (some (.ref 6)) 1 (12517 + 10) (sp14 w os).abs ⟨(execs gD hEnv).wrap doneF deadEnd id id, hC, _, hB⟩ = _
  rw [e]
  refine g2 _ _ _ _ _ _ (segRun_of ?_)
  rw [sR_eq, tT_eq]
  exact congrFun (b3_end w) os

noncomputable def gF : List Stmt := [st 16, st 17, st 18, st 19, st 20, st 21, st 22]
theorem qF (w : World) : (fun os => sR tT pw w 11 (some (.ref 6)) 1 189 (sp15 w os) (pO gF hEnv hC ⟨82, 0, 82, 13⟩ hB)) = fun os => some (.next, sp22 w os, hC, ⟨126, 0, 200, 25⟩) := by kernel_rfl
theorem rF (w : World) : (fun os => segRunT treeTable pw w 11 (some (.ref 6)) 1 189 (sp15 w os) (piecesOf gF hEnv hC ⟨82, 0, 82, 13⟩ hB)) = fun os => some (.next, sp22 w os, hC, ⟨126, 0, 200, 25⟩) := by
  rw [sR_eq, tT_eq, pO_eq]
  exact qF w

theorem hbody : behindTheImports pw = gA ++ (gB ++ (gC ++ (gD ++ (gF ++ [])))) := by kernel_rfl
theorem hpre (w : World) : (fun os => topGo treeTable pw w 11 (some (.ref 6)) 12 ⟨boot_heap w.params, Array.mk [], boot_drawn, boot_toks, os⟩ (topStub pw)) = fun os => some (⟨heap_pre w.params, #[], {}, 187, os⟩, ⟨denote treeTable hC, hC, ⟨0, 0, 0, 0⟩, hB⟩) := by kernel_rfl
theorem hblock (w : World) : (fun os => segRun treeTable pw w 11 (some (.ref 6)) 1 1 ⟨heap_pre w.params, #[], {}, 187, os⟩ (blockOf (behindTheImports pw) hEnv hC ⟨0, 0, 0, 0⟩ hB)) = fun os => some (.next, (sblock w os).abs, hC, ⟨0, 0, 0, 0⟩) := by kernel_rfl
theorem hfin (w : World) : (fun os => topRun treeTable pw w 11 (some (.ref 6)) 2 (sp22 w os).abs ⟨doneF .next, hC, ⟨126, 0, 200, 25⟩, hB⟩) = fun os => some ⟨heap_fin w.params, #[], {}, 2371, os⟩ := by kernel_rfl
theorem hrun (w : World) (os : OsState) : topRun treeTable pw w 11 (some (.ref 6)) (12 + (1 + (375 + ( 999 + ( 30 + ( 12527 + ( 189 + ( 2)))))))) ⟨boot_heap w.params, Array.mk [], boot_drawn, boot_toks, os⟩ (topStub pw) = some ⟨heap_fin w.params, #[], {}, 2371, os⟩ := by
  refine go_top (congrFun (hpre w) os) (piece_block (congrFun (hblock w) os) ?_)
  rw [hbody]
  exact (piece_app (segRun_of (congrFun (rA w) os)) (piece_app (segRun_of (congrFun (rB w) os)) (piece_app (segRun_of (congrFun (rC w) os)) (piece_app (rD w os) (piece_app (segRun_of (congrFun (rF w) os)) (piece_nil (congrFun (hfin w) os)))))))


noncomputable abbrev qv : Program := { pw with main := { pw.main with body := [st 22] } }
noncomputable def looseV : List PySem.Str := [S "insort_right", S "bisect_right", S "insort_left", S "bisect_left", S "ne", S "mul", S "concat", S "countOf", S "getitem", S "indexOf", S "b1_set", S "in_table_b1", S "b3_exceptions", S "map_table_b3", S "_law_typed", S "_law_prepared", S "_law_letter", S "_law_endless"]
theorem look1 (w : World) : (fun os => (staticsOk (importedModules pw.main.body) (boot_heap w.params) (heap_fin w.params) && namesBound pw (heap_fin w.params) && gensDone ⟨heap_fin w.params, #[], {}, 2371, os⟩ && laidKept (boot_heap w.params) (heap_fin w.params))) = fun _ => true := by kernel_rfl

noncomputable def KF (P : Params) : Frag := [(0, PySem.W.boot_o_0 P), (1, PySem.W.boot_o_1 P), (2, PySem.W.boot_o_2 P), (3, op22_3 P), (4, PySem.W.boot_o_4 P), (5, PySem.W.boot_o_5 P), (6, PySem.W.boot_o_6 P), (7, PySem.W.boot_o_7 P), (8, PySem.W.boot_o_8 P), (9, PySem.W.boot_o_9 P), (10, PySem.W.boot_o_10 P), (11, opre_11 P), (12, op22_12 P), (13, opre_13 P), (14, opre_14 P), (15, op1_15 P), (16, op1_16 P), (17, op1_17 P), (18, op1_18 P), (19, op1_19 P), (20, op1_20 P), (21, op1_21 P), (22, op1_22 P), (23, op1_23 P), (24, op2_24 P), (25, op2_25 P), (26, op2_26 P), (27, op2_27 P), (28, op2_28 P), (29, op2_29 P), (30, op2_30 P), (31, op2_31 P), (32, op2_32 P), (33, op3_33 P), (34, op3_34 P), (35, op3_35 P), (36, op3_36 P), (37, op3_37 P), (38, op3_38 P), (39, op3_39 P), (40, op3_40 P), (41, op3_41 P), (42, op4_42 P), (43, op4_43 P), (44, op4_44 P), (45, op4_45 P), (46, op4_46 P), (47, op4_47 P), (48, op4_48 P), (49, op4_49 P), (50, op4_50 P), (51, op6_51 P), (52, op6_52 P), (53, op6_53 P), (54, op6_54 P), (55, op6_55 P), (56, op6_56 P), (57, op6_57 P), (58, op7_58 P), (59, op7_59 P), (60, op7_60 P), (61, op7_61 P), (62, op7_62 P), (63, op7_63 P), (64, op7_64 P), (65, op8_65 P), (66, op8_66 P), (67, op8_67 P), (68, op8_68 P), (69, op8_69 P), (70, op8_70 P), (71, op8_71 P), (72, op9_72 P), (73, op9_73 P), (74, op9_74 P), (75, op9_75 P), (76, op9_76 P), (77, op9_77 P), (78, op9_78 P), (79, op10_79 P), (80, op10_80 P), (81, op10_81 P), (82, op10_82 P), (83, op10_83 P), (84, op10_84 P), (85, op10_85 P), (86, op11_86 P), (87, op11_87 P), (88, op11_88 P), (89, op11_89 P), (90, op11_90 P), (91, op11_91 P), (92, op11_92 P), (93, op13_93 P), (94, op13_94 P), (95, op13_95 P), (96, op13_96 P), (97, op13_97 P), (98, op13_98 P), (99, op13_99 P), (100, op13_100 P), (101, op13_101 P), (102, op13_102 P), (103, op13_103 P), (104, op14_104 P), (105, op14_105 P), (106, op14_106 P), (107, op14_107 P), (108, op14_108 P), (109, op14_109 P), (110, op14_110 P), (111, op15_111 P), (112, op15_112 P), (113, op15_113 P), (114, op15_114 P), (115, op15_115 P), (116, op15_116 P), (117, op15_117 P), (118, op15_118 P), (119, op15_119 P), (120, op15_120 P), (121, op15_121 P), (122, op15_122 P), (123, op15_123 P), (124, op15_124 P), (125, op15_125 P), (126, op15_126 P), (127, op15_127 P), (128, op15_128 P), (129, op15_129 P), (130, op15_130 P), (131, op15_131 P), (132, op15_132 P), (133, op15_133 P), (134, op15_134 P), (135, op15_135 P), (136, op15_136 P), (137, op15_137 P), (138, op15_138 P), (139, op15_139 P), (140, op15_140 P), (141, op15_141 P), (142, op15_142 P), (143, op15_143 P), (144, op15_144 P), (145, op15_145 P), (146, op15_146 P), (147, op15_147 P), (148, op15_148 P), (149, op15_149 P), (150, op16_150 P), (151, op16_151 P), (152, op16_152 P), (153, op16_153 P), (154, op16_154 P), (155, op16_155 P), (156, op16_156 P), (157, op18_157 P), (158, op18_158 P), (159, op18_159 P), (160, op18_160 P), (161, op18_161 P), (162, op18_162 P), (163, op18_163 P), (164, op19_164 P), (165, op19_165 P), (166, op19_166 P), (167, op19_167 P), (168, op19_168 P), (169, op19_169 P), (170, op19_170 P), (171, op20_171 P), (172, op20_172 P), (173, op20_173 P), (174, op20_174 P), (175, op20_175 P), (176, op20_176 P), (177, op20_177 P), (178, op21_178 P), (179, op21_179 P), (180, op21_180 P), (181, op21_181 P), (182, op21_182 P), (183, op22_183 P), (184, op22_184 P), (185, op22_185 P), (186, op22_186 P), (187, op22_187 P)]
noncomputable def KA : List Addr := [0, 1, 2, 3, 4, 5, 6, 7, 8, 9, 10, 11, 12, 13, 14, 15, 16, 17, 18, 19, 20, 21, 22, 23, 24, 25, 26, 27, 28, 29, 30, 31, 32, 33, 34, 35, 36, 37, 38, 39, 40, 41, 42, 43, 44, 45, 46, 47, 48, 49, 50, 51, 52, 53, 54, 55, 56, 57, 58, 59, 60, 61, 62, 63, 64, 65, 66, 67, 68, 69, 70, 71, 72, 73, 74, 75, 76, 77, 78, 79, 80, 81, 82, 83, 84, 85, 86, 87, 88, 89, 90, 91, 92, 93, 94, 95, 96, 97, 98, 99, 100, 101, 102, 103, 104, 105, 106, 107, 108, 109, 110, 111, 112, 113, 114, 115, 116, 117, 118, 119, 120, 121, 122, 123, 124, 125, 126, 127, 128, 129, 130, 131, 132, 133, 134, 135, 136, 137, 138, 139, 140, 141, 142, 143, 144, 145, 146, 147, 148, 149, 150, 151, 152, 153, 154, 155, 156, 157, 158, 159, 160, 161, 162, 163, 164, 165, 166, 167, 168, 169, 170, 171, 172, 173, 174, 175, 176, 177, 178, 179, 180, 181, 182, 183, 184, 185, 186, 187]

theorem KA_eq : ∀ P, KA = (KF P).map (·.1) := fun _ => by kernel_rfl
theorem look2 (w : World) : (fun os => openSeen qv looseV (importedModules pw.main.body) (fun _ => true) true ⟨heap_fin w.params, #[], {}, 2371, os⟩) = fun _ => openGood qv looseV := by kernel_rfl
theorem look3 (w : World) : (fun os => (kHook KF KA KA_eq).obs ⟨heap_fin w.params, #[], {}, 2371, os⟩) = fun _ => (kHook KF KA KA_eq).val w := by kernel_rfl
theorem hsize (w : World) : ((boot_heap w.params).isNs mainGlobals && (Array.mk ([] : List GenState)).size == 0, (boot_heap w.params).objs.size, (boot_heap w.params).nsMap mainGlobals "__annotations__") = (true, 11, some (.ref 6)) := by kernel_rfl
theorem left : LeftO pw qv looseV (fun _ => true) (kHook KF KA KA_eq).obs (kHook KF KA KA_eq).val 40000 := by
  refine LeftO.of_pieces (boot_open (by kernel_rfl) (by kernel_rfl) (fun s => by kernel_rfl)) hsize hrun (by kernel_rfl) (fun w => ?_)
  funext os
  exact looks_pair (congrFun (look1 w) os) (looks_pair (congrFun (look2 w) os) (congrFun (look3 w) os))

end
end Mine

-- part W1
set_option linter.all false
noncomputable section
namespace Mine
open PySem PySem.W PySem.Calls PyProof.Rows
set_option Elab.async false
set_option maxRecDepth 100000

/-- what the law's values are, with no heap in sight but for lists -/
inductive PV where
  | none | bool (b : Bool) | int (i : Int) | str (s : PySem.Str) | tup (l : List PV) | rng (lo hi : Int) | ref (a : Addr) | fn (a : Addr) | blt (id : String) | typ (n : String)
noncomputable abbrev tupO (items : Array Value) (n : Nat) : Obj := { cls := .type "tuple", dict := Option.none, data := .seq items n, slots := #[] }
noncomputable abbrev rngO (vs : Array Value) : Obj := { cls := .type "range", dict := Option.none, data := .fields vs, slots := #[] }
/-- objects that nothing changes -/
inductive Frozen : Obj → Prop
  | tup {items n} : Frozen (tupO items n)
  | rng {vs} : Frozen (rngO vs)
/-- a heap; the tokens given out so far; what text each token stands for -/
structure Vw where
  h : Heap
  T : Nat
  τ : Nat → PySem.Str
mutual
inductive VRep (h : Vw) : Value → PV → Prop
  | none : VRep h .none .none
  | bool {b} : VRep h (.bool b) (.bool b)
  | int {i t} : VRep h (.int i t) (.int i)
  | str {s t} : t ≠ 0 → t < h.T → h.τ t = s → VRep h (.str s t) (.str s)
  | tup {a items n l} : h.h.get? a = some (tupO items n) → VReps h items.toList l → VRep h (.ref a) (.tup l)
  | rng {a lo hi t u v} : h.h.get? a = some (rngO #[.int lo t, .int hi u, .int 1 v]) → VRep h (.ref a) (.rng lo hi)
  | ref {a} : VRep h (.ref a) (.ref a)
  | fn {a} : VRep h (.ref a) (.fn a)
  | blt {id} : VRep h (.builtin id) (.blt id)
  | typ {n} : VRep h (.type n) (.typ n)
inductive VReps (h : Vw) : List Value → List PV → Prop
  | nil : VReps h [] []
  | cons {v p vs ps} : VRep h v p → VReps h vs ps → VReps h (v :: vs) (p :: ps)
end
theorem VRep.none_is {h : Vw} {v : Value} (r : VRep h v .none) : v = .none := by cases r; rfl
theorem VRep.bool_is {h : Vw} {v : Value} {b : Bool} (r : VRep h v (.bool b)) : v = .bool b := by cases r; rfl
theorem VRep.int_is {h : Vw} {v : Value} {i : Int} (r : VRep h v (.int i)) : ∃ t, v = .int i t := by cases r; exact ⟨_, rfl⟩
theorem VRep.str_is {h : Vw} {v : Value} {s : PySem.Str} (r : VRep h v (.str s)) : ∃ t, v = .str s t ∧ t ≠ 0 ∧ t < h.T ∧ h.τ t = s := by cases r with | str a b c => exact ⟨_, rfl, a, b, c⟩
theorem VRep.ref_is {h : Vw} {v : Value} {a : Addr} (r : VRep h v (.ref a)) : v = .ref a := by cases r; rfl
theorem VRep.fn_is {h : Vw} {v : Value} {a : Addr} (r : VRep h v (.fn a)) : v = .ref a := by cases r; rfl
theorem VReps.nil_is {h : Vw} {vs : List Value} (r : VReps h vs []) : vs = [] := by cases r; rfl
theorem VReps.cons_is {h : Vw} {vs : List Value} {p : PV} {ps : List PV} (r : VReps h vs (p :: ps)) : ∃ v us, vs = v :: us ∧ VRep h v p ∧ VReps h us ps := by cases r with | cons a b => exact ⟨_, _, rfl, a, b⟩
theorem VReps.one {h : Vw} {vs : List Value} {p : PV} (r : VReps h vs [p]) : ∃ a, vs = [a] ∧ VRep h a p := by
  obtain ⟨v, us, rfl, r1, r2⟩ := r.cons_is
  rw [r2.nil_is]; exact ⟨v, rfl, r1⟩
theorem VReps.two {h : Vw} {vs : List Value} {p q : PV} (r : VReps h vs [p, q]) : ∃ a b, vs = [a, b] ∧ VRep h a p ∧ VRep h b q := by
  obtain ⟨v, us, rfl, r1, r2⟩ := r.cons_is
  obtain ⟨u, rfl, r3⟩ := r2.one; exact ⟨v, u, rfl, r1, r3⟩
structure Imm (h h' : Vw) : Prop where
  fro : ∀ a o, Frozen o → h.h.get? a = some o → h'.h.get? a = some o
  T : h.T ≤ h'.T
  τ : ∀ t, t < h.T → h'.τ t = h.τ t
theorem Imm.refl (h : Vw) : Imm h h := ⟨fun _ _ _ e => e, Nat.le_refl _, fun _ _ => rfl⟩
theorem Imm.trans {h h' h'' : Vw} (x : Imm h h') (y : Imm h' h'') : Imm h h'' := ⟨fun a o f e => y.fro a o f (x.fro a o f e), Nat.le_trans x.T y.T, fun t k => (y.τ t (Nat.lt_of_lt_of_le k x.T)).trans (x.τ t k)⟩
mutual
theorem VRep.imm {h h' : Vw} (k : Imm h h') : ∀ {v : Value} {p : PV}, VRep h v p → VRep h' v p
  | _, _, .none => .none
  | _, _, .bool => .bool
  | _, _, .int => .int
  | _, _, .str a b c => .str a (Nat.lt_of_lt_of_le b k.T) ((k.τ _ b).trans c)
  | _, _, .tup e r => .tup (k.fro _ _ .tup e) (VReps.imm k r)
  | _, _, .rng e => .rng (k.fro _ _ .rng e)
  | _, _, .ref => .ref
  | _, _, .fn => .fn
  | _, _, .blt => .blt
  | _, _, .typ => .typ
theorem VReps.imm {h h' : Vw} (k : Imm h h') : ∀ {vs : List Value} {ps : List PV}, VReps h vs ps → VReps h' vs ps
  | _, _, .nil => .nil
  | _, _, .cons a r => .cons (VRep.imm k a) (VReps.imm k r)
end
theorem VReps.length {h : Vw} : ∀ {vs : List Value} {ps : List PV}, VReps h vs ps → vs.length = ps.length
  | _, _, .nil => rfl
  | _, _, .cons _ r => by rw [List.length_cons, List.length_cons, r.length]
theorem VReps.get {h : Vw} : ∀ {vs : List Value} {ps : List PV} {i : Nat} {v : Value}, VReps h vs ps → vs[i]? = some v → ∃ p, ps[i]? = some p ∧ VRep h v p
  | _, _, 0, _, .cons a _, e => by cases e; exact ⟨_, rfl, a⟩
  | _, _, i + 1, _, .cons _ r, e => by simpa using r.get (i := i) (by simpa using e)
theorem VReps.get' {h : Vw} : ∀ {vs : List Value} {ps : List PV} {i : Nat} {p : PV}, VReps h vs ps → ps[i]? = some p → ∃ v, vs[i]? = some v ∧ VRep h v p
  | _, _, 0, _, .cons a _, e => by cases e; exact ⟨_, rfl, a⟩
  | _, _, i + 1, _, .cons _ r, e => by simpa using r.get' (i := i) (by simpa using e)
theorem VReps.append {h : Vw} : ∀ {vs us : List Value} {ps qs : List PV}, VReps h vs ps → VReps h us qs → VReps h (vs ++ us) (ps ++ qs)
  | _, _, _, _, .nil, y => y
  | _, _, _, _, .cons a r, y => .cons a (r.append y)

noncomputable abbrev PH := Addr → Option (List PV)
noncomputable def PH.set (H : PH) (a : Addr) (l : List PV) : PH := fun b => if b = a then some l else H b
noncomputable def LRep (hb : Heap) (H : PH) (h : Vw) : Prop := ∀ a l, H a = some l → hb.get? a = Option.none ∧ ∃ items n, IsL h.h a items n ∧ VReps h items.toList l
structure Evo (X : List Addr) (H : PH) (h : Vw) (H' : PH) (h' : Vw) : Prop where
  kept : ∀ a o, h.h.get? a = some o → (H a).isSome = true ∨ a ∈ X ∨ h'.h.get? a = some o
  live : ∀ a o, h.h.get? a = some o → ∃ o', h'.h.get? a = some o'
  new : ∀ a, (H' a).isSome = true → (H a).isSome = true ∨ h.h.get? a = Option.none
  T : h.T ≤ h'.T
  τ : ∀ t, t < h.T → h'.τ t = h.τ t
theorem Evo.refl {X : List Addr} {H : PH} {h : Vw} : Evo X H h H h := ⟨fun _ _ e => .inr (.inr e), fun _ o e => ⟨o, e⟩, fun _ e => .inl e, Nat.le_refl _, fun _ _ => rfl⟩
theorem Evo.mono {X Y : List Addr} {H H' : PH} {h h' : Vw} (e : Evo X H h H' h') (s : ∀ a ∈ X, a ∈ Y) : Evo Y H h H' h' := ⟨fun a o g => (e.kept a o g).imp id (Or.imp (s a) id), e.live, e.new, e.T, e.τ⟩
theorem Evo.trans {X : List Addr} {H H₁ H₂ : PH} {h h₁ h₂ : Vw} (x : Evo X H h H₁ h₁) (y : Evo X H₁ h₁ H₂ h₂) : Evo X H h H₂ h₂ where
  kept := fun a o e => by
    rcases x.kept a o e with q | q | q
    · exact .inl q
    · exact .inr (.inl q)
    · rcases y.kept a o q with r | r | r
      · rcases x.new a r with z | z
        · exact .inl z
        · rw [e] at z; cases z
      · exact .inr (.inl r)
      · exact .inr (.inr r)
  live := fun a o e => let ⟨o', e'⟩ := x.live a o e; y.live a o' e'
  new := fun a e => by
    rcases y.new a e with q | q
    · exact x.new a q
    · cases g : h.h.get? a with
      | none => exact .inr rfl
      | some o => obtain ⟨o', e'⟩ := x.live a o g; rw [q] at e'; cases e'
  T := Nat.le_trans x.T y.T
  τ := fun t k => (y.τ t (Nat.lt_of_lt_of_le k x.T)).trans (x.τ t k)
/-- an evaluation that only adds to the heap -/
theorem Evo.grow {X : List Addr} {H : PH} {h h' : Vw} (k : ∀ a o, h.h.get? a = some o → h'.h.get? a = some o) (kT : h.T ≤ h'.T) (kτ : ∀ t, t < h.T → h'.τ t = h.τ t) : Evo X H h H h' :=
  ⟨fun a o e => .inr (.inr (k a o e)), fun a o e => ⟨o, k a o e⟩, fun _ e => .inl e, kT, kτ⟩
/-- dropping lists from sight -/
noncomputable def PH.le (H' H : PH) : Prop := ∀ a l, H' a = some l → H a = some l
theorem Evo.drop {X : List Addr} {H H' H'' : PH} {h h' : Vw} (x : Evo X H h H' h') (d : PH.le H'' H') : Evo X H h H'' h' := ⟨x.kept, x.live, fun a e => by
  obtain ⟨l, hl⟩ := Option.isSome_iff_exists.mp e
  exact x.new a (by rw [d a l hl]; rfl), x.T, x.τ⟩
theorem LRep.imm {hb : Heap} {H H' : PH} {h h' : Vw} (L : LRep hb H h) (x : Evo [] H h H' h') : Imm h h' := ⟨fun a o f e => by
  rcases x.kept a _ e with q | q | q
  · obtain ⟨l, hl⟩ := Option.isSome_iff_exists.mp q
    obtain ⟨_, its, m, hi, _⟩ := L a l hl
    have := Option.some.inj (e.symm.trans hi)
    cases f
    · exact absurd this (by simp)
    · exact absurd this (by simp)
  · cases q
  · exact q, x.T, x.τ⟩

structure EnvOk (env : Env) : Prop where
  kind : env.scope.kind = .function
  glob : env.globals = mainGlobals
  blt : env.builtins = builtinsNs
noncomputable abbrev Rho := PySem.Str → Option PV
noncomputable def Rho.set (ρ : Rho) (x : PySem.Str) (p : PV) : Rho := fun y => if y = x then some p else ρ y
/-- objects that hold names -/
noncomputable def Holder (o : Obj) : Prop := (∃ es ep, o.data = .dict es ep) ∨ ∃ v, o.data = .cell v
theorem Holder.notFrozen {o : Obj} (x : Holder o) (f : Frozen o) : False := by
  cases f <;> rcases x with ⟨_, _, e⟩ | ⟨_, e⟩ <;> cases e
structure FRep (hb : Heap) (env : Env) (ρ : Rho) (h : Vw) : Prop where
  ns : ∃ m, h.h.Ns env.locals m ∧ ∀ x p, env.kindOf x = some .local → ρ x = some p → ∃ v, m x = some v ∧ VRep h v p
  nsNew : hb.get? env.locals = Option.none
  cell : ∀ x, env.kindOf x = some .cell ∨ env.kindOf x = some .free → ∃ c, env.cells.lookup x = some c ∧ hb.get? c = Option.none ∧ ∃ v₀, h.h.IsCell c v₀ ∧ ∀ p, ρ x = some p → ∃ v, v₀ = some v ∧ VRep h v p
  live : ∀ a ∈ env.locals :: env.cells.map (·.2), ∃ o, h.h.get? a = some o ∧ Holder o
noncomputable def own (env : Env) : List Addr := env.locals :: env.cells.map (·.2)

theorem Heap.Ns.notList {h : Heap} {L : Addr} {m : PySem.Str → Option Value} (n : h.Ns L m) {items k} (e : IsL h L items k) : False := by
  obtain ⟨o, es, ep, ho, hd, _⟩ := n
  obtain rfl := Option.some.inj (e.symm.trans ho)
  cases hd
theorem LRep.notNs {hb : Heap} {H : PH} {h : Vw} (L : LRep hb H h) {a : Addr} {m : PySem.Str → Option Value} (n : h.h.Ns a m) : (H a).isSome = true → False := fun q => by
  obtain ⟨l, hl⟩ := Option.isSome_iff_exists.mp q
  obtain ⟨_, its, k, hi, _⟩ := L a l hl
  exact Heap.Ns.notList n hi
theorem LRep.notCell {hb : Heap} {H : PH} {h : Vw} (L : LRep hb H h) {a : Addr} {v : Option Value} (n : h.h.IsCell a v) : (H a).isSome = true → False := fun q => by
  obtain ⟨l, hl⟩ := Option.isSome_iff_exists.mp q
  obtain ⟨_, its, k, hi, _⟩ := L a l hl
  obtain ⟨o, ho, hd⟩ := n
  obtain rfl := Option.some.inj (hi.symm.trans ho)
  cases hd
theorem LRep.notHolder {hb : Heap} {H : PH} {h : Vw} (L : LRep hb H h) {a : Addr} {o : Obj} (ho : h.h.get? a = some o) (hh : Holder o) : (H a).isSome = true → False := fun q => by
  obtain ⟨l, hl⟩ := Option.isSome_iff_exists.mp q
  obtain ⟨_, its, k, hi, _⟩ := L a l hl
  obtain rfl := Option.some.inj (hi.symm.trans ho)
  rcases hh with ⟨_, _, hd⟩ | ⟨_, hd⟩ <;> cases hd
/-- a frame stands behind a call -/
theorem FRep.evo {hb : Heap} {env : Env} {ρ : Rho} {H H' : PH} {h h' : Vw} (F : FRep hb env ρ h) (L : LRep hb H h) (x : Evo [] H h H' h') : FRep hb env ρ h' := by
  have im := L.imm x
  obtain ⟨⟨m, hn, hm⟩, hnew, hc, ap⟩ := F
  refine ⟨⟨m, ?_, fun y p k e => let ⟨v, a, b⟩ := hm y p k e; ⟨v, a, b.imm im⟩⟩, hnew, fun y k => ?_, fun a ha => ?_⟩
  · obtain ⟨o, es, ep, ho, r⟩ := hn
    rcases x.kept _ o ho with q | q | q
    · exact (L.notNs ⟨o, es, ep, ho, r⟩ q).elim
    · cases q
    · exact ⟨o, es, ep, q, r⟩
  · obtain ⟨c, e1, e2, v₀, ⟨o, ho, hd⟩, r⟩ := hc y k
    refine ⟨c, e1, e2, v₀, ?_, fun p e => let ⟨v, a, b⟩ := r p e; ⟨v, a, b.imm im⟩⟩
    rcases x.kept _ o ho with q | q | q
    · exact (L.notCell ⟨o, ho, hd⟩ q).elim
    · cases q
    · exact ⟨o, q, hd⟩
  · obtain ⟨o, ho, hh⟩ := ap a ha
    rcases x.kept _ o ho with q | q | q
    · exact (L.notHolder ho hh q).elim
    · cases q
    · exact ⟨o, q, hh⟩
theorem Evo.imm {hb : Heap} {env : Env} {ρ : Rho} {H H' : PH} {h h' : Vw} (F : FRep hb env ρ h) (L : LRep hb H h) (x : Evo (own env) H h H' h') : Imm h h' := ⟨fun a o f e => by
  rcases x.kept a _ e with q | q | q
  · obtain ⟨l, hl⟩ := Option.isSome_iff_exists.mp q
    obtain ⟨_, its, m, hi, _⟩ := L a l hl
    have := Option.some.inj (e.symm.trans hi)
    cases f
    · exact absurd this (by simp)
    · exact absurd this (by simp)
  · obtain ⟨o', ho', hh⟩ := F.live a q
    obtain rfl := Option.some.inj (e.symm.trans ho')
    exact (hh.notFrozen f).elim
  · exact q, x.T, x.τ⟩

structure Base (w : World) (hb : Heap) : Prop where
  K : (KF w.params).In hb
  lim : hb.NoLimit
  blt : ∃ mb, hb.Ns builtinsNs mb ∧ ∀ x : PySem.Str, x ≠ "__name__" → mb x = bootBuiltins x
/-- the tokens of the base's texts (those of the table B.3) -/
noncomputable def BTok (t : Nat) (x : PySem.Str) : Prop := ∃ e ∈ b3main, e.val = .str x t
noncomputable def TokOk (T : Nat) (τ : Nat → PySem.Str) : Prop := T ≠ 0 ∧ ∀ t x, BTok t x → t ≠ 0 ∧ t < T ∧ τ t = x
theorem TokOk.mono {T T' : Nat} {τ τ' : Nat → PySem.Str} (h : TokOk T τ) (kT : T ≤ T') (kτ : ∀ t, t < T → τ' t = τ t) : TokOk T' τ' :=
  ⟨fun e => h.1 (Nat.le_zero.mp (e ▸ kT)), fun t x b => let ⟨a, c, d⟩ := h.2 t x b; ⟨a, Nat.lt_of_lt_of_le c kT, (kτ t c).trans d⟩⟩
noncomputable abbrev vw (s : Shared) (τ : Nat → PySem.Str) : Vw := ⟨s.heap, s.toks, τ⟩
/-- what holds of a state in a frame -/
structure Inv (hb : Heap) (os : OsState) (env : Env) (ρ : Rho) (H : PH) (s : Shared) (τ : Nat → PySem.Str) : Prop where
  base : ∀ b o, hb.get? b = some o → s.heap.get? b = some o
  l : LRep hb H (vw s τ)
  f : FRep hb env ρ (vw s τ)
  gens : s.gens = #[]
  os : s.os = os
  pos : TokOk s.toks τ
/-- the same with no frame -/
structure Inv0 (hb : Heap) (os : OsState) (H : PH) (s : Shared) (τ : Nat → PySem.Str) : Prop where
  base : ∀ b o, hb.get? b = some o → s.heap.get? b = some o
  l : LRep hb H (vw s τ)
  gens : s.gens = #[]
  os : s.os = os
  pos : TokOk s.toks τ
noncomputable def AOk (n : Nat) (A : Around) : Prop := A.handled = Option.none ∧ A.depth + n < recursionLimit ∧ A.units + 40 * n + 40 < cLine
theorem AOk.in1 {n : Nat} {A : Around} (h : AOk (n + 1) A) : AOk n A.in1 := ⟨h.1, by have := h.2.1; show A.depth + n < _; omega, by have := h.2.2; show A.units + 1 + 40 * n + 40 < _; omega⟩
theorem AOk.deeper {n : Nat} {A : Around} {env : Env} (h : AOk (n + 1) A) : AOk n (A.deeper env) := ⟨h.1, by have := h.2.1; show A.depth + 1 + n < _; omega, by have := h.2.2; show A.units + 3 + 40 * n + 40 < _; omega⟩
theorem AOk.le {n m : Nat} {A : Around} (h : AOk n A) (hm : m ≤ n) : AOk m A := ⟨h.1, by have := h.2.1; omega, by have := h.2.2; omega⟩
theorem AOk.units {n : Nat} {A : Around} (h : AOk n A) : A.units < cLine := by have := h.2.2; omega
theorem AOk.depth {n : Nat} {A : Around} (h : AOk n A) : A.depth < recursionLimit := by have := h.2.1; omega
noncomputable abbrev noE : Value → Shared → Prop := fun _ _ => False

section
variable (w : World) (hb : Heap) (os : OsState)
/-- a tree that yields a value -/
noncomputable def WT (n : Nat) (env : Env) (ρ : Rho) (H : PH) (t : Sem Value) (Φ : PV → PH → Prop) : Prop :=
  ∀ (A : Around) (s : Shared) (τ : Nat → PySem.Str), AOk n A → Inv hb os env ρ H s τ → ∀ Q : Value → Shared → Prop,
    (∀ p H' v s' τ', Φ p H' → Inv hb os env ρ H' s' τ' → VRep (vw s' τ') v p → Evo [] H (vw s τ) H' (vw s' τ') → Q v s') → wpAny (model pw w) A t Q noE s
/-- a test -/
noncomputable def WB (n : Nat) (env : Env) (ρ : Rho) (H : PH) (t : Sem Bool) (Φ : Bool → PH → Prop) : Prop :=
  ∀ (A : Around) (s : Shared) (τ : Nat → PySem.Str), AOk n A → Inv hb os env ρ H s τ → ∀ Q : Bool → Shared → Prop,
    (∀ b H' s' τ', Φ b H' → Inv hb os env ρ H' s' τ' → Evo [] H (vw s τ) H' (vw s' τ') → Q b s') → wpAny (model pw w) A t Q noE s
/-- trees that yield values, one behind the other -/
noncomputable def WTs (n : Nat) (env : Env) (ρ : Rho) (H : PH) (ts : List (Sem Value)) (Φ : List PV → PH → Prop) : Prop :=
  ∀ (A : Around) (s : Shared) (τ : Nat → PySem.Str), AOk n A → Inv hb os env ρ H s τ → ∀ Q : List Value → Shared → Prop,
    (∀ ps H' vs s' τ', Φ ps H' → Inv hb os env ρ H' s' τ' → VReps (vw s' τ') vs ps → Evo [] H (vw s τ) H' (vw s' τ') → Q vs s') → wpAny (model pw w) A (spliced (ts.map fun t => (false, t))) Q noE s
inductive Out where | next | brk | cont | ret (p : PV)
inductive ORep (h : Vw) : Flow → Out → Prop
  | next : ORep h .next .next
  | brk : ORep h .brk .brk
  | cont : ORep h .cont .cont
  | ret {v p} : VRep h v p → ORep h (.ret v) (.ret p)
/-- a tree of a statement -/
noncomputable def WF (n : Nat) (env : Env) (ρ : Rho) (H : PH) (t : Sem Flow) (Φ : Out → Rho → PH → Prop) : Prop :=
  ∀ (A : Around) (s : Shared) (τ : Nat → PySem.Str), AOk n A → Inv hb os env ρ H s τ → ∀ Q : Flow → Shared → Prop,
    (∀ o ρ' H' f s' τ', Φ o ρ' H' → Inv hb os env ρ' H' s' τ' → ORep (vw s' τ') f o → Evo (own env) H (vw s τ) H' (vw s' τ') → Q f s') → wpAny (model pw w) A t Q noE s
/-- an operation upon values in hand -/
noncomputable def WO (n : Nat) (H : PH) (ps : List PV) (t : List Value → Sem Value) (Φ : PV → PH → Prop) : Prop :=
  ∀ (A : Around) (s : Shared) (τ : Nat → PySem.Str) (vs : List Value), AOk n A → Inv0 hb os H s τ → VReps (vw s τ) vs ps → ∀ Q : Value → Shared → Prop,
    (∀ p H' v s' τ', Φ p H' → Inv0 hb os H' s' τ' → VRep (vw s' τ') v p → Evo [] H (vw s τ) H' (vw s' τ') → Q v s') → wpAny (model pw w) A (t vs) Q noE s
end
end Mine
end

-- part W2
set_option linter.all false
noncomputable section
namespace Mine
open PySem PySem.W PySem.Calls PyProof.Rows
set_option Elab.async false
set_option maxRecDepth 100000

/-- the entries of the module's names behind the top -/
noncomputable def gEs (P : Params) : Array DictEntry := match (op22_3 P).data with | .dict es _ => es | _ => #[]
section
variable {w : World} {hb : Heap} {os : OsState} {n : Nat} {env : Env} {ρ : Rho} {H : PH} {τ : Nat → PySem.Str}

theorem Base.glob (B : Base w hb) : hb.Ns mainGlobals (nsFind (gEs w.params)) := by
  refine ⟨op22_3 w.params, gEs w.params, 28, B.K _ _ (by rfl), by rfl, ?_, fun _ => rfl⟩
  intro e he
  have : ((gEs w.params).toList.all fun e => match e.key with | .str _ _ => true | _ => false) = true := by rfl
  have := List.all_eq_true.mp this e (Array.mem_toList_iff.mpr he)
  revert this
  cases e.key <;> intro h <;> first | exact ⟨_, _, rfl⟩ | cases h
theorem Inv.to0 {s : Shared} (I : Inv hb os env ρ H s τ) : Inv0 hb os H s τ := ⟨I.base, I.l, I.gens, I.os, I.pos⟩
theorem Inv0.grow {s : Shared} (I : Inv0 hb os H s τ) {h' : Heap} (k : ∀ a o, s.heap.get? a = some o → h'.get? a = some o) {tk : Nat} {τ' : Nat → PySem.Str} (kT : s.toks ≤ tk) (kτ : ∀ t, t < s.toks → τ' t = τ t) :
    Inv0 hb os H { s with heap := h', toks := tk } τ' ∧ Evo [] H (vw s τ) H ⟨h', tk, τ'⟩ :=
  have e : Evo [] H (vw s τ) H ⟨h', tk, τ'⟩ := Evo.grow k kT kτ
  ⟨⟨fun b o e => k b o (I.base b o e), fun a l e' => let ⟨x, its, m, y, z⟩ := I.l a l e'; ⟨x, its, m, k _ _ y, z.imm (I.l.imm e)⟩, I.gens, I.os, I.pos.mono kT kτ⟩, e⟩
theorem Inv0.tok {s : Shared} (I : Inv0 hb os H s τ) {tk : Nat} (kT : s.toks ≤ tk) : Inv0 hb os H { s with toks := tk } τ ∧ Evo [] H (vw s τ) H ⟨s.heap, tk, τ⟩ := I.grow (h' := s.heap) (fun _ _ e => e) kT fun _ _ => rfl
theorem Inv.back {s s' : Shared} {H' : PH} {τ' : Nat → PySem.Str} (I : Inv hb os env ρ H s τ) (J : Inv0 hb os H' s' τ') (x : Evo [] H (vw s τ) H' (vw s' τ')) : Inv hb os env ρ H' s' τ' := ⟨J.base, J.l, I.f.evo I.l x, J.gens, J.os, J.pos⟩
/-- a fresh text -/
noncomputable def newTok (τ : Nat → PySem.Str) (t : Nat) (x : PySem.Str) : Nat → PySem.Str := fun u => if u = t then x else τ u
theorem Inv0.str {s : Shared} (I : Inv0 hb os H s τ) (x : PySem.Str) : Inv0 hb os H { s with toks := s.toks + 1 } (newTok τ s.toks x) ∧ VRep ⟨s.heap, s.toks + 1, newTok τ s.toks x⟩ (.str x s.toks) (.str x) ∧ Evo [] H (vw s τ) H ⟨s.heap, s.toks + 1, newTok τ s.toks x⟩ := by
  have := I.grow (h' := s.heap) (fun _ _ e => e) (tk := s.toks + 1) (τ' := newTok τ s.toks x) (Nat.le_succ _) (fun t k => by unfold newTok; rw [if_neg (Nat.ne_of_lt k)])
  exact ⟨this.1, .str I.pos.1 (Nat.lt_succ_self _) (by show newTok τ s.toks x s.toks = x; unfold newTok; rw [if_pos rfl]), this.2⟩

theorem WT.mono {t : Sem Value} {Φ Ψ : PV → PH → Prop} (h : WT w hb os n env ρ H t Φ) (k : ∀ p H', Φ p H' → Ψ p H') : WT w hb os n env ρ H t Ψ :=
  fun A s τ a I Q q => h A s τ a I Q fun p H' v s' τ' f => q p H' v s' τ' (k p H' f)
theorem WF.mono {t : Sem Flow} {Φ Ψ : Out → Rho → PH → Prop} (h : WF w hb os n env ρ H t Φ) (k : ∀ o ρ' H', Φ o ρ' H' → Ψ o ρ' H') : WF w hb os n env ρ H t Ψ :=
  fun A s τ a I Q q => h A s τ a I Q fun o ρ' H' v s' τ' f => q o ρ' H' v s' τ' (k o ρ' H' f)
theorem WT.le {t : Sem Value} {Φ : PV → PH → Prop} {m : Nat} (h : WT w hb os n env ρ H t Φ) (k : n ≤ m) : WT w hb os m env ρ H t Φ := fun A s τ a I Q q => h A s τ (a.le k) I Q q
/-- lists may be dropped from sight -/
theorem Inv.drop {s : Shared} {H' : PH} (I : Inv hb os env ρ H s τ) (d : PH.le H' H) : Inv hb os env ρ H' s τ := ⟨I.base, fun a l e => I.l a l (d a l e), I.f, I.gens, I.os, I.pos⟩
theorem WT.drop {t : Sem Value} {Φ Ψ : PV → PH → Prop} (h : WT w hb os n env ρ H t Φ) (k : ∀ p H', Φ p H' → ∃ H'', PH.le H'' H' ∧ Ψ p H'') : WT w hb os n env ρ H t Ψ :=
  fun A s τ a I Q q => h A s τ a I Q fun p H' v s' τ' f J r x => let ⟨H'', d, g⟩ := k p H' f; q p H'' v s' τ' g (J.drop d) r (x.drop d)

-- names
theorem we_local {x : PySem.Str} {pos : Pos} {p : PV} {Φ : PV → PH → Prop} (he : EnvOk env) (hx : env.kindOf x = some .local) (hv : ρ x = some p) (h : Φ p H)
    (hd : (x == ("__debug__" : PySem.Str)) = false := by decide) : WT w hb os n env ρ H (eval (.Name x pos) env) Φ := fun A s τ a I Q q => by
  obtain ⟨m, hn, hm⟩ := I.f.ns
  obtain ⟨v, e, r⟩ := hm x p hx hv
  exact wpAny_Name (wpAny_loadName_local he.kind hx hn e (q p H v s τ h I r Evo.refl)) hd
theorem we_cell {x : PySem.Str} {pos : Pos} {p : PV} {Φ : PV → PH → Prop} (he : EnvOk env) (hx : env.kindOf x = some .cell) (hv : ρ x = some p) (h : Φ p H)
    (hd : (x == ("__debug__" : PySem.Str)) = false := by decide) : WT w hb os n env ρ H (eval (.Name x pos) env) Φ := fun A s τ a I Q q => by
  obtain ⟨c, e1, _, v₀, hc, r⟩ := I.f.cell x (.inl hx)
  obtain ⟨v, rfl, r'⟩ := r p hv
  exact wpAny_Name (wpAny_loadName_cell he.kind hx e1 hc (q p H v s τ h I r' Evo.refl)) hd
theorem we_free {x : PySem.Str} {pos : Pos} {p : PV} {Φ : PV → PH → Prop} (he : EnvOk env) (hx : env.kindOf x = some .free) (hv : ρ x = some p) (h : Φ p H)
    (hd : (x == ("__debug__" : PySem.Str)) = false := by decide) (hn : (x == ("__classdict__" : PySem.Str)) = false := by decide) : WT w hb os n env ρ H (eval (.Name x pos) env) Φ := fun A s τ a I Q q => by
  obtain ⟨c, e1, _, v₀, hc, r⟩ := I.f.cell x (.inr hx)
  obtain ⟨v, rfl, r'⟩ := r p hv
  exact wpAny_Name (wpAny_loadName_free he.kind hx e1 hc (q p H v s τ h I r' Evo.refl) hn) hd
theorem we_glob {x : PySem.Str} {pos : Pos} {a : Addr} {Φ : PV → PH → Prop} (B : Base w hb) (he : EnvOk env) (hx : env.kindOf x = some .globalImplicit) (hv : nsFind (gEs w.params) x = some (.ref a)) (h : Φ (.fn a) H)
    (hd : (x == ("__debug__" : PySem.Str)) = false := by decide) : WT w hb os n env ρ H (eval (.Name x pos) env) Φ := fun A s τ ak I Q q => by
  refine Name_function_global he.kind hx (loadGlobal_global (mg := nsFind (gEs w.params)) ?_ hv (q _ H _ s τ h I .fn Evo.refl)) hd
  rw [he.glob]; exact B.glob.keeps I.base
theorem we_builtin {x : PySem.Str} {pos : Pos} {v : Value} {p : PV} {Φ : PV → PH → Prop} (B : Base w hb) (he : EnvOk env) (hx : env.kindOf x = some .globalImplicit) (hm : nsFind (gEs w.params) x = Option.none) (hv : bootBuiltins x = some v) (hr : ∀ h, VRep h v p) (h : Φ p H)
    (hd : (x == ("__debug__" : PySem.Str)) = false := by decide) (hnm : x ≠ "__name__" := by decide) : WT w hb os n env ρ H (eval (.Name x pos) env) Φ := fun A s τ ak I Q q => by
  obtain ⟨mb, hmb, hbl⟩ := B.blt
  refine Name_function_global he.kind hx (loadGlobal_builtin (mg := nsFind (gEs w.params)) (mb := mb) ?_ hm ?_ ((hbl x hnm).trans hv) (q _ H _ s τ h I (hr _) Evo.refl)) hd
  · rw [he.glob]; exact B.glob.keeps I.base
  · rw [he.blt]; exact hmb.keeps I.base
-- constants
theorem we_int {i : Int} {k : Nat} {pos : Pos} {Φ : PV → PH → Prop} (h : Φ (.int i) H) : WT w hb os n env ρ H (eval (.Constant (.int i) k pos) env) Φ := fun A s τ ak I Q q =>
  have z := I.to0.tok (tk := s.toks + 1) (Nat.le_succ _)
  wpAny_Constant_int (q _ H _ _ τ h (I.back z.1 z.2) .int z.2)
theorem we_str {x : PySem.Str} {k : Nat} {pos : Pos} {Φ : PV → PH → Prop} (h : Φ (.str x) H) : WT w hb os n env ρ H (eval (.Constant (.str x) k pos) env) Φ := fun A s τ ak I Q q =>
  have z := I.to0.str x
  Calls.Constant_str (q _ H _ _ _ h (I.back z.1 z.2.2) z.2.1 z.2.2)
theorem we_none {k : Nat} {pos : Pos} {Φ : PV → PH → Prop} (h : Φ .none H) : WT w hb os n env ρ H (eval (.Constant .none k pos) env) Φ := fun A s τ ak I Q q => wpAny_Constant_none (q _ H _ _ τ h I .none Evo.refl)
theorem we_bool {b : Bool} {k : Nat} {pos : Pos} {Φ : PV → PH → Prop} (h : Φ (.bool b) H) : WT w hb os n env ρ H (eval (.Constant (.bool b) k pos) env) Φ := fun A s τ ak I Q q => wpAny_Constant_bool (q _ H _ _ τ h I .bool Evo.refl)

-- trees one behind the other
theorem WTs.nil {Φ : List PV → PH → Prop} (h : Φ [] H) : WTs w hb os n env ρ H [] Φ := fun A s τ a I Q q => Calls.spliced_nil (q [] H [] s τ h I .nil Evo.refl)
theorem WTs.cons {t : Sem Value} {ts : List (Sem Value)} {Φ : List PV → PH → Prop} (h : WT w hb os n env ρ H t fun p H1 => WTs w hb os n env ρ H1 ts fun ps H2 => Φ (p :: ps) H2) : WTs w hb os n env ρ H (t :: ts) Φ := fun A s τ a I Q q =>
  Calls.spliced_cons (h A s τ a I _ fun p H1 v s1 τ1 f J r x => f A s1 τ1 a J _ fun ps H2 vs s2 τ2 g J2 rs y => q (p :: ps) H2 (v :: vs) s2 τ2 g J2 (.cons (r.imm (J.l.imm y)) rs) (x.trans y))
/-- one value, then an operation upon it and those in hand -/
theorem WO.run {ps : List PV} {t : List Value → Sem Value} {Φ : PV → PH → Prop} (h : WO w hb os n H ps t Φ) {A : Around} {s : Shared} {vs : List Value} (a : AOk n A) (I : Inv hb os env ρ H s τ) (r : VReps (vw s τ) vs ps) {Q : Value → Shared → Prop}
    (q : ∀ p H' v s' τ', Φ p H' → Inv hb os env ρ H' s' τ' → VRep (vw s' τ') v p → Evo [] H (vw s τ) H' (vw s' τ') → Q v s') : wpAny (model pw w) A (t vs) Q noE s :=
  h A s τ vs a I.to0 r Q fun p H' v s' τ' f J r x => q p H' v s' τ' f (I.back J x) r x

-- a binary operation of two values
noncomputable abbrev two (f : Value → Value → Sem Value) : List Value → Sem Value := fun vs => f (vs.headD .none) ((vs.drop 1).headD .none)
theorem we_bin {l r : Expr} {op : Operator} {pos : Pos} {Φ : PV → PH → Prop}
    (h : WT w hb os n env ρ H (eval l env) fun p H1 => WT w hb os n env ρ H1 (eval r env) fun q H2 => WO w hb os n H2 [p, q] (two (binaryOp op)) Φ) :
    WT w hb os n env ρ H (eval (.BinOp l op r pos) env) Φ := fun A s τ a I Q q => by
  show wpAny _ A (do let a ← eval l env; let b ← holding [a] (eval r env); standAt pos; operate [a, b] (binaryOp op a b)) Q noE s
  refine wpAny_bind (h A s τ a I _ fun p H1 v s1 τ1 f J r1 x => wpAny_bind (wpAny_holding (f A s1 τ1 a J _ fun q' H2 u s2 τ2 g J2 r2 y => wpAny_bind (wpAny_standAt (wpAny_operate' ?_)))))
  exact g.run a J2 (vs := [v, u]) (.cons (r1.imm (J.l.imm y)) (.cons r2 .nil)) fun p' H' v' s' τ' f' I' r' z => q p' H' v' s' τ' f' I' r' ((x.trans y).trans z)
theorem we_cmp1 {l r : Expr} {op : CmpOp} {pos : Pos} {Φ : PV → PH → Prop}
    (h : WT w hb os n env ρ H (eval l env) fun p H1 => WT w hb os n env ρ H1 (eval r env) fun q H2 => WO w hb os n H2 [p, q] (two (compareOp op)) Φ) (hm : behindInMarks op r = false := by with_unfolding_all rfl) :
    WT w hb os n env ρ H (eval (.Compare l [op] [r] pos) env) Φ := fun A s τ a I Q q =>
  wpAny_Compare1 (h A s τ a I _ fun p H1 v s1 τ1 f J r1 x => f A s1 τ1 a J _ fun p2 H2 u s2 τ2 g J2 r2 y =>
    g.run a J2 (vs := [v, u]) (.cons (r1.imm (J.l.imm y)) (.cons r2 .nil)) fun p H' v s' τ' f J3 r z => q p H' v s' τ' f J3 r ((x.trans y).trans z)) hm
/-- a test by one comparison -/
theorem wb_cmp1 {l r : Expr} {op : CmpOp} {pos : Pos} {whole : Sem Value} {Φ : Bool → PH → Prop}
    (h : WT w hb os n env ρ H (eval l env) fun p H1 => WT w hb os n env ρ H1 (eval r env) fun q H2 => WO w hb os n H2 [p, q] (two (compareOp op)) fun p H' => ∃ b, p = .bool b ∧ Φ b H') (hm : behindInMarks op r = false := by with_unfolding_all rfl) :
    WB w hb os n env ρ H (isTrue (.Compare l [op] [r] pos) env whole) Φ := fun A s τ a I Q q =>
  wpAny_isTrue_Compare1 (h A s τ a I _ fun p H1 v s1 τ1 f J r1 x => f A s1 τ1 a J _ fun p2 H2 u s2 τ2 g J2 r2 y =>
    g.run a J2 (vs := [v, u]) (.cons (r1.imm (J.l.imm y)) (.cons r2 .nil)) fun p H' v s' τ' ⟨b, e, f⟩ J3 r z => by
      subst e; cases r; exact wpAny_truthy_bool (q b H' s' τ' f J3 ((x.trans y).trans z))) hm
end
end Mine
end

-- part W3
set_option linter.all false
noncomputable section
namespace Mine
open PySem PySem.W PySem.Calls PyProof.Rows
set_option Elab.async false
set_option maxRecDepth 100000
section
variable {w : World} {hb : Heap} {os : OsState} {n : Nat} {env : Env} {ρ : Rho} {H : PH} {τ : Nat → PySem.Str}

theorem Base.booked (B : Base w hb) : NoneBooked hb := by
  refine ⟨fun _ => Option.none, ⟨_, #[], 0, B.K 2 _ (by rfl), by rfl, ?_, fun _ => rfl⟩, rfl⟩
  intro e he; cases (Array.mem_toList_iff.mpr he)
/-- a new list -/
theorem Inv0.list {s : Shared} (I : Inv0 hb os H s τ) {items : Array Value} {l : List PV} (r : VReps (vw s τ) items.toList l) :
    H s.heap.objs.size = Option.none ∧ Inv0 hb os (H.set s.heap.objs.size l) { s with heap := s.heap.push { cls := .type "list", data := .seq items } } τ ∧ Evo [] H (vw s τ) (H.set s.heap.objs.size l) ⟨s.heap.push { cls := .type "list", data := .seq items }, s.toks, τ⟩ := by
  have nw : ∀ o, s.heap.get? s.heap.objs.size = some o → False := fun o e => Nat.lt_irrefl _ (Heap.lt_size e)
  have nn : s.heap.get? s.heap.objs.size = Option.none := by
    cases e : s.heap.get? s.heap.objs.size with
    | none => rfl
    | some o => exact (nw o e).elim
  have g : ∀ a o, s.heap.get? a = some o → (s.heap.push { cls := .type "list", data := .seq items }).get? a = some o := fun a o e => Heap.get?_push_of_some _ e
  have im : Imm (vw s τ) ⟨s.heap.push { cls := .type "list", data := .seq items }, s.toks, τ⟩ := ⟨fun a o _ e => g _ _ e, Nat.le_refl _, fun _ _ => rfl⟩
  refine ⟨?_, ⟨fun b o e => g b o (I.base b o e), fun a l' e => ?_, I.gens, I.os, I.pos⟩, ⟨fun a o e => .inr (.inr (g a o e)), fun a o e => ⟨o, g a o e⟩, fun a e => ?_, Nat.le_refl _, fun _ _ => rfl⟩⟩
  · cases e : H s.heap.objs.size with
    | none => rfl
    | some l' => obtain ⟨_, its, m, y, _⟩ := I.l _ _ e; exact (nw _ y).elim
  · unfold PH.set at e
    split at e
    · rename_i h; subst h
      obtain rfl := Option.some.inj e
      refine ⟨?_, items, 0, IsL.new .., r.imm im⟩
      cases e : hb.get? s.heap.objs.size with
      | none => rfl
      | some o => exact (nw o (I.base _ _ e)).elim
    · obtain ⟨x, its, m, y, z⟩ := I.l a l' e
      exact ⟨x, its, m, g _ _ y, z.imm im⟩
  · unfold PH.set at e
    split at e
    · rename_i h; subst h; exact .inr nn
    · exact .inl e
/-- a new tuple -/
theorem Inv0.tuple {s : Shared} (I : Inv0 hb os H s τ) {items : Array Value} {l : List PV} (r : VReps (vw s τ) items.toList l) :
    Inv0 hb os H { s with heap := s.heap.push (tupO items 0) } τ ∧ VRep ⟨s.heap.push (tupO items 0), s.toks, τ⟩ (.ref s.heap.objs.size) (.tup l) ∧ Evo [] H (vw s τ) H ⟨s.heap.push (tupO items 0), s.toks, τ⟩ := by
  have g : ∀ a o, s.heap.get? a = some o → (s.heap.push (tupO items 0)).get? a = some o := fun a o e => Heap.get?_push_of_some _ e
  have z := I.grow g (Nat.le_refl s.toks) (fun t _ => rfl : ∀ t, t < s.toks → τ t = τ t)
  exact ⟨z.1, .tup (Heap.get?_push_size _ rfl) (r.imm (I.l.imm z.2)), z.2⟩
-- binary operations
noncomputable def onI (p : PV) (f : Int → Prop) : Prop := match p with | .int a => f a | _ => False
noncomputable def onS (p : PV) (f : PySem.Str → Prop) : Prop := match p with | .str a => f a | _ => False
noncomputable def onR (p : PV) (f : Addr → Prop) : Prop := match p with | .ref a => f a | _ => False
noncomputable def onB (p : PV) (f : Bool → Prop) : Prop := match p with | .bool a => f a | _ => False
noncomputable def onN (p : PV) (f : Prop) : Prop := match p with | .none => f | _ => False
theorem onI_is {p : PV} {f : Int → Prop} (h : onI p f) : ∃ a, p = .int a ∧ f a := by cases p with | int a => exact ⟨a, rfl, h⟩ | _ => exact h.elim
theorem onS_is {p : PV} {f : PySem.Str → Prop} (h : onS p f) : ∃ a, p = .str a ∧ f a := by cases p with | str a => exact ⟨a, rfl, h⟩ | _ => exact h.elim
theorem onR_is {p : PV} {f : Addr → Prop} (h : onR p f) : ∃ a, p = .ref a ∧ f a := by cases p with | ref a => exact ⟨a, rfl, h⟩ | _ => exact h.elim
theorem onB_is {p : PV} {f : Bool → Prop} (h : onB p f) : ∃ a, p = .bool a ∧ f a := by cases p with | bool a => exact ⟨a, rfl, h⟩ | _ => exact h.elim
theorem onN_is {p : PV} {f : Prop} (h : onN p f) : p = .none ∧ f := by cases p with | none => exact ⟨rfl, h⟩ | _ => exact h.elim
noncomputable def BinR (H : PH) (Φ : PV → PH → Prop) (op : Operator) (p q : PV) : Prop := match op with
  | .Add => (match p with
    | .int a => onI q fun b => Φ (.int (a + b)) H
    | .str x => onS q fun y => x.length + y.length ≤ sizeLine ∧ Φ (.str (x ++ y)) H
    | .ref a => onR q fun b => ∃ l m, H a = some l ∧ H b = some m ∧ l.length + m.length ≤ sizeLine ∧ ∀ c, H c = Option.none → Φ (.ref c) (H.set c (l ++ m))
    | _ => False)
  | .Sub => onI p fun a => onI q fun b => Φ (.int (a - b)) H
  | .Mult => onI p fun a => onI q fun b => IntMulOk a b ∧ Φ (.int (a * b)) H
  | .FloorDiv => onI p fun a => onI q fun b => (b ≠ 0 ∧ Builtin.divisionGoesByPylong a b = false) ∧ Φ (.int (a.fdiv b)) H
  | .Mod => onI p fun a => onI q fun b => b ≠ 0 ∧ Φ (.int (a.fmod b)) H
  | _ => False
theorem LRep.get {h : Vw} (L : LRep hb H h) {a : Addr} {l : List PV} (e : H a = some l) : ∃ items n, IsL h.h a items n ∧ VReps h items.toList l := (L a l e).2
theorem Inv0.int1 {s : Shared} (I : Inv0 hb os H s τ) : Inv0 hb os H { s with toks := s.toks + 1 } τ ∧ Evo [] H (vw s τ) H ⟨s.heap, s.toks + 1, τ⟩ := I.tok (Nat.le_succ _)
theorem bin_sound {op : Operator} {p q : PV} {Φ : PV → PH → Prop} (h : BinR H Φ op p q) : WO w hb os n H [p, q] (two (binaryOp op)) Φ := fun A s τ vs ak I r Q k => by
  obtain ⟨v1, v2, rfl, r1, r2⟩ := r.two
  show wpAny _ A (binaryOp op v1 v2) Q noE s
  cases op
  case Add =>
    cases p
    case int a => obtain ⟨b, rfl, h⟩ := onI_is h; obtain ⟨_, rfl⟩ := r1.int_is; obtain ⟨_, rfl⟩ := r2.int_is; exact PyProof.Rows.add_int (k _ H _ _ τ h I.int1.1 .int I.int1.2)
    case str x =>
      obtain ⟨y, rfl, h⟩ := onS_is h
      obtain ⟨t, rfl, a1, a2, a3⟩ := r1.str_is
      obtain ⟨u, rfl, b1, b2, b3⟩ := r2.str_is
      obtain ⟨hs, h⟩ := h
      refine PySem.P.add_str ?_
      have em : ∀ z : PySem.Str, (z.length == 0) = true → z = PySem.Str.empty := fun z hz => PySem.Str.ext' (by
        have : z.cps.size = 0 := by simpa [PySem.Str.length] using hz
        exact Array.eq_empty_of_size_eq_zero this)
      by_cases hx : (x.length == 0) = true
      · rw [if_pos hx]
        rw [em x hx, PySem.Str.empty_append] at h
        exact k _ H _ _ τ h I (.str b1 b2 b3) Evo.refl
      · rw [if_neg hx]
        by_cases hy : (y.length == 0) = true
        · rw [if_pos hy]
          rw [em y hy, PySem.Str.append_empty] at h
          exact k _ H _ _ τ h I (.str a1 a2 a3) Evo.refl
        · rw [if_neg hy]
          have z := I.str (x ++ y)
          refine ⟨by rw [PySem.Str.length_append]; exact hs, ?_⟩
          exact k _ H _ _ _ h z.1 z.2.1 z.2.2
    case ref a =>
      obtain ⟨b, rfl, h⟩ := onR_is h
      obtain ⟨l, m, e1, e2, hs, h⟩ := h
      obtain rfl := r1.ref_is
      obtain rfl := r2.ref_is
      obtain ⟨i1, n1, y1, z1⟩ := I.l.get e1
      obtain ⟨i2, n2, y2, z2⟩ := I.l.get e2
      have l1 := z1.length
      have l2 := z2.length
      rw [Array.length_toList] at l1 l2
      obtain ⟨a1, a2, a3⟩ := I.list (items := i1 ++ i2) (l := l ++ m) (by rw [Array.toList_append]; exact z1.append z2)
      exact P.add_list y1 y2 (k _ _ _ _ τ (h _ a1) a2 .ref a3) (by omega)
    all_goals exact h.elim
  case Sub => obtain ⟨a, rfl, h⟩ := onI_is h; obtain ⟨b, rfl, h⟩ := onI_is h; obtain ⟨_, rfl⟩ := r1.int_is; obtain ⟨_, rfl⟩ := r2.int_is; exact PyProof.Rows.sub_int (k _ H _ _ τ h I.int1.1 .int I.int1.2)
  case Mult => obtain ⟨a, rfl, h⟩ := onI_is h; obtain ⟨b, rfl, h⟩ := onI_is h; obtain ⟨_, rfl⟩ := r1.int_is; obtain ⟨_, rfl⟩ := r2.int_is; exact PyProof.Rows.mul_int (k _ H _ _ τ h.2 I.int1.1 .int I.int1.2) h.1
  case FloorDiv => obtain ⟨a, rfl, h⟩ := onI_is h; obtain ⟨b, rfl, h⟩ := onI_is h; obtain ⟨_, rfl⟩ := r1.int_is; obtain ⟨_, rfl⟩ := r2.int_is; exact PyProof.Rows.floordiv_int h.1.1 (k _ H _ _ τ h.2 I.int1.1 .int I.int1.2) (.inl h.1.2)
  case Mod => obtain ⟨a, rfl, h⟩ := onI_is h; obtain ⟨b, rfl, h⟩ := onI_is h; obtain ⟨_, rfl⟩ := r1.int_is; obtain ⟨_, rfl⟩ := r2.int_is; exact PyProof.Rows.mod_int h.1 (k _ H _ _ τ h.2 I.int1.1 .int I.int1.2)
  all_goals exact h.elim
theorem we_binop {l r : Expr} {op : Operator} {pos : Pos} {Φ : PV → PH → Prop}
    (h : WT w hb os n env ρ H (eval l env) fun p H1 => WT w hb os n env ρ H1 (eval r env) fun q H2 => BinR H2 Φ op p q) :
    WT w hb os n env ρ H (eval (.BinOp l op r pos) env) Φ := we_bin (h.mono fun p H1 f => f.mono fun q H2 g => bin_sound g)

-- comparisons of two values
noncomputable def CmpR (H : PH) (Φ : PV → PH → Prop) (op : CmpOp) (p q : PV) : Prop := match op with
  | .Lt => (match p with
    | .int a => onI q fun b => Φ (.bool (decide (a < b))) H
    | .str a => onS q fun b => Φ (.bool (decide (a.cps.toList < b.cps.toList))) H
    | _ => False)
  | .LtE => onI p fun a => onI q fun b => Φ (.bool (decide (a ≤ b))) H
  | .Gt => onI p fun a => onI q fun b => Φ (.bool (decide (b < a))) H
  | .Eq => (match p with
    | .int a => onI q fun b => Φ (.bool (a == b)) H
    | .str a => onS q fun b => Φ (.bool (a == b)) H
    | _ => False)
  | .NotEq => onI p fun a => onI q fun b => Φ (.bool (a != b)) H
  | .Is => (match p with
    | .none => onN q (Φ (.bool true) H)
    | .int _ => onN q (Φ (.bool false) H)
    | .fn _ => onN q (Φ (.bool false) H)
    | .bool a => onB q fun b => Φ (.bool (a == b)) H
    | .str a => onS q fun b => ∀ r, (r = true → a = b) → Φ (.bool r) H
    | _ => False)
  | .IsNot => (match p with
    | .none => onN q (Φ (.bool false) H)
    | .bool a => onB q fun b => Φ (.bool (a != b)) H
    | .str _ => onN q (Φ (.bool true) H)
    | _ => False)
  | _ => False
theorem cmp_sound {op : CmpOp} {p q : PV} {Φ : PV → PH → Prop} (B : Base w hb) (h : CmpR H Φ op p q) : WO w hb os n H [p, q] (two (compareOp op)) Φ := fun A s τ vs ak I r Q k => by
  obtain ⟨v1, v2, rfl, r1, r2⟩ := r.two
  show wpAny _ A (compareOp op v1 v2) Q noE s
  have k : ∀ b, Φ (.bool b) H → Q (.bool b) s := fun b h => k _ H _ _ τ h I .bool Evo.refl
  cases op
  case Lt =>
    cases p
    case int a => obtain ⟨b, rfl, h⟩ := onI_is h; obtain ⟨_, rfl⟩ := r1.int_is; obtain ⟨_, rfl⟩ := r2.int_is; exact PyProof.Rows.lt_int (k _ h)
    case str a => obtain ⟨b, rfl, h⟩ := onS_is h; obtain ⟨_, rfl, _⟩ := r1.str_is; obtain ⟨_, rfl, _⟩ := r2.str_is; exact PyProof.Rows.lt_str (k _ h)
    all_goals exact h.elim
  case LtE => obtain ⟨a, rfl, h⟩ := onI_is h; obtain ⟨b, rfl, h⟩ := onI_is h; obtain ⟨_, rfl⟩ := r1.int_is; obtain ⟨_, rfl⟩ := r2.int_is; exact PyProof.Rows.le_int (k _ h)
  case Gt => obtain ⟨a, rfl, h⟩ := onI_is h; obtain ⟨b, rfl, h⟩ := onI_is h; obtain ⟨_, rfl⟩ := r1.int_is; obtain ⟨_, rfl⟩ := r2.int_is; exact PyProof.Rows.gt_int (k _ h)
  case Eq =>
    cases p
    case int a => obtain ⟨b, rfl, h⟩ := onI_is h; obtain ⟨_, rfl⟩ := r1.int_is; obtain ⟨_, rfl⟩ := r2.int_is; exact PyProof.Rows.eq_int (k _ h)
    case str a => obtain ⟨b, rfl, h⟩ := onS_is h; obtain ⟨_, rfl, _⟩ := r1.str_is; obtain ⟨_, rfl, _⟩ := r2.str_is; exact PyProof.Rows.eq_str (k _ h)
    all_goals exact h.elim
  case NotEq => obtain ⟨a, rfl, h⟩ := onI_is h; obtain ⟨b, rfl, h⟩ := onI_is h; obtain ⟨_, rfl⟩ := r1.int_is; obtain ⟨_, rfl⟩ := r2.int_is; exact PyProof.Rows.ne_int (k _ h)
  case Is =>
    cases p
    case none => obtain ⟨rfl, h⟩ := onN_is h; obtain rfl := r1.none_is; obtain rfl := r2.none_is; exact wpAny_is_plain rfl (k _ h)
    case int a => obtain ⟨rfl, h⟩ := onN_is h; obtain ⟨_, rfl⟩ := r1.int_is; obtain rfl := r2.none_is; exact wpAny_is_other rfl (by intro e; cases e) (k _ h)
    case fn a => obtain ⟨rfl, h⟩ := onN_is h; obtain rfl := r1.fn_is; obtain rfl := r2.none_is; exact wpAny_is_other rfl (by intro e; cases e) (k _ h)
    case bool a => obtain ⟨b, rfl, h⟩ := onB_is h; obtain rfl := r1.bool_is; obtain rfl := r2.bool_is; exact wpAny_is_plain rfl (k _ (by cases a <;> cases b <;> exact h))
    case str x =>
      obtain ⟨y, rfl, h⟩ := onS_is h
      obtain ⟨t, rfl, a1, a2, a3⟩ := r1.str_is
      obtain ⟨u, rfl, b1, b2, b3⟩ := r2.str_is
      have hbk : NoneBooked s.heap := let ⟨mc, h1, h2⟩ := B.booked; ⟨mc, h1.keeps I.base, h2⟩
      have fin : ∀ r, (r = true → x = y) → Q (.bool r) s := fun r hr => k _ (h r hr)
      show wpAny _ A (do return .bool (← isSame (.str x t) (.str y u))) Q noE s
      refine wpAny_bind ?_
      show wpAny _ A (isSame.created (x == y) t u) _ noE s
      unfold isSame.created
      have z : (t == 0 || u == 0) = false := by simp [a1, b1]
      rw [z, if_neg Bool.false_ne_true]
      by_cases htu : (t == u) = true
      · simp only [htu, if_true]
        exact wpAny_pure (wpAny_pure (fin _ fun _ => by rw [← a3, ← b3, beq_iff_eq.mp htu]))
      · simp only [htu]
        by_cases hxy : (x == y) = true
        · simp only [hxy]
          refine wpAny_bind (wpAny_sharingNotTold_none hbk ?_)
          simp only [Bool.false_eq_true, if_false]
          refine wpAny_bind (wpAny_sharingNotTold_none hbk ?_)
          simp only [Bool.false_eq_true, if_false]
          exact wpAny_bind (wpAny_rule (wpAny_bind (wpAny_askSetting (wpAny_pure (wpAny_pure (fin _ fun _ => beq_iff_eq.mp hxy))))))
        · simp only [hxy]
          exact wpAny_pure (wpAny_pure (fin _ (fun e => nomatch e)))
    all_goals exact h.elim
  case IsNot =>
    cases p
    case none => obtain ⟨rfl, h⟩ := onN_is h; obtain rfl := r1.none_is; obtain rfl := r2.none_is; exact wpAny_isNot_plain rfl (k _ h)
    case bool a => obtain ⟨b, rfl, h⟩ := onB_is h; obtain rfl := r1.bool_is; obtain rfl := r2.bool_is; exact wpAny_isNot_plain rfl (k _ (by cases a <;> cases b <;> exact h))
    case str a => obtain ⟨rfl, h⟩ := onN_is h; obtain ⟨_, rfl, _⟩ := r1.str_is; obtain rfl := r2.none_is; exact wpAny_isNot_other rfl (by intro e; cases e) (k _ h)
    all_goals exact h.elim
  all_goals exact h.elim
theorem we_cmp {l r : Expr} {op : CmpOp} {pos : Pos} {Φ : PV → PH → Prop} (B : Base w hb)
    (h : WT w hb os n env ρ H (eval l env) fun p H1 => WT w hb os n env ρ H1 (eval r env) fun q H2 => CmpR H2 Φ op p q) (hm : behindInMarks op r = false := by with_unfolding_all rfl) :
    WT w hb os n env ρ H (eval (.Compare l [op] [r] pos) env) Φ := we_cmp1 (h.mono fun p H1 f => f.mono fun q H2 g => cmp_sound B g) hm
theorem wb_cmp {l r : Expr} {op : CmpOp} {pos : Pos} {whole : Sem Value} {Φ : Bool → PH → Prop} (B : Base w hb)
    (h : WT w hb os n env ρ H (eval l env) fun p H1 => WT w hb os n env ρ H1 (eval r env) fun q H2 => CmpR H2 (fun p H' => ∃ b, p = .bool b ∧ Φ b H') op p q) (hm : behindInMarks op r = false := by with_unfolding_all rfl) :
    WB w hb os n env ρ H (isTrue (.Compare l [op] [r] pos) env whole) Φ := wb_cmp1 (h.mono fun p H1 f => f.mono fun q H2 g => cmp_sound B g) hm
end
end Mine
end

-- part W4
set_option linter.all false
noncomputable section
namespace Mine
open PySem PySem.W PySem.Calls PyProof.Rows
set_option Elab.async false
set_option maxRecDepth 100000
section
variable {w : World} {hb : Heap} {os : OsState} {n : Nat} {env : Env} {ρ : Rho} {H : PH} {τ : Nat → PySem.Str}

theorem Inv.setLocal {s : Shared} (I : Inv hb os env ρ H s τ) {x : PySem.Str} {v : Value} {p : PV} (r : VRep (vw s τ) v p) (hx : env.kindOf x = some .local) {m : PySem.Str → Option Value} (hm : s.heap.Ns env.locals m)
    (hm' : ∀ y q, env.kindOf y = some .local → ρ y = some q → ∃ u, m y = some u ∧ VRep (vw s τ) u q) {h' : Heap} (hn : h'.Ns env.locals (fun y => if y = x then some v else m y)) (hs : Heap.SameBut env.locals s.heap h') {tk : Nat} (kT : s.toks ≤ tk) :
    Inv hb os env (ρ.set x p) H { s with heap := h', toks := tk } τ ∧ Evo [env.locals] H (vw s τ) H ⟨h', tk, τ⟩ := by
  have eq : ∀ a, a ≠ env.locals → h'.get? a = s.heap.get? a := fun a k => hs.2 a k
  have nl : ∀ a, (H a).isSome = true → a ≠ env.locals := fun a q e => I.l.notNs (by subst e; exact hm) q
  have im : Imm (vw s τ) ⟨h', tk, τ⟩ := ⟨fun a o f e => by
    have : a ≠ env.locals := fun h => by
      subst h
      obtain ⟨o, es, ep, ho, hd, _⟩ := hm
      obtain rfl := Option.some.inj (e.symm.trans ho)
      cases f <;> cases hd
    exact (eq a this).trans e, kT, fun _ _ => rfl⟩
  have lv : ∀ a o, s.heap.get? a = some o → ∃ o', h'.get? a = some o' := fun a o e => by
    by_cases h : a = env.locals
    · subst h; obtain ⟨o', _, _, ho', _⟩ := hn; exact ⟨o', ho'⟩
    · exact ⟨o, (eq a h).trans e⟩
  refine ⟨⟨fun b o e => ?_, fun a l e => ?_, ⟨⟨_, hn, fun y q hy hq => ?_⟩, I.f.nsNew, fun y hy => ?_, fun a ha => ?_⟩, I.gens, I.os, I.pos.mono kT fun _ _ => rfl⟩, ⟨fun a o e => ?_, lv, fun a e => .inl e, kT, fun _ _ => rfl⟩⟩
  · have : b ≠ env.locals := fun h => by subst h; rw [I.f.nsNew] at e; cases e
    exact (eq b this).trans (I.base b o e)
  · obtain ⟨x1, its, k, y1, z1⟩ := I.l a l e
    exact ⟨x1, its, k, (eq a (nl a (by rw [e]; rfl))).trans y1, z1.imm im⟩
  · unfold Rho.set at hq
    by_cases h : y = x
    · subst h
      rw [if_pos rfl] at hq
      obtain rfl := Option.some.inj hq
      exact ⟨v, by rw [if_pos rfl], r.imm im⟩
    · rw [if_neg h] at hq
      obtain ⟨u, e1, e2⟩ := hm' y q hy hq
      exact ⟨u, by rw [if_neg h]; exact e1, e2.imm im⟩
  · obtain ⟨c, e1, e2, v₀, ⟨o, ho, hd⟩, e3⟩ := I.f.cell y hy
    have hc : c ≠ env.locals := fun h => by
      subst h
      obtain ⟨o', es, ep, ho', hd', _⟩ := hm
      obtain rfl := Option.some.inj (ho'.symm.trans ho)
      rw [hd] at hd'; cases hd'
    refine ⟨c, e1, e2, v₀, ⟨o, (eq c hc).trans ho, hd⟩, fun q hq => ?_⟩
    have hyx : y ≠ x := fun h => by subst h; rcases hy with hy | hy <;> (rw [hx] at hy; cases hy)
    unfold Rho.set at hq
    rw [if_neg hyx] at hq
    obtain ⟨u, f1, f2⟩ := e3 q hq
    exact ⟨u, f1, f2.imm im⟩
  · by_cases h : a = env.locals
    · subst h; obtain ⟨o', es, ep, ho', hd', _⟩ := hn; exact ⟨o', ho', .inl ⟨_, _, hd'⟩⟩
    · obtain ⟨o, ho, hh⟩ := I.f.live a ha; exact ⟨o, (eq a h).trans ho, hh⟩
  · by_cases h : a = env.locals
    · exact .inr (.inl (by subst h; exact List.mem_cons_self))
    · exact .inr (.inr ((eq a h).trans e))
theorem Inv.setCell {s : Shared} (I : Inv hb os env ρ H s τ) {x : PySem.Str} {v : Value} {p : PV} (r : VRep (vw s τ) v p) (hx : env.kindOf x = some .cell) {c : Addr} (hc : env.cells.lookup x = some c) {v₀ : Option Value} (hcell : s.heap.IsCell c v₀) (hnew : hb.get? c = Option.none)
    (inj : ∀ y d, env.cells.lookup y = some d → d = c → y = x) {h' : Heap} (hn : h'.IsCell c (some v)) (hs : Heap.SameBut c s.heap h') :
    Inv hb os env (ρ.set x p) H { s with heap := h' } τ ∧ Evo (own env) H (vw s τ) H ⟨h', s.toks, τ⟩ := by
  have eq : ∀ a, a ≠ c → h'.get? a = s.heap.get? a := fun a k => hs.2 a k
  have im : Imm (vw s τ) ⟨h', s.toks, τ⟩ := ⟨fun a o f e => by
    have : a ≠ c := fun h => by
      subst h
      obtain ⟨o, ho, hd⟩ := hcell
      obtain rfl := Option.some.inj (e.symm.trans ho)
      cases f <;> cases hd
    exact (eq a this).trans e, Nat.le_refl _, fun _ _ => rfl⟩
  have lv : ∀ a o, s.heap.get? a = some o → ∃ o', h'.get? a = some o' := fun a o e => by
    by_cases h : a = c
    · subst h; obtain ⟨o', ho', _⟩ := hn; exact ⟨o', ho'⟩
    · exact ⟨o, (eq a h).trans e⟩
  have hin : c ∈ own env := List.mem_cons_of_mem _ (by
    have : ∀ l : List (PySem.Str × Addr), l.lookup x = some c → c ∈ l.map (·.2) := fun l => by
      induction l with
      | nil => intro h; cases h
      | cons y l ih =>
        intro h
        obtain ⟨y1, y2⟩ := y
        rw [List.lookup_cons] at h
        by_cases hb : (x == y1) = true
        · rw [hb] at h; obtain rfl := Option.some.inj h; exact List.mem_cons_self
        · have : (x == y1) = false := by simpa using hb
          rw [this] at h; exact List.mem_cons_of_mem _ (ih h)
    exact this _ hc)
  refine ⟨⟨fun b o e => ?_, fun a l e => ?_, ⟨?_, I.f.nsNew, fun y hy => ?_, fun a ha => ?_⟩, I.gens, I.os, I.pos⟩, ⟨fun a o e => ?_, lv, fun a e => .inl e, Nat.le_refl _, fun _ _ => rfl⟩⟩
  · have : b ≠ c := fun h => by subst h; rw [hnew] at e; cases e
    exact (eq b this).trans (I.base b o e)
  · obtain ⟨x1, its, k, y1, z1⟩ := I.l a l e
    have : a ≠ c := fun h => I.l.notCell (by subst h; exact hcell) (by rw [e]; rfl)
    exact ⟨x1, its, k, (eq a this).trans y1, z1.imm im⟩
  · obtain ⟨m, hm, hm'⟩ := I.f.ns
    have hL : env.locals ≠ c := fun h => by
      obtain ⟨o', es, ep, ho', hd', _⟩ := hm
      obtain ⟨o, ho, hd⟩ := hcell
      rw [h] at ho'
      obtain rfl := Option.some.inj (ho'.symm.trans ho)
      rw [hd] at hd'; cases hd'
    refine ⟨m, ?_, fun y q hy hq => ?_⟩
    · obtain ⟨o', es, ep, ho', r'⟩ := hm
      exact ⟨o', es, ep, (eq _ hL).trans ho', r'⟩
    · have hyx : y ≠ x := fun h => by subst h; rw [hx] at hy; cases hy
      unfold Rho.set at hq
      rw [if_neg hyx] at hq
      obtain ⟨u, f1, f2⟩ := hm' y q hy hq
      exact ⟨u, f1, f2.imm im⟩
  · obtain ⟨d, e1, e2, u₀, ⟨o, ho, hd⟩, e3⟩ := I.f.cell y hy
    by_cases hdc : d = c
    · obtain rfl := inj y d e1 hdc
      subst hdc
      refine ⟨d, e1, e2, some v, hn, fun q hq => ?_⟩
      unfold Rho.set at hq
      rw [if_pos rfl] at hq
      obtain rfl := Option.some.inj hq
      exact ⟨v, rfl, r.imm im⟩
    · refine ⟨d, e1, e2, u₀, ⟨o, (eq d hdc).trans ho, hd⟩, fun q hq => ?_⟩
      have hyx : y ≠ x := fun h => by subst h; rw [hc] at e1; exact hdc (Option.some.inj e1).symm
      unfold Rho.set at hq
      rw [if_neg hyx] at hq
      obtain ⟨u, f1, f2⟩ := e3 q hq
      exact ⟨u, f1, f2.imm im⟩
  · by_cases h : a = c
    · subst h; obtain ⟨o', ho', hd'⟩ := hn; exact ⟨o', ho', .inr ⟨_, hd'⟩⟩
    · obtain ⟨o, ho, hh⟩ := I.f.live a ha; exact ⟨o, (eq a h).trans ho, hh⟩
  · by_cases h : a = c
    · exact .inr (.inl (by subst h; exact hin))
    · exact .inr (.inr ((eq a h).trans e))
/-- the cells of a frame are one a name -/
noncomputable def CellsApart (env : Env) : Prop := ∀ x y c, env.cells.lookup x = some c → env.cells.lookup y = some c → x = y
/-- a tree that stores -/
noncomputable def WS (w : World) (hb : Heap) (os : OsState) (n : Nat) (X : List Addr) (env : Env) (ρ : Rho) (H : PH) (ps : List PV) (t : List Value → Sem Unit) (Φ : Rho → PH → Prop) : Prop :=
  ∀ (A : Around) (s : Shared) (τ : Nat → PySem.Str) (vs : List Value), AOk n A → Inv hb os env ρ H s τ → VReps (vw s τ) vs ps → ∀ Q : Unit → Shared → Prop,
    (∀ ρ' H' s' τ', Φ ρ' H' → Inv hb os env ρ' H' s' τ' → Evo X H (vw s τ) H' (vw s' τ') → Q () s') → wpAny (model pw w) A (t vs) Q noE s
noncomputable def CanStore (env : Env) (x : PySem.Str) : Prop := env.kindOf x = some .local ∨ (env.kindOf x = some .cell ∧ CellsApart env)
/-- a store into a name changes no more than X -/
noncomputable def StoreX (env : Env) (X : List Addr) (x : PySem.Str) : Prop := (env.kindOf x = some .local ∧ env.locals ∈ X) ∨ (env.kindOf x = some .cell ∧ CellsApart env ∧ X = own env)
theorem CanStore.x {x : PySem.Str} (h : CanStore env x) : StoreX env (own env) x := by
  rcases h with h | ⟨h, a⟩
  · exact .inl ⟨h, List.mem_cons_self⟩
  · exact .inr ⟨h, a, rfl⟩
theorem ws_name {X : List Addr} {x : PySem.Str} {p : PV} {Φ : Rho → PH → Prop} (he : EnvOk env) (hx : StoreX env X x) (h : Φ (ρ.set x p) H) : WS w hb os n X env ρ H [p] (fun vs => storeName env x (vs.headD .none)) Φ := fun A s τ vs a I r Q k => by
  obtain ⟨v, rfl, r1⟩ := r.one
  show wpAny _ A (storeName env x v) Q noE s
  rcases hx with ⟨hx, hX⟩ | ⟨hx, ap, rfl⟩
  · obtain ⟨m, hm, hm'⟩ := I.f.ns
    refine wpAny_storeName_local hx hm (fun h' hn hs => ?_) (by rw [he.kind]; rfl)
    have z := I.setLocal r1 hx hm hm' hn hs (tk := s.toks + 1) (Nat.le_succ _)
    exact k _ _ _ τ h z.1 (z.2.mono fun a ha => by rw [List.mem_singleton.mp ha]; exact hX)
  · obtain ⟨c, e1, e2, v₀, hc, _⟩ := I.f.cell x (.inl hx)
    refine wpAny_storeName_cell he.kind hx e1 hc fun h' hn hs => ?_
    have z := I.setCell r1 hx e1 hc e2 (fun y d e3 e4 => ap y x c (e4 ▸ e3) e1) hn hs
    exact k _ _ _ τ h z.1 z.2

-- statements
theorem wf_nil {Φ : Out → Rho → PH → Prop} (h : Φ .next ρ H) : WF w hb os n env ρ H (execs [] env) Φ := fun A s τ a I Q k => wpAny_execs_nil (k _ _ _ _ _ τ h I .next Evo.refl)
theorem wf_cons {st : Stmt} {rest : List Stmt} {Φ : Out → Rho → PH → Prop} (h : WF w hb os n env ρ H (exec st env) fun o ρ1 H1 => match o with | .next => WF w hb os n env ρ1 H1 (execs rest env) Φ | o => Φ o ρ1 H1) :
    WF w hb os n env ρ H (execs (st :: rest) env) Φ := fun A s τ a I Q k =>
  wpAny_execs_cons (h A s τ a I _ fun o ρ1 H1 f s1 τ1 g J r x => by
    cases r with
    | next => exact g A s1 τ1 a J Q fun o ρ2 H2 f s2 τ2 g' J2 r y => k o ρ2 H2 f s2 τ2 g' J2 r (x.trans y)
    | brk => exact k _ _ _ _ _ _ g J .brk x
    | cont => exact k _ _ _ _ _ _ g J .cont x
    | ret r => exact k _ _ _ _ _ _ g J (.ret r) x)
theorem Evo.own {H H' : PH} {h h' : Vw} (x : Evo [] H h H' h') : Evo (own env) H h H' h' := x.mono fun _ e => nomatch e
theorem wf_assign {x : PySem.Str} {pos' pos : Pos} {value : Expr} {Φ : Out → Rho → PH → Prop} (he : EnvOk env) (hx : CanStore env x) (h : WT w hb os n env ρ H (eval value env) fun p H1 => Φ .next (ρ.set x p) H1)
    (hs : swapsWith value (some (.Name x pos')) pos.line env = pure false := by rfl) : WF w hb os n env ρ H (exec (.Assign [.Name x pos'] value pos) env) Φ := fun A s τ a I Q k =>
  wpAny_Assign_Name (h A s τ a I _ fun p H1 v s1 τ1 f J r y =>
    ws_name (w := w) (hb := hb) (os := os) (n := n) (Φ := fun ρ' H' => Φ .next ρ' H') he hx.x f A s1 τ1 [v] a J (.cons r .nil) _ fun ρ' H' s' τ' g J2 z => k _ _ _ _ _ τ' g J2 .next (y.own.trans z)) hs
theorem wf_ret {e : Expr} {pos : Pos} {Φ : Out → Rho → PH → Prop} (h : WT w hb os n env ρ H (eval e env) fun p H1 => Φ (.ret p) ρ H1) : WF w hb os n env ρ H (exec (.Return (some e) pos) env) Φ := fun A s τ a I Q k =>
  wpAny_Return_some (h A s τ a I _ fun p H1 v s1 τ1 f J r y => k _ _ _ _ _ _ f J (.ret r) y.own)
theorem wf_if {test : Expr} {body orelse : List Stmt} {pos : Pos} {Φ : Out → Rho → PH → Prop} (h : WB w hb os n env ρ H (isTrue test env (eval test env)) fun b H1 => if b = true then WF w hb os n env ρ H1 (execs body env) Φ else WF w hb os n env ρ H1 (execs orelse env) Φ) :
    WF w hb os n env ρ H (exec (.If test body orelse pos) env) Φ := fun A s τ a I Q k =>
  wpAny_If (h A s τ a I _ fun b H1 s1 τ1 f J x => by
    cases b with
    | true => exact (f : WF w hb os n env ρ H1 (execs body env) Φ) A s1 τ1 a J Q fun o ρ2 H2 f s2 τ2 g J2 r y => k o ρ2 H2 f s2 τ2 g J2 r (x.own.trans y)
    | false => exact (f : WF w hb os n env ρ H1 (execs orelse env) Φ) A s1 τ1 a J Q fun o ρ2 H2 f s2 τ2 g J2 r y => k o ρ2 H2 f s2 τ2 g J2 r (x.own.trans y))
/-- an expression statement whose value is none -/
theorem wf_expr {e : Expr} {pos : Pos} {Φ : Out → Rho → PH → Prop} (h : WT w hb os n env ρ H (eval e env) fun p H1 => p = .none ∧ Φ .next ρ H1) (hi : interactive env = false := by rfl) (hs : swapsWith e Option.none pos.line env = pure false := by rfl) :
    WF w hb os n env ρ H (exec (.Expr e pos) env) Φ := fun A s τ a I Q k =>
  wpAny_Expr (h A s τ a I _ fun p H1 v s1 τ1 f J r y => by
    obtain ⟨rfl, f⟩ := f
    (first | obtain rfl := r.nil_is | obtain rfl := r.ref_is | obtain ⟨_, rfl⟩ := r.int_is | obtain ⟨_, rfl, _⟩ := r.str_is | obtain rfl := r.bool_is | obtain rfl := r.none_is | obtain rfl := r.fn_is | cases r)
    exact k _ _ _ _ _ _ f J .next y.own) hi hs
-- tests
theorem wb_bool {op : BoolOp} {values : List Expr} {pos : Pos} {whole : Sem Value} {Φ : Bool → PH → Prop} (h : WB w hb os n env ρ H (allTrue op values env) Φ) : WB w hb os n env ρ H (isTrue (.BoolOp op values pos) env whole) Φ := fun A s τ a I Q k =>
  wpAny_isTrue_BoolOp (h A s τ a I Q k)
theorem wb_nil {op : BoolOp} {Φ : Bool → PH → Prop} (h : Φ (op == .And) H) : WB w hb os n env ρ H (allTrue op [] env) Φ := fun A s τ a I Q k => wpAny_pure (k _ _ _ τ h I Evo.refl)
theorem wb_cons {op : BoolOp} {x : Expr} {rest : List Expr} {Φ : Bool → PH → Prop}
    (h : WB w hb os n env ρ H (isTrue x env (eval x env)) fun b H1 => match op, b with | .And, false => Φ false H1 | .Or, true => Φ true H1 | _, _ => WB w hb os n env ρ H1 (allTrue op rest env) Φ) : WB w hb os n env ρ H (allTrue op (x :: rest) env) Φ := fun A s τ a I Q k => by
  show wpAny _ A (do match op, ← isTrue x env (eval x env) with | .And, false => pure false | .Or, true => pure true | _, _ => allTrue op rest env) Q noE s
  refine wpAny_bind (h A s τ a I _ fun b H1 s1 τ1 f J y => ?_)
  cases op <;> cases b
  · exact wpAny_pure (k _ _ _ _ f J y)
  · exact (f : WB w hb os n env ρ H1 (allTrue .And rest env) Φ) A s1 τ1 a J Q fun b H2 s2 τ2 g J2 z => k b H2 s2 τ2 g J2 (y.trans z)
  · exact (f : WB w hb os n env ρ H1 (allTrue .Or rest env) Φ) A s1 τ1 a J Q fun b H2 s2 τ2 g J2 z => k b H2 s2 τ2 g J2 (y.trans z)
  · exact wpAny_pure (k _ _ _ _ f J y)
theorem wb_not {x : Expr} {pos : Pos} {whole : Sem Value} {Φ : Bool → PH → Prop} (h : WB w hb os n env ρ H (isTrue x env (eval x env)) fun b H1 => Φ (!b) H1) : WB w hb os n env ρ H (isTrue (.UnaryOp .Not x pos) env whole) Φ := fun A s τ a I Q k =>
  wpAny_isTrue_Not (h A s τ a I _ fun b H1 s1 τ1 f J y => k _ _ _ _ f J y)
end
end Mine
end

-- part W5
set_option linter.all false
noncomputable section
namespace Mine
open PySem PySem.W PySem.Calls PyProof.Rows
set_option Elab.async false
set_option maxRecDepth 100000
section
variable {w : World} {hb : Heap} {os : OsState} {n : Nat} {env : Env} {ρ : Rho} {H : PH} {τ : Nat → PySem.Str}

noncomputable def WC (w : World) (hb : Heap) (os : OsState) (n : Nat) (H : PH) (f : Value) (args : List PV) (kw : List (PySem.Str × PV)) (Φ : PV → PH → Prop) : Prop :=
  ∀ (A : Around) (s : Shared) (τ : Nat → PySem.Str) (vs ks : List Value), AOk n A → Inv0 hb os H s τ → VReps (vw s τ) vs args → VReps (vw s τ) ks (kw.map (·.2)) → ∀ Q : Value → Shared → Prop,
    (∀ p H' v s' τ', Φ p H' → Inv0 hb os H' s' τ' → VRep (vw s' τ') v p → Evo [] H (vw s τ) H' (vw s' τ') → Q v s') → wpAny (model pw w) A (PySem.call f vs ((kw.map (·.1)).zip ks)) Q noE s
theorem WC.mono {f : Value} {args : List PV} {kw : List (PySem.Str × PV)} {Φ Ψ : PV → PH → Prop} (h : WC w hb os n H f args kw Φ) (k : ∀ p H', Φ p H' → Ψ p H') : WC w hb os n H f args kw Ψ :=
  fun A s τ vs ks a I r r2 Q q => h A s τ vs ks a I r r2 Q fun p H' v s' τ' f => q p H' v s' τ' (k p H' f)
theorem WC.le {f : Value} {args : List PV} {kw : List (PySem.Str × PV)} {Φ : PV → PH → Prop} {m : Nat} (h : WC w hb os n H f args kw Φ) (k : n ≤ m) : WC w hb os m H f args kw Φ := fun A s τ vs ks a I r r2 Q q => h A s τ vs ks (a.le k) I r r2 Q q
/-- keyword trees -/
noncomputable def WKs (w : World) (hb : Heap) (os : OsState) (n : Nat) (env : Env) (ρ : Rho) (H : PH) (ts : List (Sem Value)) (Φ : List PV → PH → Prop) : Prop :=
  ∀ (A : Around) (s : Shared) (τ : Nat → PySem.Str), AOk n A → Inv hb os env ρ H s τ → ∀ Q : List Value → Shared → Prop,
    (∀ ps H' vs s' τ', Φ ps H' → Inv hb os env ρ H' s' τ' → VReps (vw s' τ') vs ps → Evo [] H (vw s τ) H' (vw s' τ') → Q vs s') → wpAny (model pw w) A (evalAll ts) Q noE s
theorem WKs.nil {Φ : List PV → PH → Prop} (h : Φ [] H) : WKs w hb os n env ρ H [] Φ := fun A s τ a I Q q => wpAny_evalAll_nil (q [] H [] s τ h I .nil Evo.refl)
theorem WKs.cons {t : Sem Value} {ts : List (Sem Value)} {Φ : List PV → PH → Prop} (h : WT w hb os n env ρ H t fun p H1 => WKs w hb os n env ρ H1 ts fun ps H2 => Φ (p :: ps) H2) : WKs w hb os n env ρ H (t :: ts) Φ := fun A s τ a I Q q =>
  wpAny_evalAll_cons (h A s τ a I _ fun p H1 v s1 τ1 f J r x => f A s1 τ1 a J _ fun ps H2 vs s2 τ2 g J2 rs y => q (p :: ps) H2 (v :: vs) s2 τ2 g J2 (.cons (r.imm (J.l.imm y)) rs) (x.trans y))
theorem WT.stand {t : Sem Value} {pos : Pos} {Φ : PV → PH → Prop} (h : WT w hb os n env ρ H t Φ) : WT w hb os n env ρ H (do let v ← t; standAt pos; pure v) Φ := fun A s τ a I Q q =>
  wpAny_bind (h A s τ a I _ fun p H1 v s1 τ1 f J r x => wpAny_bind (wpAny_standAt (wpAny_pure (q p H1 v s1 τ1 f J r x))))

/-- what keeps a callable -/
noncomputable def Callee (w : World) (hb : Heap) (f : Value) : Prop := ∀ h : Heap, (∀ b o, hb.get? b = some o → h.get? b = some o) → ∃ k, (k = Keeper.frame ∨ k = Keeper.machine ∨ k = Keeper.boundFrame) ∧ Looks (model pw w) h (keeperOf f) k
theorem callee_blt {id : String} : Callee w hb (.builtin id) := fun h _ => ⟨.machine, .inr (.inl rfl), Looks.of_pure rfl⟩
theorem callee_typ {T : String} : Callee w hb (.type T) := fun h _ => ⟨.machine, .inr (.inl rfl), Looks.of_pure rfl⟩
theorem callee_fn {a : Addr} {o : Obj} {fd : FuncData} (ho : hb.get? a = some o) (hd : o.data = .func fd) : Callee w hb (.ref a) := fun h k => ⟨.frame, .inl rfl, fun A Q E s q hq => by
  unfold keeperOf
  refine wpAny_bind (wpAny_load (q _ _ (k _ _ ho)) ?_)
  rw [hd]; exact wpAny_pure hq⟩
inductive PVal : PV → Value → Prop
  | fn {a} : PVal (.fn a) (.ref a)
  | blt {id} : PVal (.blt id) (.builtin id)
  | typ {T} : PVal (.typ T) (.type T)
theorem PVal.is {p : PV} {f v : Value} {σ : Vw} (h : PVal p f) (r : VRep σ v p) : v = f := by cases h <;> cases r <;> rfl
/-- a call by a name or any other expression that is no attribute -/
theorem callWith_rule {pos : Pos} {f : Value} {args : List (Bool × Sem Value)} {kws : List (Option PySem.Str × Sem Value)} {ts : List (Sem Value)} {names : List PySem.Str} {ks : List (Sem Value)} {Φ : PV → PH → Prop}
    (ha : args = ts.map fun t => (false, t)) (hk : kws = (names.zip ks).map fun x => (some x.1, x.2)) (hlen : names.length = ks.length) (hc : Callee w hb f)
    (h : WTs w hb os n env ρ H ts fun ps H1 => WKs w hb os n env ρ H1 ks fun qs H2 => qs.length = names.length ∧ WC w hb os n H2 f ps (names.zip qs) Φ) : WT w hb os n env ρ H (callWith pos f [] args kws) Φ := fun A s τ a I Q q => by
  subst ha; subst hk
  have hzip : ∀ (l : List PySem.Str) (m : List (Sem Value)), l.length = m.length → ((l.zip m).map fun x => ((some x.1, x.2) : Option PySem.Str × Sem Value)).map (·.2) = m ∧ ((l.zip m).map fun x => ((some x.1, x.2) : Option PySem.Str × Sem Value)).filterMap (·.1) = l := fun l => by
    induction l with
    | nil => intro m h; cases m <;> simp_all
    | cons x l ih => intro m h; cases m with
      | nil => cases h
      | cons y m => obtain ⟨h1, h2⟩ := ih m (by simpa using h); simp_all
  obtain ⟨z1, z2⟩ := hzip names ks hlen
  have hall : ((names.zip ks).map fun x => ((some x.1, x.2) : Option PySem.Str × Sem Value)).all (·.1.isSome) = true := by simp
  refine callWith_of (P := fun h => ∀ b o, hb.get? b = some o → h.get? b = some o) (by simp) (fun h k => hc h k) ?_
  have fin : ∀ (H2 : PH) (ps qs : List PV) (vs us : List Value) (s2 : Shared) (τ2 : Nat → PySem.Str), WC w hb os n H2 f ps (names.zip qs) Φ → Inv hb os env ρ H2 s2 τ2 → VReps (vw s2 τ2) vs ps → VReps (vw s2 τ2) us qs → Evo [] H (vw s τ) H2 (vw s2 τ2) → qs.length = names.length →
      (∀ b o, hb.get? b = some o → s2.heap.get? b = some o) ∧ wpAny (model pw w) A (PySem.call f ([] ++ vs) (names.zip us)) Q noE s2 := fun H2 ps qs vs us s2 τ2 g J r1 r2 x hq => by
    refine ⟨J.base, ?_⟩
    have e1 : ((names.zip qs).map (·.1)) = names := by rw [List.map_fst_zip (by omega)]
    have e2 : ((names.zip qs).map (·.2)) = qs := by rw [List.map_snd_zip (by omega)]
    have := g A s2 τ2 vs us a J.to0 r1 (by rw [e2]; exact r2) Q fun p H' v s' τ' f' J2 r y => q p H' v s' τ' f' (J.back J2 y) r (x.trans y)
    rw [e1] at this
    exact this
  cases ts with
  | nil =>
    refine evalArgs_kw_nil hall ?_
    rw [z1, z2]
    have h0 := h A s τ a I (fun vs s' => vs = [] → wpAny (model pw w) A (evalAll ks) (fun ks' s₂ => (∀ b o, hb.get? b = some o → s₂.heap.get? b = some o) ∧ wpAny (model pw w) A (PySem.call f ([] ++ []) (names.zip ks')) Q noE s₂) noE s') fun ps H1 vs s1 τ1 g J r x e => by
      subst e
      (first | obtain rfl := r.nil_is | obtain rfl := r.ref_is | obtain ⟨_, rfl⟩ := r.int_is | obtain ⟨_, rfl, _⟩ := r.str_is | obtain rfl := r.bool_is | obtain rfl := r.none_is | obtain rfl := r.fn_is | cases r)
      exact g A s1 τ1 a J _ fun qs H2 us s2 τ2 g2 J2 r2 y => fin H2 [] qs [] us s2 τ2 g2.2 J2 .nil r2 (x.trans y) g2.1
    have : wpAny (model pw w) A (Sem.pure [] : Sem (List Value)) (fun vs s' => vs = [] → wpAny (model pw w) A (evalAll ks) (fun ks' s₂ => (∀ b o, hb.get? b = some o → s₂.heap.get? b = some o) ∧ wpAny (model pw w) A (PySem.call f ([] ++ []) (names.zip ks')) Q noE s₂) noE s') noE s := h0
    exact fun Γ p hΓ => this Γ p hΓ rfl Γ p hΓ
  | cons t ts =>
    refine evalArgs_kw (x := t) (rest := ts.map fun t => (false, t)) hall ?_
    rw [z1, z2]
    exact h A s τ a I _ fun ps H1 vs s1 τ1 g J r x => g A s1 τ1 a J _ fun qs H2 us s2 τ2 g2 J2 r2 y => fin H2 ps qs vs us s2 τ2 g2.2 J2 (r.imm (J.l.imm y)) r2 (x.trans y) g2.1
/-- a call by an expression that is no attribute -/
theorem we_call {func : Expr} {args : List Expr} {keywords : List Keyword} {pos : Pos} {ts : List (Sem Value)} {names : List PySem.Str} {ks : List (Sem Value)} {Φ : PV → PH → Prop}
    (h : WT w hb os n env ρ H (eval func env) fun pf H0 => ∃ f, PVal pf f ∧ Callee w hb f ∧ WTs w hb os n env ρ H0 ts fun ps H1 => WKs w hb os n env ρ H1 ks fun qs H2 => qs.length = names.length ∧ WC w hb os n H2 f ps (names.zip qs) Φ)
    (he : eval (.Call func args keywords pos) env = (do callWith pos (← eval func env) [] (backTo pos (starEach args env)) (backToKw pos (keywordEach keywords env))) := by rfl)
    (ha : backTo pos (starEach args env) = ts.map (fun t => (false, t)) := by rfl) (hk : backToKw pos (keywordEach keywords env) = (names.zip ks).map (fun x => (some x.1, x.2)) := by rfl) (hlen : names.length = ks.length := by rfl) :
    WT w hb os n env ρ H (eval (.Call func args keywords pos) env) Φ := fun A s τ a I Q q => by
  rw [he]
  refine wpAny_bind (h A s τ a I _ fun p H1 v s1 τ1 ⟨f, g1, g2, g3⟩ J r x => ?_)
  obtain rfl := g1.is r
  exact callWith_rule (pos := pos) ha hk hlen g2 g3 A s1 τ1 a J Q fun p' H' v' s' τ' f' J' r' y => q p' H' v' s' τ' f' J' r' (x.trans y)

/-- how a def's parameters are bound -/
noncomputable def Binds (w : World) (hb : Heap) (fd : FuncData) (args : List PV) (kw : List (PySem.Str × PV)) (pb : List (PySem.Str × PV)) : Prop :=
  ∀ (s : Shared) (τ : Nat → PySem.Str) (vs ks : List Value), (∀ b o, hb.get? b = some o → s.heap.get? b = some o) → VReps (vw s τ) vs args → VReps (vw s τ) ks (kw.map (·.2)) →
    ∃ bv, BindsTo s fd ⟨vs, (kw.map (·.1)).zip ks⟩ ((pb.map (·.1)).zip bv) ∧ VReps (vw s τ) bv (pb.map (·.2))
theorem lookup_zip {h : Vw} : ∀ {pb : List (PySem.Str × PV)} {bv : List Value} (acc : List (PySem.Str × PV)) (bacc : List (PySem.Str × Value)), VReps h bv (pb.map (·.2)) →
    (∀ x p, acc.lookup x = some p → ∃ v, bacc.lookup x = some v ∧ VRep h v p) → ∀ x p, (pb.reverse ++ acc).lookup x = some p → ∃ v, (((pb.map (·.1)).zip bv).reverse ++ bacc).lookup x = some v ∧ VRep h v p
  | [], bv, acc, bacc, r, ha, x, p, e => by (first | obtain rfl := r.nil_is | obtain rfl := r.ref_is | obtain ⟨_, rfl⟩ := r.int_is | obtain ⟨_, rfl, _⟩ := r.str_is | obtain rfl := r.bool_is | obtain rfl := r.none_is | obtain rfl := r.fn_is | cases r); exact ha x p e
  | (y, q) :: pb, bv, acc, bacc, r, ha, x, p, e => by
    cases r with
    | cons r1 r =>
      rename_i v vs
      rw [List.reverse_cons, List.append_assoc] at e
      have := lookup_zip (pb := pb) ((y, q) :: acc) ((y, v) :: bacc) r (fun z p' e' => by
        rw [List.lookup_cons] at e' ⊢
        by_cases hz : (z == y) = true
        · rw [hz] at e' ⊢; obtain rfl := Option.some.inj e'; exact ⟨v, rfl, r1⟩
        · have hz : (z == y) = false := by simpa using hz
          rw [hz] at e' ⊢; exact ha z p' e') x p e
      obtain ⟨u, a, b⟩ := this
      exact ⟨u, by rw [List.map_cons, List.zip_cons_cons, List.reverse_cons, List.append_assoc]; exact a, b⟩
noncomputable def rhoOf (pb : List (PySem.Str × PV)) : Rho := fun x => pb.reverse.lookup x
/-- a def of the text, with no cells of its own -/
theorem wc_fn {a : Addr} {o : Obj} {fd : FuncData} {body : List Stmt} {args : List PV} {kw pb : List (PySem.Str × PV)} {Φ : PV → PH → Prop} (B : Base w hb) (ho : hb.get? a = some o) (hd : o.data = .func fd) (hcd : hb.CodeRec fd.code fd.qualname)
    (hbody : fd.body = .stmts body) (hbind : Binds w hb fd args kw pb) (hcell : ∀ x ∈ fd.scope.names, x.2 ≠ .cell) (hloc : ∀ x ∈ pb, fd.scope.names.lookup x.1 = some .local) (hclo : fd.closure = []) (hg : fd.globals = mainGlobals) (hbl : fd.builtins = builtinsNs)
    (hfree : ∀ x ∈ fd.scope.names, x.2 ≠ .free)
    (h : ∀ env, EnvOk env → env.scope = fd.scope → env.cells = [] → WF w hb os n env (rhoOf pb) H (execs body env) fun o _ H' => match o with | .ret p => Φ p H' | .next => Φ .none H' | _ => False)
    (hco : fd.scope.isCoroutine = false := by rfl) (hgen : fd.scope.isGenerator = false := by rfl) (hk : fd.scope.kind = .function := by rfl) : WC w hb os (n + 1) H (.ref a) args kw Φ := fun A s τ vs ks ak I r1 r2 Q q => by
  obtain ⟨bv, b1, b2⟩ := hbind s τ vs ks I.base r1 r2
  refine wpAny_call (codeAny_call_def ak.depth (I.base _ _ ho) hd (B.lim.keeps I.base) (hcd.keeps I.base) hbody b1 hcell (fun x hx => ?_) (fun h₀ hns hkeep => ?_) hco hgen hk)
  · obtain ⟨y, hy⟩ : ∃ y ∈ pb, y.1 = x.1 := by
      have := (List.of_mem_zip (show (x.1, x.2) ∈ (pb.map (·.1)).zip bv from hx)).1
      obtain ⟨y, hy, e⟩ := List.mem_map.mp this
      exact ⟨y, hy, e⟩
    rw [← hy.2]; exact hloc y hy.1
  · have nw : s.heap.get? s.heap.objs.size = Option.none := by
      cases e : s.heap.get? s.heap.objs.size with
      | none => rfl
      | some o => exact (Nat.lt_irrefl _ (Heap.lt_size e)).elim
    have envok : EnvOk (callEnv fd s.heap.objs.size a) := ⟨hk, hg, hbl⟩
    have z := I.grow hkeep (tk := s.toks + ((pb.map (·.1)).zip bv).length) (τ' := τ) (Nat.le_add_right _ _) fun _ _ => rfl
    have J : Inv hb os (callEnv fd s.heap.objs.size a) (rhoOf pb) H { s with heap := h₀, toks := s.toks + ((pb.map (·.1)).zip bv).length } τ := by
      refine ⟨z.1.base, z.1.l, ⟨⟨_, hns, fun x p hx e => ?_⟩, ?_, fun x hx => ?_, fun x hx => ?_⟩, z.1.gens, z.1.os, z.1.pos⟩
      · have := lookup_zip [] [] b2 (fun _ _ e => nomatch e) x p (by rw [List.append_nil]; exact e)
        obtain ⟨v, e1, e2⟩ := this
        rw [List.append_nil] at e1
        exact ⟨v, e1, e2.imm (I.l.imm z.2)⟩
      · cases e : hb.get? s.heap.objs.size with
        | none => exact e
        | some o => rw [I.base _ _ e] at nw; cases nw
      · have lk : ∀ (l : List (PySem.Str × NameKind)) (k : NameKind), l.lookup x = some k → ∃ y ∈ l, y.2 = k := fun l k => by
          induction l with
          | nil => intro e; cases e
          | cons y l ih =>
            intro e
            obtain ⟨y1, y2⟩ := y
            rw [List.lookup_cons] at e
            by_cases hz : (x == y1) = true
            · rw [hz] at e; exact ⟨_, List.mem_cons_self, Option.some.inj e⟩
            · have hz : (x == y1) = false := by simpa using hz
              rw [hz] at e
              obtain ⟨u, hu, e'⟩ := ih e
              exact ⟨u, List.mem_cons_of_mem _ hu, e'⟩
        rcases hx with hx | hx
        · obtain ⟨y, hy, e⟩ := lk _ _ hx; exact (hcell y hy e).elim
        · obtain ⟨y, hy, e⟩ := lk _ _ hx; exact (hfree y hy e).elim
      · have e : (callEnv fd s.heap.objs.size a).cells = [] := hclo
        rw [e] at hx
        rcases List.mem_cons.mp hx with rfl | hx
        · obtain ⟨o, _, _, ho, hd, _⟩ := hns; exact ⟨o, ho, .inl ⟨_, _, hd⟩⟩
        · cases hx
    refine wpAny_mono (h _ envok rfl hclo (A.deeper (callEnv fd s.heap.objs.size a)) _ τ ak.deeper J (fun fl s' => Q (match fl with | .ret v => v | _ => .none) s') fun o ρ' H' f s' τ' g J' r x => ?_) (fun _ _ q => q) fun _ _ q => q.elim
    have y : Evo [] H (vw s τ) H' (vw s' τ') := by
      have t := (z.2.mono (Y := own (callEnv fd s.heap.objs.size a)) (fun _ e => nomatch e)).trans x
      refine ⟨fun b o e => ?_, t.live, t.new, t.T, t.τ⟩
      rcases t.kept b o e with q | q | q
      · exact .inl q
      · have : own (callEnv fd s.heap.objs.size a) = [s.heap.objs.size] := by show _ :: (fd.closure.map _) = _; rw [hclo]; rfl
        rw [this] at q
        obtain rfl := List.mem_singleton.mp q
        rw [nw] at e; cases e
      · exact .inr (.inr q)
    cases r with
    | next => exact q _ _ _ _ _ g J'.to0 .none y
    | brk => exact g.elim
    | cont => exact g.elim
    | ret r => exact q _ _ _ _ _ g J'.to0 r y
end
end Mine
end

-- part W6
set_option linter.all false
noncomputable section
namespace Mine
open PySem PySem.W PySem.Calls PyProof.Rows
set_option Elab.async false
set_option maxRecDepth 100000
section
variable {w : World} {hb : Heap} {os : OsState} {n : Nat} {env : Env} {ρ : Rho} {H : PH} {τ : Nat → PySem.Str}

-- items
noncomputable def ItemR (H : PH) (Φ : PV → PH → Prop) (p q : PV) : Prop := match p with
  | .ref a => onI q fun k => ∃ l j x, H a = some l ∧ l.length < 2 ^ 62 ∧ seqIndex? k l.length = some j ∧ l[j]? = some x ∧ Φ x H
  | .tup l => onI q fun k => ∃ j x, l.length < 2 ^ 62 ∧ seqIndex? k l.length = some j ∧ l[j]? = some x ∧ Φ x H
  | _ => False
theorem seqIndex_lo {k : Int} {n j : Nat} (hn : n < 2 ^ 62) (h : seqIndex? k n = some j) : -(2 ^ 63) ≤ k ∧ k < 2 ^ 63 ∧ (0 ≤ k → j = k.toNat ∧ k < n) ∧ (k < 0 → -(n : Int) ≤ k ∧ j = (k + n).toNat) := by
  unfold seqIndex? at h
  by_cases hk : k < 0
  · simp only [hk, if_true] at h
    split at h
    · rename_i h1
      simp only [Bool.and_eq_true, decide_eq_true_eq] at h1
      obtain rfl := Option.some.inj h
      exact ⟨by omega, by omega, fun h => by omega, fun _ => ⟨by omega, rfl⟩⟩
    · cases h
  · simp only [hk, if_false] at h
    split at h
    · rename_i h1
      simp only [Bool.and_eq_true, decide_eq_true_eq] at h1
      obtain rfl := Option.some.inj h
      exact ⟨by omega, by omega, fun _ => ⟨rfl, by omega⟩, fun h => (hk h).elim⟩
    · cases h
theorem we_index {value slice : Expr} {pos : Pos} {Φ : PV → PH → Prop} (h : WT w hb os n env ρ H (eval value env) fun p H1 => WT w hb os n env ρ H1 (eval slice env) fun q H2 => ItemR H2 Φ p q)
    (hs : ∀ o i, subscripted slice false o i = operate [o, i] (getItem o i) := by intros; rfl) : WT w hb os n env ρ H (eval (.Subscript value slice pos) env) Φ := fun A s τ a I Q q =>
  Subscript_ (h A s τ a I _ fun p H1 v s1 τ1 f J r1 x => f A s1 τ1 a J _ fun p2 H2 u s2 τ2 g J2 r2 y => by
    have r1 := r1.imm (J.l.imm y)
    have z := x.trans y
    replace g : ItemR H2 Φ p p2 := g
    cases p
    case ref a =>
      obtain ⟨k, rfl, l, j, e, e1, e2, e3, e4, g⟩ := onI_is g
      obtain rfl := r1.ref_is; obtain ⟨t, rfl⟩ := r2.int_is
      obtain ⟨items, m, i1, i2⟩ := J2.l.get e1
      obtain ⟨k1, k2, k3, k4⟩ := seqIndex_lo e2 e3
      obtain ⟨v, hv, rv⟩ := i2.get' e4
      have hlen := i2.length
      rw [Array.length_toList] at hlen
      have hv' : items[j]? = some v := by simpa using hv
      have hT : s2.TypeIs (.ref _) "list" := ⟨_, i1, rfl⟩
      refine tail_any hT slot_list_getitem.lookup ?_ (hs _ _)
      by_cases hk : 0 ≤ k
      · obtain ⟨rfl, _⟩ := k3 hk
        exact wpAny_getItem_list i1.isList hk k2 hv' (q _ _ _ _ _ g J2 rv z)
      · obtain ⟨h1, rfl⟩ := k4 (by omega)
        exact wpAny_getItem_list_neg i1.isList (by omega) (by rw [hlen]; exact h1) k1 (by rw [hlen]; exact hv') (q _ _ _ _ _ g J2 rv z)
    case tup l =>
      obtain ⟨k, rfl, j, e, e2, e3, e4, g⟩ := onI_is g
      obtain ⟨t, rfl⟩ := r2.int_is
      cases r1 with | tup t1 t2 =>
      obtain ⟨k1, k2, _, _⟩ := seqIndex_lo e2 e3
      obtain ⟨v, hv, rv⟩ := t2.get' e4
      have hlen := t2.length
      have hT : s2.TypeIs (.ref _) "tuple" := ⟨_, t1, rfl⟩
      refine tail_any hT slot_tuple_getitem.lookup ?_ (hs _ _)
      rw [Array.length_toList] at hlen
      exact P.getItem_tuple t1 k1 k2 (by rw [hlen]; exact e3) (by simpa using hv) (q _ _ _ _ _ g J2 rv z)
    all_goals exact g.elim)

-- slices
noncomputable def pick {α : Type} (l : List α) (lo hi st : Option Int) : List α :=
  (sliceRange (sliceBounds lo hi st l.length).1 (sliceBounds lo hi st l.length).2.1 (sliceBounds lo hi st l.length).2.2).filterMap (l[·]?)
theorem pick_reps {h : Vw} {items : Array Value} {l : List PV} (r : VReps h items.toList l) (lo hi st : Option Int) : VReps h (slicePick items lo hi st).toList (pick l lo hi st) := by
  have hl := r.length
  rw [Array.length_toList] at hl
  unfold slicePick pick
  rw [hl]
  show VReps h ((sliceRange _ _ _).filterMap (items[·]?)) _
  generalize sliceRange _ _ _ = idx
  induction idx with
  | nil => exact .nil
  | cons i idx ih =>
    rw [List.filterMap_cons, List.filterMap_cons]
    cases e : items[i]? with
    | none =>
      have : l[i]? = Option.none := by
        cases e' : l[i]? with
        | none => rfl
        | some p => obtain ⟨v, hv, _⟩ := r.get' e'; rw [Array.getElem?_toList] at hv; rw [e] at hv; cases hv
      rw [this]; exact ih
    | some v =>
      obtain ⟨p, hp, rp⟩ := r.get (i := i) (by rw [Array.getElem?_toList]; exact e)
      rw [hp]; exact .cons rp ih
/-- a part of a slice -/
noncomputable def WPart (w : World) (hb : Heap) (os : OsState) (n : Nat) (env : Env) (ρ : Rho) (H : PH) (e : Option Expr) (Φ : Option Int → PH → Prop) : Prop := match e with
  | none => Φ Option.none H
  | some e => WT w hb os n env ρ H (eval e env) fun p H1 => ∃ i, p = .int i ∧ Φ (some i) H1
theorem wpart {e : Option Expr} {Φ : Option Int → PH → Prop} (h : WPart w hb os n env ρ H e Φ) {A : Around} {s : Shared} (a : AOk n A) (I : Inv hb os env ρ H s τ) {Q : Value → Shared → Prop}
    (q : ∀ i H' v s' τ', Φ i H' → Inv hb os env ρ H' s' τ' → IsPart v i → Evo [] H (vw s τ) H' (vw s' τ') → Q v s') : wpAny (model pw w) A (evalPart e env) Q noE s := by
  cases e with
  | none => exact wpAny_evalPart_none (q _ _ _ _ _ h I .none Evo.refl)
  | some e => exact wpAny_evalPart_some ((h : WT w hb os n env ρ H (eval e env) _) A s τ a I Q fun p H1 v s1 τ1 ⟨i, e, f⟩ J r x => by subst e; (first | obtain rfl := r.nil_is | obtain rfl := r.ref_is | obtain ⟨_, rfl⟩ := r.int_is | obtain ⟨_, rfl, _⟩ := r.str_is | obtain rfl := r.bool_is | obtain rfl := r.none_is | obtain rfl := r.fn_is | cases r); exact q _ _ _ _ _ f J (.int _ _) x)
theorem we_slice {value : Expr} {lower upper step : Option Expr} {p pos : Pos} {Φ : PV → PH → Prop}
    (h : WT w hb os n env ρ H (eval value env) fun p H1 => WPart w hb os n env ρ H1 lower fun lo H2 => WPart w hb os n env ρ H2 upper fun hi H3 => WPart w hb os n env ρ H3 step fun st H4 =>
      st ≠ some 0 ∧ ∃ a l, p = .ref a ∧ H4 a = some l ∧ l.length ≤ sizeLine ∧ ∀ c, H4 c = Option.none → Φ (.ref c) (H4.set c (pick l lo hi st)))
    (hs : ∃ f : Value → Value → List Value, ∀ o i, subscripted (.Slice lower upper step p) false o i = operate (f o i) (getItem o i) := by first | exact ⟨fun o i => [i, o], fun _ _ => rfl⟩ | exact ⟨fun o i => [o, i], fun _ _ => rfl⟩) :
    WT w hb os n env ρ H (eval (.Subscript value (.Slice lower upper step p) pos) env) Φ := fun A s τ a I Q q => by
  obtain ⟨fo, hs⟩ := hs
  refine Subscript_ (h A s τ a I _ fun p H1 v s1 τ1 f J r1 x => wpAny_Slice (wpart f a J fun lo H2 vl s2 τ2 f2 J2 pl y2 => wpart f2 a J2 fun hi H3 vh s3 τ3 f3 J3 ph y3 => wpart f3 a J3 fun st H4 vs s4 τ4 f4 J4 ps y4 => ?_))
  obtain ⟨h0, b, l, rfl, e1, e2, g⟩ := f4
  (first | obtain rfl := r1.nil_is | obtain rfl := r1.ref_is | obtain ⟨_, rfl⟩ := r1.int_is | obtain ⟨_, rfl, _⟩ := r1.str_is | obtain rfl := r1.bool_is | obtain rfl := r1.none_is | obtain rfl := r1.fn_is | cases r1)
  obtain ⟨items, m, i1, i2⟩ := J4.l.get e1
  have hlen := i2.length
  rw [Array.length_toList] at hlen
  have grow : ∀ a o, s4.heap.get? a = some o → (s4.heap.push { cls := .type "slice", data := .fields #[vl, vh, vs] }).get? a = some o := fun a o e => Heap.get?_push_of_some _ e
  have z := J4.to0.grow grow (Nat.le_refl s4.toks) (fun t _ => rfl : ∀ t, t < s4.toks → τ4 t = τ4 t)
  have J5 := J4.back z.1 z.2
  obtain ⟨z1, z2, z3⟩ := z.1.list (items := slicePick items lo hi st) (l := pick l lo hi st) (pick_reps (i2.imm (J4.l.imm z.2)) lo hi st)
  refine tail_any (T := "list") ⟨_, grow _ _ i1, rfl⟩ slot_list_getitem.lookup ?_ (hs _ _)
  refine wpAny_getItem_list_slice (IsL.isList (grow _ _ i1)) (Heap.IsSliceOf.new ..) pl ph ps h0 ?_ (by rw [hlen]; exact e2)
  exact q _ _ _ _ _ (g _ z1) (J5.back z2 z3) .ref (((((x.trans y2).trans y3).trans y4).trans z.2).trans z3)

-- displays
theorem we_list {elts : List Expr} {pos : Pos} {ts : List (Sem Value)} {Φ : PV → PH → Prop} (h : WTs w hb os n env ρ H ts fun ps H1 => ps.length ≤ sizeLine ∧ ∀ c, H1 c = Option.none → Φ (.ref c) (H1.set c ps))
    (ha : backTo pos (starEach elts env) = ts.map (fun t => (false, t)) := by rfl) : WT w hb os n env ρ H (eval (.List elts pos) env) Φ := fun A s τ a I Q q => by
  refine PyProof.Rows.List_ ?_
  rw [ha]
  refine h A s τ a I _ fun ps H1 vs s1 τ1 g J r x => ?_
  obtain ⟨z1, z2, z3⟩ := J.to0.list (items := vs.toArray) (l := ps) (by simpa using r)
  exact wpAny_newObj_type (q _ _ _ _ _ (g.2 _ z1) (J.back z2 z3) .ref (x.trans z3)) (by show vs.toArray.size ≤ sizeLine; rw [List.size_toArray, r.length]; exact g.1)
theorem we_tuple {elts : List Expr} {k : Nat} {pos : Pos} {ts : List (Sem Value)} {Φ : PV → PH → Prop} (h : WTs w hb os n env ρ H ts fun ps H1 => ps.length ≤ sizeLine ∧ Φ (.tup ps) H1)
    (ha : backTo pos (starEach elts env) = ts.map (fun t => (false, t)) := by rfl) : WT w hb os n env ρ H (eval (.Tuple elts k pos) env) Φ := fun A s τ a I Q q => by
  refine PyProof.Rows.Tuple_ ?_
  rw [ha]
  refine h A s τ a I _ fun ps H1 vs s1 τ1 g J r x => ?_
  obtain ⟨z1, z2, z3⟩ := J.to0.tuple (items := vs.toArray) (l := ps) (by simpa using r)
  exact wpAny_newObj_type (q _ _ _ _ _ g.2 (J.back z1 z3) z2 (x.trans z3)) (by show vs.toArray.size ≤ sizeLine; rw [List.size_toArray, r.length]; exact g.1)
end
end Mine
end

-- part W7
set_option linter.all false
noncomputable section
namespace Mine
open PySem PySem.W PySem.Calls PyProof.Rows
set_option Elab.async false
set_option maxRecDepth 100000
section
variable {w : World} {hb : Heap} {os : OsState} {n : Nat} {env : Env} {ρ : Rho} {H : PH} {τ : Nat → PySem.Str}

/-- objects by the side of all that is in sight may change -/
structure Aside (hb : Heap) (H : PH) (h : Heap) (W : List Addr) : Prop where
  base : ∀ b ∈ W, hb.get? b = Option.none
  H : ∀ b ∈ W, H b = Option.none
  fro : ∀ b ∈ W, ∀ o, Frozen o → h.get? b ≠ some o
theorem Inv0.side {s : Shared} (I : Inv0 hb os H s τ) {W : List Addr} (a : Aside hb H s.heap W) {h' : Heap} (k : ∀ b o, b ∉ W → s.heap.get? b = some o → h'.get? b = some o) {tk : Nat} {τ' : Nat → PySem.Str} (kT : s.toks ≤ tk) (kτ : ∀ t, t < s.toks → τ' t = τ t) :
    Inv0 hb os H { s with heap := h', toks := tk } τ' ∧ Imm (vw s τ) ⟨h', tk, τ'⟩ :=
  have im : Imm (vw s τ) ⟨h', tk, τ'⟩ := ⟨fun b o f e => k b o (fun m => a.fro b m o f e) e, kT, kτ⟩
  ⟨⟨fun b o e => k b o (fun m => by rw [a.base b m] at e; cases e) (I.base b o e), fun b l e => let ⟨x, its, m, y, z⟩ := I.l b l e; ⟨x, its, m, k _ _ (fun m => by rw [a.H b m] at e; cases e) y, z.imm im⟩, I.gens, I.os, I.pos.mono kT kτ⟩, im⟩
theorem lookup_mem {α β : Type} [BEq α] [LawfulBEq α] {x : α} {c : β} : ∀ l : List (α × β), l.lookup x = some c → (x, c) ∈ l := fun l => by
  induction l with
  | nil => intro h; cases h
  | cons y l ih =>
    intro h
    obtain ⟨y1, y2⟩ := y
    rw [List.lookup_cons] at h
    by_cases hb : (x == y1) = true
    · rw [hb] at h
      obtain rfl := Option.some.inj h
      obtain rfl := beq_iff_eq.mp hb
      exact List.mem_cons_self
    · have : (x == y1) = false := by simpa using hb
      rw [this] at h; exact List.mem_cons_of_mem _ (ih h)
theorem FRep.side {h h' : Vw} (F : FRep hb env ρ h) {W : List Addr} (aw : ∀ b ∈ W, b ∉ own env) (k : ∀ b o, b ∉ W → h.h.get? b = some o → h'.h.get? b = some o) (im : Imm h h') : FRep hb env ρ h' := by
  obtain ⟨⟨m, hn, hm⟩, hnew, hc, lv⟩ := F
  refine ⟨⟨m, ?_, fun y p ky e => let ⟨v, a, b⟩ := hm y p ky e; ⟨v, a, b.imm im⟩⟩, hnew, fun y ky => ?_, fun a ha => let ⟨o, ho, hh⟩ := lv a ha; ⟨o, k a o (fun m => aw a m ha) ho, hh⟩⟩
  · obtain ⟨o, es, ep, ho, r⟩ := hn
    exact ⟨o, es, ep, k _ _ (fun m => aw _ m List.mem_cons_self) ho, r⟩
  · obtain ⟨c, e1, e2, v₀, ⟨o, ho, hd⟩, r⟩ := hc y ky
    have : c ∈ own env := List.mem_cons_of_mem _ (List.mem_map.mpr ⟨_, lookup_mem _ e1, rfl⟩)
    exact ⟨c, e1, e2, v₀, ⟨o, k _ _ (fun m => aw _ m this) ho, hd⟩, fun p e => let ⟨v, a, b⟩ := r p e; ⟨v, a, b.imm im⟩⟩
theorem Inv.side {s : Shared} (I : Inv hb os env ρ H s τ) {W : List Addr} (a : Aside hb H s.heap W) (aw : ∀ b ∈ W, b ∉ own env) {h' : Heap} (k : ∀ b o, b ∉ W → s.heap.get? b = some o → h'.get? b = some o) {tk : Nat} {τ' : Nat → PySem.Str} (kT : s.toks ≤ tk) (kτ : ∀ t, t < s.toks → τ' t = τ t) :
    Inv hb os env ρ H { s with heap := h', toks := tk } τ' ∧ Imm (vw s τ) ⟨h', tk, τ'⟩ :=
  have z := I.to0.side a k kT kτ
  ⟨⟨z.1.base, z.1.l, I.f.side aw k z.2, z.1.gens, z.1.os, z.1.pos⟩, z.2⟩
/-- what is new since a state does not count -/
theorem Evo.join {X : List Addr} {H₀ : PH} {h₀ h h' : Vw} (x : Evo X H₀ h₀ H h) {W : List Addr} (f : ∀ b ∈ W, h₀.h.get? b = Option.none) (k : ∀ b o, b ∉ W → h.h.get? b = some o → h'.h.get? b = some o) (kT : h.T ≤ h'.T) (kτ : ∀ t, t < h.T → h'.τ t = h.τ t) :
    Evo X H₀ h₀ H h' where
  kept := fun a o e => by
    rcases x.kept a o e with q | q | q
    · exact .inl q
    · exact .inr (.inl q)
    · exact .inr (.inr (k a o (fun m => by rw [f a m] at e; cases e) q))
  live := fun a o e => let ⟨o', e'⟩ := x.live a o e; ⟨o', k a o' (fun m => by rw [f a m] at e; cases e) e'⟩
  new := x.new
  T := Nat.le_trans x.T kT
  τ := fun t g => (kτ t (Nat.lt_of_lt_of_le g x.T)).trans (x.τ t g)
/-- changes of what is new since a state do not count -/
theorem Evo.less {X Y : List Addr} {H₀ H₁ : PH} {h₀ h₁ : Vw} (x : Evo Y H₀ h₀ H₁ h₁) (f : ∀ b ∈ Y, b ∈ X ∨ h₀.h.get? b = Option.none) : Evo X H₀ h₀ H₁ h₁ :=
  ⟨fun a o e => by
    rcases x.kept a o e with q | q | q
    · exact .inl q
    · rcases f a q with g | g
      · exact .inr (.inl g)
      · rw [g] at e; cases e
    · exact .inr (.inr q), x.live, x.new, x.T, x.τ⟩
theorem nextNew (h : Heap) : h.get? h.objs.size = Option.none := by
  cases e : h.get? h.objs.size with
  | none => rfl
  | some o => exact (Nat.lt_irrefl _ (Heap.lt_size e)).elim

-- iterators
inductive Src where | lst (a : Addr) | rng (lo : Int) (n : Nat) | str (x : PySem.Str) | enm (a I2 : Addr)
noncomputable def Src.own (I : Addr) : Src → List Addr
  | .enm _ I2 => [I, I2]
  | _ => [I]
noncomputable def ItAt (h : Heap) (I : Addr) : Src → Nat → Prop
  | .lst a, k => h.IsListIter I a k
  | .rng lo n, k => IsRangeIter h I (lo + k) (n - k) 1
  | .str x, k => ∃ t, h.IsStrIter I (strIterType x) x t k
  | .enm a I2, k => I ≠ I2 ∧ (∃ old, IsEnum h I I2 k old) ∧ h.IsListIter I2 a k
/-- behind the item, ahead of the letting go -/
noncomputable def ItMid (h : Heap) (I : Addr) (v : Value) : Src → Nat → Prop
  | .enm a I2, k => I ≠ I2 ∧ (∃ x T, v = .ref T ∧ IsEnumOut h I I2 k x T) ∧ h.IsListIter I2 a k
  | .lst a, k => h.IsListIter I a k
  | .rng lo n, k => IsRangeIter h I (lo + k) (n - k) 1
  | .str x, k => ∃ t, h.IsStrIter I (strIterType x) x t k
noncomputable def enumOf (ys : List PV) : List PV := (List.range ys.length).map fun i : Nat => .tup [.int (i : Int), (ys[i]?).getD .none]
noncomputable def SrcHas (H : PH) : Src → List PV → Prop
  | .lst a, xs => H a = some xs
  | .rng lo n, xs => xs = (List.range n).map fun i : Nat => .int (lo + i)
  | .str x, xs => xs = x.cps.toList.map fun c => .str ⟨#[c]⟩
  | .enm a _, xs => ∃ ys, H a = some ys ∧ xs = enumOf ys
theorem enumOf_get {ys : List PV} {i : Nat} {y : PV} (h : ys[i]? = some y) : (enumOf ys)[i]? = some (.tup [.int i, y]) := by
  have hi : i < ys.length := (List.getElem?_eq_some_iff.mp h).1
  unfold enumOf
  rw [List.getElem?_map, List.getElem?_range hi, Option.map_some, h]
  rfl
theorem enumOf_length (ys : List PV) : (enumOf ys).length = ys.length := by unfold enumOf; rw [List.length_map, List.length_range]
theorem ItAt.fields {h : Heap} {I : Addr} {src : Src} {k : Nat} (x : ItAt h I src k) : ∀ b ∈ src.own I, ∃ o vs, h.get? b = some o ∧ o.data = .fields vs ∧ o.cls ≠ .type "range" := by
  intro b hb
  cases src with
  | lst a =>
    rw [List.mem_singleton.mp hb]
    obtain ⟨o, h1, h2, h3⟩ := x
    exact ⟨o, _, h1, h3, by rw [h2]; decide⟩
  | rng lo n => rw [List.mem_singleton.mp hb]; exact ⟨_, _, x, rfl, show (Value.type "range_iterator") ≠ _ by decide⟩
  | str y =>
    rw [List.mem_singleton.mp hb]
    obtain ⟨t, o, h1, h2, h3⟩ := x
    exact ⟨o, _, h1, h3, by rw [h2]; unfold strIterType; split <;> decide⟩
  | enm a I2 =>
    obtain ⟨_, ⟨old, h1⟩, o, h2, h3, h4⟩ := x
    rcases List.mem_cons.mp hb with rfl | hb
    · exact ⟨_, _, h1, rfl, show (Value.type "enumerate") ≠ _ by decide⟩
    · rw [List.mem_singleton.mp hb]; exact ⟨o, _, h2, h4, by rw [h3]; decide⟩
theorem ItMid.fields {h : Heap} {I : Addr} {v : Value} {src : Src} {k : Nat} (x : ItMid h I v src k) : ∀ b ∈ src.own I, ∃ o vs, h.get? b = some o ∧ o.data = .fields vs ∧ o.cls ≠ .type "range" := by
  cases src with
  | lst a => exact ItAt.fields (src := .lst a) (k := k) x
  | rng lo n => exact ItAt.fields (src := .rng lo n) (k := k) x
  | str y => exact ItAt.fields (src := .str y) (k := k) x
  | enm a I2 =>
    intro b hb
    obtain ⟨_, ⟨x, T, _, h1⟩, o, h2, h3, h4⟩ := x
    rcases List.mem_cons.mp hb with rfl | hb
    · exact ⟨_, _, h1, rfl, by show (Value.type "enumerate") ≠ _; decide⟩
    · rw [List.mem_singleton.mp hb]; exact ⟨o, _, h2, h4, by rw [h3]; decide⟩
theorem ItAt.keep {h h' : Heap} {I : Addr} {src : Src} {k : Nat} (x : ItAt h I src k) (e : ∀ b ∈ src.own I, ∀ o, h.get? b = some o → h'.get? b = some o) : ItAt h' I src k := by
  cases src with
  | lst a => obtain ⟨o, h1, r⟩ := x; exact ⟨o, e I List.mem_cons_self o h1, r⟩
  | rng lo n => exact e I List.mem_cons_self _ x
  | str y => obtain ⟨t, o, h1, r⟩ := x; exact ⟨t, o, e I List.mem_cons_self o h1, r⟩
  | enm a I2 =>
    obtain ⟨hne, ⟨old, h1⟩, o, h2, r⟩ := x
    exact ⟨hne, ⟨old, e I List.mem_cons_self _ h1⟩, o, e I2 (List.mem_cons_of_mem _ List.mem_cons_self) o h2, r⟩
/-- an iterator's objects stand by the side -/
theorem aside_of {s : Shared} (I : Inv0 hb os H s τ) {W : List Addr} (hw : ∀ b ∈ W, ∃ o vs, s.heap.get? b = some o ∧ o.data = .fields vs ∧ o.cls ≠ .type "range") (hbw : ∀ b ∈ W, hb.get? b = Option.none) : Aside hb H s.heap W :=
  ⟨hbw, fun b m => by
    cases e : H b with
    | none => rfl
    | some l =>
      obtain ⟨o, vs, h1, h2, _⟩ := hw b m
      obtain ⟨_, its, m, y, _⟩ := I.l b l e
      obtain rfl := Option.some.inj (y.symm.trans h1)
      exact (nomatch h2),
   fun b m o f e => by
    obtain ⟨o', vs, h1, h2, h3⟩ := hw b m
    obtain rfl := Option.some.inj (e.symm.trans h1)
    cases f
    · cases h2
    · exact h3 rfl⟩
/-- the next item -/
theorem it_item {A : Around} {s : Shared} {I : Addr} {src : Src} {k : Nat} {xs : List PV} {x : PV} (J : Inv0 hb os H s τ) (it : ItAt s.heap I src k) (hs : SrcHas H src xs) (hx : xs[k]? = some x) (hbw : ∀ b ∈ src.own I, hb.get? b = Option.none) {Q : Option Value → Shared → Prop}
    (q : ∀ v h' tk τ', s.toks ≤ tk → (∀ t, t < s.toks → τ' t = τ t) → (∀ b o, b ∉ src.own I → s.heap.get? b = some o → h'.get? b = some o) → ItMid h' I v src (k + 1) → VRep ⟨h', tk, τ'⟩ v x → Q (some v) { s with heap := h', toks := tk }) :
    wpAny (model pw w) A (pyNext (.ref I)) Q noE s := by
  have asd := aside_of J it.fields hbw
  cases src with
  | lst a =>
    obtain ⟨items, m, i1, i2⟩ := J.l.get hs
    obtain ⟨v, hv, rv⟩ := i2.get' hx
    refine wpAny_pyNext_list_item it i1.isList (by simpa using hv) fun h' hit' hsb => ?_
    have hk : ∀ b o, b ∉ [I] → s.heap.get? b = some o → h'.get? b = some o := fun b o m e => hsb.extBut b o (fun e' => m (by simp [e'])) e
    exact q v h' s.toks τ (Nat.le_refl _) (fun _ _ => rfl) hk hit' (rv.imm (show Imm (vw s τ) ⟨h', s.toks, τ⟩ from ⟨fun b o f e => hk b o (fun m => asd.fro b m o f e) e, Nat.le_refl _, fun _ _ => rfl⟩))
  | rng lo m =>
    obtain rfl := hs
    have hk : k < m := by simpa using (List.getElem?_eq_some_iff.mp hx).1
    have : x = .int (lo + k) := by simpa [hk] using hx.symm
    subst this
    refine wpAny_pyNext_range_item it (by omega) fun h' hit' hsb => ?_
    refine q _ h' (s.toks + 1) τ (Nat.le_succ _) (fun _ _ => rfl) (fun b o m e => hsb.extBut b o (fun e' => m (by simp [Src.own, e'])) e) ?_ .int
    show IsRangeIter _ _ _ _ _
    have e1 : lo + ((k + 1 : Nat) : Int) = lo + k + 1 := by omega
    have e2 : (m : Int) - ((k + 1 : Nat) : Int) = m - k - 1 := by omega
    rw [e1, e2]; exact hit'
  | str y =>
    obtain rfl := hs
    obtain ⟨t, it⟩ := it
    obtain ⟨c, hc, rfl⟩ : ∃ c, y.cps[k]? = some c ∧ x = .str ⟨#[c]⟩ := by
      rw [List.getElem?_map] at hx
      cases e : y.cps.toList[k]? with
      | none => rw [e] at hx; cases hx
      | some c => rw [e] at hx; exact ⟨c, by simpa using e, (Option.some.inj hx).symm⟩
    have fin : ∀ h', h'.IsStrIter I (strIterType y) y t (k + 1) → Heap.SameBut I s.heap h' → Q (some (.str ⟨#[c]⟩ s.toks)) { s with heap := h', toks := s.toks + 1 } := fun h' hit' hsb => by
      have := J.str ⟨#[c]⟩
      refine q _ h' (s.toks + 1) (newTok τ s.toks ⟨#[c]⟩) (Nat.le_succ _) (fun t' k' => by unfold newTok; rw [if_neg (Nat.ne_of_lt k')]) (fun b o m e => hsb.extBut b o (fun e' => m (by simp [Src.own, e'])) e) ⟨t, hit'⟩ ?_
      cases this.2.1 with
      | str a b d => exact .str a b d
    unfold strIterType at it
    split at it
    · exact wpAny_pyNext_ascii_item it hc fun h' a b => fin h' (by unfold strIterType; rw [if_pos ‹_›]; exact a) b
    · exact wpAny_pyNext_wide_item it hc fun h' a b => fin h' (by unfold strIterType; rw [if_neg ‹_›]; exact a) b
  | enm a I2 =>
    obtain ⟨ys, hs, rfl⟩ := hs
    obtain ⟨hne, ⟨old, he⟩, hit⟩ := it
    obtain ⟨items, m, i1, i2⟩ := J.l.get hs
    have hk : k < ys.length := by
      have := (List.getElem?_eq_some_iff.mp hx).1
      rwa [enumOf_length] at this
    have hy := List.getElem?_eq_getElem hk
    have := enumOf_get hy
    obtain rfl := Option.some.inj (hx.symm.trans this)
    obtain ⟨v, hv, rv⟩ := i2.get' hy
    refine wpAny_pyNext_enum_item he hit i1.isList (by simpa using hv) hne fun h' ho hit' hT hsz hk' => ?_
    have kk : ∀ b o, b ∉ Src.own I (.enm a I2) → s.heap.get? b = some o → h'.get? b = some o := fun b o m e => hk' b o (fun e' => m (by simp [Src.own, e'])) (fun e' => m (by simp [Src.own, e'])) e
    refine q _ h' (s.toks + 1) τ (Nat.le_succ _) (fun _ _ => rfl) kk ⟨hne, ⟨_, _, rfl, ho⟩, hit'⟩ ?_
    have im : Imm (vw s τ) ⟨h', s.toks + 1, τ⟩ := ⟨fun b o f e => kk b o (fun m => asd.fro b m o f e) e, Nat.le_succ _, fun _ _ => rfl⟩
    exact .tup hT (.cons .int (.cons (rv.imm im) .nil))
theorem it_end {A : Around} {s : Shared} {I : Addr} {src : Src} {k : Nat} {xs : List PV} (hh : A.handled = Option.none) (J : Inv0 hb os H s τ) (it : ItAt s.heap I src k) (hs : SrcHas H src xs) (hx : xs[k]? = Option.none) {Q : Option Value → Shared → Prop}
    (q : ∀ h', (∀ b o, b ∉ src.own I → s.heap.get? b = some o → h'.get? b = some o) → Q Option.none { s with heap := h' }) : wpAny (model pw w) A (pyNext (.ref I)) Q noE s := by
  cases src with
  | lst a =>
    obtain ⟨items, m, i1, i2⟩ := J.l.get hs
    have hlen := i2.length
    rw [Array.length_toList] at hlen
    have hx : items[k]? = Option.none := by
      have := List.getElem?_eq_none_iff.mp hx
      exact Array.getElem?_eq_none (by omega)
    exact wpAny_pyNext_list_end hh it i1.isList hx fun h' he => q h' fun b o m e => he b o (fun e' => m (by simp [Src.own, e'])) e
  | rng lo m =>
    obtain rfl := hs
    have := List.getElem?_eq_none_iff.mp hx
    simp at this
    exact wpAny_pyNext_range_end hh it (by omega) fun h' he => q h' fun b o m e => he b o (fun e' => m (by simp [Src.own, e'])) e
  | str y =>
    obtain rfl := hs
    obtain ⟨t, it⟩ := it
    have hc : y.cps[k]? = Option.none := by
      have := List.getElem?_eq_none_iff.mp hx
      simp at this
      exact Array.getElem?_eq_none this
    unfold strIterType at it
    split at it
    · exact wpAny_pyNext_ascii_end hh it hc fun h' he => q h' fun b o m e => he b o (fun e' => m (by simp [Src.own, e'])) e
    · exact wpAny_pyNext_wide_end hh it hc fun h' he => q h' fun b o m e => he b o (fun e' => m (by simp [Src.own, e'])) e
  | enm a I2 =>
    obtain ⟨ys, hs, rfl⟩ := hs
    obtain ⟨hne, ⟨old, he⟩, hit⟩ := it
    obtain ⟨items, m, i1, i2⟩ := J.l.get hs
    have hlen := i2.length
    rw [Array.length_toList] at hlen
    have hx : items[k]? = Option.none := by
      have := List.getElem?_eq_none_iff.mp hx
      rw [enumOf_length] at this
      exact Array.getElem?_eq_none (by omega)
    exact wpAny_pyNext_enum_end hh he hit i1.isList hx fun h' he => q h' fun b o m e => he b o (fun e' => m (by simp [Src.own, e'])) e
end
end Mine
end

-- part W8
set_option linter.all false
noncomputable section
namespace Mine
open PySem PySem.W PySem.Calls PyProof.Rows
set_option Elab.async false
set_option maxRecDepth 100000
section
variable {w : World} {hb : Heap} {os : OsState} {n : Nat} {env : Env} {ρ : Rho} {H : PH} {τ : Nat → PySem.Str}

theorem Inv.own_live {s : Shared} (I : Inv hb os env ρ H s τ) {b : Addr} (hb' : s.heap.get? b = Option.none) : b ∉ own env := fun m => by
  obtain ⟨o, ho, _⟩ := I.f.live b m
  rw [hb'] at ho; cases ho
theorem Inv0.base_none {s : Shared} (I : Inv0 hb os H s τ) {b : Addr} (hb' : s.heap.get? b = Option.none) : hb.get? b = Option.none := by
  cases e : hb.get? b with
  | none => rfl
  | some o => rw [I.base _ _ e] at hb'; cases hb'
theorem Inv0.list_none {s : Shared} (I : Inv0 hb os H s τ) {b : Addr} (hb' : s.heap.get? b = Option.none) : H b = Option.none := by
  cases e : H b with
  | none => rfl
  | some l => obtain ⟨_, its, m, y, _⟩ := I.l b l e; exact nomatch hb'.symm.trans y
theorem aside_none {s : Shared} (I : Inv0 hb os H s τ) {W : List Addr} (hw : ∀ b ∈ W, s.heap.get? b = Option.none) : Aside hb H s.heap W :=
  ⟨fun b m => I.base_none (hw b m), fun b m => I.list_none (hw b m), fun b m o _ e => nomatch (hw b m).symm.trans e⟩

-- targets
/-- storing an item into a target: what is stored, its names -/
noncomputable def WA (w : World) (hb : Heap) (os : OsState) (n : Nat) (X : List Addr) (env : Env) (ρ : Rho) (H : PH) (target : Expr) (x : PV) (Φ : Rho → PH → Prop) : Prop := WS w hb os n X env ρ H [x] (fun vs => assign target env (vs.headD .none)) Φ
theorem wa_name {X : List Addr} {x : PySem.Str} {pos : Pos} {p : PV} {Φ : Rho → PH → Prop} (he : EnvOk env) (hx : StoreX env X x) (h : Φ (ρ.set x p) H) : WA w hb os n X env ρ H (.Name x pos) p Φ := fun A s τ vs a I r Q q =>
  wpAny_assign_Name (ws_name (w := w) (hb := hb) (os := os) (n := n) he hx h A s τ vs a I r Q q)
theorem wa_two {X : List Addr} {x y : PySem.Str} {px py pos : Pos} {k : Nat} {p q : PV} {Φ : Rho → PH → Prop} (he : EnvOk env) (hX : ∀ a ∈ X, a ∈ own env) (hx : StoreX env X x) (hy : StoreX env X y) (h : Φ ((ρ.set x p).set y q) H) :
    WA w hb os n X env ρ H (.Tuple [.Name x px, .Name y py] k pos) (.tup [p, q]) Φ := fun A s τ vs a I r Q kk => by
  obtain ⟨v, rfl, r1⟩ := r.one
  cases r1 with | tup t1 t2 =>
  rename_i ad items m
  obtain ⟨v1, v2, e12, r1, r2⟩ := t2.two
  have hsz : items.size = 2 := by rw [← Array.length_toList, e12]; rfl
  have ht : s.heap.IsTuple ad items := ⟨_, t1, rfl, m, rfl⟩
  show wpAny _ A (assign (.Tuple [.Name x px, .Name y py] k pos) env (.ref ad)) Q noE s
  refine wpAny_assign_Tuple a.1 ht (by rw [hsz]; rfl) (by rfl) fun h' he' => ?_
  have hne := nextNew s.heap
  have z := I.side (W := [s.heap.objs.size]) (aside_none I.to0 (fun b m => by rw [List.mem_singleton.mp m]; exact hne)) (fun b m => by rw [List.mem_singleton.mp m]; exact I.own_live hne) (h' := h') (fun b o m e => he' b o (fun e' => m (by simp [e'])) e) (Nat.le_refl s.toks) (fun t _ => (rfl : τ t = τ t))
  have j : Evo X H (vw s τ) H ⟨h', s.toks, τ⟩ := Evo.join .refl (W := [s.heap.objs.size]) (fun b m => by rw [List.mem_singleton.mp m]; exact hne) (fun b o m e => he' b o (fun e' => m (by simp [e'])) e) (Nat.le_refl _) (fun _ _ => rfl)
  rw [e12]
  show wpAny _ A (do holding [v2] (assign (.Name x px) env v1); holding [] (assign (.Name y py) env v2); pure ()) Q noE _
  refine wpAny_bind (wpAny_holding (wa_name (w := w) (hb := hb) (os := os) (n := n) (pos := px) (Φ := fun ρ' H' => ρ' = ρ.set x p ∧ H' = H) he hx ⟨rfl, rfl⟩ A _ τ [v1] a z.1 (.cons (r1.imm z.2) .nil) _ fun ρ' H' s1 τ1 ⟨e1, e2⟩ J x1 => ?_))
  subst e1 e2
  exact wpAny_bind (wpAny_holding (wa_name (w := w) (hb := hb) (os := os) (n := n) (pos := py) (Φ := Φ) he hy h A _ τ1 [v2] a J (.cons ((r2.imm z.2).imm ((x1.mono hX).imm z.1.f z.1.l)) .nil) _ fun ρ' H' s2 τ2 f J2 x2 => wpAny_pure (kk ρ' H' s2 τ2 f J2 ((j.trans x1).trans x2))))
/-- a tree whose value gives an iterator -/
noncomputable def WI (w : World) (hb : Heap) (os : OsState) (n : Nat) (env : Env) (ρ : Rho) (H : PH) (iter : Expr) (Φ : Src → PH → Prop) : Prop :=
  ∀ (A : Around) (s : Shared) (τ : Nat → PySem.Str), AOk n A → Inv hb os env ρ H s τ → ∀ Q : Value → Shared → Prop,
    (∀ src H' I s' τ', Φ src H' → Inv hb os env ρ H' s' τ' → ItAt s'.heap I src 0 → (∀ b ∈ src.own I, s.heap.get? b = Option.none) → Evo [] H (vw s τ) H' (vw s' τ') → Q (.ref I) s') →
      wpAny (model pw w) A (eval iter env) (fun xv s₁ => wpAny (model pw w) A (pyIter xv) Q noE s₁) noE s
noncomputable def TgtOk : Expr → Src → Prop
  | .Name _ _, .enm _ _ => False
  | .Name _ _, _ => True
  | .Tuple _ _ _, .lst _ => True
  | .Tuple _ _ _, .enm _ _ => True
  | _, _ => False
theorem it_letGo {A : Around} {s : Shared} {I : Addr} {src : Src} {k : Nat} {target : Expr} {v : Value} (ht : TgtOk target src) (it : ItMid s.heap I v src k) {Q : Unit → Shared → Prop}
    (q : ∀ h', (∀ b o, b ∉ src.own I → s.heap.get? b = some o → h'.get? b = some o) → ItAt h' I src k → Q () { s with heap := h' }) : wpAny (model pw w) A (letOwnedTupleGo target (.ref I) v) Q noE s := by
  unfold TgtOk at ht
  split at ht
  · exact ht.elim
  · rename_i hne
    refine wpAny_pure (q s.heap (fun _ _ _ e => e) ?_)
    cases src
    · exact it
    · exact it
    · exact it
    · exact (hne _ _ rfl).elim
  · cases v with
    | ref T => exact wpAny_letOwnedTupleGo_listiter it (q s.heap (fun _ _ _ e => e) it)
    | _ => exact wpAny_pure (q s.heap (fun _ _ _ e => e) it)
  · obtain ⟨hne, ⟨x, T, rfl, ho⟩, hit⟩ := it
    refine wpAny_letOwnedTupleGo_enum ho fun h' he' hs' => q h' (fun b o m e => (hs'.2 b fun e' => m (by simp [Src.own, e'])).trans e) ⟨hne, ⟨_, he'⟩, ?_⟩
    obtain ⟨o, h1, r⟩ := hit
    exact ⟨o, (hs'.2 _ hne.symm).trans h1, r⟩
  · exact ht.elim
theorem ItAt.of_evo {X : List Addr} {H' : PH} {I : Addr} {src : Src} {k : Nat} {h h' : Vw} (it : ItAt h.h I src k) (x : Evo X H h H' h') (hx : ∀ b ∈ src.own I, b ∉ X) (hH : ∀ b ∈ src.own I, H b = Option.none) : ItAt h'.h I src k :=
  it.keep fun b hb o e => by
    rcases x.kept b o e with q | q | q
    · rw [hH b hb] at q; cases q
    · exact (hx b hb q).elim
    · exact q
theorem WI.mono {iter : Expr} {Φ Ψ : Src → PH → Prop} (h : WI w hb os n env ρ H iter Φ) (k : ∀ src H', Φ src H' → Ψ src H') : WI w hb os n env ρ H iter Ψ :=
  fun A s τ a I Q q => h A s τ a I Q fun src H' I' s' τ' f => q src H' I' s' τ' (k src H' f)
theorem wf_forx {target iter : Expr} {body orelse : List Stmt} {pos : Pos} {Φ : Out → Rho → PH → Prop}
    (h : WI w hb os n env ρ H iter fun src H1 => ∃ (J : Nat → Rho → PH → Prop) (xs : List PV), TgtOk target src ∧ J 0 ρ H1 ∧ (∀ k ρ' H', J k ρ' H' → SrcHas H' src xs) ∧
      (∀ k ρ' H' x, xs[k]? = some x → J k ρ' H' → WA w hb os n (own env) env ρ' H' target x fun ρ2 H2 => WF w hb os n env ρ2 H2 (execs body env) fun o ρ3 H3 => match o with
        | .next | .cont => J (k + 1) ρ3 H3 | .brk => Φ .next ρ3 H3 | .ret p => Φ (.ret p) ρ3 H3) ∧
      (∀ ρ' H', J xs.length ρ' H' → WF w hb os n env ρ' H' (execs orelse env) Φ))
    (hs : ∀ x, foldedSetIterable iter env x = pure x := by intro _; rfl) : WF w hb os n env ρ H (exec (.For target iter body orelse pos) env) Φ := fun A s₀ τ₀ ak I₀ Q q => by
  refine wpAny_For (h A s₀ τ₀ ak I₀ _ fun src H1 I s1 τ1 ⟨J, xs, ht, j0, jh, jb, je⟩ J1 it1 fresh x1 => ?_) hs
  have ownI : ∀ b ∈ src.own I, b ∉ own env := fun b m => I₀.own_live (fresh b m)
  have baseI : ∀ b ∈ src.own I, hb.get? b = Option.none := fun b m => I₀.to0.base_none (fresh b m)
  refine codeAny_forLoop_any (fun m s => ∃ k ρ' H' τ, m = xs.length - k ∧ k ≤ xs.length ∧ J k ρ' H' ∧ Inv hb os env ρ' H' s τ ∧ ItAt s.heap I src k ∧ Evo (own env) H (vw s₀ τ₀) H' (vw s τ)) ?_ (xs.length - 0) ⟨0, ρ, H1, τ1, rfl, Nat.zero_le _, j0, J1, it1, x1.own⟩
  rintro m s ⟨k, ρ', H', τ, rfl, hk, jk, J2, it, x⟩
  have asd := aside_of J2.to0 it.fields baseI
  cases hx : xs[k]? with
  | none =>
    refine wpAny_mono (it_end ak.1 J2.to0 it (jh _ _ _ jk) hx (Q := fun r s₁ => r = Option.none ∧ ∃ h', s₁ = { s with heap := h' } ∧ ∀ b o, b ∉ src.own I → s.heap.get? b = some o → h'.get? b = some o) fun h' hk' => ⟨rfl, h', rfl, hk'⟩) (fun r s₁ hq => ?_) fun _ _ e => e.elim
    obtain ⟨rfl, h', rfl, hk'⟩ := hq
    have z := J2.side asd ownI hk' (Nat.le_refl s.toks) (fun t _ => (rfl : τ t = τ t))
    have : k = xs.length := by have := List.getElem?_eq_none_iff.mp hx; omega
    subst this
    exact wpAny_mono (je _ _ jk A _ τ ak z.1 (fun f s' => Q f s') fun o ρ3 H3 f s3 τ3 g J3 r y => q o ρ3 H3 f s3 τ3 g J3 r (Evo.trans (h₁ := ⟨h', s.toks, τ⟩) (x.join (W := src.own I) fresh hk' (Nat.le_refl _) fun _ _ => rfl) y)) (fun _ _ e => e) fun _ _ e => e.elim
  | some p =>
    refine wpAny_mono (it_item J2.to0 it (jh _ _ _ jk) hx baseI (Q := fun r s₁ => ∃ v h' tk τ', r = some v ∧ s₁ = { s with heap := h', toks := tk } ∧ s.toks ≤ tk ∧ (∀ t, t < s.toks → τ' t = τ t) ∧ (∀ b o, b ∉ src.own I → s.heap.get? b = some o → h'.get? b = some o) ∧ ItMid h' I v src (k + 1) ∧ VRep ⟨h', tk, τ'⟩ v p)
      fun v h' tk τ' a b c d e => ⟨v, h', tk, τ', rfl, rfl, a, b, c, d, e⟩) (fun r s₁ hq => ?_) fun _ _ e => e.elim
    obtain ⟨v, h', tk, τ', rfl, rfl, kT, kτ, hk', mid, rv⟩ := hq
    have z := J2.side asd ownI hk' kT kτ
    have xj : Evo (own env) H (vw s₀ τ₀) H' ⟨h', tk, τ'⟩ := x.join (W := src.own I) fresh hk' kT kτ
    refine wpAny_mono (it_letGo ht mid (Q := fun _ s₁ => ∃ h₂, s₁ = { s with heap := h₂, toks := tk } ∧ (∀ b o, b ∉ src.own I → h'.get? b = some o → h₂.get? b = some o) ∧ ItAt h₂ I src (k + 1)) fun h₂ a b => ⟨h₂, rfl, a, b⟩) (fun _ s₁ hq => ?_) fun _ _ e => e.elim
    obtain ⟨h₂, rfl, hk₂, it₂⟩ := hq
    have asd' := aside_of z.1.to0 mid.fields baseI
    have z₂ := z.1.side asd' ownI hk₂ (Nat.le_refl tk) (fun t _ => (rfl : τ' t = τ' t))
    have xj₂ : Evo (own env) H (vw s₀ τ₀) H' ⟨h₂, tk, τ'⟩ := xj.join (W := src.own I) fresh hk₂ (Nat.le_refl _) fun _ _ => rfl
    have hk1 : k < xs.length := (List.getElem?_eq_some_iff.mp hx).1
    refine wpAny_mono (jb k ρ' H' p hx jk A _ τ' [v] ak z₂.1 (.cons (rv.imm z₂.2) .nil) (fun _ s₃ => ∃ ρ3 H3 τ3, WF w hb os n env ρ3 H3 (execs body env) (fun o ρ3 H3 => match o with
        | .next | .cont => J (k + 1) ρ3 H3 | .brk => Φ .next ρ3 H3 | .ret p => Φ (.ret p) ρ3 H3) ∧ Inv hb os env ρ3 H3 s₃ τ3 ∧ Evo (own env) H' ⟨h₂, tk, τ'⟩ H3 (vw s₃ τ3)) fun ρ3 H3 s3 τ3 g J3 y => ⟨ρ3, H3, τ3, g, J3, y⟩) (fun _ s₃ hq => ?_) fun _ _ e => e.elim
    obtain ⟨ρ3, H3, τ3, g, J3, y⟩ := hq
    have hH : ∀ b ∈ src.own I, H' b = Option.none := (aside_of z₂.1.to0 it₂.fields baseI).H
    have it₃ : ItAt s₃.heap I src (k + 1) := ItAt.of_evo (h := ⟨h₂, tk, τ'⟩) (h' := vw s₃ τ3) it₂ y ownI hH
    have hH3 : ∀ b ∈ src.own I, H3 b = Option.none := (aside_of J3.to0 it₃.fields baseI).H
    refine wpAny_mono (g A s₃ τ3 ak J3 (fun f s' => match f with
            | .next | .cont => ∃ m, m < xs.length - k ∧ ∃ k ρ' H' τ, m = xs.length - k ∧ k ≤ xs.length ∧ J k ρ' H' ∧ Inv hb os env ρ' H' s' τ ∧ ItAt s'.heap I src k ∧ Evo (own env) H (vw s₀ τ₀) H' (vw s' τ)
            | .brk => Q .next s'
            | .ret v => Q (.ret v) s') fun o ρ4 H4 f s4 τ4 gg J4 r yy => ?_) (fun f _ e => e) fun _ _ e => e.elim
    have it₄ : ItAt s4.heap I src (k + 1) := ItAt.of_evo (h := vw s₃ τ3) (h' := vw s4 τ4) it₃ yy ownI hH3
    have X4 := (xj₂.trans y).trans yy
    cases r with
    | next => exact ⟨_, by omega, k + 1, ρ4, H4, τ4, rfl, hk1, gg, J4, it₄, X4⟩
    | cont => exact ⟨_, by omega, k + 1, ρ4, H4, τ4, rfl, hk1, gg, J4, it₄, X4⟩
    | brk => exact q _ _ _ _ _ _ gg J4 .next X4
    | ret r => exact q _ _ _ _ _ _ gg J4 (.ret r) X4
theorem wf_for {target iter : Expr} {body orelse : List Stmt} {pos : Pos} {Φ : Out → Rho → PH → Prop} (J : Nat → Rho → PH → Prop)
    (h : WI w hb os n env ρ H iter fun src H1 => ∃ xs, TgtOk target src ∧ J 0 ρ H1 ∧ (∀ k ρ' H', J k ρ' H' → SrcHas H' src xs) ∧
      (∀ k ρ' H' x, xs[k]? = some x → J k ρ' H' → WA w hb os n (own env) env ρ' H' target x fun ρ2 H2 => WF w hb os n env ρ2 H2 (execs body env) fun o ρ3 H3 => match o with
        | .next | .cont => J (k + 1) ρ3 H3 | .brk => Φ .next ρ3 H3 | .ret p => Φ (.ret p) ρ3 H3) ∧
      (∀ ρ' H', J xs.length ρ' H' → WF w hb os n env ρ' H' (execs orelse env) Φ))
    (hs : ∀ x, foldedSetIterable iter env x = pure x := by intro _; rfl) : WF w hb os n env ρ H (exec (.For target iter body orelse pos) env) Φ :=
  wf_forx (h.mono fun src H1 ⟨xs, r⟩ => ⟨J, xs, r⟩) hs
theorem wf_while {test : Expr} {body orelse : List Stmt} {pos : Pos} {Φ : Out → Rho → PH → Prop} (J : Nat → Rho → PH → Prop) (m₀ : Nat) (h₀ : J m₀ ρ H)
    (turn : ∀ m ρ' H', J m ρ' H' → WB w hb os n env ρ' H' (isTrue test env (eval test env)) fun b H2 => if b = true then WF w hb os n env ρ' H2 (execs body env) fun o ρ3 H3 => match o with
        | .next | .cont => ∃ m', m' < m ∧ J m' ρ3 H3 | .brk => Φ .next ρ3 H3 | .ret p => Φ (.ret p) ρ3 H3
      else WF w hb os n env ρ' H2 (execs orelse env) Φ) : WF w hb os n env ρ H (exec (.While test body orelse pos) env) Φ := fun A s₀ τ₀ ak I₀ Q q => by
  refine wpAny_While ?_
  refine codeAny_whileLoop (fun m s => ∃ ρ' H' τ, J m ρ' H' ∧ Inv hb os env ρ' H' s τ ∧ Evo (own env) H (vw s₀ τ₀) H' (vw s τ)) ?_ m₀ ⟨ρ, H, τ₀, h₀, I₀, .refl⟩
  rintro m s ⟨ρ', H', τ, jm, J1, x⟩
  refine wpAny_mono (turn m ρ' H' jm A s τ ak J1 (fun b s₂ => ∃ H2 τ2, (if b = true then WF w hb os n env ρ' H2 (execs body env) (fun o ρ3 H3 => match o with
        | .next | .cont => ∃ m', m' < m ∧ J m' ρ3 H3 | .brk => Φ .next ρ3 H3 | .ret p => Φ (.ret p) ρ3 H3)
      else WF w hb os n env ρ' H2 (execs orelse env) Φ) ∧ Inv hb os env ρ' H2 s₂ τ2 ∧ Evo [] H' (vw s τ) H2 (vw s₂ τ2)) fun b H2 s2 τ2 f J2 y => ⟨H2, τ2, f, J2, y⟩) (fun b s₂ hq => ?_) fun _ _ e => e.elim
  obtain ⟨H2, τ2, f, J2, y⟩ := hq
  have X2 := x.trans y.own
  cases b with
  | false =>
    simp only [Bool.false_eq_true, if_false] at f ⊢
    exact wpAny_mono (f A s₂ τ2 ak J2 (fun f s' => Q f s') fun o ρ3 H3 f s3 τ3 g J3 r y => q o ρ3 H3 f s3 τ3 g J3 r (X2.trans y)) (fun _ _ e => e) fun _ _ e => e.elim
  | true =>
    simp only [if_true] at f ⊢
    refine wpAny_mono (f A s₂ τ2 ak J2 (fun f s' => match f with
            | .next | .cont => ∃ m', m' < m ∧ ∃ ρ' H' τ, J m' ρ' H' ∧ Inv hb os env ρ' H' s' τ ∧ Evo (own env) H (vw s₀ τ₀) H' (vw s' τ)
            | .brk => Q .next s'
            | .ret v => Q (.ret v) s') fun o ρ4 H4 f s4 τ4 gg J4 r yy => ?_) (fun f _ e => e) fun _ _ e => e.elim
    have X4 := X2.trans yy
    cases r with
    | next => obtain ⟨m', h1, h2⟩ := gg; exact ⟨m', h1, ρ4, H4, τ4, h2, J4, X4⟩
    | cont => obtain ⟨m', h1, h2⟩ := gg; exact ⟨m', h1, ρ4, H4, τ4, h2, J4, X4⟩
    | brk => exact q _ _ _ _ _ _ gg J4 .next X4
    | ret r => exact q _ _ _ _ _ _ gg J4 (.ret r) X4
end
end Mine
end

-- part W9
set_option linter.all false
noncomputable section
namespace Mine
open PySem PySem.W PySem.Calls PyProof.Rows
set_option Elab.async false
set_option maxRecDepth 100000

theorem forIn_pure {α β : Type} {f : α → β → Sem (ForInStep β)} (g : α → β → β) : ∀ (l : List α) (b : β), (∀ x ∈ l, ∀ b, f x b = pure (.yield (g x b))) → forIn l b f = pure (l.foldl (fun b x => g x b) b) := fun l => by
  induction l with
  | nil => intro b h; rfl
  | cons x l ih =>
    intro b h
    rw [List.forIn_cons, h x List.mem_cons_self, pure_bind]
    exact ih _ fun y hy => h y (List.mem_cons_of_mem _ hy)
noncomputable def closStep (env : Env) (x : PySem.Str × NameKind) (cs : List (PySem.Str × Addr)) : List (PySem.Str × Addr) := if x.2 == .free then (x.1, (env.cells.lookup x.1).getD 0) :: cs else cs
noncomputable def closOf (scope : Scope) (env : Env) : List (PySem.Str × Addr) := scope.names.foldl (fun cs x => closStep env x cs) []
theorem closureFor_cells {scope : Scope} {env : Env} (hf : ∀ x ∈ scope.names, x.2 = .free → ∃ c, env.cells.lookup x.1 = some c) : closureFor scope env = pure (closOf scope env) := by
  simp only [closureFor]
  rw [forIn_pure (closStep env) scope.names [] (fun x hx b => by
    obtain ⟨nm, k⟩ := x
    unfold closStep
    by_cases h : (k == NameKind.free) = true
    · have hk : k = .free := by simpa using h
      obtain ⟨c, hc⟩ := hf _ hx hk
      have hc : env.cells.lookup nm = some c := hc
      simp only [h, if_true, cellOf, hc, Option.getD_some]
      rfl
    · have h : (k == NameKind.free) = false := by simpa using h
      simp only [h, Bool.false_eq_true, if_false])]
  rfl
theorem closOf_spec {scope : Scope} {env : Env} (hf : ∀ x ∈ scope.names, x.2 = .free → ∃ c, env.cells.lookup x.1 = some c) :
    (∀ y ∈ closOf scope env, (y.1, NameKind.free) ∈ scope.names ∧ env.cells.lookup y.1 = some y.2) ∧ (∀ x ∈ scope.names, x.2 = .free → ∃ c, (closOf scope env).lookup x.1 = some c) := by
  unfold closOf
  have key : ∀ (l : List (PySem.Str × NameKind)) (cs : List (PySem.Str × Addr)), (∀ x ∈ l, x ∈ scope.names) → (∀ y ∈ cs, (y.1, NameKind.free) ∈ scope.names ∧ env.cells.lookup y.1 = some y.2) →
      (∀ y ∈ l.foldl (fun cs x => closStep env x cs) cs, (y.1, NameKind.free) ∈ scope.names ∧ env.cells.lookup y.1 = some y.2) ∧ (∀ x, (x ∈ l ∧ x.2 = .free) ∨ (∃ c, cs.lookup x.1 = some c) → ∃ c, (l.foldl (fun cs x => closStep env x cs) cs).lookup x.1 = some c) := fun l => by
    induction l with
    | nil => exact fun cs _ h => ⟨h, fun x hx => hx.elim (fun e => nomatch e.1) id⟩
    | cons x l ih =>
      intro cs hm h
      rw [List.foldl_cons]
      obtain ⟨nm, k⟩ := x
      by_cases hk : k = .free
      · subst hk
        obtain ⟨c, hc⟩ := hf _ (hm _ List.mem_cons_self) rfl
        have e : closStep env (nm, .free) cs = (nm, c) :: cs := by unfold closStep; rw [hc]; rfl
        rw [e]
        obtain ⟨i1, i2⟩ := ih ((nm, c) :: cs) (fun y hy => hm y (List.mem_cons_of_mem _ hy)) (fun y hy => by
          rcases List.mem_cons.mp hy with rfl | hy
          · exact ⟨hm _ List.mem_cons_self, hc⟩
          · exact h y hy)
        refine ⟨i1, fun y hy => i2 y ?_⟩
        rcases hy with ⟨hy, hyk⟩ | ⟨c', hc'⟩
        · rcases List.mem_cons.mp hy with rfl | hy
          · exact .inr ⟨_, List.lookup_cons_self⟩
          · exact .inl ⟨hy, hyk⟩
        · by_cases e : y.1 = nm
          · exact .inr ⟨c, by rw [e]; exact List.lookup_cons_self⟩
          · have : (y.1 == nm) = false := by simpa using e
            exact .inr ⟨c', by rw [List.lookup_cons, this]; exact hc'⟩
      · have e : closStep env (nm, k) cs = cs := by
          unfold closStep
          have : (k == NameKind.free) = false := by simpa using hk
          rw [this]; rfl
        rw [e]
        obtain ⟨i1, i2⟩ := ih cs (fun y hy => hm y (List.mem_cons_of_mem _ hy)) h
        refine ⟨i1, fun y hy => i2 y ?_⟩
        rcases hy with ⟨hy, hyk⟩ | hy
        · rcases List.mem_cons.mp hy with rfl | hy
          · exact (hk hyk).elim
          · exact .inl ⟨hy, hyk⟩
        · exact .inr hy
  have := key scope.names [] (fun _ h => h) (fun y hy => nomatch hy)
  exact ⟨this.1, fun x hx hk => this.2 x (.inl ⟨hx, hk⟩)⟩
theorem lookup_map_kind {f : PySem.Str → NameKind → NameKind} : ∀ (l : List (PySem.Str × NameKind)) {x : PySem.Str} {k : NameKind}, (l.map fun (n, k) => (n, f n k)).lookup x = some k → ∃ k', (x, k') ∈ l ∧ f x k' = k := fun l => by
  induction l with
  | nil => intro x k h; cases h
  | cons y l ih =>
    intro x k h
    obtain ⟨n, k₀⟩ := y
    rw [List.map_cons, List.lookup_cons] at h
    by_cases hb : (x == n) = true
    · rw [hb] at h
      obtain rfl := Option.some.inj h
      obtain rfl := beq_iff_eq.mp hb
      exact ⟨k₀, List.mem_cons_self, rfl⟩
    · have : (x == n) = false := by simpa using hb
      rw [this] at h
      obtain ⟨k', h1, h2⟩ := ih h
      exact ⟨k', List.mem_cons_of_mem _ h1, h2⟩

section
variable {w : World} {hb : Heap} {os : OsState} {n : Nat} {env : Env} {ρ : Rho} {H : PH} {τ : Nat → PySem.Str}
/-- what a comprehension's scope is like -/
structure CompOk (env : Env) (scope : Scope) : Prop where
  kind : scope.kind = .function
  nocell : ∀ x ∈ scope.names, x.2 ≠ .cell
  free : ∀ x ∈ scope.names, x.2 = .free → env.kindOf x.1 = some .cell
  names : ∀ x ∈ scope.names, x.2 = .local → scope.names.lookup x.1 = some .local
theorem relabel_kind {scope : Scope} (he : EnvOk env) (c : CompOk env scope) {x : PySem.Str} (h : (relabel scope env).names.lookup x = some .cell ∨ (relabel scope env).names.lookup x = some .free) : (x, NameKind.free) ∈ scope.names ∧ env.kindOf x = some .cell := by
  have e : (relabel scope env).names = scope.names.map fun (n, k) => (n, if (k == .free && env.scope.kind == .function && env.kindOf n == some .cell) then .cell else k) := by
    show scope.names.map _ = _
    apply List.map_congr_left
    rintro ⟨n, k⟩ _
    dsimp only
    split <;> rfl
  rw [e] at h
  rcases h with h | h
  · obtain ⟨k', h1, h2⟩ := lookup_map_kind (f := fun n k => if (k == .free && env.scope.kind == .function && env.kindOf n == some .cell) then .cell else k) scope.names h
    split at h2
    · rename_i hc
      simp only [Bool.and_eq_true, beq_iff_eq] at hc
      obtain ⟨⟨rfl, _⟩, h3⟩ := hc
      exact ⟨h1, h3⟩
    · subst h2; exact (c.nocell _ h1 rfl).elim
  · obtain ⟨k', h1, h2⟩ := lookup_map_kind (f := fun n k => if (k == .free && env.scope.kind == .function && env.kindOf n == some .cell) then .cell else k) scope.names h
    split at h2
    · cases h2
    · subst h2; exact ⟨h1, c.free _ h1 rfl⟩
/-- the names of a comprehension ahead of a turn -/
noncomputable def compRho (scope : Scope) (env : Env) (ρ : Rho) : Rho := fun y => if (relabel scope env).names.lookup y = some .cell then ρ y else Option.none
theorem comp_frame {scope : Scope} {C : Addr} {s : Shared} {m : PySem.Str → Option Value} (he : EnvOk env) (c : CompOk env scope) (I : Inv hb os env ρ H s τ) (hns : s.heap.Ns C m) (hC : hb.get? C = Option.none) :
    Inv hb os (compEnvC scope (closOf scope env) C env) (compRho scope env ρ) H s τ := by
  have hf : ∀ x ∈ scope.names, x.2 = .free → ∃ c, env.cells.lookup x.1 = some c := fun x hx hk => by
    obtain ⟨a, e, _⟩ := I.f.cell x.1 (.inl (c.free x hx hk)); exact ⟨a, e⟩
  obtain ⟨z1, z2⟩ := closOf_spec hf
  refine ⟨I.base, I.l, ⟨⟨m, hns, fun x p hx e => ?_⟩, hC, fun x hx => ?_, fun a ha => ?_⟩, I.gens, I.os, I.pos⟩
  · unfold compRho at e
    have hx : (relabel scope env).names.lookup x = some .local := hx
    rw [hx] at e
    cases e
  · obtain ⟨h1, h2⟩ := relabel_kind he c hx
    obtain ⟨a, e, e2, v₀, e3, e4⟩ := I.f.cell x (.inl h2)
    obtain ⟨a', e'⟩ := z2 _ h1 rfl
    have := (z1 _ (lookup_mem _ e')).2
    obtain rfl : a' = a := Option.some.inj (this.symm.trans e)
    refine ⟨a', e', e2, v₀, e3, fun p hp => e4 p ?_⟩
    unfold compRho at hp
    split at hp
    · exact hp
    · cases hp
  · rcases List.mem_cons.mp ha with rfl | ha
    · obtain ⟨o, _, _, ho, hd, _⟩ := hns; exact ⟨o, ho, .inl ⟨_, _, hd⟩⟩
    · obtain ⟨y, hy, rfl⟩ := List.mem_map.mp ha
      exact I.f.live _ (List.mem_cons_of_mem _ (List.mem_map.mpr ⟨_, lookup_mem _ (z1 y hy).2, rfl⟩))
end
end Mine
end

-- part W10
set_option linter.all false
noncomputable section
namespace Mine
open PySem PySem.W PySem.Calls PyProof.Rows
set_option Elab.async false
set_option maxRecDepth 100000
section
variable {w : World} {hb : Heap} {os : OsState} {n : Nat} {env : Env} {ρ : Rho} {H : PH} {τ : Nat → PySem.Str}

noncomputable abbrev testsOf (ifs : List Expr) (cenv : Env) : Sem Bool := forIn ifs true fun c r => if r = true then do let ok ← isTrue c cenv (eval c cenv); pure (ForInStep.yield ok) else pure (ForInStep.yield r)
theorem comp_loop {A : Around} {s : Shared} {R : Result → Shared → Prop} {elt target iter : Expr} {ifs : List Expr} {scope : Scope} {pos : Pos} {it acc : Value} {cenv : Env} (I : Nat → Shared → Prop)
    (turn : ∀ m s, I m s → wpAny (model pw w) A (pyNext it) (fun r s₁ => match r with
      | none => R (.ok .next) s₁
      | some v => wpAny (model pw w) A (letOwnedTupleGo target it v) (fun _ s₂ => wpAny (model pw w) A (assign target cenv v) (fun _ s₃ => wpAny (model pw w) A (testsOf ifs cenv) (fun ok s₄ =>
          if ok = true then wpAny (model pw w) A (eval elt cenv) (fun x s₅ => wpAny (model pw w) A (call (.builtin "list.append") [acc, x]) (fun _ s₆ => ∃ m', m' < m ∧ I m' s₆) noE s₅) noE s₄
          else ∃ m', m' < m ∧ I m' s₄) noE s₃) noE s₂) noE s₁) noE s) (m : Nat) (h : I m s) :
    codeAny (model pw w) A (.compLoop (.ListComp elt [⟨target, iter, ifs, 0⟩] scope pos) 0 it acc cenv) R s := by
  refine codeAny_loop rfl I (fun m s hI => ?_) m h
  show wpAny _ A ((compTurn (.ListComp elt [⟨target, iter, ifs, 0⟩] scope pos) 0 it acc cenv).onRaise (fun x => do noteFrame x cenv; theTreesLotGoes x)) _ _ s
  refine wpAny_noted ?_
  rw [compTurn_list]
  refine wpAny_bind (wpAny_standAt (wpAny_bind (wpAny_mono (turn m s hI) (fun r s₁ h₁ => ?_) fun _ _ e => e.elim)))
  cases r with
  | none => exact wpAny_pure h₁
  | some v =>
    refine wpAny_bind (wpAny_mono h₁ (fun _ s₂ h₂ => wpAny_bind (wpAny_mono h₂ (fun _ s₃ h₃ => wpAny_bind (wpAny_mono h₃ (fun ok s₄ h₄ => ?_) fun _ _ e => e.elim)) fun _ _ e => e.elim)) fun _ _ e => e.elim)
    cases ok with
    | false => exact wpAny_pure ⟨rfl, h₄⟩
    | true => exact wpAny_bind (wpAny_bind (wpAny_mono h₄ (fun x s₅ h₅ => wpAny_bind (wpAny_mono h₅ (fun _ s₆ h₆ => wpAny_pure (wpAny_pure ⟨rfl, h₆⟩)) fun _ _ e => e.elim)) fun _ _ e => e.elim))
theorem it_self {A : Around} {s : Shared} {I : Addr} {src : Src} {k : Nat} (it : ItAt s.heap I src k) {Q : Value → Shared → Prop} {E : Value → Shared → Prop} (q : Q (.ref I) s) : wpAny (model pw w) A (pyIter (.ref I)) Q E s := by
  cases src with
  | lst a => exact wpAny_pyIter_listiter it q
  | rng lo m => exact wpAny_pyIter_rangeiter it q
  | str y =>
    obtain ⟨t, it⟩ := it
    unfold strIterType at it
    split at it
    · exact wpAny_pyIter_striter_ascii it q
    · exact wpAny_pyIter_striter_wide it q
  | enm a I2 =>
    obtain ⟨_, ⟨old, he⟩, _⟩ := it
    exact wpAny_pyIter_enum he q

/-- tests of a comprehension -/
noncomputable def WIfs (w : World) (hb : Heap) (os : OsState) (n : Nat) (env : Env) (ρ : Rho) (H : PH) : List Expr → (Bool → PH → Prop) → Prop
  | [], Φ => Φ true H
  | [c], Φ => WB w hb os n env ρ H (isTrue c env (eval c env)) Φ
  | _, _ => False
theorem wifs {ifs : List Expr} {Φ : Bool → PH → Prop} (h : WIfs w hb os n env ρ H ifs Φ) : WB w hb os n env ρ H (testsOf ifs env) Φ := fun A s τ a I Q q => by
  match ifs, h with
  | [], h => exact wpAny_pure (q _ _ _ τ h I .refl)
  | [c], h =>
    unfold testsOf
    rw [List.forIn_cons, if_pos rfl]
    exact wpAny_bind (wpAny_bind ((h : WB w hb os n env ρ H (PySem.isTrue c env (eval c env)) Φ) A s τ a I _ fun b H1 s1 τ1 f J x => wpAny_pure (wpAny_pure (q b H1 s1 τ1 f J x))))
  | _ :: _ :: _, h => exact h.elim
/-- one turn of a comprehension, in its own frame -/
noncomputable def CompTurn (w : World) (hb : Heap) (os : OsState) (n : Nat) (env : Env) (ρ : Rho) (scope : Scope) (target elt : Expr) (ifs : List Expr) (xs : List PV) (J : Nat → List PV → PH → Prop) : Prop :=
  ∀ k ys H' x, xs[k]? = some x → J k ys H' → ∀ C, EnvOk (compEnvC scope (closOf scope env) C env) → WA w hb os n [C] (compEnvC scope (closOf scope env) C env) (compRho scope env ρ) H' target x fun ρ2 H2 =>
    WIfs w hb os n (compEnvC scope (closOf scope env) C env) ρ2 H2 ifs fun b H3 => if b = true then WT w hb os n (compEnvC scope (closOf scope env) C env) ρ2 H3 (eval elt (compEnvC scope (closOf scope env) C env)) fun p H4 => J (k + 1) (ys ++ [p]) H4 else J (k + 1) ys H3
/-- a frame stands when an inner one changes -/
theorem Inv.inner {s s' : Shared} {H' : PH} {τ' : Nat → PySem.Str} (I : Inv hb os env ρ H s τ) (J : Inv0 hb os H' s' τ') {X : List Addr} (x : Evo X H (vw s τ) H' (vw s' τ')) (hX : ∀ a ∈ X, a ∉ own env) (im : Imm (vw s τ) (vw s' τ')) : Inv hb os env ρ H' s' τ' := by
  refine ⟨J.base, J.l, ?_, J.gens, J.os, J.pos⟩
  obtain ⟨⟨m, hn, hm⟩, hnew, hc, lv⟩ := I.f
  refine ⟨⟨m, ?_, fun y p ky e => let ⟨v, a, b⟩ := hm y p ky e; ⟨v, a, b.imm im⟩⟩, hnew, fun y ky => ?_, fun a ha => ?_⟩
  · obtain ⟨o, es, ep, ho, r⟩ := hn
    rcases x.kept _ o ho with q | q | q
    · exact (I.l.notNs ⟨o, es, ep, ho, r⟩ q).elim
    · exact (hX _ q List.mem_cons_self).elim
    · exact ⟨o, es, ep, q, r⟩
  · obtain ⟨c, e1, e2, v₀, ⟨o, ho, hd⟩, r⟩ := hc y ky
    refine ⟨c, e1, e2, v₀, ?_, fun p e => let ⟨v, a, b⟩ := r p e; ⟨v, a, b.imm im⟩⟩
    rcases x.kept _ o ho with q | q | q
    · exact (I.l.notCell ⟨o, ho, hd⟩ q).elim
    · exact (hX _ q (List.mem_cons_of_mem _ (List.mem_map.mpr ⟨_, lookup_mem _ e1, rfl⟩))).elim
    · exact ⟨o, q, hd⟩
  · obtain ⟨o, ho, hh⟩ := lv a ha
    rcases x.kept _ o ho with q | q | q
    · exact (I.l.notHolder ho hh q).elim
    · exact (hX _ q ha).elim
    · exact ⟨o, q, hh⟩
theorem Heap.Ns.of_evo {X : List Addr} {H' : PH} {h h' : Vw} {C : Addr} {m : PySem.Str → Option Value} (L : LRep hb H h) (hns : h.h.Ns C m) (x : Evo X H h H' h') (hX : C ∉ X) : h'.h.Ns C m := by
  obtain ⟨o, es, ep, ho, r⟩ := hns
  rcases x.kept _ o ho with q | q | q
  · exact (L.notNs ⟨o, es, ep, ho, r⟩ q).elim
  · exact (hX q).elim
  · exact ⟨o, es, ep, q, r⟩
end
end Mine
end

-- part W11
set_option linter.all false
noncomputable section
namespace Mine
open PySem PySem.W PySem.Calls PyProof.Rows
set_option Elab.async false
set_option maxRecDepth 100000
section
variable {w : World} {hb : Heap} {os : OsState} {n : Nat} {env : Env} {ρ : Rho} {H : PH} {τ : Nat → PySem.Str}

theorem frozen_cls {o : Obj} (f : Frozen o) (h : o.cls = .type "list") : False := by cases f <;> exact absurd h (by simp)
theorem Inv.adopt {s : Shared} (I : Inv hb os env ρ H s τ) {D : Addr} {items : Array Value} {ys : List PV} (hD : hb.get? D = Option.none) (hp : s.heap.PlainList D items) (r : VReps (vw s τ) items.toList ys) : Inv hb os env ρ (H.set D ys) s τ :=
  ⟨I.base, fun a l e => by
    unfold PH.set at e
    split at e
    · rename_i h; subst h
      obtain rfl := Option.some.inj e
      obtain ⟨m, hp⟩ := hp
      exact ⟨hD, items, m, hp, r⟩
    · exact I.l a l e, I.f, I.gens, I.os, I.pos⟩
theorem Evo.adopt {X : List Addr} {H' : PH} {h h' : Vw} (x : Evo X H h H' h') {D : Addr} {ys : List PV} (hD : h.h.get? D = Option.none) : Evo X H h (H'.set D ys) h' :=
  ⟨x.kept, x.live, fun a e => by
    unfold PH.set at e
    split at e
    · rename_i h; subst h; exact .inr hD
    · exact x.new a e, x.T, x.τ⟩
theorem plain_evo {X : List Addr} {H' : PH} {h h' : Vw} {D : Addr} {items : Array Value} (hp : h.h.PlainList D items) (hH : H D = Option.none) (hX : D ∉ X) (x : Evo X H h H' h') : h'.h.PlainList D items ∧ H' D = Option.none := by
  obtain ⟨m, hp⟩ := hp
  refine ⟨⟨m, ?_⟩, ?_⟩
  · rcases x.kept D _ hp with q | q | q
    · rw [hH] at q; cases q
    · exact (hX q).elim
    · exact q
  · cases e : H' D with
    | none => rfl
    | some l =>
      rcases x.new D (by rw [e]; rfl) with q | q
      · rw [hH] at q; cases q
      · exact nomatch q.symm.trans hp
theorem ns_keep {h h' : Heap} {C : Addr} {m : PySem.Str → Option Value} (x : h.Ns C m) (k : ∀ o, h.get? C = some o → h'.get? C = some o) : h'.Ns C m := let ⟨o, a, b, ho, r⟩ := x; ⟨o, a, b, k o ho, r⟩
theorem comp_core {elt target iter : Expr} {ifs : List Expr} {scope : Scope} {pos p : Pos} {use : Option (Value → Sem Unit)} (he : EnvOk env) (c : CompOk env scope) {Φ : List PV → PH → Prop}
    (h : WI w hb os n env ρ H iter fun src H1 => ∃ (J : Nat → List PV → PH → Prop) (xs : List PV), TgtOk target src ∧ xs.length ≤ sizeLine ∧ J 0 [] H1 ∧ (∀ k ys H', J k ys H' → SrcHas H' src xs) ∧ CompTurn w hb os n env ρ scope target elt ifs xs J ∧ (∀ ys H', J xs.length ys H' → Φ ys H'))
    (hs : ∀ x, foldedSetIterable iter env x = pure x) {A : Around} {s₀ : Shared} {τ₀ : Nat → PySem.Str} (ak : AOk n A) (I₀ : Inv hb os env ρ H s₀ τ₀) {Q : Value → Shared → Prop}
    (fin : ∀ ys H' D C m s' τ', Φ ys H' → H' D = Option.none → s₀.heap.get? D = Option.none → Inv hb os env ρ (H'.set D ys) s' τ' → Evo [] H (vw s₀ τ₀) (H'.set D ys) (vw s' τ') → s'.heap.Ns C m → s₀.heap.get? C = Option.none → compPost (model pw w) A noE use Q (.ref D) C (.ok .next) s') :
    wpAny (model pw w) A (comprehension (.ListComp elt [⟨target, iter, ifs, 0⟩] scope pos) scope env p (newList []) false (eval iter env) use) Q noE s₀ := by
  have hf : ∀ x ∈ scope.names, x.2 = .free → ∃ c, env.cells.lookup x.1 = some c := fun x hx hk => by
    obtain ⟨a, e, _⟩ := I₀.f.cell x.1 (.inl (c.free x hx hk)); exact ⟨a, e⟩
  refine wpAny_comprehension_free rfl hs (closureFor_cells hf) c.kind c.names (h A s₀ τ₀ ak I₀ _ fun src H1 I s1 τ1 ⟨J, xs, ht, hsz, j0, jh, jt, je⟩ J1 it1 fresh x1 => ?_)
  have none_of : ∀ b, s1.heap.get? b = Option.none → s₀.heap.get? b = Option.none := fun b e => by
    cases e' : s₀.heap.get? b with
    | none => rfl
    | some o => obtain ⟨o', e''⟩ := x1.live b o e'; exact nomatch e''.symm.trans e
  refine wpAny_newObj_type (wpAny_newFunctionEnv c.nocell (fun y hy => nomatch hy) (fun h₁ hns₁ hsb₁ => ?_) c.kind)
  show codeAny (model pw w) A (.compStart (.ListComp elt [⟨target, iter, ifs, 0⟩] scope pos) 0 (.ref I) (.ref s1.heap.objs.size) (compEnvC scope (closOf scope env) _ env)) _ _
  generalize hH2 : s1.heap.push { cls := .type "list", dict := Option.none, data := .seq ([] : List Value).toArray } = H2 at hns₁ hsb₁ ⊢
  have hC : H2.objs.size = s1.heap.objs.size + 1 := by rw [← hH2, Heap.size_push]
  generalize hCC : H2.objs.size = C at hns₁ hsb₁ ⊢
  generalize hDD : s1.heap.objs.size = D at ⊢
  have dn : s1.heap.get? D = Option.none := by rw [← hDD]; exact nextNew _
  have cn : s1.heap.get? C = Option.none := by
    cases e : s1.heap.get? C with
    | none => rfl
    | some o =>
      have h1 := Heap.lt_size e
      rw [← hCC, hC] at h1
      exact (Nat.not_succ_lt_self h1).elim
  have dc : D ≠ C := by rw [← hDD, ← hCC, hC]; exact Nat.ne_of_lt (Nat.lt_succ_self _)
  have old : ∀ b o, s1.heap.get? b = some o → h₁.get? b = some o := fun b o e => hsb₁.extBut b o (fun hb => by rw [hb, cn] at e; cases e) (Heap.get?_push_of_some _ (by rw [← hH2]; exact Heap.get?_push_of_some _ e))
  have hp₁ : h₁.PlainList D #[] := ⟨_, hsb₁.extBut D _ dc (Heap.get?_push_of_some _ (by rw [← hH2, ← hDD]; exact Heap.get?_push_size _ rfl))⟩
  have z₁ := J1.side (W := []) ⟨fun b m => (nomatch m), fun b m => (nomatch m), fun b m => (nomatch m)⟩ (fun b m => nomatch m) (h' := h₁) (fun b o _ e => old b o e) (tk := s1.toks) (Nat.le_refl s1.toks) (fun t _ => (rfl : τ1 t = τ1 t))
  have xz₁ : Evo [] H (vw s₀ τ₀) H1 ⟨h₁, s1.toks, τ1⟩ := x1.join (W := []) (fun b m => nomatch m) (fun b o _ e => old b o e) (Nat.le_refl _) fun _ _ => rfl
  have it₁ : ItAt h₁ I src 0 := it1.keep fun b _ o e => old b o e
  have hbD : hb.get? D = Option.none := J1.to0.base_none dn
  have hbC : hb.get? C = Option.none := J1.to0.base_none cn
  have ownC : C ∉ own env := J1.own_live cn
  have ownD : D ∉ own env := J1.own_live dn
  have ownI : ∀ b ∈ src.own I, b ∉ own env := fun b m => I₀.own_live (fresh b m)
  have baseI : ∀ b ∈ src.own I, hb.get? b = Option.none := fun b m => I₀.to0.base_none (fresh b m)
  have envc : EnvOk (compEnvC scope (closOf scope env) C env) := ⟨c.kind, he.glob, he.blt⟩
  have loop : ∀ s : Shared, s = { s1 with heap := h₁, toks := s1.toks } → codeAny (model pw w) A (.compLoop (.ListComp elt [⟨target, iter, ifs, 0⟩] scope pos) 0 (.ref I) (.ref D) (compEnvC scope (closOf scope env) C env)) (compPost (model pw w) A noE use Q (.ref D) C) s := by
    rintro s rfl
    refine comp_loop (fun m s => ∃ k ys items H' τ, m = xs.length - k ∧ k ≤ xs.length ∧ ys.length ≤ k ∧ J k ys H' ∧ Inv hb os env ρ H' s τ ∧ ItAt s.heap I src k ∧ s.heap.PlainList D items ∧ H' D = Option.none ∧ VReps (vw s τ) items.toList ys ∧ (∃ m, s.heap.Ns C m) ∧ Evo [] H (vw s₀ τ₀) H' (vw s τ)) ?_ (xs.length - 0)
      ⟨0, [], #[], H1, τ1, rfl, Nat.zero_le _, Nat.zero_le _, j0, z₁.1, it₁, hp₁, J1.to0.list_none dn, .nil, ⟨_, hns₁⟩, xz₁⟩
    rintro m s ⟨k, ys, items, H', τ, rfl, hk, hys, jk, J2, it, hp, hHD, ry, ⟨mC, hns⟩, x⟩
    have asd := aside_of J2.to0 it.fields baseI
    have notIn : ∀ {h : Heap} {b : Addr}, (∃ o vs, h.get? b = some o ∧ o.data = .fields vs ∧ o.cls ≠ .type "range") → (∀ items, h.PlainList b items → False) ∧ (∀ m, h.Ns b m → False) := fun ⟨o, vs, h1, h2, _⟩ =>
      ⟨fun its ⟨m, e⟩ => by rw [e] at h1; obtain rfl := Option.some.inj h1; exact (nomatch h2), fun m ⟨o', _, _, e, hd, _⟩ => by rw [e] at h1; obtain rfl := Option.some.inj h1; exact nomatch hd.symm.trans h2⟩
    have DnI : D ∉ src.own I := fun m => (notIn (it.fields D m)).1 _ hp
    have CnI : C ∉ src.own I := fun m => (notIn (it.fields C m)).2 _ hns
    cases hx : xs[k]? with
    | none =>
      refine wpAny_mono (it_end ak.1 J2.to0 it (jh _ _ _ jk) hx (Q := fun r s₁ => r = Option.none ∧ ∃ h', s₁ = { s with heap := h' } ∧ ∀ b o, b ∉ src.own I → s.heap.get? b = some o → h'.get? b = some o) fun h' hk' => ⟨rfl, h', rfl, hk'⟩) (fun r s₁ hq => ?_) fun _ _ e => e.elim
      obtain ⟨rfl, h', rfl, hk'⟩ := hq
      have z := J2.side asd ownI hk' (Nat.le_refl s.toks) (fun t _ => (rfl : τ t = τ t))
      have xj : Evo [] H (vw s₀ τ₀) H' ⟨h', s.toks, τ⟩ := x.join (W := src.own I) fresh hk' (Nat.le_refl _) fun _ _ => rfl
      have : k = xs.length := by have := List.getElem?_eq_none_iff.mp hx; omega
      subst this
      have hp' : h'.PlainList D items := by obtain ⟨m, e⟩ := hp; exact ⟨m, hk' _ _ DnI e⟩
      exact fin ys H' D C mC _ τ (je _ _ jk) hHD (none_of D dn) (z.1.adopt hbD hp' (ry.imm z.2)) (xj.adopt (none_of D dn)) (ns_keep hns fun o e => hk' _ _ CnI e) (none_of C cn)
    | some q =>
      refine wpAny_mono (it_item J2.to0 it (jh _ _ _ jk) hx baseI (Q := fun r s₁ => ∃ v h' tk τ', r = some v ∧ s₁ = { s with heap := h', toks := tk } ∧ s.toks ≤ tk ∧ (∀ t, t < s.toks → τ' t = τ t) ∧ (∀ b o, b ∉ src.own I → s.heap.get? b = some o → h'.get? b = some o) ∧ ItMid h' I v src (k + 1) ∧ VRep ⟨h', tk, τ'⟩ v q)
        fun v h' tk τ' a b c d e => ⟨v, h', tk, τ', rfl, rfl, a, b, c, d, e⟩) (fun r s₁ hq => ?_) fun _ _ e => e.elim
      obtain ⟨v, h', tk, τ', rfl, rfl, kT, kτ, hk', mid, rv⟩ := hq
      have z := J2.side asd ownI hk' kT kτ
      have xj : Evo [] H (vw s₀ τ₀) H' ⟨h', tk, τ'⟩ := x.join (W := src.own I) fresh hk' kT kτ
      have hp' : h'.PlainList D items := by obtain ⟨m, e⟩ := hp; exact ⟨m, hk' _ _ DnI e⟩
      have hns' := ns_keep hns fun o e => hk' _ _ CnI e
      have ry' := ry.imm z.2
      refine wpAny_mono (it_letGo ht mid (Q := fun _ s₁ => ∃ h₂, s₁ = { s with heap := h₂, toks := tk } ∧ (∀ b o, b ∉ src.own I → h'.get? b = some o → h₂.get? b = some o) ∧ ItAt h₂ I src (k + 1)) fun h₂ a b => ⟨h₂, rfl, a, b⟩) (fun _ s₁ hq => ?_) fun _ _ e => e.elim
      obtain ⟨h₂, rfl, hk₂, it₂⟩ := hq
      have asd' := aside_of z.1.to0 mid.fields baseI
      have z₂ := z.1.side asd' ownI hk₂ (Nat.le_refl tk) (fun t _ => (rfl : τ' t = τ' t))
      have xj₂ : Evo [] H (vw s₀ τ₀) H' ⟨h₂, tk, τ'⟩ := xj.join (W := src.own I) fresh hk₂ (Nat.le_refl _) fun _ _ => rfl
      have hp₂ : h₂.PlainList D items := by obtain ⟨m, e⟩ := hp'; exact ⟨m, hk₂ _ _ DnI e⟩
      have hns₂ := ns_keep hns' fun o e => hk₂ _ _ CnI e
      have ry₂ := ry'.imm z₂.2
      have hk1 : k < xs.length := (List.getElem?_eq_some_iff.mp hx).1
      have fr := comp_frame he c z₂.1 hns₂ hbC
      have hH : ∀ b ∈ src.own I, H' b = Option.none := (aside_of z₂.1.to0 it₂.fields baseI).H
      refine wpAny_mono (jt k ys H' q hx jk C envc A _ τ' [v] ak fr (.cons (rv.imm z₂.2) .nil) (fun _ s₃ => ∃ ρ3 H3 τ3, WIfs w hb os n (compEnvC scope (closOf scope env) C env) ρ3 H3 ifs (fun b H3 => if b = true then WT w hb os n (compEnvC scope (closOf scope env) C env) ρ3 H3 (eval elt (compEnvC scope (closOf scope env) C env)) (fun p H4 => J (k + 1) (ys ++ [p]) H4) else J (k + 1) ys H3) ∧
          Inv hb os (compEnvC scope (closOf scope env) C env) ρ3 H3 s₃ τ3 ∧ Evo [C] H' ⟨h₂, tk, τ'⟩ H3 (vw s₃ τ3)) fun ρ3 H3 s3 τ3 g J3 y => ⟨ρ3, H3, τ3, g, J3, y⟩) (fun _ s₃ hq => ?_) fun _ _ e => e.elim
      obtain ⟨ρ3, H3, τ3, g, J3, y⟩ := hq
      have imm3 : Imm ⟨h₂, tk, τ'⟩ (vw s₃ τ3) := (y.mono (Y := own (compEnvC scope (closOf scope env) C env)) fun a m => by rw [List.mem_singleton.mp m]; exact List.mem_cons_self).imm fr.f fr.l
      have O3 := Inv.inner (s := { s with heap := h₂, toks := tk }) (s' := s₃) z₂.1 J3.to0 y (fun a m => by rw [List.mem_singleton.mp m]; exact ownC) imm3
      have it₃ : ItAt s₃.heap I src (k + 1) := ItAt.of_evo (h := ⟨h₂, tk, τ'⟩) (h' := vw s₃ τ3) it₂ y (fun b hb m => CnI (by rw [← List.mem_singleton.mp m]; exact hb)) hH
      have hp₃ := plain_evo (h := ⟨h₂, tk, τ'⟩) (h' := vw s₃ τ3) hp₂ hHD (fun m => dc (List.mem_singleton.mp m)) y
      have ry₃ := ry₂.imm imm3
      have xj₃ : Evo [] H (vw s₀ τ₀) H3 (vw s₃ τ3) := ((xj₂.mono (Y := [C]) fun _ e => nomatch e).trans y).less fun b m => by rw [List.mem_singleton.mp m]; exact .inr (none_of C cn)
      refine wpAny_mono (wifs g A s₃ τ3 ak J3 (fun b s₄ => ∃ H4 τ4, (if b = true then WT w hb os n (compEnvC scope (closOf scope env) C env) ρ3 H4 (eval elt (compEnvC scope (closOf scope env) C env)) (fun p H4 => J (k + 1) (ys ++ [p]) H4) else J (k + 1) ys H4) ∧
          Inv hb os (compEnvC scope (closOf scope env) C env) ρ3 H4 s₄ τ4 ∧ Evo [] H3 (vw s₃ τ3) H4 (vw s₄ τ4)) fun b H4 s4 τ4 g J4 y => ⟨H4, τ4, g, J4, y⟩) (fun b s₄ hq => ?_) fun _ _ e => e.elim
      obtain ⟨H4, τ4, g4, J4, y4⟩ := hq
      have imm4 := O3.l.imm y4
      have O4 := O3.back J4.to0 y4
      have hH3 : ∀ b ∈ src.own I, H3 b = Option.none := (aside_of O3.to0 it₃.fields baseI).H
      have it₄ : ItAt s₄.heap I src (k + 1) := ItAt.of_evo (h := vw s₃ τ3) (h' := vw s₄ τ4) it₃ y4 (fun b _ m => nomatch m) hH3
      have hp₄ := plain_evo (h := vw s₃ τ3) (h' := vw s₄ τ4) hp₃.1 hp₃.2 List.not_mem_nil y4
      have ry₄ := ry₃.imm imm4
      have xj₄ := xj₃.trans y4
      obtain ⟨m4, hn4, _⟩ := J4.f.ns
      cases b with
      | false => exact ⟨_, by omega, k + 1, ys, items, H4, τ4, rfl, hk1, Nat.le_succ_of_le hys, g4, O4, it₄, hp₄.1, hp₄.2, ry₄, ⟨m4, hn4⟩, xj₄⟩
      | true =>
        rw [if_pos rfl]
        refine wpAny_mono ((g4 : WT w hb os n (compEnvC scope (closOf scope env) C env) ρ3 H4 (eval elt (compEnvC scope (closOf scope env) C env)) (fun p H4 => J (k + 1) (ys ++ [p]) H4)) A s₄ τ4 ak J4 (fun v5 s₅ => ∃ p H5 τ5, J (k + 1) (ys ++ [p]) H5 ∧ Inv hb os (compEnvC scope (closOf scope env) C env) ρ3 H5 s₅ τ5 ∧ VRep (vw s₅ τ5) v5 p ∧ Evo [] H4 (vw s₄ τ4) H5 (vw s₅ τ5))
          fun p H5 v5 s5 τ5 g J5 r y => ⟨p, H5, τ5, g, J5, r, y⟩) (fun v5 s₅ hq => ?_) fun _ _ e => e.elim
        obtain ⟨p, H5, τ5, g5, J5, r5, y5⟩ := hq
        have imm5 := O4.l.imm y5
        have O5 := O4.back J5.to0 y5
        have hH4 : ∀ b ∈ src.own I, H4 b = Option.none := (aside_of O4.to0 it₄.fields baseI).H
        have it₅ : ItAt s₅.heap I src (k + 1) := ItAt.of_evo (h := vw s₄ τ4) (h' := vw s₅ τ5) it₄ y5 (fun b _ m => nomatch m) hH4
        have hp₅ := plain_evo (h := vw s₄ τ4) (h' := vw s₅ τ5) hp₄.1 hp₄.2 List.not_mem_nil y5
        have ry₅ := ry₄.imm imm5
        have xj₅ := xj₄.trans y5
        obtain ⟨m5, hn5, _⟩ := J5.f.ns
        have hlen := ry₅.length
        rw [Array.length_toList] at hlen
        refine wpAny_list_append_plain hp₅.1 (fun h₆ hp₆ hs₆ => ?_) (by omega)
        have asd6 : Aside hb H5 s₅.heap [D] := ⟨fun b m => by rw [List.mem_singleton.mp m]; exact hbD, fun b m => by rw [List.mem_singleton.mp m]; exact hp₅.2, fun b m o f e => by
          rw [List.mem_singleton.mp m] at e
          obtain ⟨mm, hp⟩ := hp₅.1
          have := Option.some.inj (hp.symm.trans e)
          subst this
          exact frozen_cls f rfl⟩
        have kk6 : ∀ b o, b ∉ [D] → s₅.heap.get? b = some o → h₆.get? b = some o := fun b o m e => hs₆.extBut b o (fun e' => m (by simp [e'])) e
        have z₆ := O5.side asd6 (fun b m => by rw [List.mem_singleton.mp m]; exact ownD) kk6 (Nat.le_refl s₅.toks) (fun t _ => (rfl : τ5 t = τ5 t))
        have xj₆ : Evo [] H (vw s₀ τ₀) H5 ⟨h₆, s₅.toks, τ5⟩ := xj₅.join (W := [D]) (fun b m => by rw [List.mem_singleton.mp m]; exact none_of D dn) kk6 (Nat.le_refl _) fun _ _ => rfl
        refine ⟨_, by omega, k + 1, ys ++ [p], items.push v5, H5, τ5, rfl, hk1, by rw [List.length_append, List.length_singleton]; omega, g5, z₆.1, it₅.keep fun b hb o e => kk6 b o (fun m => DnI (by rw [← List.mem_singleton.mp m]; exact hb)) e, hp₆, hp₅.2, ?_, ⟨m5, ns_keep hn5 fun o e => kk6 _ o (fun m => dc (List.mem_singleton.mp m).symm) e⟩, xj₆⟩
        rw [Array.toList_push]
        exact (ry₅.imm z₆.2).append (.cons (r5.imm z₆.2) .nil)
  exact codeAny_compStart_list (loop _ rfl) (it_self it₁ (loop _ rfl))
theorem Inv.sideC {s : Shared} (I : Inv hb os env ρ H s τ) {H₀ : PH} {h₀ : Vw} {X : List Addr} (x : Evo X H₀ h₀ H (vw s τ)) {C : Addr} {m : PySem.Str → Option Value} (hns : s.heap.Ns C m) (hC : hb.get? C = Option.none) (hO : C ∉ own env) (h₀C : h₀.h.get? C = Option.none) {h' : Heap} (hs : Heap.SameBut C s.heap h') :
    Inv hb os env ρ H { s with heap := h' } τ ∧ Evo X H₀ h₀ H ⟨h', s.toks, τ⟩ := by
  have kk : ∀ b o, b ∉ [C] → s.heap.get? b = some o → h'.get? b = some o := fun b o m e => hs.extBut b o (fun e' => m (by simp [e'])) e
  have z := I.side (W := [C]) ⟨fun b m => by rw [List.mem_singleton.mp m]; exact hC, fun b m => by
    rw [List.mem_singleton.mp m]
    cases e : H C with
    | none => rfl
    | some l => exact (I.l.notNs hns (by rw [e]; rfl)).elim, fun b m o f e => by
      rw [List.mem_singleton.mp m] at e
      obtain ⟨o', es, ep, ho, hd, _⟩ := hns
      obtain rfl := Option.some.inj (e.symm.trans ho)
      exact Holder.notFrozen (.inl ⟨_, _, hd⟩) f⟩ (fun b m => by rw [List.mem_singleton.mp m]; exact hO) kk (Nat.le_refl s.toks) (fun t _ => (rfl : τ t = τ t))
  exact ⟨z.1, x.join (W := [C]) (fun b m => by rw [List.mem_singleton.mp m]; exact h₀C) kk (Nat.le_refl _) fun _ _ => rfl⟩
/-- a comprehension as a value -/
theorem we_compx {elt target iter : Expr} {ifs : List Expr} {scope : Scope} {pos : Pos} {Φ : PV → PH → Prop} (he : EnvOk env) (c : CompOk env scope)
    (h : WI w hb os n env ρ H iter fun src H1 => ∃ (J : Nat → List PV → PH → Prop) (xs : List PV), TgtOk target src ∧ xs.length ≤ sizeLine ∧ J 0 [] H1 ∧ (∀ k ys H', J k ys H' → SrcHas H' src xs) ∧ CompTurn w hb os n env ρ scope target elt ifs xs J ∧ (∀ ys H', J xs.length ys H' → ∀ c, H' c = Option.none → Φ (.ref c) (H'.set c ys)))
    (hs : ∀ x, foldedSetIterable iter env x = pure x := by intro _; rfl) : WT w hb os n env ρ H (eval (.ListComp elt [⟨target, iter, ifs, 0⟩] scope pos) env) Φ := fun A s₀ τ₀ ak I₀ Q q => by
  rw [eval_ListComp]
  refine comp_core (use := Option.none) he c h hs ak I₀ fun ys H' D C m s' τ' f hD hD₀ J2 x hns hC₀ => ?_
  refine ⟨m, hns, fun h' hs' => ?_⟩
  obtain ⟨z1, z2⟩ := J2.sideC x hns (I₀.to0.base_none hC₀) (I₀.own_live hC₀) hC₀ hs'
  exact q _ _ _ _ τ' (f D hD) z1 .ref z2
/-- a comprehension stored at once into a name of the same line -/
theorem wf_assign_compx {elt target iter : Expr} {ifs : List Expr} {scope : Scope} {x : PySem.Str} {px pos spos : Pos} {Φ : Out → Rho → PH → Prop} (he : EnvOk env) (hx : env.kindOf x = some .local) (c : CompOk env scope)
    (h : WI w hb os n env ρ H iter fun src H1 => ∃ (J : Nat → List PV → PH → Prop) (xs : List PV), TgtOk target src ∧ xs.length ≤ sizeLine ∧ J 0 [] H1 ∧ (∀ k ys H', J k ys H' → SrcHas H' src xs) ∧ CompTurn w hb os n env ρ scope target elt ifs xs J ∧ (∀ ys H', J xs.length ys H' → ∀ c, H' c = Option.none → Φ .next (ρ.set x (.ref c)) (H'.set c ys)))
    (hsw : swapsWith (.ListComp elt [⟨target, iter, ifs, 0⟩] scope pos) (some (.Name x px)) spos.line env = pure true) (hs : ∀ x, foldedSetIterable iter env x = pure x := by intro _; rfl) :
    WF w hb os n env ρ H (exec (.Assign [.Name x px] (.ListComp elt [⟨target, iter, ifs, 0⟩] scope pos) spos) env) Φ := fun A s₀ τ₀ ak I₀ Q q => by
  rw [exec_Assign_Name_used _ _ _ _ hsw]
  refine wpAny_bind (wpAny_standAt (wpAny_bind ?_))
  show wpAny _ A (do let _ ← comprehension (.ListComp elt [⟨target, iter, ifs, 0⟩] scope pos) scope env _ (newList []) false (eval iter env) (some (assign (.Name x px) env))) _ _ s₀
  refine wpAny_bind (wpAny_mono (comp_core (use := some (assign (.Name x px) env)) (Q := fun _ s' => Q .next s') he c h hs ak I₀ fun ys H' D C m s' τ' f hD hD₀ J2 x2 hns hC₀ => ?_) (fun _ s' hq => wpAny_pure (wpAny_pure hq)) fun _ _ e => e.elim)
  show wpAny _ A (assign (.Name x px) env (.ref D)) _ noE s'
  refine wa_name (w := w) (hb := hb) (os := os) (n := n) (X := [env.locals]) (pos := px) (ρ := ρ) (Φ := fun ρ' H2 => Φ .next ρ' H2 ∧ H2 = H'.set D ys) he (.inl ⟨hx, List.mem_singleton_self _⟩) ⟨f D hD, rfl⟩ A s' τ' [.ref D] ak J2 (.cons .ref .nil) _ fun ρ' H2 s2 τ2 ⟨g, e⟩ J3 y => ?_
  subst e
  have hbC := I₀.to0.base_none hC₀
  have hLC : C ∉ [env.locals] := fun m => I₀.own_live hC₀ (by rw [List.mem_singleton.mp m]; exact List.mem_cons_self)
  have hns2 := Heap.Ns.of_evo (h := vw s' τ') (h' := vw s2 τ2) J2.l hns y hLC
  refine ⟨m, hns2, fun h' hs' => ?_⟩
  have X : Evo (own env) H (vw s₀ τ₀) _ (vw s2 τ2) := (x2.own).trans (y.mono fun a m => by rw [List.mem_singleton.mp m]; exact List.mem_cons_self)
  obtain ⟨z1, z2⟩ := J3.sideC X hns2 hbC (I₀.own_live hC₀) hC₀ hs'
  exact q _ _ _ _ _ τ2 g z1 .next z2
theorem we_comp {elt target iter : Expr} {ifs : List Expr} {scope : Scope} {pos : Pos} {Φ : PV → PH → Prop} (he : EnvOk env) (J : Nat → List PV → PH → Prop) (c : CompOk env scope)
    (h : WI w hb os n env ρ H iter fun src H1 => ∃ xs, TgtOk target src ∧ xs.length ≤ sizeLine ∧ J 0 [] H1 ∧ (∀ k ys H', J k ys H' → SrcHas H' src xs) ∧ CompTurn w hb os n env ρ scope target elt ifs xs J ∧ (∀ ys H', J xs.length ys H' → ∀ c, H' c = Option.none → Φ (.ref c) (H'.set c ys)))
    (hs : ∀ x, foldedSetIterable iter env x = pure x := by intro _; rfl) : WT w hb os n env ρ H (eval (.ListComp elt [⟨target, iter, ifs, 0⟩] scope pos) env) Φ :=
  we_compx he c (h.mono fun src H1 ⟨xs, r⟩ => ⟨J, xs, r⟩) hs
theorem wf_assign_comp {elt target iter : Expr} {ifs : List Expr} {scope : Scope} {x : PySem.Str} {px pos spos : Pos} {Φ : Out → Rho → PH → Prop} (he : EnvOk env) (hx : env.kindOf x = some .local) (J : Nat → List PV → PH → Prop) (c : CompOk env scope)
    (h : WI w hb os n env ρ H iter fun src H1 => ∃ xs, TgtOk target src ∧ xs.length ≤ sizeLine ∧ J 0 [] H1 ∧ (∀ k ys H', J k ys H' → SrcHas H' src xs) ∧ CompTurn w hb os n env ρ scope target elt ifs xs J ∧ (∀ ys H', J xs.length ys H' → ∀ c, H' c = Option.none → Φ .next (ρ.set x (.ref c)) (H'.set c ys)))
    (hsw : swapsWith (.ListComp elt [⟨target, iter, ifs, 0⟩] scope pos) (some (.Name x px)) spos.line env = pure true) (hs : ∀ x, foldedSetIterable iter env x = pure x := by intro _; rfl) :
    WF w hb os n env ρ H (exec (.Assign [.Name x px] (.ListComp elt [⟨target, iter, ifs, 0⟩] scope pos) spos) env) Φ :=
  wf_assign_compx he hx c (h.mono fun src H1 ⟨xs, r⟩ => ⟨J, xs, r⟩) hsw hs
end
end Mine
end

-- part W12
set_option linter.all false
noncomputable section
namespace Mine
open PySem PySem.W PySem.Calls PyProof.Rows
set_option Elab.async false
set_option maxRecDepth 100000
section
variable {w : World} {hb : Heap} {os : OsState} {n : Nat} {env : Env} {ρ : Rho} {H : PH} {τ : Nat → PySem.Str}

theorem pushNew {h : Heap} (o : Obj) : (∀ a o', h.get? a = some o' → (h.push o).get? a = some o') := fun a o' e => Heap.get?_push_of_some _ e
/-- an iterator is laid behind the heap -/
theorem wi_of {iter : Expr} {Φ : Src → PH → Prop} (h : WT w hb os n env ρ H (eval iter env) fun p H1 => ∃ src, (∀ I, src.own I = [I]) ∧ Φ src H1 ∧ ∀ (A : Around) (s : Shared) (τ : Nat → PySem.Str) (v : Value), AOk n A → Inv0 hb os H1 s τ → VRep (vw s τ) v p → ∀ Q : Value → Shared → Prop,
      (∀ o, ItAt (s.heap.push o) s.heap.objs.size src 0 → Q (.ref s.heap.objs.size) { s with heap := s.heap.push o }) → wpAny (model pw w) A (pyIter v) Q noE s) : WI w hb os n env ρ H iter Φ := fun A s τ ak I Q q =>
  h A s τ ak I _ fun p H1 v s1 τ1 ⟨src, ho, f, g⟩ J r x => g A s1 τ1 v ak J.to0 r Q fun o it => by
    have z := J.to0.grow (pushNew o) (Nat.le_refl s1.toks) (fun t _ => (rfl : τ1 t = τ1 t))
    refine q src H1 _ _ τ1 f (J.back z.1 z.2) it (fun b hb => ?_) (x.trans z.2)
    rw [ho] at hb
    rw [List.mem_singleton.mp hb]
    cases e : s.heap.get? s1.heap.objs.size with
    | none => rfl
    | some o' => obtain ⟨o2, e2⟩ := x.live _ _ e; exact (Nat.lt_irrefl _ (Heap.lt_size e2)).elim
theorem wi_list {iter : Expr} {Φ : Src → PH → Prop} (h : WT w hb os n env ρ H (eval iter env) fun p H1 => ∃ a l, p = .ref a ∧ H1 a = some l ∧ Φ (.lst a) H1) : WI w hb os n env ρ H iter Φ :=
  wi_of (h.mono fun p H1 ⟨a, l, e, e1, f⟩ => ⟨.lst a, fun _ => rfl, f, fun A s τ v ak I r Q q => by
    subst e; obtain rfl := r.ref_is
    obtain ⟨items, m, i1, i2⟩ := I.l.get e1
    exact wpAny_pyIter_list i1.isList (q _ ⟨_, Heap.get?_push_size _ rfl, rfl, rfl⟩)⟩)
theorem wi_str {iter : Expr} {Φ : Src → PH → Prop} (h : WT w hb os n env ρ H (eval iter env) fun p H1 => ∃ x, p = .str x ∧ Φ (.str x) H1) : WI w hb os n env ρ H iter Φ :=
  wi_of (h.mono fun p H1 ⟨x, e, f⟩ => ⟨.str x, fun _ => rfl, f, fun A s τ v ak I r Q q => by
    subst e; obtain ⟨_, rfl, _⟩ := r.str_is
    exact wpAny_pyIter_strU (q _ ⟨_, _, Heap.get?_push_size _ rfl, rfl, rfl⟩)⟩)
theorem wi_range {iter : Expr} {Φ : Src → PH → Prop} (h : WT w hb os n env ρ H (eval iter env) fun p H1 => ∃ lo hi, p = .rng lo hi ∧ -(2 ^ 62) ≤ lo ∧ lo < 2 ^ 62 ∧ -(2 ^ 62) ≤ hi ∧ hi < 2 ^ 62 ∧ Φ (.rng lo (hi - lo).toNat) H1) : WI w hb os n env ρ H iter Φ :=
  wi_of (h.mono fun p H1 ⟨lo, hi, e, a1, a2, a3, a4, f⟩ => ⟨.rng lo (hi - lo).toNat, fun _ => rfl, f, fun A s τ v ak I r Q q => by
    subst e
    cases r with | rng r =>
    refine wpAny_pyIter_range r (small_one a1 a2 a3 a4) (q _ ?_)
    have e2 : Builtin.Range.rangeSize lo hi 1 = ((hi - lo).toNat : Int) := by rw [rangeSize_one]; split <;> omega
    show IsRangeIter _ _ _ _ _
    rw [e2]
    have := Heap.get?_push_size s.heap (o := { cls := .type "range_iterator", data := .fields #[rawInt lo, rawInt ((hi - lo).toNat : Int), rawInt 1] }) rfl
    simpa using this⟩)
-- calls of builtins
theorem wc_range1 {i : Int} {Φ : PV → PH → Prop} (h : Φ (.rng 0 i) H) : WC w hb os n H (.type "range") [.int i] [] Φ := fun A s τ vs ks ak I r r2 Q q => by
  obtain ⟨v, rfl, r1⟩ := r.one
  obtain ⟨t, rfl⟩ := r1.int_is; obtain rfl := r2.nil_is
  have z := I.grow (pushNew { cls := .type "range", data := .fields #[.int 0 s.toks, .int i t, .int 1 (s.toks + 1)] }) (Nat.le_trans (Nat.le_succ s.toks) (Nat.le_succ (s.toks + 1))) (fun t _ => (rfl : τ t = τ t))
  exact call_range_1 (q _ H _ _ τ h z.1 (.rng (Heap.get?_push_size _ rfl)) z.2)
theorem wc_range2 {i j : Int} {Φ : PV → PH → Prop} (h : Φ (.rng i j) H) : WC w hb os n H (.type "range") [.int i, .int j] [] Φ := fun A s τ vs ks ak I r r2 Q q => by
  obtain ⟨v, u, rfl, r1, r3⟩ := r.two
  obtain ⟨t, rfl⟩ := r1.int_is; obtain ⟨u, rfl⟩ := r3.int_is; obtain rfl := r2.nil_is
  have z := I.grow (pushNew { cls := .type "range", data := .fields #[.int i t, .int j u, .int 1 s.toks] }) (Nat.le_succ s.toks) (fun t _ => (rfl : τ t = τ t))
  exact call_range_2 (q _ H _ _ τ h z.1 (.rng (Heap.get?_push_size _ rfl)) z.2)
theorem wc_len {a : Addr} {l : List PV} {Φ : PV → PH → Prop} (e : H a = some l) (hl : l.length < 2 ^ 63) (h : Φ (.int l.length) H) : WC w hb os n H (.builtin "len") [.ref a] [] Φ := fun A s τ vs ks ak I r r2 Q q => by
  obtain ⟨v, rfl, r1⟩ := r.one
  obtain rfl := r1.ref_is; obtain rfl := r2.nil_is
  obtain ⟨items, m, i1, i2⟩ := I.l.get e
  have hlen := i2.length
  rw [Array.length_toList] at hlen
  have z := I.tok (tk := s.toks + 1 + 1) (Nat.le_trans (Nat.le_succ s.toks) (Nat.le_succ (s.toks + 1)))
  refine call_len_list i1.isList (by rw [hlen]; omega) ?_
  rw [hlen]
  exact q _ H _ _ τ h z.1 .int z.2
theorem wc_ord {c : Nat} {Φ : PV → PH → Prop} (h : Φ (.int c) H) : WC w hb os n H (.builtin "ord") [.str ⟨#[c]⟩] [] Φ := fun A s τ vs ks ak I r r2 Q q => by
  obtain ⟨v, rfl, r1⟩ := r.one
  obtain ⟨_, rfl, _⟩ := r1.str_is; obtain rfl := r2.nil_is
  have z := I.int1
  exact P.ord_of_char (q _ H _ _ τ h z.1 .int z.2)
theorem wc_chr {i : Int} {Φ : PV → PH → Prop} (h0 : 0 ≤ i) (h1 : i ≤ 1114111) (h : Φ (.str ⟨#[i.toNat]⟩) H) : WC w hb os n H (.builtin "chr") [.int i] [] Φ := fun A s τ vs ks ak I r r2 Q q => by
  obtain ⟨v, rfl, r1⟩ := r.one
  obtain ⟨_, rfl⟩ := r1.int_is; obtain rfl := r2.nil_is
  have z := I.str ⟨#[i.toNat]⟩
  exact chr_of_range h0 h1 (q _ H _ _ _ h z.1 z.2.1 z.2.2)
theorem ints_of {h : Vw} : ∀ {vs : List Value} {ns : List Int}, VReps h vs (ns.map .int) → ∃ xs : List (Int × Tok), vs = xs.map (fun p => .int p.1 p.2) ∧ xs.map (·.1) = ns
  | _, [], r => by obtain rfl := r.nil_is; exact ⟨[], rfl, rfl⟩
  | _, i :: ns, r => by
    obtain ⟨_, _, rfl, r1, r'⟩ := r.cons_is
    obtain ⟨t, rfl⟩ := r1.int_is
    obtain ⟨xs, rfl, rfl⟩ := ints_of r'
    exact ⟨(i, t) :: xs, rfl, rfl⟩
theorem intList_of {s : Shared} (I : Inv0 hb os H s τ) {a : Addr} {ns : List Int} (e : H a = some (ns.map .int)) : ∃ xs : Array (Int × Tok), s.heap.IsList a (intItems xs) ∧ xs.toList.map (·.1) = ns := by
  obtain ⟨items, m, i1, i2⟩ := I.l.get e
  obtain ⟨xs, h1, h2⟩ := ints_of i2
  refine ⟨xs.toArray, ?_, by simpa using h2⟩
  have : items = intItems xs.toArray := by
    unfold intItems
    apply Array.toList_inj.mp
    rw [h1]; simp
  rw [← this]; exact i1.isList
theorem wc_sum {a : Addr} {ns : List Int} {Φ : PV → PH → Prop} (e : H a = some (ns.map .int)) (h : Φ (.int ns.sum) H) : WC w hb os n H (.builtin "sum") [.ref a] [] Φ := fun A s τ vs ks ak I r r2 Q q => by
  obtain ⟨v, rfl, r1⟩ := r.one
  obtain rfl := r1.ref_is; obtain rfl := r2.nil_is
  obtain ⟨xs, h1, h2⟩ := intList_of I e
  refine wpAny_with_toks (Nat.le_refl s.toks) (wpAny_mono (sum_intListG (E := fun _ _ => False) ak.1 h1 fun h' tk t' hk hT => ?_) (fun _ _ x => x) fun _ _ e => e.elim)
  have hT : s.toks ≤ tk := hT
  have z := I.grow hk hT (fun t _ => (rfl : τ t = τ t))
  have e2 : preSum (numAt xs) xs.size = ns.sum := by rw [preSum_eq, List.take_of_length_le (by simp), h2]
  rw [e2]
  exact q _ H _ _ τ h z.1 .int z.2
theorem wc_max2 {i j : Int} {Φ : PV → PH → Prop} (h : Φ (.int (if j > i then j else i)) H) : WC w hb os n H (.builtin "max") [.int i, .int j] [] Φ := fun A s τ vs ks ak I r r2 Q q => by
  obtain ⟨v, u, rfl, r1, r3⟩ := r.two
  obtain ⟨_, rfl⟩ := r1.int_is; obtain ⟨_, rfl⟩ := r3.int_is; obtain rfl := r2.nil_is
  refine wpAny_with_toks (Nat.le_refl s.toks) (max_two_ints ak.1 fun h' tk hk hT => ?_)
  have hT : s.toks ≤ tk := hT
  have z := I.grow hk hT (fun t _ => (rfl : τ t = τ t))
  refine q _ H _ _ τ h z.1 ?_ z.2
  split <;> exact .int
theorem wc_min2 {i j : Int} {Φ : PV → PH → Prop} (h : Φ (.int (if j < i then j else i)) H) : WC w hb os n H (.builtin "min") [.int i, .int j] [] Φ := fun A s τ vs ks ak I r r2 Q q => by
  obtain ⟨v, u, rfl, r1, r3⟩ := r.two
  obtain ⟨_, rfl⟩ := r1.int_is; obtain ⟨_, rfl⟩ := r3.int_is; obtain rfl := r2.nil_is
  refine wpAny_with_toks (Nat.le_refl s.toks) (min_two_ints ak.1 fun h' tk hk hT => ?_)
  have hT : s.toks ≤ tk := hT
  have z := I.grow hk hT (fun t _ => (rfl : τ t = τ t))
  refine q _ H _ _ τ h z.1 ?_ z.2
  split <;> exact .int
theorem wc_minList {a : Addr} {ns : List Int} {Φ : PV → PH → Prop} (e : H a = some (ns.map .int)) (hne : 0 < ns.length) (h : ∀ i, i ∈ ns → (∀ j ∈ ns, i ≤ j) → Φ (.int i) H) : WC w hb os n H (.builtin "min") [.ref a] [] Φ := fun A s τ vs ks ak I r r2 Q q => by
  obtain ⟨v, rfl, r1⟩ := r.one
  obtain rfl := r1.ref_is; obtain rfl := r2.nil_is
  obtain ⟨xs, h1, h2⟩ := intList_of I e
  have hsz : 0 < xs.size := by rw [← h2] at hne; simpa using hne
  refine wpAny_with_toks (Nat.le_refl s.toks) (min_intList ak.1 h1 hsz fun v h' tk hv hk hT => ?_)
  have hT : s.toks ≤ tk := hT
  have z := I.grow hk hT (fun t _ => (rfl : τ t = τ t))
  obtain ⟨t, rfl⟩ := intItems_at hv
  obtain ⟨b1, b2⟩ := argBest_lt (numAt xs) (xs.size - 1)
  have hm : ∀ j, j < xs.size → numAt xs j ∈ ns := fun j hj => by rw [numAt_eq, h2]; exact getD_mem (by rw [← h2, List.length_map, Array.length_toList]; exact hj)
  refine q _ H _ _ τ (h _ (hm _ (by omega)) fun j hj => ?_) z.1 .int z.2
  rw [← h2] at hj
  obtain ⟨k, hk2, rfl⟩ := mem_getD hj
  rw [List.length_map, Array.length_toList] at hk2
  rw [← numAt_eq]; exact b2 k (by omega)
/-- list of a range -/
theorem wc_listRange {i j : Int} {Φ : PV → PH → Prop} (h0 : -(2 ^ 62) ≤ i) (h1 : i < 2 ^ 62) (h2 : -(2 ^ 62) ≤ j) (h3 : j < 2 ^ 62) (hlen : (j - i).toNat ≤ 2 ^ 24) (h : ∀ c, H c = Option.none → Φ (.ref c) (H.set c ((List.range (j - i).toNat).map fun k : Nat => .int (i + k)))) : WC w hb os n H (.type "list") [.rng i j] [] Φ := fun A s τ vs ks ak I r r2 Q q => by
  obtain ⟨v, rfl, r1⟩ := r.one
  obtain rfl := r2.nil_is
  cases r1 with | rng r =>
  have e2 : Builtin.Range.rangeSize i j 1 = ((j - i).toNat : Int) := by rw [rangeSize_one]; split <;> omega
  refine wpAny_with_toks (Nat.le_refl s.toks) (call_list_range ak.1 r (small_one h0 h1 h2 h3) e2 hlen fun h' tk acc c' hk hD hacc hT => ?_)
  have hT : s.toks ≤ tk := hT
  have z := I.grow hk hT (fun t _ => (rfl : τ t = τ t))
  have hn := nextNew s.heap
  have ra : VReps ⟨h', tk, τ⟩ acc.toList ((List.range (j - i).toNat).map fun k : Nat => .int (i + k)) := by
    obtain ⟨hs, hi⟩ := hacc
    have key : ∀ (vs : List Value) (b : Nat), (∀ (k : Nat) v, vs[k]? = some v → ∃ t, v = .int (i + ((b + k : Nat) : Int) * 1) t) → VReps ⟨h', tk, τ⟩ vs ((List.range' b vs.length).map fun k : Nat => .int (i + k)) := fun vs => by
      induction vs with
      | nil => intro b _; exact .nil
      | cons v vs ih =>
        intro b hv
        rw [List.length_cons, List.range'_succ, List.map_cons]
        refine .cons ?_ (ih (b + 1) fun k v e => ?_)
        · obtain ⟨t, e⟩ := hv 0 v rfl
          rw [e]
          have : i + ((b + 0 : Nat) : Int) * 1 = i + (b : Int) := by omega
          rw [this]; exact .int
        · obtain ⟨t, e⟩ := hv (k + 1) v (by simpa using e)
          refine ⟨t, ?_⟩
          rw [e]
          have : b + (k + 1) = b + 1 + k := by omega
          rw [this]
    have := key acc.toList 0 fun k v e => by
      have := hi k v (by simpa using e)
      simpa using this
    rw [Array.length_toList, hs] at this
    rw [List.range_eq_range']
    simpa using this
  have J : Inv0 hb os (H.set s.heap.objs.size ((List.range (j - i).toNat).map fun k : Nat => .int (i + k))) { s with heap := h', toks := tk } τ :=
    ⟨z.1.base, fun a l e => by
      unfold PH.set at e
      split at e
      · rename_i hh; subst hh
        obtain rfl := Option.some.inj e
        exact ⟨I.base_none hn, acc, c', hD, ra⟩
      · exact z.1.l a l e, z.1.gens, z.1.os, z.1.pos⟩
  exact q _ _ _ _ τ (h _ (I.list_none hn)) J .ref (z.2.adopt hn)
end
end Mine
end

-- part W13
set_option linter.all false
noncomputable section
namespace Mine
open PySem PySem.W PySem.Calls PyProof.Rows
set_option Elab.async false
set_option maxRecDepth 100000
section
variable {w : World} {hb : Heap} {os : OsState} {n : Nat} {env : Env} {ρ : Rho} {H : PH} {τ : Nat → PySem.Str}

theorem meth_args {pos : Pos} {id : String} {v : Value} {p : PV} {ts : List (Sem Value)} {Φ : PV → PH → Prop} (h : WTs w hb os n env ρ H ts fun ps H2 => WC w hb os n H2 (.builtin id) (p :: ps) [] Φ)
    {A : Around} {s : Shared} (a : AOk n A) (I : Inv hb os env ρ H s τ) (r : VRep (vw s τ) v p) {Q : Value → Shared → Prop}
    (q : ∀ p H' v s' τ', Φ p H' → Inv hb os env ρ H' s' τ' → VRep (vw s' τ') v p → Evo [] H (vw s τ) H' (vw s' τ') → Q v s') : wpAny (model pw w) A (callWith pos (.builtin id) [v] (ts.map fun t => (false, t)) []) Q noE s := by
  cases ts with
  | nil =>
    refine callWith_builtin rfl (PySem.evalArgs_none ?_)
    have h0 := h A s τ a I (fun vs s' => vs = [] → wpAny (model pw w) A (PySem.call (.builtin id) [v] []) Q noE s') fun ps H1 vs s1 τ1 g J rs x e => by
      subst e
      have := g A s1 τ1 [v] [] a J.to0 (.cons (r.imm (I.l.imm x)) rs) .nil Q fun p' H' v' s' τ' f' J2 r y => q p' H' v' s' τ' f' (J.back J2 y) r (x.trans y)
      exact this
    have : wpAny (model pw w) A (Sem.pure [] : Sem (List Value)) (fun vs s' => vs = [] → wpAny (model pw w) A (PySem.call (.builtin id) [v] []) Q noE s') noE s := h0
    exact fun Γ p hΓ => this Γ p hΓ rfl Γ p hΓ
  | cons t ts =>
    refine callWith_builtin (by simp) (evalArgs_plain ?_)
    refine h A s τ a I _ fun ps H1 vs s1 τ1 g J rs x => ?_
    exact g A s1 τ1 (v :: vs) [] a J.to0 (.cons (r.imm (I.l.imm x)) rs) .nil Q fun p' H' v' s' τ' f' J2 r y => q p' H' v' s' τ' f' (J.back J2 y) r (x.trans y)
/-- a method of a builtin type -/
theorem we_meth {o : Expr} {name : PySem.Str} {apos pos : Pos} {args : List Expr} {T id : String} {ts : List (Sem Value)} {Φ : PV → PH → Prop} (pa : PlainAttrs T) (slot : Slot T name id) (hty : typeOf (.builtin id) = pure (.type "method_descriptor"))
    (h : WT w hb os n env ρ H (eval o env) fun p H1 => (∀ (s : Shared) (τ : Nat → PySem.Str) (v : Value), Inv0 hb os H1 s τ → VRep (vw s τ) v p → s.TypeIs v T ∧ ∀ a, v = .ref a → ∃ ob, s.heap.get? a = some ob ∧ ob.dict = Option.none) ∧
      WTs w hb os n env ρ H1 ts fun ps H2 => WC w hb os n H2 (.builtin id) (p :: ps) [] Φ)
    (ha : backTo pos (starEach args env) = ts.map (fun t => (false, t)) := by rfl)
    (hbase : attributeBase o name env (eval o env) = eval o env := by rfl)
    (hfew : ((backTo pos (starEach args env)).all (fun x => !x.1) && (backToKw pos (keywordEach [] env)).all (fun x => x.1.isSome)
      && decide (args.length + ([] : List Keyword).length + (if ([] : List Keyword).isEmpty then 0 else 1) < 30)) = true := by rfl)
    (hline : (apos.endLine == pos.line) = true := by rfl) : WT w hb os n env ρ H (eval (.Call (.Attribute o name apos) args [] pos) env) Φ := fun A s τ a I Q q => by
  refine wpAny_Call_method hbase hfew hline pa slot hty (h A s τ a I _ fun p H1 v s1 τ1 ⟨g1, g2⟩ J r x => ?_)
  obtain ⟨t1, t2⟩ := g1 s1 τ1 v J.to0 r
  refine ⟨t1, t2, ?_⟩
  rw [ha]
  exact meth_args g2 a J r fun p' H' v' s' τ' f' J2 r y => q p' H' v' s' τ' f' J2 r (x.trans y)
theorem list_recv {a : Addr} {l : List PV} (e : H a = some l) : ∀ (s : Shared) (τ : Nat → PySem.Str) (v : Value), Inv0 hb os H s τ → VRep (vw s τ) v (.ref a) → s.TypeIs v "list" ∧ ∀ a, v = .ref a → ∃ ob, s.heap.get? a = some ob ∧ ob.dict = Option.none := fun s τ v I r => by
  (first | obtain rfl := r.nil_is | obtain rfl := r.ref_is | obtain ⟨_, rfl⟩ := r.int_is | obtain ⟨_, rfl, _⟩ := r.str_is | obtain rfl := r.bool_is | obtain rfl := r.none_is | obtain rfl := r.fn_is | cases r)
  obtain ⟨items, m, i1, i2⟩ := I.l.get e
  exact ⟨⟨_, i1, rfl⟩, fun a' h => by cases h; exact ⟨_, i1, rfl⟩⟩
/-- a list changes in place -/
theorem Inv0.setList {s : Shared} (I : Inv0 hb os H s τ) {a : Addr} {l l' : List PV} (e : H a = some l) {items : Array Value} {k : Nat} {h' : Heap} (hn : IsL h' a items k) (hs : Heap.SameBut a s.heap h') (r : VReps (vw s τ) items.toList l') :
    Inv0 hb os (H.set a l') { s with heap := h' } τ ∧ Evo [] H (vw s τ) (H.set a l') ⟨h', s.toks, τ⟩ := by
  obtain ⟨hba, its, k0, i1, i2⟩ := I.l a l e
  have eq : ∀ b, b ≠ a → h'.get? b = s.heap.get? b := fun b h => hs.2 b h
  have im : Imm (vw s τ) ⟨h', s.toks, τ⟩ := ⟨fun b o f g => by
    have : b ≠ a := fun h => by
      subst h
      obtain rfl := Option.some.inj (g.symm.trans i1)
      exact frozen_cls f rfl
    exact (eq b this).trans g, Nat.le_refl _, fun _ _ => rfl⟩
  refine ⟨⟨fun b o g => ?_, fun b l₂ g => ?_, I.gens, I.os, I.pos⟩, ⟨fun b o g => ?_, fun b o g => ?_, fun b g => ?_, Nat.le_refl _, fun _ _ => rfl⟩⟩
  · have : b ≠ a := fun h => by subst h; rw [hba] at g; cases g
    exact (eq b this).trans (I.base b o g)
  · unfold PH.set at g
    split at g
    · rename_i h; subst h
      obtain rfl := Option.some.inj g
      exact ⟨hba, items, k, hn, r.imm im⟩
    · rename_i h
      obtain ⟨x1, x2, x3, x4, x5⟩ := I.l b l₂ g
      exact ⟨x1, x2, x3, (eq b h).trans x4, x5.imm im⟩
  · by_cases h : b = a
    · exact .inl (by rw [h, e]; rfl)
    · exact .inr (.inr ((eq b h).trans g))
  · by_cases h : b = a
    · subst h; exact ⟨_, hn⟩
    · exact ⟨o, (eq b h).trans g⟩
  · unfold PH.set at g
    split at g
    · rename_i h; subst h; exact .inl (by rw [e]; rfl)
    · exact .inl g
theorem wc_append {a : Addr} {l : List PV} {x : PV} {Φ : PV → PH → Prop} (e : H a = some l) (hl : l.length ≤ sizeLine) (h : Φ .none (H.set a (l ++ [x]))) : WC w hb os n H (.builtin "list.append") [.ref a, x] [] Φ := fun A s τ vs ks ak I r r2 Q q => by
  obtain ⟨v, u, rfl, r1, r3⟩ := r.two
  (first | obtain rfl := r1.nil_is | obtain rfl := r1.ref_is | obtain ⟨_, rfl⟩ := r1.int_is | obtain ⟨_, rfl, _⟩ := r1.str_is | obtain rfl := r1.bool_is | obtain rfl := r1.none_is | obtain rfl := r1.fn_is | cases r1); (first | obtain rfl := r2.nil_is | obtain rfl := r2.ref_is | obtain ⟨_, rfl⟩ := r2.int_is | obtain ⟨_, rfl, _⟩ := r2.str_is | obtain rfl := r2.bool_is | obtain rfl := r2.none_is | obtain rfl := r2.fn_is | cases r2)
  obtain ⟨items, m, i1, i2⟩ := I.l.get e
  have hlen := i2.length
  rw [Array.length_toList] at hlen
  refine wpAny_list_append_plain ⟨m, i1⟩ (fun h' ⟨m', hn⟩ hs => ?_) (by omega)
  have z := I.setList e (l' := l ++ [x]) hn hs (by rw [Array.toList_push]; exact i2.append (.cons r3 .nil))
  exact q _ _ _ _ τ h z.1 .none z.2
theorem take_reps {h : Vw} : ∀ {vs : List Value} {ps : List PV} (k : Nat), VReps h vs ps → VReps h (vs.take k) (ps.take k)
  | _, _, 0, _ => .nil
  | _, _, k + 1, .nil => .nil
  | _, _, k + 1, .cons a r => .cons a (take_reps k r)
theorem drop_reps {h : Vw} : ∀ {vs : List Value} {ps : List PV} (k : Nat), VReps h vs ps → VReps h (vs.drop k) (ps.drop k)
  | _, _, 0, r => r
  | _, _, k + 1, .nil => .nil
  | _, _, k + 1, .cons a r => drop_reps k r
theorem insert_at {A : Around} {s : Shared} {a : Addr} {items : Array Value} {m : Nat} {x : Int} {t : Tok} {u : Value} {Q : Value → Shared → Prop} (i1 : IsL s.heap a items m) (h0 : 0 ≤ x) (h1 : x ≤ items.size) (hsz : items.size ≤ sizeLine)
    (q : ∀ h' k, IsL h' a ((items.extract 0 x.toNat).push u ++ items.extract x.toNat) k → Heap.SameBut a s.heap h' → Q .none { s with heap := h' }) : wpAny (model pw w) A (PySem.call (.builtin "list.insert") [.ref a, .int x t, u]) Q noE s := by
  have h24 : sizeLine < 2 ^ 62 := by decide
  have hfit : ¬(!Builtin.List.listFitsIndex x) = true := by
    unfold Builtin.List.listFitsIndex
    simp
    omega
  have g := @AutoSeq1.list_insert_list_int_val_1 a items m x t u hfit hsz
  have ek : (have k := if x < 0 then (x + (items.size : Int)).toNat else min x.toNat items.size; (items.extract 0 k).push u ++ items.extract k) = ((items.extract 0 x.toNat).push u ++ items.extract x.toNat) := by
    have h2 : min x.toNat items.size = x.toNat := by omega
    have h3 : ¬ x < 0 := by omega
    simp only [h2, h3, if_false]
  have hn := IsL.update i1 (fun xs => have k := if x < 0 then (x + (xs.size : Int)).toNat else min x.toNat xs.size; (xs.extract 0 k).push u ++ xs.extract k)
  rw [ek] at hn
  exact call_meets F.slot_list_insert ⟨_, i1, rfl⟩ F.entry_list_insert (F.args_list_insert_3 _ _ _) g ⟨i1, q _ _ hn (Heap.SameBut.update ..)⟩
theorem wc_insert {a : Addr} {l : List PV} {i : Nat} {x : PV} {Φ : PV → PH → Prop} (e : H a = some l) (hl : l.length ≤ sizeLine) (hi : i ≤ l.length) (h : Φ .none (H.set a (l.take i ++ x :: l.drop i))) : WC w hb os n H (.builtin "list.insert") [.ref a, .int i, x] [] Φ := fun A s τ vs ks ak I r r2 Q q => by
  cases r with | cons r1 r =>
  obtain ⟨v, u, rfl, r3, r4⟩ := r.two
  (first | obtain rfl := r1.nil_is | obtain rfl := r1.ref_is | obtain ⟨_, rfl⟩ := r1.int_is | obtain ⟨_, rfl, _⟩ := r1.str_is | obtain rfl := r1.bool_is | obtain rfl := r1.none_is | obtain rfl := r1.fn_is | cases r1); (first | obtain rfl := r3.nil_is | obtain rfl := r3.ref_is | obtain ⟨_, rfl⟩ := r3.int_is | obtain ⟨_, rfl, _⟩ := r3.str_is | obtain rfl := r3.bool_is | obtain rfl := r3.none_is | obtain rfl := r3.fn_is | cases r3); (first | obtain rfl := r2.nil_is | obtain rfl := r2.ref_is | obtain ⟨_, rfl⟩ := r2.int_is | obtain ⟨_, rfl, _⟩ := r2.str_is | obtain rfl := r2.bool_is | obtain rfl := r2.none_is | obtain rfl := r2.fn_is | cases r2)
  obtain ⟨items, m, i1, i2⟩ := I.l.get e
  have hlen := i2.length
  rw [Array.length_toList] at hlen
  refine insert_at i1 (Int.natCast_nonneg i) (by rw [hlen]; exact Int.ofNat_le.mpr hi) (by rw [hlen]; exact hl) fun h' k hn hs => ?_
  rw [Int.toNat_natCast] at hn
  have z := I.setList e (l' := l.take i ++ x :: l.drop i) hn hs (by
    have e3 : ((items.extract 0 i).push u ++ items.extract i).toList = items.toList.take i ++ u :: items.toList.drop i := by simp [List.take_of_length_le]
    rw [e3]
    exact (take_reps i i2).append (.cons r4 (drop_reps i i2)))
  exact q _ _ _ _ τ h z.1 .none z.2
theorem wc_lower {x : PySem.Str} {Φ : PV → PH → Prop} (hfit : Builtin.Str.tooLong (Txt.lower x).length = false) (h : Φ (.str (Txt.lower x)) H) : WC w hb os n H (.builtin "str.lower") [.str x] [] Φ := fun A s τ vs ks ak I r r2 Q q => by
  obtain ⟨v, rfl, r1⟩ := r.one
  (first | obtain rfl := r1.nil_is | obtain rfl := r1.ref_is | obtain ⟨_, rfl⟩ := r1.int_is | obtain ⟨_, rfl, _⟩ := r1.str_is | obtain rfl := r1.bool_is | obtain rfl := r1.none_is | obtain rfl := r1.fn_is | cases r1); (first | obtain rfl := r2.nil_is | obtain rfl := r2.ref_is | obtain ⟨_, rfl⟩ := r2.int_is | obtain ⟨_, rfl, _⟩ := r2.str_is | obtain rfl := r2.bool_is | obtain rfl := r2.none_is | obtain rfl := r2.fn_is | cases r2)
  have z := I.str (Txt.lower x)
  exact SC.lower hfit (q _ H _ _ _ h z.1 z.2.1 z.2.2)
end
end Mine
end

-- part W14
set_option linter.all false
noncomputable section
namespace Mine
open PySem PySem.W PySem.Calls PyProof.Rows
set_option Elab.async false
set_option maxRecDepth 100000
section
variable {w : World} {hb : Heap} {os : OsState} {n : Nat} {env : Env} {ρ : Rho} {H : PH} {τ : Nat → PySem.Str}

mutual
/-- a value in sight as data -/
inductive PD (H : PH) : PV → PyData → Prop
  | int {i} : PD H (.int i) (.int i)
  | str {x} : PD H (.str x) (.str x)
  | tup {l ds} : PDs H l ds → PD H (.tup l) (.tuple ds)
  | ref {a l ds} : H a = some l → PDs H l ds → PD H (.ref a) (.list ds)
inductive PDs (H : PH) : List PV → List PyData → Prop
  | nil : PDs H [] []
  | cons {p d ps ds} : PD H p d → PDs H ps ds → PDs H (p :: ps) (d :: ds)
end
mutual
theorem PD.reads {s : Shared} (L : LRep hb H (vw s τ)) : ∀ {p : PV} {d : PyData} {v : Value}, PD H p d → VRep (vw s τ) v p → ∃ as, Reads s.heap v d as
  | _, _, _, .int, r => by (first | obtain rfl := r.nil_is | obtain rfl := r.ref_is | obtain ⟨_, rfl⟩ := r.int_is | obtain ⟨_, rfl, _⟩ := r.str_is | obtain rfl := r.bool_is | obtain rfl := r.none_is | obtain rfl := r.fn_is | cases r); exact ⟨_, .int _ _⟩
  | _, _, _, .str, r => by (first | obtain rfl := r.nil_is | obtain rfl := r.ref_is | obtain ⟨_, rfl⟩ := r.int_is | obtain ⟨_, rfl, _⟩ := r.str_is | obtain rfl := r.bool_is | obtain rfl := r.none_is | obtain rfl := r.fn_is | cases r); exact ⟨_, .str _ _⟩
  | _, _, _, .tup h, r => by
    cases r with | tup t1 t2 =>
    obtain ⟨as, ra⟩ := PDs.reads L h t2
    exact ⟨_, .tuple t1 rfl rfl ra⟩
  | _, _, _, .ref e h, r => by
    (first | obtain rfl := r.nil_is | obtain rfl := r.ref_is | obtain ⟨_, rfl⟩ := r.int_is | obtain ⟨_, rfl, _⟩ := r.str_is | obtain rfl := r.bool_is | obtain rfl := r.none_is | obtain rfl := r.fn_is | cases r)
    obtain ⟨items, m, i1, i2⟩ := L.get e
    obtain ⟨as, ra⟩ := PDs.reads L h i2
    exact ⟨_, .list i1 rfl rfl ra⟩
theorem PDs.reads {s : Shared} (L : LRep hb H (vw s τ)) : ∀ {ps : List PV} {ds : List PyData} {vs : List Value}, PDs H ps ds → VReps (vw s τ) vs ps → ∃ as, ReadsAll s.heap vs ds as
  | _, _, _, .nil, r => by (first | obtain rfl := r.nil_is | obtain rfl := r.ref_is | obtain ⟨_, rfl⟩ := r.int_is | obtain ⟨_, rfl, _⟩ := r.str_is | obtain rfl := r.bool_is | obtain rfl := r.none_is | obtain rfl := r.fn_is | cases r); exact ⟨_, .nil⟩
  | _, _, _, .cons h1 h2, r => by
    cases r with | cons r1 r2 =>
    obtain ⟨as, ra⟩ := PD.reads L h1 r1
    obtain ⟨bs, rb⟩ := PDs.reads L h2 r2
    exact ⟨_, .cons ra rb⟩
end
theorem PDs.map {α : Type} {f : α → PV} {g : α → PyData} (h : ∀ x, PD H (f x) (g x)) : ∀ l : List α, PDs H (l.map f) (l.map g)
  | [] => .nil
  | x :: l => .cons (h x) (PDs.map h l)
theorem AOk.big {A : Around} (h : AOk (n + 1) A) : A.units + 64 < cLine := by have := h.2.2; omega
/-- deep comparisons -/
theorem eq_data {op : CmpOp} {p q : PV} {d e : PyData} {Φ : PV → PH → Prop} (hop : op = .Eq ∨ op = .NotEq) (hd : PD H p d) (he : PD H q e) (sd : PySem.SeqAt.shaped d = true) (se : PySem.SeqAt.shaped e = true)
    (h : Φ (.bool (if op = .Eq then PyData.eqv d e else !PyData.eqv d e)) H) : WO w hb os (n + 1) H [p, q] (two (compareOp op)) Φ := fun A s τ vs ak I r Q k => by
  obtain ⟨v1, v2, rfl, r1, r2⟩ := r.two
  show wpAny _ A (compareOp op v1 v2) Q noE s
  obtain ⟨as, ra⟩ := PD.reads I.l hd r1
  obtain ⟨bs, rb⟩ := PD.reads I.l he r2
  rcases hop with rfl | rfl
  · exact eq_dataH ra rb sd se ak.big (k _ H _ _ τ h I .bool Evo.refl)
  · exact ne_dataH ra rb sd se ak.big (k _ H _ _ τ h I .bool Evo.refl)
noncomputable def isInt (i : Int) : Value → Bool
  | .int j _ => j == i
  | _ => false
theorem ints_any' (i : Int) : ∀ xs : List (Int × Tok), (xs.map (fun p => Value.int p.1 p.2)).any (isInt i) = decide (i ∈ xs.map (·.1))
  | [] => rfl
  | x :: xs => by
    rw [List.map_cons, List.any_cons, List.map_cons, ints_any' i xs]
    by_cases h : x.1 = i
    · simp [isInt, h]
    · have h2 : (x.1 == i) = false := by simpa using h
      have h3 : (i == x.1) = false := by simpa using Ne.symm h
      simp [isInt, h2, h3, Ne.symm h]
theorem ints_any {h : Vw} {items : Array Value} {ns : List Int} (r : VReps h items.toList (ns.map .int)) (i : Int) : items.any (isInt i) = decide (i ∈ ns) := by
  obtain ⟨xs, h1, h2⟩ := ints_of r
  rw [← Array.any_toList, h1, ← h2]
  exact ints_any' i xs
/-- an int within a list of ints -/
theorem in_ints {op : CmpOp} {i : Int} {a : Addr} {ns : List Int} {Φ : PV → PH → Prop} (hop : op = .In ∨ op = .NotIn) (e : H a = some (ns.map .int))
    (h : Φ (.bool (if op = .In then decide (i ∈ ns) else !decide (i ∈ ns))) H) : WO w hb os n H [.int i, .ref a] (two (compareOp op)) Φ := fun A s τ vs ak I r Q k => by
  obtain ⟨v1, v2, rfl, r1, r2⟩ := r.two
  show wpAny _ A (compareOp op v1 v2) Q noE s
  (first | obtain rfl := r1.nil_is | obtain rfl := r1.ref_is | obtain ⟨_, rfl⟩ := r1.int_is | obtain ⟨_, rfl, _⟩ := r1.str_is | obtain rfl := r1.bool_is | obtain rfl := r1.none_is | obtain rfl := r1.fn_is | cases r1); (first | obtain rfl := r2.nil_is | obtain rfl := r2.ref_is | obtain ⟨_, rfl⟩ := r2.int_is | obtain ⟨_, rfl, _⟩ := r2.str_is | obtain rfl := r2.bool_is | obtain rfl := r2.none_is | obtain rfl := r2.fn_is | cases r2)
  rename_i t
  obtain ⟨items, m, i1, i2⟩ := I.l.get e
  have he : ∀ y, y ∈ items → PySem.SeqAt.EqAt A.in1 s y (.int i t) (isInt i y) := fun y hy => by
    obtain ⟨xs, h1, h2⟩ := ints_of i2
    have : y ∈ items.toList := by simpa using hy
    rw [h1] at this
    obtain ⟨x, _, rfl⟩ := List.mem_map.mp this
    exact (PySem.MeetsSeq.EqGives.int x.1 i x.2 t).at _ _
  have fin := ints_any i2 i
  rcases hop with rfl | rfl
  · refine PySem.SeqAt.in_listAt (isInt i) i1.isList he ?_
    rw [fin]; exact k _ H _ _ τ h I .bool Evo.refl
  · refine PySem.SeqAt.notIn_listAt (isInt i) i1.isList he ?_
    rw [fin]; exact k _ H _ _ τ h I .bool Evo.refl
end
end Mine
end

-- part W15
set_option linter.all false
noncomputable section
namespace Mine
open PySem PySem.W PySem.Calls PyProof.Rows
set_option Elab.async false
set_option maxRecDepth 100000
section
open PySem.AutoSeq1 (wpAny_loadPart')
open PySem.SeqAt PySem.MeetsSeq PySem.MeetsSeq2 PySem.MeetsSeq3 PySem.SeqRoads2
noncomputable def lexLt : List PySem.Str → List PySem.Str → Bool
  | [], [] => false
  | [], _ :: _ => true
  | _ :: _, [] => false
  | x :: xs, y :: ys => if x == y then lexLt xs ys else decide (x.cps.toList < y.cps.toList)
noncomputable def StrsAt (items : Array Value) (xs : List PySem.Str) : Prop := items.size = xs.length ∧ ∀ (i : Nat) (h : i < xs.length), ∃ t, items[i]? = some (.str xs[i] t)
set_option maxHeartbeats 4000000 in
theorem lt_loopAt (l b : Addr) (items items2 : Array Value) (n n2 : Nat) (xs ys : List PySem.Str) (h1 : StrsAt items xs) (h2 : StrsAt items2 ys) (k : Nat) :
    ∀ i : Nat, i ≤ xs.length → i ≤ ys.length → items.size - i = k → Meets (Builtin.«list.__eq__.loop» ⟨[.ref l, .ref b, rawInt i, rawInt 0], []⟩)
      (fun A R s => s.heap.get? l = some { cls := .type "list", dict := Option.none, data := .seq items n, slots := #[] } ∧ s.heap.get? b = some { cls := .type "list", dict := Option.none, data := .seq items2 n2, slots := #[] } ∧
        R (.ok (.ret (.bool (lexLt (xs.drop i) (ys.drop i))))) s) := by
  induction k with
  | zero =>
    intro i hi1 hi2 hk prog w A R s h
    obtain ⟨hp, g, d, tk, os⟩ := s; obtain ⟨hl, hb, h⟩ := h
    wp_walk using wpAny_loadPart' hl, wpAny_loadPart' hb
    have e1 : items[((i : Nat) : Int).toNat]? = none := by simp; have := h1.1; omega
    have ei : i = xs.length := by have := h1.1; omega
    have hd : xs.drop i = [] := by simp; omega
    rw [hd] at h
    rw [e1]
    wp_walk using wpAny_loadPart' hl, wpAny_loadPart' hb
    cases hy : ys.drop i with
    | nil =>
      rw [hy] at h
      have : ys.length ≤ i := List.drop_eq_nil_iff.mp hy
      have e3 : decide (items.size < items2.size) = false := by have := h1.1; have := h2.1; exact decide_eq_false (by omega)
      show R (.ok (.ret (.bool (decide (items.size < items2.size))))) _
      rw [e3]; exact h
    | cons z zs =>
      rw [hy] at h
      have : i < ys.length := by
        rcases Nat.lt_or_ge i ys.length with h' | h'
        · exact h'
        · rw [List.drop_eq_nil_of_le h'] at hy; cases hy
      have e3 : decide (items.size < items2.size) = true := by have := h1.1; have := h2.1; exact decide_eq_true (by omega)
      show R (.ok (.ret (.bool (decide (items.size < items2.size))))) _
      rw [e3]; exact h
  | succ k ih =>
    intro i hi1 hi2 hk prog w A R s h
    obtain ⟨hp, g, d, tk, os⟩ := s; obtain ⟨hl, hb, h⟩ := h
    wp_walk using wpAny_loadPart' hl, wpAny_loadPart' hb
    have hlt : i < xs.length := by have := h1.1; omega
    obtain ⟨t, ht⟩ := h1.2 i hlt
    have e1 : items[((i : Nat) : Int).toNat]? = some (.str xs[i] t) := by rw [Int.toNat_natCast]; exact ht
    have hd : xs.drop i = xs[i] :: xs.drop (i + 1) := List.drop_eq_getElem_cons hlt
    have hc : ((i : Int) + 1) = ((i + 1 : Nat) : Int) := by push_cast; rfl
    rw [hd] at h
    rw [e1]
    by_cases hlt2 : i < ys.length
    · obtain ⟨u, hu⟩ := h2.2 i hlt2
      have e2 : items2[((i : Nat) : Int).toNat]? = some (.str ys[i] u) := by rw [Int.toNat_natCast]; exact hu
      have hd2 : ys.drop i = ys[i] :: ys.drop (i + 1) := List.drop_eq_getElem_cons hlt2
      rw [hd2] at h
      rw [e2]
      refine wpAny_bind (eqBool_str ?_)
      cases hb' : xs[i] == ys[i] with
      | true =>
        rw [lexLt, hb', if_pos rfl] at h
        wp_walk
        rw [hc]
        exact ⟨plainId_quiet plain_eq_loop _, codeAny_builtin entry_eq_loop (by
          rw [Around.under_plainId plain_eq_loop _]
          exact ih (i + 1) (by omega) (by omega) (by have := h1.1; omega) prog w A R _ ⟨hl, hb, h⟩)⟩
      | false =>
        rw [lexLt, hb', if_neg Bool.false_ne_true] at h
        wp_walk using wpAny_loadPart' hl, wpAny_loadPart' hb
        rw [e1, e2]
        show wpAny _ _ (richCompare .Lt (.str xs[i] t) (.str ys[i] u) >>= fun v => ret v) _ _ _
        refine wpAny_bind ?_
        show wpAny _ _ (compareOp .Lt (.str xs[i] t) (.str ys[i] u)) _ _ _
        exact PyProof.Rows.lt_str (wpAny_pure h)
    · have e2 : items2[((i : Nat) : Int).toNat]? = none := by rw [Int.toNat_natCast]; have := h2.1; exact Array.getElem?_eq_none (by omega)
      have hd2 : ys.drop i = [] := by simp; omega
      rw [hd2] at h
      rw [e2]
      wp_walk using wpAny_loadPart' hl, wpAny_loadPart' hb
      have e3 : decide (items.size < items2.size) = false := by have := h1.1; have := h2.1; exact decide_eq_false (by omega)
      show R (.ok (.ret (.bool (decide (items.size < items2.size))))) _
      rw [e3]; exact h
theorem list_ltAt (l b : Addr) (items items2 : Array Value) (n n2 : Nat) (xs ys : List PySem.Str) (h1 : StrsAt items xs) (h2 : StrsAt items2 ys) :
    Meets (Builtin.«list.__lt__» ⟨[.ref l, .ref b], []⟩)
      (fun A R s => s.heap.get? l = some { cls := .type "list", dict := Option.none, data := .seq items n, slots := #[] } ∧ s.heap.get? b = some { cls := .type "list", dict := Option.none, data := .seq items2 n2, slots := #[] } ∧
        R (.ok (.ret (.bool (lexLt xs ys)))) s) := by
  intro prog w A R s h
  obtain ⟨hp, g, d, tk, os⟩ := s; obtain ⟨hl, hb, h⟩ := h
  have f3 := AutoSeq1.sub_list_list
  wp_walk using wpAny_loadPart' hl, wpAny_loadPart' hb
  exact ⟨plainId_quiet plain_eq_loop _, codeAny_builtin entry_eq_loop (by
    rw [Around.under_plainId plain_eq_loop _]
    exact lt_loopAt l b items items2 n n2 xs ys h1 h2 _ 0 (Nat.zero_le _) (Nat.zero_le _) rfl prog w A R _ ⟨hl, hb, h⟩)⟩
end
section
variable {w : World} {hb : Heap} {os : OsState} {n : Nat} {env : Env} {ρ : Rho} {H : PH} {τ : Nat → PySem.Str}
theorem strs_of {h : Vw} : ∀ {vs : List Value} {xs : List PySem.Str}, VReps h vs (xs.map .str) → vs.length = xs.length ∧ ∀ (i : Nat) (hi : i < xs.length), ∃ t, vs[i]? = some (.str xs[i] t)
  | _, [], r => by (first | obtain rfl := r.nil_is | obtain rfl := r.ref_is | obtain ⟨_, rfl⟩ := r.int_is | obtain ⟨_, rfl, _⟩ := r.str_is | obtain rfl := r.bool_is | obtain rfl := r.none_is | obtain rfl := r.fn_is | cases r); exact ⟨rfl, fun i hi => (Nat.not_lt_zero i hi).elim⟩
  | _, x :: xs, r => by
    cases r with
    | cons r1 r =>
      obtain ⟨t, rfl, _⟩ := r1.str_is
      obtain ⟨h1, h2⟩ := strs_of r
      refine ⟨by rw [List.length_cons, List.length_cons, h1], fun i hi => ?_⟩
      cases i with
      | zero => exact ⟨_, rfl⟩
      | succ i => exact h2 i (Nat.lt_of_succ_lt_succ hi)
theorem strsAt_of {h : Vw} {items : Array Value} {xs : List PySem.Str} (r : VReps h items.toList (xs.map .str)) : StrsAt items xs := by
  obtain ⟨h1, h2⟩ := strs_of r
  refine ⟨by rw [← Array.length_toList]; exact h1, fun i hi => ?_⟩
  obtain ⟨t, ht⟩ := h2 i hi
  exact ⟨t, by simpa using ht⟩
/-- lists of texts in order -/
theorem lt_strs {a b : Addr} {xs ys : List PySem.Str} {Φ : PV → PH → Prop} (e1 : H a = some (xs.map .str)) (e2 : H b = some (ys.map .str)) (h : Φ (.bool (lexLt xs ys)) H) : WO w hb os n H [.ref a, .ref b] (two (compareOp .Lt)) Φ := fun A s τ vs ak I r Q k => by
  obtain ⟨v1, v2, rfl, r1, r2⟩ := r.two
  show wpAny _ A (compareOp .Lt v1 v2) Q noE s
  (first | obtain rfl := r1.nil_is | obtain rfl := r1.ref_is | obtain ⟨_, rfl⟩ := r1.int_is | obtain ⟨_, rfl, _⟩ := r1.str_is | obtain rfl := r1.bool_is | obtain rfl := r1.none_is | obtain rfl := r1.fn_is | cases r1); (first | obtain rfl := r2.nil_is | obtain rfl := r2.ref_is | obtain ⟨_, rfl⟩ := r2.int_is | obtain ⟨_, rfl, _⟩ := r2.str_is | obtain rfl := r2.bool_is | obtain rfl := r2.none_is | obtain rfl := r2.fn_is | cases r2)
  obtain ⟨items, m, i1, i2⟩ := I.l.get e1
  obtain ⟨items2, m2, j1, j2⟩ := I.l.get e2
  show wpAny _ A (richCompare .Lt (.ref a) (.ref b)) Q noE s
  exact richCompare_meets_room (op := .Lt) ⟨_, i1, rfl⟩ ⟨_, j1, rfl⟩ F.slot_list_lt F.entry_list_lt (F.args_list_lt_2 _ _) (list_ltAt a b items items2 m m2 xs ys (strsAt_of i2) (strsAt_of j2))
    ⟨i1, j1, (fun x => nomatch x), k _ H _ _ τ h I .bool Evo.refl⟩ ak.units
end
end Mine
end

-- part W16
set_option linter.all false
noncomputable section
namespace Mine
open PySem PySem.W PySem.Calls PyProof.Rows
set_option Elab.async false
set_option maxRecDepth 100000
section
variable {w : World} {hb : Heap} {os : OsState} {n : Nat} {env : Env} {ρ : Rho} {H : PH} {τ : Nat → PySem.Str}

theorem repeated_reps {h : Vw} {items : Array Value} {l : List PV} (r : VReps h items.toList l) : ∀ (k : Nat) (acc : Array Value) (m : List PV), VReps h acc.toList m → VReps h (List.foldl (fun x1 x2 => x1 ++ x2) acc (List.replicate k items)).toList (m ++ (List.replicate k l).flatten)
  | 0, acc, m, ra => by simpa using ra
  | k + 1, acc, m, ra => by
    rw [List.replicate_succ, List.foldl_cons, List.replicate_succ, List.flatten_cons, ← List.append_assoc]
    exact repeated_reps r k (acc ++ items) (m ++ l) (by rw [Array.toList_append]; exact ra.append r)
/-- a list times an int -/
theorem mul_listR {a : Addr} {l : List PV} {k : Nat} {Φ : PV → PH → Prop} (e : H a = some l) (hk : k ≤ 64) (hl : l.length ≤ 2 ^ 16) (h : ∀ c, H c = Option.none → Φ (.ref c) (H.set c (List.replicate k l).flatten)) : WO w hb os n H [.ref a, .int k] (two (binaryOp .Mult)) Φ := fun A s τ vs ak I r Q q => by
  obtain ⟨v1, v2, rfl, r1, r2⟩ := r.two
  show wpAny _ A (binaryOp .Mult v1 v2) Q noE s
  (first | obtain rfl := r1.nil_is | obtain rfl := r1.ref_is | obtain ⟨_, rfl⟩ := r1.int_is | obtain ⟨_, rfl, _⟩ := r1.str_is | obtain rfl := r1.bool_is | obtain rfl := r1.none_is | obtain rfl := r1.fn_is | cases r1); (first | obtain rfl := r2.nil_is | obtain rfl := r2.ref_is | obtain ⟨_, rfl⟩ := r2.int_is | obtain ⟨_, rfl, _⟩ := r2.str_is | obtain rfl := r2.bool_is | obtain rfl := r2.none_is | obtain rfl := r2.fn_is | cases r2)
  rename_i u
  obtain ⟨items, m, i1, i2⟩ := I.l.get e
  have hlen := i2.length
  rw [Array.length_toList] at hlen
  have hsz : items.size * ((k : Int)).toNat ≤ 2 ^ 24 := by
    rw [hlen, Int.toNat_natCast]
    exact Nat.le_trans (Nat.mul_le_mul hl hk) (by decide)
  have hx : ∀ x : Int, x = k → wpAny (model pw w) A (binaryOp .Mult (.ref a) (.int x u)) Q noE s := fun x hxk => by
    have hlo : 0 ≤ x := by omega
    have hhi : x ≤ 64 := by omega
    have hsz' : items.size * x.toNat ≤ 2 ^ 24 := by rw [hxk]; exact hsz
    refine wpAny_binaryOp_repeat_ref (T := "list") (U := "int") (by decide) ⟨_, i1, rfl⟩ (fun s' => typeIs_int s' x u) noFill_list_mul F.fills_int_mul F.slot_int_rmul repeat_list F.slot_int_index.lookup
      (call_meets F.slot_int_rmul (typeIs_int s x u) F.entry_int_rmul (F.args_int_rmul_2 _ _) (int___rmul___int_list x u a items m)
        ⟨i1, rfl, ⟨_, i1, rfl⟩, call_meets F.slot_list_mul ⟨_, i1, rfl⟩ F.entry_list_mul (F.args_list_mul_2 _ _)
          (AutoListH.list___mul___list_int_3 a items m x u (by simp [Builtin.List.listFitsIndex]; omega) (by omega) (by simp [Builtin.List.listTooLong, sizeLine]; omega))
          ⟨i1, ?_⟩⟩)
    have z := I.list (items := List.foldl (fun x1 x2 => x1 ++ x2) #[] (List.replicate (if items.isEmpty = true then 0 else x.toNat) items)) (l := (List.replicate k l).flatten) (by
      have hxn : x.toNat = k := by omega
      rw [hxn]
      by_cases he : items.isEmpty = true
      · rw [if_pos he]
        have : items.size = 0 := by simpa using he
        have : l = [] := List.eq_nil_of_length_eq_zero (by omega)
        subst this
        simp
        exact .nil
      · rw [if_neg he]
        have := repeated_reps i2 k #[] [] .nil
        simpa using this)
    exact q _ _ _ _ τ (h _ z.1) z.2.1 .ref z.2.2
  exact hx _ rfl
theorem we_neg {x : Expr} {pos : Pos} {Φ : PV → PH → Prop} (h : WT w hb os n env ρ H (eval x env) fun p H1 => ∃ i, p = .int i ∧ Φ (.int (-i)) H1) : WT w hb os n env ρ H (eval (.UnaryOp .USub x pos) env) Φ := fun A s τ a I Q q =>
  wpAny_UnaryOp (h A s τ a I _ fun p H1 v s1 τ1 ⟨i, e, f⟩ J r y => by
    subst e; (first | obtain rfl := r.nil_is | obtain rfl := r.ref_is | obtain ⟨_, rfl⟩ := r.int_is | obtain ⟨_, rfl, _⟩ := r.str_is | obtain rfl := r.bool_is | obtain rfl := r.none_is | obtain rfl := r.fn_is | cases r)
    have z := J.to0.int1
    exact PyProof.Rows.neg_int (q _ _ _ _ τ1 f (J.back z.1 z.2) .int (y.trans z.2)))
theorem we_if {test body orelse : Expr} {pos : Pos} {Φ : PV → PH → Prop} (h : WB w hb os n env ρ H (isTrue test env (eval test env)) fun b H1 => if b = true then WT w hb os n env ρ H1 (eval body env) Φ else WT w hb os n env ρ H1 (eval orelse env) Φ) :
    WT w hb os n env ρ H (eval (.IfExp test body orelse pos) env) Φ := fun A s τ a I Q q =>
  wpAny_IfExp (h A s τ a I _ fun b H1 s1 τ1 f J x => by
    cases b with
    | true => exact (f : WT w hb os n env ρ H1 (eval body env) Φ) A s1 τ1 a J Q fun p H2 v s2 τ2 g J2 r y => q p H2 v s2 τ2 g J2 r (x.trans y)
    | false => exact (f : WT w hb os n env ρ H1 (eval orelse env) Φ) A s1 τ1 a J Q fun p H2 v s2 τ2 g J2 r y => q p H2 v s2 τ2 g J2 r (x.trans y))
/-- an int added to a local's -/
theorem wf_aug {x : PySem.Str} {pos' pos : Pos} {value : Expr} {i : Int} {Φ : Out → Rho → PH → Prop} (he : EnvOk env) (hx : env.kindOf x = some .local) (hv : ρ x = some (.int i))
    (h : WT w hb os n env ρ H (eval value env) fun p H1 => ∃ j, p = .int j ∧ Φ .next (ρ.set x (.int (i + j))) H1) (hd : (x == ("__debug__" : PySem.Str)) = false := by decide) : WF w hb os n env ρ H (exec (.AugAssign (.Name x pos') .Add value pos) env) Φ := fun A s τ a I Q q => by
  obtain ⟨m, hn, hm⟩ := I.f.ns
  obtain ⟨v, e, r⟩ := hm x _ hx hv
  (first | obtain rfl := r.nil_is | obtain rfl := r.ref_is | obtain ⟨_, rfl⟩ := r.int_is | obtain ⟨_, rfl, _⟩ := r.str_is | obtain rfl := r.bool_is | obtain rfl := r.none_is | obtain rfl := r.fn_is | cases r)
  refine wpAny_AugAssign_Name (wpAny_loadName_local he.kind hx hn e (h A s τ a I _ fun p H1 u s1 τ1 ⟨j, e1, f⟩ J r1 y => ?_))
  subst e1; (first | obtain rfl := r1.nil_is | obtain rfl := r1.ref_is | obtain ⟨_, rfl⟩ := r1.int_is | obtain ⟨_, rfl, _⟩ := r1.str_is | obtain rfl := r1.bool_is | obtain rfl := r1.none_is | obtain rfl := r1.fn_is | cases r1)
  have z := J.to0.int1
  refine PyProof.Rows.iadd_int ?_
  exact ws_name (w := w) (hb := hb) (os := os) (n := n) (X := own env) (Φ := fun ρ' H' => Φ .next ρ' H') he (.inl ⟨hx, List.mem_cons_self⟩) f A _ τ1 [_] a (J.back z.1 z.2) (.cons .int .nil) _ fun ρ' H' s2 τ2 g J2 y2 => q _ _ _ _ _ τ2 g J2 .next ((y.trans z.2).own.trans y2)
theorem wf_two {x y : PySem.Str} {px py tpos pos : Pos} {k : Nat} {value : Expr} {Φ : Out → Rho → PH → Prop} (he : EnvOk env) (hx : CanStore env x) (hy : CanStore env y)
    (h : WT w hb os n env ρ H (eval value env) fun p H1 => ∃ a b, p = .tup [a, b] ∧ Φ .next ((ρ.set x a).set y b) H1)
    (hs : swapsWithSole [.Tuple [.Name x px, .Name y py] k tpos] value pos.line env = pure false := by rfl) (hw : swappedStores [.Tuple [.Name x px, .Name y py] k tpos] value env = pure none := by rfl) :
    WF w hb os n env ρ H (exec (.Assign [.Tuple [.Name x px, .Name y py] k tpos] value pos) env) Φ := fun A s τ a I Q q =>
  Assign_Tuple (h A s τ a I _ fun p H1 v s1 τ1 ⟨p1, p2, e, f⟩ J r z => by
    subst e
    exact wa_two (w := w) (hb := hb) (os := os) (n := n) (X := own env) (px := px) (py := py) (pos := tpos) (k := k) (ρ := ρ) (Φ := fun ρ' H' => Φ .next ρ' H') he (fun _ m => m) hx.x hy.x f A s1 τ1 [v] a J (.cons r .nil) _ fun ρ' H' s2 τ2 g J2 z2 => q _ _ _ _ _ τ2 g J2 .next (z.own.trans z2)) hs hw
theorem wf_two_swapped {x y : PySem.Str} {px py tpos pos : Pos} {k : Nat} {value : Expr} {Φ : Out → Rho → PH → Prop} (he : EnvOk env) (hx : env.kindOf x = some .local) (hy : env.kindOf y = some .local)
    (h : WT w hb os n env ρ H (eval value env) fun p H1 => ∃ a b, p = .tup [a, b] ∧ Φ .next ((ρ.set y b).set x a) H1)
    (hs : swapsWithSole [.Tuple [.Name x px, .Name y py] k tpos] value pos.line env = pure false := by rfl) (hw : swappedStores [.Tuple [.Name x px, .Name y py] k tpos] value env = pure (some [x, y]) := by rfl) :
    WF w hb os n env ρ H (exec (.Assign [.Tuple [.Name x px, .Name y py] k tpos] value pos) env) Φ := fun A s τ a I Q q => by
  refine Assign_Tuple_swapped (names := [x, y]) (h A s τ a I _ fun p H1 v s1 τ1 ⟨p1, p2, e, f⟩ J r z => ?_) hs hw
  subst e
  cases r with | tup t1 t2 =>
  rename_i ad items m
  obtain ⟨v1, v2, e12, r1, r2⟩ := t2.two
  have hsz : items.size = 2 := by rw [← Array.length_toList, e12]; rfl
  have ht : IsTup s1.heap ad items := ⟨_, t1, rfl, m, rfl⟩
  show wpAny _ A (unpackItems (.ref ad) 2 none) _ noE s1
  rw [← hsz]
  refine unpackItems_tuple a.1 ht fun h' he' => ?_
  have hne := nextNew s1.heap
  have z1 := J.side (W := [s1.heap.objs.size]) (aside_none J.to0 (fun b m => by rw [List.mem_singleton.mp m]; exact hne)) (fun b m => by rw [List.mem_singleton.mp m]; exact J.own_live hne) (h' := h') (fun b o m e => he' b o (fun e' => m (by simp [e'])) e) (Nat.le_refl s1.toks) (fun t _ => (rfl : τ1 t = τ1 t))
  have j : Evo (own env) H1 (vw s1 τ1) H1 ⟨h', s1.toks, τ1⟩ := Evo.join .refl (W := [s1.heap.objs.size]) (fun b m => by rw [List.mem_singleton.mp m]; exact hne) (fun b o m e => he' b o (fun e' => m (by simp [e'])) e) (Nat.le_refl _) (fun _ _ => rfl)
  rw [e12]
  show wpAny _ A (do holding [v1] (bindName env y v2); holding [] (bindName env x v1); pure ()) _ noE _
  refine wpAny_bind (wpAny_holding (wpAny_bindName (ws_name (w := w) (hb := hb) (os := os) (n := n) (X := own env) (ρ := ρ) (H := H1) (Φ := fun ρ' H' => ρ' = ρ.set y p2 ∧ H' = H1) he (.inl ⟨hy, List.mem_cons_self⟩) ⟨rfl, rfl⟩ A _ τ1 [v2] a z1.1 (.cons (r2.imm z1.2) .nil) _ fun ρ' H' s2 τ2 ⟨e1, e2⟩ J2 x2 => ?_)))
  subst e1 e2
  exact wpAny_bind (wpAny_holding (wpAny_bindName (ws_name (w := w) (hb := hb) (os := os) (n := n) (X := own env) (Φ := fun ρ' H' => Φ .next ρ' H') he (.inl ⟨hx, List.mem_cons_self⟩) f A _ τ2 [v1] a J2 (.cons ((r1.imm z1.2).imm (x2.imm z1.1.f z1.1.l)) .nil) _ fun ρ' H' s3 τ3 g J3 x3 => wpAny_pure (q _ _ _ _ _ τ3 g J3 .next (((z.own.trans j).trans x2).trans x3)))))
/-- enumerate of a list, as what a loop walks -/
theorem wi_enum {f e : Expr} {pos : Pos} {Φ : Src → PH → Prop} (h : WT w hb os n env ρ H (eval f env) fun pf H0 => pf = .typ "enumerate" ∧ WT w hb os n env ρ H0 (eval e env) fun p H1 => ∃ a l, p = .ref a ∧ H1 a = some l ∧ ∀ I2, Φ (.enm a I2) H1)
    (he : eval (.Call f [e] [] pos) env = (do callWith pos (← eval f env) [] (backTo pos (starEach [e] env)) (backToKw pos (keywordEach [] env))) := by rfl)
    (ha : backTo pos (starEach [e] env) = [(false, eval e env)] := by rfl) : WI w hb os n env ρ H (.Call f [e] [] pos) Φ := fun A s τ ak I Q q => by
  rw [he]
  refine wpAny_bind (h A s τ ak I _ fun pf H0 vf s1 τ1 ⟨e1, g⟩ J r x => ?_)
  subst e1; (first | obtain rfl := r.nil_is | obtain rfl := r.ref_is | obtain ⟨_, rfl⟩ := r.int_is | obtain ⟨_, rfl, _⟩ := r.str_is | obtain rfl := r.bool_is | obtain rfl := r.none_is | obtain rfl := r.fn_is | cases r)
  show wpAny _ A (callWith pos (.type "enumerate") [] (backTo pos (starEach [e] env)) []) _ noE s1
  rw [ha]
  refine callWith_of (P := fun h => ∀ b o, hb.get? b = some o → h.get? b = some o) (by simp) (fun h k => callee_typ h k) ?_
  refine evalArgs_plain (Calls.spliced_cons (g A s1 τ1 ak J _ fun p H1 v s2 τ2 ⟨a, l, e2, e3, f⟩ J2 r y => Calls.spliced_nil ?_))
  subst e2; (first | obtain rfl := r.nil_is | obtain rfl := r.ref_is | obtain ⟨_, rfl⟩ := r.int_is | obtain ⟨_, rfl, _⟩ := r.str_is | obtain rfl := r.bool_is | obtain rfl := r.none_is | obtain rfl := r.fn_is | cases r)
  obtain ⟨items, m, i1, i2⟩ := J2.l.get e3
  refine ⟨J2.base, ?_⟩
  show wpAny _ A (PySem.call (.type "enumerate") [.ref a] []) _ noE s2
  refine call_enumerate_list i1.isList fun h' en it hz hk => ?_
  have z := J2.to0.grow hk (Nat.le_refl s2.toks) (fun t _ => (rfl : τ2 t = τ2 t))
  refine wpAny_pyIter_enum en ?_
  have hnone : ∀ b, s2.heap.get? b = Option.none → s.heap.get? b = Option.none := fun b e => by
    cases e' : s.heap.get? b with
    | none => rfl
    | some o => obtain ⟨o', e''⟩ := (x.trans y).live b o e'; exact nomatch e''.symm.trans e
  have n0 := nextNew s2.heap
  have n1 : s2.heap.get? (s2.heap.objs.size + 1) = Option.none := by
    cases e : s2.heap.get? (s2.heap.objs.size + 1) with
    | none => rfl
    | some o => exact (Nat.not_succ_lt_self (Heap.lt_size e)).elim
  refine q (.enm a s2.heap.objs.size) H1 _ _ τ2 (f _) (J2.back z.1 z.2) ⟨Nat.succ_ne_self _, ⟨_, en⟩, it⟩ (fun b hb => ?_) ((x.trans y).trans z.2)
  rcases List.mem_cons.mp hb with rfl | hb
  · exact hnone _ n1
  · rw [List.mem_singleton.mp hb]; exact hnone _ n0
end
end Mine
end

-- part W17
set_option linter.all false
noncomputable section
namespace Mine
open PySem PySem.W PySem.Calls PyProof.Rows
set_option Elab.async false
set_option maxRecDepth 100000

noncomputable def b3shape (e : DictEntry) : Bool := match e.key, e.val with | .int k _, .str _ _ => e.hash == k && hashInt k == k | _, _ => false
theorem b3shapes : b3main.all b3shape = true := by kernel_rfl
noncomputable def isKey (c : Int) (e : DictEntry) : Bool := match e.key with | .int k _ => k == c | _ => false
noncomputable def textOf (e : DictEntry) : Option PySem.Str := match e.val with | .str x _ => some x | _ => Option.none
/-- what the table B.3 holds of a sign -/
noncomputable def b3look (c : Int) : Option PySem.Str := (b3main.find? (isKey c)).bind textOf
section
variable {w : World} {hb : Heap} {os : OsState} {n : Nat} {env : Env} {ρ : Rho} {H : PH} {τ : Nat → PySem.Str}
theorem Base.b3 (B : Base w hb) : hb.get? 111 = some (dObj b3main 650) := B.K 111 _ (by rfl)
theorem Base.b1 (B : Base w hb) : hb.get? 100 = some (op13_100 w.params) := B.K 100 _ (by rfl)
theorem b3map {h : Heap} (e : h.get? 111 = some (dObj b3main 650)) : h.MapOf (intKind pw w) 111 (findBy (intKind pw w).is b3main.toArray) := by
  refine ⟨_, b3main.toArray, _, e, ⟨rfl, rfl, rfl⟩, rfl, fun e he => ?_, fun _ => rfl⟩
  have hm : e ∈ b3main := by simpa using he
  have := List.all_eq_true.mp b3shapes e hm
  obtain ⟨hh, k, v⟩ := e
  unfold b3shape at this
  dsimp only at this
  split at this
  · simp only [Bool.and_eq_true, beq_iff_eq] at this
    obtain ⟨h1, h2⟩ := this
    rename_i k' t _ _ 
    exact ⟨k', intKind_is pw w k' t, by show hh = hashInt k'; rw [h1, h2]⟩
  · cases this
theorem b3find (c : Int) : (findBy (intKind pw w).is b3main.toArray c) = (b3main.find? (isKey c)).map (·.val) := by
  unfold findBy
  rw [List.find?_toArray]
  congr 2
  funext e
  obtain ⟨hh, k, v⟩ := e
  show k.isInt c = isKey c ⟨hh, k, v⟩
  cases k <;> rfl
/-- the table B.3 is asked -/
theorem wc_b3 {c : Int} {Φ : PV → PH → Prop} (B : Base w hb) (h : Φ (match b3look c with | some x => .str x | Option.none => .none) H) : WC w hb os n H (.builtin "dict.get") [.ref 111, .int c] [] Φ := fun A s τ vs ks ak I r r2 Q q => by
  obtain ⟨v, u, rfl, r1, r3⟩ := r.two
  (first | obtain rfl := r1.nil_is | obtain rfl := r1.ref_is | obtain ⟨_, rfl⟩ := r1.int_is | obtain ⟨_, rfl, _⟩ := r1.str_is | obtain rfl := r1.bool_is | obtain rfl := r1.none_is | obtain rfl := r1.fn_is | cases r1); (first | obtain rfl := r3.nil_is | obtain rfl := r3.ref_is | obtain ⟨_, rfl⟩ := r3.int_is | obtain ⟨_, rfl, _⟩ := r3.str_is | obtain rfl := r3.bool_is | obtain rfl := r3.none_is | obtain rfl := r3.fn_is | cases r3); (first | obtain rfl := r2.nil_is | obtain rfl := r2.ref_is | obtain ⟨_, rfl⟩ := r2.int_is | obtain ⟨_, rfl, _⟩ := r2.str_is | obtain rfl := r2.bool_is | obtain rfl := r2.none_is | obtain rfl := r2.fn_is | cases r2)
  rename_i t
  have hm := b3map (w := w) (I.base _ _ B.b3)
  have z := I.int1
  refine call_meetsIn F.slot_dict_get hm.typeIs F.entry_dict_get (F.args_dict_get_2 _ _) (meets_dict_get (intKind pw w) 111 (intKind_is pw w c t) (by rfl)) ⟨_, hm, ?_⟩
  rw [b3find]
  unfold b3look at h
  cases e : b3main.find? (isKey c) with
  | none =>
    rw [e] at h
    exact q _ H _ _ τ h z.1 .none z.2
  | some en =>
    rw [e] at h
    have hmem := List.mem_of_find?_eq_some e
    have sh := List.all_eq_true.mp b3shapes en hmem
    obtain ⟨hh, k, v⟩ := en
    unfold b3shape at sh
    dsimp only at sh
    split at sh
    · rename_i x u
      have bt := I.pos.2 u x ⟨_, hmem, rfl⟩
      exact q _ H _ _ τ h z.1 (.str bt.1 (Nat.lt_succ_of_lt bt.2.1) bt.2.2) z.2
    · cases sh
noncomputable def b1es (P : Params) : List (Int × Value) := match (op13_100 P).data with | .set es _ _ => es.toList | _ => []
noncomputable def b1L : List Int := [65024, 65025, 65026, 65027, 65028, 65029, 6150, 65030, 65031, 65032, 65033, 6155, 6156, 6157, 8203, 8204, 8205, 65034, 65035, 65036, 65037, 65038, 65039, 173, 847, 8288, 65279]
/-- the table B.1 is asked -/
theorem in_b1 {c : Int} {Φ : PV → PH → Prop} (B : Base w hb) (h : Φ (.bool (decide (c ∈ b1L))) H) : WO w hb os n H [.int c, .fn 100] (two (compareOp .In)) Φ := fun A s τ vs ak I r Q k => by
  obtain ⟨v1, v2, rfl, r1, r2⟩ := r.two
  show wpAny _ A (compareOp .In v1 v2) Q noE s
  (first | obtain rfl := r1.nil_is | obtain rfl := r1.ref_is | obtain ⟨_, rfl⟩ := r1.int_is | obtain ⟨_, rfl, _⟩ := r1.str_is | obtain rfl := r1.bool_is | obtain rfl := r1.none_is | obtain rfl := r1.fn_is | cases r1); (first | obtain rfl := r2.nil_is | obtain rfl := r2.ref_is | obtain ⟨_, rfl⟩ := r2.int_is | obtain ⟨_, rfl, _⟩ := r2.str_is | obtain rfl := r2.bool_is | obtain rfl := r2.none_is | obtain rfl := r2.fn_is | cases r2)
  rename_i t
  have z := I.int1
  refine wpAny_inSet_of (knd := intKind pw w) (k := c) (S := fun c => decide (c ∈ b1L)) (n := 27) (intKind_is pw w c t) rfl ⟨_, _, _, _, I.base _ _ B.b1, ⟨rfl, rfl, rfl⟩, rfl, ?_, ?_, by decide, by rfl, by rfl⟩ (k _ H _ _ τ h z.1 .bool z.2)
  · have sh : (b1es w.params).all (fun e => match e.2 with | .int k _ => e.1 == hashInt k | _ => false) = true := by rfl
    intro e he
    have := List.all_eq_true.mp sh e he
    obtain ⟨h1, v⟩ := e
    dsimp only at this
    split at this
    · rename_i k' t'
      exact ⟨⟨k', intKind_is pw w k' t', beq_iff_eq.mp this⟩, rfl⟩
    · cases this
  · intro k
    have key : (b1es w.params).map (fun e => match e.2 with | .int k _ => some k | _ => Option.none) = b1L.map some := by rfl
    constructor
    · intro hk
      have hk : k ∈ b1L := of_decide_eq_true hk
      have : some k ∈ b1L.map some := List.mem_map.mpr ⟨k, hk, rfl⟩
      rw [← key] at this
      obtain ⟨e, he, hh⟩ := List.mem_map.mp this
      refine ⟨e, he, ?_⟩
      obtain ⟨h1, v⟩ := e
      dsimp only at hh
      split at hh
      · obtain rfl := Option.some.inj hh
        exact intKind_is pw w _ _
      · cases hh
    · rintro ⟨e, he, hh⟩
      have : (match e.2 with | .int k _ => some k | _ => Option.none) ∈ b1L.map some := by rw [← key]; exact List.mem_map.mpr ⟨e, he, rfl⟩
      obtain ⟨h1, v⟩ := e
      cases v <;> first | (exact nomatch (show (false : Bool) = true from hh)) | skip
      rename_i j t'
      have hj : j = k := by
        have : (j == k) = true := hh
        exact beq_iff_eq.mp this
      subst hj
      obtain ⟨j', hj', e2⟩ := List.mem_map.mp this
      obtain rfl := Option.some.inj e2
      exact decide_eq_true hj'
end
end Mine
end

-- part W18
set_option linter.all false
noncomputable section
namespace Mine
open PySem PySem.W PySem.Calls PyProof.Rows
set_option Elab.async false
set_option maxRecDepth 100000
section
variable {w : World} {hb : Heap} {os : OsState} {n : Nat} {env : Env} {ρ : Rho} {H : PH} {τ : Nat → PySem.Str}

theorem ints_reps (h : Vw) : ∀ xs : List (Int × Tok), VReps h (xs.map fun p => .int p.1 p.2) ((xs.map (·.1)).map .int)
  | [] => .nil
  | x :: xs => .cons .int (ints_reps h xs)
/-- a slice of a list of ints that was given -/
theorem we_slice_base {value : Expr} {lower upper step : Option Expr} {p pos : Pos} {Φ : PV → PH → Prop}
    (h : WT w hb os n env ρ H (eval value env) fun p H1 => WPart w hb os n env ρ H1 lower fun lo H2 => WPart w hb os n env ρ H2 upper fun hi H3 => WPart w hb os n env ρ H3 step fun st H4 =>
      st ≠ some 0 ∧ ∃ a xs, p = .ref a ∧ hb.IsList a (intItems xs) ∧ xs.size ≤ sizeLine ∧ ∀ c, H4 c = Option.none → Φ (.ref c) (H4.set c (pick ((xs.toList.map (·.1)).map .int) lo hi st)))
    (hs : ∃ f : Value → Value → List Value, ∀ o i, subscripted (.Slice lower upper step p) false o i = operate (f o i) (getItem o i) := by first | exact ⟨fun o i => [i, o], fun _ _ => rfl⟩ | exact ⟨fun o i => [o, i], fun _ _ => rfl⟩) :
    WT w hb os n env ρ H (eval (.Subscript value (.Slice lower upper step p) pos) env) Φ := fun A s τ a I Q q => by
  obtain ⟨fo, hs⟩ := hs
  refine Subscript_ (h A s τ a I _ fun p H1 v s1 τ1 f J r1 x => wpAny_Slice (wpart f a J fun lo H2 vl s2 τ2 f2 J2 pl y2 => wpart f2 a J2 fun hi H3 vh s3 τ3 f3 J3 ph y3 => wpart f3 a J3 fun st H4 vs s4 τ4 f4 J4 ps y4 => ?_))
  obtain ⟨h0, b, xs, rfl, hl, e2, g⟩ := f4
  (first | obtain rfl := r1.nil_is | obtain rfl := r1.ref_is | obtain ⟨_, rfl⟩ := r1.int_is | obtain ⟨_, rfl, _⟩ := r1.str_is | obtain rfl := r1.bool_is | obtain rfl := r1.none_is | obtain rfl := r1.fn_is | cases r1)
  have i1 : s4.heap.IsList b (intItems xs) := hl.at fun o e => J4.base _ _ e
  have i2 : VReps (vw s4 τ4) (intItems xs).toList ((xs.toList.map (·.1)).map .int) := by
    have : (intItems xs).toList = xs.toList.map fun p => .int p.1 p.2 := by unfold intItems; simp
    rw [this]; exact ints_reps _ _
  have grow : ∀ a o, s4.heap.get? a = some o → (s4.heap.push { cls := .type "slice", data := .fields #[vl, vh, vs] }).get? a = some o := fun a o e => Heap.get?_push_of_some _ e
  have z := J4.to0.grow grow (Nat.le_refl s4.toks) (fun t _ => rfl : ∀ t, t < s4.toks → τ4 t = τ4 t)
  have J5 := J4.back z.1 z.2
  obtain ⟨z1, z2, z3⟩ := z.1.list (items := slicePick (intItems xs) lo hi st) (l := pick ((xs.toList.map (·.1)).map .int) lo hi st) (pick_reps (i2.imm (J4.l.imm z.2)) lo hi st)
  have i3 : Heap.IsList (s4.heap.push { cls := .type "slice", data := .fields #[vl, vh, vs] }) b (intItems xs) := i1.at fun o e => grow _ _ e
  refine tail_any (T := "list") ?_ slot_list_getitem.lookup ?_ (hs _ _)
  · obtain ⟨o, ho, hc, _⟩ := i3; exact ⟨o, ho, hc⟩
  refine wpAny_getItem_list_slice i3 (Heap.IsSliceOf.new ..) pl ph ps h0 ?_ (by unfold intItems; rw [Array.size_map]; exact e2)
  exact q _ _ _ _ _ (g _ z1) (J5.back z2 z3) .ref (((((x.trans y2).trans y3).trans y4).trans z.2).trans z3)
end
end Mine
end

-- part W19
set_option linter.all false
noncomputable section
namespace Mine
open PySem PySem.W PySem.Calls PyProof.Rows
open Sem (wp)
set_option Elab.async false
set_option maxRecDepth 100000
namespace HA
theorem ty_list_gi : typeOf (.builtin "list.__getitem__") = pure (.type "method_descriptor") := by kernel_rfl
theorem ty_str_gi : typeOf (.builtin "str.__getitem__") = pure (.type "wrapper_descriptor") := by kernel_rfl
theorem slot_md_get : Slot "method_descriptor" "__get__" "method_descriptor.__get__" :=
  .of (owner := "method_descriptor") (n := "__get__") (by rw [typeLookup_type, builtinLookup_eq_fast]; kernel_rfl) (by decide +kernel) (by decide +kernel) (by decide +kernel)
    (by first | exact .inl (by decide +kernel) | exact .inr (by decide +kernel)) (by rw [isSubtype_type]; kernel_rfl)
theorem slot_wd_get : Slot "wrapper_descriptor" "__get__" "wrapper_descriptor.__get__" :=
  .of (owner := "wrapper_descriptor") (n := "__get__") (by rw [typeLookup_type, builtinLookup_eq_fast]; kernel_rfl) (by decide +kernel) (by decide +kernel) (by decide +kernel)
    (by first | exact .inl (by decide +kernel) | exact .inr (by decide +kernel)) (by rw [isSubtype_type]; kernel_rfl)
theorem no_md_set : typeLookup (.type "method_descriptor") "__set__" = pure none := by rw [typeLookup_type, builtinLookup_eq_fast]; kernel_rfl
theorem no_md_del : typeLookup (.type "method_descriptor") "__delete__" = pure none := by rw [typeLookup_type, builtinLookup_eq_fast]; kernel_rfl
theorem no_wd_set : typeLookup (.type "wrapper_descriptor") "__set__" = pure none := by rw [typeLookup_type, builtinLookup_eq_fast]; kernel_rfl
theorem no_wd_del : typeLookup (.type "wrapper_descriptor") "__delete__" = pure none := by rw [typeLookup_type, builtinLookup_eq_fast]; kernel_rfl
theorem entry_md_get : entryFor table "method_descriptor.__get__" = some Builtin.«method_descriptor.__get__» := entryFor_of_tree (by kernel_rfl)
theorem entry_wd_get : entryFor table "wrapper_descriptor.__get__" = some Builtin.«wrapper_descriptor.__get__» := entryFor_of_tree (by kernel_rfl)
theorem args_md_get (a b c : Value) : argsOk "method_descriptor.__get__" ⟨[a, b, c], []⟩ := by unfold argsOk; kernel_rfl
theorem args_wd_get (a b c : Value) : argsOk "wrapper_descriptor.__get__" ⟨[a, b, c], []⟩ := by unfold argsOk; kernel_rfl
theorem sub_list_module : isSubtype (.type "list") (.type "module") = pure false := by rw [isSubtype_type]; kernel_rfl
theorem entry_hasattr : entryFor table "hasattr" = some Builtin.«hasattr» := entryFor_of_tree (by kernel_rfl)
theorem told : Manifest.toldItsClass.contains "list.__getitem__" = false := by decide +kernel
theorem owner_list : (".".intercalate ("list.__getitem__".cutAt '.').dropLast) = "list" := by
  have e0 : "list.__getitem__".cutAt '.' = ["list", "__getitem__"] := by first | rfl | decide +kernel
  rw [e0]; decide +kernel
theorem owner_str : (".".intercalate ("str.__getitem__".cutAt '.').dropLast) = "str" := by
  have e0 : "str.__getitem__".cutAt '.' = ["str", "__getitem__"] := by first | rfl | decide +kernel
  rw [e0]; decide +kernel
theorem sub_list : isSubtype (.type "list") (.type (".".intercalate ("list.__getitem__".cutAt '.').dropLast)) = pure true := by
  rw [owner_list, isSubtype_type]; kernel_rfl
theorem sub_str : isSubtype (.type "str") (.type (".".intercalate ("str.__getitem__".cutAt '.').dropLast)) = pure true := by
  rw [owner_str, isSubtype_type]; kernel_rfl
theorem sub_list_ty : isSubtype (.type "list") (.type "type") = pure false := by rw [isSubtype_type]; kernel_rfl
end HA

noncomputable abbrev lsO (items : Array Value) (n : Nat) : Obj := { cls := .type "list", dict := Option.none, data := .seq items n, slots := #[] }
set_option maxHeartbeats 2000000 in
theorem bound_list {prog : Program} {w : World} {A : Around} {h : Heap} {g : Array GenState} {d : Drawn} {t : Nat} {os : OsState} {a : Addr} {items : Array Value} {n : Nat} {R : Result → Shared → Prop} (hx : h.get? a = some (lsO items n))
    (hq : ∀ (v : Addr) o, R (.ok (.ret (.ref v))) ⟨h.push o, g, d, t, os⟩) : codeAny (model prog w) A (.call (.builtin "method_descriptor.__get__") ⟨[.builtin "list.__getitem__", .ref a, .type "list"], []⟩) R ⟨h, g, d, t, os⟩ := by
  have hT : (⟨h, g, d, t, os⟩ : Shared).TypeIs (.ref a) "list" := ⟨_, hx, rfl⟩
  have hT5 : (⟨h, g, d, t, os⟩ : Shared).TypeIs (.builtin "list.__getitem__") "method_descriptor" := HA.ty_list_gi
  have f8 := HA.told
  have f9 := HA.sub_list
  refine codeAny_call_builtin HA.slot_md_get.plain HA.entry_md_get (HA.slot_md_get.check _ _ _ _ _ _ _ _ hT5 (HA.args_md_get _ _ _) ?_)
  repeat (any_goals (first | assumption | wp_step))
  exact hq _ _
theorem fetch_entry_list {prog : Program} {w : World} {A : Around} {h : Heap} {g : Array GenState} {d : Drawn} {t : Nat} {os : OsState} {a : Addr} {items : Array Value} {n : Nat} {tk : Tok} {Q : Fin → Shared → Prop} {E : Value → Shared → Prop} (hx : h.get? a = some (lsO items n)) (hq : ∀ (v : Addr) o, Q (.done (.ret (.ref v))) ⟨h.push o, g, d, t, os⟩) :
    wpAny (model prog w) A (Builtin.«object.__getattribute__» ⟨[.ref a, .str "__getitem__" tk], []⟩) Q E ⟨h, g, d, t, os⟩ := by
  have hT : (⟨h, g, d, t, os⟩ : Shared).TypeIs (.ref a) "list" := ⟨_, hx, rfl⟩
  have hT5 : (⟨h, g, d, t, os⟩ : Shared).TypeIs (.builtin "list.__getitem__") "method_descriptor" := HA.ty_list_gi
  have f4 := F.slot_list_getitem.lookup
  have f5 := HA.ty_list_gi
  have f6 := HA.slot_md_get.lookup
  have f7 := HA.no_md_set
  have f8 := HA.no_md_del
  repeat (any_goals (first | assumption | wp_step))
  all_goals (refine bound_list hx fun v o => ?_)
  all_goals (exact wpAny_pure (hq _ _))
set_option maxHeartbeats 2000000 in
theorem hasattr_list {prog : Program} {w : World} {A : Around} {h : Heap} {g : Array GenState} {d : Drawn} {t : Nat} {os : OsState} {a : Addr} {items : Array Value} {n : Nat} {tk : Tok} {Q : Fin → Shared → Prop} {E : Value → Shared → Prop} (hx : h.get? a = some (lsO items n)) (hq : ∀ o, Q (.done (.ret (.bool true))) ⟨h.push o, g, d, t, os⟩) :
    wpAny (model prog w) A (Builtin.«hasattr» ⟨[.ref a, .str "__getitem__" tk], []⟩) Q E ⟨h, g, d, t, os⟩ := by
  have hT : (⟨h, g, d, t, os⟩ : Shared).TypeIs (.ref a) "list" := ⟨_, hx, rfl⟩
  have f2 := F.slot_list_getattribute.lookup
  have f3 := F.slot_list_getattribute.bind (.ref a)
  have f4 := F.slot_list_getitem.lookup
  have f5 := HA.sub_list_module
  repeat (any_goals (first | assumption | wp_step))
  all_goals (refine codeAny_call_builtin F.slot_list_getattribute.plain F.entry_list_ga (F.slot_list_getattribute.check _ _ _ _ _ _ _ _ hT (F.args_list_getattribute_2 _ _) (fetch_entry_list hx fun v o => ?_)))
  repeat (any_goals (first | assumption | wp_step))

  all_goals (exact hq _)
set_option maxHeartbeats 2000000 in
theorem bound_str {prog : Program} {w : World} {A : Around} {h : Heap} {g : Array GenState} {d : Drawn} {t : Nat} {os : OsState} {x : PySem.Str} {u : Tok} {R : Result → Shared → Prop}
    (hq : ∀ (v : Addr) o, R (.ok (.ret (.ref v))) ⟨h.push o, g, d, t, os⟩) : codeAny (model prog w) A (.call (.builtin "wrapper_descriptor.__get__") ⟨[.builtin "str.__getitem__", .str x u, .type "str"], []⟩) R ⟨h, g, d, t, os⟩ := by
  have hT5 : (⟨h, g, d, t, os⟩ : Shared).TypeIs (.builtin "str.__getitem__") "wrapper_descriptor" := HA.ty_str_gi
  have f9 := HA.sub_str
  refine codeAny_call_builtin HA.slot_wd_get.plain HA.entry_wd_get (HA.slot_wd_get.check _ _ _ _ _ _ _ _ hT5 (HA.args_wd_get _ _ _) ?_)
  repeat (any_goals (first | assumption | wp_step))
  all_goals (exact hq _ _)
set_option maxHeartbeats 2000000 in
theorem fetch_entry_str {prog : Program} {w : World} {A : Around} {h : Heap} {g : Array GenState} {d : Drawn} {t : Nat} {os : OsState} {x : PySem.Str} {u : Tok} {tk : Tok} {Q : Fin → Shared → Prop} {E : Value → Shared → Prop} (hq : ∀ (v : Addr) o, Q (.done (.ret (.ref v))) ⟨h.push o, g, d, t, os⟩) :
    wpAny (model prog w) A (Builtin.«object.__getattribute__» ⟨[.str x u, .str "__getitem__" tk], []⟩) Q E ⟨h, g, d, t, os⟩ := by
  have hT5 : (⟨h, g, d, t, os⟩ : Shared).TypeIs (.builtin "str.__getitem__") "wrapper_descriptor" := HA.ty_str_gi
  have f4 := F.slot_str_getitem.lookup
  have f5 := HA.ty_str_gi
  have f6 := HA.slot_wd_get.lookup
  have f7 := HA.no_wd_set
  have f8 := HA.no_wd_del
  repeat (any_goals (first | assumption | wp_step))

  all_goals (refine bound_str fun v o => ?_)
  all_goals (exact wpAny_pure (hq _ _))
set_option maxHeartbeats 2000000 in
theorem hasattr_str {prog : Program} {w : World} {A : Around} {h : Heap} {g : Array GenState} {d : Drawn} {t : Nat} {os : OsState} {x : PySem.Str} {u : Tok} {tk : Tok} {Q : Fin → Shared → Prop} {E : Value → Shared → Prop} (hq : ∀ o, Q (.done (.ret (.bool true))) ⟨h.push o, g, d, t, os⟩) :
    wpAny (model prog w) A (Builtin.«hasattr» ⟨[.str x u, .str "__getitem__" tk], []⟩) Q E ⟨h, g, d, t, os⟩ := by
  have f2 := F.slot_str_getattribute.lookup
  have f3 := F.slot_str_getattribute.bind (.str x u)
  have f4 := F.slot_str_getitem.lookup
  repeat (any_goals (first | assumption | wp_step))

  all_goals (refine codeAny_call_builtin F.slot_str_getattribute.plain F.entry_object_getattribute (F.slot_str_getattribute.check _ _ _ _ _ _ _ _ (typeIs_str _ x u) (by unfold argsOk; kernel_rfl) (fetch_entry_str fun v o => ?_)))
  repeat (any_goals (first | assumption | wp_step))
  all_goals (exact hq _)
end Mine
end

-- part V1
set_option linter.all false
noncomputable section
namespace Mine
open PySem PySem.W PySem.Calls PyProof.Rows
set_option Elab.async false
set_option maxRecDepth 100000

noncomputable def bodyOf : Stmt → List Stmt
  | .FunctionDef _ _ body .. => body
  | _ => []
noncomputable def scopeOf : Stmt → Scope
  | .FunctionDef _ _ _ _ _ _ scope _ _ _ => scope
  | _ => default
/-- a def of the text as `wc_fn` wants it -/
noncomputable def checkDef (i : Nat) (ns : List PySem.Str) : Bool :=
  (scopeOf (st i)).names.all (fun x => x.2 != .cell && x.2 != .free) && ns.all fun x => (scopeOf (st i)).names.lookup x == some .local
section
variable {w : World} {hb : Heap} {os : OsState} {n : Nat} {env : Env} {ρ : Rho} {H : PH} {τ : Nat → PySem.Str}
theorem wc_def (i : Nat) {a : Addr} {o : Obj} {fd : FuncData} {ns : List PySem.Str} {args : List PV} {kw pb : List (PySem.Str × PV)} {Φ : PV → PH → Prop} (B : Base w hb) (ho : hb.get? a = some o) (hd : o.data = .func fd) (hcd : hb.CodeRec fd.code fd.qualname)
    (hbind : Binds w hb fd args kw pb) (hns : pb.map (·.1) = ns) (hbody : fd.body = .stmts (bodyOf (st i))) (hsc : fd.scope = scopeOf (st i)) (hchk : checkDef i ns = true) (hclo : fd.closure = []) (hg : fd.globals = mainGlobals) (hbl : fd.builtins = builtinsNs)
    (h : ∀ env, EnvOk env → (∀ x, env.kindOf x = (scopeOf (st i)).names.lookup x) → WF w hb os n env (rhoOf pb) H (execs (bodyOf (st i)) env) fun o _ H' => match o with | .ret p => Φ p H' | .next => Φ .none H' | _ => False)
    (hco : fd.scope.isCoroutine = false) (hgen : fd.scope.isGenerator = false) (hk : fd.scope.kind = .function) : WC w hb os (n + 1) H (.ref a) args kw Φ := by
  unfold checkDef at hchk
  rw [Bool.and_eq_true] at hchk
  obtain ⟨h1, h2⟩ := hchk
  have h1 := List.all_eq_true.mp h1
  have h2 := List.all_eq_true.mp h2
  refine wc_fn B ho hd hcd hbody hbind (fun x hx e => ?_) (fun x hx => ?_) hclo hg hbl (fun x hx e => ?_) (fun env he hs _ => h env he fun x => ?_) hco hgen hk
  · rw [hsc] at hx
    have := h1 x hx
    rw [e] at this; simp at this
  · rw [hsc]
    have := h2 x.1 (by rw [← hns]; exact List.mem_map.mpr ⟨x, hx, rfl⟩)
    exact beq_iff_eq.mp this
  · rw [hsc] at hx
    have := h1 x hx
    rw [e] at this; simp at this
  · show env.scope.names.lookup x = _
    rw [hs, hsc]
/-- binding by a look into what the top has laid -/
theorem binds_peek {fd : FuncData} {args : List PV} {kw pb : List (PySem.Str × PV)} (B : Base w hb)
    (h : ∀ (σ : Vw) (vs ks : List Value), (∀ b o, hb.get? b = some o → σ.h.get? b = some o) → VReps σ vs args → VReps σ ks (kw.map (·.2)) → ∃ bv, (∀ S, peek (KF w.params) S (bindArgs fd ⟨vs, (kw.map (·.1)).zip ks⟩) = some ((pb.map (·.1)).zip bv)) ∧ VReps σ bv (pb.map (·.2))) : Binds w hb fd args kw pb :=
  fun s τ vs ks hk r1 r2 => by
    obtain ⟨bv, e, r⟩ := h (vw s τ) vs ks hk r1 r2
    exact ⟨bv, fun M A E Q q => (Looks.of_peek (M := M) (B.K.keeps hk) (e _)).here q, r⟩

-- trees that are computed
noncomputable def plainTrees : List (Bool × Sem Value) → Bool
  | [] => true
  | (b, _) :: l => !b && plainTrees l
theorem plainTrees_eq : ∀ l : List (Bool × Sem Value), plainTrees l = true → l = (l.map (·.2)).map fun t => (false, t)
  | [], _ => rfl
  | (b, t) :: l, h => by
    unfold plainTrees at h
    rw [Bool.and_eq_true] at h
    have hb : b = false := by simpa using h.1
    subst hb
    rw [List.map_cons, List.map_cons, ← plainTrees_eq l h.2]
noncomputable def plainKws : List (Option PySem.Str × Sem Value) → Bool
  | [] => true
  | (b, _) :: l => b.isSome && plainKws l
theorem plainKws_eq : ∀ l : List (Option PySem.Str × Sem Value), plainKws l = true → (l = ((l.filterMap (·.1)).zip (l.map (·.2))).map fun x => (some x.1, x.2)) ∧ (l.filterMap (·.1)).length = (l.map (·.2)).length
  | [], _ => ⟨rfl, rfl⟩
  | (b, t) :: l, h => by
    unfold plainKws at h
    rw [Bool.and_eq_true] at h
    obtain ⟨h1, h2⟩ := plainKws_eq l h.2
    cases b with
    | none => exact nomatch h.1
    | some b =>
      have e : List.filterMap (fun x : Option PySem.Str × Sem Value => x.1) ((some b, t) :: l) = b :: l.filterMap (·.1) := rfl
      refine ⟨?_, ?_⟩
      · rw [e, List.map_cons, List.zip_cons_cons, List.map_cons, ← h1]
      · rw [e, List.map_cons, List.length_cons, List.length_cons, h2]
noncomputable abbrev trees (pos : Pos) (args : List Expr) (env : Env) : List (Sem Value) := (backTo pos (starEach args env)).map (·.2)
noncomputable abbrev kwNames (pos : Pos) (kws : List Keyword) (env : Env) : List PySem.Str := (backToKw pos (keywordEach kws env)).filterMap (·.1)
noncomputable abbrev kwTrees (pos : Pos) (kws : List Keyword) (env : Env) : List (Sem Value) := (backToKw pos (keywordEach kws env)).map (·.2)
theorem we_callx {func : Expr} {args : List Expr} {keywords : List Keyword} {pos : Pos} {Φ : PV → PH → Prop}
    (h : WT w hb os n env ρ H (eval func env) fun pf H0 => ∃ f, PVal pf f ∧ Callee w hb f ∧ WTs w hb os n env ρ H0 (trees pos args env) fun ps H1 => WKs w hb os n env ρ H1 (kwTrees pos keywords env) fun qs H2 => qs.length = (kwNames pos keywords env).length ∧ WC w hb os n H2 f ps ((kwNames pos keywords env).zip qs) Φ)
    (he : eval (.Call func args keywords pos) env = (do callWith pos (← eval func env) [] (backTo pos (starEach args env)) (backToKw pos (keywordEach keywords env))) := by rfl)
    (ha : plainTrees (backTo pos (starEach args env)) = true := by rfl) (hk : plainKws (backToKw pos (keywordEach keywords env)) = true := by rfl) :
    WT w hb os n env ρ H (eval (.Call func args keywords pos) env) Φ :=
  we_call h he (plainTrees_eq _ ha) (plainKws_eq _ hk).1 (plainKws_eq _ hk).2
set_option cleanup.letToHave false
theorem wf_consL {st : Stmt} {rest : List Stmt} {Φ : Out → Rho → PH → Prop} (h : let Ψ : Out → Rho → PH → Prop := fun o ρ1 H1 => match o with | .next => WF w hb os n env ρ1 H1 (execs rest env) Φ | o => Φ o ρ1 H1; WF w hb os n env ρ H (exec st env) Ψ) :
    WF w hb os n env ρ H (execs (st :: rest) env) Φ := wf_cons h
theorem we_callL {func : Expr} {args : List Expr} {keywords : List Keyword} {pos : Pos} {Φ : PV → PH → Prop}
    (h : let Ψ : PV → PH → Prop := fun pf H0 => ∃ f, PVal pf f ∧ Callee w hb f ∧ WTs w hb os n env ρ H0 (trees pos args env) fun ps H1 => WKs w hb os n env ρ H1 (kwTrees pos keywords env) fun qs H2 => qs.length = (kwNames pos keywords env).length ∧ WC w hb os n H2 f ps ((kwNames pos keywords env).zip qs) Φ; WT w hb os n env ρ H (eval func env) Ψ)
    (he : eval (.Call func args keywords pos) env = (do callWith pos (← eval func env) [] (backTo pos (starEach args env)) (backToKw pos (keywordEach keywords env))) := by rfl)
    (ha : plainTrees (backTo pos (starEach args env)) = true := by rfl) (hk : plainKws (backToKw pos (keywordEach keywords env)) = true := by rfl) :
    WT w hb os n env ρ H (eval (.Call func args keywords pos) env) Φ := we_callx h he ha hk
theorem we_indexL {value slice : Expr} {pos : Pos} {Φ : PV → PH → Prop} (h : let Ψ : PV → PH → Prop := fun p H1 => WT w hb os n env ρ H1 (eval slice env) fun q H2 => ItemR H2 Φ p q; WT w hb os n env ρ H (eval value env) Ψ)
    (hs : ∀ o i, subscripted slice false o i = operate [o, i] (getItem o i) := by intros; rfl) : WT w hb os n env ρ H (eval (.Subscript value slice pos) env) Φ := we_index h hs
theorem we_binopL {l r : Expr} {op : Operator} {pos : Pos} {Φ : PV → PH → Prop}
    (h : let Ψ : PV → PH → Prop := fun p H1 => WT w hb os n env ρ H1 (eval r env) fun q H2 => BinR H2 Φ op p q; WT w hb os n env ρ H (eval l env) Ψ) :
    WT w hb os n env ρ H (eval (.BinOp l op r pos) env) Φ := we_binop h
theorem we_binL {l r : Expr} {op : Operator} {pos : Pos} {Φ : PV → PH → Prop}
    (h : let Ψ : PV → PH → Prop := fun p H1 => WT w hb os n env ρ H1 (eval r env) fun q H2 => WO w hb os n H2 [p, q] (two (binaryOp op)) Φ; WT w hb os n env ρ H (eval l env) Ψ) :
    WT w hb os n env ρ H (eval (.BinOp l op r pos) env) Φ := we_bin h
theorem we_cmpL {l r : Expr} {op : CmpOp} {pos : Pos} {Φ : PV → PH → Prop} (B : Base w hb)
    (h : let Ψ : PV → PH → Prop := fun p H1 => WT w hb os n env ρ H1 (eval r env) fun q H2 => CmpR H2 Φ op p q; WT w hb os n env ρ H (eval l env) Ψ) (hm : behindInMarks op r = false := by with_unfolding_all rfl) :
    WT w hb os n env ρ H (eval (.Compare l [op] [r] pos) env) Φ := we_cmp B h hm
theorem wb_cmpL {l r : Expr} {op : CmpOp} {pos : Pos} {whole : Sem Value} {Φ : Bool → PH → Prop} (B : Base w hb)
    (h : let Ψ : PV → PH → Prop := fun p H1 => WT w hb os n env ρ H1 (eval r env) fun q H2 => CmpR H2 (fun p H' => ∃ b, p = .bool b ∧ Φ b H') op p q; WT w hb os n env ρ H (eval l env) Ψ) (hm : behindInMarks op r = false := by with_unfolding_all rfl) :
    WB w hb os n env ρ H (isTrue (.Compare l [op] [r] pos) env whole) Φ := wb_cmp B h hm
theorem we_listx {elts : List Expr} {pos : Pos} {Φ : PV → PH → Prop} (h : WTs w hb os n env ρ H (trees pos elts env) fun ps H1 => ps.length ≤ sizeLine ∧ ∀ c, H1 c = Option.none → Φ (.ref c) (H1.set c ps))
    (ha : plainTrees (backTo pos (starEach elts env)) = true := by rfl) : WT w hb os n env ρ H (eval (.List elts pos) env) Φ := we_list h (plainTrees_eq _ ha)
theorem we_tuplex {elts : List Expr} {k : Nat} {pos : Pos} {Φ : PV → PH → Prop} (h : WTs w hb os n env ρ H (trees pos elts env) fun ps H1 => ps.length ≤ sizeLine ∧ Φ (.tup ps) H1)
    (ha : plainTrees (backTo pos (starEach elts env)) = true := by rfl) : WT w hb os n env ρ H (eval (.Tuple elts k pos) env) Φ := we_tuple h (plainTrees_eq _ ha)
theorem we_methx {o : Expr} {name : PySem.Str} {apos pos : Pos} {args : List Expr} {T id : String} {Φ : PV → PH → Prop} (pa : PlainAttrs T) (slot : Slot T name id)
    (h : WT w hb os n env ρ H (eval o env) fun p H1 => (∀ (s : Shared) (τ : Nat → PySem.Str) (v : Value), Inv0 hb os H1 s τ → VRep (vw s τ) v p → s.TypeIs v T ∧ ∀ a, v = .ref a → ∃ ob, s.heap.get? a = some ob ∧ ob.dict = Option.none) ∧
      WTs w hb os n env ρ H1 (trees pos args env) fun ps H2 => WC w hb os n H2 (.builtin id) (p :: ps) [] Φ)
    (hty : typeOf (.builtin id) = pure (.type "method_descriptor") := by rfl)
    (ha : plainTrees (backTo pos (starEach args env)) = true := by rfl)
    (hbase : attributeBase o name env (eval o env) = eval o env := by rfl)
    (hfew : ((backTo pos (starEach args env)).all (fun x => !x.1) && (backToKw pos (keywordEach [] env)).all (fun x => x.1.isSome)
      && decide (args.length + ([] : List Keyword).length + (if ([] : List Keyword).isEmpty then 0 else 1) < 30)) = true := by rfl)
    (hline : (apos.endLine == pos.line) = true := by rfl) : WT w hb os n env ρ H (eval (.Call (.Attribute o name apos) args [] pos) env) Φ :=
  we_meth pa slot hty h (plainTrees_eq _ ha) hbase hfew hline
end
section
variable {w : World} {hb : Heap} {os : OsState} {n : Nat} {H : PH}
theorem spec_in_b1 {c : Nat} {Φ : PV → PH → Prop} (B : Base w hb) (h : Φ (.bool (decide ((c : Int) ∈ b1L))) H) : WC w hb os (n + 1) H (.ref 110) [.str ⟨#[c]⟩] [] Φ := by
  refine wc_def 14 (ns := [S "code"]) (pb := [(S "code", .str ⟨#[c]⟩)]) B (B.K 110 _ (by rfl)) rfl ⟨109, _, _, _, rfl, B.K 109 _ (by rfl), rfl, rfl⟩ (binds_peek B ?_) rfl rfl rfl (by kernel_rfl) rfl rfl rfl ?_ rfl rfl rfl
  · intro σ vs ks _ r1 r2
    obtain ⟨v, rfl, r⟩ := r1.one
    (first | obtain rfl := r2.nil_is | obtain rfl := r2.ref_is | obtain ⟨_, rfl⟩ := r2.int_is | obtain ⟨_, rfl, _⟩ := r2.str_is | obtain rfl := r2.bool_is | obtain rfl := r2.none_is | obtain rfl := r2.fn_is | cases r2)
    exact ⟨[v], fun _ => rfl, .cons r .nil⟩
  · intro env he kx
    refine wf_cons ?_
    refine wf_ret ?_
    refine we_cmp1 ?_
    refine we_callx ?_
    refine we_builtin B he ((kx _).trans (by rfl)) (by rfl) (by rfl) (fun _ => .blt) ⟨_, .blt, callee_blt, ?_⟩
    refine WTs.cons ?_
    refine we_local he ((kx _).trans (by rfl)) (by rfl) ?_
    refine WTs.nil (WKs.nil ⟨rfl, ?_⟩)
    refine wc_ord ?_
    refine we_glob B he ((kx _).trans (by rfl)) (by rfl) ?_
    refine in_b1 B ?_
    exact h
end
end Mine
end

-- part V2
set_option linter.all false
noncomputable section
namespace Mine
open PySem PySem.W PySem.Calls PyProof.Rows
set_option Elab.async false
set_option maxRecDepth 100000
section
variable {w : World} {hb : Heap} {os : OsState} {n : Nat} {H : PH}
theorem we_intc {env : Env} {ρ : Rho} {i : Int} {Φ : PV → PH → Prop} (h : Φ (.int i) H) : WT w hb os n env ρ H (constValue env (.int i)) Φ := we_int (k := 0) (pos := default) h
theorem we_strc {env : Env} {ρ : Rho} {x : PySem.Str} {Φ : PV → PH → Prop} (h : Φ (.str x) H) : WT w hb os n env ρ H (constValue env (.str x)) Φ := we_str (k := 0) (pos := default) h
theorem we_nonec {env : Env} {ρ : Rho} {Φ : PV → PH → Prop} (h : Φ .none H) : WT w hb os n env ρ H (constValue env .none) Φ := we_none (k := 0) (pos := default) h
theorem we_boolc {env : Env} {ρ : Rho} {b : Bool} {Φ : PV → PH → Prop} (h : Φ (.bool b) H) : WT w hb os n env ρ H (constValue env (.bool b)) Φ := we_bool (k := 0) (pos := default) h
theorem binds1 {fd : FuncData} {p : PV} {x : PySem.Str} (B : Base w hb) (h : ∀ (v : Value) S, peek (KF w.params) S (bindArgs fd ⟨[v], []⟩) = some [(x, v)]) : Binds w hb fd [p] [] [(x, p)] := binds_peek B fun σ vs ks _ r1 r2 => by
  obtain ⟨v, rfl, r⟩ := r1.one
  (first | obtain rfl := r2.nil_is | obtain rfl := r2.ref_is | obtain ⟨_, rfl⟩ := r2.int_is | obtain ⟨_, rfl, _⟩ := r2.str_is | obtain rfl := r2.bool_is | obtain rfl := r2.none_is | obtain rfl := r2.fn_is | cases r2)
  exact ⟨[v], fun S => h v S, .cons r .nil⟩
theorem binds2 {fd : FuncData} {p q : PV} {x y : PySem.Str} (B : Base w hb) (h : ∀ (v u : Value) S, peek (KF w.params) S (bindArgs fd ⟨[v, u], []⟩) = some [(x, v), (y, u)]) : Binds w hb fd [p, q] [] [(x, p), (y, q)] := binds_peek B fun σ vs ks _ r1 r2 => by
  obtain ⟨v, u, rfl, r, r'⟩ := r1.two
  (first | obtain rfl := r2.nil_is | obtain rfl := r2.ref_is | obtain ⟨_, rfl⟩ := r2.int_is | obtain ⟨_, rfl, _⟩ := r2.str_is | obtain rfl := r2.bool_is | obtain rfl := r2.none_is | obtain rfl := r2.fn_is | cases r2)
  exact ⟨[v, u], fun S => h v u S, .cons r (.cons r' .nil)⟩
/-- what B.3 makes of a sign -/
noncomputable def mapped (c : Nat) : PySem.Str := match b3look (c : Int) with | some x => x | Option.none => Txt.lower ⟨#[c]⟩
theorem b3_recv (B : Base w hb) : ∀ (s : Shared) (τ : Nat → PySem.Str) (v : Value), Inv0 hb os H s τ → VRep (vw s τ) v (.fn 111) → s.TypeIs v "dict" ∧ ∀ a, v = .ref a → ∃ ob, s.heap.get? a = some ob ∧ ob.dict = Option.none := fun s τ v I r => by
  (first | obtain rfl := r.nil_is | obtain rfl := r.ref_is | obtain ⟨_, rfl⟩ := r.int_is | obtain ⟨_, rfl, _⟩ := r.str_is | obtain rfl := r.bool_is | obtain rfl := r.none_is | obtain rfl := r.fn_is | cases r)
  have := I.base _ _ B.b3
  exact ⟨⟨_, this, rfl⟩, fun a h => by cases h; exact ⟨_, this, rfl⟩⟩
theorem wc_b3f {c : Int} {Φ : PV → PH → Prop} (B : Base w hb) (h : Φ (match b3look c with | some x => .str x | Option.none => .none) H) : WC w hb os n H (.builtin "dict.get") [.fn 111, .int c] [] Φ := fun A s τ vs ks ak I r r2 Q q => by
  obtain ⟨v, u, rfl, r1, r3⟩ := r.two
  (first | obtain rfl := r1.nil_is | obtain rfl := r1.ref_is | obtain ⟨_, rfl⟩ := r1.int_is | obtain ⟨_, rfl, _⟩ := r1.str_is | obtain rfl := r1.bool_is | obtain rfl := r1.none_is | obtain rfl := r1.fn_is | cases r1)
  exact wc_b3 B h A s τ _ ks ak I (.cons .ref (.cons r3 .nil)) r2 Q q
theorem str_recv {x : PySem.Str} : ∀ (s : Shared) (τ : Nat → PySem.Str) (v : Value), Inv0 hb os H s τ → VRep (vw s τ) v (.str x) → s.TypeIs v "str" ∧ ∀ a, v = .ref a → ∃ ob, s.heap.get? a = some ob ∧ ob.dict = Option.none := fun s τ v I r => by
  (first | obtain rfl := r.nil_is | obtain rfl := r.ref_is | obtain ⟨_, rfl⟩ := r.int_is | obtain ⟨_, rfl, _⟩ := r.str_is | obtain rfl := r.bool_is | obtain rfl := r.none_is | obtain rfl := r.fn_is | cases r)
  exact ⟨typeIs_str _ _ _, fun a h => nomatch h⟩
theorem spec_b3 {c : Nat} {Φ : PV → PH → Prop} (B : Base w hb) (h : Φ (.str (mapped c)) H) : WC w hb os (n + 1) H (.ref 156) [.str ⟨#[c]⟩] [] Φ := by
  refine wc_def 16 (ns := [S "code"]) (pb := [(S "code", .str ⟨#[c]⟩)]) B (B.K 156 _ (by rfl)) rfl ⟨155, _, _, _, rfl, B.K 155 _ (by rfl), rfl, rfl⟩ (binds1 B fun _ _ => rfl) rfl rfl rfl (by kernel_rfl) rfl rfl rfl ?_ rfl rfl rfl
  intro env he kx
  refine wf_consL ?_
  intro Ps
  refine @wf_assign _ _ _ _ _ _ _ _ _ _ _ _ he (.inl ((kx _).trans (by rfl))) ?_ (by rfl)
  refine we_methx F.plainAttrs_dict F.slot_dict_get ?_
  refine we_glob B he ((kx _).trans (by rfl)) (by rfl) ?_
  refine ⟨b3_recv B, ?_⟩
  refine WTs.cons ?_
  refine we_callL ?_
  intro Ps
  refine we_builtin B he ((kx _).trans (by rfl)) (by rfl) (by rfl) (fun _ => .blt) ⟨_, .blt, callee_blt, ?_⟩
  refine WTs.cons ?_
  refine we_local he ((kx _).trans (by rfl)) (by first | rfl | assumption) ?_
  refine WTs.nil (WKs.nil ⟨rfl, ?_⟩)
  refine wc_ord ?_
  refine WTs.nil ?_
  refine wc_b3f B ?_
  unfold mapped at h
  cases e : b3look (c : Int) with
  | none =>
    rw [e] at h
    refine wf_consL ?_
    intro Ps
    refine wf_if ?_
    refine wb_cmpL B ?_
    intro Ps
    refine we_local he ((kx _).trans (by rfl)) (by first | rfl | assumption) ?_
    refine we_nonec ?_
    refine ⟨false, rfl, ?_⟩
    rw [if_neg Bool.false_ne_true]
    refine wf_nil ?_
    refine wf_consL ?_
    intro Ps
    refine wf_ret ?_
    refine we_methx F.plainAttrs_str F.slot_str_lower ?_
    refine we_local he ((kx _).trans (by rfl)) (by first | rfl | assumption) ?_
    refine ⟨str_recv, ?_⟩
    refine WTs.nil ?_
    exact wc_lower (fit_lower (show 1 ≤ 5592405 by decide)) h
  | some x =>
    rw [e] at h
    refine wf_consL ?_
    intro Ps
    refine wf_if ?_
    refine wb_cmpL B ?_
    intro Ps
    refine we_local he ((kx _).trans (by rfl)) (by first | rfl | assumption) ?_
    refine we_nonec ?_
    refine ⟨true, rfl, ?_⟩
    rw [if_pos rfl]
    refine wf_consL ?_
    intro Ps
    refine wf_ret ?_
    refine we_local he ((kx _).trans (by rfl)) (by first | rfl | assumption) ?_
    exact h
theorem spec_getitem_list {a : Addr} {l : List PV} {k : Int} {j : Nat} {x : PV} {Φ : PV → PH → Prop} (B : Base w hb) (e : H a = some l) (hl : l.length < 2 ^ 62) (hj : seqIndex? k l.length = some j) (hx : l[j]? = some x) (h : Φ x H) : WC w hb os (n + 1) H (.ref 85) [.ref a, .int k] [] Φ := by
  refine wc_def 10 (ns := [S "a", S "b"]) (pb := [(S "a", .ref a), (S "b", .int k)]) B (B.K 85 _ (by rfl)) rfl ⟨84, _, _, _, rfl, B.K 84 _ (by rfl), rfl, rfl⟩ (binds2 B fun _ _ _ => rfl) rfl rfl rfl (by kernel_rfl) rfl rfl rfl ?_ rfl rfl rfl
  intro env he kx
  refine wf_consL ?_
  intro Ps
  refine wf_ret ?_
  refine we_indexL ?_
  intro Ps
  refine we_local he ((kx _).trans (by rfl)) (by first | rfl | assumption) ?_
  refine we_local he ((kx _).trans (by rfl)) (by first | rfl | assumption) ?_
  exact ⟨l, j, x, e, hl, hj, hx, h⟩
theorem spec_getitem_tup {l : List PV} {k : Int} {j : Nat} {x : PV} {Φ : PV → PH → Prop} (B : Base w hb) (hl : l.length < 2 ^ 62) (hj : seqIndex? k l.length = some j) (hx : l[j]? = some x) (h : Φ x H) : WC w hb os (n + 1) H (.ref 85) [.tup l, .int k] [] Φ := by
  refine wc_def 10 (ns := [S "a", S "b"]) (pb := [(S "a", .tup l), (S "b", .int k)]) B (B.K 85 _ (by rfl)) rfl ⟨84, _, _, _, rfl, B.K 84 _ (by rfl), rfl, rfl⟩ (binds2 B fun _ _ _ => rfl) rfl rfl rfl (by kernel_rfl) rfl rfl rfl ?_ rfl rfl rfl
  intro env he kx
  refine wf_consL ?_
  intro Ps
  refine wf_ret ?_
  refine we_indexL ?_
  intro Ps
  refine we_local he ((kx _).trans (by rfl)) (by first | rfl | assumption) ?_
  refine we_local he ((kx _).trans (by rfl)) (by first | rfl | assumption) ?_
  exact ⟨j, x, hl, hj, hx, h⟩
theorem spec_ne {p q : PV} {d e : PyData} {Φ : PV → PH → Prop} (B : Base w hb) (hd : PD H p d) (he' : PD H q e) (sd : PySem.SeqAt.shaped d = true) (se : PySem.SeqAt.shaped e = true) (h : Φ (.bool (!PyData.eqv d e)) H) : WC w hb os (n + 2) H (.ref 57) [p, q] [] Φ := by
  refine wc_def 6 (ns := [S "a", S "b"]) (pb := [(S "a", p), (S "b", q)]) B (B.K 57 _ (by rfl)) rfl ⟨56, _, _, _, rfl, B.K 56 _ (by rfl), rfl, rfl⟩ (binds2 B fun _ _ _ => rfl) rfl rfl rfl (by kernel_rfl) rfl rfl rfl ?_ rfl rfl rfl
  intro env he kx
  refine wf_consL ?_
  intro Ps
  refine wf_ret ?_
  refine we_cmp1 ?_
  refine we_local he ((kx _).trans (by rfl)) (by first | rfl | assumption) ?_
  refine we_local he ((kx _).trans (by rfl)) (by first | rfl | assumption) ?_
  exact eq_data (.inr rfl) hd he' sd se h
theorem spec_mul {a : Addr} {l : List PV} {k : Nat} {Φ : PV → PH → Prop} (B : Base w hb) (e : H a = some l) (hk : k ≤ 64) (hl : l.length ≤ 2 ^ 16) (h : ∀ c, H c = Option.none → Φ (.ref c) (H.set c (List.replicate k l).flatten)) : WC w hb os (n + 1) H (.ref 64) [.ref a, .int k] [] Φ := by
  refine wc_def 7 (ns := [S "a", S "b"]) (pb := [(S "a", .ref a), (S "b", .int k)]) B (B.K 64 _ (by rfl)) rfl ⟨63, _, _, _, rfl, B.K 63 _ (by rfl), rfl, rfl⟩ (binds2 B fun _ _ _ => rfl) rfl rfl rfl (by kernel_rfl) rfl rfl rfl ?_ rfl rfl rfl
  intro env he kx
  refine wf_consL ?_
  intro Ps
  refine wf_ret ?_
  refine we_binL ?_
  intro Ps
  refine we_local he ((kx _).trans (by rfl)) (by first | rfl | assumption) ?_
  refine we_local he ((kx _).trans (by rfl)) (by first | rfl | assumption) ?_
  exact mul_listR e hk hl h
theorem seqIndex_nat {k n : Nat} (h : k < n) : seqIndex? (k : Int) n = some k := by
  unfold seqIndex?
  have h1 : ¬ ((k : Int) < 0) := by omega
  have h2 : (k : Int) < n := by omega
  simp [h1, h2]
theorem seqIndex_last {n : Nat} (h : 0 < n) : seqIndex? (-1) n = some (n - 1) := by
  unfold seqIndex?
  have h2 : (0 : Int) ≤ -1 + n := by omega
  have h3 : (-1 + (n : Int)) < n := by omega
  have h4 : (-1 + (n : Int)).toNat = n - 1 := by omega
  simp [h2, h3, h4]
theorem spec_letter {l : List PV} {x : PV} {Φ : PV → PH → Prop} (B : Base w hb) (hl : l.length < 2 ^ 61) (h : Φ x H) : WC w hb os (n + 2) H (.ref 177) [.tup (x :: l)] [] Φ := by
  refine wc_def 20 (ns := [S "bead"]) (pb := [(S "bead", .tup (x :: l))]) B (B.K 177 _ (by rfl)) rfl ⟨176, _, _, _, rfl, B.K 176 _ (by rfl), rfl, rfl⟩ (binds1 B fun _ _ => rfl) rfl rfl rfl (by kernel_rfl) rfl rfl rfl ?_ rfl rfl rfl
  intro env he kx
  refine wf_consL ?_
  intro Ps
  refine wf_ret ?_
  refine we_callL ?_
  intro Ps
  refine we_glob B he ((kx _).trans (by rfl)) (by rfl) ⟨_, .fn, callee_fn (B.K 85 _ (by rfl)) rfl, ?_⟩
  refine WTs.cons ?_
  refine we_local he ((kx _).trans (by rfl)) (by first | rfl | assumption) ?_
  refine WTs.cons ?_
  refine we_intc ?_
  refine WTs.nil (WKs.nil ⟨rfl, ?_⟩)
  exact spec_getitem_tup B (j := 0) (x := x) (by rw [List.length_cons]; omega) (seqIndex_nat (k := 0) (Nat.succ_pos _)) rfl h
end
end Mine
end

-- part V3
set_option linter.all false
noncomputable section
namespace Mine
open PySem PySem.W PySem.Calls PyProof.Rows
set_option Elab.async false
set_option maxRecDepth 100000
theorem pylong2 {x y : Int} (h : y.natAbs.log2 < 9000 := by decide) : Builtin.divisionGoesByPylong x y = false := PyProof.noPylong_of_log2 h
theorem fdiv2 (a b : Nat) : ((a : Int) + b).fdiv 2 = (((a + b) / 2 : Nat) : Int) := by
  rw [Int.fdiv_eq_ediv_of_nonneg _ (by decide)]; omega
section
variable {w : World} {hb : Heap} {os : OsState} {n : Nat} {H : PH} {env : Env} {ρ : Rho}
theorem PH.le.refl : PH.le H H := fun _ _ e => e
theorem PH.le.trans {H1 H2 H3 : PH} (x : PH.le H1 H2) (y : PH.le H2 H3) : PH.le H1 H3 := fun a l e => y a l (x a l e)
theorem PH.le_set {c : Addr} {l : List PV} (h : H c = Option.none) : PH.le H (H.set c l) := fun a l' e => by
  unfold PH.set
  split
  · rename_i h'; subst h'; rw [h] at e; cases e
  · exact e
theorem WC.drop {f : Value} {args : List PV} {kw : List (PySem.Str × PV)} {Φ Ψ : PV → PH → Prop} (h : WC w hb os n H f args kw Φ) (k : ∀ p H', Φ p H' → ∃ H'', PH.le H'' H' ∧ Ψ p H'') : WC w hb os n H f args kw Ψ :=
  fun A s τ vs ks a I r r2 Q q => h A s τ vs ks a I r r2 Q fun p H' v s' τ' f J r x => let ⟨H'', d, g⟩ := k p H' f; q p H'' v s' τ' g ⟨J.base, fun a l e => J.l a l (d a l e), J.gens, J.os, J.pos⟩ r (x.drop d)
theorem WB.drop {t : Sem Bool} {Φ Ψ : Bool → PH → Prop} (h : WB w hb os n env ρ H t Φ) (k : ∀ p H', Φ p H' → ∃ H'', PH.le H'' H' ∧ Ψ p H'') : WB w hb os n env ρ H t Ψ :=
  fun A s τ a I Q q => h A s τ a I Q fun p H' s' τ' f J x => let ⟨H'', d, g⟩ := k p H' f; q p H'' s' τ' g (J.drop d) (x.drop d)
theorem WO.mono {ps : List PV} {t : List Value → Sem Value} {Φ Ψ : PV → PH → Prop} (h : WO w hb os n H ps t Φ) (k : ∀ p H', Φ p H' → Ψ p H') : WO w hb os n H ps t Ψ :=
  fun A s τ vs a I r Q q => h A s τ vs a I r Q fun p H' v s' τ' f => q p H' v s' τ' (k p H' f)
/-- what an answer of a search must be -/
noncomputable def Found (c : Nat → Bool) (lo hi r : Nat) : Prop := lo ≤ r ∧ r ≤ hi ∧ (∀ i, lo ≤ i → i < r → c i = true) ∧ (∀ i, r ≤ i → i < hi → c i = false)
structure BisAt (ρ : Rho) (a : Addr) (x key : PV) (lo hi : Nat) : Prop where
  a : ρ (S "a") = some (.ref a)
  x : ρ (S "x") = some x
  lo : ρ (S "lo") = some (.int (lo : Int))
  hi : ρ (S "hi") = some (.int (hi : Int))
  key : ρ (S "key") = some key
theorem BisAt.up {a : Addr} {x key : PV} {lo hi : Nat} (h : BisAt ρ a x key lo hi) (p : PV) (lo' : Nat) : BisAt ((ρ.set (S "mid") p).set (S "lo") (.int (lo' : Int))) a x key lo' hi := ⟨h.a, h.x, rfl, h.hi, h.key⟩
theorem BisAt.down {a : Addr} {x key : PV} {lo hi : Nat} (h : BisAt ρ a x key lo hi) (p : PV) (hi' : Nat) : BisAt ((ρ.set (S "mid") p).set (S "hi") (.int (hi' : Int))) a x key lo hi' := ⟨h.a, h.x, h.lo, rfl, h.key⟩
/-- the loop of a search, its test being `c` -/
structure BisJ (ρ₀ : Rho) (H₀ : PH) (a : Addr) (x key : PV) (c : Nat → Bool) (lo₀ hi₀ : Nat) (m : Nat) (ρ : Rho) (H : PH) : Prop where
  h : H = H₀
  at_ : ∃ lo hi, BisAt ρ a x key lo hi ∧ m = hi - lo ∧ lo₀ ≤ lo ∧ lo ≤ hi ∧ hi ≤ hi₀ ∧ (∀ i, lo₀ ≤ i → i < lo → c i = true) ∧ (∀ i, hi ≤ i → i < hi₀ → c i = false)
theorem bis_mid {lo hi : Nat} (h : lo < hi) : lo ≤ (lo + hi) / 2 ∧ (lo + hi) / 2 < hi := by omega
theorem bisL_plain (B : Base w hb) (he : EnvOk env) (kx : ∀ x, env.kindOf x = (scopeOf (st 4)).names.lookup x) {a : Addr} {l : List PV} {x : PV} {lo hi : Nat} {c : Nat → Bool} {Φ : Out → Rho → PH → Prop} (at_ : BisAt ρ a x .none lo hi) (e : H a = some l) (hl : hi ≤ l.length) (hll : l.length < 2 ^ 62) (hlo : lo ≤ hi)
    (cmp : ∀ mid p, l[mid]? = some p → WO w hb os n H [p, x] (two (compareOp .Lt)) (fun r H2 => r = .bool (c mid) ∧ PH.le H H2))
    (mono : ∀ i j, i ≤ j → j < hi → c j = true → c i = true)
    (h : ∀ r ρ', Found c lo hi r → Φ (.ret (.int (r : Int))) ρ' H) : WF w hb os n env ρ H (execs ((bodyOf (st 4)).drop 2) env) Φ := by
  refine wf_consL ?_
  intro Ps
  refine wf_if ?_
  have hk := at_.key
  refine wb_cmpL B ?_
  intro Ps
  refine we_local he ((kx _).trans (by rfl)) (by first | rfl | assumption) ?_
  refine we_nonec ?_
  refine ⟨true, rfl, ?_⟩
  rw [if_pos rfl]
  refine wf_consL ?_
  intro Ps
  refine wf_while (BisJ ρ H a x .none c lo hi) (hi - lo) ⟨rfl, lo, hi, at_, rfl, Nat.le_refl _, hlo, Nat.le_refl _, fun i h1 h2 => by omega, fun i h1 h2 => by omega⟩ ?_
  rintro m ρ1 H1 ⟨rfl, lo1, hi1, at1, rfl, g1, g2, g3, g4, g5⟩
  have ⟨a1, a2, a3, a4, a5⟩ := at1
  refine wb_cmpL B ?_
  intro Ps
  refine we_local he ((kx _).trans (by rfl)) (by first | rfl | assumption) ?_
  refine we_local he ((kx _).trans (by rfl)) (by first | rfl | assumption) ?_
  refine ⟨_, rfl, ?_⟩
  by_cases hlt : lo1 < hi1
  · have hd : decide ((lo1 : Int) < (hi1 : Int)) = true := decide_eq_true (by omega)
    rw [if_pos hd]
    obtain ⟨m1, m2⟩ := bis_mid hlt
    refine wf_consL ?_
    intro Ps
    refine @wf_assign _ _ _ _ _ _ _ _ _ _ _ _ he (.inl ((kx _).trans (by rfl))) ?_ (by rfl)
    refine we_binopL ?_
    intro Ps
    refine we_binopL ?_
    intro Ps
    refine we_local he ((kx _).trans (by rfl)) (by first | rfl | assumption) ?_
    refine we_local he ((kx _).trans (by rfl)) (by first | rfl | assumption) ?_
    refine we_intc ?_
    refine ⟨⟨by decide, pylong2⟩, ?_⟩
    rw [fdiv2]
    obtain ⟨p, hp⟩ : ∃ p, l[(lo1 + hi1) / 2]? = some p := ⟨_, List.getElem?_eq_getElem (by omega)⟩
    refine wf_consL ?_
    intro Ps
    refine wf_if (WB.drop (Φ := fun b H' => b = c ((lo1 + hi1) / 2) ∧ PH.le H1 H') ?_ ?_)
    · refine wb_cmp1 ?_
      refine we_indexL ?_
      intro Ps
      refine we_local he ((kx _).trans (by rfl)) (by first | rfl | assumption) ?_
      refine we_local he ((kx _).trans (by rfl)) (by first | rfl | assumption) ?_
      refine ⟨l, (lo1 + hi1) / 2, p, e, hll, seqIndex_nat (by omega), hp, ?_⟩
      refine we_local he ((kx _).trans (by rfl)) (by first | rfl | assumption) ?_
      exact (cmp _ _ hp).mono fun r H3 hr => ⟨_, hr.1, rfl, hr.2⟩
    rintro b H2 ⟨rfl, hle⟩
    refine ⟨H1, hle, ?_⟩
    cases hc : c ((lo1 + hi1) / 2) with
    | true =>
      rw [if_pos rfl]
      refine wf_consL ?_
      intro Ps
      refine @wf_assign _ _ _ _ _ _ _ _ _ _ _ _ he (.inl ((kx _).trans (by rfl))) ?_ (by rfl)
      refine we_binopL ?_
      intro Ps
      refine we_local he ((kx _).trans (by rfl)) (by first | rfl | assumption) ?_
      refine we_intc ?_
      refine wf_nil ?_
      refine wf_nil ?_
      have ei : (((lo1 + hi1) / 2 : Nat) : Int) + 1 = (((lo1 + hi1) / 2 + 1 : Nat) : Int) := by omega
      rw [ei]
      refine ⟨_, ?_, rfl, _, _, at1.up _ _, rfl, by omega, by omega, g3, fun i h1 h2 => ?_, g5⟩
      · omega
      · exact mono i ((lo1 + hi1) / 2) (by omega) (by omega) hc
    | false =>
      rw [if_neg Bool.false_ne_true]
      refine wf_consL ?_
      intro Ps
      refine @wf_assign _ _ _ _ _ _ _ _ _ _ _ _ he (.inl ((kx _).trans (by rfl))) ?_ (by rfl)
      refine we_local he ((kx _).trans (by rfl)) (by first | rfl | assumption) ?_
      refine wf_nil ?_
      refine wf_nil ?_
      refine ⟨_, ?_, rfl, _, _, at1.down _ _, rfl, g1, by omega, by omega, g4, fun i h1 h2 => ?_⟩
      · omega
      · cases hci : c i with
        | false => rfl
        | true => rw [mono _ i h1 h2 hci] at hc; cases hc
  · have hd : decide ((lo1 : Int) < (hi1 : Int)) = false := decide_eq_false (by omega)
    have : lo1 = hi1 := by omega
    subst this
    rw [hd, if_neg Bool.false_ne_true]
    refine wf_nil ?_
    refine wf_nil ?_
    refine wf_consL ?_
    intro Ps
    refine wf_ret ?_
    refine we_local he ((kx _).trans (by rfl)) (by first | rfl | assumption) ?_
    exact h _ _ ⟨g1, g3, g4, g5⟩
theorem bisL_key (B : Base w hb) (he : EnvOk env) (kx : ∀ x, env.kindOf x = (scopeOf (st 4)).names.lookup x) {a f : Addr} {l : List PV} {x : PV} {lo hi : Nat} {c : Nat → Bool} {Φ : Out → Rho → PH → Prop} (at_ : BisAt ρ a x (.fn f) lo hi) (e : H a = some l) (hl : hi ≤ l.length) (hll : l.length < 2 ^ 62) (hlo : lo ≤ hi) (hcal : Callee w hb (.ref f))
    (cmp : ∀ mid p, l[mid]? = some p → WC w hb os n H (.ref f) [p] [] (fun q H1 => WO w hb os n H1 [q, x] (two (compareOp .Lt)) (fun r H2 => r = .bool (c mid) ∧ PH.le H H2)))
    (mono : ∀ i j, i ≤ j → j < hi → c j = true → c i = true)
    (h : ∀ r ρ', Found c lo hi r → Φ (.ret (.int (r : Int))) ρ' H) : WF w hb os n env ρ H (execs ((bodyOf (st 4)).drop 2) env) Φ := by
  refine wf_consL ?_
  intro Ps
  refine wf_if ?_
  have hk := at_.key
  refine wb_cmpL B ?_
  intro Ps
  refine we_local he ((kx _).trans (by rfl)) (by first | rfl | assumption) ?_
  refine we_nonec ?_
  refine ⟨false, rfl, ?_⟩
  rw [if_neg Bool.false_ne_true]
  refine wf_consL ?_
  intro Ps
  refine wf_while (BisJ ρ H a x (.fn f) c lo hi) (hi - lo) ⟨rfl, lo, hi, at_, rfl, Nat.le_refl _, hlo, Nat.le_refl _, fun i h1 h2 => by omega, fun i h1 h2 => by omega⟩ ?_
  rintro m ρ1 H1 ⟨rfl, lo1, hi1, at1, rfl, g1, g2, g3, g4, g5⟩
  have ⟨a1, a2, a3, a4, a5⟩ := at1
  refine wb_cmpL B ?_
  intro Ps
  refine we_local he ((kx _).trans (by rfl)) (by first | rfl | assumption) ?_
  refine we_local he ((kx _).trans (by rfl)) (by first | rfl | assumption) ?_
  refine ⟨_, rfl, ?_⟩
  by_cases hlt : lo1 < hi1
  · have hd : decide ((lo1 : Int) < (hi1 : Int)) = true := decide_eq_true (by omega)
    rw [if_pos hd]
    obtain ⟨m1, m2⟩ := bis_mid hlt
    refine wf_consL ?_
    intro Ps
    refine @wf_assign _ _ _ _ _ _ _ _ _ _ _ _ he (.inl ((kx _).trans (by rfl))) ?_ (by rfl)
    refine we_binopL ?_
    intro Ps
    refine we_binopL ?_
    intro Ps
    refine we_local he ((kx _).trans (by rfl)) (by first | rfl | assumption) ?_
    refine we_local he ((kx _).trans (by rfl)) (by first | rfl | assumption) ?_
    refine we_intc ?_
    refine ⟨⟨by decide, pylong2⟩, ?_⟩
    rw [fdiv2]
    obtain ⟨p, hp⟩ : ∃ p, l[(lo1 + hi1) / 2]? = some p := ⟨_, List.getElem?_eq_getElem (by omega)⟩
    refine wf_consL ?_
    intro Ps
    refine wf_if (WB.drop (Φ := fun b H' => b = c ((lo1 + hi1) / 2) ∧ PH.le H1 H') ?_ ?_)
    · refine wb_cmp1 ?_
      refine we_callL ?_
      intro Ps
      refine we_local he ((kx _).trans (by rfl)) (by first | rfl | assumption) ?_
      refine ⟨_, .fn, hcal, ?_⟩
      refine WTs.cons ?_
      refine we_indexL ?_
      intro Ps
      refine we_local he ((kx _).trans (by rfl)) (by first | rfl | assumption) ?_
      refine we_local he ((kx _).trans (by rfl)) (by first | rfl | assumption) ?_
      refine ⟨l, (lo1 + hi1) / 2, p, e, hll, seqIndex_nat (by omega), hp, ?_⟩
      refine WTs.nil (WKs.nil ⟨rfl, ?_⟩)
      refine (cmp _ _ hp).mono fun q H2 hq => ?_
      refine we_local he ((kx _).trans (by rfl)) (by first | rfl | assumption) ?_
      exact hq.mono fun r H3 hr => ⟨_, hr.1, rfl, hr.2⟩
    rintro b H2 ⟨rfl, hle⟩
    refine ⟨H1, hle, ?_⟩
    cases hc : c ((lo1 + hi1) / 2) with
    | true =>
      rw [if_pos rfl]
      refine wf_consL ?_
      intro Ps
      refine @wf_assign _ _ _ _ _ _ _ _ _ _ _ _ he (.inl ((kx _).trans (by rfl))) ?_ (by rfl)
      refine we_binopL ?_
      intro Ps
      refine we_local he ((kx _).trans (by rfl)) (by first | rfl | assumption) ?_
      refine we_intc ?_
      refine wf_nil ?_
      refine wf_nil ?_
      have ei : (((lo1 + hi1) / 2 : Nat) : Int) + 1 = (((lo1 + hi1) / 2 + 1 : Nat) : Int) := by omega
      rw [ei]
      refine ⟨_, ?_, rfl, _, _, at1.up _ _, rfl, by omega, by omega, g3, fun i h1 h2 => ?_, g5⟩
      · omega
      · exact mono i ((lo1 + hi1) / 2) (by omega) (by omega) hc
    | false =>
      rw [if_neg Bool.false_ne_true]
      refine wf_consL ?_
      intro Ps
      refine @wf_assign _ _ _ _ _ _ _ _ _ _ _ _ he (.inl ((kx _).trans (by rfl))) ?_ (by rfl)
      refine we_local he ((kx _).trans (by rfl)) (by first | rfl | assumption) ?_
      refine wf_nil ?_
      refine wf_nil ?_
      refine ⟨_, ?_, rfl, _, _, at1.down _ _, rfl, g1, by omega, by omega, g4, fun i h1 h2 => ?_⟩
      · omega
      · cases hci : c i with
        | false => rfl
        | true => rw [mono _ i h1 h2 hci] at hc; cases hc
  · have hd : decide ((lo1 : Int) < (hi1 : Int)) = false := decide_eq_false (by omega)
    have : lo1 = hi1 := by omega
    subst this
    rw [hd, if_neg Bool.false_ne_true]
    refine wf_nil ?_
    refine wf_nil ?_
    refine wf_consL ?_
    intro Ps
    refine wf_ret ?_
    refine we_local he ((kx _).trans (by rfl)) (by first | rfl | assumption) ?_
    exact h _ _ ⟨g1, g3, g4, g5⟩
theorem bisR_plain (B : Base w hb) (he : EnvOk env) (kx : ∀ x, env.kindOf x = (scopeOf (st 2)).names.lookup x) {a : Addr} {l : List PV} {x : PV} {lo hi : Nat} {c : Nat → Bool} {Φ : Out → Rho → PH → Prop} (at_ : BisAt ρ a x .none lo hi) (e : H a = some l) (hl : hi ≤ l.length) (hll : l.length < 2 ^ 62) (hlo : lo ≤ hi)
    (cmp : ∀ mid p, l[mid]? = some p → WO w hb os n H [x, p] (two (compareOp .Lt)) (fun r H2 => r = .bool (!c mid) ∧ PH.le H H2))
    (mono : ∀ i j, i ≤ j → j < hi → c j = true → c i = true)
    (h : ∀ r ρ', Found c lo hi r → Φ (.ret (.int (r : Int))) ρ' H) : WF w hb os n env ρ H (execs ((bodyOf (st 2)).drop 2) env) Φ := by
  refine wf_consL ?_
  intro Ps
  refine wf_if ?_
  have hk := at_.key
  refine wb_cmpL B ?_
  intro Ps
  refine we_local he ((kx _).trans (by rfl)) (by first | rfl | assumption) ?_
  refine we_nonec ?_
  refine ⟨true, rfl, ?_⟩
  rw [if_pos rfl]
  refine wf_consL ?_
  intro Ps
  refine wf_while (BisJ ρ H a x .none c lo hi) (hi - lo) ⟨rfl, lo, hi, at_, rfl, Nat.le_refl _, hlo, Nat.le_refl _, fun i h1 h2 => by omega, fun i h1 h2 => by omega⟩ ?_
  rintro m ρ1 H1 ⟨rfl, lo1, hi1, at1, rfl, g1, g2, g3, g4, g5⟩
  have ⟨a1, a2, a3, a4, a5⟩ := at1
  refine wb_cmpL B ?_
  intro Ps
  refine we_local he ((kx _).trans (by rfl)) (by first | rfl | assumption) ?_
  refine we_local he ((kx _).trans (by rfl)) (by first | rfl | assumption) ?_
  refine ⟨_, rfl, ?_⟩
  by_cases hlt : lo1 < hi1
  · have hd : decide ((lo1 : Int) < (hi1 : Int)) = true := decide_eq_true (by omega)
    rw [if_pos hd]
    obtain ⟨m1, m2⟩ := bis_mid hlt
    refine wf_consL ?_
    intro Ps
    refine @wf_assign _ _ _ _ _ _ _ _ _ _ _ _ he (.inl ((kx _).trans (by rfl))) ?_ (by rfl)
    refine we_binopL ?_
    intro Ps
    refine we_binopL ?_
    intro Ps
    refine we_local he ((kx _).trans (by rfl)) (by first | rfl | assumption) ?_
    refine we_local he ((kx _).trans (by rfl)) (by first | rfl | assumption) ?_
    refine we_intc ?_
    refine ⟨⟨by decide, pylong2⟩, ?_⟩
    rw [fdiv2]
    obtain ⟨p, hp⟩ : ∃ p, l[(lo1 + hi1) / 2]? = some p := ⟨_, List.getElem?_eq_getElem (by omega)⟩
    refine wf_consL ?_
    intro Ps
    refine wf_if (WB.drop (Φ := fun b H' => b = !c ((lo1 + hi1) / 2) ∧ PH.le H1 H') ?_ ?_)
    · refine wb_cmp1 ?_
      refine we_local he ((kx _).trans (by rfl)) (by first | rfl | assumption) ?_
      refine we_indexL ?_
      intro Ps
      refine we_local he ((kx _).trans (by rfl)) (by first | rfl | assumption) ?_
      refine we_local he ((kx _).trans (by rfl)) (by first | rfl | assumption) ?_
      refine ⟨l, (lo1 + hi1) / 2, p, e, hll, seqIndex_nat (by omega), hp, ?_⟩
      exact (cmp _ _ hp).mono fun r H3 hr => ⟨_, hr.1, rfl, hr.2⟩
    rintro b H2 ⟨rfl, hle⟩
    refine ⟨H1, hle, ?_⟩
    cases hc : c ((lo1 + hi1) / 2) with
    | true =>
      rw [if_neg (by decide)]
      refine wf_consL ?_
      intro Ps
      refine @wf_assign _ _ _ _ _ _ _ _ _ _ _ _ he (.inl ((kx _).trans (by rfl))) ?_ (by rfl)
      refine we_binopL ?_
      intro Ps
      refine we_local he ((kx _).trans (by rfl)) (by first | rfl | assumption) ?_
      refine we_intc ?_
      refine wf_nil ?_
      refine wf_nil ?_
      have ei : (((lo1 + hi1) / 2 : Nat) : Int) + 1 = (((lo1 + hi1) / 2 + 1 : Nat) : Int) := by omega
      rw [ei]
      refine ⟨_, ?_, rfl, _, _, at1.up _ _, rfl, by omega, by omega, g3, fun i h1 h2 => ?_, g5⟩
      · omega
      · exact mono i ((lo1 + hi1) / 2) (by omega) (by omega) hc
    | false =>
      rw [if_pos (by decide)]
      refine wf_consL ?_
      intro Ps
      refine @wf_assign _ _ _ _ _ _ _ _ _ _ _ _ he (.inl ((kx _).trans (by rfl))) ?_ (by rfl)
      refine we_local he ((kx _).trans (by rfl)) (by first | rfl | assumption) ?_
      refine wf_nil ?_
      refine wf_nil ?_
      refine ⟨_, ?_, rfl, _, _, at1.down _ _, rfl, g1, by omega, by omega, g4, fun i h1 h2 => ?_⟩
      · omega
      · cases hci : c i with
        | false => rfl
        | true => rw [mono _ i h1 h2 hci] at hc; cases hc
  · have hd : decide ((lo1 : Int) < (hi1 : Int)) = false := decide_eq_false (by omega)
    have : lo1 = hi1 := by omega
    subst this
    rw [hd, if_neg Bool.false_ne_true]
    refine wf_nil ?_
    refine wf_nil ?_
    refine wf_consL ?_
    intro Ps
    refine wf_ret ?_
    refine we_local he ((kx _).trans (by rfl)) (by first | rfl | assumption) ?_
    exact h _ _ ⟨g1, g3, g4, g5⟩
theorem bisR_key (B : Base w hb) (he : EnvOk env) (kx : ∀ x, env.kindOf x = (scopeOf (st 2)).names.lookup x) {a f : Addr} {l : List PV} {x : PV} {lo hi : Nat} {c : Nat → Bool} {Φ : Out → Rho → PH → Prop} (at_ : BisAt ρ a x (.fn f) lo hi) (e : H a = some l) (hl : hi ≤ l.length) (hll : l.length < 2 ^ 62) (hlo : lo ≤ hi) (hcal : Callee w hb (.ref f))
    (cmp : ∀ mid p, l[mid]? = some p → WC w hb os n H (.ref f) [p] [] (fun q H1 => WO w hb os n H1 [x, q] (two (compareOp .Lt)) (fun r H2 => r = .bool (!c mid) ∧ PH.le H H2)))
    (mono : ∀ i j, i ≤ j → j < hi → c j = true → c i = true)
    (h : ∀ r ρ', Found c lo hi r → Φ (.ret (.int (r : Int))) ρ' H) : WF w hb os n env ρ H (execs ((bodyOf (st 2)).drop 2) env) Φ := by
  refine wf_consL ?_
  intro Ps
  refine wf_if ?_
  have hk := at_.key
  refine wb_cmpL B ?_
  intro Ps
  refine we_local he ((kx _).trans (by rfl)) (by first | rfl | assumption) ?_
  refine we_nonec ?_
  refine ⟨false, rfl, ?_⟩
  rw [if_neg Bool.false_ne_true]
  refine wf_consL ?_
  intro Ps
  refine wf_while (BisJ ρ H a x (.fn f) c lo hi) (hi - lo) ⟨rfl, lo, hi, at_, rfl, Nat.le_refl _, hlo, Nat.le_refl _, fun i h1 h2 => by omega, fun i h1 h2 => by omega⟩ ?_
  rintro m ρ1 H1 ⟨rfl, lo1, hi1, at1, rfl, g1, g2, g3, g4, g5⟩
  have ⟨a1, a2, a3, a4, a5⟩ := at1
  refine wb_cmpL B ?_
  intro Ps
  refine we_local he ((kx _).trans (by rfl)) (by first | rfl | assumption) ?_
  refine we_local he ((kx _).trans (by rfl)) (by first | rfl | assumption) ?_
  refine ⟨_, rfl, ?_⟩
  by_cases hlt : lo1 < hi1
  · have hd : decide ((lo1 : Int) < (hi1 : Int)) = true := decide_eq_true (by omega)
    rw [if_pos hd]
    obtain ⟨m1, m2⟩ := bis_mid hlt
    refine wf_consL ?_
    intro Ps
    refine @wf_assign _ _ _ _ _ _ _ _ _ _ _ _ he (.inl ((kx _).trans (by rfl))) ?_ (by rfl)
    refine we_binopL ?_
    intro Ps
    refine we_binopL ?_
    intro Ps
    refine we_local he ((kx _).trans (by rfl)) (by first | rfl | assumption) ?_
    refine we_local he ((kx _).trans (by rfl)) (by first | rfl | assumption) ?_
    refine we_intc ?_
    refine ⟨⟨by decide, pylong2⟩, ?_⟩
    rw [fdiv2]
    obtain ⟨p, hp⟩ : ∃ p, l[(lo1 + hi1) / 2]? = some p := ⟨_, List.getElem?_eq_getElem (by omega)⟩
    refine wf_consL ?_
    intro Ps
    refine wf_if (WB.drop (Φ := fun b H' => b = !c ((lo1 + hi1) / 2) ∧ PH.le H1 H') ?_ ?_)
    · refine wb_cmp1 ?_
      refine we_local he ((kx _).trans (by rfl)) (by first | rfl | assumption) ?_
      refine we_callL ?_
      intro Ps
      refine we_local he ((kx _).trans (by rfl)) (by first | rfl | assumption) ?_
      refine ⟨_, .fn, hcal, ?_⟩
      refine WTs.cons ?_
      refine we_indexL ?_
      intro Ps
      refine we_local he ((kx _).trans (by rfl)) (by first | rfl | assumption) ?_
      refine we_local he ((kx _).trans (by rfl)) (by first | rfl | assumption) ?_
      refine ⟨l, (lo1 + hi1) / 2, p, e, hll, seqIndex_nat (by omega), hp, ?_⟩
      refine WTs.nil (WKs.nil ⟨rfl, ?_⟩)
      refine (cmp _ _ hp).mono fun q H2 hq => ?_
      exact hq.mono fun r H3 hr => ⟨_, hr.1, rfl, hr.2⟩
    rintro b H2 ⟨rfl, hle⟩
    refine ⟨H1, hle, ?_⟩
    cases hc : c ((lo1 + hi1) / 2) with
    | true =>
      rw [if_neg (by decide)]
      refine wf_consL ?_
      intro Ps
      refine @wf_assign _ _ _ _ _ _ _ _ _ _ _ _ he (.inl ((kx _).trans (by rfl))) ?_ (by rfl)
      refine we_binopL ?_
      intro Ps
      refine we_local he ((kx _).trans (by rfl)) (by first | rfl | assumption) ?_
      refine we_intc ?_
      refine wf_nil ?_
      refine wf_nil ?_
      have ei : (((lo1 + hi1) / 2 : Nat) : Int) + 1 = (((lo1 + hi1) / 2 + 1 : Nat) : Int) := by omega
      rw [ei]
      refine ⟨_, ?_, rfl, _, _, at1.up _ _, rfl, by omega, by omega, g3, fun i h1 h2 => ?_, g5⟩
      · omega
      · exact mono i ((lo1 + hi1) / 2) (by omega) (by omega) hc
    | false =>
      rw [if_pos (by decide)]
      refine wf_consL ?_
      intro Ps
      refine @wf_assign _ _ _ _ _ _ _ _ _ _ _ _ he (.inl ((kx _).trans (by rfl))) ?_ (by rfl)
      refine we_local he ((kx _).trans (by rfl)) (by first | rfl | assumption) ?_
      refine wf_nil ?_
      refine wf_nil ?_
      refine ⟨_, ?_, rfl, _, _, at1.down _ _, rfl, g1, by omega, by omega, g4, fun i h1 h2 => ?_⟩
      · omega
      · cases hci : c i with
        | false => rfl
        | true => rw [mono _ i h1 h2 hci] at hc; cases hc
  · have hd : decide ((lo1 : Int) < (hi1 : Int)) = false := decide_eq_false (by omega)
    have : lo1 = hi1 := by omega
    subst this
    rw [hd, if_neg Bool.false_ne_true]
    refine wf_nil ?_
    refine wf_nil ?_
    refine wf_consL ?_
    intro Ps
    refine wf_ret ?_
    refine we_local he ((kx _).trans (by rfl)) (by first | rfl | assumption) ?_
    exact h _ _ ⟨g1, g3, g4, g5⟩
noncomputable abbrev PlainL (w : World) (hb : Heap) (os : OsState) (n : Nat) (H : PH) (l : List PV) (x : PV) (c : Nat → Bool) : Prop := ∀ mid p, l[mid]? = some p → WO w hb os n H [p, x] (two (compareOp .Lt)) (fun r H2 => r = .bool (c mid) ∧ PH.le H H2)
noncomputable abbrev KeyL (w : World) (hb : Heap) (os : OsState) (n : Nat) (H : PH) (f : Addr) (l : List PV) (x : PV) (c : Nat → Bool) : Prop := Callee w hb (.ref f) ∧ ∀ mid p, l[mid]? = some p → WC w hb os n H (.ref f) [p] [] (fun q H1 => WO w hb os n H1 [q, x] (two (compareOp .Lt)) (fun r H2 => r = .bool (c mid) ∧ PH.le H H2))
theorem bisL_front (B : Base w hb) (he : EnvOk env) (kx : ∀ x, env.kindOf x = (scopeOf (st 4)).names.lookup x) {a : Addr} {l : List PV} {x key hv : PV} {lo hi : Nat} {Φ : Out → Rho → PH → Prop} (h1 : ρ (S "a") = some (.ref a)) (h2 : ρ (S "x") = some x) (h3 : ρ (S "lo") = some (.int (lo : Int))) (h4 : ρ (S "hi") = some hv) (h5 : ρ (S "key") = some key)
    (hhv : (hv = .none ∧ hi = l.length) ∨ hv = .int (hi : Int)) (e : H a = some l) (hll : l.length < 2 ^ 62)
    (tail : ∀ ρ', BisAt ρ' a x key lo hi → WF w hb os n env ρ' H (execs ((bodyOf (st 4)).drop 2) env) Φ) : WF w hb os n env ρ H (execs (bodyOf (st 4)) env) Φ := by
  refine wf_consL ?_
  intro Ps
  refine wf_if ?_
  refine wb_cmpL B ?_
  intro Ps
  refine we_local he ((kx _).trans (by rfl)) (by first | rfl | assumption) ?_
  refine we_intc ?_
  refine ⟨_, rfl, ?_⟩
  have hd : decide ((lo : Int) < 0) = false := decide_eq_false (by omega)
  rw [hd, if_neg Bool.false_ne_true]
  refine wf_nil ?_
  refine wf_consL ?_
  intro Ps
  refine wf_if ?_
  refine wb_cmpL B ?_
  intro Ps
  refine we_local he ((kx _).trans (by rfl)) (by first | rfl | assumption) ?_
  refine we_nonec ?_
  rcases hhv with ⟨rfl, rfl⟩ | rfl
  · refine ⟨true, rfl, ?_⟩
    rw [if_pos rfl]
    refine wf_consL ?_
    intro Ps
    refine @wf_assign _ _ _ _ _ _ _ _ _ _ _ _ he (.inl ((kx _).trans (by rfl))) ?_ (by rfl)
    refine we_callL ?_
    intro Ps
    refine we_builtin B he ((kx _).trans (by rfl)) (by rfl) (by rfl) (fun _ => .blt) ⟨_, .blt, callee_blt, ?_⟩
    refine WTs.cons ?_
    refine we_local he ((kx _).trans (by rfl)) (by first | rfl | assumption) ?_
    refine WTs.nil (WKs.nil ⟨rfl, ?_⟩)
    refine wc_len e (by omega) ?_
    refine wf_nil ?_
    exact tail _ ⟨h1, h2, h3, rfl, h5⟩
  · refine ⟨false, rfl, ?_⟩
    rw [if_neg Bool.false_ne_true]
    refine wf_nil ?_
    exact tail _ ⟨h1, h2, h3, h4, h5⟩
noncomputable abbrev PlainR (w : World) (hb : Heap) (os : OsState) (n : Nat) (H : PH) (l : List PV) (x : PV) (c : Nat → Bool) : Prop := ∀ mid p, l[mid]? = some p → WO w hb os n H [x, p] (two (compareOp .Lt)) (fun r H2 => r = .bool (!c mid) ∧ PH.le H H2)
noncomputable abbrev KeyR (w : World) (hb : Heap) (os : OsState) (n : Nat) (H : PH) (f : Addr) (l : List PV) (x : PV) (c : Nat → Bool) : Prop := Callee w hb (.ref f) ∧ ∀ mid p, l[mid]? = some p → WC w hb os n H (.ref f) [p] [] (fun q H1 => WO w hb os n H1 [x, q] (two (compareOp .Lt)) (fun r H2 => r = .bool (!c mid) ∧ PH.le H H2))
theorem bisR_front (B : Base w hb) (he : EnvOk env) (kx : ∀ x, env.kindOf x = (scopeOf (st 2)).names.lookup x) {a : Addr} {l : List PV} {x key hv : PV} {lo hi : Nat} {Φ : Out → Rho → PH → Prop} (h1 : ρ (S "a") = some (.ref a)) (h2 : ρ (S "x") = some x) (h3 : ρ (S "lo") = some (.int (lo : Int))) (h4 : ρ (S "hi") = some hv) (h5 : ρ (S "key") = some key)
    (hhv : (hv = .none ∧ hi = l.length) ∨ hv = .int (hi : Int)) (e : H a = some l) (hll : l.length < 2 ^ 62)
    (tail : ∀ ρ', BisAt ρ' a x key lo hi → WF w hb os n env ρ' H (execs ((bodyOf (st 2)).drop 2) env) Φ) : WF w hb os n env ρ H (execs (bodyOf (st 2)) env) Φ := by
  refine wf_consL ?_
  intro Ps
  refine wf_if ?_
  refine wb_cmpL B ?_
  intro Ps
  refine we_local he ((kx _).trans (by rfl)) (by first | rfl | assumption) ?_
  refine we_intc ?_
  refine ⟨_, rfl, ?_⟩
  have hd : decide ((lo : Int) < 0) = false := decide_eq_false (by omega)
  rw [hd, if_neg Bool.false_ne_true]
  refine wf_nil ?_
  refine wf_consL ?_
  intro Ps
  refine wf_if ?_
  refine wb_cmpL B ?_
  intro Ps
  refine we_local he ((kx _).trans (by rfl)) (by first | rfl | assumption) ?_
  refine we_nonec ?_
  rcases hhv with ⟨rfl, rfl⟩ | rfl
  · refine ⟨true, rfl, ?_⟩
    rw [if_pos rfl]
    refine wf_consL ?_
    intro Ps
    refine @wf_assign _ _ _ _ _ _ _ _ _ _ _ _ he (.inl ((kx _).trans (by rfl))) ?_ (by rfl)
    refine we_callL ?_
    intro Ps
    refine we_builtin B he ((kx _).trans (by rfl)) (by rfl) (by rfl) (fun _ => .blt) ⟨_, .blt, callee_blt, ?_⟩
    refine WTs.cons ?_
    refine we_local he ((kx _).trans (by rfl)) (by first | rfl | assumption) ?_
    refine WTs.nil (WKs.nil ⟨rfl, ?_⟩)
    refine wc_len e (by omega) ?_
    refine wf_nil ?_
    exact tail _ ⟨h1, h2, h3, rfl, h5⟩
  · refine ⟨false, rfl, ?_⟩
    rw [if_neg Bool.false_ne_true]
    refine wf_nil ?_
    exact tail _ ⟨h1, h2, h3, h4, h5⟩
theorem bisL_P2 (B : Base w hb) {a : Addr} {l : List PV} {x : PV} {c : Nat → Bool} {Φ : PV → PH → Prop} (e : H a = some l) (hll : l.length < 2 ^ 62) (ask : PlainL w hb os n H l x c) (mono : ∀ i j, i ≤ j → j < l.length → c j = true → c i = true) (h : ∀ r : Nat, Found c 0 l.length r → Φ (.int (r : Int)) H) : WC w hb os (n + 1) H (.ref 50) [.ref a, x] [] Φ := by
  refine wc_def 4 (ns := [S "a", S "x", S "lo", S "hi", S "key"]) (pb := [(S "a", .ref a), (S "x", x), (S "lo", .int (0 : Int)), (S "hi", .none), (S "key", .none)]) B (B.K 50 _ (by rfl)) rfl ⟨49, _, _, _, rfl, B.K 49 _ (by rfl), rfl, rfl⟩ (binds_peek B ?_) rfl rfl rfl (by kernel_rfl) rfl rfl rfl ?_ rfl rfl rfl
  · intro σ vs ks hk r s
    cases r with | cons r1 r => cases r with | cons r2 r => 
    cases r
    cases s
    exact ⟨_, fun S => rfl, .cons r1 (.cons r2 (.cons .int (.cons .none (.cons .none .nil))))⟩
  · intro env he kx
    refine bisL_front (lo := 0) (hi := l.length) B he kx rfl rfl rfl rfl rfl (.inl ⟨rfl, rfl⟩) e hll fun ρ' at_ => ?_
    exact bisL_plain B he kx at_ e (Nat.le_refl _) hll (Nat.zero_le _) ask mono fun r ρ' hr => h r hr
theorem bisL_P2K (B : Base w hb) {a f : Addr} {l : List PV} {x : PV} {c : Nat → Bool} {Φ : PV → PH → Prop} (e : H a = some l) (hll : l.length < 2 ^ 62) (ask : KeyL w hb os n H f l x c) (mono : ∀ i j, i ≤ j → j < l.length → c j = true → c i = true) (h : ∀ r : Nat, Found c 0 l.length r → Φ (.int (r : Int)) H) : WC w hb os (n + 1) H (.ref 50) [.ref a, x] [(S "key", .fn f)] Φ := by
  refine wc_def 4 (ns := [S "a", S "x", S "lo", S "hi", S "key"]) (pb := [(S "a", .ref a), (S "x", x), (S "lo", .int (0 : Int)), (S "hi", .none), (S "key", .fn f)]) B (B.K 50 _ (by rfl)) rfl ⟨49, _, _, _, rfl, B.K 49 _ (by rfl), rfl, rfl⟩ (binds_peek B ?_) rfl rfl rfl (by kernel_rfl) rfl rfl rfl ?_ rfl rfl rfl
  · intro σ vs ks hk r s
    cases r with | cons r1 r => cases r with | cons r2 r => 
    cases r
    obtain ⟨u, rfl, ru⟩ := s.one
    exact ⟨_, fun S => rfl, .cons r1 (.cons r2 (.cons .int (.cons .none (.cons ru .nil))))⟩
  · intro env he kx
    refine bisL_front (lo := 0) (hi := l.length) B he kx rfl rfl rfl rfl rfl (.inl ⟨rfl, rfl⟩) e hll fun ρ' at_ => ?_
    exact bisL_key B he kx at_ e (Nat.le_refl _) hll (Nat.zero_le _) ask.1 ask.2 mono fun r ρ' hr => h r hr
theorem bisL_P3K (B : Base w hb) {a f : Addr} {l : List PV} {x : PV} {lo  : Nat} {c : Nat → Bool} {Φ : PV → PH → Prop} (hlo : lo ≤ l.length) (e : H a = some l) (hll : l.length < 2 ^ 62) (ask : KeyL w hb os n H f l x c) (mono : ∀ i j, i ≤ j → j < l.length → c j = true → c i = true) (h : ∀ r : Nat, Found c lo l.length r → Φ (.int (r : Int)) H) : WC w hb os (n + 1) H (.ref 50) [.ref a, x, .int (lo : Int)] [(S "key", .fn f)] Φ := by
  refine wc_def 4 (ns := [S "a", S "x", S "lo", S "hi", S "key"]) (pb := [(S "a", .ref a), (S "x", x), (S "lo", .int (lo : Int)), (S "hi", .none), (S "key", .fn f)]) B (B.K 50 _ (by rfl)) rfl ⟨49, _, _, _, rfl, B.K 49 _ (by rfl), rfl, rfl⟩ (binds_peek B ?_) rfl rfl rfl (by kernel_rfl) rfl rfl rfl ?_ rfl rfl rfl
  · intro σ vs ks hk r s
    cases r with | cons r1 r => cases r with | cons r2 r => cases r with | cons r3 r => 
    cases r
    obtain ⟨u, rfl, ru⟩ := s.one
    exact ⟨_, fun S => rfl, .cons r1 (.cons r2 (.cons r3 (.cons .none (.cons ru .nil))))⟩
  · intro env he kx
    refine bisL_front (lo := lo) (hi := l.length) B he kx rfl rfl rfl rfl rfl (.inl ⟨rfl, rfl⟩) e hll fun ρ' at_ => ?_
    exact bisL_key B he kx at_ e (Nat.le_refl _) hll hlo ask.1 ask.2 mono fun r ρ' hr => h r hr
theorem bisL_P4 (B : Base w hb) {a : Addr} {l : List PV} {x hv : PV} {lo hi : Nat} {c : Nat → Bool} {Φ : PV → PH → Prop} (hhv : (hv = .none ∧ hi = l.length) ∨ hv = .int (hi : Int)) (hl : hi ≤ l.length) (hlo : lo ≤ hi) (e : H a = some l) (hll : l.length < 2 ^ 62) (ask : PlainL w hb os n H l x c) (mono : ∀ i j, i ≤ j → j < hi → c j = true → c i = true) (h : ∀ r : Nat, Found c lo hi r → Φ (.int (r : Int)) H) : WC w hb os (n + 1) H (.ref 50) [.ref a, x, .int (lo : Int), hv] [] Φ := by
  refine wc_def 4 (ns := [S "a", S "x", S "lo", S "hi", S "key"]) (pb := [(S "a", .ref a), (S "x", x), (S "lo", .int (lo : Int)), (S "hi", hv), (S "key", .none)]) B (B.K 50 _ (by rfl)) rfl ⟨49, _, _, _, rfl, B.K 49 _ (by rfl), rfl, rfl⟩ (binds_peek B ?_) rfl rfl rfl (by kernel_rfl) rfl rfl rfl ?_ rfl rfl rfl
  · intro σ vs ks hk r s
    cases r with | cons r1 r => cases r with | cons r2 r => cases r with | cons r3 r => cases r with | cons r4 r => 
    cases r
    cases s
    exact ⟨_, fun S => rfl, .cons r1 (.cons r2 (.cons r3 (.cons r4 (.cons .none .nil))))⟩
  · intro env he kx
    refine bisL_front (lo := lo) (hi := hi) B he kx rfl rfl rfl rfl rfl hhv e hll fun ρ' at_ => ?_
    exact bisL_plain B he kx at_ e hl hll hlo ask mono fun r ρ' hr => h r hr
theorem bisL_P4K (B : Base w hb) {a f : Addr} {l : List PV} {x hv : PV} {lo hi : Nat} {c : Nat → Bool} {Φ : PV → PH → Prop} (hhv : (hv = .none ∧ hi = l.length) ∨ hv = .int (hi : Int)) (hl : hi ≤ l.length) (hlo : lo ≤ hi) (e : H a = some l) (hll : l.length < 2 ^ 62) (ask : KeyL w hb os n H f l x c) (mono : ∀ i j, i ≤ j → j < hi → c j = true → c i = true) (h : ∀ r : Nat, Found c lo hi r → Φ (.int (r : Int)) H) : WC w hb os (n + 1) H (.ref 50) [.ref a, x, .int (lo : Int), hv] [(S "key", .fn f)] Φ := by
  refine wc_def 4 (ns := [S "a", S "x", S "lo", S "hi", S "key"]) (pb := [(S "a", .ref a), (S "x", x), (S "lo", .int (lo : Int)), (S "hi", hv), (S "key", .fn f)]) B (B.K 50 _ (by rfl)) rfl ⟨49, _, _, _, rfl, B.K 49 _ (by rfl), rfl, rfl⟩ (binds_peek B ?_) rfl rfl rfl (by kernel_rfl) rfl rfl rfl ?_ rfl rfl rfl
  · intro σ vs ks hk r s
    cases r with | cons r1 r => cases r with | cons r2 r => cases r with | cons r3 r => cases r with | cons r4 r => 
    cases r
    obtain ⟨u, rfl, ru⟩ := s.one
    exact ⟨_, fun S => rfl, .cons r1 (.cons r2 (.cons r3 (.cons r4 (.cons ru .nil))))⟩
  · intro env he kx
    refine bisL_front (lo := lo) (hi := hi) B he kx rfl rfl rfl rfl rfl hhv e hll fun ρ' at_ => ?_
    exact bisL_key B he kx at_ e hl hll hlo ask.1 ask.2 mono fun r ρ' hr => h r hr
theorem bisR_P2 (B : Base w hb) {a : Addr} {l : List PV} {x : PV} {c : Nat → Bool} {Φ : PV → PH → Prop} (e : H a = some l) (hll : l.length < 2 ^ 62) (ask : PlainR w hb os n H l x c) (mono : ∀ i j, i ≤ j → j < l.length → c j = true → c i = true) (h : ∀ r : Nat, Found c 0 l.length r → Φ (.int (r : Int)) H) : WC w hb os (n + 1) H (.ref 32) [.ref a, x] [] Φ := by
  refine wc_def 2 (ns := [S "a", S "x", S "lo", S "hi", S "key"]) (pb := [(S "a", .ref a), (S "x", x), (S "lo", .int (0 : Int)), (S "hi", .none), (S "key", .none)]) B (B.K 32 _ (by rfl)) rfl ⟨31, _, _, _, rfl, B.K 31 _ (by rfl), rfl, rfl⟩ (binds_peek B ?_) rfl rfl rfl (by kernel_rfl) rfl rfl rfl ?_ rfl rfl rfl
  · intro σ vs ks hk r s
    cases r with | cons r1 r => cases r with | cons r2 r => 
    cases r
    cases s
    exact ⟨_, fun S => rfl, .cons r1 (.cons r2 (.cons .int (.cons .none (.cons .none .nil))))⟩
  · intro env he kx
    refine bisR_front (lo := 0) (hi := l.length) B he kx rfl rfl rfl rfl rfl (.inl ⟨rfl, rfl⟩) e hll fun ρ' at_ => ?_
    exact bisR_plain B he kx at_ e (Nat.le_refl _) hll (Nat.zero_le _) ask mono fun r ρ' hr => h r hr
theorem bisR_P2K (B : Base w hb) {a f : Addr} {l : List PV} {x : PV} {c : Nat → Bool} {Φ : PV → PH → Prop} (e : H a = some l) (hll : l.length < 2 ^ 62) (ask : KeyR w hb os n H f l x c) (mono : ∀ i j, i ≤ j → j < l.length → c j = true → c i = true) (h : ∀ r : Nat, Found c 0 l.length r → Φ (.int (r : Int)) H) : WC w hb os (n + 1) H (.ref 32) [.ref a, x] [(S "key", .fn f)] Φ := by
  refine wc_def 2 (ns := [S "a", S "x", S "lo", S "hi", S "key"]) (pb := [(S "a", .ref a), (S "x", x), (S "lo", .int (0 : Int)), (S "hi", .none), (S "key", .fn f)]) B (B.K 32 _ (by rfl)) rfl ⟨31, _, _, _, rfl, B.K 31 _ (by rfl), rfl, rfl⟩ (binds_peek B ?_) rfl rfl rfl (by kernel_rfl) rfl rfl rfl ?_ rfl rfl rfl
  · intro σ vs ks hk r s
    cases r with | cons r1 r => cases r with | cons r2 r => 
    cases r
    obtain ⟨u, rfl, ru⟩ := s.one
    exact ⟨_, fun S => rfl, .cons r1 (.cons r2 (.cons .int (.cons .none (.cons ru .nil))))⟩
  · intro env he kx
    refine bisR_front (lo := 0) (hi := l.length) B he kx rfl rfl rfl rfl rfl (.inl ⟨rfl, rfl⟩) e hll fun ρ' at_ => ?_
    exact bisR_key B he kx at_ e (Nat.le_refl _) hll (Nat.zero_le _) ask.1 ask.2 mono fun r ρ' hr => h r hr
theorem bisR_P3K (B : Base w hb) {a f : Addr} {l : List PV} {x : PV} {lo  : Nat} {c : Nat → Bool} {Φ : PV → PH → Prop} (hlo : lo ≤ l.length) (e : H a = some l) (hll : l.length < 2 ^ 62) (ask : KeyR w hb os n H f l x c) (mono : ∀ i j, i ≤ j → j < l.length → c j = true → c i = true) (h : ∀ r : Nat, Found c lo l.length r → Φ (.int (r : Int)) H) : WC w hb os (n + 1) H (.ref 32) [.ref a, x, .int (lo : Int)] [(S "key", .fn f)] Φ := by
  refine wc_def 2 (ns := [S "a", S "x", S "lo", S "hi", S "key"]) (pb := [(S "a", .ref a), (S "x", x), (S "lo", .int (lo : Int)), (S "hi", .none), (S "key", .fn f)]) B (B.K 32 _ (by rfl)) rfl ⟨31, _, _, _, rfl, B.K 31 _ (by rfl), rfl, rfl⟩ (binds_peek B ?_) rfl rfl rfl (by kernel_rfl) rfl rfl rfl ?_ rfl rfl rfl
  · intro σ vs ks hk r s
    cases r with | cons r1 r => cases r with | cons r2 r => cases r with | cons r3 r => 
    cases r
    obtain ⟨u, rfl, ru⟩ := s.one
    exact ⟨_, fun S => rfl, .cons r1 (.cons r2 (.cons r3 (.cons .none (.cons ru .nil))))⟩
  · intro env he kx
    refine bisR_front (lo := lo) (hi := l.length) B he kx rfl rfl rfl rfl rfl (.inl ⟨rfl, rfl⟩) e hll fun ρ' at_ => ?_
    exact bisR_key B he kx at_ e (Nat.le_refl _) hll hlo ask.1 ask.2 mono fun r ρ' hr => h r hr
theorem bisR_P4 (B : Base w hb) {a : Addr} {l : List PV} {x hv : PV} {lo hi : Nat} {c : Nat → Bool} {Φ : PV → PH → Prop} (hhv : (hv = .none ∧ hi = l.length) ∨ hv = .int (hi : Int)) (hl : hi ≤ l.length) (hlo : lo ≤ hi) (e : H a = some l) (hll : l.length < 2 ^ 62) (ask : PlainR w hb os n H l x c) (mono : ∀ i j, i ≤ j → j < hi → c j = true → c i = true) (h : ∀ r : Nat, Found c lo hi r → Φ (.int (r : Int)) H) : WC w hb os (n + 1) H (.ref 32) [.ref a, x, .int (lo : Int), hv] [] Φ := by
  refine wc_def 2 (ns := [S "a", S "x", S "lo", S "hi", S "key"]) (pb := [(S "a", .ref a), (S "x", x), (S "lo", .int (lo : Int)), (S "hi", hv), (S "key", .none)]) B (B.K 32 _ (by rfl)) rfl ⟨31, _, _, _, rfl, B.K 31 _ (by rfl), rfl, rfl⟩ (binds_peek B ?_) rfl rfl rfl (by kernel_rfl) rfl rfl rfl ?_ rfl rfl rfl
  · intro σ vs ks hk r s
    cases r with | cons r1 r => cases r with | cons r2 r => cases r with | cons r3 r => cases r with | cons r4 r => 
    cases r
    cases s
    exact ⟨_, fun S => rfl, .cons r1 (.cons r2 (.cons r3 (.cons r4 (.cons .none .nil))))⟩
  · intro env he kx
    refine bisR_front (lo := lo) (hi := hi) B he kx rfl rfl rfl rfl rfl hhv e hll fun ρ' at_ => ?_
    exact bisR_plain B he kx at_ e hl hll hlo ask mono fun r ρ' hr => h r hr
theorem bisR_P4K (B : Base w hb) {a f : Addr} {l : List PV} {x hv : PV} {lo hi : Nat} {c : Nat → Bool} {Φ : PV → PH → Prop} (hhv : (hv = .none ∧ hi = l.length) ∨ hv = .int (hi : Int)) (hl : hi ≤ l.length) (hlo : lo ≤ hi) (e : H a = some l) (hll : l.length < 2 ^ 62) (ask : KeyR w hb os n H f l x c) (mono : ∀ i j, i ≤ j → j < hi → c j = true → c i = true) (h : ∀ r : Nat, Found c lo hi r → Φ (.int (r : Int)) H) : WC w hb os (n + 1) H (.ref 32) [.ref a, x, .int (lo : Int), hv] [(S "key", .fn f)] Φ := by
  refine wc_def 2 (ns := [S "a", S "x", S "lo", S "hi", S "key"]) (pb := [(S "a", .ref a), (S "x", x), (S "lo", .int (lo : Int)), (S "hi", hv), (S "key", .fn f)]) B (B.K 32 _ (by rfl)) rfl ⟨31, _, _, _, rfl, B.K 31 _ (by rfl), rfl, rfl⟩ (binds_peek B ?_) rfl rfl rfl (by kernel_rfl) rfl rfl rfl ?_ rfl rfl rfl
  · intro σ vs ks hk r s
    cases r with | cons r1 r => cases r with | cons r2 r => cases r with | cons r3 r => cases r with | cons r4 r => 
    cases r
    obtain ⟨u, rfl, ru⟩ := s.one
    exact ⟨_, fun S => rfl, .cons r1 (.cons r2 (.cons r3 (.cons r4 (.cons ru .nil))))⟩
  · intro env he kx
    refine bisR_front (lo := lo) (hi := hi) B he kx rfl rfl rfl rfl rfl hhv e hll fun ρ' at_ => ?_
    exact bisR_key B he kx at_ e hl hll hlo ask.1 ask.2 mono fun r ρ' hr => h r hr
end
end Mine
end

-- part V4
set_option linter.all false
noncomputable section
namespace Mine
open PySem PySem.W PySem.Calls PyProof.Rows
set_option Elab.async false
set_option maxRecDepth 100000
section
variable {w : World} {hb : Heap} {os : OsState} {n : Nat} {H : PH} {env : Env} {ρ : Rho}
theorem PH.le.set {H1 : PH} {a : Addr} {l : List PV} (h : PH.le H H1) : PH.le (H.set a l) (H1.set a l) := fun b l' e => by
  unfold PH.set at e ⊢
  split
  · rename_i h'; rw [if_pos h'] at e; exact e
  · rename_i h'; rw [if_neg h'] at e; exact h b l' e
noncomputable abbrev insAt (l : List PV) (r : Nat) (x : PV) : List PV := l.take r ++ x :: l.drop r
theorem inter_fn (he : EnvOk env) : interactive env = false := by unfold interactive; rw [he.kind]; rfl
theorem line62 {k : Nat} (h : k ≤ sizeLine) : k < 2 ^ 62 := Nat.lt_of_le_of_lt h (by decide)
theorem insL_plain (B : Base w hb) (he : EnvOk env) (kx : ∀ x, env.kindOf x = (scopeOf (st 3)).names.lookup x) {a : Addr} {l : List PV} {x hv : PV} {lo hi : Nat} {c : Nat → Bool} {Φ : Out → Rho → PH → Prop} (h1 : ρ (S "a") = some (.ref a)) (h2 : ρ (S "x") = some x) (h3 : ρ (S "lo") = some (.int (lo : Int))) (h4 : ρ (S "hi") = some hv) (h5 : ρ (S "key") = some .none)
    (hhv : (hv = .none ∧ hi = l.length) ∨ hv = .int (hi : Int)) (hl : hi ≤ l.length) (hlo : lo ≤ hi) (e : H a = some l) (hll : l.length ≤ sizeLine) (ask : PlainL w hb os n H l x c) (mono : ∀ i j, i ≤ j → j < hi → c j = true → c i = true)
    (h : ∀ r ρ', Found c lo hi r → Φ .next ρ' (H.set a (insAt l r x))) : WF w hb os (n + 1) env ρ H (execs (bodyOf (st 3)) env) Φ := by
  refine wf_consL ?_
  intro Ps
  refine wf_if ?_
  refine wb_cmpL B ?_
  intro Ps
  refine we_local he ((kx _).trans (by rfl)) (by first | rfl | assumption) ?_
  refine we_nonec ?_
  refine ⟨true, rfl, ?_⟩
  rw [if_pos rfl]
  refine wf_consL ?_
  intro Ps
  refine @wf_assign _ _ _ _ _ _ _ _ _ _ _ _ he (.inl ((kx _).trans (by rfl))) ?_ (by rfl)
  refine we_callL ?_
  intro Ps
  refine we_glob B he ((kx _).trans (by rfl)) (by rfl) ⟨_, .fn, callee_fn (B.K 50 _ (by rfl)) rfl, ?_⟩
  refine WTs.cons ?_
  refine we_local he ((kx _).trans (by rfl)) (by first | rfl | assumption) ?_
  refine WTs.cons ?_
  refine we_local he ((kx _).trans (by rfl)) (by first | rfl | assumption) ?_
  refine WTs.cons ?_
  refine we_local he ((kx _).trans (by rfl)) (by first | rfl | assumption) ?_
  refine WTs.cons ?_
  refine we_local he ((kx _).trans (by rfl)) (by first | rfl | assumption) ?_
  refine WTs.nil (WKs.nil ⟨rfl, ?_⟩)
  refine bisL_P4 B (l := l) (lo := lo) (hi := hi) hhv hl hlo e (line62 hll) ask mono fun r hr => ?_
  refine wf_nil ?_
  refine wf_consL ?_
  intro Ps
  refine wf_expr (hi := inter_fn he) ?_
  refine we_methx F.plainAttrs_list F.slot_list_insert ?_
  refine we_local he ((kx _).trans (by rfl)) (by first | rfl | assumption) ?_
  refine ⟨list_recv e, ?_⟩
  refine WTs.cons ?_
  refine we_local he ((kx _).trans (by rfl)) (by first | rfl | assumption) ?_
  refine WTs.cons ?_
  refine we_local he ((kx _).trans (by rfl)) (by first | rfl | assumption) ?_
  refine WTs.nil ?_
  refine wc_insert e hll (Nat.le_trans hr.2.1 hl) ⟨rfl, ?_⟩
  refine wf_nil ?_
  exact h r _ hr
theorem insL_key (B : Base w hb) (he : EnvOk env) (kx : ∀ x, env.kindOf x = (scopeOf (st 3)).names.lookup x) {a f : Addr} {l : List PV} {x hv : PV} {lo hi : Nat} {c : Nat → Bool} {Φ : Out → Rho → PH → Prop} (h1 : ρ (S "a") = some (.ref a)) (h2 : ρ (S "x") = some x) (h3 : ρ (S "lo") = some (.int (lo : Int))) (h4 : ρ (S "hi") = some hv) (h5 : ρ (S "key") = some (.fn f))
    (hhv : (hv = .none ∧ hi = l.length) ∨ hv = .int (hi : Int)) (hl : hi ≤ l.length) (hlo : lo ≤ hi) (e : H a = some l) (hll : l.length ≤ sizeLine) (hcal : Callee w hb (.ref f)) (ask : WC w hb os (n + 1) H (.ref f) [x] [] fun q H1 => PH.le H H1 ∧ KeyL w hb os n H1 f l q c) (mono : ∀ i j, i ≤ j → j < hi → c j = true → c i = true)
    (h : ∀ r ρ' H1, Found c lo hi r → PH.le H H1 → Φ .next ρ' (H1.set a (insAt l r x))) : WF w hb os (n + 1) env ρ H (execs (bodyOf (st 3)) env) Φ := by
  refine wf_consL ?_
  intro Ps
  refine wf_if ?_
  refine wb_cmpL B ?_
  intro Ps
  refine we_local he ((kx _).trans (by rfl)) (by first | rfl | assumption) ?_
  refine we_nonec ?_
  refine ⟨false, rfl, ?_⟩
  rw [if_neg Bool.false_ne_true]
  refine wf_consL ?_
  intro Ps
  refine @wf_assign _ _ _ _ _ _ _ _ _ _ _ _ he (.inl ((kx _).trans (by rfl))) ?_ (by rfl)
  refine we_callL ?_
  intro Ps
  refine we_glob B he ((kx _).trans (by rfl)) (by rfl) ⟨_, .fn, callee_fn (B.K 50 _ (by rfl)) rfl, ?_⟩
  refine WTs.cons ?_
  refine we_local he ((kx _).trans (by rfl)) (by first | rfl | assumption) ?_
  refine WTs.cons ?_
  refine we_callL ?_
  intro Ps
  refine we_local he ((kx _).trans (by rfl)) (by first | rfl | assumption) ?_
  refine ⟨_, .fn, hcal, ?_⟩
  refine WTs.cons ?_
  refine we_local he ((kx _).trans (by rfl)) (by first | rfl | assumption) ?_
  refine WTs.nil (WKs.nil ⟨rfl, ?_⟩)
  refine ask.mono fun q H1 hq => ?_
  refine WTs.cons ?_
  refine we_local he ((kx _).trans (by rfl)) (by first | rfl | assumption) ?_
  refine WTs.cons ?_
  refine we_local he ((kx _).trans (by rfl)) (by first | rfl | assumption) ?_
  refine WTs.nil ?_
  refine WKs.cons (WT.stand ?_)
  refine we_local he ((kx _).trans (by rfl)) (by first | rfl | assumption) ?_
  refine WKs.nil ⟨rfl, ?_⟩
  refine bisL_P4K B (l := l) (lo := lo) (hi := hi) hhv hl hlo (hq.1 _ _ e) (line62 hll) hq.2 mono fun r hr => ?_
  refine wf_nil ?_
  refine wf_consL ?_
  intro Ps
  refine wf_expr (hi := inter_fn he) ?_
  refine we_methx F.plainAttrs_list F.slot_list_insert ?_
  refine we_local he ((kx _).trans (by rfl)) (by first | rfl | assumption) ?_
  refine ⟨list_recv (hq.1 _ _ e), ?_⟩
  refine WTs.cons ?_
  refine we_local he ((kx _).trans (by rfl)) (by first | rfl | assumption) ?_
  refine WTs.cons ?_
  refine we_local he ((kx _).trans (by rfl)) (by first | rfl | assumption) ?_
  refine WTs.nil ?_
  refine wc_insert (hq.1 _ _ e) hll (Nat.le_trans hr.2.1 hl) ⟨rfl, ?_⟩
  refine wf_nil ?_
  exact h r _ H1 hr hq.1
theorem insR_plain (B : Base w hb) (he : EnvOk env) (kx : ∀ x, env.kindOf x = (scopeOf (st 1)).names.lookup x) {a : Addr} {l : List PV} {x hv : PV} {lo hi : Nat} {c : Nat → Bool} {Φ : Out → Rho → PH → Prop} (h1 : ρ (S "a") = some (.ref a)) (h2 : ρ (S "x") = some x) (h3 : ρ (S "lo") = some (.int (lo : Int))) (h4 : ρ (S "hi") = some hv) (h5 : ρ (S "key") = some .none)
    (hhv : (hv = .none ∧ hi = l.length) ∨ hv = .int (hi : Int)) (hl : hi ≤ l.length) (hlo : lo ≤ hi) (e : H a = some l) (hll : l.length ≤ sizeLine) (ask : PlainR w hb os n H l x c) (mono : ∀ i j, i ≤ j → j < hi → c j = true → c i = true)
    (h : ∀ r ρ', Found c lo hi r → Φ .next ρ' (H.set a (insAt l r x))) : WF w hb os (n + 1) env ρ H (execs (bodyOf (st 1)) env) Φ := by
  refine wf_consL ?_
  intro Ps
  refine wf_if ?_
  refine wb_cmpL B ?_
  intro Ps
  refine we_local he ((kx _).trans (by rfl)) (by first | rfl | assumption) ?_
  refine we_nonec ?_
  refine ⟨true, rfl, ?_⟩
  rw [if_pos rfl]
  refine wf_consL ?_
  intro Ps
  refine @wf_assign _ _ _ _ _ _ _ _ _ _ _ _ he (.inl ((kx _).trans (by rfl))) ?_ (by rfl)
  refine we_callL ?_
  intro Ps
  refine we_glob B he ((kx _).trans (by rfl)) (by rfl) ⟨_, .fn, callee_fn (B.K 32 _ (by rfl)) rfl, ?_⟩
  refine WTs.cons ?_
  refine we_local he ((kx _).trans (by rfl)) (by first | rfl | assumption) ?_
  refine WTs.cons ?_
  refine we_local he ((kx _).trans (by rfl)) (by first | rfl | assumption) ?_
  refine WTs.cons ?_
  refine we_local he ((kx _).trans (by rfl)) (by first | rfl | assumption) ?_
  refine WTs.cons ?_
  refine we_local he ((kx _).trans (by rfl)) (by first | rfl | assumption) ?_
  refine WTs.nil (WKs.nil ⟨rfl, ?_⟩)
  refine bisR_P4 B (l := l) (lo := lo) (hi := hi) hhv hl hlo e (line62 hll) ask mono fun r hr => ?_
  refine wf_nil ?_
  refine wf_consL ?_
  intro Ps
  refine wf_expr (hi := inter_fn he) ?_
  refine we_methx F.plainAttrs_list F.slot_list_insert ?_
  refine we_local he ((kx _).trans (by rfl)) (by first | rfl | assumption) ?_
  refine ⟨list_recv e, ?_⟩
  refine WTs.cons ?_
  refine we_local he ((kx _).trans (by rfl)) (by first | rfl | assumption) ?_
  refine WTs.cons ?_
  refine we_local he ((kx _).trans (by rfl)) (by first | rfl | assumption) ?_
  refine WTs.nil ?_
  refine wc_insert e hll (Nat.le_trans hr.2.1 hl) ⟨rfl, ?_⟩
  refine wf_nil ?_
  exact h r _ hr
theorem insR_key (B : Base w hb) (he : EnvOk env) (kx : ∀ x, env.kindOf x = (scopeOf (st 1)).names.lookup x) {a f : Addr} {l : List PV} {x hv : PV} {lo hi : Nat} {c : Nat → Bool} {Φ : Out → Rho → PH → Prop} (h1 : ρ (S "a") = some (.ref a)) (h2 : ρ (S "x") = some x) (h3 : ρ (S "lo") = some (.int (lo : Int))) (h4 : ρ (S "hi") = some hv) (h5 : ρ (S "key") = some (.fn f))
    (hhv : (hv = .none ∧ hi = l.length) ∨ hv = .int (hi : Int)) (hl : hi ≤ l.length) (hlo : lo ≤ hi) (e : H a = some l) (hll : l.length ≤ sizeLine) (hcal : Callee w hb (.ref f)) (ask : WC w hb os (n + 1) H (.ref f) [x] [] fun q H1 => PH.le H H1 ∧ KeyR w hb os n H1 f l q c) (mono : ∀ i j, i ≤ j → j < hi → c j = true → c i = true)
    (h : ∀ r ρ' H1, Found c lo hi r → PH.le H H1 → Φ .next ρ' (H1.set a (insAt l r x))) : WF w hb os (n + 1) env ρ H (execs (bodyOf (st 1)) env) Φ := by
  refine wf_consL ?_
  intro Ps
  refine wf_if ?_
  refine wb_cmpL B ?_
  intro Ps
  refine we_local he ((kx _).trans (by rfl)) (by first | rfl | assumption) ?_
  refine we_nonec ?_
  refine ⟨false, rfl, ?_⟩
  rw [if_neg Bool.false_ne_true]
  refine wf_consL ?_
  intro Ps
  refine @wf_assign _ _ _ _ _ _ _ _ _ _ _ _ he (.inl ((kx _).trans (by rfl))) ?_ (by rfl)
  refine we_callL ?_
  intro Ps
  refine we_glob B he ((kx _).trans (by rfl)) (by rfl) ⟨_, .fn, callee_fn (B.K 32 _ (by rfl)) rfl, ?_⟩
  refine WTs.cons ?_
  refine we_local he ((kx _).trans (by rfl)) (by first | rfl | assumption) ?_
  refine WTs.cons ?_
  refine we_callL ?_
  intro Ps
  refine we_local he ((kx _).trans (by rfl)) (by first | rfl | assumption) ?_
  refine ⟨_, .fn, hcal, ?_⟩
  refine WTs.cons ?_
  refine we_local he ((kx _).trans (by rfl)) (by first | rfl | assumption) ?_
  refine WTs.nil (WKs.nil ⟨rfl, ?_⟩)
  refine ask.mono fun q H1 hq => ?_
  refine WTs.cons ?_
  refine we_local he ((kx _).trans (by rfl)) (by first | rfl | assumption) ?_
  refine WTs.cons ?_
  refine we_local he ((kx _).trans (by rfl)) (by first | rfl | assumption) ?_
  refine WTs.nil ?_
  refine WKs.cons (WT.stand ?_)
  refine we_local he ((kx _).trans (by rfl)) (by first | rfl | assumption) ?_
  refine WKs.nil ⟨rfl, ?_⟩
  refine bisR_P4K B (l := l) (lo := lo) (hi := hi) hhv hl hlo (hq.1 _ _ e) (line62 hll) hq.2 mono fun r hr => ?_
  refine wf_nil ?_
  refine wf_consL ?_
  intro Ps
  refine wf_expr (hi := inter_fn he) ?_
  refine we_methx F.plainAttrs_list F.slot_list_insert ?_
  refine we_local he ((kx _).trans (by rfl)) (by first | rfl | assumption) ?_
  refine ⟨list_recv (hq.1 _ _ e), ?_⟩
  refine WTs.cons ?_
  refine we_local he ((kx _).trans (by rfl)) (by first | rfl | assumption) ?_
  refine WTs.cons ?_
  refine we_local he ((kx _).trans (by rfl)) (by first | rfl | assumption) ?_
  refine WTs.nil ?_
  refine wc_insert (hq.1 _ _ e) hll (Nat.le_trans hr.2.1 hl) ⟨rfl, ?_⟩
  refine wf_nil ?_
  exact h r _ H1 hr hq.1
theorem insL_P2K (B : Base w hb) {a f : Addr} {l : List PV} {x : PV} {c : Nat → Bool} {Φ : PV → PH → Prop} (e : H a = some l) (hll : l.length ≤ sizeLine) (hcal : Callee w hb (.ref f)) (ask : WC w hb os (n + 1) H (.ref f) [x] [] fun q H1 => PH.le H H1 ∧ KeyL w hb os n H1 f l q c) (mono : ∀ i j, i ≤ j → j < l.length → c j = true → c i = true) (h : ∀ r : Nat, Found c 0 l.length r → Φ .none (H.set a (insAt l r x))) : WC w hb os (n + 2) H (.ref 41) [.ref a, x] [(S "key", .fn f)] Φ := by
  refine WC.drop (Φ := fun p H' => p = .none ∧ ∃ r, Found c 0 l.length r ∧ PH.le (H.set a (insAt l r x)) H') ?_ ?_
  case refine_2 =>
    rintro p H' ⟨rfl, r, hr, hle⟩
    exact ⟨_, hle, h r hr⟩
  refine wc_def 3 (ns := [S "a", S "x", S "lo", S "hi", S "key"]) (pb := [(S "a", .ref a), (S "x", x), (S "lo", .int (0 : Int)), (S "hi", .none), (S "key", .fn f)]) B (B.K 41 _ (by rfl)) rfl ⟨40, _, _, _, rfl, B.K 40 _ (by rfl), rfl, rfl⟩ (binds_peek B ?_) rfl rfl rfl (by kernel_rfl) rfl rfl rfl ?_ rfl rfl rfl
  · intro σ vs ks hk r s
    cases r with | cons r1 r => cases r with | cons r2 r => 
    cases r
    obtain ⟨u, rfl, ru⟩ := s.one
    exact ⟨_, fun S => rfl, .cons r1 (.cons r2 (.cons .int (.cons .none (.cons ru .nil))))⟩
  · intro env he kx
    exact insL_key (lo := 0) (hi := l.length) B he kx rfl rfl rfl rfl rfl (.inl ⟨rfl, rfl⟩) (Nat.le_refl _) (Nat.zero_le _) e hll hcal ask mono fun r ρ' H1 hr hle => ⟨rfl, r, hr, hle.set⟩
theorem insL_P3K (B : Base w hb) {a f : Addr} {l : List PV} {x : PV} {lo : Nat} {c : Nat → Bool} {Φ : PV → PH → Prop} (hlo : lo ≤ l.length) (e : H a = some l) (hll : l.length ≤ sizeLine) (hcal : Callee w hb (.ref f)) (ask : WC w hb os (n + 1) H (.ref f) [x] [] fun q H1 => PH.le H H1 ∧ KeyL w hb os n H1 f l q c) (mono : ∀ i j, i ≤ j → j < l.length → c j = true → c i = true) (h : ∀ r : Nat, Found c lo l.length r → Φ .none (H.set a (insAt l r x))) : WC w hb os (n + 2) H (.ref 41) [.ref a, x, .int (lo : Int)] [(S "key", .fn f)] Φ := by
  refine WC.drop (Φ := fun p H' => p = .none ∧ ∃ r, Found c lo l.length r ∧ PH.le (H.set a (insAt l r x)) H') ?_ ?_
  case refine_2 =>
    rintro p H' ⟨rfl, r, hr, hle⟩
    exact ⟨_, hle, h r hr⟩
  refine wc_def 3 (ns := [S "a", S "x", S "lo", S "hi", S "key"]) (pb := [(S "a", .ref a), (S "x", x), (S "lo", .int (lo : Int)), (S "hi", .none), (S "key", .fn f)]) B (B.K 41 _ (by rfl)) rfl ⟨40, _, _, _, rfl, B.K 40 _ (by rfl), rfl, rfl⟩ (binds_peek B ?_) rfl rfl rfl (by kernel_rfl) rfl rfl rfl ?_ rfl rfl rfl
  · intro σ vs ks hk r s
    cases r with | cons r1 r => cases r with | cons r2 r => cases r with | cons r3 r => 
    cases r
    obtain ⟨u, rfl, ru⟩ := s.one
    exact ⟨_, fun S => rfl, .cons r1 (.cons r2 (.cons r3 (.cons .none (.cons ru .nil))))⟩
  · intro env he kx
    exact insL_key (lo := lo) (hi := l.length) B he kx rfl rfl rfl rfl rfl (.inl ⟨rfl, rfl⟩) (Nat.le_refl _) hlo e hll hcal ask mono fun r ρ' H1 hr hle => ⟨rfl, r, hr, hle.set⟩
theorem insL_P4K (B : Base w hb) {a f : Addr} {l : List PV} {x : PV} {lo hi : Nat} {c : Nat → Bool} {Φ : PV → PH → Prop} (hl : hi ≤ l.length) (hlo : lo ≤ hi) (e : H a = some l) (hll : l.length ≤ sizeLine) (hcal : Callee w hb (.ref f)) (ask : WC w hb os (n + 1) H (.ref f) [x] [] fun q H1 => PH.le H H1 ∧ KeyL w hb os n H1 f l q c) (mono : ∀ i j, i ≤ j → j < hi → c j = true → c i = true) (h : ∀ r : Nat, Found c lo hi r → Φ .none (H.set a (insAt l r x))) : WC w hb os (n + 2) H (.ref 41) [.ref a, x, .int (lo : Int), .int (hi : Int)] [(S "key", .fn f)] Φ := by
  refine WC.drop (Φ := fun p H' => p = .none ∧ ∃ r, Found c lo hi r ∧ PH.le (H.set a (insAt l r x)) H') ?_ ?_
  case refine_2 =>
    rintro p H' ⟨rfl, r, hr, hle⟩
    exact ⟨_, hle, h r hr⟩
  refine wc_def 3 (ns := [S "a", S "x", S "lo", S "hi", S "key"]) (pb := [(S "a", .ref a), (S "x", x), (S "lo", .int (lo : Int)), (S "hi", .int (hi : Int)), (S "key", .fn f)]) B (B.K 41 _ (by rfl)) rfl ⟨40, _, _, _, rfl, B.K 40 _ (by rfl), rfl, rfl⟩ (binds_peek B ?_) rfl rfl rfl (by kernel_rfl) rfl rfl rfl ?_ rfl rfl rfl
  · intro σ vs ks hk r s
    cases r with | cons r1 r => cases r with | cons r2 r => cases r with | cons r3 r => cases r with | cons r4 r => 
    cases r
    obtain ⟨u, rfl, ru⟩ := s.one
    exact ⟨_, fun S => rfl, .cons r1 (.cons r2 (.cons r3 (.cons r4 (.cons ru .nil))))⟩
  · intro env he kx
    exact insL_key (lo := lo) (hi := hi) B he kx rfl rfl rfl rfl rfl (.inr rfl) hl hlo e hll hcal ask mono fun r ρ' H1 hr hle => ⟨rfl, r, hr, hle.set⟩
theorem insL_P3 (B : Base w hb) {a : Addr} {l : List PV} {x : PV} {lo : Nat} {c : Nat → Bool} {Φ : PV → PH → Prop} (hlo : lo ≤ l.length) (e : H a = some l) (hll : l.length ≤ sizeLine) (ask : PlainL w hb os n H l x c) (mono : ∀ i j, i ≤ j → j < l.length → c j = true → c i = true) (h : ∀ r : Nat, Found c lo l.length r → Φ .none (H.set a (insAt l r x))) : WC w hb os (n + 2) H (.ref 41) [.ref a, x, .int (lo : Int)] [] Φ := by
  refine WC.drop (Φ := fun p H' => p = .none ∧ ∃ r, Found c lo l.length r ∧ PH.le (H.set a (insAt l r x)) H') ?_ ?_
  case refine_2 =>
    rintro p H' ⟨rfl, r, hr, hle⟩
    exact ⟨_, hle, h r hr⟩
  refine wc_def 3 (ns := [S "a", S "x", S "lo", S "hi", S "key"]) (pb := [(S "a", .ref a), (S "x", x), (S "lo", .int (lo : Int)), (S "hi", .none), (S "key", .none)]) B (B.K 41 _ (by rfl)) rfl ⟨40, _, _, _, rfl, B.K 40 _ (by rfl), rfl, rfl⟩ (binds_peek B ?_) rfl rfl rfl (by kernel_rfl) rfl rfl rfl ?_ rfl rfl rfl
  · intro σ vs ks hk r s
    cases r with | cons r1 r => cases r with | cons r2 r => cases r with | cons r3 r => 
    cases r
    cases s
    exact ⟨_, fun S => rfl, .cons r1 (.cons r2 (.cons r3 (.cons .none (.cons .none .nil))))⟩
  · intro env he kx
    exact insL_plain (lo := lo) (hi := l.length) B he kx rfl rfl rfl rfl rfl (.inl ⟨rfl, rfl⟩) (Nat.le_refl _) hlo e hll ask mono fun r ρ' hr => ⟨rfl, r, hr, PH.le.refl⟩
theorem insL_P4 (B : Base w hb) {a : Addr} {l : List PV} {x : PV} {lo hi : Nat} {c : Nat → Bool} {Φ : PV → PH → Prop} (hl : hi ≤ l.length) (hlo : lo ≤ hi) (e : H a = some l) (hll : l.length ≤ sizeLine) (ask : PlainL w hb os n H l x c) (mono : ∀ i j, i ≤ j → j < hi → c j = true → c i = true) (h : ∀ r : Nat, Found c lo hi r → Φ .none (H.set a (insAt l r x))) : WC w hb os (n + 2) H (.ref 41) [.ref a, x, .int (lo : Int), .int (hi : Int)] [] Φ := by
  refine WC.drop (Φ := fun p H' => p = .none ∧ ∃ r, Found c lo hi r ∧ PH.le (H.set a (insAt l r x)) H') ?_ ?_
  case refine_2 =>
    rintro p H' ⟨rfl, r, hr, hle⟩
    exact ⟨_, hle, h r hr⟩
  refine wc_def 3 (ns := [S "a", S "x", S "lo", S "hi", S "key"]) (pb := [(S "a", .ref a), (S "x", x), (S "lo", .int (lo : Int)), (S "hi", .int (hi : Int)), (S "key", .none)]) B (B.K 41 _ (by rfl)) rfl ⟨40, _, _, _, rfl, B.K 40 _ (by rfl), rfl, rfl⟩ (binds_peek B ?_) rfl rfl rfl (by kernel_rfl) rfl rfl rfl ?_ rfl rfl rfl
  · intro σ vs ks hk r s
    cases r with | cons r1 r => cases r with | cons r2 r => cases r with | cons r3 r => cases r with | cons r4 r => 
    cases r
    cases s
    exact ⟨_, fun S => rfl, .cons r1 (.cons r2 (.cons r3 (.cons r4 (.cons .none .nil))))⟩
  · intro env he kx
    exact insL_plain (lo := lo) (hi := hi) B he kx rfl rfl rfl rfl rfl (.inr rfl) hl hlo e hll ask mono fun r ρ' hr => ⟨rfl, r, hr, PH.le.refl⟩
theorem insR_P2K (B : Base w hb) {a f : Addr} {l : List PV} {x : PV} {c : Nat → Bool} {Φ : PV → PH → Prop} (e : H a = some l) (hll : l.length ≤ sizeLine) (hcal : Callee w hb (.ref f)) (ask : WC w hb os (n + 1) H (.ref f) [x] [] fun q H1 => PH.le H H1 ∧ KeyR w hb os n H1 f l q c) (mono : ∀ i j, i ≤ j → j < l.length → c j = true → c i = true) (h : ∀ r : Nat, Found c 0 l.length r → Φ .none (H.set a (insAt l r x))) : WC w hb os (n + 2) H (.ref 23) [.ref a, x] [(S "key", .fn f)] Φ := by
  refine WC.drop (Φ := fun p H' => p = .none ∧ ∃ r, Found c 0 l.length r ∧ PH.le (H.set a (insAt l r x)) H') ?_ ?_
  case refine_2 =>
    rintro p H' ⟨rfl, r, hr, hle⟩
    exact ⟨_, hle, h r hr⟩
  refine wc_def 1 (ns := [S "a", S "x", S "lo", S "hi", S "key"]) (pb := [(S "a", .ref a), (S "x", x), (S "lo", .int (0 : Int)), (S "hi", .none), (S "key", .fn f)]) B (B.K 23 _ (by rfl)) rfl ⟨22, _, _, _, rfl, B.K 22 _ (by rfl), rfl, rfl⟩ (binds_peek B ?_) rfl rfl rfl (by kernel_rfl) rfl rfl rfl ?_ rfl rfl rfl
  · intro σ vs ks hk r s
    cases r with | cons r1 r => cases r with | cons r2 r => 
    cases r
    obtain ⟨u, rfl, ru⟩ := s.one
    exact ⟨_, fun S => rfl, .cons r1 (.cons r2 (.cons .int (.cons .none (.cons ru .nil))))⟩
  · intro env he kx
    exact insR_key (lo := 0) (hi := l.length) B he kx rfl rfl rfl rfl rfl (.inl ⟨rfl, rfl⟩) (Nat.le_refl _) (Nat.zero_le _) e hll hcal ask mono fun r ρ' H1 hr hle => ⟨rfl, r, hr, hle.set⟩
theorem insR_P3K (B : Base w hb) {a f : Addr} {l : List PV} {x : PV} {lo : Nat} {c : Nat → Bool} {Φ : PV → PH → Prop} (hlo : lo ≤ l.length) (e : H a = some l) (hll : l.length ≤ sizeLine) (hcal : Callee w hb (.ref f)) (ask : WC w hb os (n + 1) H (.ref f) [x] [] fun q H1 => PH.le H H1 ∧ KeyR w hb os n H1 f l q c) (mono : ∀ i j, i ≤ j → j < l.length → c j = true → c i = true) (h : ∀ r : Nat, Found c lo l.length r → Φ .none (H.set a (insAt l r x))) : WC w hb os (n + 2) H (.ref 23) [.ref a, x, .int (lo : Int)] [(S "key", .fn f)] Φ := by
  refine WC.drop (Φ := fun p H' => p = .none ∧ ∃ r, Found c lo l.length r ∧ PH.le (H.set a (insAt l r x)) H') ?_ ?_
  case refine_2 =>
    rintro p H' ⟨rfl, r, hr, hle⟩
    exact ⟨_, hle, h r hr⟩
  refine wc_def 1 (ns := [S "a", S "x", S "lo", S "hi", S "key"]) (pb := [(S "a", .ref a), (S "x", x), (S "lo", .int (lo : Int)), (S "hi", .none), (S "key", .fn f)]) B (B.K 23 _ (by rfl)) rfl ⟨22, _, _, _, rfl, B.K 22 _ (by rfl), rfl, rfl⟩ (binds_peek B ?_) rfl rfl rfl (by kernel_rfl) rfl rfl rfl ?_ rfl rfl rfl
  · intro σ vs ks hk r s
    cases r with | cons r1 r => cases r with | cons r2 r => cases r with | cons r3 r => 
    cases r
    obtain ⟨u, rfl, ru⟩ := s.one
    exact ⟨_, fun S => rfl, .cons r1 (.cons r2 (.cons r3 (.cons .none (.cons ru .nil))))⟩
  · intro env he kx
    exact insR_key (lo := lo) (hi := l.length) B he kx rfl rfl rfl rfl rfl (.inl ⟨rfl, rfl⟩) (Nat.le_refl _) hlo e hll hcal ask mono fun r ρ' H1 hr hle => ⟨rfl, r, hr, hle.set⟩
theorem insR_P4K (B : Base w hb) {a f : Addr} {l : List PV} {x : PV} {lo hi : Nat} {c : Nat → Bool} {Φ : PV → PH → Prop} (hl : hi ≤ l.length) (hlo : lo ≤ hi) (e : H a = some l) (hll : l.length ≤ sizeLine) (hcal : Callee w hb (.ref f)) (ask : WC w hb os (n + 1) H (.ref f) [x] [] fun q H1 => PH.le H H1 ∧ KeyR w hb os n H1 f l q c) (mono : ∀ i j, i ≤ j → j < hi → c j = true → c i = true) (h : ∀ r : Nat, Found c lo hi r → Φ .none (H.set a (insAt l r x))) : WC w hb os (n + 2) H (.ref 23) [.ref a, x, .int (lo : Int), .int (hi : Int)] [(S "key", .fn f)] Φ := by
  refine WC.drop (Φ := fun p H' => p = .none ∧ ∃ r, Found c lo hi r ∧ PH.le (H.set a (insAt l r x)) H') ?_ ?_
  case refine_2 =>
    rintro p H' ⟨rfl, r, hr, hle⟩
    exact ⟨_, hle, h r hr⟩
  refine wc_def 1 (ns := [S "a", S "x", S "lo", S "hi", S "key"]) (pb := [(S "a", .ref a), (S "x", x), (S "lo", .int (lo : Int)), (S "hi", .int (hi : Int)), (S "key", .fn f)]) B (B.K 23 _ (by rfl)) rfl ⟨22, _, _, _, rfl, B.K 22 _ (by rfl), rfl, rfl⟩ (binds_peek B ?_) rfl rfl rfl (by kernel_rfl) rfl rfl rfl ?_ rfl rfl rfl
  · intro σ vs ks hk r s
    cases r with | cons r1 r => cases r with | cons r2 r => cases r with | cons r3 r => cases r with | cons r4 r => 
    cases r
    obtain ⟨u, rfl, ru⟩ := s.one
    exact ⟨_, fun S => rfl, .cons r1 (.cons r2 (.cons r3 (.cons r4 (.cons ru .nil))))⟩
  · intro env he kx
    exact insR_key (lo := lo) (hi := hi) B he kx rfl rfl rfl rfl rfl (.inr rfl) hl hlo e hll hcal ask mono fun r ρ' H1 hr hle => ⟨rfl, r, hr, hle.set⟩
theorem insR_P3 (B : Base w hb) {a : Addr} {l : List PV} {x : PV} {lo : Nat} {c : Nat → Bool} {Φ : PV → PH → Prop} (hlo : lo ≤ l.length) (e : H a = some l) (hll : l.length ≤ sizeLine) (ask : PlainR w hb os n H l x c) (mono : ∀ i j, i ≤ j → j < l.length → c j = true → c i = true) (h : ∀ r : Nat, Found c lo l.length r → Φ .none (H.set a (insAt l r x))) : WC w hb os (n + 2) H (.ref 23) [.ref a, x, .int (lo : Int)] [] Φ := by
  refine WC.drop (Φ := fun p H' => p = .none ∧ ∃ r, Found c lo l.length r ∧ PH.le (H.set a (insAt l r x)) H') ?_ ?_
  case refine_2 =>
    rintro p H' ⟨rfl, r, hr, hle⟩
    exact ⟨_, hle, h r hr⟩
  refine wc_def 1 (ns := [S "a", S "x", S "lo", S "hi", S "key"]) (pb := [(S "a", .ref a), (S "x", x), (S "lo", .int (lo : Int)), (S "hi", .none), (S "key", .none)]) B (B.K 23 _ (by rfl)) rfl ⟨22, _, _, _, rfl, B.K 22 _ (by rfl), rfl, rfl⟩ (binds_peek B ?_) rfl rfl rfl (by kernel_rfl) rfl rfl rfl ?_ rfl rfl rfl
  · intro σ vs ks hk r s
    cases r with | cons r1 r => cases r with | cons r2 r => cases r with | cons r3 r => 
    cases r
    cases s
    exact ⟨_, fun S => rfl, .cons r1 (.cons r2 (.cons r3 (.cons .none (.cons .none .nil))))⟩
  · intro env he kx
    exact insR_plain (lo := lo) (hi := l.length) B he kx rfl rfl rfl rfl rfl (.inl ⟨rfl, rfl⟩) (Nat.le_refl _) hlo e hll ask mono fun r ρ' hr => ⟨rfl, r, hr, PH.le.refl⟩
theorem insR_P4 (B : Base w hb) {a : Addr} {l : List PV} {x : PV} {lo hi : Nat} {c : Nat → Bool} {Φ : PV → PH → Prop} (hl : hi ≤ l.length) (hlo : lo ≤ hi) (e : H a = some l) (hll : l.length ≤ sizeLine) (ask : PlainR w hb os n H l x c) (mono : ∀ i j, i ≤ j → j < hi → c j = true → c i = true) (h : ∀ r : Nat, Found c lo hi r → Φ .none (H.set a (insAt l r x))) : WC w hb os (n + 2) H (.ref 23) [.ref a, x, .int (lo : Int), .int (hi : Int)] [] Φ := by
  refine WC.drop (Φ := fun p H' => p = .none ∧ ∃ r, Found c lo hi r ∧ PH.le (H.set a (insAt l r x)) H') ?_ ?_
  case refine_2 =>
    rintro p H' ⟨rfl, r, hr, hle⟩
    exact ⟨_, hle, h r hr⟩
  refine wc_def 1 (ns := [S "a", S "x", S "lo", S "hi", S "key"]) (pb := [(S "a", .ref a), (S "x", x), (S "lo", .int (lo : Int)), (S "hi", .int (hi : Int)), (S "key", .none)]) B (B.K 23 _ (by rfl)) rfl ⟨22, _, _, _, rfl, B.K 22 _ (by rfl), rfl, rfl⟩ (binds_peek B ?_) rfl rfl rfl (by kernel_rfl) rfl rfl rfl ?_ rfl rfl rfl
  · intro σ vs ks hk r s
    cases r with | cons r1 r => cases r with | cons r2 r => cases r with | cons r3 r => cases r with | cons r4 r => 
    cases r
    cases s
    exact ⟨_, fun S => rfl, .cons r1 (.cons r2 (.cons r3 (.cons r4 (.cons .none .nil))))⟩
  · intro env he kx
    exact insR_plain (lo := lo) (hi := hi) B he kx rfl rfl rfl rfl rfl (.inr rfl) hl hlo e hll ask mono fun r ρ' hr => ⟨rfl, r, hr, PH.le.refl⟩
end
end Mine
end

-- part M1
set_option linter.all false
noncomputable section
namespace Mine
open PySem PySem.W
set_option Elab.async false
/-- the order of the beads: by their letters, like ones as they stand -/
noncomputable def R (L : Nat → List Nat) (i j : Nat) : Prop := L i < L j ∨ (L i = L j ∧ i < j)
theorem lt_irr (a : List Nat) : ¬ a < a := List.lt_irrefl a
theorem lt_tri (a b : List Nat) : a < b ∨ a = b ∨ b < a := by
  by_cases h : a < b
  · exact .inl h
  · by_cases h' : b < a
    · exact .inr (.inr h')
    · exact .inr (.inl (List.le_antisymm (List.not_lt.mp h') (List.not_lt.mp h)))
section
variable {L : Nat → List Nat}
theorem R.irr (i : Nat) : ¬ R L i i := fun h => h.elim (lt_irr _) fun h => Nat.lt_irrefl _ h.2
theorem R.trans {i j k : Nat} (a : R L i j) (b : R L j k) : R L i k := by
  rcases a with a | ⟨a, a'⟩ <;> rcases b with b | ⟨b, b'⟩
  · exact .inl (List.lt_trans a b)
  · exact .inl (b ▸ a)
  · exact .inl (a ▸ b)
  · exact .inr ⟨a.trans b, Nat.lt_trans a' b'⟩
theorem R.asymm {i j : Nat} (a : R L i j) (b : R L j i) : False := R.irr _ (a.trans b)
theorem R.tri {i j : Nat} (h : i ≠ j) : R L i j ∨ R L j i := by
  rcases lt_tri (L i) (L j) with h1 | h1 | h1
  · exact .inl (.inl h1)
  · rcases Nat.lt_or_gt_of_ne h with h2 | h2
    · exact .inl (.inr ⟨h1, h2⟩)
    · exact .inr (.inr ⟨h1.symm, h2⟩)
  · exact .inr (.inl h1)
theorem R.le {i j : Nat} (a : R L i j) : ¬ L j < L i := fun b => a.elim (fun a => lt_irr _ (List.lt_trans a b)) fun a => lt_irr _ (a.1 ▸ b)
theorem R.not_lt {i j : Nat} (a : R L i j) (b : L i = L j) : i < j := a.elim (fun c => (lt_irr _ (b ▸ c)).elim) (·.2)
/-- lists in order that hold the same are the same -/
theorem uniq {α : Type} {r : α → α → Prop} (irr : ∀ a, ¬ r a a) (asym : ∀ a b, r a b → r b a → False) : ∀ {l m : List α}, l.Pairwise r → m.Pairwise r → (∀ x, x ∈ l ↔ x ∈ m) → l = m
  | [], [], _, _, _ => rfl
  | [], y :: m, _, _, h => nomatch (h y).mpr List.mem_cons_self
  | x :: l, [], _, _, h => nomatch (h x).mp List.mem_cons_self
  | x :: l, y :: m, hl, hm, h => by
    have hl := List.pairwise_cons.mp hl
    have hm := List.pairwise_cons.mp hm
    have e : x = y := by
      rcases List.mem_cons.mp ((h x).mp List.mem_cons_self) with e | hx
      · exact e
      · rcases List.mem_cons.mp ((h y).mpr List.mem_cons_self) with e | hy
        · exact e.symm
        · exact (asym _ _ (hm.1 x hx) (hl.1 y hy)).elim
    subst e
    rw [uniq irr asym hl.2 hm.2 fun z => ⟨fun hz => ?_, fun hz => ?_⟩]
    · rcases List.mem_cons.mp ((h z).mp (List.mem_cons_of_mem _ hz)) with e | hz'
      · subst e; exact (irr _ (hl.1 _ hz)).elim
      · exact hz'
    · rcases List.mem_cons.mp ((h z).mpr (List.mem_cons_of_mem _ hz)) with e | hz'
      · subst e; exact (irr _ (hm.1 _ hz)).elim
      · exact hz'
theorem R.uniq {l m : List Nat} (hl : l.Pairwise (R L)) (hm : m.Pairwise (R L)) (h : ∀ x, x ∈ l ↔ x ∈ m) : l = m := Mine.uniq R.irr (fun _ _ => R.asymm) hl hm h
theorem ins_sorted {S : List Nat} {r j : Nat} (h : S.Pairwise (R L)) (h1 : ∀ i s, i < r → S[i]? = some s → R L s j) (h2 : ∀ i s, r ≤ i → S[i]? = some s → R L j s) : (S.take r ++ j :: S.drop r).Pairwise (R L) := by
  have hh := h
  rw [← List.take_append_drop r S] at hh
  obtain ⟨p1, p2, p3⟩ := List.pairwise_append.mp hh
  refine List.pairwise_append.mpr ⟨p1, List.pairwise_cons.mpr ⟨fun s hs => ?_, p2⟩, fun a ha b hb => ?_⟩
  · obtain ⟨i, hi⟩ := List.mem_iff_getElem?.mp hs
    rw [List.getElem?_drop] at hi
    exact h2 (r + i) s (Nat.le_add_right _ _) hi
  · rcases List.mem_cons.mp hb with rfl | hb
    · obtain ⟨i, hi⟩ := List.mem_iff_getElem?.mp ha
      have hir : i < r := by
        have := (List.getElem?_eq_some_iff.mp hi).1
        rw [List.length_take] at this
        omega
      rw [List.getElem?_take_of_lt hir] at hi
      exact h1 i a hir hi
    · exact p3 a ha b hb
theorem ins_mem {α : Type} {S : List α} {r : Nat} {j x : α} : x ∈ S.take r ++ j :: S.drop r ↔ x = j ∨ x ∈ S := by
  constructor
  · intro h
    rcases List.mem_append.mp h with h | h
    · exact .inr (List.mem_of_mem_take h)
    · rcases List.mem_cons.mp h with h | h
      · exact .inl h
      · exact .inr (List.mem_of_mem_drop h)
  · rintro (rfl | h)
    · exact List.mem_append_right _ List.mem_cons_self
    · rw [← List.take_append_drop r S] at h
      rcases List.mem_append.mp h with h | h
      · exact List.mem_append_left _ h
      · exact List.mem_append_right _ (List.mem_cons_of_mem _ h)
theorem ins_length {α : Type} {S : List α} {r : Nat} {j : α} (h : r ≤ S.length) : (S.take r ++ j :: S.drop r).length = S.length + 1 := by
  rw [List.length_append, List.length_cons, List.length_take, List.length_drop]; omega
theorem ins_map {α β : Type} (f : α → β) (S : List α) (r : Nat) (j : α) : (S.take r ++ j :: S.drop r).map f = (S.map f).take r ++ f j :: (S.map f).drop r := by
  rw [List.map_append, List.map_cons, List.map_take, List.map_drop]
/-- letters stand in order -/
theorem R.mono {S : List Nat} (h : S.Pairwise (R L)) {i j a b : Nat} (hij : i ≤ j) (ha : S[i]? = some a) (hb : S[j]? = some b) : a = b ∨ R L a b := by
  rcases Nat.lt_or_eq_of_le hij with h' | rfl
  · obtain ⟨hi, rfl⟩ := List.getElem?_eq_some_iff.mp ha
    obtain ⟨hj, rfl⟩ := List.getElem?_eq_some_iff.mp hb
    exact .inr (List.pairwise_iff_getElem.mp h i j hi hj h')
  · exact .inl (Option.some.inj (ha.symm.trans hb))
end
-- rounds
noncomputable def itr (σ : Nat → Nat) : Nat → Nat → Nat
  | 0, i => i
  | t + 1, i => itr σ t (σ i)
theorem itr_add {σ : Nat → Nat} : ∀ (s t i : Nat), itr σ (s + t) i = itr σ t (itr σ s i)
  | 0, t, i => by rw [Nat.zero_add]; rfl
  | s + 1, t, i => by rw [Nat.succ_add]; exact itr_add s t (σ i)
structure Turns (L : Nat → List Nat) (σ : Nat → Nat) : Prop where
  lt : ∀ i, i < 8 → σ i < 8
  up : ∀ i j, i < j → j < 8 → R L (σ i) (σ j)
section
variable {L : Nat → List Nat} {σ : Nat → Nat}
theorem Turns.itr_lt (h : Turns L σ) : ∀ (t i : Nat), i < 8 → itr σ t i < 8
  | 0, i, hi => hi
  | t + 1, i, hi => h.itr_lt t (σ i) (h.lt i hi)
/-- as long as the letters are alike, the places keep their order -/
theorem Turns.keep (h : Turns L σ) : ∀ (t i j : Nat), j < 8 → i < j → (∀ u, u ≤ t → 0 < u → L (itr σ u i) = L (itr σ u j)) → itr σ t i < itr σ t j
  | 0, i, j, _, hij, _ => hij
  | t + 1, i, j, hj, hij, e => by
    have r := h.up i j hij hj
    have e1 : L (σ i) = L (σ j) := e 1 (Nat.succ_le_succ (Nat.zero_le t)) (Nat.succ_pos 0)
    refine h.keep t (σ i) (σ j) (h.lt j hj) (r.not_lt e1) fun u hu h0 => ?_
    have := e (u + 1) (Nat.succ_le_succ hu) (Nat.succ_pos u)
    exact this
/-- the first letters that part tell the order -/
theorem Turns.first (h : Turns L σ) : ∀ (t i j : Nat), j < 8 → i < 8 → R L i j → (∀ u, u < t → L (itr σ u i) = L (itr σ u j)) → ¬ L (itr σ t j) < L (itr σ t i)
  | 0, i, j, _, _, r, _ => r.le
  | t + 1, i, j, hj, hi, r, e => by
    have e0 : L i = L j := e 0 (Nat.succ_pos t)
    exact h.first t (σ i) (σ j) (h.lt j hj) (h.lt i hi) (h.up i j (r.not_lt e0) hj) fun u hu => e (u + 1) (Nat.succ_lt_succ hu)
/-- like words: the places keep their order all round -/
theorem Turns.alike (h : Turns L σ) {i j : Nat} (hj : j < 8) (hij : i < j) (e : ∀ u, u < 8 → L (itr σ u i) = L (itr σ u j)) {t : Nat} (ht : t < 8) : itr σ t i < itr σ t j :=
  h.keep t i j hj hij fun u hu _ => e u (by omega)
theorem period {m i : Nat} (hm : itr σ m i = i) : ∀ q, itr σ (q * m) i = i
  | 0 => by rw [Nat.zero_mul]; rfl
  | q + 1 => by rw [Nat.succ_mul, itr_add, period hm q, hm]
theorem period_mod {m i : Nat} (hm : itr σ m i = i) (t : Nat) : itr σ t i = itr σ (t % m) i := by
  have : t = t / m * m + t % m := by rw [Nat.mul_comm]; exact (Nat.div_add_mod t m).symm
  have h2 : itr σ t i = itr σ (t / m * m + t % m) i := by rw [← this]
  rw [h2, itr_add, period hm]
/-- within a ring no two turnings are alike -/
theorem Turns.prim (h : Turns L σ) {i m s : Nat} (hi : i < 8) (m0 : 0 < m) (m8 : m ≤ 8) (hm : itr σ m i = i) (hne : i ≠ itr σ s i) (e : ∀ u, u < m → L (itr σ u i) = L (itr σ u (itr σ s i))) : False := by
  have hj : itr σ s i < 8 := h.itr_lt s i hi
  have comm : ∀ t, itr σ t (itr σ s i) = itr σ s (itr σ t i) := fun t => by rw [← itr_add, ← itr_add, Nat.add_comm]
  have hm' : itr σ m (itr σ s i) = itr σ s i := by rw [comm, hm]
  have eall : ∀ u, L (itr σ u i) = L (itr σ u (itr σ s i)) := fun u => by
    rw [period_mod hm u, period_mod hm' u]
    exact e _ (Nat.mod_lt _ m0)
  rcases Nat.lt_or_gt_of_ne hne with hlt | hlt
  · have up : ∀ t, itr σ t i < itr σ t (itr σ s i) := fun t => h.keep t i _ hj hlt fun u _ _ => eall u
    have climb : ∀ q, i + q ≤ itr σ (q * s) i := fun q => by
      induction q with
      | zero => rw [Nat.zero_mul]; exact Nat.le_refl _
      | succ q ih =>
        have := up (q * s)
        rw [← itr_add, Nat.add_comm s] at this
        rw [Nat.succ_mul]
        omega
    have := climb m
    rw [Nat.mul_comm, period hm] at this
    omega
  · have up : ∀ t, itr σ t (itr σ s i) < itr σ t i := fun t => h.keep t _ i hi hlt fun u _ _ => (eall u).symm
    have fall : ∀ q, itr σ (q * s) i + q ≤ i := fun q => by
      induction q with
      | zero => rw [Nat.zero_mul]; exact Nat.le_refl _
      | succ q ih =>
        have := up (q * s)
        rw [← itr_add, Nat.add_comm s] at this
        rw [Nat.succ_mul]
        omega
    have := fall m
    rw [Nat.mul_comm, period hm] at this
    omega
end
end Mine
end

-- part M2
set_option linter.all false
noncomputable section
namespace Mine
open PySem PySem.W
set_option Elab.async false
noncomputable abbrev Ld (L : Nat → PySem.Str) (i : Nat) : List Nat := (L i).cps.toList
theorem Ld_inj {L : Nat → PySem.Str} {i j : Nat} (h : Ld L i = Ld L j) : L i = L j := PySem.Str.ext' (Array.toList_inj.mp h)
theorem Ld_eq {L : Nat → PySem.Str} {i j : Nat} (h : L i = L j) : Ld L i = Ld L j := congrArg (fun x : PySem.Str => x.cps.toList) h
/-- the searches' tests -/
noncomputable def cL (L : Nat → PySem.Str) (S : List Nat) (y : List Nat) (i : Nat) : Bool := match S[i]? with | some s => decide (Ld L s < y) | none => false
noncomputable def cR (L : Nat → PySem.Str) (S : List Nat) (y : List Nat) (i : Nat) : Bool := match S[i]? with | some s => !decide (y < Ld L s) | none => false
theorem Found.uniq {c : Nat → Bool} {lo hi r r' : Nat} (a : Found c lo hi r) (b : Found c lo hi r') : r = r' := by
  obtain ⟨a1, a2, a3, a4⟩ := a
  obtain ⟨b1, b2, b3, b4⟩ := b
  rcases Nat.lt_trichotomy r r' with h | h | h
  · have := a4 r (Nat.le_refl _) (by omega)
    rw [b3 r a1 h] at this; cases this
  · exact h
  · have := b4 r' (Nat.le_refl _) (by omega)
    rw [a3 r' b1 h] at this; cases this
theorem found_exists {c : Nat → Bool} : ∀ n : Nat, (∀ i j, i ≤ j → j < n → c j = true → c i = true) → ∃ r, Found c 0 n r
  | 0, _ => ⟨0, Nat.le_refl _, Nat.le_refl _, fun i _ h => by omega, fun i _ h => by omega⟩
  | n + 1, mono => by
    obtain ⟨r, h1, h2, h3, h4⟩ := found_exists n fun i j a b => mono i j a (by omega)
    cases hc : c n with
    | true => exact ⟨n + 1, by omega, Nat.le_refl _, fun i _ h => mono i n (by omega) (by omega) hc, fun i h h' => by omega⟩
    | false =>
      refine ⟨r, h1, by omega, h3, fun i a b => ?_⟩
      by_cases hi : i = n
      · rw [hi]; exact hc
      · exact h4 i a (by omega)
theorem Found.low {c : Nat → Bool} {n r k : Nat} (f : Found c 0 n r) (hk : k ≤ n) : Found c 0 k (min r k) :=
  ⟨Nat.zero_le _, Nat.min_le_right _ _, fun i _ h => f.2.2.1 i (Nat.zero_le _) (by omega), fun i h h' => f.2.2.2 i (by omega) (by omega)⟩
theorem Found.high {c : Nat → Bool} {n r k : Nat} (f : Found c 0 n r) (hk : k ≤ n) : Found c k n (max r k) :=
  ⟨Nat.le_max_right _ _, Nat.max_le.mpr ⟨f.2.1, hk⟩, fun i h h' => f.2.2.1 i (Nat.zero_le _) (by omega), fun i h h' => f.2.2.2 i (by omega) h'⟩
section
variable {L : Nat → PySem.Str}
theorem cL_mono {S : List Nat} {y : List Nat} (h : S.Pairwise (R (Ld L))) {i j : Nat} (hij : i ≤ j) (hj : cL L S y j = true) : cL L S y i = true := by
  unfold cL at hj ⊢
  cases e : S[j]? with
  | none => rw [e] at hj; cases hj
  | some b =>
    rw [e] at hj
    have hb := (List.getElem?_eq_some_iff.mp e).1
    have ea : S[i]? = some (S[i]'(by omega)) := List.getElem?_eq_getElem (by omega)
    rw [ea]
    have hj : Ld L b < y := of_decide_eq_true hj
    rcases R.mono h hij ea e with q | q
    · rw [q]; exact decide_eq_true hj
    · refine decide_eq_true ?_
      rcases q with q | ⟨q, _⟩
      · exact List.lt_trans q hj
      · rw [q]; exact hj
theorem cR_mono {S : List Nat} {y : List Nat} (h : S.Pairwise (R (Ld L))) {i j : Nat} (hij : i ≤ j) (hj : cR L S y j = true) : cR L S y i = true := by
  unfold cR at hj ⊢
  cases e : S[j]? with
  | none => rw [e] at hj; cases hj
  | some b =>
    rw [e] at hj
    have hb := (List.getElem?_eq_some_iff.mp e).1
    have ea : S[i]? = some (S[i]'(by omega)) := List.getElem?_eq_getElem (by omega)
    rw [ea]
    have hj : ¬ y < Ld L b := by simpa using hj
    suffices ¬ y < Ld L (S[i]'(by omega)) by simpa using this
    intro q2
    rcases R.mono h hij ea e with q | q
    · exact hj (q ▸ q2)
    · rcases q with q | ⟨q, _⟩
      · exact hj (List.lt_trans q2 q)
      · exact hj (q ▸ q2)
theorem cL_at {S : List Nat} {y : List Nat} {i s : Nat} (h : S[i]? = some s) : cL L S y i = decide (Ld L s < y) := by unfold cL; rw [h]
theorem cR_at {S : List Nat} {y : List Nat} {i s : Nat} (h : S[i]? = some s) : cR L S y i = !decide (y < Ld L s) := by unfold cR; rw [h]
/-- what insort_right makes of places in order -/
theorem insR_sorted {S : List Nat} {j r : Nat} (h : S.Pairwise (R (Ld L))) (hs : ∀ s ∈ S, s < j) (f : Found (cR L S (Ld L j)) 0 S.length r) : (S.take r ++ j :: S.drop r).Pairwise (R (Ld L)) := by
  refine ins_sorted h (fun i s hi e => ?_) fun i s hi e => ?_
  · have := f.2.2.1 i (Nat.zero_le _) hi
    rw [cR_at e] at this
    have this : ¬ Ld L j < Ld L s := by simpa using this
    rcases lt_tri (Ld L s) (Ld L j) with q | q | q
    · exact .inl q
    · exact .inr ⟨q, hs s (List.mem_of_getElem? e)⟩
    · exact (this q).elim
  · have := f.2.2.2 i hi (List.getElem?_eq_some_iff.mp e).1
    rw [cR_at e] at this
    exact .inl (by simpa using this)
theorem insL_sorted {S : List Nat} {j r : Nat} (h : S.Pairwise (R (Ld L))) (hs : ∀ s ∈ S, j < s) (f : Found (cL L S (Ld L j)) 0 S.length r) : (S.take r ++ j :: S.drop r).Pairwise (R (Ld L)) := by
  refine ins_sorted h (fun i s hi e => ?_) fun i s hi e => ?_
  · have := f.2.2.1 i (Nat.zero_le _) hi
    rw [cL_at e] at this
    exact .inl (of_decide_eq_true this)
  · have := f.2.2.2 i hi (List.getElem?_eq_some_iff.mp e).1
    rw [cL_at e] at this
    have this : ¬ Ld L s < Ld L j := of_decide_eq_false this
    rcases lt_tri (Ld L j) (Ld L s) with q | q | q
    · exact .inl q
    · exact .inr ⟨q, hs s (List.mem_of_getElem? e)⟩
    · exact (this q).elim
/-- the beads in order -/
structure OrdOk (L : Nat → PySem.Str) (ord : List Nat) : Prop where
  perm : ord.Perm (List.range 8)
  up : ord.Pairwise (R (Ld L))
variable {ord : List Nat}
theorem OrdOk.len (o : OrdOk L ord) : ord.length = 8 := by rw [o.perm.length_eq]; rfl
theorem OrdOk.mem (o : OrdOk L ord) {x : Nat} : x ∈ ord ↔ x < 8 := by rw [o.perm.mem_iff]; exact List.mem_range
theorem OrdOk.is (o : OrdOk L ord) {S : List Nat} (h : S.Pairwise (R (Ld L))) (hm : ∀ x, x ∈ S ↔ x < 8) : S = ord := R.uniq h o.up fun x => (hm x).trans o.mem.symm
theorem OrdOk.at_lt (o : OrdOk L ord) {i j a b : Nat} (ha : ord[i]? = some a) (hb : ord[j]? = some b) (h : i < j) : R (Ld L) a b := by
  obtain ⟨hi, rfl⟩ := List.getElem?_eq_some_iff.mp ha
  obtain ⟨hj, rfl⟩ := List.getElem?_eq_some_iff.mp hb
  exact List.pairwise_iff_getElem.mp o.up i j hi hj h
theorem OrdOk.lt_at (o : OrdOk L ord) {i j a b : Nat} (ha : ord[i]? = some a) (hb : ord[j]? = some b) (h : R (Ld L) a b) : i < j := by
  rcases Nat.lt_trichotomy i j with q | q | q
  · exact q
  · subst q
    rw [ha] at hb
    obtain rfl := Option.some.inj hb
    exact (R.irr _ h).elim
  · exact (R.asymm h (o.at_lt hb ha q)).elim
theorem OrdOk.inj (o : OrdOk L ord) {i j a : Nat} (ha : ord[i]? = some a) (hb : ord[j]? = some a) : i = j := by
  rcases Nat.lt_trichotomy i j with q | q | q
  · exact (R.irr _ (o.at_lt ha hb q)).elim
  · exact q
  · exact (R.irr _ (o.at_lt hb ha q)).elim
theorem mem_seg {α : Type} {l : List α} {a b : Nat} {x : α} : x ∈ (l.drop a).take (b - a) ↔ ∃ i, a ≤ i ∧ i < b ∧ l[i]? = some x := by
  constructor
  · intro h
    obtain ⟨i, hi⟩ := List.mem_iff_getElem?.mp h
    have hlt := (List.getElem?_eq_some_iff.mp hi).1
    rw [List.length_take] at hlt
    rw [List.getElem?_take_of_lt (by omega), List.getElem?_drop] at hi
    exact ⟨a + i, Nat.le_add_right _ _, by omega, hi⟩
  · rintro ⟨i, h1, h2, h3⟩
    refine List.mem_iff_getElem?.mpr ⟨i - a, ?_⟩
    rw [List.getElem?_take_of_lt (by omega), List.getElem?_drop, Nat.add_sub_cancel' h1]
    exact h3
theorem count_len {l : List Nat} {y : PySem.Str} : (l.map L).count y = (l.filter fun x => L x == y).length := by
  induction l with
  | nil => rfl
  | cons x l ih =>
    rw [List.map_cons, List.count_cons, List.filter_cons, ih]
    cases L x == y <;> simp
theorem OrdOk.place (o : OrdOk L ord) {k p left right : Nat} (hk : k < 8) (hp : ord[p]? = some k) (fl : Found (cL L ord (Ld L k)) 0 8 left) (fr : Found (cR L ord (Ld L k)) 0 8 right) :
    left ≤ p ∧ p < right ∧ p = left + (((List.range 8).map L).take k).count (L k) ∧ right = p + (((List.range 8).map L).drop k).count (L k) ∧ (ord.map L)[left]? = some (L k) ∧ ∀ j, j < left → (ord.map L)[j]? ≠ some (L k) := by
  have hp8 : p < 8 := by have := (List.getElem?_eq_some_iff.mp hp).1; rw [o.len] at this; exact this
  have low : ∀ i x, i < left → ord[i]? = some x → Ld L x < Ld L k := fun i x hi e => by
    have := fl.2.2.1 i (Nat.zero_le _) hi
    rw [cL_at e] at this; exact of_decide_eq_true this
  have low' : ∀ i x, left ≤ i → ord[i]? = some x → ¬ Ld L x < Ld L k := fun i x hi e => by
    have h8 := (List.getElem?_eq_some_iff.mp e).1
    have := fl.2.2.2 i hi (by rw [← o.len]; exact h8)
    rw [cL_at e] at this; exact of_decide_eq_false this
  have high : ∀ i x, i < right → ord[i]? = some x → ¬ Ld L k < Ld L x := fun i x hi e => by
    have := fr.2.2.1 i (Nat.zero_le _) hi
    rw [cR_at e] at this; simpa using this
  have high' : ∀ i x, right ≤ i → ord[i]? = some x → Ld L k < Ld L x := fun i x hi e => by
    have h8 := (List.getElem?_eq_some_iff.mp e).1
    have := fr.2.2.2 i hi (by rw [← o.len]; exact h8)
    rw [cR_at e] at this; simpa using this
  have h1 : left ≤ p := Nat.le_of_not_lt fun h => lt_irr _ (low p k h hp)
  have h2 : p < right := Nat.lt_of_not_le fun h => lt_irr _ (high' p k h hp)
  have e1 : (ord.drop left).take (p - left) = (((List.range 8).take k).filter fun x => L x == L k) := by
    refine R.uniq (L := Ld L) (o.up.sublist ((List.take_sublist _ _).trans (List.drop_sublist _ _))) ?_ fun x => ?_
    · refine List.pairwise_filter.mpr ?_
      have : ((List.range 8).take k).Pairwise (· < ·) := List.pairwise_lt_range.sublist (List.take_sublist _ _)
      exact this.imp fun {a b} h ha hb => .inr ⟨Ld_eq ((show L a = L k by simpa using ha).trans (show L b = L k by simpa using hb).symm), h⟩
    · rw [mem_seg, List.mem_filter, List.take_range, List.mem_range]
      constructor
      · rintro ⟨i, a1, a2, a3⟩
        have r := o.at_lt a3 hp a2
        rcases r with r | ⟨r, r'⟩
        · exact (low' i x a1 a3 r).elim
        · exact ⟨by omega, by simpa using Ld_inj r⟩
      · rintro ⟨a1, a2⟩
        have a2 : L x = L k := by simpa using a2
        obtain ⟨i, hi⟩ := List.mem_iff_getElem?.mp (o.mem.mpr (show x < 8 by omega))
        refine ⟨i, Nat.le_of_not_lt fun h => ?_, o.lt_at hi hp (.inr ⟨Ld_eq a2, by omega⟩), hi⟩
        have := low i x h hi
        rw [Ld_eq a2] at this
        exact lt_irr _ this
  have e2 : (ord.drop p).take (right - p) = (((List.range 8).drop k).filter fun x => L x == L k) := by
    refine R.uniq (L := Ld L) (o.up.sublist ((List.take_sublist _ _).trans (List.drop_sublist _ _))) ?_ fun x => ?_
    · refine List.pairwise_filter.mpr ?_
      have : ((List.range 8).drop k).Pairwise (· < ·) := List.pairwise_lt_range.sublist (List.drop_sublist _ _)
      exact this.imp fun {a b} h ha hb => .inr ⟨Ld_eq ((show L a = L k by simpa using ha).trans (show L b = L k by simpa using hb).symm), h⟩
    · have md : x ∈ (List.range 8).drop k ↔ k ≤ x ∧ x < 8 := by
        constructor
        · intro h
          obtain ⟨i, hi⟩ := List.mem_iff_getElem?.mp h
          rw [List.getElem?_drop] at hi
          obtain ⟨h1, h2⟩ := List.getElem?_eq_some_iff.mp hi
          rw [List.getElem_range] at h2
          rw [List.length_range] at h1
          omega
        · rintro ⟨a, b⟩
          refine List.mem_iff_getElem?.mpr ⟨x - k, ?_⟩
          rw [List.getElem?_drop, Nat.add_sub_cancel' a, List.getElem?_range b]
      rw [mem_seg, List.mem_filter, md]
      constructor
      · rintro ⟨i, a1, a2, a3⟩
        have hx8 := o.mem.mp (List.mem_of_getElem? a3)
        rcases Nat.lt_or_eq_of_le a1 with a1 | rfl
        · have r := o.at_lt hp a3 a1
          rcases r with r | ⟨r, r'⟩
          · exact (high i x a2 a3 r).elim
          · exact ⟨⟨by omega, hx8⟩, by simpa using (Ld_inj r).symm⟩
        · rw [hp] at a3
          obtain rfl := Option.some.inj a3
          exact ⟨⟨Nat.le_refl _, hk⟩, by simp⟩
      · rintro ⟨⟨a1, a1'⟩, a2⟩
        have a2 : L x = L k := by simpa using a2
        obtain ⟨i, hi⟩ := List.mem_iff_getElem?.mp (o.mem.mpr a1')
        refine ⟨i, ?_, Nat.lt_of_not_le fun h => ?_, hi⟩
        · rcases Nat.lt_or_eq_of_le a1 with a1 | rfl
          · exact Nat.le_of_lt (o.lt_at hp hi (.inr ⟨Ld_eq a2.symm, a1⟩))
          · exact Nat.le_of_eq (o.inj hp hi)
        · have := high' i x h hi
          rw [Ld_eq a2] at this
          exact lt_irr _ this
  have l1 : p - left = (((List.range 8).map L).take k).count (L k) := by
    rw [← List.map_take, count_len, ← e1, List.length_take, List.length_drop, o.len]; omega
  have l2 : right - p = (((List.range 8).map L).drop k).count (L k) := by
    rw [← List.map_drop, count_len, ← e2, List.length_take, List.length_drop, o.len]; have := fr.2.1; omega
  refine ⟨h1, h2, by omega, by omega, ?_, fun j hj e => ?_⟩
  · have hl8 : left < 8 := by omega
    obtain ⟨x, hx⟩ : ∃ x, ord[left]? = some x := ⟨_, List.getElem?_eq_getElem (by rw [o.len]; exact hl8)⟩
    rw [List.getElem?_map, hx]
    have a := low' left x (Nat.le_refl _) hx
    have b := high left x (by omega) hx
    have : Ld L x = Ld L k := by
      rcases lt_tri (Ld L x) (Ld L k) with q | q | q
      · exact (a q).elim
      · exact q
      · exact (b q).elim
    rw [Option.map_some, Ld_inj this]
  · rw [List.getElem?_map] at e
    cases ex : ord[j]? with
    | none => rw [ex] at e; cases e
    | some x =>
      rw [ex] at e
      have e : L x = L k := Option.some.inj e
      have := low j x hj ex
      rw [Ld_eq e] at this
      exact lt_irr _ this
end
end Mine
end

-- part M3
set_option linter.all false
noncomputable section
namespace Mine
open PySem PySem.W
set_option Elab.async false
theorem nodup_len : ∀ (n : Nat) (l : List Nat), l.Nodup → (∀ x ∈ l, x < n) → l.length ≤ n
  | 0, l, _, h => by
    cases l with
    | nil => exact Nat.le_refl _
    | cons x l => exact (Nat.not_lt_zero x (h x List.mem_cons_self)).elim
  | n + 1, l, nd, h => by
    by_cases hn : n ∈ l
    · have := nodup_len n (l.erase n) (nd.erase n) fun x hx => by
        have hx' := (List.Nodup.mem_erase_iff nd).mp hx
        have := h x hx'.2
        have := hx'.1
        omega
      rw [List.length_erase_of_mem hn] at this
      omega
    · have := nodup_len n l nd fun x hx => by
        have := h x hx
        have : x ≠ n := fun e => hn (e ▸ hx)
        omega
      omega
structure Chain (ord : List Nat) (g : List Nat) (k : Nat) (ch : List Nat) (s : Nat) : Prop where
  step : ∀ (i x y : Nat), ch[i]? = some x → ch[i + 1]? = some y → ord[x]? = some y
  head : ∀ x, ch[0]? = some x → ord[s]? = some x
  first : ch = [] → s = k
  last : ch ≠ [] → ch[ch.length - 1]? = some k
  nodup : ch.Nodup
  off : ∀ x ∈ ch, x ∉ g
  lt : ∀ x ∈ ch, x < 8
  s8 : s < 8
structure Ring (ord rg : List Nat) : Prop where
  ne : rg ≠ []
  nodup : rg.Nodup
  lt : ∀ x ∈ rg, x < 8
  step : ∀ (i x : Nat), rg[i]? = some x → ∃ y, ord[x]? = some y ∧ rg[(i + 1) % rg.length]? = some y
structure Rings (ord : List Nat) (k : Nat) (g : List Nat) (rs : List (List Nat)) : Prop where
  mem : ∀ x, x ∈ g ↔ ∃ rg ∈ rs, x ∈ rg
  nodup : g.Nodup
  ring : ∀ rg ∈ rs, Ring ord rg
  all : ∀ i, i < k → i ∈ g
  low : ∀ rg ∈ rs, ∃ m, rg[rg.length - 1]? = some m ∧ m < k ∧ ∀ x ∈ rg, m ≤ x
  sep : rs.Pairwise fun a b => (∀ x ∈ a, x ∉ b) ∧ ∀ (x y : Nat), a[a.length - 1]? = some x → b[b.length - 1]? = some y → x < y
section
variable {ord g : List Nat} {k : Nat} {ch : List Nat} {s : Nat}
theorem Chain.start (hk : k < 8) : Chain ord g k [] k := ⟨fun i x y h => (nomatch h), fun x h => (nomatch h), fun _ => rfl, fun h => (h rfl).elim, .nil, fun x h => (nomatch h), fun x h => (nomatch h), hk⟩
theorem Chain.next (c : Chain ord g k ch s) (h1 : s ∉ g) (h2 : s ∉ ch) {p : Nat} (hp : ord[p]? = some s) (hp8 : p < 8) : Chain ord g k (s :: ch) p where
  step := fun i x y a b => by
    cases i with
    | zero =>
      obtain rfl := Option.some.inj a
      exact c.head y b
    | succ i => exact c.step i x y a b
  head := fun x h => by obtain rfl := Option.some.inj h; exact hp
  first := fun h => nomatch h
  last := fun _ => by
    cases ch with
    | nil => rw [c.first rfl]; rfl
    | cons x ch =>
      have := c.last (by simp)
      simpa using this
  nodup := List.nodup_cons.mpr ⟨h2, c.nodup⟩
  off := fun x hx => by
    rcases List.mem_cons.mp hx with rfl | hx
    · exact h1
    · exact c.off x hx
  lt := fun x hx => by
    rcases List.mem_cons.mp hx with rfl | hx
    · exact c.s8
    · exact c.lt x hx
  s8 := hp8
theorem Chain.len (c : Chain ord g k ch s) : ch.length ≤ 8 := nodup_len 8 ch c.nodup c.lt
theorem Chain.len' (c : Chain ord g k ch s) (h : s ∉ ch) : ch.length < 8 := nodup_len 8 (s :: ch) (List.nodup_cons.mpr ⟨h, c.nodup⟩) fun x hx => by
  rcases List.mem_cons.mp hx with rfl | hx
  · exact c.s8
  · exact c.lt x hx
/-- what is gone is closed under the steps -/
theorem Rings.closed {rs : List (List Nat)} (r : Rings ord k g rs) {x y : Nat} (hx : x ∈ g) (h : ord[x]? = some y) : y ∈ g := by
  obtain ⟨rg, h1, h2⟩ := (r.mem x).mp hx
  obtain ⟨i, hi⟩ := List.mem_iff_getElem?.mp h2
  obtain ⟨z, z1, z2⟩ := (r.ring rg h1).step i x hi
  obtain rfl := Option.some.inj (h.symm.trans z1)
  exact (r.mem y).mpr ⟨rg, h1, List.mem_of_getElem? z2⟩
theorem getElem?_inj {l : List Nat} (nd : l.Nodup) {i j x : Nat} (hi : l[i]? = some x) (hj : l[j]? = some x) : i = j := by
  obtain ⟨a1, a2⟩ := List.getElem?_eq_some_iff.mp hi
  obtain ⟨b1, b2⟩ := List.getElem?_eq_some_iff.mp hj
  exact (List.getElem_inj nd).mp (a2.trans b2.symm)
/-- the way round ends where it began -/
theorem Chain.ring {rs : List (List Nat)} (r : Rings ord k g rs) (c : Chain ord g k ch s) (hne : ch ≠ []) (hs : s ∈ g ∨ s ∈ ch) : Ring ord ch := by
  have h0 : ∃ x, ch[0]? = some x := by
    cases ch with
    | nil => exact (hne rfl).elim
    | cons x ch => exact ⟨x, rfl⟩
  obtain ⟨x0, hx0⟩ := h0
  have hh := c.head x0 hx0
  have hlen : 0 < ch.length := List.length_pos_iff.mpr hne
  have hs : s ∈ ch := by
    rcases hs with hs | hs
    · exact (c.off x0 (List.mem_of_getElem? hx0) (r.closed hs hh)).elim
    · exact hs
  obtain ⟨i, hi⟩ := List.mem_iff_getElem?.mp hs
  have hil := (List.getElem?_eq_some_iff.mp hi).1
  have e : i + 1 = ch.length := by
    rcases Nat.lt_or_ge (i + 1) ch.length with h | h
    · obtain ⟨y, hy⟩ : ∃ y, ch[i + 1]? = some y := ⟨_, List.getElem?_eq_getElem h⟩
      have := c.step i s y hi hy
      obtain rfl := Option.some.inj (this.symm.trans hh)
      have := getElem?_inj c.nodup hx0 hy
      omega
    · omega
  refine ⟨hne, c.nodup, c.lt, fun j x hj => ?_⟩
  have hjl := (List.getElem?_eq_some_iff.mp hj).1
  rcases Nat.lt_or_ge (j + 1) ch.length with h | h
  · rw [Nat.mod_eq_of_lt h]
    obtain ⟨y, hy⟩ : ∃ y, ch[j + 1]? = some y := ⟨_, List.getElem?_eq_getElem h⟩
    exact ⟨y, c.step j x y hj hy, hy⟩
  · have : j = i := by omega
    subst this
    obtain rfl := Option.some.inj (hi.symm.trans hj)
    rw [e, Nat.mod_self]
    exact ⟨x0, hh, hx0⟩
theorem Rings.start : Rings ord 0 [] [] := ⟨fun x => ⟨fun h => (nomatch h), fun ⟨_, h, _⟩ => (nomatch h)⟩, .nil, fun _ h => (nomatch h), fun i h => (Nat.not_lt_zero i h).elim, fun _ h => (nomatch h), .nil⟩
theorem Rings.skip {rs : List (List Nat)} (r : Rings ord k g rs) (hk : k ∈ g) : Rings ord (k + 1) g rs :=
  ⟨r.mem, r.nodup, r.ring, fun i hi => by
    by_cases h : i = k
    · rw [h]; exact hk
    · exact r.all i (by omega), fun rg h => let ⟨m, a, b, c⟩ := r.low rg h; ⟨m, a, by omega, c⟩, r.sep⟩
theorem Rings.add {rs : List (List Nat)} (r : Rings ord k g rs) (c : Chain ord g k ch s) (hne : ch ≠ []) (hs : s ∈ g ∨ s ∈ ch) : Rings ord (k + 1) (g ++ ch.reverse) (rs ++ [ch]) := by
  have ring := c.ring r hne hs
  have hl := c.last hne
  have low : ∀ x ∈ ch, k ≤ x := fun x hx => Nat.le_of_not_lt fun h => c.off x hx (r.all x h)
  refine ⟨fun x => ?_, ?_, fun rg h => ?_, fun i hi => ?_, fun rg h => ?_, ?_⟩
  · rw [List.mem_append, List.mem_reverse, r.mem]
    constructor
    · rintro (⟨rg, a, b⟩ | h)
      · exact ⟨rg, List.mem_append_left _ a, b⟩
      · exact ⟨ch, List.mem_append_right _ (List.mem_singleton_self _), h⟩
    · rintro ⟨rg, a, b⟩
      rcases List.mem_append.mp a with a | a
      · exact .inl ⟨rg, a, b⟩
      · rw [List.mem_singleton.mp a] at b; exact .inr b
  · exact List.nodup_append.mpr ⟨r.nodup, (List.reverse_perm ch).nodup_iff.mpr c.nodup, fun a ha b hb e => by subst e; exact c.off a (List.mem_reverse.mp hb) ha⟩
  · rcases List.mem_append.mp h with h | h
    · exact r.ring rg h
    · rw [List.mem_singleton.mp h]; exact ring
  · by_cases h : i = k
    · rw [h]; exact List.mem_append_right _ (List.mem_reverse.mpr (List.mem_of_getElem? hl))
    · exact List.mem_append_left _ (r.all i (by omega))
  · rcases List.mem_append.mp h with h | h
    · obtain ⟨m, a, b, c⟩ := r.low rg h; exact ⟨m, a, by omega, c⟩
    · rw [List.mem_singleton.mp h]; exact ⟨k, hl, by omega, low⟩
  · refine List.pairwise_append.mpr ⟨r.sep, List.pairwise_singleton _ _, fun a ha b hb => ?_⟩
    rw [List.mem_singleton.mp hb]
    refine ⟨fun x hx h => c.off x h ((r.mem x).mpr ⟨a, ha, hx⟩), fun x y h1 h2 => ?_⟩
    obtain rfl := Option.some.inj (hl.symm.trans h2)
    obtain ⟨m, m1, m2, _⟩ := r.low a ha
    obtain rfl := Option.some.inj (m1.symm.trans h1)
    exact m2
end
end Mine
end

-- part M4
set_option linter.all false
noncomputable section
namespace Mine
open PySem PySem.W
set_option Elab.async false
-- the order of words
theorem lexLt_spec : ∀ (xs ys : List PySem.Str), xs.length = ys.length → (lexLt xs ys = true ↔ ∃ (t : Nat) (x y : PySem.Str), xs[t]? = some x ∧ ys[t]? = some y ∧ (∀ u, u < t → xs[u]? = ys[u]?) ∧ x.cps.toList < y.cps.toList)
  | [], [], _ => ⟨(fun h => nomatch h), fun ⟨_, _, _, h, _⟩ => nomatch h⟩
  | x :: xs, y :: ys, hl => by
    have ih := lexLt_spec xs ys (by simpa using hl)
    unfold lexLt
    by_cases h : x = y
    · subst h
      have : (x == x) = true := by simp
      rw [this, if_pos rfl, ih]
      constructor
      · rintro ⟨t, a, b, h1, h2, h3, h4⟩
        refine ⟨t + 1, a, b, h1, h2, fun u hu => ?_, h4⟩
        cases u with
        | zero => rfl
        | succ u => exact h3 u (by omega)
      · rintro ⟨t, a, b, h1, h2, h3, h4⟩
        cases t with
        | zero =>
          obtain rfl := Option.some.inj h1
          obtain rfl := Option.some.inj h2
          exact (lt_irr _ h4).elim
        | succ t => exact ⟨t, a, b, h1, h2, fun u hu => h3 (u + 1) (by omega), h4⟩
    · have : (x == y) = false := by simpa using h
      rw [this, if_neg Bool.false_ne_true]
      constructor
      · intro e
        exact ⟨0, x, y, rfl, rfl, fun u hu => (Nat.not_lt_zero u hu).elim, of_decide_eq_true e⟩
      · rintro ⟨t, a, b, h1, h2, h3, h4⟩
        cases t with
        | zero =>
          obtain rfl := Option.some.inj h1
          obtain rfl := Option.some.inj h2
          exact decide_eq_true h4
        | succ t =>
          have := h3 0 (by omega)
          exact (h (Option.some.inj this)).elim
theorem lexLt_eq : ∀ (xs ys : List PySem.Str), xs.length = ys.length → lexLt xs ys = false → lexLt ys xs = false → xs = ys
  | [], [], _, _, _ => rfl
  | x :: xs, y :: ys, hl, h1, h2 => by
    unfold lexLt at h1 h2
    by_cases h : x = y
    · subst h
      have : (x == x) = true := by simp
      rw [this, if_pos rfl] at h1 h2
      rw [lexLt_eq xs ys (by simpa using hl) h1 h2]
    · have e1 : (x == y) = false := by simpa using h
      have e2 : (y == x) = false := by simpa using fun e : y = x => h e.symm
      rw [e1, if_neg Bool.false_ne_true] at h1
      rw [e2, if_neg Bool.false_ne_true] at h2
      rcases lt_tri x.cps.toList y.cps.toList with q | q | q
      · exact (of_decide_eq_false h1 q).elim
      · exact (h (PySem.Str.ext' (Array.toList_inj.mp q))).elim
      · exact (of_decide_eq_false h2 q).elim
noncomputable def nx (ord : List Nat) (i : Nat) : Nat := (ord[i]?).getD 0
noncomputable def word (L : Nat → PySem.Str) (ord : List Nat) (i : Nat) : List PySem.Str := (List.range 8).map fun t => L (itr (nx ord) t i)
section
variable {L : Nat → PySem.Str} {ord : List Nat}
theorem nx_at {i j : Nat} (h : ord[i]? = some j) : nx ord i = j := by unfold nx; rw [h]; rfl
theorem OrdOk.turns (o : OrdOk L ord) : Turns (Ld L) (nx ord) where
  lt := fun i hi => by
    obtain ⟨j, hj⟩ : ∃ j, ord[i]? = some j := ⟨_, List.getElem?_eq_getElem (by rw [o.len]; exact hi)⟩
    rw [nx_at hj]; exact o.mem.mp (List.mem_of_getElem? hj)
  up := fun i j hij hj => by
    obtain ⟨a, ha⟩ : ∃ a, ord[i]? = some a := ⟨_, List.getElem?_eq_getElem (by rw [o.len]; omega)⟩
    obtain ⟨b, hb⟩ : ∃ b, ord[j]? = some b := ⟨_, List.getElem?_eq_getElem (by rw [o.len]; omega)⟩
    rw [nx_at ha, nx_at hb]; exact o.at_lt ha hb hij
theorem word_at {i t : Nat} (ht : t < 8) : (word L ord i)[t]? = some (L (itr (nx ord) t i)) := by
  unfold word; rw [List.getElem?_map, List.getElem?_range ht]; rfl
theorem word_len {i : Nat} : (word L ord i).length = 8 := by unfold word; rw [List.length_map, List.length_range]
theorem word_le (o : OrdOk L ord) {i j : Nat} (hi : i < 8) (hj : j < 8) (r : R (Ld L) i j) : lexLt (word L ord j) (word L ord i) = false := by
  cases e : lexLt (word L ord j) (word L ord i) with
  | false => rfl
  | true =>
    obtain ⟨t, x, y, h1, h2, h3, h4⟩ := (lexLt_spec _ _ (by rw [word_len, word_len])).mp e
    have ht : t < 8 := by have := (List.getElem?_eq_some_iff.mp h1).1; rwa [word_len] at this
    rw [word_at ht] at h1 h2
    obtain rfl := Option.some.inj h1
    obtain rfl := Option.some.inj h2
    refine (o.turns.first t i j hj hi r (fun u hu => ?_) h4).elim
    have := h3 u hu
    rw [word_at (by omega), word_at (by omega)] at this
    exact Ld_eq (Option.some.inj this).symm
-- rings
variable {rg : List Nat}
theorem Ring.len8 (r : Ring ord rg) : rg.length ≤ 8 := nodup_len 8 rg r.nodup r.lt
theorem Ring.pos (r : Ring ord rg) : 0 < rg.length := List.length_pos_iff.mpr r.ne
theorem Ring.itr_at (r : Ring ord rg) : ∀ (t a x : Nat), rg[a]? = some x → rg[(a + t) % rg.length]? = some (itr (nx ord) t x)
  | 0, a, x, h => by
    have := (List.getElem?_eq_some_iff.mp h).1
    rw [Nat.add_zero, Nat.mod_eq_of_lt this]; exact h
  | t + 1, a, x, h => by
    obtain ⟨y, h1, h2⟩ := r.step a x h
    have := r.itr_at t _ y h2
    show _ = some (itr (nx ord) t (nx ord x))
    rw [nx_at h1, ← this]
    congr 1
    rw [Nat.mod_add_mod]
    congr 1; omega
theorem Ring.period (r : Ring ord rg) {a x : Nat} (h : rg[a]? = some x) : itr (nx ord) rg.length x = x := by
  have h1 := r.itr_at rg.length a x h
  rw [Nat.add_mod_right, Nat.mod_eq_of_lt (List.getElem?_eq_some_iff.mp h).1, h] at h1
  exact (Option.some.inj h1).symm
theorem Ring.reach (r : Ring ord rg) {a b x y : Nat} (ha : rg[a]? = some x) (hb : rg[b]? = some y) : ∃ s, s < 8 ∧ y = itr (nx ord) s x := by
  have la := (List.getElem?_eq_some_iff.mp ha).1
  have lb := (List.getElem?_eq_some_iff.mp hb).1
  have l8 := r.len8
  rcases Nat.le_total a b with h | h
  · refine ⟨b - a, by omega, ?_⟩
    have := r.itr_at (b - a) a x ha
    rw [Nat.add_sub_cancel' h, Nat.mod_eq_of_lt lb, hb] at this
    exact Option.some.inj this
  · by_cases hab : a = b
    · subst hab
      rw [ha] at hb
      exact ⟨0, by omega, (Option.some.inj hb).symm⟩
    · refine ⟨b + rg.length - a, by omega, ?_⟩
      have := r.itr_at (b + rg.length - a) a x ha
      have e : a + (b + rg.length - a) = b + rg.length := by omega
      rw [e, Nat.add_mod_right, Nat.mod_eq_of_lt lb, hb] at this
      exact Option.some.inj this
theorem Ring.mem_itr (r : Ring ord rg) {x : Nat} (h : x ∈ rg) (t : Nat) : itr (nx ord) t x ∈ rg := by
  obtain ⟨a, ha⟩ := List.mem_iff_getElem?.mp h
  exact List.mem_of_getElem? (r.itr_at t a x ha)
/-- two places of one ring have no like words -/
theorem Ring.apart (r : Ring ord rg) (o : OrdOk L ord) {x y : Nat} (hx : x ∈ rg) (hy : y ∈ rg) (hne : x ≠ y) (e : ∀ u, u < rg.length → L (itr (nx ord) u x) = L (itr (nx ord) u y)) : False := by
  obtain ⟨a, ha⟩ := List.mem_iff_getElem?.mp hx
  obtain ⟨b, hb⟩ := List.mem_iff_getElem?.mp hy
  obtain ⟨s, _, rfl⟩ := r.reach ha hb
  exact o.turns.prim (r.lt x hx) r.pos r.len8 (r.period ha) hne fun u hu => Ld_eq (e u hu)
/-- which of two turnings was met first -/
noncomputable def Ahead (ord : List Nat) (i j : Nat) : Prop := (∃ rg, Ring ord rg ∧ i ∈ rg ∧ j ∈ rg) ∨ ∃ rg rg', Ring ord rg ∧ Ring ord rg' ∧ i ∈ rg ∧ j ∈ rg' ∧ ∃ x y, x ∈ rg ∧ (∀ z ∈ rg', y ≤ z) ∧ x < y
theorem ahead_iff (o : OrdOk L ord) {i j : Nat} (hi : i < 8) (hj : j < 8) (hne : i ≠ j) (h : Ahead ord i j) : lexLt (word L ord j) (word L ord i) = false ↔ R (Ld L) i j := by
  constructor
  · intro e
    rcases R.tri (L := Ld L) hne with r | r
    · exact r
    · have e2 := word_le o hj hi r
      have ew := lexLt_eq _ _ (by rw [word_len, word_len]) e e2
      have eu : ∀ u, u < 8 → L (itr (nx ord) u j) = L (itr (nx ord) u i) := fun u hu => by
        have h1 := word_at (L := L) (ord := ord) (i := j) hu
        rw [ew, word_at hu] at h1
        exact (Option.some.inj h1).symm
      rcases h with ⟨rg, r1, h1, h2⟩ | ⟨rg, rg', r1, r2, h1, h2, x, y, hx, hy, hxy⟩
      · exact (r1.apart o h2 h1 hne.symm fun u hu => eu u (by have := r1.len8; omega)).elim
      · obtain ⟨a, ha⟩ := List.mem_iff_getElem?.mp h1
        obtain ⟨b, hb⟩ := List.mem_iff_getElem?.mp hx
        obtain ⟨t, ht, rfl⟩ := r1.reach ha hb
        have hlt : j < i := r.not_lt (Ld_eq (eu 0 (by decide)))
        have := o.turns.alike hi hlt (fun u hu => Ld_eq (eu u hu)) ht
        have := hy _ (r2.mem_itr h2 t)
        omega
  · exact fun r => word_le o hi hj r
theorem ahead_iff' (o : OrdOk L ord) {s j : Nat} (hs : s < 8) (hj : j < 8) (hne : s ≠ j) (h : Ahead ord j s) : lexLt (word L ord s) (word L ord j) = true ↔ R (Ld L) s j := by
  have := ahead_iff o hj hs hne.symm h
  constructor
  · intro e
    rcases R.tri (L := Ld L) hne with r | r
    · exact r
    · rw [this.mpr r] at e; cases e
  · intro r
    cases e : lexLt (word L ord s) (word L ord j) with
    | true => rfl
    | false => exact (R.asymm r (this.mp e)).elim
-- turnings
noncomputable def rot (rg : List Nat) (a : Nat) : List Nat := rg.drop a ++ rg.take a
theorem rot_len {a : Nat} (h : a ≤ rg.length) : (rot rg a).length = rg.length := by unfold rot; rw [List.length_append, List.length_drop, List.length_take]; omega
theorem rot_at {a t : Nat} (ha : a < rg.length) (ht : t < rg.length) : (rot rg a)[t]? = rg[(a + t) % rg.length]? := by
  unfold rot
  rcases Nat.lt_or_ge t (rg.length - a) with h | h
  · rw [List.getElem?_append_left (by rw [List.length_drop]; exact h), List.getElem?_drop, Nat.mod_eq_of_lt (by omega)]
  · rw [List.getElem?_append_right (by rw [List.length_drop]; exact h), List.length_drop, List.getElem?_take_of_lt (by omega)]
    congr 1
    rw [Nat.mod_eq_sub_mod (by omega), Nat.mod_eq_of_lt (by omega)]; omega
theorem double_cut {α : Type} (w : List α) {a : Nat} (h : a ≤ w.length) : ((w ++ w).drop a).take w.length = w.drop a ++ w.take a := by
  rw [List.drop_append_of_le_length h, List.take_append]
  rw [List.take_of_length_le (by rw [List.length_drop]; omega), List.length_drop]
  congr 2; omega
theorem flat_at {α : Type} (w : List α) (h : 0 < w.length) : ∀ (k t : Nat), t < k * w.length → ((List.replicate k w).flatten)[t]? = w[t % w.length]?
  | 0, t, ht => by omega
  | k + 1, t, ht => by
    rw [List.replicate_succ, List.flatten_cons]
    rcases Nat.lt_or_ge t w.length with h1 | h1
    · rw [List.getElem?_append_left h1, Nat.mod_eq_of_lt h1]
    · rw [List.getElem?_append_right h1, flat_at w h k _ (by rw [Nat.succ_mul] at ht; omega), Nat.mod_eq_sub_mod h1]
theorem Ring.word8 (r : Ring ord rg) {a x : Nat} (hx : rg[a]? = some x) : (List.replicate 8 ((rot rg a).map L)).flatten.take 8 = word L ord x := by
  have ha := (List.getElem?_eq_some_iff.mp hx).1
  have hl : ((rot rg a).map L).length = rg.length := by rw [List.length_map, rot_len (Nat.le_of_lt ha)]
  have hp := r.pos
  apply List.ext_getElem?
  intro t
  rcases Nat.lt_or_ge t 8 with ht | ht
  · rw [List.getElem?_take_of_lt ht, flat_at _ (by rw [hl]; exact hp) 8 t (by rw [hl]; omega), hl, word_at ht, List.getElem?_map, rot_at ha (Nat.mod_lt _ hp), Nat.add_mod_mod, r.itr_at t a x hx]; rfl
  · rw [List.getElem?_eq_none (by rw [List.length_take]; omega), List.getElem?_eq_none (by rw [word_len]; exact ht)]
/-- the last of a turning is the place of its first -/
theorem Ring.last (r : Ring ord rg) {a x : Nat} (hx : rg[a]? = some x) : ∃ y, (rot rg a)[(rot rg a).length - 1]? = some y ∧ ord[y]? = some x := by
  have ha := (List.getElem?_eq_some_iff.mp hx).1
  have hp := r.pos
  rw [rot_len (Nat.le_of_lt ha), rot_at ha (by omega)]
  have hlt : (a + (rg.length - 1)) % rg.length < rg.length := Nat.mod_lt _ hp
  obtain ⟨y, hy⟩ : ∃ y, rg[(a + (rg.length - 1)) % rg.length]? = some y := ⟨_, List.getElem?_eq_getElem hlt⟩
  obtain ⟨z, z1, z2⟩ := r.step _ y hy
  rw [Nat.mod_add_mod, show a + (rg.length - 1) + 1 = a + rg.length by omega, Nat.add_mod_right, Nat.mod_eq_of_lt ha, hx] at z2
  obtain rfl := Option.some.inj z2
  exact ⟨y, hy, z1⟩
/-- one turning to a bead -/
theorem Rings.turning {g : List Nat} {k : Nat} {rs : List (List Nat)} (r : Rings ord k g rs) : ∃ T : Nat → List Nat, ∀ rg, rg ∈ rs → ∀ a x, rg[a]? = some x → T x = rot rg a := by
  have h : ∀ x : Nat, ∃ l : List Nat, ∀ rg, rg ∈ rs → ∀ a, rg[a]? = some x → l = rot rg a := fun x => by
    by_cases hx : ∃ rg ∈ rs, x ∈ rg
    · obtain ⟨rg, h1, h2⟩ := hx
      obtain ⟨a, ha⟩ := List.mem_iff_getElem?.mp h2
      refine ⟨rot rg a, fun rg' h1' a' ha' => ?_⟩
      have same : rg = rg' := by
        obtain ⟨i, hi⟩ := List.mem_iff_getElem?.mp h1
        obtain ⟨j, hj⟩ := List.mem_iff_getElem?.mp h1'
        obtain ⟨il, ie⟩ := List.getElem?_eq_some_iff.mp hi
        obtain ⟨jl, je⟩ := List.getElem?_eq_some_iff.mp hj
        rcases Nat.lt_trichotomy i j with q | q | q
        · have := (List.pairwise_iff_getElem.mp r.sep i j il jl q).1 x (ie ▸ h2)
          exact (this (je ▸ List.mem_of_getElem? ha')).elim
        · subst q; exact ie.symm.trans je
        · have := (List.pairwise_iff_getElem.mp r.sep j i jl il q).1 x (je ▸ List.mem_of_getElem? ha')
          exact (this (ie ▸ h2)).elim
      subst same
      rw [getElem?_inj (r.ring rg h1).nodup ha ha']
    · exact ⟨[], fun rg h1 a ha => (hx ⟨rg, h1, List.mem_of_getElem? ha⟩).elim⟩
  obtain ⟨T, hT⟩ := Classical.skolem.mp h
  exact ⟨T, fun rg h1 a x hx => hT x rg h1 a hx⟩
end
end Mine
end

-- part S1
set_option linter.all false
noncomputable section
namespace Mine
open PySem PySem.W PySem.Calls PyProof.Rows
set_option Elab.async false
noncomputable def at_ (p : Array Nat) (i : Nat) : Nat := p.getD i 0
theorem at_eq (p : Array Nat) (i : Nat) : at_ p i = (p[i]?).getD 0 := by simp [at_]
theorem at_mirror {p : Array Nat} {m : Nat} (h : m ≤ p.size) (i : Nat) : at_ (kas_rev p 0 m) i = if i < m then at_ p (m - 1 - i) else at_ p i := by
  rw [at_eq, at_eq, at_eq]
  unfold kas_rev
  rw [getElem?_mirror_all h i]
  by_cases hi : i < m
  · rw [if_pos ⟨Nat.zero_le _, hi⟩, if_pos hi, Nat.zero_add]
  · rw [if_neg (fun x => hi x.2), if_neg hi]
theorem at_bubble {p : Array Nat} {k d : Nat} (h : k < p.size) (hd : d ≤ k) (i : Nat) : at_ (bubble p k d) i = if i = k - d then at_ p k else if k - d < i ∧ i ≤ k then at_ p (i - 1) else at_ p i := by
  simp only [at_eq]
  rw [getElem?_bubble h d hd i]
  repeat' split
  all_goals rfl
noncomputable def Pm (n : Nat) (p : Array Nat) : Prop := p.Perm (List.range n).toArray
section
variable {n : Nat} {p : Array Nat}
theorem Pm.list (h : Pm n p) : p.toList.Perm (List.range n) := by
  have := Array.perm_iff_toList_perm.mp h
  simpa using this
theorem Pm.size (h : Pm n p) : p.size = n := by rw [← Array.length_toList, h.list.length_eq, List.length_range]
theorem Pm.at_mem (h : Pm n p) {i : Nat} (hi : i < n) : p.toList[i]? = some (at_ p i) := by
  have : i < p.size := by rw [h.size]; exact hi
  simp [at_, this]
theorem Pm.lt (h : Pm n p) {i : Nat} (hi : i < n) : at_ p i < n := List.mem_range.mp (h.list.mem_iff.mp (List.mem_of_getElem? (h.at_mem hi)))
theorem Pm.inj (h : Pm n p) {i j : Nat} (hi : i < n) (hj : j < n) (e : at_ p i = at_ p j) : i = j := by
  have nd : p.toList.Nodup := h.list.nodup_iff.mpr List.nodup_range
  have h1 := h.at_mem hi
  have h2 := h.at_mem hj
  rw [← e] at h2
  obtain ⟨a1, a2⟩ := List.getElem?_eq_some_iff.mp h1
  obtain ⟨b1, b2⟩ := List.getElem?_eq_some_iff.mp h2
  exact (List.getElem_inj nd).mp (a2.trans b2.symm)
theorem Pm.rev (h : Pm n p) {m : Nat} : Pm n (kas_rev p 0 m) := Array.Perm.trans (mirror_perm ..) h
theorem Pm.bub (h : Pm n p) {k d : Nat} : Pm n (bubble p k d) := Array.Perm.trans (bubble_perm ..) h
end
section
variable {cmp : Nat → Nat → (Bool → Shared → Prop) → Shared → Prop} {lt : Nat → Nat → Bool} {s : Shared} {n : Nat}
structure Cmp (cmp : Nat → Nat → (Bool → Shared → Prop) → Shared → Prop) (lt : Nat → Nat → Bool) (s : Shared) (n : Nat) : Prop where
  ask : ∀ i j C, i < n → j < n → C (lt i j) s → cmp i j C s
  irr : ∀ i, lt i i = false
  trans : ∀ i j k, lt i j = true → lt j k = true → lt i k = true
  tot : ∀ i j, i < n → j < n → i ≠ j → lt i j = true ∨ lt j i = true
noncomputable def Upto (lt : Nat → Nat → Bool) (p : Array Nat) (k : Nat) : Prop := ∀ i j, i < j → j < k → lt (at_ p i) (at_ p j) = true
noncomputable def Down (lt : Nat → Nat → Bool) (p : Array Nat) (k : Nat) : Prop := ∀ i j, i < j → j < k → lt (at_ p j) (at_ p i) = true
theorem Upto.step (c : Cmp cmp lt s n) {p : Array Nat} {k : Nat} (h : Upto lt p (k + 1)) (e : lt (at_ p k) (at_ p (k + 1)) = true) : Upto lt p (k + 2) := fun i j hij hj => by
  by_cases hj1 : j < k + 1
  · exact h i j hij hj1
  · have : j = k + 1 := by omega
    subst this
    by_cases hi : i = k
    · rw [hi]; exact e
    · exact c.trans _ _ _ (h i k (by omega) (by omega)) e
theorem Down.step (c : Cmp cmp lt s n) {p : Array Nat} {k : Nat} (h : Down lt p (k + 1)) (e : lt (at_ p (k + 1)) (at_ p k) = true) : Down lt p (k + 2) := fun i j hij hj => by
  by_cases hj1 : j < k + 1
  · exact h i j hij hj1
  · have : j = k + 1 := by omega
    subst this
    by_cases hi : i = k
    · rw [hi]; exact e
    · exact c.trans _ _ _ e (h i k (by omega) (by omega))
theorem asc_ok (c : Cmp cmp lt s n) {p : Array Nat} (hp : Pm n p) {Q : Nat → Shared → Prop} : ∀ (f k : Nat), k + 1 + f ≤ n → Upto lt p (k + 1) → (∀ m, k + 1 ≤ m → m ≤ k + 1 + f → Upto lt p m → (m < k + 1 + f → lt (at_ p m) (at_ p (m - 1)) = true) → Q m s) → (kas_asc p f (k + 1)).kasWp cmp Q s
  | 0, k, _, h, q => q _ (Nat.le_refl _) (Nat.le_refl _) h fun h => (Nat.lt_irrefl _ h).elim
  | f + 1, k, hn, h, q => by
    refine c.ask _ _ _ (hp.lt (by omega)) (hp.lt (by omega)) ?_
    show (if lt (at_ p (k + 1)) (at_ p k) = true then KasT.ret (k + 1) else kas_asc p f (k + 2)).kasWp cmp Q s
    cases e : lt (at_ p (k + 1)) (at_ p k) with
    | true =>
      rw [if_pos rfl]
      exact q _ (Nat.le_refl _) (by omega) h fun _ => e
    | false =>
      rw [if_neg Bool.false_ne_true]
      have e2 : lt (at_ p k) (at_ p (k + 1)) = true := by
        rcases c.tot (at_ p k) (at_ p (k + 1)) (hp.lt (by omega)) (hp.lt (by omega)) (fun x => by have := hp.inj (by omega) (by omega) x; omega) with g | g
        · exact g
        · rw [e] at g; cases g
      exact asc_ok c hp f (k + 1) (by omega) (Upto.step c h e2) fun m h1 h2 h3 h4 => q m (by omega) (by omega) h3 fun h => h4 (by omega)
theorem desc_ok (c : Cmp cmp lt s n) {p : Array Nat} (hp : Pm n p) {Q : Array Nat × Nat × Nat → Shared → Prop} : ∀ (f k : Nat), k + 1 + f ≤ n → Down lt p (k + 1) → (∀ m, k + 1 ≤ m → m ≤ n → Down lt p m → Q (p, m, 0) s) → (kas_desc f p (k + 1) 0).kasWp cmp Q s
  | 0, k, hn, h, q => q _ (Nat.le_refl _) (by omega) h
  | f + 1, k, hn, h, q => by
    refine c.ask _ _ _ (hp.lt (by omega)) (hp.lt (by omega)) ?_
    show (if lt (at_ p (k + 1)) (at_ p k) = true then (if 0 > 0 then _ else kas_desc f p (k + 2) 0) else KasT.ask (at_ p k) (at_ p (k + 1)) fun d => if d = true then KasT.ret (p, k + 1, 0) else kas_desc f p (k + 2) 1).kasWp cmp Q s
    cases e : lt (at_ p (k + 1)) (at_ p k) with
    | true =>
      rw [if_pos rfl, if_neg (Nat.lt_irrefl 0)]
      exact desc_ok c hp f (k + 1) (by omega) (Down.step c h e) fun m h1 h2 h3 => q m (by omega) h2 h3
    | false =>
      rw [if_neg Bool.false_ne_true]
      have e2 : lt (at_ p k) (at_ p (k + 1)) = true := by
        rcases c.tot (at_ p k) (at_ p (k + 1)) (hp.lt (by omega)) (hp.lt (by omega)) (fun x => by have := hp.inj (by omega) (by omega) x; omega) with g | g
        · exact g
        · rw [e] at g; cases g
      refine c.ask _ _ _ (hp.lt (by omega)) (hp.lt (by omega)) ?_
      show (if lt (at_ p k) (at_ p (k + 1)) = true then KasT.ret (p, k + 1, 0) else kas_desc f p (k + 2) 1).kasWp cmp Q s
      rw [e2, if_pos rfl]
      exact q _ (Nat.le_refl _) (by omega) h
theorem count_ok (c : Cmp cmp lt s n) (h2 : 2 ≤ n) {p : Array Nat} (hp : Pm n p) {Q : Nat × Array Nat → Shared → Prop} (q : ∀ m p', Pm n p' → 1 ≤ m → m ≤ n → Upto lt p' m → Q (m, p') s) : (kas_count n p).kasWp cmp Q s := by
  unfold kas_count
  rw [KasT.kasWp_bind]
  refine asc_ok c hp (n - 1) 0 (by omega) (fun i j h1 h2 => by omega) fun m h3 h4 h5 h6 => ?_
  have h4 : m ≤ n := by omega
  by_cases hm : m = n
  · rw [if_pos (by simpa using hm)]
    exact q m p hp h3 h4 h5
  · rw [if_neg (by simpa using hm)]
    by_cases h1 : m > 1
    · rw [if_pos h1]
      refine c.ask _ _ _ (hp.lt (by omega)) (hp.lt (by omega)) ?_
      show (if lt (at_ p 0) (at_ p (m - 1)) = true then KasT.ret (m, p) else _).kasWp cmp Q s
      rw [h5 0 (m - 1) (by omega) (by omega), if_pos rfl]
      exact q m p hp h3 h4 h5
    · rw [if_neg h1]
      have hm1 : m = 1 := by omega
      subst hm1
      have e := h6 (by omega)
      unfold kas_descPart
      rw [KasT.kasWp_bind]
      refine desc_ok c hp (n - 2) 1 (by omega) (fun i j a b => ?_) fun m' a b d => ?_
      · have : i = 0 ∧ j = 1 := by omega
        obtain ⟨rfl, rfl⟩ := this
        exact e
      · dsimp only
        rw [if_neg (Nat.lt_irrefl 0)]
        unfold kas_tail3
        rw [KasT.kasWp_bind]
        have up : Upto lt (kas_rev p 0 m') m' := fun i j hij hj => by
          rw [at_mirror (by rw [hp.size]; exact b), at_mirror (by rw [hp.size]; exact b), if_pos (by omega), if_pos hj]
          exact d _ _ (by omega) (by omega)
        obtain ⟨k, rfl⟩ : ∃ k, m' = k + 1 := ⟨m' - 1, by omega⟩
        exact asc_ok c hp.rev (n - (k + 1)) k (by omega) up fun m2 a2 b2 d2 _ => q m2 _ hp.rev (by omega) (by omega) d2
theorem place_ok (c : Cmp cmp lt s n) {p : Array Nat} (hp : Pm n p) {k : Nat} (hk : k < n) (hs : Upto lt p k) {Q : Nat → Shared → Prop} (q : ∀ l, l ≤ k → (∀ i, i < l → lt (at_ p i) (at_ p k) = true) → (∀ i, l ≤ i → i < k → lt (at_ p k) (at_ p i) = true) → Q l s) :
    ∀ (f l r : Nat), r - l ≤ f → l ≤ r → r ≤ k → (∀ i, i < l → lt (at_ p i) (at_ p k) = true) → (∀ i, r ≤ i → i < k → lt (at_ p k) (at_ p i) = true) → (kas_place p k f l r).kasWp cmp Q s
  | 0, l, r, h1, h2, h3, h4, h5 => by
    have : l = r := by omega
    subst this
    exact q l h3 h4 h5
  | f + 1, l, r, h1, h2, h3, h4, h5 => by
    unfold kas_place
    by_cases hlr : l ≥ r
    · rw [if_pos hlr]
      have : l = r := by omega
      subst this
      exact q l h3 h4 h5
    · rw [if_neg hlr]
      have hm : l ≤ (l + r) / 2 ∧ (l + r) / 2 < r := by omega
      refine c.ask _ _ _ (hp.lt hk) (hp.lt (by omega)) ?_
      show (if lt (at_ p k) (at_ p ((l + r) / 2)) = true then kas_place p k f l ((l + r) / 2) else kas_place p k f ((l + r) / 2 + 1) r).kasWp cmp Q s
      cases e : lt (at_ p k) (at_ p ((l + r) / 2)) with
      | true =>
        rw [if_pos rfl]
        refine place_ok c hp hk hs q f l _ (by omega) hm.1 (by omega) h4 fun i a b => ?_
        by_cases hi : i = (l + r) / 2
        · rw [hi]; exact e
        · exact c.trans _ _ _ e (hs _ _ (by omega) b)
      | false =>
        rw [if_neg Bool.false_ne_true]
        have e2 : lt (at_ p ((l + r) / 2)) (at_ p k) = true := by
          rcases c.tot (at_ p ((l + r) / 2)) (at_ p k) (hp.lt (by omega)) (hp.lt hk) (fun x => by have := hp.inj (by omega) hk x; omega) with g | g
          · exact g
          · rw [e] at g; cases g
        refine place_ok c hp hk hs q f _ r (by omega) (by omega) h3 (fun i a => ?_) h5
        by_cases hi : i = (l + r) / 2
        · rw [hi]; exact e2
        · exact c.trans _ _ _ (hs i ((l + r) / 2) (by omega) (by omega)) e2
theorem bin_ok (c : Cmp cmp lt s n) {Q : Array Nat → Shared → Prop} (q : ∀ p, Pm n p → Upto lt p n → Q p s) : ∀ (f k : Nat) (p : Array Nat), Pm n p → k + f = n → Upto lt p k → (kas_bin f p k).kasWp cmp Q s
  | 0, k, p, hp, hk, h => by
    have : k = n := by omega
    subst this
    exact q p hp h
  | f + 1, k, p, hp, hk, h => by
    unfold kas_bin
    rw [KasT.kasWp_bind]
    refine place_ok c hp (by omega) h (fun l hl h1 h2 => ?_) k 0 k (by omega) (Nat.zero_le _) (Nat.le_refl _) (fun i a => by omega) (fun i a b => by omega)
    refine bin_ok c q f (k + 1) _ hp.bub (by omega) fun i j hij hj => ?_
    have hks : k < p.size := by rw [hp.size]; omega
    rw [at_bubble hks (by omega), at_bubble hks (by omega)]
    have e : k - (k - l) = l := by omega
    rw [e]
    have up : ∀ a b, a < b → b < k → lt (at_ p a) (at_ p b) = true := h
    by_cases i1 : i = l
    · rw [if_pos i1, if_neg (by omega), if_pos (by omega)]
      exact h2 (j - 1) (by omega) (by omega)
    · rw [if_neg i1]
      by_cases i2 : l < i
      · rw [if_pos (by omega), if_neg (by omega), if_pos (by omega)]
        exact up (i - 1) (j - 1) (by omega) (by omega)
      · rw [if_neg (by omega)]
        by_cases j1 : j = l
        · rw [if_pos j1]
          exact h1 i (by omega)
        · rw [if_neg j1]
          by_cases j2 : l < j
          · rw [if_pos (by omega)]
            by_cases j3 : i = j - 1
            · omega
            · exact up i (j - 1) (by omega) (by omega)
          · rw [if_neg (by omega)]
            exact up i j hij (by omega)
theorem sort_ok (c : Cmp cmp lt s n) (h2 : 2 ≤ n) {Q : Array Nat → Shared → Prop} (q : ∀ p, Pm n p → Upto lt p n → Q p s) : (kas_sort n).kasWp cmp Q s := by
  unfold kas_sort
  rw [KasT.kasWp_bind]
  refine count_ok c h2 (Array.Perm.refl _) fun m p hp h1 hm hu => ?_
  dsimp only
  have : max m 1 = m := by omega
  rw [this]
  by_cases hlt : m < n
  · rw [if_pos hlt]
    exact bin_ok c q (n - m) m p hp (by omega) hu
  · rw [if_neg hlt]
    have : m = n := by omega
    subst this
    exact q p hp hu
end
end Mine
end

-- part V5
set_option linter.all false
noncomputable section
namespace Mine
open PySem PySem.W PySem.Calls PyProof.Rows
set_option Elab.async false
set_option maxRecDepth 100000
theorem pick_gen {α : Type} (l : List α) {lo hi : Option Int} {a b : Nat} (e : sliceBounds lo hi none l.length = ((a : Int), (b : Int), 1)) : pick l lo hi none = (l.drop a).take (b - a) := by
  unfold pick
  rw [e]
  have := pick_run l.toArray a (b - a)
  rw [sliceRange_one]
  simpa using this
theorem bounds_none_int (n : Nat) : (if (n : Int) < 0 then (n : Int) + 0 else n) = n := by split <;> omega
theorem pick_upto {α : Type} (l : List α) (b : Nat) : pick l none (some (b : Int)) none = l.take b := by
  rw [pick_gen l (a := 0) (b := min b l.length)]
  · rw [List.drop_zero, Nat.sub_zero]
    rcases Nat.le_total b l.length with h | h
    · rw [Nat.min_eq_left h]
    · rw [Nat.min_eq_right h, List.take_of_length_le (Nat.le_refl _), List.take_of_length_le h]
  · simp only [sliceBounds, Option.getD_none]
    have h2 : ¬ ((b : Int) < 0) := by omega
    simp only [h2, if_false, show (1 : Int) > 0 by decide, if_true]
    congr 1
    congr 1; omega
theorem pick_from {α : Type} (l : List α) (a : Nat) : pick l (some (a : Int)) none none = l.drop a := by
  rw [pick_gen l (a := min a l.length) (b := l.length)]
  · rcases Nat.le_total a l.length with h | h
    · rw [Nat.min_eq_left h, List.take_of_length_le (by rw [List.length_drop]; omega)]
    · rw [Nat.min_eq_right h, List.drop_of_length_le h, List.drop_of_length_le (Nat.le_refl _)]; simp
  · simp only [sliceBounds, Option.getD_none]
    have h2 : ¬ ((a : Int) < 0) := by omega
    simp only [h2, if_false, show (1 : Int) > 0 by decide, if_true]
    congr 1
    omega
theorem pick_all {α : Type} (l : List α) : pick l none none none = l := by
  rw [pick_gen l (a := 0) (b := l.length)]
  · simp
  · simp [sliceBounds]
theorem pick_mid {α : Type} (l : List α) {a b : Nat} (hab : a ≤ b) (hb : b ≤ l.length) : pick l (some (a : Int)) (some (b : Int)) none = (l.drop a).take (b - a) := by
  apply pick_gen
  simp only [sliceBounds, Option.getD_none]
  have h1 : ¬ ((a : Int) < 0) := by omega
  have h2 : ¬ ((b : Int) < 0) := by omega
  simp only [h1, h2, if_false, show (1 : Int) > 0 by decide, if_true]
  congr 1
  · omega
  · congr 1; omega
theorem rev_range : ∀ n : Nat, ((List.range n).map fun k => n - 1 - k) = (List.range n).reverse
  | 0 => rfl
  | n + 1 => by
    rw [List.range_succ, List.reverse_append, List.reverse_singleton, List.singleton_append, ← rev_range n, ← List.range_succ, List.range_succ_eq_map, List.map_cons, List.map_map]
    congr 1
    apply List.map_congr_left
    intro k _
    simp; omega
theorem pick_rev {α : Type} (l : List α) : pick l none none (some (-1)) = l.reverse := by
  unfold pick
  have e : sliceBounds none none (some (-1)) l.length = ((l.length : Int) - 1, -1, -1) := by simp [sliceBounds]
  rw [e]
  dsimp only
  have e2 : sliceRange ((l.length : Int) - 1) (-1) (-1) = (List.range l.length).reverse := by
    rw [← rev_range]
    unfold sliceRange
    have h1 : ¬ ((-1 : Int) > 0) := by decide
    by_cases h : (l.length : Int) - 1 > -1
    · have e : ((l.length : Int) - 1 - -1 - -1 - 1) / (- -1) = (l.length : Int) := by
        rw [show (- -1 : Int) = 1 by decide, Int.ediv_one]
        omega
      simp only [h1, if_false, h, if_true, e, Int.toNat_natCast]
      apply List.map_congr_left
      intro k hk
      have := List.mem_range.mp hk
      omega
    · have e : l.length = 0 := by omega
      rw [e]; simp
  rw [e2, List.filterMap_reverse]
  congr 1
  have := pick_run l.toArray 0 l.length
  simpa using this
section
variable {w : World} {hb : Heap} {os : OsState} {n : Nat} {H : PH} {env : Env} {ρ : Rho}
theorem PH.set_self {c : Addr} {l : List PV} : (H.set c l) c = some l := by unfold PH.set; rw [if_pos rfl]
theorem kind_hasattr : builtinKind "hasattr" = none := by decide +kernel
theorem plain_hasattr : plainId "hasattr" = true := by decide +kernel
theorem args_hasattr (a b : Value) : argsOk "hasattr" ⟨[a, b], []⟩ := by unfold argsOk; kernel_rfl
theorem wc_hasattr_list {a : Addr} {l : List PV} {Φ : PV → PH → Prop} (e : H a = some l) (h : Φ (.bool true) H) : WC w hb os n H (.builtin "hasattr") [.ref a, .str (S "__getitem__")] [] Φ := fun A s τ vs ks ak I r r2 Q q => by
  obtain ⟨v, u, rfl, r1, r3⟩ := r.two
  (first | obtain rfl := r1.nil_is | obtain rfl := r1.ref_is | obtain ⟨_, rfl⟩ := r1.int_is | obtain ⟨_, rfl, _⟩ := r1.str_is | obtain rfl := r1.bool_is | obtain rfl := r1.none_is | obtain rfl := r1.fn_is | cases r1); (first | obtain rfl := r3.nil_is | obtain rfl := r3.ref_is | obtain ⟨_, rfl⟩ := r3.int_is | obtain ⟨_, rfl, _⟩ := r3.str_is | obtain rfl := r3.bool_is | obtain rfl := r3.none_is | obtain rfl := r3.fn_is | cases r3); (first | obtain rfl := r2.nil_is | obtain rfl := r2.ref_is | obtain ⟨_, rfl⟩ := r2.int_is | obtain ⟨_, rfl, _⟩ := r2.str_is | obtain rfl := r2.bool_is | obtain rfl := r2.none_is | obtain rfl := r2.fn_is | cases r2)
  obtain ⟨items, m, i1, i2⟩ := I.l.get e
  refine Calls.call_function_entry kind_hasattr plain_hasattr HA.entry_hasattr (args_hasattr _ _) ?_
  refine hasattr_list i1 fun o => ⟨_, rfl, ?_⟩
  have z := I.grow (pushNew o) (Nat.le_refl s.toks) (fun t _ => (rfl : τ t = τ t))
  exact q _ H _ _ τ h z.1 .bool z.2
theorem wc_hasattr_str {x : PySem.Str} {Φ : PV → PH → Prop} (h : Φ (.bool true) H) : WC w hb os n H (.builtin "hasattr") [.str x, .str (S "__getitem__")] [] Φ := fun A s τ vs ks ak I r r2 Q q => by
  obtain ⟨v, u, rfl, r1, r3⟩ := r.two
  (first | obtain rfl := r1.nil_is | obtain rfl := r1.ref_is | obtain ⟨_, rfl⟩ := r1.int_is | obtain ⟨_, rfl, _⟩ := r1.str_is | obtain rfl := r1.bool_is | obtain rfl := r1.none_is | obtain rfl := r1.fn_is | cases r1); (first | obtain rfl := r3.nil_is | obtain rfl := r3.ref_is | obtain ⟨_, rfl⟩ := r3.int_is | obtain ⟨_, rfl, _⟩ := r3.str_is | obtain rfl := r3.bool_is | obtain rfl := r3.none_is | obtain rfl := r3.fn_is | cases r3); (first | obtain rfl := r2.nil_is | obtain rfl := r2.ref_is | obtain ⟨_, rfl⟩ := r2.int_is | obtain ⟨_, rfl, _⟩ := r2.str_is | obtain rfl := r2.bool_is | obtain rfl := r2.none_is | obtain rfl := r2.fn_is | cases r2)
  refine Calls.call_function_entry kind_hasattr plain_hasattr HA.entry_hasattr (args_hasattr _ _) ?_
  refine hasattr_str fun o => ⟨_, rfl, ?_⟩
  have z := I.grow (pushNew o) (Nat.le_refl s.toks) (fun t _ => (rfl : τ t = τ t))
  exact q _ H _ _ τ h z.1 .bool z.2
theorem wb_value {e : Expr} {whole : Sem Value} {Φ : Bool → PH → Prop} (h : WT w hb os n env ρ H whole fun p H1 => ∃ b, p = .bool b ∧ Φ b H1)
    (he : isTrue e env whole = (do let v ← whole; standAt e.pos; holding [v] (truthy v)) := by rfl) : WB w hb os n env ρ H (isTrue e env whole) Φ := fun A s τ a I Q q =>
  wpAny_isTrue_value (h A s τ a I _ fun p H1 v s1 τ1 ⟨b, e, f⟩ J r x => by
    subst e; (first | obtain rfl := r.nil_is | obtain rfl := r.ref_is | obtain ⟨_, rfl⟩ := r.int_is | obtain ⟨_, rfl, _⟩ := r.str_is | obtain rfl := r.bool_is | obtain rfl := r.none_is | obtain rfl := r.fn_is | cases r); exact wpAny_truthy_bool (q b H1 s1 τ1 f J x)) he
theorem WB.mono {t : Sem Bool} {Φ Ψ : Bool → PH → Prop} (h : WB w hb os n env ρ H t Φ) (k : ∀ p H', Φ p H' → Ψ p H') : WB w hb os n env ρ H t Ψ :=
  fun A s τ a I Q q => h A s τ a I Q fun p H' s' τ' f => q p H' s' τ' (k p H' f)
theorem spec_concat_str {x y : PySem.Str} {Φ : PV → PH → Prop} (B : Base w hb) (hl : x.length + y.length ≤ sizeLine) (h : Φ (.str (x ++ y)) H) : WC w hb os (n + 1) H (.ref 71) [.str x, .str y] [] Φ := by
  refine wc_def 8 (ns := [S "a", S "b"]) (pb := [(S "a", .str x), (S "b", .str y)]) B (B.K 71 _ (by rfl)) rfl ⟨70, _, _, _, rfl, B.K 70 _ (by rfl), rfl, rfl⟩ (binds2 B fun _ _ _ => rfl) rfl rfl rfl (by kernel_rfl) rfl rfl rfl ?_ rfl rfl rfl
  intro env he kx
  refine wf_consL ?_
  intro Ps
  refine wf_if ?_
  refine wb_not ?_
  refine wb_value ?_
  refine we_callL ?_
  intro Ps
  refine we_builtin B he ((kx _).trans (by rfl)) (by rfl) (by rfl) (fun _ => .blt) ⟨_, .blt, callee_blt, ?_⟩
  refine WTs.cons ?_
  refine we_local he ((kx _).trans (by rfl)) (by first | rfl | assumption) ?_
  refine WTs.cons ?_
  refine we_strc ?_
  refine WTs.nil (WKs.nil ⟨rfl, ?_⟩)
  refine wc_hasattr_str ⟨true, rfl, ?_⟩
  rw [if_neg (by decide)]
  refine wf_nil ?_
  refine wf_consL ?_
  intro Ps
  refine wf_ret ?_
  refine we_binopL ?_
  intro Ps
  refine we_local he ((kx _).trans (by rfl)) (by first | rfl | assumption) ?_
  refine we_local he ((kx _).trans (by rfl)) (by first | rfl | assumption) ?_
  exact ⟨hl, h⟩
theorem spec_concat_list {a b : Addr} {l m : List PV} {Φ : PV → PH → Prop} (B : Base w hb) (e1 : H a = some l) (e2 : H b = some m) (hl : l.length + m.length ≤ sizeLine) (h : ∀ c, H c = Option.none → Φ (.ref c) (H.set c (l ++ m))) : WC w hb os (n + 1) H (.ref 71) [.ref a, .ref b] [] Φ := by
  refine wc_def 8 (ns := [S "a", S "b"]) (pb := [(S "a", .ref a), (S "b", .ref b)]) B (B.K 71 _ (by rfl)) rfl ⟨70, _, _, _, rfl, B.K 70 _ (by rfl), rfl, rfl⟩ (binds2 B fun _ _ _ => rfl) rfl rfl rfl (by kernel_rfl) rfl rfl rfl ?_ rfl rfl rfl
  intro env he kx
  refine wf_consL ?_
  intro Ps
  refine wf_if ?_
  refine wb_not ?_
  refine wb_value ?_
  refine we_callL ?_
  intro Ps
  refine we_builtin B he ((kx _).trans (by rfl)) (by rfl) (by rfl) (fun _ => .blt) ⟨_, .blt, callee_blt, ?_⟩
  refine WTs.cons ?_
  refine we_local he ((kx _).trans (by rfl)) (by first | rfl | assumption) ?_
  refine WTs.cons ?_
  refine we_strc ?_
  refine WTs.nil (WKs.nil ⟨rfl, ?_⟩)
  refine wc_hasattr_list e1 ⟨true, rfl, ?_⟩
  rw [if_neg (by decide)]
  refine wf_nil ?_
  refine wf_consL ?_
  intro Ps
  refine wf_ret ?_
  refine we_binopL ?_
  intro Ps
  refine we_local he ((kx _).trans (by rfl)) (by first | rfl | assumption) ?_
  refine we_local he ((kx _).trans (by rfl)) (by first | rfl | assumption) ?_
  exact ⟨l, m, e1, e2, hl, h⟩
theorem spec_countOf {a : Addr} {xs : List PySem.Str} {b : PySem.Str} {Φ : PV → PH → Prop} (B : Base w hb) (e : H a = some (xs.map .str)) (h : Φ (.int (xs.count b : Int)) H) : WC w hb os (n + 1) H (.ref 78) [.ref a, .str b] [] Φ := by
  refine wc_def 9 (ns := [S "a", S "b"]) (pb := [(S "a", .ref a), (S "b", .str b)]) B (B.K 78 _ (by rfl)) rfl ⟨77, _, _, _, rfl, B.K 77 _ (by rfl), rfl, rfl⟩ (binds2 B fun _ _ _ => rfl) rfl rfl rfl (by kernel_rfl) rfl rfl rfl ?_ rfl rfl rfl
  intro env he kx
  refine wf_consL ?_
  intro Ps
  refine @wf_assign _ _ _ _ _ _ _ _ _ _ _ _ he (.inl ((kx _).trans (by rfl))) ?_ (by rfl)
  refine we_intc ?_
  refine wf_consL ?_
  intro Ps
  let Jv1 : Nat → Rho → PH → Prop := fun k ρ' H' => H' = H ∧ ρ' (S "b") = some (.str b) ∧ ρ' (S "count") = some (.int ((xs.take k).count b : Int))
  refine wf_for Jv1 ?_
  refine wi_list ?_
  refine we_local he ((kx _).trans (by rfl)) (by first | rfl | assumption) ?_
  refine ⟨a, _, rfl, e, xs.map .str, trivial, ⟨rfl, rfl, rfl⟩, ?_, ?_, ?_⟩
  · rintro k ρ' H' ⟨rfl, _, _⟩
    exact e
  · rintro k ρ' H' x hx ⟨rfl, h1, h2⟩
    obtain ⟨y, hy, rfl⟩ : ∃ y, xs[k]? = some y ∧ x = .str y := by
      rw [List.getElem?_map] at hx
      cases ey : xs[k]? with
      | none => rw [ey] at hx; cases hx
      | some y => rw [ey] at hx; exact ⟨y, rfl, (Option.some.inj hx).symm⟩
    have hk : (xs.take (k + 1)).count b = (xs.take k).count b + (if y = b then 1 else 0) := by
      rw [List.take_add_one, hy, List.count_append]
      congr 1
      show List.count b [y] = _
      rw [List.count_singleton]
      by_cases hyb : y = b
      · subst hyb; simp
      · have : (y == b) = false := by simpa using hyb
        simp [this, hyb]
    refine wa_name he (.inl ⟨(kx _).trans (by rfl), List.mem_cons_self⟩) ?_
    refine wf_consL ?_
    intro Ps
    refine wf_if (WB.mono (Φ := fun r H1 => r = decide (y = b) ∧ H1 = H') ?_ ?_)
    · refine wb_bool ?_
      refine wb_cons ?_
      refine wb_cmpL B ?_
      intro Ps
      refine we_local he ((kx _).trans (by rfl)) (by first | rfl | assumption) ?_
      refine we_local he ((kx _).trans (by rfl)) (by first | rfl | assumption) ?_
      intro r hr
      refine ⟨r, rfl, ?_⟩
      cases r with
      | true => exact ⟨(decide_eq_true (hr rfl)).symm, rfl⟩
      | false =>
        refine wb_cons ?_
        refine wb_cmpL B ?_
        intro Ps
        refine we_local he ((kx _).trans (by rfl)) (by first | rfl | assumption) ?_
        refine we_local he ((kx _).trans (by rfl)) (by first | rfl | assumption) ?_
        refine ⟨_, rfl, ?_⟩
        by_cases hyb : y = b
        · have : (y == b) = true := by simpa using hyb
          rw [this]
          exact ⟨(decide_eq_true hyb).symm, rfl⟩
        · have : (y == b) = false := by simpa using hyb
          rw [this]
          refine wb_nil ⟨?_, rfl⟩
          rw [decide_eq_false hyb]; rfl
    · rintro r H1 ⟨rfl, rfl⟩
      by_cases hyb : y = b
      · rw [if_pos (decide_eq_true hyb)]
        refine wf_consL ?_
        intro Ps
        refine wf_aug he ((kx _).trans (by rfl)) h2 ?_
        refine we_intc ⟨_, rfl, ?_⟩
        refine wf_nil ?_
        refine wf_nil ?_
        refine ⟨rfl, h1, ?_⟩
        rw [hk, if_pos hyb]; rfl
      · rw [if_neg (by rw [decide_eq_false hyb]; decide)]
        refine wf_nil ?_
        refine wf_nil ?_
        refine ⟨rfl, h1, ?_⟩
        rw [hk, if_neg hyb]; exact h2
  · rintro ρ' H' ⟨rfl, h1, h2⟩
    rw [List.length_map, List.take_length] at h2
    refine wf_nil ?_
    refine wf_consL ?_
    intro Ps
    refine wf_ret ?_
    refine we_local he ((kx _).trans (by rfl)) (by first | rfl | assumption) ?_
    exact h
theorem spec_indexOf {a : Addr} {xs : List PySem.Str} {b : PySem.Str} {i : Nat} {Φ : PV → PH → Prop} (B : Base w hb) (e : H a = some (xs.map .str)) (hi : xs[i]? = some b) (hf : ∀ j, j < i → xs[j]? ≠ some b) (h : Φ (.int (i : Int)) H) : WC w hb os (n + 1) H (.ref 92) [.ref a, .str b] [] Φ := by
  refine wc_def 11 (ns := [S "a", S "b"]) (pb := [(S "a", .ref a), (S "b", .str b)]) B (B.K 92 _ (by rfl)) rfl ⟨91, _, _, _, rfl, B.K 91 _ (by rfl), rfl, rfl⟩ (binds2 B fun _ _ _ => rfl) rfl rfl rfl (by kernel_rfl) rfl rfl rfl ?_ rfl rfl rfl
  intro env he kx
  refine wf_consL ?_
  intro Ps
  let Jv2 : Nat → Rho → PH → Prop := fun k ρ' H' => H' = H ∧ ρ' (S "b") = some (.str b) ∧ k ≤ i
  refine wf_for Jv2 ?_
  refine wi_enum ?_
  refine we_builtin B he ((kx _).trans (by rfl)) (by rfl) (by rfl) (fun _ => .typ) ⟨rfl, ?_⟩
  refine we_local he ((kx _).trans (by rfl)) (by first | rfl | assumption) ?_
  refine ⟨a, _, rfl, e, fun I2 => ?_⟩
  refine ⟨enumOf (xs.map .str), trivial, ⟨rfl, rfl, Nat.zero_le _⟩, ?_, ?_, ?_⟩
  · rintro k ρ' H' ⟨rfl, _, _⟩
    exact ⟨_, e, rfl⟩
  · rintro k ρ' H' x hx ⟨rfl, h1, h2⟩
    have hk : k < xs.length := by
      have := (List.getElem?_eq_some_iff.mp hx).1
      rwa [enumOf_length, List.length_map] at this
    have hy : (xs.map PV.str)[k]? = some (.str xs[k]) := by rw [List.getElem?_map, List.getElem?_eq_getElem hk]; rfl
    obtain rfl := Option.some.inj (hx.symm.trans (enumOf_get hy))
    have hxk : xs[k]? = some xs[k] := List.getElem?_eq_getElem hk
    generalize xs[k] = y at hxk ⊢
    refine wa_two he (fun _ m => m) (.inl ⟨(kx _).trans (by rfl), List.mem_cons_self⟩) (.inl ⟨(kx _).trans (by rfl), List.mem_cons_self⟩) ?_
    refine wf_consL ?_
    intro Ps
    refine wf_if (WB.mono (Φ := fun r H1 => r = decide (y = b) ∧ H1 = H') ?_ ?_)
    · refine wb_bool ?_
      refine wb_cons ?_
      refine wb_cmpL B ?_
      intro Ps
      refine we_local he ((kx _).trans (by rfl)) (by first | rfl | assumption) ?_
      refine we_local he ((kx _).trans (by rfl)) (by first | rfl | assumption) ?_
      intro r hr
      refine ⟨r, rfl, ?_⟩
      cases r with
      | true => exact ⟨(decide_eq_true (hr rfl)).symm, rfl⟩
      | false =>
        refine wb_cons ?_
        refine wb_cmpL B ?_
        intro Ps
        refine we_local he ((kx _).trans (by rfl)) (by first | rfl | assumption) ?_
        refine we_local he ((kx _).trans (by rfl)) (by first | rfl | assumption) ?_
        refine ⟨_, rfl, ?_⟩
        by_cases hyb : y = b
        · have : (y == b) = true := by simpa using hyb
          rw [this]
          exact ⟨(decide_eq_true hyb).symm, rfl⟩
        · have : (y == b) = false := by simpa using hyb
          rw [this]
          refine wb_nil ⟨?_, rfl⟩
          rw [decide_eq_false hyb]; rfl
    · rintro r H1 ⟨rfl, rfl⟩
      by_cases hyb : y = b
      · rw [if_pos (decide_eq_true hyb)]
        have : k = i := by
          rcases Nat.lt_or_ge k i with h' | h'
          · exact (hf k h' (by rw [hxk, hyb])).elim
          · omega
        subst this
        refine wf_consL ?_
        intro Ps
        refine wf_ret ?_
        refine we_local he ((kx _).trans (by rfl)) (by first | rfl | assumption) ?_
        exact h
      · rw [if_neg (by rw [decide_eq_false hyb]; decide)]
        refine wf_nil ?_
        refine wf_nil ?_
        refine ⟨rfl, h1, ?_⟩
        rcases Nat.lt_or_ge k i with h' | h'
        · exact h'
        · have : k = i := by omega
          subst this
          rw [hi] at hxk
          exact (hyb (Option.some.inj hxk).symm).elim
  · rintro ρ' H' ⟨rfl, h1, h2⟩
    rw [enumOf_length, List.length_map] at h2
    have := (List.getElem?_eq_some_iff.mp hi).1
    omega
theorem comp_plain {A B : PH → Prop} (h : A H) : WIfs w hb os n env ρ H [] (fun b H3 => if b = true then A H3 else B H3) := by
  show (if true = true then A H else B H)
  rw [if_pos rfl]; exact h
theorem kxOf (he : EnvOk env) : ∀ x, env.kindOf x = env.kindOf x := fun _ => rfl
/-- a comprehension's scope, by a look -/
theorem CompOk.of {scope : Scope} (cells : List PySem.Str) (hc : ∀ x ∈ cells, env.kindOf x = some .cell) (hk : scope.kind = .function)
    (chk : (scope.names.all fun x => x.2 != .cell && (x.2 != .free || cells.contains x.1) && (x.2 != .local || scope.names.lookup x.1 == some .local)) = true) : CompOk env scope := by
  have chk := List.all_eq_true.mp chk
  refine ⟨hk, fun x hx e => ?_, fun x hx e => ?_, fun x hx e => ?_⟩
  · have := chk x hx
    rw [e] at this; simp at this
  · have := chk x hx
    rw [e] at this
    simp at this
    exact hc _ this
  · have := chk x hx
    rw [e] at this
    simpa using this
theorem spec_endless {t : Addr} {bs : List (PySem.Str × List PV)} {Φ : PV → PH → Prop} (B : Base w hb) (e : H t = some (bs.map fun b => .tup (.str b.1 :: b.2))) (hl : bs.length ≤ 64) (hl2 : ∀ b ∈ bs, b.2.length < 64)
    (h : ∀ c H', PH.le H H' → H' c = Option.none → Φ (.ref c) (H'.set c (((List.replicate 8 (bs.map (·.1))).flatten.take 8).map .str))) : WC w hb os (n + 2) H (.ref 182) [.ref t] [] Φ := by
  refine wc_def 21 (ns := [S "turning"]) (pb := [(S "turning", .ref t)]) B (B.K 182 _ (by rfl)) rfl ⟨181, _, _, _, rfl, B.K 181 _ (by rfl), rfl, rfl⟩ (binds1 B fun _ _ => rfl) rfl rfl rfl (by kernel_rfl) rfl rfl rfl ?_ rfl rfl rfl
  intro env he kx
  refine wf_consL ?_
  intro Ps
  refine wf_ret ?_
  refine we_slice ?_
  refine we_callL ?_
  intro Ps
  refine we_glob B he ((kx _).trans (by rfl)) (by rfl) ⟨_, .fn, callee_fn (B.K 64 _ (by rfl)) rfl, ?_⟩
  refine WTs.cons ?_
  let Jv3 : Nat → List PV → PH → Prop := fun k ys H' => H' = H ∧ ys = ((bs.take k).map (·.1)).map .str
  refine we_comp he Jv3 (CompOk.of [] (fun _ h => nomatch h) rfl (by kernel_rfl)) ?_
  refine wi_list ?_
  refine we_local he ((kx _).trans (by rfl)) (by first | rfl | assumption) ?_
  refine ⟨t, _, rfl, e, bs.map fun b => .tup (.str b.1 :: b.2), trivial, ?_, ⟨rfl, rfl⟩, ?_, ?_, ?_⟩
  · rw [List.length_map]; exact Nat.le_trans hl (by decide)
  · rintro k ys H' ⟨rfl, _⟩; exact e
  · rintro k ys H' x hx ⟨rfl, rfl⟩ C he'
    obtain ⟨b, hb1, rfl⟩ : ∃ b, bs[k]? = some b ∧ x = .tup (.str b.1 :: b.2) := by
      rw [List.getElem?_map] at hx
      cases ey : bs[k]? with
      | none => rw [ey] at hx; cases hx
      | some y => rw [ey] at hx; exact ⟨y, rfl, (Option.some.inj hx).symm⟩
    have hbl := hl2 b (List.mem_of_getElem? hb1)
    refine wa_name he' (.inl ⟨rfl, List.mem_singleton.mpr rfl⟩) ?_
    refine comp_plain ?_
    have he := he'
    have kx := kxOf he'
    refine we_callL ?_
    intro Ps
    refine we_glob B he ((kx _).trans (by rfl)) (by rfl) ⟨_, .fn, callee_fn (B.K 85 _ (by rfl)) rfl, ?_⟩
    refine WTs.cons ?_
    refine we_local he ((kx _).trans (by rfl)) (by first | rfl | assumption) ?_
    refine WTs.cons ?_
    refine we_intc ?_
    refine WTs.nil (WKs.nil ⟨rfl, ?_⟩)
    refine spec_getitem_tup B (j := 0) (x := .str b.1) (by rw [List.length_cons]; omega) (seqIndex_nat (k := 0) (Nat.succ_pos _)) rfl ⟨rfl, ?_⟩
    rw [List.take_add_one, hb1]; simp
  · rintro ys H' ⟨rfl, rfl⟩ c hc
    rw [List.length_map, List.take_length]
    refine WTs.cons ?_
    refine we_intc ?_
    refine WTs.nil (WKs.nil ⟨rfl, ?_⟩)
    refine spec_mul B (k := 8) (PH.set_self ..) (by decide) ?_ fun c2 hc2 => ?_
    · rw [List.length_map, List.length_map]; exact Nat.le_trans hl (by decide)
    refine we_intc ⟨_, rfl, ?_⟩
    refine ⟨(fun e => nomatch e), c2, _, rfl, PH.set_self .., ?_, fun c3 hc3 => ?_⟩
    · refine Nat.le_trans (m := 512) ?_ (by decide)
      simp; omega
    · rw [show (8 : Int) = ((8 : Nat) : Int) from rfl, pick_upto]
      have e1 : List.take 8 (List.replicate 8 ((bs.map (·.1)).map PV.str)).flatten = ((List.replicate 8 (bs.map (·.1))).flatten.take 8).map PV.str := by
        rw [List.map_take, List.map_flatten, List.map_replicate]
      rw [e1]
      exact h c3 _ ((PH.le_set hc).trans (PH.le_set hc2)) hc3
end
end Mine
end

-- part V6
set_option linter.all false
noncomputable section
namespace Mine
open PySem PySem.W PySem.Calls PyProof.Rows
set_option Elab.async false
set_option maxRecDepth 100000
theorem Sf : S "f" = ⟨#[102]⟩ := by kernel_rfl
theorem Si : S "i" = ⟨#[105]⟩ := by kernel_rfl
noncomputable def alL : List Int := [0, 1, 2, 4, 7, 8, 9, 10, 11, 12]
noncomputable def besideL : List Int := [172, 174, 846, 848, 6149, 6151, 6154, 6158, 8202, 8206, 8287, 8289, 65023, 65040, 65278, 65280]
noncomputable def ligL : List PySem.Str := [S "ff", S "fi", S "fl", S "ffi", S "ffl"]
noncomputable def goodTable : List (Nat × PySem.Str) := [(102, ⟨#[102]⟩), (105, ⟨#[105]⟩), (70, ⟨#[102]⟩), (73, ⟨#[105]⟩)] ++ alL.map (fun a => ((119808 + 52 * a + 102 - 97).toNat, ⟨#[102]⟩)) ++ alL.map (fun a => ((119808 + 52 * a + 105 - 97).toNat, ⟨#[105]⟩)) ++
  [(64256, S "ff"), (64257, S "fi"), (64258, S "fl"), (64259, S "ffi"), (64260, S "ffl")] ++ besideL.map fun c => (c.toNat, ⟨#[c.toNat]⟩)
noncomputable def goodCheck (e : Nat × PySem.Str) : Bool := !decide ((e.1 : Int) ∈ b1L) && mapped e.1 == e.2 && decide (e.2.length ≤ 3) && (PyData.strOk e.2 && decide (e.1 < 0x110000))
theorem good_all : goodTable.all goodCheck = true := by decide +kernel
/-- a sign and what it means -/
noncomputable def Good (c : Nat) (m : PySem.Str) : Prop := goodCheck (c, m) = true
theorem Good.of {c : Nat} {m : PySem.Str} (h : (c, m) ∈ goodTable) : Good c m := List.all_eq_true.mp good_all _ h
noncomputable def veilL : List Int := [173, 847, 6150, 6155, 6156, 6157, 8203, 8204, 8205, 8288, 65279] ++ (List.range 16).map fun k : Nat => (65024 : Int) + k
theorem veil_ok : (List.range 27).all (fun j => match veilL[j]? with | some v => decide (0 ≤ v) && decide (v ≤ 1114111) && decide (v ∈ b1L) | Option.none => false) = true := by decide +kernel
theorem veil {j : Nat} (hj : j < 27) : ∃ v : Nat, veilL[j]? = some (v : Int) ∧ v ≤ 1114111 ∧ (v : Int) ∈ b1L := by
  have := List.all_eq_true.mp veil_ok j (List.mem_range.mpr hj)
  cases e : veilL[j]? with
  | none => rw [e] at this; cases this
  | some v =>
    rw [e] at this
    simp only [Bool.and_eq_true, decide_eq_true_eq] at this
    obtain ⟨⟨h1, h2⟩, h3⟩ := this
    refine ⟨v.toNat, ?_, ?_, ?_⟩
    · rw [Int.toNat_of_nonneg h1]
    · omega
    · rw [Int.toNat_of_nonneg h1]; exact h3
/-- a typed bead: what is seen, and what it means -/
noncomputable def Typed (s m : PySem.Str) : Prop := ∃ c, Good c m ∧ (s = ⟨#[c]⟩ ∨ ∃ v : Nat, (v : Int) ∈ b1L ∧ (s = ⟨#[v, c]⟩ ∨ s = ⟨#[c, v]⟩))
theorem seqIndex_at {k : Int} {j n : Nat} (h : k = (j : Int)) (hj : j < n) : seqIndex? k n = some j := by rw [h]; exact seqIndex_nat hj
theorem mod_lt {x m : Int} (hm : 0 < m) : 0 ≤ x.fmod m ∧ x.fmod m < m := ⟨Int.fmod_nonneg_of_pos x hm, Int.fmod_lt_of_pos x hm⟩
section
variable {w : World} {hb : Heap} {os : OsState} {n : Nat} {H : PH} {env : Env} {ρ : Rho}
theorem typed_tail {H₀ : PH} {av c : Nat} {x : Int} {m : PySem.Str} (B : Base w hb) (he : EnvOk env) (kx : ∀ x, env.kindOf x = (scopeOf (st 18)).names.lookup x) (h1 : ρ (S "x") = some (.int x)) (h2 : ρ (S "sign") = some (.str ⟨#[c]⟩)) (h3 : ρ (S "means") = some (.str m)) (h4 : ρ (S "veils") = some (.ref av)) (e : H av = some (veilL.map .int)) (g : Good c m) (hle : PH.le H₀ H) {Φ : Out → Rho → PH → Prop}
    (fin : ∀ p ρ' H', PH.le H₀ H' ∧ (∃ s m, p = .tup [.str s, .str m] ∧ Typed s m) → Φ (.ret p) ρ' H') : WF w hb os n env ρ H (execs ((bodyOf (st 18)).drop 4) env) Φ := by
  refine wf_consL ?_
  intro Ps
  refine @wf_assign _ _ _ _ _ _ _ _ _ _ _ _ he (.inl ((kx _).trans (by rfl))) ?_ (by rfl)
  refine we_binopL ?_
  intro Ps
  refine we_binopL ?_
  intro Ps
  refine we_local he ((kx _).trans (by rfl)) (by first | rfl | assumption) ?_
  refine we_intc ?_
  refine ⟨⟨by decide, pylong2⟩, ?_⟩
  refine we_intc ?_
  refine ⟨by decide, ?_⟩
  obtain ⟨q1, q2⟩ := mod_lt (x := x.fdiv 1000) (m := 28) (by decide)
  generalize (x.fdiv 1000).fmod 28 = hid at q1 q2 ⊢
  refine wf_consL ?_
  intro Ps
  refine wf_if (WB.mono (Φ := fun b H' => H' = H ∧ (b = true → 0 < hid)) ?_ ?_)
  · refine wb_bool ?_
    refine wb_cons ?_
    refine wb_cmpL B ?_
    intro Ps
    refine we_local he ((kx _).trans (by rfl)) (by first | rfl | assumption) ?_
    refine we_intc ?_
    refine ⟨_, rfl, ?_⟩
    cases hd : decide ((0 : Int) < hid) with
    | false => exact ⟨rfl, fun h => nomatch h⟩
    | true =>
      refine wb_cons ?_
      refine wb_cmpL B ?_
      intro Ps
      refine we_binopL ?_
      intro Ps
      refine we_binopL ?_
      intro Ps
      refine we_local he ((kx _).trans (by rfl)) (by first | rfl | assumption) ?_
      refine we_intc ?_
      refine ⟨⟨by decide, pylong2⟩, ?_⟩
      refine we_intc ?_
      refine ⟨by decide, ?_⟩
      refine we_intc ?_
      refine ⟨_, rfl, ?_⟩
      cases ((x.fdiv 100000).fmod 2 == 1) with
      | false => exact ⟨rfl, fun h => nomatch h⟩
      | true => exact wb_nil ⟨rfl, fun _ => of_decide_eq_true hd⟩
  · rintro b H' ⟨rfl, hb⟩
    have item : 0 < hid → ∃ v : Nat, ∃ j : Nat, hid - 1 = (j : Int) ∧ (veilL.map PV.int)[j]? = some (.int (v : Int)) ∧ j < 27 ∧ v ≤ 1114111 ∧ (v : Int) ∈ b1L := fun h0 => by
      obtain ⟨v, k1, k2, k3⟩ := veil (j := (hid - 1).toNat) (by omega)
      exact ⟨v, (hid - 1).toNat, by omega, by rw [List.getElem?_map, k1]; rfl, by omega, k2, k3⟩
    cases b with
    | true =>
      rw [if_pos rfl]
      obtain ⟨v, j, k1, k2, k3, k4, k5⟩ := item (hb rfl)
      refine wf_consL ?_
      intro Ps
      refine @wf_assign _ _ _ _ _ _ _ _ _ _ _ _ he (.inl ((kx _).trans (by rfl))) ?_ (by rfl)
      refine we_binopL ?_
      intro Ps
      refine we_local he ((kx _).trans (by rfl)) (by first | rfl | assumption) ?_
      refine we_callL ?_
      intro Ps
      refine we_builtin B he ((kx _).trans (by rfl)) (by rfl) (by rfl) (fun _ => .blt) ⟨_, .blt, callee_blt, ?_⟩
      refine WTs.cons ?_
      refine we_indexL ?_
      intro Ps
      refine we_local he ((kx _).trans (by rfl)) (by first | rfl | assumption) ?_
      refine we_binopL ?_
      intro Ps
      refine we_local he ((kx _).trans (by rfl)) (by first | rfl | assumption) ?_
      refine we_intc ?_
      refine ⟨_, j, .int v, e, by decide, seqIndex_at k1 k3, k2, ?_⟩
      refine WTs.nil (WKs.nil ⟨rfl, ?_⟩)
      refine wc_chr (by omega) (by omega) ?_
      refine ⟨show 1 + 1 ≤ sizeLine by decide, ?_⟩
      refine wf_nil ?_
      refine wf_consL ?_
      intro Ps
      refine wf_ret ?_
      refine we_tuplex ?_
      refine WTs.cons ?_
      refine we_local he ((kx _).trans (by rfl)) (by first | rfl | assumption) ?_
      refine WTs.cons ?_
      refine we_local he ((kx _).trans (by rfl)) (by first | rfl | assumption) ?_
      refine WTs.nil ?_
      exact ⟨show 2 ≤ sizeLine by decide, fin _ _ _ ⟨hle, _, _, rfl, c, g, .inr ⟨v, k5, .inr (by rw [Int.toNat_natCast]; rfl)⟩⟩⟩
    | false =>
      rw [if_neg Bool.false_ne_true]
      refine wf_consL ?_
      intro Ps
      refine wf_if ?_
      refine wb_cmpL B ?_
      intro Ps
      refine we_local he ((kx _).trans (by rfl)) (by first | rfl | assumption) ?_
      refine we_intc ?_
      refine ⟨_, rfl, ?_⟩
      by_cases h0 : (0 : Int) < hid
      · rw [if_pos (decide_eq_true h0)]
        obtain ⟨v, j, k1, k2, k3, k4, k5⟩ := item h0
        refine wf_consL ?_
        intro Ps
        refine @wf_assign _ _ _ _ _ _ _ _ _ _ _ _ he (.inl ((kx _).trans (by rfl))) ?_ (by rfl)
        refine we_binopL ?_
        intro Ps
        refine we_callL ?_
        intro Ps
        refine we_builtin B he ((kx _).trans (by rfl)) (by rfl) (by rfl) (fun _ => .blt) ⟨_, .blt, callee_blt, ?_⟩
        refine WTs.cons ?_
        refine we_indexL ?_
        intro Ps
        refine we_local he ((kx _).trans (by rfl)) (by first | rfl | assumption) ?_
        refine we_binopL ?_
        intro Ps
        refine we_local he ((kx _).trans (by rfl)) (by first | rfl | assumption) ?_
        refine we_intc ?_
        refine ⟨_, j, .int v, e, by decide, seqIndex_at k1 k3, k2, ?_⟩
        refine WTs.nil (WKs.nil ⟨rfl, ?_⟩)
        refine wc_chr (by omega) (by omega) ?_
        refine we_local he ((kx _).trans (by rfl)) (by first | rfl | assumption) ?_
        refine ⟨show 1 + 1 ≤ sizeLine by decide, ?_⟩
        refine wf_nil ?_
        refine wf_nil ?_
        refine wf_consL ?_
        intro Ps
        refine wf_ret ?_
        refine we_tuplex ?_
        refine WTs.cons ?_
        refine we_local he ((kx _).trans (by rfl)) (by first | rfl | assumption) ?_
        refine WTs.cons ?_
        refine we_local he ((kx _).trans (by rfl)) (by first | rfl | assumption) ?_
        refine WTs.nil ?_
        exact ⟨show 2 ≤ sizeLine by decide, fin _ _ _ ⟨hle, _, _, rfl, c, g, .inr ⟨v, k5, .inl (by rw [Int.toNat_natCast]; rfl)⟩⟩⟩
      · rw [if_neg (by rw [decide_eq_false h0]; decide)]
        refine wf_nil ?_
        refine wf_nil ?_
        refine wf_consL ?_
        intro Ps
        refine wf_ret ?_
        refine we_tuplex ?_
        refine WTs.cons ?_
        refine we_local he ((kx _).trans (by rfl)) (by first | rfl | assumption) ?_
        refine WTs.cons ?_
        refine we_local he ((kx _).trans (by rfl)) (by first | rfl | assumption) ?_
        refine WTs.nil ?_
        exact ⟨show 2 ≤ sizeLine by decide, fin _ _ _ ⟨hle, _, _, rfl, c, g, .inl rfl⟩⟩
end
end Mine
end

-- part V7
set_option linter.all false
noncomputable section
namespace Mine
open PySem PySem.W PySem.Calls PyProof.Rows
set_option Elab.async false
set_option maxRecDepth 100000
section
variable {w : World} {hb : Heap} {os : OsState} {n : Nat} {H : PH} {env : Env} {ρ : Rho}
theorem set_other {c a : Addr} {l m : List PV} (h : H c = Option.none) (e : H a = some m) : (H.set c l) a = some m := PH.le_set h _ _ e
theorem at_new {H1 : PH} {c : Addr} {l : List PV} (e : H.set c l = H1) : H1 c = some l := e ▸ PH.set_self
theorem le_new {H1 : PH} {c : Addr} {l : List PV} (e : H.set c l = H1) (h : H c = Option.none) : PH.le H H1 := e ▸ PH.le_set h
theorem we_strc' {x y : PySem.Str} {Φ : PV → PH → Prop} (e : x = y) (h : Φ (.str y) H) : WT w hb os n env ρ H (constValue env (.str x)) Φ := we_strc (e ▸ h)
theorem al_ok : (List.range 10).all (fun j => match alL[j]? with | some v => decide (0 ≤ v) && decide (v ≤ 12) && goodTable.contains ((119808 + 52 * v + 102 - 97).toNat, ⟨#[102]⟩) && goodTable.contains ((119808 + 52 * v + 105 - 97).toNat, ⟨#[105]⟩) | Option.none => false) = true := by decide +kernel
theorem al {j : Nat} (hj : j < 10) : ∃ v : Int, alL[j]? = some v ∧ 0 ≤ v ∧ v ≤ 12 ∧ Good (119808 + 52 * v + 102 - 97).toNat ⟨#[102]⟩ ∧ Good (119808 + 52 * v + 105 - 97).toNat ⟨#[105]⟩ := by
  have := List.all_eq_true.mp al_ok j (List.mem_range.mpr hj)
  cases e : alL[j]? with
  | none => rw [e] at this; cases this
  | some v =>
    rw [e] at this
    simp only [Bool.and_eq_true, decide_eq_true_eq, List.contains_iff_mem] at this
    obtain ⟨⟨⟨h1, h2⟩, h3⟩, h4⟩ := this
    exact ⟨v, rfl, h1, h2, .of h3, .of h4⟩
theorem lig_ok : (List.range 5).all (fun j => match ligL[j]? with | some v => goodTable.contains (64256 + j, v) | Option.none => false) = true := by decide +kernel
theorem lig {j : Nat} (hj : j < 5) : ∃ v : PySem.Str, ligL[j]? = some v ∧ Good (64256 + j) v := by
  have := List.all_eq_true.mp lig_ok j (List.mem_range.mpr hj)
  cases e : ligL[j]? with
  | none => rw [e] at this; cases this
  | some v => rw [e] at this; exact ⟨v, rfl, .of (List.contains_iff_mem.mp this)⟩
theorem beside_ok : (List.range 16).all (fun j => match besideL[j]? with | some v => decide (0 ≤ v) && decide (v ≤ 1114111) && goodTable.contains (v.toNat, ⟨#[v.toNat]⟩) | Option.none => false) = true := by decide +kernel
theorem beside {j : Nat} (hj : j < 16) : ∃ v : Int, besideL[j]? = some v ∧ 0 ≤ v ∧ v ≤ 1114111 ∧ Good v.toNat ⟨#[v.toNat]⟩ := by
  have := List.all_eq_true.mp beside_ok j (List.mem_range.mpr hj)
  cases e : besideL[j]? with
  | none => rw [e] at this; cases this
  | some v =>
    rw [e] at this
    simp only [Bool.and_eq_true, decide_eq_true_eq, List.contains_iff_mem] at this
    obtain ⟨⟨h1, h2⟩, h3⟩ := this
    exact ⟨v, rfl, h1, h2, .of h3⟩
theorem nat_of {i : Int} {m : Nat} (h0 : 0 ≤ i) (h1 : i < m) : ∃ j : Nat, i = (j : Int) ∧ j < m := ⟨i.toNat, by omega, by omega⟩
set_option maxHeartbeats 2000000 in
theorem spec_typed {x : Int} {Φ : PV → PH → Prop} (B : Base w hb) (h : ∀ s m, Typed s m → Φ (.tup [.str s, .str m]) H) : WC w hb os (n + 1) H (.ref 163) [.int x] [] Φ := by
  refine WC.drop (Φ := fun p H' => PH.le H H' ∧ ∃ s m, p = .tup [.str s, .str m] ∧ Typed s m) ?_ ?_
  case refine_2 =>
    rintro p H' ⟨hle, s, m, rfl, ht⟩
    exact ⟨H, hle, h s m ht⟩
  refine wc_def 18 (ns := [S "x"]) (pb := [(S "x", .int x)]) B (B.K 163 _ (by rfl)) rfl ⟨162, _, _, _, rfl, B.K 162 _ (by rfl), rfl, rfl⟩ (binds1 B fun _ _ => rfl) rfl rfl rfl (by kernel_rfl) rfl rfl rfl ?_ rfl rfl rfl
  intro env he kx
  refine wf_consL ?_
  intro Ps
  refine @wf_assign _ _ _ _ _ _ _ _ _ _ _ _ he (.inl ((kx _).trans (by rfl))) ?_ (by rfl)
  refine we_binopL ?_
  intro Ps
  refine we_listx ?_
  refine WTs.cons ?_
  refine we_intc ?_
  refine WTs.cons ?_
  refine we_intc ?_
  refine WTs.cons ?_
  refine we_intc ?_
  refine WTs.cons ?_
  refine we_intc ?_
  refine WTs.cons ?_
  refine we_intc ?_
  refine WTs.cons ?_
  refine we_intc ?_
  refine WTs.cons ?_
  refine we_intc ?_
  refine WTs.cons ?_
  refine we_intc ?_
  refine WTs.cons ?_
  refine we_intc ?_
  refine WTs.cons ?_
  refine we_intc ?_
  refine WTs.cons ?_
  refine we_intc ?_
  refine WTs.nil ?_
  refine ⟨show 11 ≤ sizeLine by decide, fun c1 hc1 => ?_⟩
  generalize eH1 : PH.set H c1 _ = H1
  have leH1 := le_new eH1 hc1
  have atH1 := at_new eH1
  refine we_callL ?_
  intro Ps
  refine we_builtin B he ((kx _).trans (by rfl)) (by rfl) (by rfl) (fun _ => .typ) ⟨_, .typ, callee_typ, ?_⟩
  refine WTs.cons ?_
  refine we_callL ?_
  intro Ps
  refine we_builtin B he ((kx _).trans (by rfl)) (by rfl) (by rfl) (fun _ => .typ) ⟨_, .typ, callee_typ, ?_⟩
  refine WTs.cons ?_
  refine we_intc ?_
  refine WTs.cons ?_
  refine we_intc ?_
  refine WTs.nil (WKs.nil ⟨rfl, ?_⟩)
  refine wc_range2 ?_
  refine WTs.nil (WKs.nil ⟨rfl, ?_⟩)
  refine wc_listRange (by decide) (by decide) (by decide) (by decide) (by decide) fun c2 hc2 => ?_
  generalize eH2 : PH.set H1 c2 _ = H2
  have leH2 := le_new eH2 hc2
  have atH2 := at_new eH2
  refine ⟨_, _, leH2 _ _ atH1, atH2, show 11 + 16 ≤ sizeLine by decide, fun c3 hc3 => ?_⟩
  generalize eH3 : PH.set H2 c3 _ = H3
  have leH3 := le_new eH3 hc3
  have atH3 := at_new eH3
  refine wf_consL ?_
  intro Ps
  refine @wf_assign _ _ _ _ _ _ _ _ _ _ _ _ he (.inl ((kx _).trans (by rfl))) ?_ (by rfl)
  refine we_listx ?_
  refine WTs.cons ?_
  refine we_intc ?_
  refine WTs.cons ?_
  refine we_intc ?_
  refine WTs.cons ?_
  refine we_intc ?_
  refine WTs.cons ?_
  refine we_intc ?_
  refine WTs.cons ?_
  refine we_intc ?_
  refine WTs.cons ?_
  refine we_intc ?_
  refine WTs.cons ?_
  refine we_intc ?_
  refine WTs.cons ?_
  refine we_intc ?_
  refine WTs.cons ?_
  refine we_intc ?_
  refine WTs.cons ?_
  refine we_intc ?_
  refine WTs.cons ?_
  refine we_intc ?_
  refine WTs.cons ?_
  refine we_intc ?_
  refine WTs.cons ?_
  refine we_intc ?_
  refine WTs.cons ?_
  refine we_intc ?_
  refine WTs.cons ?_
  refine we_intc ?_
  refine WTs.cons ?_
  refine we_intc ?_
  refine WTs.nil ?_
  refine ⟨show 16 ≤ sizeLine by decide, fun c4 hc4 => ?_⟩
  generalize eH4 : PH.set H3 c4 _ = H4
  have leH4 := le_new eH4 hc4
  have atH4 := at_new eH4
  have le4 : PH.le H H4 := (leH1.trans leH2).trans (leH3.trans leH4)
  have hv : H4 c3 = some (veilL.map .int) := leH4 _ _ atH3
  have hbs : H4 c4 = some (besideL.map .int) := atH4
  refine wf_consL ?_
  intro Ps
  refine @wf_assign _ _ _ _ _ _ _ _ _ _ _ _ he (.inl ((kx _).trans (by rfl))) ?_ (by rfl)
  refine we_binopL ?_
  intro Ps
  refine we_binopL ?_
  intro Ps
  refine we_local he ((kx _).trans (by rfl)) (by first | rfl | assumption) ?_
  refine we_intc ?_
  refine ⟨⟨by decide, pylong2⟩, ?_⟩
  refine we_intc ?_
  refine ⟨by decide, ?_⟩
  generalize hwh : (x.fdiv 10).fmod 100 = wh
  refine wf_consL ?_
  intro Ps
  refine wf_if ?_
  refine wb_cmpL B ?_
  intro Ps
  refine we_binopL ?_
  intro Ps
  refine we_local he ((kx _).trans (by rfl)) (by first | rfl | assumption) ?_
  refine we_intc ?_
  refine ⟨by decide, ?_⟩
  refine we_intc ?_
  refine ⟨_, rfl, ?_⟩
  by_cases d8 : x.fmod 10 < 8
  · rw [if_pos (decide_eq_true d8)]
    refine wf_consL ?_
    intro Ps
    refine @wf_assign _ _ _ _ _ _ _ _ _ _ _ _ he (.inl ((kx _).trans (by rfl))) ?_ (by rfl)
    refine WT.mono (Φ := fun p H' => H' = H4 ∧ ∃ o : Nat, (o = 102 ∨ o = 105) ∧ p = .str ⟨#[o]⟩) ?_ ?_
    · refine we_if ?_
      refine wb_cmpL B ?_
      intro Ps
      refine we_binopL ?_
      intro Ps
      refine we_local he ((kx _).trans (by rfl)) (by first | rfl | assumption) ?_
      refine we_intc ?_
      refine ⟨by decide, ?_⟩
      refine we_intc ?_
      refine ⟨_, rfl, ?_⟩
      cases decide (x.fmod 10 < 4) with
      | true => rw [if_pos rfl]; exact we_strc' Sf ⟨rfl, 102, .inl rfl, rfl⟩
      | false => rw [if_neg Bool.false_ne_true]; exact we_strc' Si ⟨rfl, 105, .inr rfl, rfl⟩
    rintro p H5 ⟨rfl, o, ho, rfl⟩
    have good : Good o ⟨#[o]⟩ ∧ Good ((o : Int) - 32).toNat ⟨#[o]⟩ ∧ ∀ j : Nat, j < 10 → ∃ v : Int, alL[j]? = some v ∧ 0 ≤ v ∧ v ≤ 12 ∧ Good (119808 + 52 * v + o - 97).toNat ⟨#[o]⟩ := by
      rcases ho with rfl | rfl
      · exact ⟨.of (by decide +kernel), .of (by decide +kernel), fun j hj => let ⟨v, a, b, c, d, _⟩ := al hj; ⟨v, a, b, c, d⟩⟩
      · exact ⟨.of (by decide +kernel), .of (by decide +kernel), fun j hj => let ⟨v, a, b, c, _, d⟩ := al hj; ⟨v, a, b, c, d⟩⟩
    obtain ⟨g1, g2, g3⟩ := good
    refine wf_consL ?_
    intro Ps
    refine @wf_assign _ _ _ _ _ _ _ _ _ _ _ _ he (.inl ((kx _).trans (by rfl))) ?_ (by rfl)
    refine we_local he ((kx _).trans (by rfl)) (by first | rfl | assumption) ?_
    obtain ⟨z1, z2⟩ := mod_lt (x := wh) (m := 12) (by decide)
    refine wf_consL ?_
    intro Ps
    refine wf_if ?_
    refine wb_cmpL B ?_
    intro Ps
    refine we_binopL ?_
    intro Ps
    refine we_local he ((kx _).trans (by rfl)) (by first | rfl | assumption) ?_
    refine we_intc ?_
    refine ⟨by decide, ?_⟩
    refine we_intc ?_
    refine ⟨_, rfl, ?_⟩
    by_cases e1 : wh.fmod 12 = 1
    · rw [if_pos (by simpa using e1)]
      refine wf_consL ?_
      intro Ps
      refine @wf_assign _ _ _ _ _ _ _ _ _ _ _ _ he (.inl ((kx _).trans (by rfl))) ?_ (by rfl)
      refine we_callL ?_
      intro Ps
      refine we_builtin B he ((kx _).trans (by rfl)) (by rfl) (by rfl) (fun _ => .blt) ⟨_, .blt, callee_blt, ?_⟩
      refine WTs.cons ?_
      refine we_binopL ?_
      intro Ps
      refine we_callL ?_
      intro Ps
      refine we_builtin B he ((kx _).trans (by rfl)) (by rfl) (by rfl) (fun _ => .blt) ⟨_, .blt, callee_blt, ?_⟩
      refine WTs.cons ?_
      refine we_local he ((kx _).trans (by rfl)) (by first | rfl | assumption) ?_
      refine WTs.nil (WKs.nil ⟨rfl, ?_⟩)
      refine wc_ord ?_
      refine we_intc ?_
      refine WTs.nil (WKs.nil ⟨rfl, ?_⟩)
      refine wc_chr (by omega) (by omega) ?_
      refine wf_nil ?_
      refine wf_consL ?_
      intro Ps
      refine wf_if ?_
      refine wb_cmpL B ?_
      intro Ps
      refine we_binopL ?_
      intro Ps
      refine we_local he ((kx _).trans (by rfl)) (by first | rfl | assumption) ?_
      refine we_intc ?_
      refine ⟨by decide, ?_⟩
      refine we_intc ?_
      refine ⟨_, rfl, ?_⟩
      rw [if_neg (by rw [decide_eq_false (by omega)]; decide)]
      refine wf_nil ?_
      refine wf_nil ?_
      refine typed_tail (x := x) B he kx ?_ ?_ ?_ ?_ hv g2 le4 (fun p ρ' H' z => z) <;> rfl
    · rw [if_neg (by simpa using e1)]
      refine wf_nil ?_
      refine wf_consL ?_
      intro Ps
      refine wf_if ?_
      refine wb_cmpL B ?_
      intro Ps
      refine we_binopL ?_
      intro Ps
      refine we_local he ((kx _).trans (by rfl)) (by first | rfl | assumption) ?_
      refine we_intc ?_
      refine ⟨by decide, ?_⟩
      refine we_intc ?_
      refine ⟨_, rfl, ?_⟩
      by_cases e2 : 1 < wh.fmod 12
      · rw [if_pos (decide_eq_true e2)]
        obtain ⟨j, j1, j2⟩ := nat_of (i := wh.fmod 12 - 2) (m := 10) (by omega) (by omega)
        obtain ⟨v, v1, v2, v3, v4⟩ := g3 j j2
        refine wf_consL ?_
        intro Ps
        refine @wf_assign _ _ _ _ _ _ _ _ _ _ _ _ he (.inl ((kx _).trans (by rfl))) ?_ (by rfl)
        refine we_indexL ?_
        intro Ps
        refine we_listx ?_
        refine WTs.cons ?_
        refine we_intc ?_
        refine WTs.cons ?_
        refine we_intc ?_
        refine WTs.cons ?_
        refine we_intc ?_
        refine WTs.cons ?_
        refine we_intc ?_
        refine WTs.cons ?_
        refine we_intc ?_
        refine WTs.cons ?_
        refine we_intc ?_
        refine WTs.cons ?_
        refine we_intc ?_
        refine WTs.cons ?_
        refine we_intc ?_
        refine WTs.cons ?_
        refine we_intc ?_
        refine WTs.cons ?_
        refine we_intc ?_
        refine WTs.nil ?_
        refine ⟨show 10 ≤ sizeLine by decide, fun c5 hc5 => ?_⟩
        refine we_binopL ?_
        intro Ps
        refine we_binopL ?_
        intro Ps
        refine we_local he ((kx _).trans (by rfl)) (by first | rfl | assumption) ?_
        refine we_intc ?_
        refine ⟨by decide, ?_⟩
        refine we_intc ?_
        refine ⟨_, j, .int v, PH.set_self .., by decide, seqIndex_at j1 j2, by show (alL.map PV.int)[j]? = _; rw [List.getElem?_map, v1]; rfl, ?_⟩
        refine wf_consL ?_
        intro Ps
        refine @wf_assign _ _ _ _ _ _ _ _ _ _ _ _ he (.inl ((kx _).trans (by rfl))) ?_ (by rfl)
        refine we_callL ?_
        intro Ps
        refine we_builtin B he ((kx _).trans (by rfl)) (by rfl) (by rfl) (fun _ => .blt) ⟨_, .blt, callee_blt, ?_⟩
        refine WTs.cons ?_
        refine we_binopL ?_
        intro Ps
        refine we_binopL ?_
        intro Ps
        refine we_binopL ?_
        intro Ps
        refine we_intc ?_
        refine we_binopL ?_
        intro Ps
        refine we_intc ?_
        refine we_local he ((kx _).trans (by rfl)) (by first | rfl | assumption) ?_
        refine ⟨IntMulOk.of_left (by decide), ?_⟩
        refine we_callL ?_
        intro Ps
        refine we_builtin B he ((kx _).trans (by rfl)) (by rfl) (by rfl) (fun _ => .blt) ⟨_, .blt, callee_blt, ?_⟩
        refine WTs.cons ?_
        refine we_local he ((kx _).trans (by rfl)) (by first | rfl | assumption) ?_
        refine WTs.nil (WKs.nil ⟨rfl, ?_⟩)
        refine wc_ord ?_
        refine we_intc ?_
        refine WTs.nil (WKs.nil ⟨rfl, ?_⟩)
        refine wc_chr (by omega) (by rcases ho with rfl | rfl <;> omega) ?_
        refine wf_nil ?_
        refine wf_nil ?_
        refine typed_tail (x := x) B he kx ?_ ?_ ?_ ?_ (set_other hc5 hv) v4 (le4.trans (PH.le_set hc5)) (fun p ρ' H' z => z) <;> rfl
      · rw [if_neg (by rw [decide_eq_false e2]; decide)]
        refine wf_nil ?_
        refine wf_nil ?_
        refine typed_tail (x := x) B he kx ?_ ?_ ?_ ?_ hv g1 le4 (fun p ρ' H' z => z) <;> rfl
  · rw [if_neg (by rw [decide_eq_false d8]; decide)]
    refine wf_consL ?_
    intro Ps
    refine wf_if ?_
    refine wb_cmpL B ?_
    intro Ps
    refine we_binopL ?_
    intro Ps
    refine we_local he ((kx _).trans (by rfl)) (by first | rfl | assumption) ?_
    refine we_intc ?_
    refine ⟨by decide, ?_⟩
    refine we_intc ?_
    refine ⟨_, rfl, ?_⟩
    by_cases d9 : x.fmod 10 = 8
    · rw [if_pos (by simpa using d9)]
      obtain ⟨z1, z2⟩ := mod_lt (x := wh) (m := 5) (by decide)
      obtain ⟨j, j1, j2⟩ := nat_of (i := wh.fmod 5) (m := 5) (by omega) (by omega)
      obtain ⟨v, v1, v2⟩ := lig j2
      refine wf_consL ?_
      intro Ps
      refine @wf_assign _ _ _ _ _ _ _ _ _ _ _ _ he (.inl ((kx _).trans (by rfl))) ?_ (by rfl)
      refine we_indexL ?_
      intro Ps
      refine we_listx ?_
      refine WTs.cons ?_
      refine we_strc ?_
      refine WTs.cons ?_
      refine we_strc ?_
      refine WTs.cons ?_
      refine we_strc ?_
      refine WTs.cons ?_
      refine we_strc ?_
      refine WTs.cons ?_
      refine we_strc ?_
      refine WTs.nil ?_
      refine ⟨show 5 ≤ sizeLine by decide, fun c5 hc5 => ?_⟩
      refine we_binopL ?_
      intro Ps
      refine we_local he ((kx _).trans (by rfl)) (by first | rfl | assumption) ?_
      refine we_intc ?_
      refine ⟨by decide, ?_⟩
      refine ⟨_, j, .str v, PH.set_self .., by decide, seqIndex_at j1 j2, by show (ligL.map PV.str)[j]? = _; rw [List.getElem?_map, v1]; rfl, ?_⟩
      refine wf_consL ?_
      intro Ps
      refine @wf_assign _ _ _ _ _ _ _ _ _ _ _ _ he (.inl ((kx _).trans (by rfl))) ?_ (by rfl)
      refine we_callL ?_
      intro Ps
      refine we_builtin B he ((kx _).trans (by rfl)) (by rfl) (by rfl) (fun _ => .blt) ⟨_, .blt, callee_blt, ?_⟩
      refine WTs.cons ?_
      refine we_binopL ?_
      intro Ps
      refine we_intc ?_
      refine we_binopL ?_
      intro Ps
      refine we_local he ((kx _).trans (by rfl)) (by first | rfl | assumption) ?_
      refine we_intc ?_
      refine ⟨by decide, ?_⟩
      refine WTs.nil (WKs.nil ⟨rfl, ?_⟩)
      refine wc_chr (by omega) (by omega) ?_
      refine wf_nil ?_
      refine wf_nil ?_
      refine typed_tail (x := x) (m := v) (c := ((64256 : Int) + wh.fmod 5).toNat) B he kx ?_ ?_ ?_ ?_ (set_other hc5 hv) ?_ (le4.trans (PH.le_set hc5)) (fun p ρ' H' z => z)
      iterate 4 rfl
      have : ((64256 : Int) + wh.fmod 5).toNat = 64256 + j := by omega
      rw [this]; exact v2
    · rw [if_neg (by simpa using d9)]
      obtain ⟨z1, z2⟩ := mod_lt (x := wh) (m := 16) (by decide)
      obtain ⟨j, j1, j2⟩ := nat_of (i := wh.fmod 16) (m := 16) (by omega) (by omega)
      obtain ⟨v, v1, v2, v3, v4⟩ := beside j2
      refine wf_consL ?_
      intro Ps
      refine @wf_assign _ _ _ _ _ _ _ _ _ _ _ _ he (.inl ((kx _).trans (by rfl))) ?_ (by rfl)
      refine we_callL ?_
      intro Ps
      refine we_builtin B he ((kx _).trans (by rfl)) (by rfl) (by rfl) (fun _ => .blt) ⟨_, .blt, callee_blt, ?_⟩
      refine WTs.cons ?_
      refine we_indexL ?_
      intro Ps
      refine we_local he ((kx _).trans (by rfl)) (by first | rfl | assumption) ?_
      refine we_binopL ?_
      intro Ps
      refine we_local he ((kx _).trans (by rfl)) (by first | rfl | assumption) ?_
      refine we_intc ?_
      refine ⟨by decide, ?_⟩
      refine ⟨_, j, .int v, hbs, by decide, seqIndex_at j1 j2, by rw [List.getElem?_map, v1]; rfl, ?_⟩
      refine WTs.nil (WKs.nil ⟨rfl, ?_⟩)
      refine wc_chr v2 v3 ?_
      refine wf_consL ?_
      intro Ps
      refine @wf_assign _ _ _ _ _ _ _ _ _ _ _ _ he (.inl ((kx _).trans (by rfl))) ?_ (by rfl)
      refine we_local he ((kx _).trans (by rfl)) (by first | rfl | assumption) ?_
      refine wf_nil ?_
      refine wf_nil ?_
      refine typed_tail (x := x) B he kx ?_ ?_ ?_ ?_ hv v4 le4 (fun p ρ' H' z => z) <;> rfl
/-- what a text is prepared to -/
noncomputable def prepF : PySem.Str → List Nat → PySem.Str
  | acc, [] => acc
  | acc, c :: cs => if decide ((c : Int) ∈ b1L) then prepF acc cs else prepF (acc ++ mapped c) cs
theorem prepF_append (c : Nat) : ∀ (cs : List Nat) (acc : PySem.Str), prepF acc (cs ++ [c]) = if decide ((c : Int) ∈ b1L) then prepF acc cs else prepF acc cs ++ mapped c
  | [], acc => by
    show prepF acc [c] = _
    unfold prepF
    split <;> rfl
  | d :: cs, acc => by
    show prepF acc (d :: (cs ++ [c])) = _
    unfold prepF
    split
    · exact prepF_append c cs acc
    · exact prepF_append c cs _
theorem spec_prepared_gen {x : PySem.Str} {Φ : PV → PH → Prop} (B : Base w hb) (hlen : ∀ (k c : Nat), x.cps.toList[k]? = some c → decide ((c : Int) ∈ b1L) = false → (prepF PySem.Str.empty (x.cps.toList.take k)).length + (mapped c).length ≤ sizeLine)
    (h : Φ (.str (prepF PySem.Str.empty x.cps.toList)) H) : WC w hb os (n + 2) H (.ref 170) [.str x] [] Φ := by
  refine wc_def 19 (ns := [S "text"]) (pb := [(S "text", .str x)]) B (B.K 170 _ (by rfl)) rfl ⟨169, _, _, _, rfl, B.K 169 _ (by rfl), rfl, rfl⟩ (binds1 B fun _ _ => rfl) rfl rfl rfl (by kernel_rfl) rfl rfl rfl ?_ rfl rfl rfl
  intro env he kx
  refine wf_consL ?_
  intro Ps
  refine @wf_assign _ _ _ _ _ _ _ _ _ _ _ _ he (.inl ((kx _).trans (by rfl))) ?_ (by rfl)
  refine we_strc' (y := PySem.Str.empty) (by kernel_rfl) ?_
  refine wf_consL ?_
  intro Ps
  let Jv1 : Nat → Rho → PH → Prop := fun k ρ' H' => H' = H ∧ ρ' (S "kept") = some (.str (prepF PySem.Str.empty (x.cps.toList.take k)))
  refine wf_for Jv1 ?_
  refine wi_str ?_
  refine we_local he ((kx _).trans (by rfl)) (by first | rfl | assumption) ?_
  refine ⟨x, rfl, x.cps.toList.map fun c => .str ⟨#[c]⟩, trivial, ⟨rfl, by show some _ = some _; rw [List.take_zero]; rfl⟩, ?_, ?_, ?_⟩
  · rintro k ρ' H' ⟨rfl, _⟩
    rfl
  · rintro k ρ' H' p hp ⟨rfl, h1⟩
    obtain ⟨c, hc, rfl⟩ : ∃ c, x.cps.toList[k]? = some c ∧ p = .str ⟨#[c]⟩ := by
      rw [List.getElem?_map] at hp
      cases e : x.cps.toList[k]? with
      | none => rw [e] at hp; cases hp
      | some c => rw [e] at hp; exact ⟨c, rfl, (Option.some.inj hp).symm⟩
    have step : prepF PySem.Str.empty (x.cps.toList.take (k + 1)) = if decide ((c : Int) ∈ b1L) then prepF PySem.Str.empty (x.cps.toList.take k) else prepF PySem.Str.empty (x.cps.toList.take k) ++ mapped c := by
      rw [List.take_add_one, hc]; exact prepF_append c _ _
    refine wa_name he (.inl ⟨(kx _).trans (by rfl), List.mem_cons_self⟩) ?_
    refine wf_consL ?_
    intro Ps
    refine @wf_assign _ _ _ _ _ _ _ _ _ _ _ _ he (.inl ((kx _).trans (by rfl))) ?_ (by rfl)
    refine we_callL ?_
    intro Ps
    refine we_glob B he ((kx _).trans (by rfl)) (by rfl) ⟨_, .fn, callee_fn (B.K 110 _ (by rfl)) rfl, ?_⟩
    refine WTs.cons ?_
    refine we_local he ((kx _).trans (by rfl)) (by first | rfl | assumption) ?_
    refine WTs.nil (WKs.nil ⟨rfl, ?_⟩)
    refine spec_in_b1 B ?_
    cases hd : decide ((c : Int) ∈ b1L) with
    | true =>
      rw [hd, if_pos rfl] at step
      refine wf_consL ?_
      intro Ps
      refine wf_if ?_
      refine wb_cmpL B ?_
      intro Ps
      refine we_local he ((kx _).trans (by rfl)) (by first | rfl | assumption) ?_
      refine we_boolc ?_
      refine ⟨_, rfl, ?_⟩
      rw [if_neg (by decide)]
      refine wf_consL ?_
      intro Ps
      refine wf_if ?_
      refine wb_cmpL B ?_
      intro Ps
      refine we_local he ((kx _).trans (by rfl)) (by first | rfl | assumption) ?_
      refine we_boolc ?_
      refine ⟨_, rfl, ?_⟩
      rw [if_neg (by decide)]
      refine wf_nil ?_
      refine wf_nil ?_
      refine wf_nil ?_
      exact ⟨rfl, by rw [step]; exact h1⟩
    | false =>
      rw [hd, if_neg Bool.false_ne_true] at step
      refine wf_consL ?_
      intro Ps
      refine wf_if ?_
      refine wb_cmpL B ?_
      intro Ps
      refine we_local he ((kx _).trans (by rfl)) (by first | rfl | assumption) ?_
      refine we_boolc ?_
      refine ⟨_, rfl, ?_⟩
      rw [if_pos (by decide)]
      refine wf_consL ?_
      intro Ps
      refine @wf_assign _ _ _ _ _ _ _ _ _ _ _ _ he (.inl ((kx _).trans (by rfl))) ?_ (by rfl)
      refine we_callL ?_
      intro Ps
      refine we_glob B he ((kx _).trans (by rfl)) (by rfl) ⟨_, .fn, callee_fn (B.K 71 _ (by rfl)) rfl, ?_⟩
      refine WTs.cons ?_
      refine we_local he ((kx _).trans (by rfl)) (by first | rfl | assumption) ?_
      refine WTs.cons ?_
      refine we_callL ?_
      intro Ps
      refine we_glob B he ((kx _).trans (by rfl)) (by rfl) ⟨_, .fn, callee_fn (B.K 156 _ (by rfl)) rfl, ?_⟩
      refine WTs.cons ?_
      refine we_local he ((kx _).trans (by rfl)) (by first | rfl | assumption) ?_
      refine WTs.nil (WKs.nil ⟨rfl, ?_⟩)
      refine spec_b3 B ?_
      refine WTs.nil (WKs.nil ⟨rfl, ?_⟩)
      refine spec_concat_str B (hlen k c hc hd) ?_
      refine wf_nil ?_
      refine wf_nil ?_
      exact ⟨rfl, by rw [step]; rfl⟩
  · rintro ρ' H' ⟨rfl, h1⟩
    rw [List.length_map, List.take_length] at h1
    refine wf_nil ?_
    refine wf_consL ?_
    intro Ps
    refine wf_ret ?_
    refine we_local he ((kx _).trans (by rfl)) (by first | rfl | assumption) ?_
    exact h
theorem good_parts {c : Nat} {m : PySem.Str} (g : Good c m) : decide ((c : Int) ∈ b1L) = false ∧ mapped c = m ∧ m.length ≤ 3 := by
  unfold Good goodCheck at g
  simp only [Bool.and_eq_true, Bool.not_eq_true', decide_eq_true_eq, beq_iff_eq] at g
  exact ⟨g.1.1.1, g.1.1.2, g.1.2⟩
theorem good_ok {c : Nat} {m : PySem.Str} (g : Good c m) : PyData.strOk m = true ∧ c < 0x110000 := by
  unfold Good goodCheck at g
  simp only [Bool.and_eq_true, Bool.not_eq_true', decide_eq_true_eq, beq_iff_eq] at g
  exact g.2
theorem b1_small : b1L.all (fun v => decide (v < 0x110000)) = true := by decide +kernel
theorem Typed.ok {s m : PySem.Str} (h : Typed s m) : PyData.strOk s = true ∧ PyData.strOk m = true := by
  obtain ⟨c, g, hs⟩ := h
  obtain ⟨g1, g2⟩ := good_ok g
  refine ⟨?_, g1⟩
  rcases hs with rfl | ⟨v, hv, rfl | rfl⟩
  · simp [PyData.strOk, g2]
  · have := of_decide_eq_true (List.all_eq_true.mp b1_small _ hv)
    have : v < 0x110000 := by omega
    simp [PyData.strOk, g2, this]
  · have := of_decide_eq_true (List.all_eq_true.mp b1_small _ hv)
    have : v < 0x110000 := by omega
    simp [PyData.strOk, g2, this]
theorem Typed.short {s m : PySem.Str} (h : Typed s m) : m.length ≤ 3 := let ⟨_, g, _⟩ := h; (good_parts g).2.2
theorem spec_prepared {s m : PySem.Str} {Φ : PV → PH → Prop} (B : Base w hb) (ht : Typed s m) (h : Φ (.str m) H) : WC w hb os (n + 2) H (.ref 170) [.str s] [] Φ := by
  obtain ⟨c, g, hs⟩ := ht
  obtain ⟨g1, g2, g3⟩ := good_parts g
  have line : 3 + 3 ≤ sizeLine := by decide
  have small : ∀ acc : PySem.Str, acc.length ≤ 3 → acc.length + (mapped c).length ≤ sizeLine := fun acc ha => by rw [g2]; omega
  have em : PySem.Str.empty.length ≤ 3 := by decide
  have emm : ∀ y : PySem.Str, (PySem.Str.empty ++ y) = y := PySem.Str.empty_append
  rcases hs with rfl | ⟨v, hv, rfl | rfl⟩
  · refine spec_prepared_gen B (fun k c' e hd => ?_) ?_
    · obtain ⟨rfl, rfl⟩ : k = 0 ∧ c' = c := by
        match k, e with
        | 0, e => exact ⟨rfl, (Option.some.inj e).symm⟩
      exact small _ em
    · show Φ (.str (prepF _ [c])) H
      unfold prepF
      rw [g1, if_neg Bool.false_ne_true]
      unfold prepF
      rw [emm, g2]; exact h
  · have hvd : decide ((v : Int) ∈ b1L) = true := decide_eq_true hv
    refine spec_prepared_gen B (fun k c' e hd => ?_) ?_
    · match k, e with
      | 0, e => obtain rfl := Option.some.inj e; rw [hvd] at hd; cases hd
      | 1, e =>
        obtain rfl := Option.some.inj e
        refine small _ ?_
        show (prepF _ [v]).length ≤ 3
        unfold prepF
        rw [hvd, if_pos rfl]
        exact em
    · show Φ (.str (prepF _ [v, c])) H
      unfold prepF
      rw [hvd, if_pos rfl]
      unfold prepF
      rw [g1, if_neg Bool.false_ne_true]
      unfold prepF
      rw [emm, g2]; exact h
  · have hvd : decide ((v : Int) ∈ b1L) = true := decide_eq_true hv
    refine spec_prepared_gen B (fun k c' e hd => ?_) ?_
    · match k, e with
      | 0, e => obtain rfl := Option.some.inj e; exact small _ em
      | 1, e => obtain rfl := Option.some.inj e; rw [hvd] at hd; cases hd
    · show Φ (.str (prepF _ [c, v])) H
      unfold prepF
      rw [g1, if_neg Bool.false_ne_true]
      unfold prepF
      rw [hvd, if_pos rfl]
      unfold prepF
      rw [emm, g2]; exact h
end
end Mine
end

-- part S2
set_option linter.all false
noncomputable section
namespace Mine
open PySem PySem.W PySem.Calls PyProof.Rows
set_option Elab.async false
set_option maxRecDepth 100000
section
variable {prog : Program} {w : World} {A : Around} {E : Value → Shared → Prop} {s : Shared}
/-- a list sorts itself; nothing else changes -/
theorem sort_here {a : Addr} {vs : List Value} {n : Nat} {P : PySem.Fin → Shared → Prop} (ho : s.heap.get? a = some (seqObj "list" vs.toArray n)) (h2 : 2 ≤ vs.length) (h64 : vs.length < 64)
    (h : ∀ h', (∀ b o, b ≠ a → s.heap.get? b = some o → h'.get? b = some o) →
      wpAny (model prog w) A (keyKind' vs.toArray) (fun κ s' => (kas_sort vs.length).kasWp (kas_ask prog w A κ vs) (fun p s'' => s'' = { s with heap := h' } ∧
        ∀ h'' c, Heap.SameBut a h' h'' → h''.get? a = some (seqObj "list" (List.toArray (p.toList.map fun i => vs.getD i Value.none)) c) → P (.done (.ret .none)) { s with heap := h'' }) s') (fun _ _ => False) { s with heap := h' }) :
    wpAny (model prog w) A (Builtin.«list.sort» ⟨[.ref a], []⟩) P E s := by
  have su := Heap.SameBut.update s.heap a (Obj.mapSeq fun _ => (#[] : Array Value))
  have hu := get?_update_seq ho fun _ => #[]
  generalize hh1 : s.heap.update a (Obj.mapSeq fun _ => (#[] : Array Value)) = h1 at su hu
  generalize ht : ({ cls := .type "tuple", dict := Option.none, data := .seq vs.toArray, slots := #[] } : Obj) = tp
  have ask := h ((h1.push tp).push (seqObj "list" #[] 0)) fun b o hb e => Heap.get?_push_of_some _ (Heap.get?_push_of_some _ ((su.2 b hb).trans e))
  have hu2 : ((h1.push tp).push (seqObj "list" #[] 0)).get? a = _ := Heap.get?_push_of_some _ (Heap.get?_push_of_some _ hu)
  have small : ∀ k : Nat, k < 64 → k ≤ sizeLine := fun k hk => Nat.le_trans (Nat.le_of_lt hk) (by decide)
  rw [list_sort_plain]
  refine wpAny_bind (listItems_at ho rfl (wpAny_bind (listUpdate_at ho rfl ?_ (by rw [List.size_toArray]; exact small _ h64) (Nat.zero_le _))))
  rw [hh1]
  refine wpAny_bind (seqEpoch_at hu rfl (wpAny_bind (wpAny_newTuple ?_ (small _ h64))))
  refine wpAny_bind (wpAny_newList (wpAny_holding ?_) (Nat.zero_le _))
  rw [ht]
  show wpAny (model prog w) A _ P E { s with heap := (h1.push tp).push (seqObj "list" #[] 0) }
  generalize (h1.push tp).push (seqObj "list" #[] 0) = hp at ask hu2 ⊢
  have hn2 : ¬ vs.toArray.size < 2 := by rw [List.size_toArray]; omega
  dsimp only
  rw [if_neg hn2, if_neg hn2]
  refine wpAny_bind (wpAny_mono ask (fun κ s0 hk => ?_) fun _ _ x => x.elim)
  refine wpAny_bind (wpAny_mono (kat_run (Q := fun st' s' => ∃ p : Array Nat, p.size = vs.length ∧ arrOf st' = p.map (kas_item (vs.toArray.zip vs.toArray)) ∧ failedOf st' = none ∧ s' = { s with heap := hp } ∧
      ∀ h'' c, Heap.SameBut a hp h'' → h''.get? a = some (seqObj "list" (List.toArray (p.toList.map fun i => vs.getD i Value.none)) c) → P (.done (.ret .none)) { s with heap := h'' })
    rfl h2 h64 (fun p st' s' a1 a2 a3 a4 => ⟨p, a1, a2, a3, a4.1, a4.2⟩) hk) ?_ fun _ _ e => e)
  rintro ⟨⟨⟩, st⟩ s' ⟨p, hsz, har, hf, rfl, fin⟩
  have hout := kat_snds (vs := vs) (ks := vs) rfl har
  dsimp only
  rw [hout]
  have hlen : (List.toArray (p.toList.map fun i => vs.getD i Value.none)).size = vs.length := by rw [List.size_toArray, List.length_map, Array.length_toList, hsz]
  refine wpAny_bind (seqEpoch_at hu2 rfl (wpAny_bind (listUpdate_at hu2 rfl ?_ (Nat.zero_le _) (by rw [hlen]; exact Nat.le_succ_of_le (small _ h64)))))
  rw [hf]
  simp only [bne_self_eq_false, Bool.false_eq_true, if_false]
  exact wpAny_pure (fin _ _ (Heap.SameBut.update ..) (get?_update_seq hu2 _))
theorem sorted_here {l : Addr} {vs : List Value} {Q : Value → Shared → Prop} (hl : s.heap.IsList l vs.toArray) (h2 : 2 ≤ vs.length) (h64 : vs.length < 64)
    (h : ∀ h', (∀ b o, s.heap.get? b = some o → h'.get? b = some o) →
      wpAny (model prog w) A.in1.in1 (keyKind' vs.toArray) (fun κ s' => (kas_sort vs.length).kasWp (kas_ask prog w A.in1.in1 κ vs) (fun p s'' => s'' = { s with heap := h' } ∧
        ∀ h'' D c, (∀ b o, s.heap.get? b = some o → h''.get? b = some o) → s.heap.get? D = none → h''.get? D = some (seqObj "list" (List.toArray (p.toList.map fun i => vs.getD i Value.none)) c) → Q (.ref D) { s with heap := h'' }) s') (fun _ _ => False) { s with heap := h' }) :
    wpAny (model prog w) A (call (.builtin "sorted") [.ref l]) Q E s := by
  have small : ∀ k : Nat, k < 64 → k ≤ sizeLine := fun k hk => Nat.le_trans (Nat.le_of_lt hk) (by decide)
  refine Calls.call_function_entry kind_sorted plain_sorted entry_sorted (args_sorted1 _) ?_
  unfold Builtin.«sorted»
  refine wpAny_bind (m := checkCount "sorted" 1 1 _) (wpAny_pure (wpAny_bind (collect_list hl (wpAny_bind (wpAny_newList ?_ (small _ h64))) (small _ h64))))
  have su := Heap.SameBut.update (s.heap.push (seqObj "list" #[] 0)) s.heap.objs.size (Obj.mapSeq (· ++ vs.toArray))
  have hs1 : ((s.heap.push (seqObj "list" #[] 0)).update s.heap.objs.size (Obj.mapSeq (· ++ vs.toArray))).objs.size = s.heap.objs.size + 1 := by rw [Heap.size_update, size_push']
  have keep1 : ∀ b o, s.heap.get? b = some o → ((s.heap.push (seqObj "list" #[] 0)).update s.heap.objs.size (Obj.mapSeq (· ++ vs.toArray))).get? b = some o := fun b o e =>
    (su.2 b (Nat.ne_of_lt (Heap.lt_size e))).trans (Heap.get?_push_of_some _ e)
  show wpAny _ _ _ _ _ { s with heap := ((s.heap.push (seqObj "list" #[] 0)).update s.heap.objs.size (Obj.mapSeq (· ++ vs.toArray))).push (seqObj "list" vs.toArray 0) }
  dsimp only
  generalize (s.heap.push (seqObj "list" #[] 0)).update s.heap.objs.size (Obj.mapSeq (· ++ vs.toArray)) = h1 at su hs1 keep1 ⊢
  have hD : (h1.push (seqObj "list" vs.toArray 0)).get? h1.objs.size = some (seqObj "list" vs.toArray 0) := Heap.get?_push_size _ rfl
  have fresh : s.heap.get? h1.objs.size = none := by
    cases e : s.heap.get? h1.objs.size with
    | none => rfl
    | some o => have := Heap.lt_size e; rw [hs1] at this; exact (Nat.not_succ_lt_self this).elim
  have keep2 : ∀ b o, s.heap.get? b = some o → (h1.push (seqObj "list" vs.toArray 0)).get? b = some o := fun b o e => Heap.get?_push_of_some _ (keep1 b o e)
  have ne : ∀ b o, s.heap.get? b = some o → b ≠ h1.objs.size := fun b o e q => by rw [q, fresh] at e; cases e
  generalize h1.objs.size = D at hD fresh ne ⊢
  generalize h1.push (seqObj "list" vs.toArray 0) = hp at hD keep2 ⊢
  refine wpAny_bind (wpAny_holding (wpAny_call_entry slot_list_sort ⟨_, hD, rfl⟩ entry_list_sort ?body (args_list_sort _)))
  case body =>
    refine sort_here (s := { s with heap := hp }) hD h2 h64 fun h' hk => ?_
    refine wpAny_mono (h h' fun b o e => hk b o (ne b o e) (keep2 b o e)) (fun κ s' hs => ?_) fun _ _ x => x
    rw [kat_ask_eq rfl] at hs ⊢
    refine kas_wp_mono hs fun p s'' ⟨e, q⟩ => ⟨e, fun h'' c sb hc => ⟨_, rfl, wpAny_pure ?_⟩⟩
    exact ⟨_, rfl, q h'' D c (fun b o e => (sb.2 b (ne b o e)).trans (hk b o (ne b o e) (keep2 b o e))) fresh hc⟩
end

/-- the order of pairs of a text and a place -/
noncomputable def sLt (X : Nat → PySem.Str) (i j : Nat) : Bool := if X i == X j then decide (i < j) else decide ((X i).cps.toList < (X j).cps.toList)
theorem sLt_iff {X : Nat → PySem.Str} {i j : Nat} : sLt X i j = true ↔ R (fun i => (X i).cps.toList) i j := by
  unfold sLt R
  by_cases h : X i = X j
  · have h1 : (X i == X j) = true := by simpa using h
    rw [h1, if_pos rfl]
    constructor
    · intro e; exact .inr ⟨(congrArg (fun x : PySem.Str => x.cps.toList) h), of_decide_eq_true e⟩
    · rintro (e | ⟨_, e⟩)
      · have e : (X i).cps.toList < (X j).cps.toList := e
        rw [h] at e; exact (lt_irr _ e).elim
      · exact decide_eq_true e
  · have h1 : (X i == X j) = false := by simpa using h
    have h2 : (X i).cps.toList ≠ (X j).cps.toList := fun e => h (PySem.Str.ext' (Array.toList_inj.mp e))
    rw [h1, if_neg Bool.false_ne_true]
    dsimp only
    simp [h2]
noncomputable abbrev pairPV (X : Nat → PySem.Str) (i : Nat) : PV := .tup [.str (X i), .int (i : Int)]
noncomputable def TupAt (X : Nat → PySem.Str) (h : Heap) (v : Value) (i : Nat) : Prop := ∃ b n t u, v = .ref b ∧ h.get? b = some (tupO #[.str (X i) t, .int (i : Int) u] n)
theorem tups_of {X : Nat → PySem.Str} {σ : Vw} : ∀ {is : List Nat} {vs : List Value}, VReps σ vs (is.map (pairPV X)) → vs.length = is.length ∧ ∀ (k i : Nat), is[k]? = some i → TupAt X σ.h (vs.getD k .none) i
  | [], vs, r => by (first | obtain rfl := r.nil_is | obtain rfl := r.ref_is | obtain ⟨_, rfl⟩ := r.int_is | obtain ⟨_, rfl, _⟩ := r.str_is | obtain rfl := r.bool_is | obtain rfl := r.none_is | obtain rfl := r.fn_is | cases r); exact ⟨rfl, fun k i e => nomatch e⟩
  | i :: is, vs, r => by
    cases r with
    | cons r1 r =>
      obtain ⟨h1, h2⟩ := tups_of r
      refine ⟨by rw [List.length_cons, List.length_cons, h1], fun k j e => ?_⟩
      cases k with
      | succ k => exact h2 k j e
      | zero =>
        obtain rfl := Option.some.inj e
        cases r1 with | tup t1 t2 =>
        rename_i b items m
        obtain ⟨v1, v2, e12, r1, r2⟩ := t2.two
        obtain ⟨t, rfl, _⟩ := r1.str_is; obtain ⟨u, rfl⟩ := r2.int_is
        have : items = #[.str (X i) t, .int (i : Int) u] := Array.toList_inj.mp e12
        subst this
        exact ⟨b, m, t, u, rfl, t1⟩
theorem TupAt.keep {X : Nat → PySem.Str} {h h' : Heap} {v : Value} {i : Nat} (x : TupAt X h v i) (k : ∀ b o, h.get? b = some o → h'.get? b = some o) : TupAt X h' v i := let ⟨b, n, t, u, e, e'⟩ := x; ⟨b, n, t, u, e, k _ _ e'⟩
theorem katTups_of {X : Nat → PySem.Str} {h : Heap} : ∀ {is : List Nat} {vs : List Value}, vs.length = is.length → (∀ (k i : Nat), is[k]? = some i → TupAt X h (vs.getD k .none) i) → ∃ fs : List Value, KatTups h vs fs ∧ (∀ f ∈ fs, ∃ x t, f = .str x t) ∧ fs.length = vs.length
  | [], [], _, _ => ⟨[], .nil, (fun _ h => nomatch h), rfl⟩
  | i :: is, v :: vs, hl, ht => by
    obtain ⟨fs, h1, h2, h3⟩ := katTups_of (is := is) (vs := vs) (by simpa using hl) fun k j e => ht (k + 1) j e
    obtain ⟨b, n, t, u, e, e'⟩ := ht 0 i rfl
    have e : v = .ref b := e
    subst e
    refine ⟨.str (X i) t :: fs, .cons e' rfl rfl rfl h1, fun f hf => ?_, by rw [List.length_cons, List.length_cons, h3]⟩
    rcases List.mem_cons.mp hf with rfl | hf
    · exact ⟨_, _, rfl⟩
    · exact h2 f hf
theorem sCmp {w : World} {A : Around} {s : Shared} {X : Nat → PySem.Str} {vs : List Value} {n : Nat} (h : ∀ i, i < n → TupAt X s.heap (vs.getD i .none) i) : Cmp (kas_ask pw w A (tuples' true) vs) (sLt X) s n where
  ask := fun i j C hi hj q => by
    obtain ⟨b, m, t, u, e, e'⟩ := h i hi
    obtain ⟨b2, m2, t2, u2, e2, e2'⟩ := h j hj
    show wpAny (model pw w) A (keyLt' (tuples' true) (vs.getD i .none) (vs.getD j .none)) C (fun _ _ => False) s
    rw [e, e2]
    refine kat_lt e' rfl e2' rfl ?_
    refine kat_cons (eqBool_str ?_)
    unfold sLt at q
    cases he : X i == X j with
    | false =>
      rw [he, if_neg Bool.false_ne_true] at q
      exact kat_no (oneLt_str q)
    | true =>
      rw [he, if_pos rfl] at q
      refine kat_yes (kat_cons (wpAny_eqBool_int ?_))
      cases hij : ((i : Int) == (j : Int)) with
      | true =>
        have : i = j := by have := beq_iff_eq.mp hij; omega
        subst this
        rw [decide_eq_false (Nat.lt_irrefl _)] at q
        exact kat_yes (kat_nil q)
      | false =>
        refine kat_no (kat_one _ _ (PyProof.Rows.lt_int ?_))
        have : decide ((i : Int) < (j : Int)) = decide (i < j) := by
          by_cases h : i < j
          · rw [decide_eq_true h, decide_eq_true (by omega)]
          · rw [decide_eq_false h, decide_eq_false (by omega)]
        rw [this]; exact q
  irr := fun i => by
    cases e : sLt X i i with
    | false => rfl
    | true => exact (R.irr _ (sLt_iff.mp e)).elim
  trans := fun i j k a b => sLt_iff.mpr ((sLt_iff.mp a).trans (sLt_iff.mp b))
  tot := fun i j _ _ h => (R.tri h).imp sLt_iff.mpr sLt_iff.mpr
section
variable {w : World} {hb : Heap} {os : OsState} {n : Nat} {env : Env} {ρ : Rho} {H : PH} {τ : Nat → PySem.Str}
theorem we_sorted {f e : Expr} {pos : Pos} {X : Nat → PySem.Str} {N : Nat} {Φ : PV → PH → Prop} (h2 : 2 ≤ N) (h64 : N < 64)
    (h : WT w hb os n env ρ H (eval f env) fun pf H0 => pf = .blt "sorted" ∧ WT w hb os n env ρ H0 (eval e env) fun p H1 => ∃ a, p = .ref a ∧ H1 a = some ((List.range N).map (pairPV X)) ∧
      ∀ q : List Nat, q.Perm (List.range N) → q.Pairwise (R fun i => (X i).cps.toList) → ∀ c, H1 c = Option.none → Φ (.ref c) (H1.set c (q.map (pairPV X))))
    (he : eval (.Call f [e] [] pos) env = (do callWith pos (← eval f env) [] (backTo pos (starEach [e] env)) (backToKw pos (keywordEach [] env))) := by rfl)
    (ha : backTo pos (starEach [e] env) = [(false, eval e env)] := by rfl) : WT w hb os n env ρ H (eval (.Call f [e] [] pos) env) Φ := fun A s τ ak I Q q => by
  rw [he]
  refine wpAny_bind (h A s τ ak I _ fun pf H0 vf s1 τ1 ⟨e1, g⟩ J r x => ?_)
  subst e1; (first | obtain rfl := r.nil_is | obtain rfl := r.ref_is | obtain ⟨_, rfl⟩ := r.int_is | obtain ⟨_, rfl, _⟩ := r.str_is | obtain rfl := r.bool_is | obtain rfl := r.none_is | obtain rfl := r.fn_is | cases r)
  show wpAny _ A (callWith pos (.builtin "sorted") [] (backTo pos (starEach [e] env)) []) _ noE s1
  rw [ha]
  refine callWith_of (P := fun h => ∀ b o, hb.get? b = some o → h.get? b = some o) (by simp) (fun h k => callee_blt h k) ?_
  refine evalArgs_plain (Calls.spliced_cons (g A s1 τ1 ak J _ fun p H1 v s2 τ2 ⟨a, e2, e3, f⟩ J2 r y => Calls.spliced_nil ?_))
  subst e2; (first | obtain rfl := r.nil_is | obtain rfl := r.ref_is | obtain ⟨_, rfl⟩ := r.int_is | obtain ⟨_, rfl, _⟩ := r.str_is | obtain rfl := r.bool_is | obtain rfl := r.none_is | obtain rfl := r.fn_is | cases r)
  obtain ⟨items, m, i1, i2⟩ := J2.l.get e3
  refine ⟨J2.base, ?_⟩
  show wpAny _ A (PySem.call (.builtin "sorted") [.ref a] []) _ noE s2
  obtain ⟨t1, t2⟩ := tups_of i2
  have hlen : items.toList.length = N := by rw [t1, List.length_range]
  have tt : ∀ i, i < N → TupAt X s2.heap (items.toList.getD i .none) i := fun i hi => t2 i i (List.getElem?_range hi)
  refine sorted_here (vs := items.toList) (by rw [Array.toArray_toList]; exact i1.isList) (by rw [hlen]; exact h2) (by rw [hlen]; exact h64) fun h' hk => ?_
  obtain ⟨fs, k1, k2, k3⟩ := katTups_of (X := X) (h := h') (is := List.range N) (vs := items.toList) t1 fun k i e => (t2 k i e).keep hk
  refine kat_kind (T := .type "str") k1 (by rw [k3, hlen]; omega) (fun v hv => ?_) rfl ?_
  · obtain ⟨x, t, rfl⟩ := k2 v hv
    exact Looks.of_pure rfl
  rw [show (Value.type "str" != Value.type "tuple") = true by decide, hlen]
  refine sort_ok (sCmp (X := X) fun i hi => (tt i hi).keep hk) h2 fun p hp hu => ⟨rfl, fun h'' D c kk hD hc => ?_⟩
  have hpl := hp.list
  have hpw : p.toList.Pairwise (R fun i => (X i).cps.toList) := by
    refine List.pairwise_iff_getElem.mpr fun i j hi hj hij => sLt_iff.mp ?_
    rw [Array.length_toList, hp.size] at hi hj
    have e1 := hp.at_mem hi
    have e2 := hp.at_mem hj
    rw [(List.getElem?_eq_some_iff.mp e1).2, (List.getElem?_eq_some_iff.mp e2).2]
    exact hu i j hij hj
  have z := J2.to0.grow kk (Nat.le_refl s2.toks) (fun t _ => (rfl : τ2 t = τ2 t))
  have rr : VReps ⟨h'', s2.toks, τ2⟩ (List.toArray (p.toList.map fun i => items.toList.getD i Value.none)).toList (p.toList.map (pairPV X)) := by
    have key : ∀ l : List Nat, (∀ i ∈ l, i < N) → VReps ⟨h'', s2.toks, τ2⟩ (l.map fun i => items.toList.getD i Value.none) (l.map (pairPV X)) := fun l => by
      induction l with
      | nil => intro _; exact .nil
      | cons i l ih =>
        intro hl
        refine .cons ?_ (ih fun j hj => hl j (List.mem_cons_of_mem _ hj))
        have hi := hl i List.mem_cons_self
        have : ((List.range N).map (pairPV X))[i]? = some (pairPV X i) := by rw [List.getElem?_map, List.getElem?_range hi]; rfl
        obtain ⟨v, hv, rv⟩ := i2.get' this
        have : items.toList.getD i Value.none = v := by rw [List.getD_eq_getElem?_getD, hv]; rfl
        show VRep _ (items.toList.getD i Value.none) _
        rw [this]
        exact rv.imm (J2.l.imm z.2)
    rw [List.toList_toArray]
    exact key _ fun i hi => List.mem_range.mp (hpl.mem_iff.mp hi)
  have JJ : Inv0 hb os (H1.set D (p.toList.map (pairPV X))) { s2 with heap := h'' } τ2 :=
    ⟨z.1.base, fun b l e => by
      unfold PH.set at e
      split at e
      · rename_i hh; subst hh
        obtain rfl := Option.some.inj e
        exact ⟨J2.to0.base_none hD, _, c, hc, rr⟩
      · exact z.1.l b l e, z.1.gens, z.1.os, z.1.pos⟩
  have ev := z.2.adopt (D := D) (ys := p.toList.map (pairPV X)) hD
  exact q _ _ _ _ τ2 (f _ hpl hpw D (J2.to0.list_none hD)) (J2.back JJ ev) .ref ((x.trans y).trans ev)
end
end Mine
end

-- part V8
set_option linter.all false
noncomputable section
namespace Mine
open PySem PySem.W PySem.Calls PyProof.Rows
set_option Elab.async false
set_option maxRecDepth 100000
-- data
noncomputable def SD (n : Nat) (d : PyData) : Prop := d.canLay0 = true ∧ d.depth ≤ n
theorem SD.int {i : Int} {n : Nat} : SD n (.int i) := ⟨rfl, Nat.zero_le _⟩
theorem SD.str {x : PySem.Str} {n : Nat} (h : PyData.strOk x = true) : SD n (.str x) := ⟨h, Nat.zero_le _⟩
theorem SD.all {n : Nat} : ∀ {ds : List PyData}, (∀ d ∈ ds, SD n d) → PyData.canLayAll0 ds = true ∧ PyData.depthAll ds ≤ n
  | [], _ => ⟨rfl, Nat.zero_le _⟩
  | d :: ds, h => by
    obtain ⟨h1, h2⟩ := SD.all (ds := ds) fun e he => h e (List.mem_cons_of_mem _ he)
    obtain ⟨h3, h4⟩ := h d List.mem_cons_self
    refine ⟨?_, ?_⟩
    · show (PyData.canLay0 d && PyData.canLayAll0 ds) = true
      rw [h3, h1]; rfl
    · show max (PyData.depth d) (PyData.depthAll ds) ≤ n
      omega
theorem SD.list {n : Nat} {ds : List PyData} (h : ∀ d ∈ ds, SD n d) : SD (n + 1) (.list ds) := ⟨(SD.all h).1, Nat.succ_le_succ (SD.all h).2⟩
theorem SD.tup {n : Nat} {ds : List PyData} (h : ∀ d ∈ ds, SD n d) : SD (n + 1) (.tuple ds) := ⟨(SD.all h).1, Nat.succ_le_succ (SD.all h).2⟩
theorem SD.shaped {n : Nat} {d : PyData} (h : SD n d) (hn : n ≤ 64 := by decide) : PySem.SeqAt.shaped d = true := by
  unfold PySem.SeqAt.shaped
  rw [h.1, decide_eq_true (Nat.le_trans h.2 hn)]; rfl
theorem SD.refl {n : Nat} {d : PyData} (h : SD n d) : PyData.eqv d d = true := PySem.SeqAt.eqv_refl d h.1
theorem eqvAll_strs : ∀ xs ys : List PySem.Str, PyData.eqvAll (xs.map .str) (ys.map .str) = decide (xs = ys)
  | [], [] => rfl
  | [], y :: ys => rfl
  | x :: xs, [] => rfl
  | x :: xs, y :: ys => by
    show (PyData.eqv (.str x) (.str y) && PyData.eqvAll (xs.map .str) (ys.map .str)) = _
    rw [eqvAll_strs xs ys]
    show ((x == y) && decide (xs = ys)) = _
    by_cases h : x = y
    · subst h; simp
    · simp [h]
theorem list_range_eq {α : Type} {l : List α} {n : Nat} (h : l.length = n) (d : α) : l = (List.range n).map fun i => l.getD i d := by
  apply List.ext_getElem?
  intro i
  rw [List.getElem?_map]
  by_cases hi : i < n
  · rw [List.getElem?_range hi]
    simp [h, hi]
  · rw [List.getElem?_eq_none (by omega), List.getElem?_eq_none (by rw [List.length_range]; omega)]; rfl
theorem pick_map {α β : Type} (f : α → β) (l : List α) (lo hi st : Option Int) : pick (l.map f) lo hi st = (pick l lo hi st).map f := by
  unfold pick
  rw [List.length_map, List.map_filterMap]
  congr 1
  funext i
  rw [List.getElem?_map]
theorem rng_item {n k : Nat} {x : PV} (h : ((List.range n).map fun i : Nat => PV.int (0 + (i : Int)))[k]? = some x) : k < n ∧ x = .int (k : Int) := by
  rw [List.getElem?_map] at h
  by_cases hk : k < n
  · rw [List.getElem?_range hk] at h
    refine ⟨hk, ?_⟩
    have := Option.some.inj h
    rw [← this]; show PV.int (0 + (k : Int)) = _; rw [Int.zero_add]
  · rw [List.getElem?_eq_none (by rw [List.length_range]; omega)] at h; cases h
theorem map_item {α : Type} {f : α → PV} {l : List α} {k : Nat} {x : PV} (h : (l.map f)[k]? = some x) : ∃ a, l[k]? = some a ∧ x = f a := by
  rw [List.getElem?_map] at h
  cases e : l[k]? with
  | none => rw [e] at h; cases h
  | some a => rw [e] at h; exact ⟨a, rfl, (Option.some.inj h).symm⟩
theorem take_map_succ {α β : Type} (f : α → β) {l : List α} {k : Nat} {a : α} (h : l[k]? = some a) : (l.take (k + 1)).map f = (l.take k).map f ++ [f a] := by
  rw [List.take_add_one, h, List.map_append]; rfl
theorem range_map_succ {β : Type} (f : Nat → β) (k : Nat) : (List.range (k + 1)).map f = (List.range k).map f ++ [f k] := by
  rw [List.range_succ, List.map_append]; rfl
section
variable {w : World} {hb : Heap} {os : OsState} {n : Nat} {H : PH} {env : Env} {ρ : Rho}
-- comprehensions' free names
theorem lookup_map_val {f : PySem.Str → NameKind → NameKind} : ∀ (l : List (PySem.Str × NameKind)) {x : PySem.Str} {k : NameKind}, l.lookup x = some k → (l.map fun (n, k) => (n, f n k)).lookup x = some (f x k)
  | [], x, k, h => nomatch h
  | (n, k₀) :: l, x, k, h => by
    rw [List.lookup_cons] at h
    show List.lookup x ((n, f n k₀) :: _) = _
    rw [List.lookup_cons]
    by_cases hb : (x == n) = true
    · rw [hb] at h ⊢
      obtain rfl := Option.some.inj h
      obtain rfl := beq_iff_eq.mp hb
      rfl
    · have : (x == n) = false := by simpa using hb
      rw [this] at h ⊢
      exact lookup_map_val l h
theorem relabel_free {scope : Scope} (he : EnvOk env) {x : PySem.Str} (h : scope.names.lookup x = some .free) (hc : env.kindOf x = some .cell) : (relabel scope env).names.lookup x = some .cell := by
  have e : (relabel scope env).names = scope.names.map fun (n, k) => (n, if (k == .free && env.scope.kind == .function && env.kindOf n == some .cell) then .cell else k) := by
    show scope.names.map _ = _
    apply List.map_congr_left
    rintro ⟨n, k⟩ _
    dsimp only
    split <;> rfl
  rw [e, lookup_map_val (f := fun n k => if (k == .free && env.scope.kind == .function && env.kindOf n == some .cell) then .cell else k) _ h, he.kind, hc]
  rfl
theorem ckind {scope : Scope} {cl : List (PySem.Str × Addr)} {C : Addr} (he : EnvOk env) {x : PySem.Str} (h : scope.names.lookup x = some .free) (hc : env.kindOf x = some .cell) : (compEnvC scope cl C env).kindOf x = some .cell := relabel_free he h hc
theorem cval {scope : Scope} (he : EnvOk env) {x : PySem.Str} {p : PV} (h : scope.names.lookup x = some .free) (hc : env.kindOf x = some .cell) (hv : ρ x = some p) : compRho scope env ρ x = some p := by
  unfold compRho
  rw [if_pos (relabel_free he h hc)]; exact hv
theorem swaps_cell {value : Expr} {x : PySem.Str} {pos : Pos} {line : Nat} (h : env.kindOf x = some .cell) : swapsWith value (some (.Name x pos)) line env = pure false := by
  unfold swapsWith
  have : (env.kindOf x == some NameKind.local) = false := by rw [h]; rfl
  cases value <;> simp [this] <;> rfl
theorem swaps_local {elt : Expr} {gens : List Comprehension} {scope : Scope} {vpos : Pos} {x : PySem.Str} {pos : Pos} {line : Nat} (he : EnvOk env) (h : env.kindOf x = some .local) (hl : (pos.line == vpos.line) = true) (hn : (scope.names.any fun (n, k) => n == x && (k == .local || k == .cell)) = false) :
    swapsWith (.ListComp elt gens scope vpos) (some (.Name x pos)) line env = pure true := by
  unfold swapsWith Env.blockKind
  have : (env.kindOf x == some NameKind.local) = true := by rw [h]; rfl
  have e2 : (Expr.ListComp elt gens scope vpos).pos = vpos := rfl
  simp only [this, he.kind, e2, hl, hn]
  rfl
-- asks
noncomputable abbrev bead (L D : Nat → PySem.Str) (k : Nat) : PV := .tup [.str (L k), .str (D k), .int (k : Int)]
theorem lt_strs1 (B : Base w hb) {x y : PySem.Str} {Φ : PV → PH → Prop} (h : Φ (.bool (decide (x.cps.toList < y.cps.toList))) H) : WO w hb os n H [.str x, .str y] (two (compareOp .Lt)) Φ := cmp_sound B (op := .Lt) h
theorem askL_letter (B : Base w hb) {L D : Nat → PySem.Str} {S : List Nat} {y : PySem.Str} : KeyL w hb os (n + 2) H 177 (S.map (bead L D)) (.str y) (cL L S y.cps.toList) :=
  ⟨callee_fn (B.K 177 _ (by rfl)) rfl, fun mid p hp => by
    obtain ⟨s, hs, rfl⟩ := map_item hp
    exact spec_letter B (by show 2 < _; decide) (lt_strs1 B ⟨by rw [cL_at hs], PH.le.refl⟩)⟩
theorem askR_letter (B : Base w hb) {L D : Nat → PySem.Str} {S : List Nat} {y : PySem.Str} : KeyR w hb os (n + 2) H 177 (S.map (bead L D)) (.str y) (cR L S y.cps.toList) :=
  ⟨callee_fn (B.K 177 _ (by rfl)) rfl, fun mid p hp => by
    obtain ⟨s, hs, rfl⟩ := map_item hp
    exact spec_letter B (by show 2 < _; decide) (lt_strs1 B ⟨by rw [cR_at hs, Bool.not_not], PH.le.refl⟩)⟩
theorem askL_plain (B : Base w hb) {L : Nat → PySem.Str} {S : List Nat} {y : PySem.Str} : PlainL w hb os n H (S.map fun i => .str (L i)) (.str y) (cL L S y.cps.toList) := fun mid p hp => by
  obtain ⟨s, hs, rfl⟩ := map_item hp
  exact lt_strs1 B ⟨by rw [cL_at hs], PH.le.refl⟩
theorem askR_plain (B : Base w hb) {L : Nat → PySem.Str} {S : List Nat} {y : PySem.Str} : PlainR w hb os n H (S.map fun i => .str (L i)) (.str y) (cR L S y.cps.toList) := fun mid p hp => by
  obtain ⟨s, hs, rfl⟩ := map_item hp
  exact lt_strs1 B ⟨by rw [cR_at hs, Bool.not_not], PH.le.refl⟩
-- comparisons of data that is the same
theorem ne_same {p q : PV} {d : PyData} {m : Nat} {Φ : PV → PH → Prop} (hp : PD H p d) (hq : PD H q d) (hd : SD m d) (h : Φ (.bool false) H) (hm : m ≤ 64 := by decide) : WO w hb os (n + 1) H [p, q] (two (compareOp .NotEq)) Φ :=
  eq_data (.inr rfl) hp hq (hd.shaped hm) (hd.shaped hm) (by rw [if_neg (by decide), hd.refl]; exact h)
theorem eq_same {p q : PV} {d : PyData} {m : Nat} {Φ : PV → PH → Prop} (hp : PD H p d) (hq : PD H q d) (hd : SD m d) (h : Φ (.bool true) H) (hm : m ≤ 64 := by decide) : WO w hb os (n + 1) H [p, q] (two (compareOp .Eq)) Φ :=
  eq_data (.inl rfl) hp hq (hd.shaped hm) (hd.shaped hm) (by rw [if_pos rfl, hd.refl]; exact h)
noncomputable abbrev beadD (L D : Nat → PySem.Str) (k : Nat) : PyData := .tuple [.str (L k), .str (D k), .int (k : Int)]
theorem pd_bead {L D : Nat → PySem.Str} {k : Nat} : PD H (bead L D k) (beadD L D k) := .tup (.cons .str (.cons .str (.cons .int .nil)))
theorem sd_bead {L D : Nat → PySem.Str} (hL : ∀ k, PyData.strOk (L k) = true) (hD : ∀ k, PyData.strOk (D k) = true) {k : Nat} : SD 1 (beadD L D k) := SD.tup fun d hd => by
  rcases List.mem_cons.mp hd with rfl | hd
  · exact .str (hL k)
  · rcases List.mem_cons.mp hd with rfl | hd
    · exact .str (hD k)
    · rw [List.mem_singleton.mp hd]; exact .int
theorem pds_map {α : Type} {f : α → PV} {g : α → PyData} (h : ∀ x, PD H (f x) (g x)) (l : List α) : PDs H (l.map f) (l.map g) := PDs.map h l
theorem pd_list {α : Type} {f : α → PV} {g : α → PyData} {a : Addr} {l : List α} (e : H a = some (l.map f)) (h : ∀ x, PD H (f x) (g x)) : PD H (.ref a) (.list (l.map g)) := .ref e (pds_map h l)
theorem sd_map {α : Type} {g : α → PyData} {m : Nat} (h : ∀ x, SD m (g x)) (l : List α) : SD (m + 1) (.list (l.map g)) := SD.list fun d hd => by
  obtain ⟨x, _, rfl⟩ := List.mem_map.mp hd
  exact h x
end
end Mine
end

-- part V9
set_option linter.all false
noncomputable section
namespace Mine
open PySem PySem.W PySem.Calls PyProof.Rows
set_option Elab.async false
set_option maxRecDepth 100000
noncomputable abbrev typedPV (d : PySem.Str × PySem.Str) : PV := .tup [.str d.1, .str d.2]
noncomputable abbrev drawPV (L D : Nat → PySem.Str) (k : Nat) : PV := .tup [.str (D k), .str (L k)]
noncomputable abbrev ltrPV (L : Nat → PySem.Str) (k : Nat) : PV := .str (L k)
/-- the beads as drawn -/
structure Beads (H : PH) (ρ : Rho) (L D : Nat → PySem.Str) (ad al ab : Addr) : Prop where
  rd : ρ (S "drawn") = some (.ref ad)
  rl : ρ (S "letters") = some (.ref al)
  rb : ρ (S "beads") = some (.ref ab)
  hd : H ad = some ((List.range 8).map (drawPV L D))
  hl : H al = some ((List.range 8).map (ltrPV L))
  hb : H ab = some ((List.range 8).map (bead L D))
  oL : ∀ k, PyData.strOk (L k) = true
  oD : ∀ k, PyData.strOk (D k) = true
noncomputable abbrev lawB (k : Nat) : List Stmt := (bodyOf (st 22)).drop k
theorem len8 {f : Nat → PV} : ((List.range 8).map f).length < 2 ^ 62 := by rw [List.length_map, List.length_range]; decide
theorem range8_at {α : Type} {f : Nat → α} {k : Nat} (hk : k < 8) : ((List.range 8).map f)[k]? = some (f k) := by rw [List.getElem?_map, List.getElem?_range hk]; rfl
section
variable {w : World} {hb : Heap} {os : OsState} {n : Nat} {H : PH} {env : Env} {ρ : Rho}
set_option maxHeartbeats 2000000 in
theorem lawA1 (B : Base w hb) (he : EnvOk env) (kx : ∀ x, env.kindOf x = (scopeOf (st 22)).names.lookup x) (ap : CellsApart env) {a : Addr} {xs : Array (Int × Tok)} (hs : hb.IsList a (intItems xs)) (hsz : xs.size ≤ sizeLine) (hρ : ρ (S "script") = some (.ref a)) {Φ : Out → Rho → PH → Prop}
    (tail : ∀ ρ' H' ad (ds : List (PySem.Str × PySem.Str)), ds.length = 8 → (∀ d ∈ ds, Typed d.1 d.2) → ρ' (S "drawn") = some (.ref ad) → H' ad = some (ds.map typedPV) → WF w hb os (n + 12) env ρ' H' (execs (lawB 2) env) Φ) : WF w hb os (n + 12) env ρ H (execs (bodyOf (st 22)) env) Φ := by
  refine wf_consL ?_
  intro Ps
  refine @wf_assign _ _ _ _ _ _ _ _ _ _ _ _ he (.inr ⟨(kx _).trans (by rfl), ap⟩) ?_ (by rfl)
  refine we_listx ?_
  refine WTs.cons ?_
  refine we_intc ?_
  refine WTs.cons ?_
  refine we_intc ?_
  refine WTs.cons ?_
  refine we_intc ?_
  refine WTs.cons ?_
  refine we_intc ?_
  refine WTs.cons ?_
  refine we_intc ?_
  refine WTs.cons ?_
  refine we_intc ?_
  refine WTs.cons ?_
  refine we_intc ?_
  refine WTs.cons ?_
  refine we_intc ?_
  refine WTs.nil ?_
  refine ⟨show 8 ≤ sizeLine by decide, fun c1 hc1 => ?_⟩
  generalize eH1 : PH.set H c1 _ = H1
  have leH1 := le_new eH1 hc1
  have atH1 := at_new eH1
  refine wf_consL ?_
  intro Ps
  refine @wf_assign _ _ _ _ _ _ _ _ _ _ _ _ he (.inr ⟨(kx _).trans (by rfl), ap⟩) ?_ (swaps_cell ((kx _).trans (by rfl)))
  let Jv1 : Nat → List PV → PH → Prop := fun k ys H' => PH.le H1 H' ∧ ∃ ds : List (PySem.Str × PySem.Str), ds.length = k ∧ ys = ds.map typedPV ∧ ∀ d ∈ ds, Typed d.1 d.2
  refine we_comp he Jv1 (CompOk.of [S "bases", S "script"] (fun x hx => ?_) rfl (by kernel_rfl)) ?_
  · rcases List.mem_cons.mp hx with rfl | hx
    · exact (kx _).trans (by rfl)
    · rw [List.mem_singleton.mp hx]; exact (kx _).trans (by rfl)
  refine wi_range ?_
  refine we_callL ?_
  intro Ps
  refine we_builtin B he ((kx _).trans (by rfl)) (by rfl) (by rfl) (fun _ => .typ) ⟨_, .typ, callee_typ, ?_⟩
  refine WTs.cons ?_
  refine we_intc ?_
  refine WTs.nil (WKs.nil ⟨rfl, ?_⟩)
  refine wc_range1 ?_
  refine ⟨0, 8, rfl, by decide, by decide, by decide, by decide, (List.range 8).map fun i : Nat => PV.int (0 + (i : Int)), trivial, show 8 ≤ sizeLine by decide, ⟨PH.le.refl, [], rfl, rfl, fun d hd => nomatch hd⟩, ?_, ?_, ?_⟩
  · rintro k ys H' _; rfl
  · rintro k ys H' x hx ⟨hle, ds, hl, rfl, ht⟩ C he'
    obtain ⟨hk, rfl⟩ := rng_item hx
    refine wa_name he' (.inl ⟨rfl, List.mem_singleton.mpr rfl⟩) ?_
    refine comp_plain ?_
    have he0 := he
    have kx0 := kx
    have he := he'
    have kx := kxOf he'
    refine we_callL ?_
    intro Ps
    refine we_glob B he ((kx _).trans (by rfl)) (by rfl) ⟨_, .fn, callee_fn (B.K 163 _ (by rfl)) rfl, ?_⟩
    refine WTs.cons ?_
    refine we_binopL ?_
    intro Ps
    refine we_binopL ?_
    intro Ps
    refine we_indexL ?_
    intro Ps
    refine we_cell he (ckind he0 (by rfl) ((kx0 _).trans (by rfl))) (cval he0 (by rfl) ((kx0 _).trans (by rfl)) (by rfl)) ?_
    refine we_local he ((kx _).trans (by rfl)) (by first | rfl | assumption) ?_
    obtain ⟨b, hb1⟩ : ∃ b : Int, ([3014, 140, 245, 127096, 11058, 11, 8002, 113133] : List Int)[k]? = some b := ⟨_, List.getElem?_eq_getElem hk⟩
    refine ⟨([3014, 140, 245, 127096, 11058, 11, 8002, 113133] : List Int).map .int, k, .int b, hle _ _ atH1, by decide, seqIndex_nat hk, by rw [List.getElem?_map, hb1]; rfl, ?_⟩
    refine we_callL ?_
    intro Ps
    refine we_builtin B he ((kx _).trans (by rfl)) (by rfl) (by rfl) (fun _ => .blt) ⟨_, .blt, callee_blt, ?_⟩
    refine WTs.cons ?_
    refine we_slice_base ?_
    refine we_cell he (ckind he0 (by rfl) ((kx0 _).trans (by rfl))) (cval he0 (by rfl) ((kx0 _).trans (by rfl)) (by first | assumption | exact hρ)) ?_
    refine we_local he ((kx _).trans (by rfl)) (by first | rfl | assumption) ?_
    refine ⟨_, rfl, ?_⟩
    refine we_intc ⟨_, rfl, ?_⟩
    refine ⟨(fun e => nomatch e), a, xs, rfl, hs, hsz, fun c hc => ?_⟩
    rw [pick_map]
    generalize eH2 : PH.set H' c _ = H2
    have leH2 := le_new eH2 hc
    have atH2 := at_new eH2
    refine WTs.nil (WKs.nil ⟨rfl, ?_⟩)
    refine wc_sum atH2 ?_
    refine we_intc ?_
    refine ⟨by decide, ?_⟩
    refine WTs.nil (WKs.nil ⟨rfl, ?_⟩)
    refine spec_typed B fun s m hty => ?_
    refine ⟨hle.trans leH2, ds ++ [(s, m)], by rw [List.length_append, hl]; rfl, by rw [List.map_append]; rfl, fun d hd => ?_⟩
    rcases List.mem_append.mp hd with hd | hd
    · exact ht d hd
    · rw [List.mem_singleton.mp hd]; exact hty
  · rintro ys H' ⟨hle, ds, hl, rfl, ht⟩ c hc
    exact tail _ _ c ds (by simpa using hl) ht rfl PH.set_self
set_option maxHeartbeats 2000000 in
theorem lawA2 (B : Base w hb) (he : EnvOk env) (kx : ∀ x, env.kindOf x = (scopeOf (st 22)).names.lookup x) (ap : CellsApart env) {ad : Addr} {ds : List (PySem.Str × PySem.Str)} (hl : ds.length = 8) (ht : ∀ d ∈ ds, Typed d.1 d.2) (r1 : ρ (S "drawn") = some (.ref ad)) (h1 : H ad = some (ds.map typedPV)) {Φ : Out → Rho → PH → Prop}
    (tail : ∀ ρ' H' L D ad al ab, Beads H' ρ' L D ad al ab → WF w hb os (n + 12) env ρ' H' (execs (lawB 5) env) Φ) : WF w hb os (n + 12) env ρ H (execs (lawB 2) env) Φ := by
  refine wf_consL ?_
  intro Ps
  refine @wf_assign _ _ _ _ _ _ _ _ _ _ _ _ he (.inr ⟨(kx _).trans (by rfl), ap⟩) ?_ (swaps_cell ((kx _).trans (by rfl)))
  let Jv2 : Nat → List PV → PH → Prop := fun k ys H' => H' = H ∧ ys = (ds.take k).map fun d => .str d.2
  refine we_comp he Jv2 (CompOk.of [] (fun x hx => nomatch hx) rfl (by kernel_rfl)) ?_
  refine wi_list ?_
  refine we_cell he ((kx _).trans (by rfl)) (by first | rfl | assumption) ?_
  refine ⟨ad, _, rfl, h1, ds.map typedPV, trivial, by rw [List.length_map, hl]; decide, ⟨rfl, rfl⟩, ?_, ?_, ?_⟩
  · rintro k ys H' ⟨rfl, _⟩; exact h1
  · rintro k ys H' x hx ⟨rfl, rfl⟩ C he'
    obtain ⟨d, hd, rfl⟩ := map_item hx
    refine wa_two he' (fun _ m => by rw [List.mem_singleton.mp m]; exact List.mem_cons_self) (.inl ⟨rfl, List.mem_singleton.mpr rfl⟩) (.inl ⟨rfl, List.mem_singleton.mpr rfl⟩) ?_
    refine comp_plain ?_
    have he := he'
    have kx := kxOf he'
    refine we_callL ?_
    intro Ps
    refine we_glob B he ((kx _).trans (by rfl)) (by rfl) ⟨_, .fn, callee_fn (B.K 170 _ (by rfl)) rfl, ?_⟩
    refine WTs.cons ?_
    refine we_local he ((kx _).trans (by rfl)) (by first | rfl | assumption) ?_
    refine WTs.nil (WKs.nil ⟨rfl, ?_⟩)
    refine spec_prepared B (ht d (List.mem_of_getElem? hd)) ⟨rfl, ?_⟩
    exact (take_map_succ _ hd).symm
  rintro ys H' ⟨rfl, rfl⟩ al hal
  rw [List.length_map, List.take_length]
  generalize eH1 : PH.set H' al _ = H1
  have leH1 := le_new eH1 hal
  have atH1 := at_new eH1
  refine wf_consL ?_
  intro Ps
  refine wf_if ?_
  refine wb_cmp1 ?_
  refine we_cell he ((kx _).trans (by rfl)) (by first | rfl | assumption) ?_
  let Jv3 : Nat → List PV → PH → Prop := fun k ys H' => H' = H1 ∧ ys = (ds.take k).map fun d => .str d.2
  refine we_comp he Jv3 (CompOk.of [] (fun x hx => nomatch hx) rfl (by kernel_rfl)) ?_
  refine wi_list ?_
  refine we_cell he ((kx _).trans (by rfl)) (by first | rfl | assumption) ?_
  refine ⟨ad, _, rfl, leH1 _ _ h1, ds.map typedPV, trivial, by rw [List.length_map, hl]; decide, ⟨rfl, rfl⟩, ?_, ?_, ?_⟩
  · rintro k ys H' ⟨rfl, _⟩; exact leH1 _ _ h1
  · rintro k ys H' x hx ⟨rfl, rfl⟩ C he'
    obtain ⟨d, hd, rfl⟩ := map_item hx
    refine wa_two he' (fun _ m => by rw [List.mem_singleton.mp m]; exact List.mem_cons_self) (.inl ⟨rfl, List.mem_singleton.mpr rfl⟩) (.inl ⟨rfl, List.mem_singleton.mpr rfl⟩) ?_
    refine comp_plain ?_
    have he := he'
    have kx := kxOf he'
    refine we_local he ((kx _).trans (by rfl)) (by first | rfl | assumption) ?_
    exact ⟨rfl, (take_map_succ _ hd).symm⟩
  rintro ys H2 ⟨rfl, rfl⟩ c2 hc2
  rw [List.length_map, List.take_length]
  generalize eH3 : PH.set H2 c2 _ = H3
  have leH3 := le_new eH3 hc2
  have atH3 := at_new eH3
  refine ne_same (pd_list (g := fun d => .str d.2) (leH3 _ _ atH1) fun x => .str) (pd_list (g := fun d => .str d.2) atH3 fun x => .str) (m := 1) (SD.list fun d hd => ?_) ?_
  · obtain ⟨x, hx, rfl⟩ := List.mem_map.mp hd
    exact .str (ht x hx).ok.2
  refine ⟨false, rfl, ?_⟩
  rw [if_neg Bool.false_ne_true]
  refine wf_nil ?_
  have hds := list_range_eq hl (PySem.Str.empty, PySem.Str.empty)
  have hL : ∀ k, PyData.strOk (ds.getD k (PySem.Str.empty, PySem.Str.empty)).1 = true ∧ PyData.strOk (ds.getD k (PySem.Str.empty, PySem.Str.empty)).2 = true := fun k => by
    by_cases hk : k < ds.length
    · have : ds.getD k (PySem.Str.empty, PySem.Str.empty) = ds[k] := by simp [hk]
      rw [this]
      exact (ht _ (List.getElem_mem hk)).ok
    · have : ds.getD k (PySem.Str.empty, PySem.Str.empty) = (PySem.Str.empty, PySem.Str.empty) := by simp [Nat.le_of_not_lt hk]
      rw [this]
      exact ⟨by decide +kernel, by decide +kernel⟩
  generalize hf : (fun i => ds.getD i (PySem.Str.empty, PySem.Str.empty)) = f at hds
  have hL : ∀ k, PyData.strOk (f k).1 = true ∧ PyData.strOk (f k).2 = true := fun k => by rw [← hf]; exact hL k
  have k1 : H3 ad = some ((List.range 8).map (drawPV (fun i => (f i).2) fun i => (f i).1)) := by
    rw [leH3 _ _ (leH1 _ _ h1), hds, List.map_map]; rfl
  have k2 : H3 al = some ((List.range 8).map (ltrPV fun i => (f i).2)) := by
    rw [leH3 _ _ atH1, hds, List.map_map]; rfl
  refine wf_consL ?_
  intro Ps
  refine @wf_assign _ _ _ _ _ _ _ _ _ _ _ _ he (.inr ⟨(kx _).trans (by rfl), ap⟩) ?_ (swaps_cell ((kx _).trans (by rfl)))
  let Jv4 : Nat → List PV → PH → Prop := fun k ys H' => H' = H3 ∧ ys = (List.range k).map (bead (fun i => (f i).2) fun i => (f i).1)
  refine we_comp he Jv4 (CompOk.of [S "letters", S "drawn"] (fun x hx => ?_) rfl (by kernel_rfl)) ?_
  · rcases List.mem_cons.mp hx with rfl | hx
    · exact (kx _).trans (by rfl)
    · rw [List.mem_singleton.mp hx]; exact (kx _).trans (by rfl)
  refine wi_range ?_
  refine we_callL ?_
  intro Ps
  refine we_builtin B he ((kx _).trans (by rfl)) (by rfl) (by rfl) (fun _ => .typ) ⟨_, .typ, callee_typ, ?_⟩
  refine WTs.cons ?_
  refine we_intc ?_
  refine WTs.nil (WKs.nil ⟨rfl, ?_⟩)
  refine wc_range1 ?_
  refine ⟨0, 8, rfl, by decide, by decide, by decide, by decide, (List.range 8).map fun i : Nat => PV.int (0 + (i : Int)), trivial, show 8 ≤ sizeLine by decide, ⟨rfl, rfl⟩, ?_, ?_, ?_⟩
  · rintro k ys H' _; rfl
  · rintro k ys H' x hx ⟨rfl, rfl⟩ C he'
    obtain ⟨hk, rfl⟩ := rng_item hx
    refine wa_name he' (.inl ⟨rfl, List.mem_singleton.mpr rfl⟩) ?_
    refine comp_plain ?_
    have he0 := he
    have kx0 := kx
    have he := he'
    have kx := kxOf he'
    refine we_tuplex ?_
    refine WTs.cons ?_
    refine we_indexL ?_
    intro Ps
    refine we_cell he (ckind he0 (by rfl) ((kx0 _).trans (by rfl))) (cval he0 (by rfl) ((kx0 _).trans (by rfl)) (by rfl)) ?_
    refine we_local he ((kx _).trans (by rfl)) (by first | rfl | assumption) ?_
    refine ⟨_, k, _, k2, len8, seqIndex_nat hk, range8_at hk, ?_⟩
    refine WTs.cons ?_
    refine we_indexL ?_
    intro Ps
    refine we_indexL ?_
    intro Ps
    refine we_cell he (ckind he0 (by rfl) ((kx0 _).trans (by rfl))) (cval he0 (by rfl) ((kx0 _).trans (by rfl)) (by first | assumption | exact r1)) ?_
    refine we_local he ((kx _).trans (by rfl)) (by first | rfl | assumption) ?_
    refine ⟨_, k, _, k1, len8, seqIndex_nat hk, range8_at hk, ?_⟩
    refine we_intc ?_
    refine ⟨0, _, (by show (2 : Nat) < _; decide), rfl, rfl, ?_⟩
    refine WTs.cons ?_
    refine we_local he ((kx _).trans (by rfl)) (by first | rfl | assumption) ?_
    refine WTs.nil ?_
    exact ⟨show 3 ≤ sizeLine by decide, rfl, (range_map_succ _ _).symm⟩
  rintro ys H' ⟨rfl, rfl⟩ ab hab
  generalize eH4 : PH.set H' ab _ = H4
  have leH4 := le_new eH4 hab
  have atH4 := at_new eH4
  exact tail _ _ _ _ ad al ab ⟨r1, rfl, rfl, leH4 _ _ k1, leH4 _ _ k2, atH4, fun k => (hL k).2, fun k => (hL k).1⟩
end
end Mine
end

-- part V10
set_option linter.all false
noncomputable section
namespace Mine
open PySem PySem.W PySem.Calls PyProof.Rows
set_option Elab.async false
set_option maxRecDepth 100000
theorem insAt_map (f : Nat → PV) {S : List Nat} {r j : Nat} : insAt (S.map f) r (f j) = (S.take r ++ j :: S.drop r).map f := (ins_map f S r j).symm
theorem set_ne {H : PH} {a c : Addr} {l m : List PV} (h : a ≠ c) (e : H a = some l) : (H.set c m) a = some l := by unfold PH.set; rw [if_neg h]; exact e
theorem ne_new {H : PH} {a c : Addr} {l : List PV} (e : H a = some l) (h : H c = Option.none) : a ≠ c := fun x => by rw [x, h] at e; cases e
section
variable {w : World} {hb : Heap} {os : OsState} {n : Nat} {H : PH} {env : Env} {ρ : Rho} {L D : Nat → PySem.Str} {ad al ab : Addr}
theorem Beads.le {H' : PH} (b : Beads H ρ L D ad al ab) (h : PH.le H H') : Beads H' ρ L D ad al ab := ⟨b.rd, b.rl, b.rb, h _ _ b.hd, h _ _ b.hl, h _ _ b.hb, b.oL, b.oD⟩
/-- lists that a list under way is none of -/
structure Off (c ad al ab : Addr) : Prop where
  d : ad ≠ c
  l : al ≠ c
  b : ab ≠ c
theorem Beads.off (b : Beads H ρ L D ad al ab) {c : Addr} (h : H c = Option.none) : Off c ad al ab := ⟨ne_new b.hd h, ne_new b.hl h, ne_new b.hb h⟩
theorem Beads.set (b : Beads H ρ L D ad al ab) {c : Addr} (h : Off c ad al ab) {l : List PV} : Beads (H.set c l) ρ L D ad al ab := ⟨b.rd, b.rl, b.rb, set_ne h.d b.hd, set_ne h.l b.hl, set_ne h.b b.hb, b.oL, b.oD⟩
theorem swapped_none {x y : PySem.Str} {px py tpos p p1 p2 : Pos} {k k2 : Nat} (he : EnvOk env) (hx : env.kindOf x = some .cell) (hy : env.kindOf y = some .local) (hl : (py.line == px.line) = true) :
    swappedStores [.Tuple [.Name x px, .Name y py] k tpos] (.Tuple [.List [] p1, .List [] p2] k2 p) env = pure none := by
  unfold swappedStores Env.blockKind
  have hl : py.line = px.line := by simpa using hl
  have e1 : ((Expr.Name x px).pos.line) = px.line := rfl
  simp [hx, hy, hl, he.kind, ScopeKind.isAnnotationScope, e1, List.filterMap_cons]
theorem swapped_some {x y : PySem.Str} {px py tpos p p1 p2 : Pos} {k k2 : Nat} (he : EnvOk env) (hx : env.kindOf x = some .local) (hy : env.kindOf y = some .local) (hl : (py.line == px.line) = true) (hyx : (y == x) = false) :
    swappedStores [.Tuple [.Name x px, .Name y py] k tpos] (.Tuple [.List [] p1, .List [] p2] k2 p) env = pure (some [x, y]) := by
  unfold swappedStores Env.blockKind
  have hl : py.line = px.line := by simpa using hl
  have e1 : ((Expr.Name x px).pos.line) = px.line := rfl
  have f1 : foldedForSure 8 (.List [] p1) = false := rfl
  have f2 : constantsAlone 8 (.List [] p1) = false := rfl
  simp [hx, hy, hl, he.kind, ScopeKind.isAnnotationScope, e1, List.filterMap_cons, List.eraseDups_cons, hyx, f1, f2]
set_option maxHeartbeats 2000000 in
theorem lawB1 (B : Base w hb) (he : EnvOk env) (kx : ∀ x, env.kindOf x = (scopeOf (st 22)).names.lookup x) (ap : CellsApart env) (bd : Beads H ρ L D ad al ab) {Φ : Out → Rho → PH → Prop}
    (tail : ∀ ρ' H' ar abk (T T' : List Nat), Beads H' ρ' L D ad al ab → ρ' (S "row") = some (.ref ar) → ρ' (S "back") = some (.ref abk) → H' ar = some (T.map (bead L D)) → H' abk = some (T'.map (bead L D)) → T.Pairwise (R (Ld L)) → T'.Pairwise (R (Ld L)) → (∀ x, x ∈ T ↔ x < 8) → (∀ x, x ∈ T' ↔ x < 8) →
      WF w hb os (n + 12) env ρ' H' (execs (lawB 7) env) Φ) : WF w hb os (n + 12) env ρ H (execs (lawB 5) env) Φ := by
  refine wf_consL ?_
  intro Ps
  refine wf_two he (.inr ⟨(kx _).trans (by rfl), ap⟩) (.inl ((kx _).trans (by rfl))) ?_ rfl (swapped_none he ((kx _).trans (by rfl)) ((kx _).trans (by rfl)) (by rfl))
  refine we_tuplex ?_
  refine WTs.cons ?_
  refine we_listx ?_
  refine WTs.nil ?_
  refine ⟨Nat.zero_le _, fun ar har => ?_⟩
  have o1 := bd.off har
  generalize eH1 : PH.set H ar _ = H1
  have leH1 := le_new eH1 har
  have atH1 := at_new eH1
  have bd := bd.le leH1
  refine WTs.cons ?_
  refine we_listx ?_
  refine WTs.nil ?_
  refine ⟨Nat.zero_le _, fun abk habk => ?_⟩
  have o2 := bd.off habk
  have nab := ne_new atH1 habk
  generalize eH2 : PH.set H1 abk _ = H2
  have leH2 := le_new eH2 habk
  have atH2 := at_new eH2
  have bd := bd.le leH2
  refine WTs.nil ?_
  refine ⟨show 2 ≤ sizeLine by decide, _, _, rfl, ?_⟩
  have f1 := leH2 _ _ atH1
  refine wf_consL ?_
  intro Ps
  let Jv1 : Nat → Rho → PH → Prop := fun k ρ' H' => ∃ S S' : List Nat, Beads H' ρ' L D ad al ab ∧ ρ' (Mine.S "row") = some (.ref ar) ∧ ρ' (Mine.S "back") = some (.ref abk) ∧ H' ar = some (S.map (bead L D)) ∧ H' abk = some (S'.map (bead L D)) ∧ S.Pairwise (R (Ld L)) ∧ S'.Pairwise (R (Ld L)) ∧
      (∀ x, x ∈ S ↔ x < k) ∧ (∀ x, x ∈ S' ↔ 8 - k ≤ x ∧ x < 8) ∧ S.length = k ∧ S'.length = k ∧ k ≤ 8
  refine wf_for Jv1 ?_
  refine wi_range ?_
  refine we_callL ?_
  intro Ps
  refine we_builtin B he ((kx _).trans (by rfl)) (by rfl) (by rfl) (fun _ => .typ) ⟨_, .typ, callee_typ, ?_⟩
  refine WTs.cons ?_
  refine we_intc ?_
  refine WTs.nil (WKs.nil ⟨rfl, ?_⟩)
  refine wc_range1 ?_
  refine ⟨0, 8, rfl, by decide, by decide, by decide, by decide, (List.range 8).map fun i : Nat => PV.int (0 + (i : Int)), trivial, ⟨[], [], ⟨bd.rd, bd.rl, bd.rb, bd.hd, bd.hl, bd.hb, bd.oL, bd.oD⟩, rfl, rfl, f1, atH2, .nil, .nil, fun x => ⟨(fun h => nomatch h), fun h => (Nat.not_lt_zero x h).elim⟩, fun x => ⟨(fun h => nomatch h), fun h => by omega⟩, rfl, rfl, Nat.zero_le _⟩, ?_, ?_, ?_⟩
  · rintro k ρ' H' _; rfl
  · rintro k ρ' H' x hx ⟨S1, S2, bd, r1, r2, h1, h2, p1, p2, m1, m2, l1, l2, k8⟩
    obtain ⟨hk, rfl⟩ := rng_item hx
    refine wa_name he (CanStore.x (.inr ⟨(kx _).trans (by rfl), ap⟩)) ?_
    have rb := bd.rb
    refine wf_consL ?_
    intro Ps
    refine wf_if ?_
    refine wb_cmpL B ?_
    intro Ps
    refine we_callL ?_
    intro Ps
    refine we_glob B he ((kx _).trans (by rfl)) (by rfl) ⟨_, .fn, callee_fn (B.K 23 _ (by rfl)) rfl, ?_⟩
    refine WTs.cons ?_
    refine we_cell he ((kx _).trans (by rfl)) (by first | rfl | assumption) ?_
    refine WTs.cons ?_
    refine we_indexL ?_
    intro Ps
    refine we_cell he ((kx _).trans (by rfl)) (by first | rfl | assumption) ?_
    refine we_cell he ((kx _).trans (by rfl)) (by first | rfl | assumption) ?_
    refine ⟨_, k, _, bd.hb, len8, seqIndex_nat hk, range8_at hk, ?_⟩
    refine WTs.nil ?_
    refine WKs.cons (WT.stand ?_)
    refine we_glob B he ((kx _).trans (by rfl)) (by rfl) ?_
    refine WKs.nil ⟨rfl, ?_⟩
    refine insR_P2K B (c := cR L S1 (Ld L k)) h1 (by rw [List.length_map, l1]; exact Nat.le_trans k8 (by decide)) (callee_fn (B.K 177 _ (by rfl)) rfl) (spec_letter B (by show 2 < _; decide) ⟨PH.le.refl, askR_letter B⟩) (fun i j hij _ hc => cR_mono p1 hij hc) fun r hr => ?_
    rw [List.length_map] at hr
    have q1 := insR_sorted p1 (fun s hs => (m1 s).mp hs) hr
    rw [insAt_map (bead L D)]
    refine we_nonec ?_
    refine ⟨false, rfl, ?_⟩
    rw [if_neg Bool.false_ne_true]
    refine wf_nil ?_
    have bd2 := bd.set (l := (S1.take r ++ k :: S1.drop r).map (bead L D)) o1
    have h2' := set_ne (m := (S1.take r ++ k :: S1.drop r).map (bead L D)) nab.symm h2
    have h1' : (H'.set ar ((S1.take r ++ k :: S1.drop r).map (bead L D))) ar = some _ := PH.set_self
    generalize H'.set ar ((S1.take r ++ k :: S1.drop r).map (bead L D)) = H3 at bd2 h2' h1' ⊢
    have hk7 : 7 - k < 8 := by omega
    refine wf_consL ?_
    intro Ps
    refine wf_if ?_
    refine wb_cmpL B ?_
    intro Ps
    refine we_callL ?_
    intro Ps
    refine we_glob B he ((kx _).trans (by rfl)) (by rfl) ⟨_, .fn, callee_fn (B.K 41 _ (by rfl)) rfl, ?_⟩
    refine WTs.cons ?_
    refine we_local he ((kx _).trans (by rfl)) (by first | rfl | assumption) ?_
    refine WTs.cons ?_
    refine we_indexL ?_
    intro Ps
    refine we_cell he ((kx _).trans (by rfl)) (by first | rfl | assumption) ?_
    refine we_binopL ?_
    intro Ps
    refine we_intc ?_
    refine we_cell he ((kx _).trans (by rfl)) (by first | rfl | assumption) ?_
    refine ⟨_, 7 - k, _, bd2.hb, len8, seqIndex_at (by omega) hk7, range8_at hk7, ?_⟩
    refine WTs.nil ?_
    refine WKs.cons (WT.stand ?_)
    refine we_glob B he ((kx _).trans (by rfl)) (by rfl) ?_
    refine WKs.nil ⟨rfl, ?_⟩
    refine insL_P2K B (c := cL L S2 (Ld L (7 - k))) h2' (by rw [List.length_map, l2]; exact Nat.le_trans k8 (by decide)) (callee_fn (B.K 177 _ (by rfl)) rfl) (spec_letter B (by show 2 < _; decide) ⟨PH.le.refl, askL_letter B⟩) (fun i j hij _ hc => cL_mono p2 hij hc) fun r2 hr2 => ?_
    rw [List.length_map] at hr2
    have q2 := insL_sorted p2 (fun s hs => by have := (m2 s).mp hs; omega) hr2
    rw [insAt_map (bead L D)]
    refine we_nonec ?_
    refine ⟨false, rfl, ?_⟩
    rw [if_neg Bool.false_ne_true]
    refine wf_nil ?_
    refine wf_nil ?_
    have bd3 := bd2.set (l := (S2.take r2 ++ (7 - k) :: S2.drop r2).map (bead L D)) o2
    refine ⟨_, _, ⟨bd3.rd, bd3.rl, bd3.rb, bd3.hd, bd3.hl, bd3.hb, bd3.oL, bd3.oD⟩, r1, ‹_›, set_ne nab h1', PH.set_self, q1, q2, fun x => ?_, fun x => ?_, ?_, ?_, hk⟩
    · rw [ins_mem, m1]; omega
    · rw [ins_mem, m2]; omega
    · rw [ins_length hr.2.1, l1]
    · rw [ins_length hr2.2.1, l2]
  · rintro ρ' H' ⟨S1, S2, bd, r1, r2, h1, h2, p1, p2, m1, m2, l1, l2, k8⟩
    refine wf_nil ?_
    exact tail ρ' H' ar abk S1 S2 bd r1 r2 h1 h2 p1 p2 m1 fun x => by have := m2 x; rw [List.length_map, List.length_range] at this; rw [this]; omega
end
end Mine
end

-- part V11
set_option linter.all false
noncomputable section
namespace Mine
open PySem PySem.W PySem.Calls PyProof.Rows
set_option Elab.async false
set_option maxRecDepth 100000
section
variable {w : World} {hb : Heap} {os : OsState} {n : Nat} {H : PH} {env : Env} {ρ : Rho} {L D : Nat → PySem.Str} {ad al ab : Addr}
/-- the beads in order -/
structure Row (H : PH) (ρ : Rho) (L D : Nat → PySem.Str) (ar ak : Addr) (ord : List Nat) : Prop where
  rr : ρ (S "row") = some (.ref ar)
  rk : ρ (S "ranked") = some (.ref ak)
  hr : H ar = some (ord.map (bead L D))
  hk : H ak = some (ord.map (ltrPV L))
  ok : OrdOk L ord
theorem Row.le {H' : PH} {ar ak : Addr} {ord : List Nat} (b : Row H ρ L D ar ak ord) (h : PH.le H H') : Row H' ρ L D ar ak ord := ⟨b.rr, b.rk, h _ _ b.hr, h _ _ b.hk, b.ok⟩
set_option maxHeartbeats 2000000 in
theorem lawC1 (B : Base w hb) (he : EnvOk env) (kx : ∀ x, env.kindOf x = (scopeOf (st 22)).names.lookup x) (ap : CellsApart env) (bd : Beads H ρ L D ad al ab) {ar abk : Addr} {T T' : List Nat} (r1 : ρ (S "row") = some (.ref ar)) (r2 : ρ (S "back") = some (.ref abk)) (h1 : H ar = some (T.map (bead L D))) (h2 : H abk = some (T'.map (bead L D)))
    (p1 : T.Pairwise (R (Ld L))) (p2 : T'.Pairwise (R (Ld L))) (m1 : ∀ x, x ∈ T ↔ x < 8) (m2 : ∀ x, x ∈ T' ↔ x < 8) {Φ : Out → Rho → PH → Prop}
    (tail : ∀ ρ' H' ar ak ord, Beads H' ρ' L D ad al ab → Row H' ρ' L D ar ak ord → WF w hb os (n + 12) env ρ' H' (execs (lawB 10) env) Φ) : WF w hb os (n + 12) env ρ H (execs (lawB 7) env) Φ := by
  have rd := bd.rd
  have rb := bd.rb
  have hdl := bd.hd
  refine wf_consL ?_
  intro Ps
  refine wf_assign_compx he ((kx _).trans (by rfl)) (CompOk.of [] (fun x hx => nomatch hx) rfl (by kernel_rfl)) ?_ (swaps_local he ((kx _).trans (by rfl)) (by rfl) (by kernel_rfl))
  refine wi_list ?_
  refine we_sorted (X := L) (N := 8) (by decide) (by decide) ?_
  refine we_builtin B he ((kx _).trans (by rfl)) (by rfl) (by rfl) (fun _ => .blt) ⟨rfl, ?_⟩
  let Jv1 : Nat → List PV → PH → Prop := fun k ys H' => H' = H ∧ ys = (List.range k).map (pairPV L)
  refine we_comp he Jv1 (CompOk.of [Mine.S "drawn"] (fun x hx => ?_) rfl (by kernel_rfl)) ?_
  · rw [List.mem_singleton.mp hx]; exact (kx _).trans (by rfl)
  refine wi_range ?_
  refine we_callL ?_
  intro Ps
  refine we_builtin B he ((kx _).trans (by rfl)) (by rfl) (by rfl) (fun _ => .typ) ⟨_, .typ, callee_typ, ?_⟩
  refine WTs.cons ?_
  refine we_intc ?_
  refine WTs.nil (WKs.nil ⟨rfl, ?_⟩)
  refine wc_range1 ?_
  refine ⟨0, 8, rfl, by decide, by decide, by decide, by decide, (List.range 8).map fun i : Nat => PV.int (0 + (i : Int)), trivial, show 8 ≤ sizeLine by decide, ⟨rfl, rfl⟩, ?_, ?_, ?_⟩
  · rintro k ys H' _; rfl
  · rintro k ys H' x hx ⟨rfl, rfl⟩ C he'
    obtain ⟨hk, rfl⟩ := rng_item hx
    refine wa_name he' (.inl ⟨rfl, List.mem_singleton.mpr rfl⟩) ?_
    refine comp_plain ?_
    have he0 := he
    have kx0 := kx
    have he := he'
    have kx := kxOf he'
    refine we_tuplex ?_
    refine WTs.cons ?_
    refine we_indexL ?_
    intro Ps
    refine we_indexL ?_
    intro Ps
    refine we_cell he (ckind he0 (by rfl) ((kx0 _).trans (by rfl))) (cval he0 (by rfl) ((kx0 _).trans (by rfl)) (by first | assumption | exact rd)) ?_
    refine we_local he ((kx _).trans (by rfl)) (by first | rfl | assumption) ?_
    refine ⟨_, k, _, hdl, len8, seqIndex_nat hk, range8_at hk, ?_⟩
    refine we_intc ?_
    refine ⟨1, _, (by show (2 : Nat) < _; decide), rfl, rfl, ?_⟩
    refine WTs.cons ?_
    refine we_local he ((kx _).trans (by rfl)) (by first | rfl | assumption) ?_
    refine WTs.nil ?_
    exact ⟨show 2 ≤ sizeLine by decide, rfl, (range_map_succ _ _).symm⟩
  rintro ys H' ⟨rfl, rfl⟩ c1 hc1
  rw [List.length_map, List.length_range]
  generalize eH1 : PH.set H' c1 _ = H1
  have leH1 := le_new eH1 hc1
  have atH1 := at_new eH1
  refine ⟨c1, rfl, atH1, fun ord hperm hup c2 hc2 => ?_⟩
  have ok : OrdOk L ord := ⟨hperm, hup⟩
  generalize eH2 : PH.set H1 c2 _ = H2
  have leH2 := le_new eH2 hc2
  have atH2 := at_new eH2
  have bd := (bd.le leH1).le leH2
  have h1 := leH2 _ _ (leH1 _ _ h1)
  have h2 := leH2 _ _ (leH1 _ _ h2)
  have hdl := bd.hd
  have hbl := bd.hb
  have len : ord.length = 8 := ok.len
  obtain rfl : T = ord := ok.is p1 m1
  obtain rfl : T' = T := ok.is p2 m2
  refine ⟨c2, _, rfl, atH2, fun k ys H' => H' = H2 ∧ ys = (T'.take k).map fun i : Nat => .int (i : Int), T'.map (pairPV L), trivial, by rw [List.length_map, len]; decide, ⟨rfl, rfl⟩, ?_, ?_, ?_⟩
  · rintro k ys H' ⟨rfl, _⟩; exact atH2
  · rintro k ys H' x hx ⟨rfl, rfl⟩ C he'
    obtain ⟨i, hi, rfl⟩ := map_item hx
    refine wa_two he' (fun _ m => by rw [List.mem_singleton.mp m]; exact List.mem_cons_self) (.inl ⟨rfl, List.mem_singleton.mpr rfl⟩) (.inl ⟨rfl, List.mem_singleton.mpr rfl⟩) ?_
    refine comp_plain ?_
    have he := he'
    have kx := kxOf he'
    refine we_local he ((kx _).trans (by rfl)) (by first | rfl | assumption) ?_
    exact ⟨rfl, (take_map_succ _ hi).symm⟩
  rintro ys H' ⟨rfl, rfl⟩ ao hao
  rw [List.length_map, List.take_length]
  generalize eH3 : PH.set H' ao _ = H3
  have leH3 := le_new eH3 hao
  have atH3 := at_new eH3
  have bd := bd.le leH3
  have h1 := leH3 _ _ h1
  have h2 := leH3 _ _ h2
  have hbl := bd.hb
  refine wf_consL ?_
  intro Ps
  have ordIt : ∀ {k : Nat} {x : PV}, (T'.map fun i : Nat => PV.int (i : Int))[k]? = some x → ∃ i, T'[k]? = some i ∧ x = .int (i : Int) ∧ i < 8 := fun {k x} h => by
    obtain ⟨i, hi, e⟩ := map_item h
    exact ⟨i, hi, e, ok.mem.mp (List.mem_of_getElem? hi)⟩
  refine wf_if ?_
  refine wb_bool ?_
  refine wb_cons ?_
  refine wb_cmp1 ?_
  refine we_cell he ((kx _).trans (by rfl)) (by first | rfl | assumption) ?_
  let Jv2 : Nat → List PV → PH → Prop := fun k ys H' => H' = H3 ∧ ys = (T'.take k).map (bead L D)
  refine we_comp he Jv2 (CompOk.of [Mine.S "beads"] (fun x hx => ?_) rfl (by kernel_rfl)) ?_
  · rw [List.mem_singleton.mp hx]; exact (kx _).trans (by rfl)
  refine wi_list ?_
  refine we_local he ((kx _).trans (by rfl)) (by first | rfl | assumption) ?_
  refine ⟨ao, _, rfl, atH3, T'.map fun i : Nat => PV.int (i : Int), trivial, by rw [List.length_map, len]; decide, ⟨rfl, rfl⟩, ?_, ?_, ?_⟩
  · rintro k ys H' ⟨rfl, _⟩; exact atH3
  · rintro k ys H' x hx ⟨rfl, rfl⟩ C he'
    obtain ⟨i, hi, rfl, hi8⟩ := ordIt hx
    refine wa_name he' (.inl ⟨rfl, List.mem_singleton.mpr rfl⟩) ?_
    refine comp_plain ?_
    have he0 := he
    have kx0 := kx
    have he := he'
    have kx := kxOf he'
    refine we_indexL ?_
    intro Ps
    refine we_cell he (ckind he0 (by rfl) ((kx0 _).trans (by rfl))) (cval he0 (by rfl) ((kx0 _).trans (by rfl)) (by first | assumption | exact rb)) ?_
    refine we_local he ((kx _).trans (by rfl)) (by first | rfl | assumption) ?_
    refine ⟨_, i, _, hbl, len8, seqIndex_nat hi8, range8_at hi8, ?_⟩
    exact ⟨rfl, (take_map_succ _ hi).symm⟩
  rintro ys H' ⟨rfl, rfl⟩ c5 hc5
  rw [List.length_map, List.take_length]
  generalize eH5 : PH.set H' c5 _ = H5
  have leH5 := le_new eH5 hc5
  have atH5 := at_new eH5
  have bd := bd.le leH5
  have h1 := leH5 _ _ h1
  have h2 := leH5 _ _ h2
  have hdl := bd.hd
  have hao := leH5 _ _ atH3
  have sd : SD 2 (.list (T'.map (beadD L D))) := sd_map (fun x => sd_bead bd.oL bd.oD) _
  refine ne_same (pd_list h1 fun x => pd_bead) (pd_list atH5 fun x => pd_bead) sd ?_
  refine ⟨false, rfl, ?_⟩
  refine wb_cons ?_
  refine wb_cmp1 ?_
  refine we_local he ((kx _).trans (by rfl)) (by first | rfl | assumption) ?_
  refine we_cell he ((kx _).trans (by rfl)) (by first | rfl | assumption) ?_
  refine ne_same (pd_list h2 fun x => pd_bead) (pd_list h1 fun x => pd_bead) sd ?_
  refine ⟨false, rfl, ?_⟩
  refine wb_nil ?_
  rw [if_neg (by decide)]
  refine wf_nil ?_
  refine wf_consL ?_
  intro Ps
  refine @wf_assign _ _ _ _ _ _ _ _ _ _ _ _ he (.inr ⟨(kx _).trans (by rfl), ap⟩) ?_ (swaps_cell ((kx _).trans (by rfl)))
  let Jv3 : Nat → List PV → PH → Prop := fun k ys H' => H' = H5 ∧ ys = (T'.take k).map (ltrPV L)
  refine we_comp he Jv3 (CompOk.of [Mine.S "drawn"] (fun x hx => ?_) rfl (by kernel_rfl)) ?_
  · rw [List.mem_singleton.mp hx]; exact (kx _).trans (by rfl)
  refine wi_list ?_
  refine we_local he ((kx _).trans (by rfl)) (by first | rfl | assumption) ?_
  refine ⟨ao, _, rfl, hao, T'.map fun i : Nat => PV.int (i : Int), trivial, by rw [List.length_map, len]; decide, ⟨rfl, rfl⟩, ?_, ?_, ?_⟩
  · rintro k ys H' ⟨rfl, _⟩; exact hao
  · rintro k ys H' x hx ⟨rfl, rfl⟩ C he'
    obtain ⟨i, hi, rfl, hi8⟩ := ordIt hx
    refine wa_name he' (.inl ⟨rfl, List.mem_singleton.mpr rfl⟩) ?_
    refine comp_plain ?_
    have he0 := he
    have kx0 := kx
    have he := he'
    have kx := kxOf he'
    refine we_indexL ?_
    intro Ps
    refine we_indexL ?_
    intro Ps
    refine we_cell he (ckind he0 (by rfl) ((kx0 _).trans (by rfl))) (cval he0 (by rfl) ((kx0 _).trans (by rfl)) (by first | assumption | exact rd)) ?_
    refine we_local he ((kx _).trans (by rfl)) (by first | rfl | assumption) ?_
    refine ⟨_, i, _, hdl, len8, seqIndex_nat hi8, range8_at hi8, ?_⟩
    refine we_intc ?_
    refine ⟨1, _, (by show (2 : Nat) < _; decide), rfl, rfl, ?_⟩
    exact ⟨rfl, (take_map_succ _ hi).symm⟩
  rintro ys H' ⟨rfl, rfl⟩ ak hak
  rw [List.length_map, List.take_length]
  generalize eH6 : PH.set H' ak _ = H6
  have leH6 := le_new eH6 hak
  have atH6 := at_new eH6
  have bd := bd.le leH6
  exact tail _ _ ar ak T' ⟨bd.rd, bd.rl, bd.rb, bd.hd, bd.hl, bd.hb, bd.oL, bd.oD⟩ ⟨r1, rfl, leH6 _ _ h1, atH6, ok⟩
end
end Mine
end

-- part V12
set_option linter.all false
noncomputable section
namespace Mine
open PySem PySem.W PySem.Calls PyProof.Rows
set_option Elab.async false
set_option maxRecDepth 100000
noncomputable def forBody : Stmt → List Stmt
  | .For _ _ body _ _ => body
  | _ => []
noncomputable abbrev lawFor (j : Nat) : List Stmt := forBody ((bodyOf (st 22)).getD j (.Pass default))
theorem Found.from {c : Nat → Bool} {n r lo : Nat} (f : Found c 0 n r) (h : lo ≤ r) : Found c lo n r := ⟨h, f.2.1, fun i _ h => f.2.2.1 i (Nat.zero_le _) h, f.2.2.2⟩
theorem first_of {α : Type} [DecidableEq α] {f : Nat → α} {k n : Nat} (hk : k < n) : ∃ i, i ≤ k ∧ f i = f k ∧ ∀ j, j < i → f j ≠ f k := by
  induction k using Nat.strongRecOn with
  | ind k ih =>
    by_cases h : ∃ j, j < k ∧ f j = f k
    · obtain ⟨j, h1, h2⟩ := h
      obtain ⟨i, a, b, c⟩ := ih j h1 (by omega)
      exact ⟨i, by omega, b.trans h2, fun u hu => by rw [← h2]; exact c u hu⟩
    · exact ⟨k, Nat.le_refl _, rfl, fun j hj e => h ⟨j, hj, e⟩⟩
section
variable {w : World} {hb : Heap} {os : OsState} {n : Nat} {H : PH} {env : Env} {ρ : Rho} {L D : Nat → PySem.Str} {ad al ab : Addr}
theorem binAdd {Φ : PV → PH → Prop} {a b c : Int} (h : a + b = c) (g : Φ (.int c) H) : BinR H Φ .Add (.int a) (.int b) := by subst h; exact g
theorem binSub {Φ : PV → PH → Prop} {a b c : Int} (h : a - b = c) (g : Φ (.int c) H) : BinR H Φ .Sub (.int a) (.int b) := by subst h; exact g
theorem neInt {Φ : PV → PH → Prop} {a b : Int} (h : a = b) (g : Φ (.bool false) H) : CmpR H Φ .NotEq (.int a) (.int b) := by
  subst h
  show Φ (.bool (a != a)) H
  rw [bne_self_eq_false]; exact g
theorem eqStr {Φ : PV → PH → Prop} {a b : PySem.Str} {c : Bool} (h : (a == b) = c) (g : Φ (.bool c) H) : CmpR H Φ .Eq (.str a) (.str b) := by subst h; exact g
set_option maxHeartbeats 4000000 in
theorem lawD1 (B : Base w hb) (he : EnvOk env) (kx : ∀ x, env.kindOf x = (scopeOf (st 22)).names.lookup x) (ap : CellsApart env) (bd : Beads H ρ L D ad al ab) {ar ak apl : Addr} {ord : List Nat} (rw_ : Row H ρ L D ar ak ord) {k p : Nat} (hk : k < 8) (rk : ρ (S "k") = some (.int (k : Int))) (hp : ord[p]? = some k) (rp : ρ (S "places") = some (.ref apl)) {Φ : Out → Rho → PH → Prop}
    (tail : ∀ ρ' H' left right, PH.le H H' → Beads H' ρ' L D ad al ab → Row H' ρ' L D ar ak ord → ρ' (S "k") = some (.int (k : Int)) → ρ' (S "places") = some (.ref apl) → ρ' (S "left") = some (.int ((left : Nat) : Int)) → ρ' (S "right") = some (.int ((right : Nat) : Int)) → ρ' (S "place") = some (.int (p : Int)) → ρ' (S "first") = some (.int ((left : Nat) : Int)) →
      Found (cL L ord (Ld L k)) 0 8 left → Found (cR L ord (Ld L k)) 0 8 right → WF w hb os (n + 12) env ρ' H' (execs ((lawFor 11).drop 4) env) Φ) : WF w hb os (n + 12) env ρ H (execs (lawFor 11) env) Φ := by
  have rl := bd.rl
  have rb := bd.rb
  have rr := rw_.rr
  have rkk := rw_.rk
  have ok := rw_.ok
  have len := ok.len
  obtain ⟨left, fl⟩ := found_exists (c := cL L ord (Ld L k)) 8 fun i j hij _ hc => cL_mono ok.up hij hc
  obtain ⟨right, fr⟩ := found_exists (c := cR L ord (Ld L k)) 8 fun i j hij _ hc => cR_mono ok.up hij hc
  obtain ⟨q1, q2, q3, q4, q5, q6⟩ := ok.place hk hp fl fr
  have hk1 : H ak = some ((ord.map L).map PV.str) := by rw [rw_.hk, List.map_map]; rfl
  refine wf_consL ?_
  intro Ps
  refine @wf_assign _ _ _ _ _ _ _ _ _ _ _ _ he (.inl ((kx _).trans (by rfl))) ?_ (by rfl)
  refine we_callL ?_
  intro Ps
  refine we_glob B he ((kx _).trans (by rfl)) (by rfl) ⟨_, .fn, callee_fn (B.K 92 _ (by rfl)) rfl, ?_⟩
  refine WTs.cons ?_
  refine we_cell he ((kx _).trans (by rfl)) (by first | rfl | assumption) ?_
  refine WTs.cons ?_
  refine we_index ?_
  refine we_cell he ((kx _).trans (by rfl)) (by first | rfl | assumption) ?_
  refine we_cell he ((kx _).trans (by rfl)) (by first | rfl | assumption) ?_
  refine ⟨_, k, _, bd.hl, len8, seqIndex_nat hk, range8_at hk, ?_⟩
  refine WTs.nil (WKs.nil ⟨rfl, ?_⟩)
  refine spec_indexOf B (xs := ord.map L) (i := left) hk1 q5 q6 ?_
  refine wf_consL ?_
  intro Ps
  refine @wf_assign _ _ _ _ _ _ _ _ _ _ _ _ he (.inl ((kx _).trans (by rfl))) ?_ (by rfl)
  refine we_binopL ?_
  intro Ps
  refine we_local he ((kx _).trans (by rfl)) (by first | rfl | assumption) ?_
  refine we_callL ?_
  intro Ps
  refine we_glob B he ((kx _).trans (by rfl)) (by rfl) ⟨_, .fn, callee_fn (B.K 78 _ (by rfl)) rfl, ?_⟩
  refine WTs.cons ?_
  refine we_slice ?_
  refine we_cell he ((kx _).trans (by rfl)) (by first | rfl | assumption) ?_
  refine we_cell he ((kx _).trans (by rfl)) (by first | rfl | assumption) ?_
  refine ⟨_, rfl, ?_⟩
  refine ⟨(fun e => nomatch e), al, _, rfl, bd.hl, by rw [List.length_map]; decide, fun c1 hc1 => ?_⟩
  rw [pick_upto]
  have e1 : ((List.range 8).map (ltrPV L)).take k = (((List.range 8).map L).take k).map PV.str := by rw [List.map_take, List.map_map]; rfl
  rw [e1]
  generalize eH1 : PH.set H c1 _ = H1
  have leH1 := le_new eH1 hc1
  have atH1 := at_new eH1
  have bd := bd.le leH1
  have rw_ := rw_.le leH1
  refine WTs.cons ?_
  refine we_index ?_
  refine we_cell he ((kx _).trans (by rfl)) (by first | rfl | assumption) ?_
  refine we_cell he ((kx _).trans (by rfl)) (by first | rfl | assumption) ?_
  refine ⟨_, k, _, bd.hl, len8, seqIndex_nat hk, range8_at hk, ?_⟩
  refine WTs.nil (WKs.nil ⟨rfl, ?_⟩)
  refine spec_countOf B atH1 (binAdd (c := (p : Int)) (by omega) ?_)
  refine wf_consL ?_
  intro Ps
  refine @wf_assign _ _ _ _ _ _ _ _ _ _ _ _ he (.inl ((kx _).trans (by rfl))) ?_ (by rfl)
  refine we_callL ?_
  intro Ps
  refine we_glob B he ((kx _).trans (by rfl)) (by rfl) ⟨_, .fn, callee_fn (B.K 50 _ (by rfl)) rfl, ?_⟩
  refine WTs.cons ?_
  refine we_cell he ((kx _).trans (by rfl)) (by first | rfl | assumption) ?_
  refine WTs.cons ?_
  refine we_index ?_
  refine we_cell he ((kx _).trans (by rfl)) (by first | rfl | assumption) ?_
  refine we_cell he ((kx _).trans (by rfl)) (by first | rfl | assumption) ?_
  refine ⟨_, k, _, bd.hl, len8, seqIndex_nat hk, range8_at hk, ?_⟩
  refine WTs.nil ?_
  refine WKs.cons (WT.stand ?_)
  refine we_glob B he ((kx _).trans (by rfl)) (by rfl) ?_
  refine WKs.nil ⟨rfl, ?_⟩
  refine bisL_P2K B (c := cL L ord (Ld L k)) rw_.hr (by rw [List.length_map, len]; decide) (askL_letter B) (fun i j hij _ hc => cL_mono ok.up hij hc) fun r hr => ?_
  rw [List.length_map, len] at hr
  obtain rfl : r = left := hr.uniq fl
  refine wf_consL ?_
  intro Ps
  refine @wf_assign _ _ _ _ _ _ _ _ _ _ _ _ he (.inl ((kx _).trans (by rfl))) ?_ (by rfl)
  refine we_callL ?_
  intro Ps
  refine we_glob B he ((kx _).trans (by rfl)) (by rfl) ⟨_, .fn, callee_fn (B.K 32 _ (by rfl)) rfl, ?_⟩
  refine WTs.cons ?_
  refine we_cell he ((kx _).trans (by rfl)) (by first | rfl | assumption) ?_
  refine WTs.cons ?_
  refine we_index ?_
  refine we_cell he ((kx _).trans (by rfl)) (by first | rfl | assumption) ?_
  refine we_cell he ((kx _).trans (by rfl)) (by first | rfl | assumption) ?_
  refine ⟨_, k, _, bd.hl, len8, seqIndex_nat hk, range8_at hk, ?_⟩
  refine WTs.cons ?_
  refine we_local he ((kx _).trans (by rfl)) (by first | rfl | assumption) ?_
  refine WTs.cons ?_
  refine we_intc ?_
  refine WTs.nil ?_
  refine WKs.cons (WT.stand ?_)
  refine we_glob B he ((kx _).trans (by rfl)) (by rfl) ?_
  refine WKs.nil ⟨rfl, ?_⟩
  refine bisR_P4K B (c := cR L ord (Ld L k)) (lo := r) (hi := 8) (.inr rfl) (by rw [List.length_map, len]; decide) (by have := hr.2.1; omega) rw_.hr (by rw [List.length_map, len]; decide) (askR_letter B) (fun i j hij _ hc => cR_mono ok.up hij hc) fun r2 hr2 => ?_
  obtain rfl : r2 = right := hr2.uniq (fr.from (by omega))
  exact tail _ _ r r2 leH1 ⟨bd.rd, bd.rl, bd.rb, bd.hd, bd.hl, bd.hb, bd.oL, bd.oD⟩ ⟨rw_.rr, rw_.rk, rw_.hr, rw_.hk, rw_.ok⟩ rk rp rfl rfl rfl rfl fl fr
theorem intData (l : List Int) : SD 1 (.list (l.map PyData.int)) := sd_map (fun _ => .int) l
set_option maxHeartbeats 4000000 in
theorem lawD2 (B : Base w hb) (he : EnvOk env) (kx : ∀ x, env.kindOf x = (scopeOf (st 22)).names.lookup x) (ap : CellsApart env) (bd : Beads H ρ L D ad al ab) {ar ak apl : Addr} {ord : List Nat} (rw_ : Row H ρ L D ar ak ord) {k p left right : Nat} (hk : k < 8) (rk : ρ (S "k") = some (.int (k : Int))) (hp : ord[p]? = some k) (rp : ρ (S "places") = some (.ref apl))
    (rle : ρ (S "left") = some (.int (left : Int))) (rri : ρ (S "right") = some (.int (right : Int))) (rpl : ρ (S "place") = some (.int (p : Int))) (rfi : ρ (S "first") = some (.int (left : Int))) (fl : Found (cL L ord (Ld L k)) 0 8 left) (fr : Found (cR L ord (Ld L k)) 0 8 right) {Φ : Out → Rho → PH → Prop}
    (tail : ∀ ρ' H', PH.le H H' → Beads H' ρ' L D ad al ab → Row H' ρ' L D ar ak ord → ρ' (S "k") = some (.int (k : Int)) → ρ' (S "places") = some (.ref apl) → ρ' (S "left") = some (.int (left : Int)) → ρ' (S "right") = some (.int (right : Int)) → ρ' (S "place") = some (.int (p : Int)) →
      WF w hb os (n + 12) env ρ' H' (execs ((lawFor 11).drop 6) env) Φ) : WF w hb os (n + 12) env ρ H (execs ((lawFor 11).drop 4) env) Φ := by
  have rl := bd.rl
  have rb := bd.rb
  have ok := rw_.ok
  obtain ⟨q1, q2, q3, q4, q5, q6⟩ := ok.place hk hp fl fr
  refine wf_consL ?_
  intro Ps
  refine wf_if (WB.drop (Φ := fun b H' => b = false ∧ PH.le H H') ?_ ?_)
  · refine wb_bool ?_
    refine wb_cons ?_
    refine wb_cmpL B ?_
    intro Ps
    refine we_local he ((kx _).trans (by rfl)) (by first | rfl | assumption) ?_
    refine we_local he ((kx _).trans (by rfl)) (by first | rfl | assumption) ?_
    refine neInt rfl ⟨false, rfl, ?_⟩
    refine wb_cons ?_
    refine wb_cmpL B ?_
    intro Ps
    refine we_binopL ?_
    intro Ps
    refine we_local he ((kx _).trans (by rfl)) (by first | rfl | assumption) ?_
    refine we_callL ?_
    intro Ps
    refine we_glob B he ((kx _).trans (by rfl)) (by rfl) ⟨_, .fn, callee_fn (B.K 78 _ (by rfl)) rfl, ?_⟩
    refine WTs.cons ?_
    refine we_slice ?_
    refine we_cell he ((kx _).trans (by rfl)) (by first | rfl | assumption) ?_
    refine we_cell he ((kx _).trans (by rfl)) (by first | rfl | assumption) ?_
    refine ⟨_, rfl, ?_⟩
    refine ⟨(fun e => nomatch e), al, _, rfl, bd.hl, by rw [List.length_map]; decide, fun c1 hc1 => ?_⟩
    rw [pick_from]
    have e1 : ((List.range 8).map (ltrPV L)).drop k = (((List.range 8).map L).drop k).map PV.str := by rw [List.map_drop, List.map_map]; rfl
    rw [e1]
    generalize eH1 : PH.set H c1 _ = H1
    have leH1 := le_new eH1 hc1
    have atH1 := at_new eH1
    have bd := bd.le leH1
    refine WTs.cons ?_
    refine we_index ?_
    refine we_cell he ((kx _).trans (by rfl)) (by first | rfl | assumption) ?_
    refine we_cell he ((kx _).trans (by rfl)) (by first | rfl | assumption) ?_
    refine ⟨_, k, _, bd.hl, len8, seqIndex_nat hk, range8_at hk, ?_⟩
    refine WTs.nil (WKs.nil ⟨rfl, ?_⟩)
    refine spec_countOf B atH1 (binSub (c := (p : Int)) (by omega) ?_)
    refine we_local he ((kx _).trans (by rfl)) (by first | rfl | assumption) ?_
    refine neInt rfl ⟨false, rfl, ?_⟩
    exact wb_nil ⟨rfl, leH1⟩
  rintro b H' ⟨rfl, hle⟩
  refine ⟨H, hle, ?_⟩
  rw [if_neg Bool.false_ne_true]
  refine wf_nil ?_
  obtain ⟨f, f1, f2, f3⟩ := first_of (f := L) hk
  refine wf_consL ?_
  intro Ps
  refine wf_if (WB.drop (Φ := fun b H' => b = false ∧ PH.le H H') ?_ ?_)
  · refine wb_cmpL B ?_
    intro Ps
    refine we_callL ?_
    intro Ps
    refine we_glob B he ((kx _).trans (by rfl)) (by rfl) ⟨_, .fn, callee_fn (B.K 92 _ (by rfl)) rfl, ?_⟩
    refine WTs.cons ?_
    refine we_cell he ((kx _).trans (by rfl)) (by first | rfl | assumption) ?_
    refine WTs.cons ?_
    refine we_index ?_
    refine we_cell he ((kx _).trans (by rfl)) (by first | rfl | assumption) ?_
    refine we_cell he ((kx _).trans (by rfl)) (by first | rfl | assumption) ?_
    refine ⟨_, k, _, bd.hl, len8, seqIndex_nat hk, range8_at hk, ?_⟩
    refine WTs.nil (WKs.nil ⟨rfl, ?_⟩)
    refine spec_indexOf B (xs := (List.range 8).map L) (i := f) (by rw [bd.hl, List.map_map]; rfl) (by rw [range8_at (by omega), f2]) (fun j hj e => ?_) ?_
    · rw [range8_at (by omega)] at e
      exact f3 j hj (Option.some.inj e)
    refine we_callL ?_
    intro Ps
    refine we_builtin B he ((kx _).trans (by rfl)) (by rfl) (by rfl) (fun _ => .blt) ⟨_, .blt, callee_blt, ?_⟩
    refine WTs.cons ?_
    let Jv1 : Nat → List PV → PH → Prop := fun k' ys H' => H' = H ∧ ys = (((List.range k').filter fun j => L j == L k).map fun j : Nat => (j : Int)).map PV.int
    refine we_comp he Jv1 (CompOk.of [Mine.S "letters", Mine.S "k"] (fun x hx => ?_) rfl (by kernel_rfl)) ?_
    · rcases List.mem_cons.mp hx with rfl | hx
      · exact (kx _).trans (by rfl)
      · rw [List.mem_singleton.mp hx]; exact (kx _).trans (by rfl)
    refine wi_range ?_
    refine we_callL ?_
    intro Ps
    refine we_builtin B he ((kx _).trans (by rfl)) (by rfl) (by rfl) (fun _ => .typ) ⟨_, .typ, callee_typ, ?_⟩
    refine WTs.cons ?_
    refine we_intc ?_
    refine WTs.nil (WKs.nil ⟨rfl, ?_⟩)
    refine wc_range1 ?_
    refine ⟨0, 8, rfl, by decide, by decide, by decide, by decide, (List.range 8).map fun i : Nat => PV.int (0 + (i : Int)), trivial, show 8 ≤ sizeLine by decide, ⟨rfl, rfl⟩, ?_, ?_, ?_⟩
    · rintro k ys H' _; rfl
    · rintro j ys H' x hx ⟨rfl, rfl⟩ C he'
      obtain ⟨hj, rfl⟩ := rng_item hx
      refine wa_name he' (.inl ⟨rfl, List.mem_singleton.mpr rfl⟩) ?_
      have he0 := he
      have kx0 := kx
      have he := he'
      have kx := kxOf he'
      show WB _ _ _ _ _ _ _ _ _
      refine wb_cmpL B ?_
      intro Ps
      refine we_indexL ?_
      intro Ps
      refine we_cell he (ckind he0 (by rfl) ((kx0 _).trans (by rfl))) (cval he0 (by rfl) ((kx0 _).trans (by rfl)) (by first | assumption | exact rl)) ?_
      refine we_local he ((kx _).trans (by rfl)) (by first | rfl | assumption) ?_
      refine ⟨_, j, _, bd.hl, len8, seqIndex_nat hj, range8_at hj, ?_⟩
      refine we_indexL ?_
      intro Ps
      refine we_cell he (ckind he0 (by rfl) ((kx0 _).trans (by rfl))) (cval he0 (by rfl) ((kx0 _).trans (by rfl)) (by first | assumption | exact rl)) ?_
      refine we_cell he (ckind he0 (by rfl) ((kx0 _).trans (by rfl))) (cval he0 (by rfl) ((kx0 _).trans (by rfl)) (by first | assumption | exact rk)) ?_
      refine ⟨_, k, _, bd.hl, len8, seqIndex_nat hk, range8_at hk, ?_⟩
      refine eqStr rfl ⟨_, rfl, ?_⟩
      cases hjk : L j == L k with
      | true =>
        rw [if_pos rfl]
        refine we_local he ((kx _).trans (by rfl)) (by first | rfl | assumption) ?_
        refine ⟨rfl, ?_⟩
        rw [List.range_succ, List.filter_append, List.map_append, List.map_append]
        congr 1
        simp [hjk]
      | false =>
        rw [if_neg Bool.false_ne_true]
        refine ⟨rfl, ?_⟩
        rw [List.range_succ, List.filter_append]
        simp [hjk]
    rintro ys H' ⟨rfl, rfl⟩ c1 hc1
    rw [List.length_map, List.length_range]
    generalize eH1 : PH.set H' c1 _ = H1
    have leH1 := le_new eH1 hc1
    have atH1 := at_new eH1
    refine WTs.nil (WKs.nil ⟨rfl, ?_⟩)
    have memF : ∀ i : Int, i ∈ (((List.range 8).filter fun j => L j == L k).map fun j : Nat => (j : Int)) ↔ ∃ j : Nat, j < 8 ∧ L j = L k ∧ i = (j : Int) := fun i => by
      simp only [List.mem_map, List.mem_filter, List.mem_range, beq_iff_eq]
      constructor
      · rintro ⟨j, ⟨a, b⟩, rfl⟩; exact ⟨j, a, b, rfl⟩
      · rintro ⟨j, a, b, rfl⟩; exact ⟨j, ⟨a, b⟩, rfl⟩
    have fin : (f : Int) ∈ (((List.range 8).filter fun j => L j == L k).map fun j : Nat => (j : Int)) := (memF _).mpr ⟨f, by omega, f2, rfl⟩
    refine wc_minList atH1 (List.length_pos_of_mem fin) fun i hi hmin => ?_
    obtain ⟨j, j1, j2, rfl⟩ := (memF _).mp hi
    have a1 := hmin _ fin
    have a2 : f ≤ j := Nat.le_of_not_lt fun h => f3 j h j2
    exact neInt (by omega) ⟨false, rfl, rfl, leH1⟩
  rintro b H' ⟨rfl, hle⟩
  refine ⟨H, hle, ?_⟩
  rw [if_neg Bool.false_ne_true]
  refine wf_nil ?_
  exact tail ρ H PH.le.refl bd rw_ rk rp rle rri rpl
end
end Mine
end

-- part V13
set_option linter.all false
noncomputable section
namespace Mine
open PySem PySem.W PySem.Calls PyProof.Rows
set_option Elab.async false
set_option maxRecDepth 100000
section
variable {w : World} {hb : Heap} {os : OsState} {n : Nat} {H : PH} {env : Env} {ρ : Rho} {L D : Nat → PySem.Str} {ad al ab : Addr}
theorem le_set_new {H1 : PH} {c : Addr} {l : List PV} (h : H c = Option.none) (le : PH.le H H1) : PH.le H (H1.set c l) := fun a m e => set_ne (ne_new e h) (le _ _ e)
theorem le_upd {H1 H2 : PH} {c : Addr} {l : List PV} (e : H1.set c l = H2) (h : H c = Option.none) (le : PH.le H H1) : PH.le H H2 := e ▸ le_set_new h le
set_option maxHeartbeats 4000000 in
theorem lawD3 (B : Base w hb) (he : EnvOk env) (kx : ∀ x, env.kindOf x = (scopeOf (st 22)).names.lookup x) (ap : CellsApart env) (bd : Beads H ρ L D ad al ab) {ar ak apl : Addr} {ord : List Nat} (rw_ : Row H ρ L D ar ak ord) {k p left right : Nat} (hk : k < 8) (rk : ρ (S "k") = some (.int (k : Int))) (hp : ord[p]? = some k) (rp : ρ (S "places") = some (.ref apl))
    (rle : ρ (S "left") = some (.int (left : Int))) (rri : ρ (S "right") = some (.int (right : Int))) (rpl : ρ (S "place") = some (.int (p : Int))) (fl : Found (cL L ord (Ld L k)) 0 8 left) (fr : Found (cR L ord (Ld L k)) 0 8 right)
    {pl : List PV} (hpl : H apl = some pl) (pl8 : pl.length ≤ 8) (off : Off apl ad al ab) (offr : ar ≠ apl) (offk : ak ≠ apl) {Φ : Out → Rho → PH → Prop}
    (tail : ∀ ρ' H', Beads H' ρ' L D ad al ab → Row H' ρ' L D ar ak ord → H' apl = some (pl ++ [.int (p : Int)]) → ρ' (S "k") = some (.int (k : Int)) → ρ' (S "places") = some (.ref apl) → ρ' (S "left") = some (.int (left : Int)) → ρ' (S "right") = some (.int (right : Int)) →
      WF w hb os (n + 12) env ρ' H' (execs ((lawFor 11).drop 11) env) Φ) : WF w hb os (n + 12) env ρ H (execs ((lawFor 11).drop 6) env) Φ := by
  have rl := bd.rl
  have rb := bd.rb
  have rr := rw_.rr
  have rkk := rw_.rk
  have ok := rw_.ok
  have len := ok.len
  have p8 : p < 8 := by have := (List.getElem?_eq_some_iff.mp hp).1; rw [len] at this; exact this
  obtain ⟨q1, q2, q3, q4, q5, q6⟩ := ok.place hk hp fl fr
  have mL : ∀ i j, i ≤ j → cL L ord (Ld L k) j = true → cL L ord (Ld L k) i = true := fun i j hij hc => cL_mono ok.up hij hc
  have mR : ∀ i j, i ≤ j → cR L ord (Ld L k) j = true → cR L ord (Ld L k) i = true := fun i j hij hc => cR_mono ok.up hij hc
  have lenk : (ord.map (ltrPV L)).length = 8 := by rw [List.length_map, len]
  have lenb : (ord.map (bead L D)).length = 8 := by rw [List.length_map, len]
  have b62 : 8 < 2 ^ 62 := by decide
  refine wf_consL ?_
  intro Ps
  refine @wf_assign _ _ _ _ _ _ _ _ _ _ _ _ he (.inl ((kx _).trans (by rfl))) ?_ (by rfl)
  refine we_listx ?_
  refine WTs.cons ?_
  refine we_callL ?_
  intro Ps
  refine we_glob B he ((kx _).trans (by rfl)) (by rfl) ⟨_, .fn, callee_fn (B.K 50 _ (by rfl)) rfl, ?_⟩
  refine WTs.cons ?_
  refine we_cell he ((kx _).trans (by rfl)) (by first | rfl | assumption) ?_
  refine WTs.cons ?_
  refine we_index ?_
  refine we_cell he ((kx _).trans (by rfl)) (by first | rfl | assumption) ?_
  refine we_cell he ((kx _).trans (by rfl)) (by first | rfl | assumption) ?_
  refine ⟨_, k, _, bd.hl, len8, seqIndex_nat hk, range8_at hk, ?_⟩
  refine WTs.nil (WKs.nil ⟨rfl, ?_⟩)
  refine bisL_P2 B (c := cL L ord (Ld L k)) rw_.hk (by rw [lenk]; exact b62) (askL_plain B) (fun i j hij _ hc => mL i j hij hc) fun r hr => ?_
  rw [lenk] at hr
  obtain rfl : r = left := hr.uniq fl
  refine WTs.cons ?_
  refine we_callL ?_
  intro Ps
  refine we_glob B he ((kx _).trans (by rfl)) (by rfl) ⟨_, .fn, callee_fn (B.K 32 _ (by rfl)) rfl, ?_⟩
  refine WTs.cons ?_
  refine we_cell he ((kx _).trans (by rfl)) (by first | rfl | assumption) ?_
  refine WTs.cons ?_
  refine we_index ?_
  refine we_cell he ((kx _).trans (by rfl)) (by first | rfl | assumption) ?_
  refine we_cell he ((kx _).trans (by rfl)) (by first | rfl | assumption) ?_
  refine ⟨_, k, _, bd.hl, len8, seqIndex_nat hk, range8_at hk, ?_⟩
  refine WTs.nil (WKs.nil ⟨rfl, ?_⟩)
  refine bisR_P2 B (c := cR L ord (Ld L k)) rw_.hk (by rw [lenk]; exact b62) (askR_plain B) (fun i j hij _ hc => mR i j hij hc) fun r2 hr2 => ?_
  rw [lenk] at hr2
  obtain rfl : r2 = right := hr2.uniq fr
  refine WTs.nil ?_
  refine ⟨show 2 ≤ sizeLine by decide, fun cf hcf => ?_⟩
  have offf := bd.off hcf
  have hcf0 := hcf
  generalize eH1 : PH.set H cf _ = H1
  have leH1 := le_new eH1 hcf
  have atH1 := at_new eH1
  have le1 : PH.le H H1 := leH1
  have bd1 := bd.le le1
  refine wf_consL ?_
  intro Ps
  refine wf_expr (hi := inter_fn he) ?_
  refine we_methx F.plainAttrs_list F.slot_list_append ?_
  refine we_local he ((kx _).trans (by rfl)) (by first | rfl | assumption) ?_
  refine ⟨list_recv atH1, ?_⟩
  refine WTs.cons ?_
  refine we_callL ?_
  intro Ps
  refine we_glob B he ((kx _).trans (by rfl)) (by rfl) ⟨_, .fn, callee_fn (B.K 50 _ (by rfl)) rfl, ?_⟩
  refine WTs.cons ?_
  refine we_cell he ((kx _).trans (by rfl)) (by first | rfl | assumption) ?_
  refine WTs.cons ?_
  refine we_index ?_
  refine we_cell he ((kx _).trans (by rfl)) (by first | rfl | assumption) ?_
  refine we_cell he ((kx _).trans (by rfl)) (by first | rfl | assumption) ?_
  refine ⟨_, k, _, bd1.hl, len8, seqIndex_nat hk, range8_at hk, ?_⟩
  refine WTs.cons ?_
  refine we_local he ((kx _).trans (by rfl)) (by first | rfl | assumption) ?_
  refine WTs.nil ?_
  refine WKs.cons (WT.stand ?_)
  refine we_glob B he ((kx _).trans (by rfl)) (by rfl) ?_
  refine WKs.nil ⟨rfl, ?_⟩
  refine bisL_P3K B (c := cL L ord (Ld L k)) (lo := p) (by rw [lenb]; omega) (le1 _ _ rw_.hr) (by rw [lenb]; exact b62) (askL_letter B) (fun i j hij _ hc => mL i j hij hc) fun r3 hr3 => ?_
  rw [lenb] at hr3
  obtain rfl : r3 = p := by
    have := fl.high (k := p) (by omega)
    rw [Nat.max_eq_right q1] at this
    exact hr3.uniq this
  refine WTs.nil ?_
  refine wc_append atH1 (show 2 ≤ sizeLine by decide) ⟨rfl, ?_⟩
  generalize eH2 : H1.set cf _ = H2
  have le2 := le_upd eH2 hcf0 le1
  have at2 := at_new eH2
  have bd2 := bd.le le2
  refine wf_consL ?_
  intro Ps
  refine wf_expr (hi := inter_fn he) ?_
  refine we_methx F.plainAttrs_list F.slot_list_append ?_
  refine we_local he ((kx _).trans (by rfl)) (by first | rfl | assumption) ?_
  refine ⟨list_recv at2, ?_⟩
  refine WTs.cons ?_
  refine we_callL ?_
  intro Ps
  refine we_glob B he ((kx _).trans (by rfl)) (by rfl) ⟨_, .fn, callee_fn (B.K 32 _ (by rfl)) rfl, ?_⟩
  refine WTs.cons ?_
  refine we_cell he ((kx _).trans (by rfl)) (by first | rfl | assumption) ?_
  refine WTs.cons ?_
  refine we_index ?_
  refine we_cell he ((kx _).trans (by rfl)) (by first | rfl | assumption) ?_
  refine we_cell he ((kx _).trans (by rfl)) (by first | rfl | assumption) ?_
  refine ⟨_, k, _, bd2.hl, len8, seqIndex_nat hk, range8_at hk, ?_⟩
  refine WTs.cons ?_
  refine we_intc ?_
  refine WTs.cons ?_
  refine we_local he ((kx _).trans (by rfl)) (by first | rfl | assumption) ?_
  refine WTs.nil ?_
  refine WKs.cons (WT.stand ?_)
  refine we_glob B he ((kx _).trans (by rfl)) (by rfl) ?_
  refine WKs.nil ⟨rfl, ?_⟩
  refine bisR_P4K B (c := cR L ord (Ld L k)) (lo := 0) (hi := r3) (.inr rfl) (by rw [lenb]; omega) (Nat.zero_le _) (le2 _ _ rw_.hr) (by rw [lenb]; exact b62) (askR_letter B) (fun i j hij _ hc => mR i j hij hc) fun r4 hr4 => ?_
  obtain rfl : r4 = r3 := by
    have := fr.low (k := r3) (by omega)
    rw [Nat.min_eq_right (by omega)] at this
    exact hr4.uniq this
  refine WTs.nil ?_
  refine wc_append at2 (show 3 ≤ sizeLine by decide) ⟨rfl, ?_⟩
  generalize eH3 : H2.set cf _ = H3
  have le3 := le_upd eH3 hcf0 le2
  have at3 := at_new eH3
  have bd3 := bd.le le3
  have rw3 := rw_.le le3
  refine wf_consL ?_
  intro Ps
  refine wf_if (WB.drop (Φ := fun b H' => b = false ∧ PH.le H3 H') ?_ ?_)
  · refine wb_bool ?_
    refine wb_cons ?_
    refine wb_cmp1 ?_
    refine we_local he ((kx _).trans (by rfl)) (by first | rfl | assumption) ?_
    refine we_listx ?_
    refine WTs.cons ?_
    refine we_local he ((kx _).trans (by rfl)) (by first | rfl | assumption) ?_
    refine WTs.cons ?_
    refine we_local he ((kx _).trans (by rfl)) (by first | rfl | assumption) ?_
    refine WTs.cons ?_
    refine we_local he ((kx _).trans (by rfl)) (by first | rfl | assumption) ?_
    refine WTs.cons ?_
    refine we_local he ((kx _).trans (by rfl)) (by first | rfl | assumption) ?_
    refine WTs.nil ?_
    refine ⟨show 4 ≤ sizeLine by decide, fun c4 hc4 => ?_⟩
    generalize eH4 : PH.set H3 c4 _ = H4
    have leH4 := le_new eH4 hc4
    have atH4 := at_new eH4
    refine ne_same (d := .list ([(r : Int), (r2 : Int), (r4 : Int), (r4 : Int)].map PyData.int)) (.ref (leH4 _ _ at3) (.cons .int (.cons .int (.cons .int (.cons .int .nil))))) (.ref atH4 (.cons .int (.cons .int (.cons .int (.cons .int .nil))))) (intData _) ?_
    refine ⟨false, rfl, ?_⟩
    refine wb_cons ?_
    refine wb_cmp1 ?_
    refine we_callL ?_
    intro Ps
    refine we_glob B he ((kx _).trans (by rfl)) (by rfl) ⟨_, .fn, callee_fn (B.K 85 _ (by rfl)) rfl, ?_⟩
    refine WTs.cons ?_
    refine we_cell he ((kx _).trans (by rfl)) (by first | rfl | assumption) ?_
    refine WTs.cons ?_
    refine we_local he ((kx _).trans (by rfl)) (by first | rfl | assumption) ?_
    refine WTs.nil (WKs.nil ⟨rfl, ?_⟩)
    refine spec_getitem_list B (j := r4) (x := bead L D k) (leH4 _ _ rw3.hr) (by rw [lenb]; exact b62) (seqIndex_nat (by rw [lenb]; exact p8)) (by rw [List.getElem?_map, hp]; rfl) ?_
    refine we_indexL ?_
    intro Ps
    refine we_cell he ((kx _).trans (by rfl)) (by first | rfl | assumption) ?_
    refine we_cell he ((kx _).trans (by rfl)) (by first | rfl | assumption) ?_
    refine ⟨_, k, _, leH4 _ _ bd3.hb, len8, seqIndex_nat hk, range8_at hk, ?_⟩
    refine ne_same pd_bead pd_bead (sd_bead bd.oL bd.oD) ?_
    exact ⟨false, rfl, wb_nil ⟨rfl, leH4⟩⟩
  rintro b H' ⟨rfl, hle⟩
  refine ⟨H3, hle, ?_⟩
  rw [if_neg Bool.false_ne_true]
  refine wf_nil ?_
  have hpl3 := le3 _ _ hpl
  refine wf_consL ?_
  intro Ps
  refine wf_expr (hi := inter_fn he) ?_
  refine we_methx F.plainAttrs_list F.slot_list_append ?_
  refine we_local he ((kx _).trans (by rfl)) (by first | rfl | assumption) ?_
  refine ⟨list_recv hpl3, ?_⟩
  refine WTs.cons ?_
  refine we_local he ((kx _).trans (by rfl)) (by first | rfl | assumption) ?_
  refine WTs.nil ?_
  refine wc_append hpl3 (Nat.le_trans pl8 (by decide)) ⟨rfl, ?_⟩
  have bd4 := bd3.set (l := pl ++ [.int (r4 : Int)]) off
  exact tail _ _ ⟨bd4.rd, bd4.rl, bd4.rb, bd4.hd, bd4.hl, bd4.hb, bd4.oL, bd4.oD⟩ ⟨rw3.rr, rw3.rk, set_ne offr rw3.hr, set_ne offk rw3.hk, rw3.ok⟩ PH.set_self rk rp rle rri
end
end Mine
end

-- part V14
set_option linter.all false
noncomputable section
namespace Mine
open PySem PySem.W PySem.Calls PyProof.Rows
set_option Elab.async false
set_option maxRecDepth 100000
/-- a family of lists laid since a state, no two of them one -/
structure Fam (H0 H : PH) (as : List Addr) (ls : List (List PV)) : Prop where
  le : PH.le H0 H
  len : as.length = ls.length
  nodup : as.Nodup
  fresh : ∀ a ∈ as, H0 a = Option.none
  at_ : ∀ (i : Nat) (a : Addr) (l : List PV), as[i]? = some a → ls[i]? = some l → H a = some l
theorem Fam.start {H : PH} : Fam H H [] [] := ⟨PH.le.refl, rfl, .nil, (fun _ h => nomatch h), fun _ _ _ h => nomatch h⟩
theorem Fam.new {H0 H H1 : PH} {as : List Addr} {ls : List (List PV)} (f : Fam H0 H as ls) {c : Addr} {l : List PV} (hc : H c = Option.none) (e : H.set c l = H1) : Fam H0 H1 (as ++ [c]) (ls ++ [l]) := by
  subst e
  have h0 : H0 c = Option.none := by
    cases e : H0 c with
    | none => rfl
    | some l => have := f.le _ _ e; rw [hc] at this; cases this
  have hne : ∀ a ∈ as, a ≠ c := fun a ha => by
    obtain ⟨i, hi⟩ := List.mem_iff_getElem?.mp ha
    have hlt := (List.getElem?_eq_some_iff.mp hi).1
    exact ne_new (f.at_ i a _ hi (List.getElem?_eq_getElem (by rw [← f.len]; exact hlt))) hc
  refine ⟨le_set_new h0 f.le, by rw [List.length_append, List.length_append, f.len]; rfl, List.nodup_append.mpr ⟨f.nodup, (by simp), fun a ha b hb => by rw [List.mem_singleton.mp hb]; exact hne a ha⟩, fun a ha => ?_, fun i a m h1 h2 => ?_⟩
  · rcases List.mem_append.mp ha with ha | ha
    · exact f.fresh a ha
    · rw [List.mem_singleton.mp ha]; exact h0
  · rcases Nat.lt_or_ge i as.length with h | h
    · rw [List.getElem?_append_left h] at h1
      rw [List.getElem?_append_left (by rw [← f.len]; exact h)] at h2
      exact set_ne (hne a (List.mem_of_getElem? h1)) (f.at_ i a m h1 h2)
    · rw [List.getElem?_append_right h] at h1
      rw [List.getElem?_append_right (by rw [← f.len]; exact h)] at h2
      rw [← f.len] at h2
      generalize i - as.length = j at h1 h2
      match j, h1, h2 with
      | 0, h1, h2 =>
        obtain rfl := Option.some.inj h1
        obtain rfl := Option.some.inj h2
        exact PH.set_self
theorem Fam.upd {H0 H : PH} {as : List Addr} {ls : List (List PV)} (f : Fam H0 H as ls) {i : Nat} {a : Addr} {l : List PV} (h : as[i]? = some a) : Fam H0 (H.set a l) as (ls.set i l) := by
  refine ⟨le_set_new (f.fresh a (List.mem_of_getElem? h)) f.le, by rw [List.length_set]; exact f.len, f.nodup, f.fresh, fun j b m h1 h2 => ?_⟩
  by_cases hij : i = j
  · subst hij
    obtain rfl := Option.some.inj (h.symm.trans h1)
    have hlt := (List.getElem?_eq_some_iff.mp h1).1
    rw [List.getElem?_set_self (by rw [← f.len]; exact hlt)] at h2
    obtain rfl := Option.some.inj h2
    exact PH.set_self
  · rw [List.getElem?_set_ne hij] at h2
    refine set_ne (fun e => ?_) (f.at_ j b m h1 h2)
    subst e
    obtain ⟨x1, x2⟩ := List.getElem?_eq_some_iff.mp h
    obtain ⟨y1, y2⟩ := List.getElem?_eq_some_iff.mp h1
    exact hij ((List.getElem_inj f.nodup).mp (x2.trans y2.symm))
inductive RefsAt (H : PH) : List Addr → List (List PV) → Prop
  | nil : RefsAt H [] []
  | cons {a l as ls} : H a = some l → RefsAt H as ls → RefsAt H (a :: as) (l :: ls)
theorem RefsAt.le {H H' : PH} (k : PH.le H H') : ∀ {as ls}, RefsAt H as ls → RefsAt H' as ls
  | _, _, .nil => .nil
  | _, _, .cons e r => .cons (k _ _ e) (r.le k)
theorem RefsAt.append {H : PH} : ∀ {as ls bs ms}, RefsAt H as ls → RefsAt H bs ms → RefsAt H (as ++ bs) (ls ++ ms)
  | _, _, _, _, .nil, y => y
  | _, _, _, _, .cons e r, y => .cons e (r.append y)
theorem PDs.append {H : PH} : ∀ {l d m e}, PDs H l d → PDs H m e → PDs H (l ++ m) (d ++ e)
  | _, _, _, _, .nil, y => y
  | _, _, _, _, .cons a r, y => .cons a (r.append y)
theorem RefsAt.pds {H : PH} {α : Type} {f : α → List PV} {g : α → List PyData} (h : ∀ x, PDs H (f x) (g x)) : ∀ {xs : List α} {as : List Addr}, RefsAt H as (xs.map f) → PDs H (as.map .ref) (xs.map fun x => .list (g x))
  | [], _, .nil => .nil
  | x :: xs, _, .cons e r => .cons (.ref e (h x)) (RefsAt.pds h r)
theorem RefsAt.length {H : PH} : ∀ {as ls}, RefsAt H as ls → as.length = ls.length
  | _, _, .nil => rfl
  | _, _, .cons _ r => by rw [List.length_cons, List.length_cons, r.length]
section
variable {w : World} {hb : Heap} {os : OsState} {n : Nat} {H : PH} {env : Env} {ρ : Rho} {L D : Nat → PySem.Str} {ad al ab : Addr}
theorem wc_minN {i j : Nat} {Φ : PV → PH → Prop} (h : Φ (.int ((min i j : Nat) : Int)) H) : WC w hb os n H (.builtin "min") [.int (i : Int), .int (j : Int)] [] Φ := wc_min2 (by
  have e : (if (j : Int) < i then (j : Int) else i) = ((min i j : Nat) : Int) := by split <;> omega
  rw [e]; exact h)
theorem wc_maxN {i j : Nat} {Φ : PV → PH → Prop} (h : Φ (.int ((max i j : Nat) : Int)) H) : WC w hb os n H (.builtin "max") [.int (i : Int), .int (j : Int)] [] Φ := wc_max2 (by
  have e : (if (j : Int) > i then (j : Int) else i) = ((max i j : Nat) : Int) := by split <;> omega
  rw [e]; exact h)
theorem ins_pds {f : Nat → PV} {g : Nat → PyData} {x : PV} {d : PyData} (h : ∀ i, PD H (f i) (g i)) (hx : PD H x d) (S : List Nat) (s : Nat) : PDs H (insAt (S.map f) s x) ((S.take s).map g ++ d :: (S.drop s).map g) := by
  have : insAt (S.map f) s x = (S.take s).map f ++ x :: (S.drop s).map f := by rw [List.map_take, List.map_drop]
  rw [this]
  exact (pds_map h _).append (.cons hx (pds_map h _))
noncomputable abbrev newPV (L : Nat → PySem.Str) (k : Nat) : PV := .tup [.str (L k), .str PySem.Str.empty, .int 8]
noncomputable abbrev newD (L : Nat → PySem.Str) (k : Nat) : PyData := .tuple [.str (L k), .str PySem.Str.empty, .int 8]
set_option maxHeartbeats 8000000 in
theorem lawD4 (B : Base w hb) (he : EnvOk env) (kx : ∀ x, env.kindOf x = (scopeOf (st 22)).names.lookup x) (ap : CellsApart env) (bd : Beads H ρ L D ad al ab) {ar ak apl : Addr} {ord : List Nat} (rw_ : Row H ρ L D ar ak ord) {k left right : Nat} (hk : k < 8) (rk : ρ (S "k") = some (.int (k : Int))) (rp : ρ (S "places") = some (.ref apl))
    (rle : ρ (S "left") = some (.int (left : Int))) (rri : ρ (S "right") = some (.int (right : Int))) (fl : Found (cL L ord (Ld L k)) 0 8 left) (fr : Found (cR L ord (Ld L k)) 0 8 right) {Φ : Out → Rho → PH → Prop}
    (tail : ∀ ρ' H' a0 a1 a2 a3 a4 a5 a6 a7 la, Fam H H' [a0, a1, a2, a3, a4, a5, a6, a7, la] [insAt (ord.map (bead L D)) (min left k) (newPV L k), insAt (ord.map (bead L D)) (max left k) (newPV L k), insAt (ord.map (bead L D)) (min right k) (newPV L k), insAt (ord.map (bead L D)) (max right k) (newPV L k),
        insAt (ord.map (ltrPV L)) (min left k) (ltrPV L k), insAt (ord.map (ltrPV L)) (max left k) (ltrPV L k), insAt (ord.map (ltrPV L)) (min right k) (ltrPV L k), insAt (ord.map (ltrPV L)) (max right k) (ltrPV L k), [.ref a0, .ref a1, .ref a2, .ref a3, .ref a4, .ref a5, .ref a6, .ref a7]] →
      Beads H ρ' L D ad al ab → Row H ρ' L D ar ak ord → ρ' (S "k") = some (.int (k : Int)) → ρ' (S "places") = some (.ref apl) → ρ' (S "left") = some (.int (left : Int)) → ρ' (S "right") = some (.int (right : Int)) → ρ' (S "new") = some (newPV L k) → ρ' (S "laid") = some (.ref la) →
      WF w hb os (n + 12) env ρ' H' (execs ((lawFor 11).drop 21) env) Φ) : WF w hb os (n + 12) env ρ H (execs ((lawFor 11).drop 11) env) Φ := by
  have rl := bd.rl
  have rb := bd.rb
  have rr := rw_.rr
  have rkk := rw_.rk
  have ok := rw_.ok
  have len := ok.len
  have mL : ∀ i j, i ≤ j → cL L ord (Ld L k) j = true → cL L ord (Ld L k) i = true := fun i j hij hc => cL_mono ok.up hij hc
  have mR : ∀ i j, i ≤ j → cR L ord (Ld L k) j = true → cR L ord (Ld L k) i = true := fun i j hij hc => cR_mono ok.up hij hc
  have lenk : (ord.map (ltrPV L)).length = 8 := by rw [List.length_map, len]
  have lenb : (ord.map (bead L D)).length = 8 := by rw [List.length_map, len]
  have lk : (ord.map (ltrPV L)).length ≤ sizeLine := by rw [lenk]; decide
  have lb : (ord.map (bead L D)).length ≤ sizeLine := by rw [lenb]; decide
  have k8 : k ≤ 8 := Nat.le_of_lt hk
  have kb : k ≤ (ord.map (bead L D)).length := by rw [lenb]; exact k8
  have kk : k ≤ (ord.map (ltrPV L)).length := by rw [lenk]; exact k8
  have uL : ∀ r, Found (cL L ord (Ld L k)) 0 k r → r = min left k := fun r h => h.uniq (fl.low k8)
  have uR : ∀ r, Found (cR L ord (Ld L k)) 0 k r → r = min right k := fun r h => h.uniq (fr.low k8)
  have vL : ∀ r m, m = 8 → Found (cL L ord (Ld L k)) k m r → r = max left k := fun r m e h => by subst e; exact h.uniq (fl.high k8)
  have vR : ∀ r m, m = 8 → Found (cR L ord (Ld L k)) k m r → r = max right k := fun r m e h => by subst e; exact h.uniq (fr.high k8)
  refine wf_consL ?_
  intro Ps
  refine @wf_assign _ _ _ _ _ _ _ _ _ _ _ _ he (.inr ⟨(kx _).trans (by rfl), ap⟩) ?_ (by rfl)
  refine we_tuplex ?_
  refine WTs.cons ?_
  refine we_index ?_
  refine we_cell he ((kx _).trans (by rfl)) (by first | rfl | assumption) ?_
  refine we_cell he ((kx _).trans (by rfl)) (by first | rfl | assumption) ?_
  refine ⟨_, k, _, bd.hl, len8, seqIndex_nat hk, range8_at hk, ?_⟩
  refine WTs.cons ?_
  refine we_strc' (y := PySem.Str.empty) (by kernel_rfl) ?_
  refine WTs.cons ?_
  refine we_intc ?_
  refine WTs.nil ?_
  refine ⟨show 3 ≤ sizeLine by decide, ?_⟩
  have fam : Fam H H [] [] := .start
  refine wf_consL ?_
  intro Ps
  refine @wf_assign _ _ _ _ _ _ _ _ _ _ _ _ he (.inl ((kx _).trans (by rfl))) ?_ (by rfl)
  refine we_listx ?_
  refine WTs.cons ?_
  refine we_slice ?_
  refine we_cell he ((kx _).trans (by rfl)) (by first | rfl | assumption) ?_
  refine ⟨(fun e => nomatch e), ar, _, rfl, fam.le _ _ rw_.hr, lb, fun a0 h0 => ?_⟩
  rw [pick_all]
  generalize e0 : PH.set _ a0 _ = H0
  have fam := fam.new h0 e0
  refine WTs.cons ?_
  refine we_slice ?_
  refine we_cell he ((kx _).trans (by rfl)) (by first | rfl | assumption) ?_
  refine ⟨(fun e => nomatch e), ar, _, rfl, fam.le _ _ rw_.hr, lb, fun a1 h1 => ?_⟩
  rw [pick_all]
  generalize e1 : PH.set _ a1 _ = H1
  have fam := fam.new h1 e1
  refine WTs.cons ?_
  refine we_slice ?_
  refine we_cell he ((kx _).trans (by rfl)) (by first | rfl | assumption) ?_
  refine ⟨(fun e => nomatch e), ar, _, rfl, fam.le _ _ rw_.hr, lb, fun a2 h2 => ?_⟩
  rw [pick_all]
  generalize e2 : PH.set _ a2 _ = H2
  have fam := fam.new h2 e2
  refine WTs.cons ?_
  refine we_slice ?_
  refine we_cell he ((kx _).trans (by rfl)) (by first | rfl | assumption) ?_
  refine ⟨(fun e => nomatch e), ar, _, rfl, fam.le _ _ rw_.hr, lb, fun a3 h3 => ?_⟩
  rw [pick_all]
  generalize e3 : PH.set _ a3 _ = H3
  have fam := fam.new h3 e3
  refine WTs.cons ?_
  refine we_slice ?_
  refine we_cell he ((kx _).trans (by rfl)) (by first | rfl | assumption) ?_
  refine ⟨(fun e => nomatch e), ak, _, rfl, fam.le _ _ rw_.hk, lk, fun a4 h4 => ?_⟩
  rw [pick_all]
  generalize e4 : PH.set _ a4 _ = H4
  have fam := fam.new h4 e4
  refine WTs.cons ?_
  refine we_slice ?_
  refine we_cell he ((kx _).trans (by rfl)) (by first | rfl | assumption) ?_
  refine ⟨(fun e => nomatch e), ak, _, rfl, fam.le _ _ rw_.hk, lk, fun a5 h5 => ?_⟩
  rw [pick_all]
  generalize e5 : PH.set _ a5 _ = H5
  have fam := fam.new h5 e5
  refine WTs.cons ?_
  refine we_slice ?_
  refine we_cell he ((kx _).trans (by rfl)) (by first | rfl | assumption) ?_
  refine ⟨(fun e => nomatch e), ak, _, rfl, fam.le _ _ rw_.hk, lk, fun a6 h6 => ?_⟩
  rw [pick_all]
  generalize e6 : PH.set _ a6 _ = H6
  have fam := fam.new h6 e6
  refine WTs.cons ?_
  refine we_slice ?_
  refine we_cell he ((kx _).trans (by rfl)) (by first | rfl | assumption) ?_
  refine ⟨(fun e => nomatch e), ak, _, rfl, fam.le _ _ rw_.hk, lk, fun a7 h7 => ?_⟩
  rw [pick_all]
  generalize e7 : PH.set _ a7 _ = H7
  have fam := fam.new h7 e7
  refine WTs.nil ?_
  refine ⟨show 8 ≤ sizeLine by decide, fun la hla => ?_⟩
  generalize ela : PH.set _ la _ = H8
  have fam := fam.new hla ela
  simp only [List.nil_append, List.cons_append] at fam
  clear ela hla h0 e0 h1 e1 h2 e2 h3 e3 h4 e4 h5 e5 h6 e6 h7 e7
  have calL := callee_fn (w := w) (B.K 177 _ (by rfl)) rfl
  have fla := fam.at_ 8 la _ rfl rfl
  refine wf_consL ?_
  intro Ps
  refine wf_expr (hi := inter_fn he) ?_
  refine we_callL ?_
  intro Ps
  refine we_glob B he ((kx _).trans (by rfl)) (by rfl) ⟨_, .fn, callee_fn (B.K 41 _ (by rfl)) rfl, ?_⟩
  refine WTs.cons ?_
  refine we_indexL ?_
  intro Ps
  refine we_local he ((kx _).trans (by rfl)) (by first | rfl | assumption) ?_
  refine we_intc ?_
  refine ⟨_, 0, _, fla, (by show (8 : Nat) < _; decide), rfl, rfl, ?_⟩
  refine WTs.cons ?_
  refine we_cell he ((kx _).trans (by rfl)) (by first | rfl | assumption) ?_
  refine WTs.cons ?_
  refine we_intc ?_
  refine WTs.cons ?_
  refine we_cell he ((kx _).trans (by rfl)) (by first | rfl | assumption) ?_
  refine WTs.nil ?_
  refine WKs.cons (WT.stand ?_)
  refine we_glob B he ((kx _).trans (by rfl)) (by rfl) ?_
  refine WKs.nil ⟨rfl, ?_⟩
  refine insL_P4K B (c := cL L ord (Ld L k)) (lo := 0) (hi := k) kb (Nat.zero_le _) (fam.at_ 0 a0 _ rfl rfl) lb calL (spec_letter B (by show 2 < _; decide) ⟨PH.le.refl, askL_letter B⟩) (fun i j hij _ hc => mL i j hij hc) fun r0 hr => ⟨rfl, ?_⟩
  rw [uL r0 hr]
  have fam := fam.upd (i := 0) (a := a0) (l := insAt (ord.map (bead L D)) (min left k) (newPV L k)) rfl
  generalize PH.set _ a0 _ = H9 at fam ⊢
  have fla := fam.at_ 8 la _ rfl rfl
  refine wf_consL ?_
  intro Ps
  refine wf_expr (hi := inter_fn he) ?_
  refine we_callL ?_
  intro Ps
  refine we_glob B he ((kx _).trans (by rfl)) (by rfl) ⟨_, .fn, callee_fn (B.K 41 _ (by rfl)) rfl, ?_⟩
  refine WTs.cons ?_
  refine we_indexL ?_
  intro Ps
  refine we_local he ((kx _).trans (by rfl)) (by first | rfl | assumption) ?_
  refine we_intc ?_
  refine ⟨_, 1, _, fla, (by show (8 : Nat) < _; decide), rfl, rfl, ?_⟩
  refine WTs.cons ?_
  refine we_cell he ((kx _).trans (by rfl)) (by first | rfl | assumption) ?_
  refine WTs.cons ?_
  refine we_cell he ((kx _).trans (by rfl)) (by first | rfl | assumption) ?_
  refine WTs.nil ?_
  refine WKs.cons (WT.stand ?_)
  refine we_glob B he ((kx _).trans (by rfl)) (by rfl) ?_
  refine WKs.nil ⟨rfl, ?_⟩
  refine insL_P3K B (c := cL L ord (Ld L k)) (lo := k) kb (fam.at_ 1 a1 _ rfl rfl) lb calL (spec_letter B (by show 2 < _; decide) ⟨PH.le.refl, askL_letter B⟩) (fun i j hij _ hc => mL i j hij hc) fun r1 hr => ⟨rfl, ?_⟩
  rw [vL r1 _ lenb hr]
  have fam := fam.upd (i := 1) (a := a1) (l := insAt (ord.map (bead L D)) (max left k) (newPV L k)) rfl
  generalize PH.set _ a1 _ = H10 at fam ⊢
  have fla := fam.at_ 8 la _ rfl rfl
  refine wf_consL ?_
  intro Ps
  refine wf_expr (hi := inter_fn he) ?_
  refine we_callL ?_
  intro Ps
  refine we_glob B he ((kx _).trans (by rfl)) (by rfl) ⟨_, .fn, callee_fn (B.K 23 _ (by rfl)) rfl, ?_⟩
  refine WTs.cons ?_
  refine we_indexL ?_
  intro Ps
  refine we_local he ((kx _).trans (by rfl)) (by first | rfl | assumption) ?_
  refine we_intc ?_
  refine ⟨_, 2, _, fla, (by show (8 : Nat) < _; decide), rfl, rfl, ?_⟩
  refine WTs.cons ?_
  refine we_cell he ((kx _).trans (by rfl)) (by first | rfl | assumption) ?_
  refine WTs.cons ?_
  refine we_intc ?_
  refine WTs.cons ?_
  refine we_cell he ((kx _).trans (by rfl)) (by first | rfl | assumption) ?_
  refine WTs.nil ?_
  refine WKs.cons (WT.stand ?_)
  refine we_glob B he ((kx _).trans (by rfl)) (by rfl) ?_
  refine WKs.nil ⟨rfl, ?_⟩
  refine insR_P4K B (c := cR L ord (Ld L k)) (lo := 0) (hi := k) kb (Nat.zero_le _) (fam.at_ 2 a2 _ rfl rfl) lb calL (spec_letter B (by show 2 < _; decide) ⟨PH.le.refl, askR_letter B⟩) (fun i j hij _ hc => mR i j hij hc) fun r2 hr => ⟨rfl, ?_⟩
  rw [uR r2 hr]
  have fam := fam.upd (i := 2) (a := a2) (l := insAt (ord.map (bead L D)) (min right k) (newPV L k)) rfl
  generalize PH.set _ a2 _ = H11 at fam ⊢
  have fla := fam.at_ 8 la _ rfl rfl
  refine wf_consL ?_
  intro Ps
  refine wf_expr (hi := inter_fn he) ?_
  refine we_callL ?_
  intro Ps
  refine we_glob B he ((kx _).trans (by rfl)) (by rfl) ⟨_, .fn, callee_fn (B.K 23 _ (by rfl)) rfl, ?_⟩
  refine WTs.cons ?_
  refine we_indexL ?_
  intro Ps
  refine we_local he ((kx _).trans (by rfl)) (by first | rfl | assumption) ?_
  refine we_intc ?_
  refine ⟨_, 3, _, fla, (by show (8 : Nat) < _; decide), rfl, rfl, ?_⟩
  refine WTs.cons ?_
  refine we_cell he ((kx _).trans (by rfl)) (by first | rfl | assumption) ?_
  refine WTs.cons ?_
  refine we_cell he ((kx _).trans (by rfl)) (by first | rfl | assumption) ?_
  refine WTs.nil ?_
  refine WKs.cons (WT.stand ?_)
  refine we_glob B he ((kx _).trans (by rfl)) (by rfl) ?_
  refine WKs.nil ⟨rfl, ?_⟩
  refine insR_P3K B (c := cR L ord (Ld L k)) (lo := k) kb (fam.at_ 3 a3 _ rfl rfl) lb calL (spec_letter B (by show 2 < _; decide) ⟨PH.le.refl, askR_letter B⟩) (fun i j hij _ hc => mR i j hij hc) fun r3 hr => ⟨rfl, ?_⟩
  rw [vR r3 _ lenb hr]
  have fam := fam.upd (i := 3) (a := a3) (l := insAt (ord.map (bead L D)) (max right k) (newPV L k)) rfl
  generalize PH.set _ a3 _ = H12 at fam ⊢
  have fla := fam.at_ 8 la _ rfl rfl
  refine wf_consL ?_
  intro Ps
  refine wf_expr (hi := inter_fn he) ?_
  refine we_callL ?_
  intro Ps
  refine we_glob B he ((kx _).trans (by rfl)) (by rfl) ⟨_, .fn, callee_fn (B.K 41 _ (by rfl)) rfl, ?_⟩
  refine WTs.cons ?_
  refine we_indexL ?_
  intro Ps
  refine we_local he ((kx _).trans (by rfl)) (by first | rfl | assumption) ?_
  refine we_intc ?_
  refine ⟨_, 4, _, fla, (by show (8 : Nat) < _; decide), rfl, rfl, ?_⟩
  refine WTs.cons ?_
  refine we_index ?_
  refine we_cell he ((kx _).trans (by rfl)) (by first | rfl | assumption) ?_
  refine we_cell he ((kx _).trans (by rfl)) (by first | rfl | assumption) ?_
  refine ⟨_, k, _, fam.le _ _ bd.hl, len8, seqIndex_nat hk, range8_at hk, ?_⟩
  refine WTs.cons ?_
  refine we_intc ?_
  refine WTs.cons ?_
  refine we_cell he ((kx _).trans (by rfl)) (by first | rfl | assumption) ?_
  refine WTs.nil (WKs.nil ⟨rfl, ?_⟩)
  refine insL_P4 B (c := cL L ord (Ld L k)) (lo := 0) (hi := k) kk (Nat.zero_le _) (fam.at_ 4 a4 _ rfl rfl) lk (askL_plain B) (fun i j hij _ hc => mL i j hij hc) fun r4 hr => ⟨rfl, ?_⟩
  rw [uL r4 hr]
  have fam := fam.upd (i := 4) (a := a4) (l := insAt (ord.map (ltrPV L)) (min left k) (ltrPV L k)) rfl
  generalize PH.set _ a4 _ = H13 at fam ⊢
  have fla := fam.at_ 8 la _ rfl rfl
  refine wf_consL ?_
  intro Ps
  refine wf_expr (hi := inter_fn he) ?_
  refine we_callL ?_
  intro Ps
  refine we_glob B he ((kx _).trans (by rfl)) (by rfl) ⟨_, .fn, callee_fn (B.K 41 _ (by rfl)) rfl, ?_⟩
  refine WTs.cons ?_
  refine we_indexL ?_
  intro Ps
  refine we_local he ((kx _).trans (by rfl)) (by first | rfl | assumption) ?_
  refine we_intc ?_
  refine ⟨_, 5, _, fla, (by show (8 : Nat) < _; decide), rfl, rfl, ?_⟩
  refine WTs.cons ?_
  refine we_index ?_
  refine we_cell he ((kx _).trans (by rfl)) (by first | rfl | assumption) ?_
  refine we_cell he ((kx _).trans (by rfl)) (by first | rfl | assumption) ?_
  refine ⟨_, k, _, fam.le _ _ bd.hl, len8, seqIndex_nat hk, range8_at hk, ?_⟩
  refine WTs.cons ?_
  refine we_cell he ((kx _).trans (by rfl)) (by first | rfl | assumption) ?_
  refine WTs.nil (WKs.nil ⟨rfl, ?_⟩)
  refine insL_P3 B (c := cL L ord (Ld L k)) (lo := k) kk (fam.at_ 5 a5 _ rfl rfl) lk (askL_plain B) (fun i j hij _ hc => mL i j hij hc) fun r5 hr => ⟨rfl, ?_⟩
  rw [vL r5 _ lenk hr]
  have fam := fam.upd (i := 5) (a := a5) (l := insAt (ord.map (ltrPV L)) (max left k) (ltrPV L k)) rfl
  generalize PH.set _ a5 _ = H14 at fam ⊢
  have fla := fam.at_ 8 la _ rfl rfl
  refine wf_consL ?_
  intro Ps
  refine wf_expr (hi := inter_fn he) ?_
  refine we_callL ?_
  intro Ps
  refine we_glob B he ((kx _).trans (by rfl)) (by rfl) ⟨_, .fn, callee_fn (B.K 23 _ (by rfl)) rfl, ?_⟩
  refine WTs.cons ?_
  refine we_indexL ?_
  intro Ps
  refine we_local he ((kx _).trans (by rfl)) (by first | rfl | assumption) ?_
  refine we_intc ?_
  refine ⟨_, 6, _, fla, (by show (8 : Nat) < _; decide), rfl, rfl, ?_⟩
  refine WTs.cons ?_
  refine we_index ?_
  refine we_cell he ((kx _).trans (by rfl)) (by first | rfl | assumption) ?_
  refine we_cell he ((kx _).trans (by rfl)) (by first | rfl | assumption) ?_
  refine ⟨_, k, _, fam.le _ _ bd.hl, len8, seqIndex_nat hk, range8_at hk, ?_⟩
  refine WTs.cons ?_
  refine we_intc ?_
  refine WTs.cons ?_
  refine we_cell he ((kx _).trans (by rfl)) (by first | rfl | assumption) ?_
  refine WTs.nil (WKs.nil ⟨rfl, ?_⟩)
  refine insR_P4 B (c := cR L ord (Ld L k)) (lo := 0) (hi := k) kk (Nat.zero_le _) (fam.at_ 6 a6 _ rfl rfl) lk (askR_plain B) (fun i j hij _ hc => mR i j hij hc) fun r6 hr => ⟨rfl, ?_⟩
  rw [uR r6 hr]
  have fam := fam.upd (i := 6) (a := a6) (l := insAt (ord.map (ltrPV L)) (min right k) (ltrPV L k)) rfl
  generalize PH.set _ a6 _ = H15 at fam ⊢
  have fla := fam.at_ 8 la _ rfl rfl
  refine wf_consL ?_
  intro Ps
  refine wf_expr (hi := inter_fn he) ?_
  refine we_callL ?_
  intro Ps
  refine we_glob B he ((kx _).trans (by rfl)) (by rfl) ⟨_, .fn, callee_fn (B.K 23 _ (by rfl)) rfl, ?_⟩
  refine WTs.cons ?_
  refine we_indexL ?_
  intro Ps
  refine we_local he ((kx _).trans (by rfl)) (by first | rfl | assumption) ?_
  refine we_intc ?_
  refine ⟨_, 7, _, fla, (by show (8 : Nat) < _; decide), rfl, rfl, ?_⟩
  refine WTs.cons ?_
  refine we_index ?_
  refine we_cell he ((kx _).trans (by rfl)) (by first | rfl | assumption) ?_
  refine we_cell he ((kx _).trans (by rfl)) (by first | rfl | assumption) ?_
  refine ⟨_, k, _, fam.le _ _ bd.hl, len8, seqIndex_nat hk, range8_at hk, ?_⟩
  refine WTs.cons ?_
  refine we_cell he ((kx _).trans (by rfl)) (by first | rfl | assumption) ?_
  refine WTs.nil (WKs.nil ⟨rfl, ?_⟩)
  refine insR_P3 B (c := cR L ord (Ld L k)) (lo := k) kk (fam.at_ 7 a7 _ rfl rfl) lk (askR_plain B) (fun i j hij _ hc => mR i j hij hc) fun r7 hr => ⟨rfl, ?_⟩
  rw [vR r7 _ lenk hr]
  have fam := fam.upd (i := 7) (a := a7) (l := insAt (ord.map (ltrPV L)) (max right k) (ltrPV L k)) rfl
  generalize PH.set _ a7 _ = H16 at fam ⊢
  exact tail _ _ a0 a1 a2 a3 a4 a5 a6 a7 la fam ⟨bd.rd, bd.rl, bd.rb, bd.hd, bd.hl, bd.hb, bd.oL, bd.oD⟩ ⟨rw_.rr, rw_.rk, rw_.hr, rw_.hk, rw_.ok⟩ rk rp rle rri rfl rfl
end
end Mine
end

-- part V15
set_option linter.all false
noncomputable section
namespace Mine
open PySem PySem.W PySem.Calls PyProof.Rows
set_option Elab.async false
set_option maxRecDepth 100000
section
variable {w : World} {hb : Heap} {os : OsState} {n : Nat} {H : PH} {env : Env} {ρ : Rho} {L D : Nat → PySem.Str} {ad al ab : Addr}
theorem sd_ins {g : Nat → PyData} {d : PyData} {m : Nat} (h : ∀ i, SD m (g i)) (hd : SD m d) (S : List Nat) (s : Nat) : SD (m + 1) (.list ((S.take s).map g ++ d :: (S.drop s).map g)) := SD.list fun e he => by
  rcases List.mem_append.mp he with he | he
  · obtain ⟨i, _, rfl⟩ := List.mem_map.mp he; exact h i
  · rcases List.mem_cons.mp he with rfl | he
    · exact hd
    · obtain ⟨i, _, rfl⟩ := List.mem_map.mp he; exact h i
theorem binAddL {Φ : PV → PH → Prop} {a b : Addr} {l m : List PV} (e1 : H a = some l) (e2 : H b = some m) (hs : l.length + m.length ≤ sizeLine) (h : ∀ c, H c = Option.none → Φ (.ref c) (H.set c (l ++ m))) : BinR H Φ .Add (.ref a) (.ref b) := ⟨l, m, e1, e2, hs, h⟩
theorem ins_len (l : List PV) (s : Nat) (x : PV) : (insAt l s x).length ≤ l.length + 1 := by
  show (l.take s ++ x :: l.drop s).length ≤ _
  rw [List.length_append, List.length_cons, List.length_take, List.length_drop]; omega
theorem line8 {k : Nat} (h : k ≤ 8) : k ≤ sizeLine := Nat.le_trans h (by decide)
set_option maxHeartbeats 8000000 in
theorem lawD5 (B : Base w hb) (he : EnvOk env) (kx : ∀ x, env.kindOf x = (scopeOf (st 22)).names.lookup x) (ap : CellsApart env) {H0 : PH} (bd0 : Beads H0 ρ L D ad al ab) {ar ak apl : Addr} {ord : List Nat} (rw0 : Row H0 ρ L D ar ak ord) {k left right : Nat} (hk : k < 8) (rk : ρ (S "k") = some (.int (k : Int))) (rp : ρ (S "places") = some (.ref apl))
    (rle : ρ (S "left") = some (.int (left : Int))) (rri : ρ (S "right") = some (.int (right : Int))) (rn : ρ (S "new") = some (newPV L k)) {a0 a1 a2 a3 a4 a5 a6 a7 la : Addr} (rla : ρ (S "laid") = some (.ref la))
    (fam : Fam H0 H [a0, a1, a2, a3, a4, a5, a6, a7, la] [insAt (ord.map (bead L D)) (min left k) (newPV L k), insAt (ord.map (bead L D)) (max left k) (newPV L k), insAt (ord.map (bead L D)) (min right k) (newPV L k), insAt (ord.map (bead L D)) (max right k) (newPV L k),
        insAt (ord.map (ltrPV L)) (min left k) (ltrPV L k), insAt (ord.map (ltrPV L)) (max left k) (ltrPV L k), insAt (ord.map (ltrPV L)) (min right k) (ltrPV L k), insAt (ord.map (ltrPV L)) (max right k) (ltrPV L k), [.ref a0, .ref a1, .ref a2, .ref a3, .ref a4, .ref a5, .ref a6, .ref a7]]) {Φ : Out → Rho → PH → Prop}
    (tail : ∀ ρ' H', PH.le H0 H' → Beads H' ρ' L D ad al ab → Row H' ρ' L D ar ak ord → ρ' (S "places") = some (.ref apl) → Φ .next ρ' H') : WF w hb os (n + 12) env ρ H (execs ((lawFor 11).drop 21) env) Φ := by
  have bd := bd0.le fam.le
  have rw_ := rw0.le fam.le
  have rl := bd.rl
  have rb := bd.rb
  have rr := rw_.rr
  have rkk := rw_.rk
  have ok := rw_.ok
  have len := ok.len
  have lb : (ord.map (bead L D)).length = 8 := by rw [List.length_map, len]
  have lk : (ord.map (ltrPV L)).length = 8 := by rw [List.length_map, len]
  have hla := fam.at_ 8 la _ rfl rfl
  have refsA : RefsAt H [a0, a1, a2, a3] ([min left k, max left k, min right k, max right k].map fun s => insAt (ord.map (bead L D)) s (newPV L k)) :=
    .cons (fam.at_ 0 a0 _ rfl rfl) (.cons (fam.at_ 1 a1 _ rfl rfl) (.cons (fam.at_ 2 a2 _ rfl rfl) (.cons (fam.at_ 3 a3 _ rfl rfl) .nil)))
  have refsB : RefsAt H [a4, a5, a6, a7] ([min left k, max left k, min right k, max right k].map fun s => insAt (ord.map (ltrPV L)) s (ltrPV L k)) :=
    .cons (fam.at_ 4 a4 _ rfl rfl) (.cons (fam.at_ 5 a5 _ rfl rfl) (.cons (fam.at_ 6 a6 _ rfl rfl) (.cons (fam.at_ 7 a7 _ rfl rfl) .nil)))
  refine wf_consL ?_
  intro Ps
  refine @wf_assign _ _ _ _ _ _ _ _ _ _ _ _ he (.inl ((kx _).trans (by rfl))) ?_ (by rfl)
  refine we_listx ?_
  refine WTs.cons ?_
  refine we_callL ?_
  intro Ps
  refine we_builtin B he ((kx _).trans (by rfl)) (by rfl) (by rfl) (fun _ => .blt) ⟨_, .blt, callee_blt, ?_⟩
  refine WTs.cons ?_
  refine we_local he ((kx _).trans (by rfl)) (by first | rfl | assumption) ?_
  refine WTs.cons ?_
  refine we_cell he ((kx _).trans (by rfl)) (by first | rfl | assumption) ?_
  refine WTs.nil (WKs.nil ⟨rfl, ?_⟩)
  refine wc_minN ?_
  refine WTs.cons ?_
  refine we_callL ?_
  intro Ps
  refine we_builtin B he ((kx _).trans (by rfl)) (by rfl) (by rfl) (fun _ => .blt) ⟨_, .blt, callee_blt, ?_⟩
  refine WTs.cons ?_
  refine we_local he ((kx _).trans (by rfl)) (by first | rfl | assumption) ?_
  refine WTs.cons ?_
  refine we_cell he ((kx _).trans (by rfl)) (by first | rfl | assumption) ?_
  refine WTs.nil (WKs.nil ⟨rfl, ?_⟩)
  refine wc_maxN ?_
  refine WTs.cons ?_
  refine we_callL ?_
  intro Ps
  refine we_builtin B he ((kx _).trans (by rfl)) (by rfl) (by rfl) (fun _ => .blt) ⟨_, .blt, callee_blt, ?_⟩
  refine WTs.cons ?_
  refine we_local he ((kx _).trans (by rfl)) (by first | rfl | assumption) ?_
  refine WTs.cons ?_
  refine we_cell he ((kx _).trans (by rfl)) (by first | rfl | assumption) ?_
  refine WTs.nil (WKs.nil ⟨rfl, ?_⟩)
  refine wc_minN ?_
  refine WTs.cons ?_
  refine we_callL ?_
  intro Ps
  refine we_builtin B he ((kx _).trans (by rfl)) (by rfl) (by rfl) (fun _ => .blt) ⟨_, .blt, callee_blt, ?_⟩
  refine WTs.cons ?_
  refine we_local he ((kx _).trans (by rfl)) (by first | rfl | assumption) ?_
  refine WTs.cons ?_
  refine we_cell he ((kx _).trans (by rfl)) (by first | rfl | assumption) ?_
  refine WTs.nil (WKs.nil ⟨rfl, ?_⟩)
  refine wc_maxN ?_
  refine WTs.nil ?_
  refine ⟨show 4 ≤ sizeLine by decide, fun c1 hc1 => ?_⟩
  generalize eH1 : PH.set H c1 _ = H1
  have leH1 := le_new eH1 hc1
  have atH1 := at_new eH1
  have hsp : H1 c1 = some (([min left k, max left k, min right k, max right k] : List Nat).map fun s : Nat => PV.int (s : Int)) := atH1
  generalize hspots : ([min left k, max left k, min right k, max right k] : List Nat) = sp at hsp refsA refsB
  have sp4 : sp.length = 4 := by rw [← hspots]; rfl
  have bd1 := bd.le leH1
  have rw1 := rw_.le leH1
  refine wf_consL ?_
  intro Ps
  refine wf_assign_compx he ((kx _).trans (by rfl)) (CompOk.of [Mine.S "row", Mine.S "new"] (fun x hx => ?_) rfl (by kernel_rfl)) ?_ (swaps_local he ((kx _).trans (by rfl)) (by rfl) (by kernel_rfl))
  · rcases List.mem_cons.mp hx with rfl | hx
    · exact (kx _).trans (by rfl)
    · rw [List.mem_singleton.mp hx]; exact (kx _).trans (by rfl)
  refine wi_list ?_
  refine we_local he ((kx _).trans (by rfl)) (by first | rfl | assumption) ?_
  refine ⟨c1, _, rfl, hsp, fun j ys H' => PH.le H1 H' ∧ ∃ cs : List Addr, ys = cs.map .ref ∧ RefsAt H' cs ((sp.take j).map fun s => insAt (ord.map (bead L D)) s (newPV L k)), sp.map fun s : Nat => PV.int (s : Int), trivial, by rw [List.length_map, sp4]; decide, ⟨PH.le.refl, [], rfl, .nil⟩, ?_, ?_, ?_⟩
  · rintro j ys H' ⟨hle, _⟩; exact hle _ _ hsp
  · rintro j ys H' x hx ⟨hle, cs, rfl, hr⟩ C he'
    obtain ⟨s, hs, rfl⟩ := map_item hx
    refine wa_name he' (.inl ⟨rfl, List.mem_singleton.mpr rfl⟩) ?_
    refine comp_plain ?_
    have he0 := he
    have kx0 := kx
    have he := he'
    have kx := kxOf he'
    refine we_binopL ?_
    intro Ps
    refine we_binopL ?_
    intro Ps
    refine we_slice ?_
    refine we_cell he (ckind he0 (by rfl) ((kx0 _).trans (by rfl))) (cval he0 (by rfl) ((kx0 _).trans (by rfl)) (by first | assumption | exact rr)) ?_
    refine we_local he ((kx _).trans (by rfl)) (by first | rfl | assumption) ?_
    refine ⟨_, rfl, ?_⟩
    refine ⟨(fun e => nomatch e), ar, _, rfl, hle _ _ rw1.hr, line8 (Nat.le_of_eq lb), fun d1 hd1 => ?_⟩
    rw [pick_upto]
    generalize eH2 : PH.set H' d1 _ = H2
    have leH2 := le_new eH2 hd1
    have atH2 := at_new eH2
    refine we_listx ?_
    refine WTs.cons ?_
    refine we_cell he (ckind he0 (by rfl) ((kx0 _).trans (by rfl))) (cval he0 (by rfl) ((kx0 _).trans (by rfl)) (by first | assumption | exact rn)) ?_
    refine WTs.nil ?_
    refine ⟨show 1 ≤ sizeLine by decide, fun d2 hd2 => ?_⟩
    generalize eH3 : PH.set H2 d2 _ = H3
    have leH3 := le_new eH3 hd2
    have atH3 := at_new eH3
    refine binAddL (leH3 _ _ atH2) atH3 (Nat.le_trans (m := 9) (by rw [List.length_take, lb, List.length_singleton]; omega) (by decide)) fun d3 hd3 => ?_
    generalize eH4 : PH.set H3 d3 _ = H4
    have leH4 := le_new eH4 hd3
    have atH4 := at_new eH4
    refine we_slice ?_
    refine we_cell he (ckind he0 (by rfl) ((kx0 _).trans (by rfl))) (cval he0 (by rfl) ((kx0 _).trans (by rfl)) (by first | assumption | exact rr)) ?_
    refine we_local he ((kx _).trans (by rfl)) (by first | rfl | assumption) ?_
    refine ⟨_, rfl, ?_⟩
    refine ⟨(fun e => nomatch e), ar, _, rfl, leH4 _ _ (leH3 _ _ (leH2 _ _ (hle _ _ rw1.hr))), line8 (Nat.le_of_eq lb), fun d4 hd4 => ?_⟩
    rw [pick_from]
    generalize eH5 : PH.set H4 d4 _ = H5
    have leH5 := le_new eH5 hd4
    have atH5 := at_new eH5
    refine binAddL (leH5 _ _ atH4) atH5 (Nat.le_trans (m := 17) (by rw [List.length_append, List.length_take, List.length_drop, lb, List.length_singleton]; omega) (by decide)) fun d5 hd5 => ?_
    generalize eH6 : PH.set H5 d5 _ = H6
    have leH6 := le_new eH6 hd5
    have atH6 := at_new eH6
    have lall : PH.le H' H6 := (((leH2.trans leH3).trans leH4).trans leH5).trans leH6
    refine ⟨hle.trans lall, cs ++ [d5], by rw [List.map_append]; rfl, ?_⟩
    rw [take_map_succ _ hs]
    refine (hr.le lall).append (.cons ?_ .nil)
    rw [atH6, List.append_assoc]; rfl
  rintro ys H2 ⟨le2, cs, rfl, refs1⟩ cd hcd
  rw [List.length_map, List.take_length] at refs1
  generalize eH3 : PH.set H2 cd _ = H3
  have leH3 := le_new eH3 hcd
  have atH3 := at_new eH3
  have le3 : PH.le H H3 := leH1.trans (le2.trans leH3)
  have bd3 := bd.le le3
  have rw3 := rw_.le le3
  have refs1 := refs1.le leH3
  have hsp3 := leH3 _ _ (le2 _ _ hsp)
  refine wf_consL ?_
  intro Ps
  refine wf_if (WB.drop (Φ := fun b H' => b = false ∧ PH.le H3 H') ?_ ?_)
  · refine wb_cmp1 ?_
    refine we_local he ((kx _).trans (by rfl)) (by first | rfl | assumption) ?_
    refine we_binopL ?_
    intro Ps
    refine we_local he ((kx _).trans (by rfl)) (by first | rfl | assumption) ?_
    refine we_compx he (CompOk.of [Mine.S "ranked", Mine.S "letters", Mine.S "k"] (fun x hx => ?_) rfl (by kernel_rfl)) ?_
    · rcases List.mem_cons.mp hx with rfl | hx
      · exact (kx _).trans (by rfl)
      · rcases List.mem_cons.mp hx with rfl | hx
        · exact (kx _).trans (by rfl)
        · rw [List.mem_singleton.mp hx]; exact (kx _).trans (by rfl)
    refine wi_list ?_
    refine we_local he ((kx _).trans (by rfl)) (by first | rfl | assumption) ?_
    refine ⟨c1, _, rfl, hsp3, fun j ys H' => PH.le H3 H' ∧ ∃ cs : List Addr, ys = cs.map .ref ∧ RefsAt H' cs ((sp.take j).map fun s => insAt (ord.map (ltrPV L)) s (ltrPV L k)), sp.map fun s : Nat => PV.int (s : Int), trivial, by rw [List.length_map, sp4]; decide, ⟨PH.le.refl, [], rfl, .nil⟩, ?_, ?_, ?_⟩
    · rintro j ys H' ⟨hle, _⟩; exact hle _ _ hsp3
    · rintro j ys H' x hx ⟨hle, cs', rfl, hr⟩ C he'
      obtain ⟨s, hs, rfl⟩ := map_item hx
      refine wa_name he' (.inl ⟨rfl, List.mem_singleton.mpr rfl⟩) ?_
      refine comp_plain ?_
      have he0 := he
      have kx0 := kx
      have he := he'
      have kx := kxOf he'
      refine we_binopL ?_
      intro Ps
      refine we_binopL ?_
      intro Ps
      refine we_slice ?_
      refine we_cell he (ckind he0 (by rfl) ((kx0 _).trans (by rfl))) (cval he0 (by rfl) ((kx0 _).trans (by rfl)) (by first | assumption | exact rkk)) ?_
      refine we_local he ((kx _).trans (by rfl)) (by first | rfl | assumption) ?_
      refine ⟨_, rfl, ?_⟩
      refine ⟨(fun e => nomatch e), ak, _, rfl, hle _ _ rw3.hk, line8 (Nat.le_of_eq lk), fun d1 hd1 => ?_⟩
      rw [pick_upto]
      generalize eH4 : PH.set H' d1 _ = H4
      have leH4 := le_new eH4 hd1
      have atH4 := at_new eH4
      refine we_listx ?_
      refine WTs.cons ?_
      refine we_indexL ?_
      intro Ps
      refine we_cell he (ckind he0 (by rfl) ((kx0 _).trans (by rfl))) (cval he0 (by rfl) ((kx0 _).trans (by rfl)) (by first | assumption | exact rl)) ?_
      refine we_cell he (ckind he0 (by rfl) ((kx0 _).trans (by rfl))) (cval he0 (by rfl) ((kx0 _).trans (by rfl)) (by first | assumption | exact rk)) ?_
      refine ⟨_, k, _, leH4 _ _ (hle _ _ bd3.hl), len8, seqIndex_nat hk, range8_at hk, ?_⟩
      refine WTs.nil ?_
      refine ⟨show 1 ≤ sizeLine by decide, fun d2 hd2 => ?_⟩
      generalize eH5 : PH.set H4 d2 _ = H5
      have leH5 := le_new eH5 hd2
      have atH5 := at_new eH5
      refine binAddL (leH5 _ _ atH4) atH5 (Nat.le_trans (m := 9) (by rw [List.length_take, lk, List.length_singleton]; omega) (by decide)) fun d3 hd3 => ?_
      generalize eH6 : PH.set H5 d3 _ = H6
      have leH6 := le_new eH6 hd3
      have atH6 := at_new eH6
      refine we_slice ?_
      refine we_cell he (ckind he0 (by rfl) ((kx0 _).trans (by rfl))) (cval he0 (by rfl) ((kx0 _).trans (by rfl)) (by first | assumption | exact rkk)) ?_
      refine we_local he ((kx _).trans (by rfl)) (by first | rfl | assumption) ?_
      refine ⟨_, rfl, ?_⟩
      refine ⟨(fun e => nomatch e), ak, _, rfl, leH6 _ _ (leH5 _ _ (leH4 _ _ (hle _ _ rw3.hk))), line8 (Nat.le_of_eq lk), fun d4 hd4 => ?_⟩
      rw [pick_from]
      generalize eH7 : PH.set H6 d4 _ = H7
      have leH7 := le_new eH7 hd4
      have atH7 := at_new eH7
      refine binAddL (leH7 _ _ atH6) atH7 (Nat.le_trans (m := 17) (by rw [List.length_append, List.length_take, List.length_drop, lk, List.length_singleton]; omega) (by decide)) fun d5 hd5 => ?_
      generalize eH8 : PH.set H7 d5 _ = H8
      have leH8 := le_new eH8 hd5
      have atH8 := at_new eH8
      have lall : PH.le H' H8 := (((leH4.trans leH5).trans leH6).trans leH7).trans leH8
      refine ⟨hle.trans lall, cs' ++ [d5], by rw [List.map_append]; rfl, ?_⟩
      rw [take_map_succ _ hs]
      refine (hr.le lall).append (.cons ?_ .nil)
      rw [atH8, List.append_assoc]; rfl
    rintro ys H4 ⟨le4, cs', rfl, refs2⟩ ce hce
    rw [List.length_map, List.take_length] at refs2
    generalize eH5 : PH.set H4 ce _ = H5
    have leH5 := le_new eH5 hce
    have atH5 := at_new eH5
    have le45 := le4.trans leH5
    have l1 := refs1.length
    have l2 := refs2.length
    rw [List.length_map, sp4] at l1 l2
    refine binAddL (le45 _ _ atH3) atH5 (Nat.le_trans (m := 8) (by rw [List.length_map, List.length_map, l1, l2]; omega) (by decide)) fun cg hcg => ?_
    generalize eH6 : PH.set H5 cg _ = H6
    have leH6 := le_new eH6 hcg
    have atH6 := at_new eH6
    have le06 : PH.le H H6 := le3.trans (le45.trans leH6)
    let dR : Nat → List PyData := fun s => (ord.take s).map (beadD L D) ++ newD L k :: (ord.drop s).map (beadD L D)
    let dK : Nat → List PyData := fun s => (ord.take s).map (fun i => PyData.str (L i)) ++ PyData.str (L k) :: (ord.drop s).map (fun i => PyData.str (L i))
    have pR : ∀ s, PDs H6 (insAt (ord.map (bead L D)) s (newPV L k)) (dR s) := fun s => ins_pds (fun i => pd_bead) (.tup (.cons .str (.cons .str (.cons .int .nil)))) ord s
    have pK : ∀ s, PDs H6 (insAt (ord.map (ltrPV L)) s (ltrPV L k)) (dK s) := fun s => ins_pds (g := fun i => PyData.str (L i)) (fun i => .str) .str ord s
    have sNew : SD 1 (newD L k) := SD.tup fun d hd => by
      rcases List.mem_cons.mp hd with rfl | hd
      · exact .str (bd.oL k)
      · rcases List.mem_cons.mp hd with rfl | hd
        · exact .str (by decide +kernel)
        · rw [List.mem_singleton.mp hd]; exact .int
    have sR : ∀ s, SD 2 (.list (dR s)) := fun s => sd_ins (fun i => sd_bead bd.oL bd.oD) sNew ord s
    have sK : ∀ s, SD 2 (.list (dK s)) := fun s => sd_ins (m := 1) (fun i => .str (bd.oL i)) (.str (bd.oL k)) ord s
    refine ne_same (m := 3) (d := .list ((sp.map fun s => .list (dR s)) ++ sp.map fun s => .list (dK s))) (.ref (le06 _ _ hla) ?_) (.ref atH6 ?_) (SD.list fun d hd => ?_) ?_
    · exact ((refsA.le le06).pds pR).append ((refsB.le le06).pds pK)
    · exact ((refs1.le (le45.trans leH6)).pds pR).append ((refs2.le (leH5.trans leH6)).pds pK)
    · rcases List.mem_append.mp hd with hd | hd
      · obtain ⟨s, _, rfl⟩ := List.mem_map.mp hd; exact sR s
      · obtain ⟨s, _, rfl⟩ := List.mem_map.mp hd; exact sK s
    · exact ⟨false, rfl, rfl, le45.trans leH6⟩
  rintro b H' ⟨rfl, hle⟩
  refine ⟨H3, hle, ?_⟩
  rw [if_neg Bool.false_ne_true]
  refine wf_nil ?_
  refine wf_nil ?_
  exact tail _ _ (fam.le.trans le3) ⟨bd3.rd, bd3.rl, bd3.rb, bd3.hd, bd3.hl, bd3.hb, bd3.oL, bd3.oD⟩ ⟨rw3.rr, rw3.rk, rw3.hr, rw3.hk, rw3.ok⟩ rp
end
end Mine
end

-- part V16
set_option linter.all false
noncomputable section
namespace Mine
open PySem PySem.W PySem.Calls PyProof.Rows
set_option Elab.async false
set_option maxRecDepth 100000
section
variable {w : World} {hb : Heap} {os : OsState} {n : Nat} {H : PH} {env : Env} {ρ : Rho} {L D : Nat → PySem.Str} {ad al ab : Addr}
theorem Beads.rho {ρ' : Rho} (b : Beads H ρ L D ad al ab) (h1 : ρ' (S "drawn") = ρ (S "drawn")) (h2 : ρ' (S "letters") = ρ (S "letters")) (h3 : ρ' (S "beads") = ρ (S "beads")) : Beads H ρ' L D ad al ab := ⟨h1.trans b.rd, h2.trans b.rl, h3.trans b.rb, b.hd, b.hl, b.hb, b.oL, b.oD⟩
theorem Row.rho {ρ' : Rho} {ar ak : Addr} {ord : List Nat} (b : Row H ρ L D ar ak ord) (h1 : ρ' (S "row") = ρ (S "row")) (h2 : ρ' (S "ranked") = ρ (S "ranked")) : Row H ρ' L D ar ak ord := ⟨h1.trans b.rr, h2.trans b.rk, b.hr, b.hk, b.ok⟩
theorem OrdOk.pos {ord : List Nat} (o : OrdOk L ord) : ∃ pos : Nat → Nat, ∀ k, k < 8 → ord[pos k]? = some k := by
  have h : ∀ k : Nat, ∃ p : Nat, k < 8 → ord[p]? = some k := fun k => by
    by_cases hk : k < 8
    · obtain ⟨i, hi⟩ := List.mem_iff_getElem?.mp (o.mem.mpr hk)
      exact ⟨i, fun _ => hi⟩
    · exact ⟨0, fun h => (hk h).elim⟩
  exact Classical.skolem.mp h
noncomputable abbrev posPV (pos : Nat → Nat) (k : Nat) : PV := .int ((pos k : Nat) : Int)
set_option maxHeartbeats 4000000 in
theorem lawD (B : Base w hb) (he : EnvOk env) (kx : ∀ x, env.kindOf x = (scopeOf (st 22)).names.lookup x) (ap : CellsApart env) (bd : Beads H ρ L D ad al ab) {ar ak : Addr} {ord : List Nat} (rw_ : Row H ρ L D ar ak ord) {pos : Nat → Nat} (hpos : ∀ k, k < 8 → ord[pos k]? = some k) {Φ : Out → Rho → PH → Prop}
    (tail : ∀ ρ' H' apl, Beads H' ρ' L D ad al ab → ρ' (S "places") = some (.ref apl) → H' apl = some ((List.range 8).map (posPV pos)) → WF w hb os (n + 12) env ρ' H' (execs (lawB 12) env) Φ) : WF w hb os (n + 12) env ρ H (execs (lawB 10) env) Φ := by
  refine wf_consL ?_
  intro Ps
  refine @wf_assign _ _ _ _ _ _ _ _ _ _ _ _ he (.inl ((kx _).trans (by rfl))) ?_ (by rfl)
  refine we_listx ?_
  refine WTs.nil ?_
  refine ⟨Nat.zero_le _, fun apl hapl => ?_⟩
  have off := bd.off hapl
  have offr := ne_new rw_.hr hapl
  have offk := ne_new rw_.hk hapl
  generalize eH1 : PH.set H apl _ = H1
  have leH1 := le_new eH1 hapl
  have atH1 := at_new eH1
  have bd := bd.le leH1
  have rw_ := rw_.le leH1
  refine wf_consL ?_
  intro Ps
  let Jv1 : Nat → Rho → PH → Prop := fun k ρ' H' => Beads H' ρ' L D ad al ab ∧ Row H' ρ' L D ar ak ord ∧ ρ' (S "places") = some (.ref apl) ∧ H' apl = some ((List.range k).map (posPV pos)) ∧ k ≤ 8
  refine wf_for Jv1 ?_
  refine wi_range ?_
  refine we_callL ?_
  intro Ps
  refine we_builtin B he ((kx _).trans (by rfl)) (by rfl) (by rfl) (fun _ => .typ) ⟨_, .typ, callee_typ, ?_⟩
  refine WTs.cons ?_
  refine we_intc ?_
  refine WTs.nil (WKs.nil ⟨rfl, ?_⟩)
  refine wc_range1 ?_
  refine ⟨0, 8, rfl, by decide, by decide, by decide, by decide, (List.range 8).map fun i : Nat => PV.int (0 + (i : Int)), trivial, ⟨bd.rho rfl rfl rfl, rw_.rho rfl rfl, rfl, atH1, Nat.zero_le _⟩, ?_, ?_, ?_⟩
  · rintro k ρ' H' _; rfl
  · rintro k ρ' H' x hx ⟨bd, rw_, rp, hpl, k8⟩
    obtain ⟨hk, rfl⟩ := rng_item hx
    have hp := hpos k hk
    refine wa_name he (CanStore.x (.inr ⟨(kx _).trans (by rfl), ap⟩)) ?_
    have bdk : Beads H' (ρ'.set (Mine.S "k") (.int (k : Int))) L D ad al ab := bd.rho rfl rfl rfl
    have rwk : Row H' (ρ'.set (Mine.S "k") (.int (k : Int))) L D ar ak ord := rw_.rho rfl rfl
    refine lawD1 (apl := apl) B he kx ap bdk rwk hk rfl hp rp ?_
    intro ρ1 H1 left right le1 bd1 rw1 rk1 rp1 rle1 rri1 rpl1 rfi1 fl fr
    refine lawD2 (apl := apl) B he kx ap bd1 rw1 hk rk1 hp rp1 rle1 rri1 rpl1 rfi1 fl fr ?_
    intro ρ2 H2 le2 bd2 rw2 rk2 rp2 rle2 rri2 rpl2
    refine lawD3 (apl := apl) B he kx ap bd2 rw2 hk rk2 hp rp2 rle2 rri2 rpl2 fl fr (le2 _ _ (le1 _ _ hpl)) (by rw [List.length_map, List.length_range]; exact k8) off offr offk ?_
    intro ρ3 H3 bd3 rw3 hpl3 rk3 rp3 rle3 rri3
    refine lawD4 (apl := apl) B he kx ap bd3 rw3 hk rk3 rp3 rle3 rri3 fl fr ?_
    intro ρ4 H4 a0 a1 a2 a3 a4 a5 a6 a7 la fam bd4 rw4 rk4 rp4 rle4 rri4 rn4 rla4
    refine lawD5 (apl := apl) B he kx ap bd4 rw4 hk rk4 rp4 rle4 rri4 rn4 rla4 fam ?_
    intro ρ5 H5 le5 bd5 rw5 rp5
    exact ⟨bd5, rw5, rp5, by rw [le5 _ _ hpl3, range_map_succ], hk⟩
  · rintro ρ' H' ⟨bd, rw_, rp, hpl, k8⟩
    refine wf_nil ?_
    exact tail _ _ apl bd rp hpl
end
end Mine
end

-- part V17
set_option linter.all false
noncomputable section
namespace Mine
open PySem PySem.W PySem.Calls PyProof.Rows
set_option Elab.async false
set_option maxRecDepth 100000
noncomputable abbrev castL (l : List Nat) : List Int := l.map fun i : Nat => (i : Int)
theorem castL_append (l m : List Nat) : castL (l ++ m) = castL l ++ castL m := List.map_append
theorem mem_castL {l : List Nat} {x : Nat} : (x : Int) ∈ castL l ↔ x ∈ l := by
  constructor
  · intro h
    obtain ⟨y, hy, e⟩ := List.mem_map.mp h
    have : y = x := by omega
    exact this ▸ hy
  · intro h; exact List.mem_map.mpr ⟨x, h, rfl⟩
theorem RefsAt.upd {H : PH} {a : Addr} {l : List PV} : ∀ {as ls}, (∀ c ∈ as, c ≠ a) → RefsAt H as ls → RefsAt (H.set a l) as ls
  | _, _, _, .nil => .nil
  | _, _, h, .cons e r => .cons (set_ne (h _ List.mem_cons_self) e) (r.upd fun c hc => h c (List.mem_cons_of_mem _ hc))
noncomputable abbrev ringPV (L D : Nat → PySem.Str) (rg : List Nat) : List PV := rg.map (bead L D)
section
variable {w : World} {hb : Heap} {os : OsState} {n : Nat} {H : PH} {env : Env} {ρ : Rho} {L D : Nat → PySem.Str} {ad al ab : Addr}
theorem notIn_ints {i : Int} {a : Addr} {ns : List Int} {Φ : PV → PH → Prop} (e : H a = some (ns.map .int)) (h : Φ (.bool (!decide (i ∈ ns))) H) : WO w hb os n H [.int i, .ref a] (two (compareOp .NotIn)) Φ := in_ints (.inr rfl) e (by rw [if_neg (by decide)]; exact h)
theorem ne_data {p q : PV} {d e : PyData} {Φ : PV → PH → Prop} (hd : PD H p d) (he : PD H q e) (sd : PySem.SeqAt.shaped d = true) (se : PySem.SeqAt.shaped e = true) (h : Φ (.bool (!PyData.eqv d e)) H) : WO w hb os (n + 1) H [p, q] (two (compareOp .NotEq)) Φ := eq_data (.inr rfl) hd he sd se (by rw [if_neg (by decide)]; exact h)
/-- the state of the search for the rings -/
structure RingSt (L D : Nat → PySem.Str) (ad al ab apl arr ag : Addr) (pos : Nat → Nat) (gone : List Nat) (cs : List Addr) (rs : List (List Nat)) (ρ : Rho) (H : PH) : Prop where
  bd : Beads H ρ L D ad al ab
  rp : ρ (S "places") = some (.ref apl)
  hp : H apl = some ((List.range 8).map (posPV pos))
  rr : ρ (S "rings") = some (.ref arr)
  rg : ρ (S "gone") = some (.ref ag)
  hr : H arr = some (cs.map .ref)
  hg : H ag = some ((castL gone).map .int)
  refs : RefsAt H cs (rs.map (ringPV L D))
  off : Off arr ad al ab ∧ Off ag ad al ab ∧ apl ≠ arr ∧ apl ≠ ag ∧ arr ≠ ag
  offc : ∀ c ∈ cs, c ≠ arr ∧ c ≠ ag
variable {apl arr ag : Addr} {pos : Nat → Nat} {gone : List Nat} {cs : List Addr} {rs : List (List Nat)}
theorem RingSt.le {H' : PH} (r : RingSt L D ad al ab apl arr ag pos gone cs rs ρ H) (h : PH.le H H') : RingSt L D ad al ab apl arr ag pos gone cs rs ρ H' := ⟨r.bd.le h, r.rp, h _ _ r.hp, r.rr, r.rg, h _ _ r.hr, h _ _ r.hg, r.refs.le h, r.off, r.offc⟩
theorem RingSt.rho {ρ' : Rho} (r : RingSt L D ad al ab apl arr ag pos gone cs rs ρ H) (h1 : ρ' (S "drawn") = ρ (S "drawn")) (h2 : ρ' (S "letters") = ρ (S "letters")) (h3 : ρ' (S "beads") = ρ (S "beads")) (h4 : ρ' (S "places") = ρ (S "places")) (h5 : ρ' (S "rings") = ρ (S "rings")) (h6 : ρ' (S "gone") = ρ (S "gone")) :
    RingSt L D ad al ab apl arr ag pos gone cs rs ρ' H := ⟨r.bd.rho h1 h2 h3, h4.trans r.rp, r.hp, h5.trans r.rr, h6.trans r.rg, r.hr, r.hg, r.refs, r.off, r.offc⟩
theorem RingSt.push (r : RingSt L D ad al ab apl arr ag pos gone cs rs ρ H) (s : Nat) : RingSt L D ad al ab apl arr ag pos (gone ++ [s]) cs rs ρ (H.set ag ((castL (gone ++ [s])).map .int)) :=
  ⟨r.bd.set r.off.2.1, r.rp, set_ne r.off.2.2.2.1 r.hp, r.rr, r.rg, set_ne r.off.2.2.2.2 r.hr, PH.set_self, r.refs.upd fun c hc => (r.offc c hc).2, r.off, r.offc⟩
theorem RingSt.add (r : RingSt L D ad al ab apl arr ag pos gone cs rs ρ H) {c : Addr} {rg : List Nat} (hc : H c = some (ringPV L D rg)) (h1 : c ≠ arr) (h2 : c ≠ ag) : RingSt L D ad al ab apl arr ag pos gone (cs ++ [c]) (rs ++ [rg]) ρ (H.set arr ((cs ++ [c]).map .ref)) :=
  ⟨r.bd.set r.off.1, r.rp, set_ne r.off.2.2.1 r.hp, r.rr, r.rg, PH.set_self, set_ne r.off.2.2.2.2.symm r.hg, by
    rw [List.map_append (f := ringPV L D)]
    exact ((r.refs.append (.cons hc .nil)).upd fun d hd => by
      rcases List.mem_append.mp hd with hd | hd
      · exact (r.offc d hd).1
      · rw [List.mem_singleton.mp hd]; exact h1), r.off, fun d hd => by
    rcases List.mem_append.mp hd with hd | hd
    · exact r.offc d hd
    · rw [List.mem_singleton.mp hd]; exact ⟨h1, h2⟩⟩
set_option maxHeartbeats 4000000 in
theorem lawE (B : Base w hb) (he : EnvOk env) (kx : ∀ x, env.kindOf x = (scopeOf (st 22)).names.lookup x) (ap : CellsApart env) (bd : Beads H ρ L D ad al ab) {ord : List Nat} (ok : OrdOk L ord) (hpos : ∀ k, k < 8 → ord[pos k]? = some k) (rp : ρ (S "places") = some (.ref apl)) (hp : H apl = some ((List.range 8).map (posPV pos))) {Φ : Out → Rho → PH → Prop}
    (tail : ∀ ρ' H' arr cs rs g, Beads H' ρ' L D ad al ab → ρ' (S "rings") = some (.ref arr) → H' arr = some (cs.map .ref) → RefsAt H' cs (rs.map (ringPV L D)) → Rings ord 8 g rs → WF w hb os (n + 12) env ρ' H' (execs (lawB 14) env) Φ) : WF w hb os (n + 12) env ρ H (execs (lawB 12) env) Φ := by
  have pos8 : ∀ k, k < 8 → pos k < 8 := fun k hk => by
    have := (List.getElem?_eq_some_iff.mp (hpos k hk)).1
    rwa [ok.len] at this
  refine wf_consL ?_
  intro Ps
  refine wf_two_swapped he ((kx _).trans (by rfl)) ((kx _).trans (by rfl)) ?_ rfl (swapped_some he ((kx _).trans (by rfl)) ((kx _).trans (by rfl)) (by rfl) (by decide))
  refine we_tuplex ?_
  refine WTs.cons ?_
  refine we_listx ?_
  refine WTs.nil ?_
  refine ⟨Nat.zero_le _, fun arr harr => ?_⟩
  have o1 := bd.off harr
  have n1 := ne_new hp harr
  generalize eH1 : PH.set H arr _ = H1
  have leH1 := le_new eH1 harr
  have atH1 := at_new eH1
  have bd := bd.le leH1
  have hp := leH1 _ _ hp
  refine WTs.cons ?_
  refine we_listx ?_
  refine WTs.nil ?_
  refine ⟨Nat.zero_le _, fun ag hag => ?_⟩
  have o2 := bd.off hag
  have n2 := ne_new hp hag
  have n3 := ne_new atH1 hag
  generalize eH2 : PH.set H1 ag _ = H2
  have leH2 := le_new eH2 hag
  have atH2 := at_new eH2
  have bd := bd.le leH2
  refine WTs.nil ?_
  refine ⟨show 2 ≤ sizeLine by decide, _, _, rfl, ?_⟩
  have st0 : RingSt L D ad al ab apl arr ag pos [] [] [] ((ρ.set (Mine.S "gone") (.ref ag)).set (Mine.S "rings") (.ref arr)) H2 := ⟨bd.rho rfl rfl rfl, rp, leH2 _ _ hp, rfl, rfl, leH2 _ _ atH1, atH2, .nil, ⟨o1, o2, n1, n2, n3⟩, fun _ h => nomatch h⟩
  refine wf_consL ?_
  intro Ps
  let Jv1 : Nat → Rho → PH → Prop := fun k ρ' H' => ∃ g cs rs, RingSt L D ad al ab apl arr ag pos g cs rs ρ' H' ∧ Rings ord k g rs ∧ k ≤ 8
  refine wf_for Jv1 ?_
  refine wi_range ?_
  refine we_callL ?_
  intro Ps
  refine we_builtin B he ((kx _).trans (by rfl)) (by rfl) (by rfl) (fun _ => .typ) ⟨_, .typ, callee_typ, ?_⟩
  refine WTs.cons ?_
  refine we_intc ?_
  refine WTs.nil (WKs.nil ⟨rfl, ?_⟩)
  refine wc_range1 ?_
  refine ⟨0, 8, rfl, by decide, by decide, by decide, by decide, (List.range 8).map fun i : Nat => PV.int (0 + (i : Int)), trivial, ⟨[], [], [], st0, .start, Nat.zero_le _⟩, ?_, ?_, ?_⟩
  · rintro k ρ' H' _; rfl
  · rintro k ρ' H' x hx ⟨g, cs, rs, st, rin, k8⟩
    obtain ⟨hk, rfl⟩ := rng_item hx
    refine wa_name he (CanStore.x (.inr ⟨(kx _).trans (by rfl), ap⟩)) ?_
    refine wf_consL ?_
    intro Ps
    refine @wf_assign _ _ _ _ _ _ _ _ _ _ _ _ he (.inl ((kx _).trans (by rfl))) ?_ (by rfl)
    refine we_listx ?_
    refine WTs.nil ?_
    refine ⟨Nat.zero_le _, fun r0 hr0 => ?_⟩
    have m1 := (ne_new st.hr hr0).symm
    have m2 := (ne_new st.hg hr0).symm
    generalize eH3 : PH.set H' r0 _ = H3
    have leH3 := le_new eH3 hr0
    have atH3 := at_new eH3
    have st3 := st.le leH3
    refine wf_consL ?_
    intro Ps
    refine @wf_assign _ _ _ _ _ _ _ _ _ _ _ _ he (.inl ((kx _).trans (by rfl))) ?_ (by rfl)
    refine we_cell he ((kx _).trans (by rfl)) (by first | rfl | assumption) ?_
    refine wf_consL ?_
    intro Ps
    let Jv2 : Nat → Rho → PH → Prop := fun m ρ'' H'' => ∃ ch s rad, RingSt L D ad al ab apl arr ag pos (g ++ ch.reverse) cs rs ρ'' H'' ∧ ρ'' (Mine.S "ring") = some (.ref rad) ∧ ρ'' (Mine.S "spot") = some (.int ((s : Nat) : Int)) ∧ H'' rad = some (ringPV L D ch) ∧ rad ≠ arr ∧ rad ≠ ag ∧ Chain ord g k ch s ∧ m = 8 - ch.length
    refine wf_while Jv2 8
      ⟨[], k, r0, by rw [List.reverse_nil, List.append_nil]; exact st3.rho rfl rfl rfl rfl rfl rfl, rfl, rfl, atH3, m1, m2, .start hk, rfl⟩ ?_
    rintro m ρ1 H4 ⟨ch, s, rad, st4, rri, rsp, hrad, d1, d2, chn, rfl⟩
    have rgo := st4.rg
    have rbe := st4.bd.rb
    have rpl := st4.rp
    have rrs := st4.rr
    refine wb_cmp1 ?_
    refine we_local he ((kx _).trans (by rfl)) (by first | rfl | assumption) ?_
    refine we_local he ((kx _).trans (by rfl)) (by first | rfl | assumption) ?_
    refine notIn_ints st4.hg ⟨_, rfl, ?_⟩
    by_cases hs : s ∈ g ∨ s ∈ ch
    · have hmem : (s : Int) ∈ castL (g ++ ch.reverse) := mem_castL.mpr (List.mem_append.mpr (hs.imp id List.mem_reverse.mpr))
      rw [decide_eq_true hmem, if_neg (by decide)]
      refine wf_nil ?_
      refine wf_consL ?_
      intro Ps
      refine wf_if ?_
      refine wb_cmp1 ?_
      refine we_local he ((kx _).trans (by rfl)) (by first | rfl | assumption) ?_
      refine we_listx ?_
      refine WTs.nil ?_
      refine ⟨Nat.zero_le _, fun c5 hc5 => ?_⟩
      generalize eH5 : PH.set H4 c5 _ = H5
      have leH5 := le_new eH5 hc5
      have atH5 := at_new eH5
      have st5 := st4.le leH5
      have sd : SD 2 (.list (ch.map (beadD L D))) := sd_map (fun x => sd_bead st4.bd.oL st4.bd.oD) _
      refine ne_data (pd_list (leH5 _ _ hrad) fun x => pd_bead) (.ref atH5 .nil) sd.shaped (by decide) ⟨_, rfl, ?_⟩
      by_cases hne : ch = []
      · subst hne
        have : (!PyData.eqv (PyData.list (List.map (beadD L D) [])) (PyData.list [])) = false := rfl
        rw [this, if_neg Bool.false_ne_true]
        refine wf_nil ?_
        refine wf_nil ?_
        have hsk := chn.first rfl
        subst hsk
        rw [List.reverse_nil, List.append_nil] at st5
        exact ⟨g, cs, rs, st5, rin.skip (hs.elim id fun h => nomatch h), hk⟩
      · have : (!PyData.eqv (PyData.list (List.map (beadD L D) ch)) (PyData.list [])) = true := by
          cases ch with
          | nil => exact (hne rfl).elim
          | cons x ch => rfl
        rw [this, if_pos rfl]
        refine wf_consL ?_
        intro Ps
        refine wf_expr (hi := inter_fn he) ?_
        refine we_methx F.plainAttrs_list F.slot_list_append ?_
        refine we_local he ((kx _).trans (by rfl)) (by first | rfl | assumption) ?_
        refine ⟨list_recv st5.hr, ?_⟩
        refine WTs.cons ?_
        refine we_local he ((kx _).trans (by rfl)) (by first | rfl | assumption) ?_
        refine WTs.nil ?_
        have hlen : cs.length ≤ sizeLine := by
          have h1 := st5.refs.length
          rw [List.length_map] at h1
          have : rs.length ≤ 8 := by
            have key : ∀ (rs : List (List Nat)), (∀ rg ∈ rs, Ring ord rg) → rs.Pairwise (fun a b => (∀ x ∈ a, x ∉ b) ∧ ∀ (x y : Nat), a[a.length - 1]? = some x → b[b.length - 1]? = some y → x < y) → ∃ l : List Nat, l.Nodup ∧ l.length = rs.length ∧ (∀ x ∈ l, x < 8) ∧ ∀ x ∈ l, ∃ rg ∈ rs, x ∈ rg := fun rs => by
              induction rs with
              | nil => intro _ _; exact ⟨[], .nil, rfl, (fun _ h => nomatch h), fun _ h => nomatch h⟩
              | cons a rs ih =>
                intro hr hp
                have hp := List.pairwise_cons.mp hp
                obtain ⟨l, l1, l2, l3, l4⟩ := ih (fun rg h => hr rg (List.mem_cons_of_mem _ h)) hp.2
                have ra := hr a List.mem_cons_self
                obtain ⟨x, hx⟩ := List.exists_mem_of_ne_nil a ra.ne
                refine ⟨x :: l, List.nodup_cons.mpr ⟨fun h => ?_, l1⟩, by rw [List.length_cons, List.length_cons, l2], fun y hy => ?_, fun y hy => ?_⟩
                · obtain ⟨rg, h1, h2⟩ := l4 x h
                  exact (hp.1 rg h1).1 x hx h2
                · rcases List.mem_cons.mp hy with rfl | hy
                  · exact ra.lt _ hx
                  · exact l3 y hy
                · rcases List.mem_cons.mp hy with rfl | hy
                  · exact ⟨a, List.mem_cons_self, hx⟩
                  · obtain ⟨rg, h1, h2⟩ := l4 y hy
                    exact ⟨rg, List.mem_cons_of_mem _ h1, h2⟩
            obtain ⟨l, l1, l2, l3, _⟩ := key rs rin.ring rin.sep
            rw [← l2]
            exact nodup_len 8 l l1 l3
          rw [h1]
          exact line8 this
        refine wc_append st5.hr (by rw [List.length_map]; exact hlen) ⟨rfl, ?_⟩
        refine wf_nil ?_
        refine wf_nil ?_
        have st6 := st5.add (leH5 _ _ hrad) d1 d2
        rw [List.map_append] at st6
        exact ⟨_, _, _, st6, rin.add chn hne hs, hk⟩
    · have hs1 : s ∉ g := fun h => hs (.inl h)
      have hs2 : s ∉ ch := fun h => hs (.inr h)
      have hmem : ¬ (s : Int) ∈ castL (g ++ ch.reverse) := fun h => by
        rcases List.mem_append.mp (mem_castL.mp h) with h | h
        · exact hs1 h
        · exact hs2 (List.mem_reverse.mp h)
      rw [decide_eq_false hmem, if_pos (by decide)]
      have s8 := chn.s8
      have glen : ((castL (g ++ ch.reverse)).map PV.int).length ≤ sizeLine := by
        rw [List.length_map, List.length_map]
        refine line8 (nodup_len 8 _ ?_ fun x hx => ?_)
        · exact List.nodup_append.mpr ⟨rin.nodup, (List.reverse_perm ch).nodup_iff.mpr chn.nodup, fun a ha b hb e => by subst e; exact chn.off a (List.mem_reverse.mp hb) ha⟩
        · rcases List.mem_append.mp hx with hx | hx
          · obtain ⟨rg, h1, h2⟩ := (rin.mem x).mp hx
            exact (rin.ring rg h1).lt x h2
          · exact chn.lt x (List.mem_reverse.mp hx)
      refine wf_consL ?_
      intro Ps
      refine wf_expr (hi := inter_fn he) ?_
      refine we_methx F.plainAttrs_list F.slot_list_append ?_
      refine we_local he ((kx _).trans (by rfl)) (by first | rfl | assumption) ?_
      refine ⟨list_recv st4.hg, ?_⟩
      refine WTs.cons ?_
      refine we_local he ((kx _).trans (by rfl)) (by first | rfl | assumption) ?_
      refine WTs.nil ?_
      refine wc_append st4.hg glen ⟨rfl, ?_⟩
      have st5 := st4.push s
      have e5 : (castL (g ++ ch.reverse)).map PV.int ++ [.int (s : Int)] = (castL (g ++ ch.reverse ++ [s])).map PV.int := ((congrArg (List.map PV.int) (castL_append (g ++ ch.reverse) [s])).trans List.map_append).symm
      rw [e5]
      have hrad5 : (H4.set ag ((castL (g ++ ch.reverse ++ [s])).map PV.int)) rad = some (ringPV L D ch) := set_ne d2 hrad
      generalize H4.set ag ((castL (g ++ ch.reverse ++ [s])).map PV.int) = H5 at st5 hrad5 ⊢
      refine wf_consL ?_
      intro Ps
      refine @wf_assign _ _ _ _ _ _ _ _ _ _ _ _ he (.inl ((kx _).trans (by rfl))) ?_ (by rfl)
      refine we_callL ?_
      intro Ps
      refine we_glob B he ((kx _).trans (by rfl)) (by rfl) ⟨_, .fn, callee_fn (B.K 71 _ (by rfl)) rfl, ?_⟩
      refine WTs.cons ?_
      refine we_listx ?_
      refine WTs.cons ?_
      refine we_indexL ?_
      intro Ps
      refine we_cell he ((kx _).trans (by rfl)) (by first | rfl | assumption) ?_
      refine we_local he ((kx _).trans (by rfl)) (by first | rfl | assumption) ?_
      refine ⟨_, s, _, st5.bd.hb, len8, seqIndex_nat s8, range8_at s8, ?_⟩
      refine WTs.nil ?_
      refine ⟨show 1 ≤ sizeLine by decide, fun c6 hc6 => ?_⟩
      generalize eH6 : PH.set H5 c6 _ = H6
      have leH6 := le_new eH6 hc6
      have atH6 := at_new eH6
      refine WTs.cons ?_
      refine we_local he ((kx _).trans (by rfl)) (by first | rfl | assumption) ?_
      refine WTs.nil (WKs.nil ⟨rfl, ?_⟩)
      refine spec_concat_list B atH6 (leH6 _ _ hrad5) (Nat.le_trans (m := 9) (by rw [List.length_singleton, List.length_map]; have := chn.len; omega) (by decide)) fun c7 hc7 => ?_
      have st6 := st5.le leH6
      have f1 := (ne_new st6.hr hc7).symm
      have f2 := (ne_new st6.hg hc7).symm
      generalize eH7 : PH.set H6 c7 _ = H7
      have leH7 := le_new eH7 hc7
      have atH7 := at_new eH7
      have st7 := st6.le leH7
      have hp7 := st7.hp
      refine wf_consL ?_
      intro Ps
      refine @wf_assign _ _ _ _ _ _ _ _ _ _ _ _ he (.inl ((kx _).trans (by rfl))) ?_ (by rfl)
      refine we_callL ?_
      intro Ps
      refine we_glob B he ((kx _).trans (by rfl)) (by rfl) ⟨_, .fn, callee_fn (B.K 85 _ (by rfl)) rfl, ?_⟩
      refine WTs.cons ?_
      refine we_local he ((kx _).trans (by rfl)) (by first | rfl | assumption) ?_
      refine WTs.cons ?_
      refine we_local he ((kx _).trans (by rfl)) (by first | rfl | assumption) ?_
      refine WTs.nil (WKs.nil ⟨rfl, ?_⟩)
      refine spec_getitem_list B (j := s) (x := posPV pos s) hp7 len8 (seqIndex_nat (by rw [List.length_map, List.length_range]; exact s8)) (range8_at s8) ?_
      refine wf_nil ?_
      refine ⟨8 - (ch.length + 1), by have := chn.len' hs2; omega, s :: ch, pos s, c7, ?_, rfl, rfl, atH7, f1, f2, chn.next hs1 hs2 (hpos s s8) (pos8 s s8), rfl⟩
      rw [List.reverse_cons, ← List.append_assoc]
      exact st7.rho rfl rfl rfl rfl rfl rfl
  · rintro ρ' H' ⟨g, cs, rs, st, rin, k8⟩
    refine wf_nil ?_
    have : ((List.range 8).map fun i : Nat => PV.int (0 + (i : Int))).length = 8 := rfl
    rw [this] at rin
    exact tail _ _ arr cs rs g st.bd st.rr st.hr st.refs rin
end
end Mine
end

-- part V18
set_option linter.all false
noncomputable section
namespace Mine
open PySem PySem.W PySem.Calls PyProof.Rows
set_option Elab.async false
set_option maxRecDepth 100000
theorem RefsAt.get {H : PH} {α : Type} {f : α → List PV} : ∀ {xs : List α} {as : List Addr} {i : Nat} {a : Addr}, RefsAt H as (xs.map f) → as[i]? = some a → ∃ x, xs[i]? = some x ∧ H a = some (f x)
  | [], _, i, a, .nil, h => nomatch h
  | x :: xs, _, 0, a, .cons e r, h => by obtain rfl := Option.some.inj h; exact ⟨x, rfl, e⟩
  | x :: xs, _, i + 1, a, .cons e r, h => RefsAt.get (xs := xs) (i := i) r h
theorem RefsAt.take {H : PH} : ∀ {as ls} (r : Nat), RefsAt H as ls → RefsAt H (as.take r) (ls.take r)
  | _, _, 0, _ => by rw [List.take_zero, List.take_zero]; exact .nil
  | _, _, r + 1, .nil => by rw [List.take_nil, List.take_nil]; exact .nil
  | _, _, r + 1, .cons e h => .cons e (h.take r)
theorem RefsAt.drop {H : PH} : ∀ {as ls} (r : Nat), RefsAt H as ls → RefsAt H (as.drop r) (ls.drop r)
  | _, _, 0, h => h
  | _, _, r + 1, .nil => .nil
  | _, _, r + 1, .cons e h => h.drop r
theorem RefsAt.ins {H : PH} {f : Nat → List PV} {S : List Nat} {as : List Addr} {r j : Nat} {a : Addr} (h : RefsAt H as (S.map f)) (e : H a = some (f j)) : RefsAt H (as.take r ++ a :: as.drop r) ((S.take r ++ j :: S.drop r).map f) := by
  rw [ins_map]
  exact (h.take r).append (.cons e (h.drop r))
noncomputable def wR (L : Nat → PySem.Str) (ord S : List Nat) (j i : Nat) : Bool := match S[i]? with | some s => !lexLt (word L ord j) (word L ord s) | none => false
noncomputable def wL (L : Nat → PySem.Str) (ord S : List Nat) (j i : Nat) : Bool := match S[i]? with | some s => lexLt (word L ord s) (word L ord j) | none => false
section
variable {L : Nat → PySem.Str} {S : List Nat} {c : Nat → Bool} {j r : Nat}
theorem ins_by (hS : S.Pairwise (R (Ld L))) (hc : ∀ (i s : Nat), S[i]? = some s → (c i = true ↔ R (Ld L) s j)) (hne : ∀ s ∈ S, s ≠ j) (f : Found c 0 S.length r) : (S.take r ++ j :: S.drop r).Pairwise (R (Ld L)) := by
  refine ins_sorted hS (fun i s hi e => (hc i s e).mp (f.2.2.1 i (Nat.zero_le _) hi)) fun i s hi e => ?_
  rcases R.tri (L := Ld L) (hne s (List.mem_of_getElem? e)) with q | q
  · have := f.2.2.2 i hi (List.getElem?_eq_some_iff.mp e).1
    rw [(hc i s e).mpr q] at this; cases this
  · exact q
theorem mono_by (hS : S.Pairwise (R (Ld L))) (hc : ∀ (i s : Nat), S[i]? = some s → (c i = true ↔ R (Ld L) s j)) {i k : Nat} (hik : i ≤ k) (hk : k < S.length) (h : c k = true) : c i = true := by
  have e1 : S[k]? = some S[k] := List.getElem?_eq_getElem hk
  have e2 : S[i]? = some (S[i]'(by omega)) := List.getElem?_eq_getElem (by omega)
  have r1 := (hc k _ e1).mp h
  refine (hc i _ e2).mpr ?_
  rcases R.mono hS hik e2 e1 with q | q
  · rw [q]; exact r1
  · exact q.trans r1
theorem sorted_nodup (hS : S.Pairwise (R (Ld L))) : S.Nodup := List.Pairwise.imp (S := fun a b => a ≠ b) (fun {a b} (h : R (Ld L) a b) (e : a = b) => R.irr (L := Ld L) a (by subst e; exact h)) hS
end
/-- a bead's turning, as it stands in its ring -/
structure Turning (ord : List Nat) (T : Nat → List Nat) (x : Nat) : Prop where
  at_ : ∃ rg a, Ring ord rg ∧ rg[a]? = some x ∧ T x = rot rg a
theorem Turning.lt {ord : List Nat} {T : Nat → List Nat} {x : Nat} (t : Turning ord T x) : x < 8 := let ⟨_, _, r, h, _⟩ := t.at_; r.lt x (List.mem_of_getElem? h)
section
variable {w : World} {hb : Heap} {os : OsState} {n : Nat} {H : PH} {env : Env} {ρ : Rho} {L D : Nat → PySem.Str} {ad al ab : Addr} {ord : List Nat} {T : Nat → List Nat}
noncomputable abbrev turnPV (L D : Nat → PySem.Str) (T : Nat → List Nat) (i : Nat) : List PV := ringPV L D (T i)
theorem endless_key (B : Base w hb) {x : Nat} (t : Turning ord T x) {a : Addr} (e : H a = some (turnPV L D T x)) {Φ : PV → PH → Prop} (h : ∀ c H', PH.le H H' → H' c = Option.none → Φ (.ref c) (H'.set c ((word L ord x).map .str))) : WC w hb os (n + 2) H (.ref 182) [.ref a] [] Φ := by
  obtain ⟨rg, b, r, hx, hT⟩ := t.at_
  have hlen : (rot rg b).length ≤ 8 := by rw [rot_len (Nat.le_of_lt (List.getElem?_eq_some_iff.mp hx).1)]; exact r.len8
  refine spec_endless B (bs := (rot rg b).map fun i : Nat => (L i, [PV.str (D i), PV.int (i : Int)])) ?_ (by rw [List.length_map]; omega) (fun y hy => ?_) fun c H' hle hc => ?_
  · rw [e, List.map_map]
    show some ((T x).map _) = _
    rw [hT]; rfl
  · obtain ⟨i, _, rfl⟩ := List.mem_map.mp hy
    show (2 : Nat) < 64; decide
  · have := h c H' hle hc
    rw [← r.word8 hx] at this
    rw [List.map_map]
    exact this
theorem askR_endless (B : Base w hb) {S : List Nat} {tds : List Addr} (hS : ∀ s ∈ S, Turning ord T s) (refs : RefsAt H tds (S.map (turnPV L D T))) {q : Addr} {j : Nat} (hq : H q = some ((word L ord j).map .str)) : KeyR w hb os (n + 2) H 182 (tds.map .ref) (.ref q) (wR L ord S j) :=
  ⟨callee_fn (B.K 182 _ (by rfl)) rfl, fun mid p hp => by
    obtain ⟨td, htd, rfl⟩ := map_item hp
    obtain ⟨s, hs, e⟩ := refs.get htd
    refine endless_key B (hS s (List.mem_of_getElem? hs)) e fun c H' hle hc => ?_
    refine lt_strs (set_ne (ne_new (hle _ _ hq) hc) (hle _ _ hq)) PH.set_self ⟨?_, hle.trans (PH.le_set hc)⟩
    unfold wR; rw [hs, Bool.not_not]⟩
theorem askL_endless (B : Base w hb) {S : List Nat} {tds : List Addr} (hS : ∀ s ∈ S, Turning ord T s) (refs : RefsAt H tds (S.map (turnPV L D T))) {q : Addr} {j : Nat} (hq : H q = some ((word L ord j).map .str)) : KeyL w hb os (n + 2) H 182 (tds.map .ref) (.ref q) (wL L ord S j) :=
  ⟨callee_fn (B.K 182 _ (by rfl)) rfl, fun mid p hp => by
    obtain ⟨td, htd, rfl⟩ := map_item hp
    obtain ⟨s, hs, e⟩ := refs.get htd
    refine endless_key B (hS s (List.mem_of_getElem? hs)) e fun c H' hle hc => ?_
    refine lt_strs PH.set_self (set_ne (ne_new (hle _ _ hq) hc) (hle _ _ hq)) ⟨?_, hle.trans (PH.le_set hc)⟩
    unfold wL; rw [hs]⟩
/-- the rings and a shelf under way -/
structure ShelfSt (L D : Nat → PySem.Str) (T : Nat → List Nat) (ord : List Nat) (ad al ab arr sh : Addr) (nm : PySem.Str) (cs : List Addr) (rs : List (List Nat)) (tds : List Addr) (Sh : List Nat) (ρ : Rho) (H : PH) : Prop where
  bd : Beads H ρ L D ad al ab
  rr : ρ (S "rings") = some (.ref arr)
  hr : H arr = some (cs.map .ref)
  refs : RefsAt H cs (rs.map (ringPV L D))
  rs : ρ nm = some (.ref sh)
  hs : H sh = some (tds.map .ref)
  td : RefsAt H tds (Sh.map (turnPV L D T))
  up : Sh.Pairwise (R (Ld L))
  tn : ∀ s ∈ Sh, Turning ord T s
  off : Off sh ad al ab ∧ arr ≠ sh ∧ (∀ c ∈ cs, c ≠ sh) ∧ ∀ t ∈ tds, t ≠ sh
variable {arr sh : Addr} {nm : PySem.Str} {cs : List Addr} {rs : List (List Nat)} {tds : List Addr} {Sh : List Nat}
theorem ShelfSt.le {H' : PH} (r : ShelfSt L D T ord ad al ab arr sh nm cs rs tds Sh ρ H) (h : PH.le H H') : ShelfSt L D T ord ad al ab arr sh nm cs rs tds Sh ρ H' := ⟨r.bd.le h, r.rr, h _ _ r.hr, r.refs.le h, r.rs, h _ _ r.hs, r.td.le h, r.up, r.tn, r.off⟩
theorem ShelfSt.rho {ρ' : Rho} (r : ShelfSt L D T ord ad al ab arr sh nm cs rs tds Sh ρ H) (h1 : ρ' (S "drawn") = ρ (S "drawn")) (h2 : ρ' (S "letters") = ρ (S "letters")) (h3 : ρ' (S "beads") = ρ (S "beads")) (h4 : ρ' (S "rings") = ρ (S "rings")) (h5 : ρ' nm = ρ nm) : ShelfSt L D T ord ad al ab arr sh nm cs rs tds Sh ρ' H :=
  ⟨r.bd.rho h1 h2 h3, h4.trans r.rr, r.hr, r.refs, h5.trans r.rs, r.hs, r.td, r.up, r.tn, r.off⟩
theorem ShelfSt.len (r : ShelfSt L D T ord ad al ab arr sh nm cs rs tds Sh ρ H) : tds.length = Sh.length ∧ Sh.length ≤ 8 := by
  have h1 := r.td.length
  rw [List.length_map] at h1
  exact ⟨h1, nodup_len 8 Sh (sorted_nodup r.up) fun x hx => (r.tn x hx).lt⟩
theorem ShelfSt.ins (r : ShelfSt L D T ord ad al ab arr sh nm cs rs tds Sh ρ H) {t : Addr} {j k : Nat} (ht : H t = some (turnPV L D T j)) (hne : t ≠ sh) (hj : Turning ord T j) (hup : (Sh.take k ++ j :: Sh.drop k).Pairwise (R (Ld L))) :
    ShelfSt L D T ord ad al ab arr sh nm cs rs (tds.take k ++ t :: tds.drop k) (Sh.take k ++ j :: Sh.drop k) ρ (H.set sh (insAt (tds.map .ref) k (.ref t))) := by
  have e : insAt (tds.map PV.ref) k (.ref t) = (tds.take k ++ t :: tds.drop k).map .ref := by rw [ins_map]
  have hof : ∀ d ∈ tds.take k ++ t :: tds.drop k, d ≠ sh := fun d hd => by
    rcases ins_mem.mp hd with rfl | hd
    · exact hne
    · exact r.off.2.2.2 d hd
  refine ⟨r.bd.set r.off.1, r.rr, set_ne r.off.2.1 r.hr, r.refs.upd r.off.2.2.1, r.rs, by rw [e]; exact PH.set_self, (RefsAt.upd hof (r.td.ins ht)), hup, fun s hs => ?_, r.off.1, r.off.2.1, r.off.2.2.1, hof⟩
  rcases ins_mem.mp hs with rfl | hs
  · exact hj
  · exact r.tn s hs
end
end Mine
end

-- part V19
set_option linter.all false
noncomputable section
namespace Mine
open PySem PySem.W PySem.Calls PyProof.Rows
set_option Elab.async false
set_option maxRecDepth 100000
theorem Rings.ahead {ord g : List Nat} {k : Nat} {rs : List (List Nat)} (r : Rings ord k g rs) {i j : Nat} {a b : List Nat} (hij : i < j) (ha : rs[i]? = some a) (hb : rs[j]? = some b) {x y : Nat} (hx : x ∈ a) (hy : y ∈ b) : Ahead ord x y := by
  have ma := List.mem_of_getElem? ha
  have mb := List.mem_of_getElem? hb
  obtain ⟨il, ie⟩ := List.getElem?_eq_some_iff.mp ha
  obtain ⟨jl, je⟩ := List.getElem?_eq_some_iff.mp hb
  have sep := List.pairwise_iff_getElem.mp r.sep i j il jl hij
  rw [ie, je] at sep
  obtain ⟨m1, a1, a2, a3⟩ := r.low a ma
  obtain ⟨m2, b1, b2, b3⟩ := r.low b mb
  exact .inr ⟨a, b, r.ring a ma, r.ring b mb, hx, hy, m1, m2, List.mem_of_getElem? a1, b3, sep.2 m1 m2 a1 b1⟩
theorem Rings.off {ord g : List Nat} {k : Nat} {rs : List (List Nat)} (r : Rings ord k g rs) {i j : Nat} {a b : List Nat} (hij : i < j) (ha : rs[i]? = some a) (hb : rs[j]? = some b) {x : Nat} (hx : x ∈ a) : x ∉ b := by
  obtain ⟨il, ie⟩ := List.getElem?_eq_some_iff.mp ha
  obtain ⟨jl, je⟩ := List.getElem?_eq_some_iff.mp hb
  have sep := List.pairwise_iff_getElem.mp r.sep i j il jl hij
  rw [ie, je] at sep
  exact sep.1 x hx
section
variable {w : World} {hb : Heap} {os : OsState} {n : Nat} {H : PH} {env : Env} {ρ : Rho} {L D : Nat → PySem.Str} {ad al ab : Addr} {ord : List Nat} {T : Nat → List Nat}
variable {arr : Addr} {cs : List Addr} {rs : List (List Nat)} {g : List Nat}
theorem gtInt {Φ : PV → PH → Prop} {a b : Int} (g : Φ (.bool (decide (b < a))) H) : CmpR H Φ .Gt (.int a) (.int b) := g
theorem isNotBool {Φ : PV → PH → Prop} {a b : Bool} (h : a = b) (k : Φ (.bool false) H) : CmpR H Φ .IsNot (.bool a) (.bool b) := by
  subst h
  show Φ (.bool (a != a)) H
  rw [bne_self_eq_false]; exact k
set_option maxHeartbeats 4000000 in
theorem lawF (B : Base w hb) (he : EnvOk env) (kx : ∀ x, env.kindOf x = (scopeOf (st 22)).names.lookup x) (bd : Beads H ρ L D ad al ab) (ok : OrdOk L ord) (rr : ρ (S "rings") = some (.ref arr)) (hr : H arr = some (cs.map .ref)) (refs : RefsAt H cs (rs.map (ringPV L D))) (rin : Rings ord 8 g rs)
    (hT : ∀ rg, rg ∈ rs → ∀ a x, rg[a]? = some x → T x = rot rg a) {Φ : Out → Rho → PH → Prop}
    (tail : ∀ ρ' H' sh tds Sh, ShelfSt L D T ord ad al ab arr sh (S "shelf") cs rs tds Sh ρ' H' → (∀ x, x ∈ Sh ↔ x < 8) → WF w hb os (n + 12) env ρ' H' (execs (lawB 16) env) Φ) : WF w hb os (n + 12) env ρ H (execs (lawB 14) env) Φ := by
  have lencs : cs.length = rs.length := by have := refs.length; rwa [List.length_map] at this
  refine wf_consL ?_
  intro Ps
  refine @wf_assign _ _ _ _ _ _ _ _ _ _ _ _ he (.inl ((kx _).trans (by rfl))) ?_ (by rfl)
  refine we_listx ?_
  refine WTs.nil ?_
  refine ⟨Nat.zero_le _, fun sh hsh => ?_⟩
  have o1 := bd.off hsh
  have o2 := ne_new hr hsh
  have o3 : ∀ c ∈ cs, c ≠ sh := fun c hc => by
    obtain ⟨i, hi⟩ := List.mem_iff_getElem?.mp hc
    obtain ⟨x, _, e⟩ := refs.get hi
    exact ne_new e hsh
  generalize eH1 : PH.set H sh _ = H1
  have leH1 := le_new eH1 hsh
  have atH1 := at_new eH1
  have st0 : ShelfSt L D T ord ad al ab arr sh (Mine.S "shelf") cs rs [] [] (ρ.set (Mine.S "shelf") (.ref sh)) H1 := ⟨(bd.le leH1).rho rfl rfl rfl, rr, leH1 _ _ hr, refs.le leH1, rfl, atH1, .nil, .nil, (fun _ h => nomatch h), o1, o2, o3, fun _ h => nomatch h⟩
  refine wf_consL ?_
  intro Ps
  let Jv1 : Nat → Rho → PH → Prop := fun k ρ' H' => ∃ tds Sh, ShelfSt L D T ord ad al ab arr sh (Mine.S "shelf") cs rs tds Sh ρ' H' ∧ ∀ x, x ∈ Sh ↔ ∃ rg ∈ rs.take k, x ∈ rg
  refine wf_for Jv1 ?_
  refine wi_list ?_
  refine we_local he ((kx _).trans (by rfl)) (by first | rfl | assumption) ?_
  refine ⟨arr, _, rfl, leH1 _ _ hr, cs.map .ref, trivial, ⟨[], [], st0, fun x => ⟨(fun h => nomatch h), fun ⟨_, h, _⟩ => by rw [List.take_zero] at h; exact nomatch h⟩⟩, ?_, ?_, ?_⟩
  · rintro k ρ' H' ⟨tds, Sh, st, _⟩; exact st.hr
  · rintro k ρ' H' x hx ⟨tds, Sh, st, mem⟩
    obtain ⟨rc, hrc, rfl⟩ := map_item hx
    obtain ⟨rg, hrg, erc⟩ := st.refs.get hrc
    have mrg := List.mem_of_getElem? hrg
    have ring := rin.ring rg mrg
    have l8 := ring.len8
    refine wa_name he (.inl ⟨(kx _).trans (by rfl), List.mem_cons_self⟩) ?_
    refine wf_consL ?_
    intro Ps
    refine wf_assign_compx he ((kx _).trans (by rfl)) (CompOk.of [] (fun x hx => nomatch hx) rfl (by kernel_rfl)) ?_ (swaps_local he ((kx _).trans (by rfl)) (by rfl) (by kernel_rfl))
    refine wi_list ?_
    refine we_local he ((kx _).trans (by rfl)) (by first | rfl | assumption) ?_
    refine ⟨rc, _, rfl, erc, fun j ys H2 => H2 = H' ∧ ys = (rg.take j).map (ltrPV L), ringPV L D rg, trivial, by rw [List.length_map]; exact line8 l8, ⟨rfl, rfl⟩, ?_, ?_, ?_⟩
    · rintro j ys H2 ⟨rfl, _⟩; exact erc
    · rintro j ys H2 x hx ⟨rfl, rfl⟩ C he'
      obtain ⟨i, hi, rfl⟩ := map_item hx
      refine wa_name he' (.inl ⟨rfl, List.mem_singleton.mpr rfl⟩) ?_
      refine comp_plain ?_
      have he := he'
      have kx := kxOf he'
      refine we_indexL ?_
      intro Ps
      refine we_local he ((kx _).trans (by rfl)) (by first | rfl | assumption) ?_
      refine we_intc ?_
      refine ⟨0, _, (by show (3 : Nat) < _; decide), rfl, rfl, ?_⟩
      exact ⟨rfl, (take_map_succ _ hi).symm⟩
    rintro ys H2 ⟨rfl, rfl⟩ wd hwd
    rw [List.length_map, List.take_length]
    have fsh := (ne_new st.hs hwd).symm
    generalize eH3 : PH.set H2 wd _ = H3
    have leH3 := le_new eH3 hwd
    have atH3 := at_new eH3
    have st3 := st.le leH3
    refine wf_consL ?_
    intro Ps
    refine @wf_assign _ _ _ _ _ _ _ _ _ _ _ _ he (.inl ((kx _).trans (by rfl))) ?_ (by rfl)
    refine we_callL ?_
    intro Ps
    refine we_glob B he ((kx _).trans (by rfl)) (by rfl) ⟨_, .fn, callee_fn (B.K 71 _ (by rfl)) rfl, ?_⟩
    refine WTs.cons ?_
    refine we_local he ((kx _).trans (by rfl)) (by first | rfl | assumption) ?_
    refine WTs.cons ?_
    refine we_local he ((kx _).trans (by rfl)) (by first | rfl | assumption) ?_
    refine WTs.nil (WKs.nil ⟨rfl, ?_⟩)
    refine spec_concat_list B atH3 atH3 (Nat.le_trans (m := 16) (by rw [List.length_map]; omega) (by decide)) fun db hdb => ?_
    generalize eH4 : PH.set H3 db _ = H4
    have leH4 := le_new eH4 hdb
    have atH4 := at_new eH4
    have st4 := st3.le leH4
    have hwd4 := leH4 _ _ atH3
    have sdS : ∀ l : List PySem.Str, (∀ x ∈ l, PyData.strOk x = true) → SD 1 (.list (l.map PyData.str)) := fun l hl => SD.list fun d hd => by
      obtain ⟨x, hx, rfl⟩ := List.mem_map.mp hd; exact .str (hl x hx)
    have okL : ∀ l : List Nat, ∀ x ∈ l.map L, PyData.strOk x = true := fun l x hx => by
      obtain ⟨i, _, rfl⟩ := List.mem_map.mp hx; exact bd.oL i
    have pdS : ∀ {H : PH} {a : Addr} {l : List Nat}, H a = some (l.map (ltrPV L)) → PD H (.ref a) (.list ((l.map L).map PyData.str)) := fun {H a l} e => by
      rw [List.map_map]; exact pd_list (g := fun i => PyData.str (L i)) e fun i => .str
    refine wf_consL ?_
    intro Ps
    refine wf_if (WB.drop (Φ := fun b H' => b = false ∧ PH.le H4 H') ?_ ?_)
    · refine wb_cmp1 ?_
      refine we_callL ?_
      intro Ps
      refine we_glob B he ((kx _).trans (by rfl)) (by rfl) ⟨_, .fn, callee_fn (B.K 64 _ (by rfl)) rfl, ?_⟩
      refine WTs.cons ?_
      refine we_local he ((kx _).trans (by rfl)) (by first | rfl | assumption) ?_
      refine WTs.cons ?_
      refine we_intc ?_
      refine WTs.nil (WKs.nil ⟨rfl, ?_⟩)
      refine spec_mul B (k := 2) hwd4 (by decide) (by rw [List.length_map]; omega) fun mm hmm => ?_
      have e2 : (List.replicate 2 (rg.map (ltrPV L))).flatten = (rg ++ rg).map (ltrPV L) := by simp
      rw [e2]
      generalize eH5 : PH.set H4 mm _ = H5
      have leH5 := le_new eH5 hmm
      have atH5 := at_new eH5
      refine we_local he ((kx _).trans (by rfl)) (by first | rfl | assumption) ?_
      have e3 : rg.map (ltrPV L) ++ rg.map (ltrPV L) = (rg ++ rg).map (ltrPV L) := List.map_append.symm
      rw [e3] at atH4
      exact ne_same (pdS atH5) (pdS (leH5 _ _ atH4)) (sdS _ (okL _)) ⟨false, rfl, rfl, leH5⟩
    rintro b H5 ⟨rfl, hle5⟩
    refine ⟨H4, hle5, ?_⟩
    rw [if_neg Bool.false_ne_true]
    refine wf_nil ?_
    refine wf_consL ?_
    intro Ps
    let Jv2 : Nat → Rho → PH → Prop := fun m ρ'' H'' => ∃ tds Sh, ShelfSt L D T ord ad al ab arr sh (Mine.S "shelf") cs rs tds Sh ρ'' H'' ∧ ρ'' (Mine.S "ring") = some (.ref rc) ∧ ρ'' (Mine.S "word") = some (.ref wd) ∧ ρ'' (Mine.S "double") = some (.ref db) ∧ H'' rc = some (ringPV L D rg) ∧ H'' wd = some (rg.map (ltrPV L)) ∧ H'' db = some (rg.map (ltrPV L) ++ rg.map (ltrPV L)) ∧
        rc ≠ sh ∧ wd ≠ sh ∧ db ≠ sh ∧ ∀ x, x ∈ Sh ↔ (∃ rg ∈ rs.take k, x ∈ rg) ∨ ∃ a, a < m ∧ rg[a]? = some x
    refine wf_for Jv2 ?_
    refine wi_range ?_
    refine we_callL ?_
    intro Ps
    refine we_builtin B he ((kx _).trans (by rfl)) (by rfl) (by rfl) (fun _ => .typ) ⟨_, .typ, callee_typ, ?_⟩
    refine WTs.cons ?_
    refine we_callL ?_
    intro Ps
    refine we_builtin B he ((kx _).trans (by rfl)) (by rfl) (by rfl) (fun _ => .blt) ⟨_, .blt, callee_blt, ?_⟩
    refine WTs.cons ?_
    refine we_local he ((kx _).trans (by rfl)) (by first | rfl | assumption) ?_
    refine WTs.nil (WKs.nil ⟨rfl, ?_⟩)
    refine wc_len (leH4 _ _ (leH3 _ _ erc)) (by rw [List.length_map]; omega) ?_
    refine WTs.nil (WKs.nil ⟨rfl, ?_⟩)
    refine wc_range1 ?_
    rw [List.length_map]
    refine ⟨0, (rg.length : Int), rfl, by decide, by decide, by omega, by omega, (List.range rg.length).map fun i : Nat => PV.int (0 + (i : Int)), trivial, ⟨tds, Sh, st4.rho rfl rfl rfl rfl rfl, rfl, rfl, rfl, leH4 _ _ (leH3 _ _ erc), hwd4, atH4, st.off.2.2.1 rc (List.mem_of_getElem? hrc), fsh, (ne_new st3.hs hdb).symm, fun x => by rw [mem]; exact ⟨.inl, fun h => h.elim id fun ⟨a, h, _⟩ => (Nat.not_lt_zero a h).elim⟩⟩, ?_, ?_, ?_⟩
    · rintro m ρ'' H'' _
      show _ = _
      have : ((rg.length : Int) - 0).toNat = rg.length := by omega
      rw [this]
    · rintro m ρ'' H'' x hx ⟨tds, Sh, st, r1, r2, r3, e1, e2, e3, f1, f2, f3, mem'⟩
      obtain ⟨hm, rfl⟩ := rng_item hx
      obtain ⟨j, hj⟩ : ∃ j, rg[m]? = some j := ⟨_, List.getElem?_eq_getElem hm⟩
      have tj : Turning ord T j := ⟨rg, m, ring, hj, hT rg mrg m j hj⟩
      have rsh := st.rs
      refine wa_name he (.inl ⟨(kx _).trans (by rfl), List.mem_cons_self⟩) ?_
      refine wf_consL ?_
      intro Ps
      refine @wf_assign _ _ _ _ _ _ _ _ _ _ _ _ he (.inl ((kx _).trans (by rfl))) ?_ (by rfl)
      refine we_slice ?_
      refine we_local he ((kx _).trans (by rfl)) (by first | rfl | assumption) ?_
      refine we_local he ((kx _).trans (by rfl)) (by first | rfl | assumption) ?_
      refine ⟨_, rfl, ?_⟩
      refine we_binopL ?_
      intro Ps
      refine we_local he ((kx _).trans (by rfl)) (by first | rfl | assumption) ?_
      refine we_callL ?_
      intro Ps
      refine we_builtin B he ((kx _).trans (by rfl)) (by rfl) (by rfl) (fun _ => .blt) ⟨_, .blt, callee_blt, ?_⟩
      refine WTs.cons ?_
      refine we_local he ((kx _).trans (by rfl)) (by first | rfl | assumption) ?_
      refine WTs.nil (WKs.nil ⟨rfl, ?_⟩)
      refine wc_len e1 (by rw [List.length_map]; omega) ?_
      rw [List.length_map]
      refine binAdd (c := ((m + rg.length : Nat) : Int)) (by omega) ⟨_, rfl, ?_⟩
      refine ⟨(fun e => nomatch e), db, _, rfl, e3, Nat.le_trans (m := 16) (by rw [List.length_append, List.length_map]; omega) (by decide), fun tu htu => ?_⟩
      rw [pick_mid _ (Nat.le_add_right _ _) (by rw [List.length_append, List.length_map]; omega), Nat.add_sub_cancel_left]
      have ecut : (((rg.map (ltrPV L) ++ rg.map (ltrPV L)).drop m).take rg.length) = (rot rg m).map (ltrPV L) := by
        have := double_cut (rg.map (ltrPV L)) (a := m) (by rw [List.length_map]; omega)
        rw [List.length_map] at this
        rw [this]; unfold rot; rw [List.map_append, List.map_drop, List.map_take]
      rw [ecut]
      generalize eH5 : PH.set H'' tu _ = H5
      have leH5 := le_new eH5 htu
      have atH5 := at_new eH5
      have st5 := st.le leH5
      have e1 := leH5 _ _ e1
      have e2 := leH5 _ _ e2
      have e3 := leH5 _ _ e3
      have differ : (!PyData.eqv (.list (((rot rg m).map L).map PyData.str)) (.list ((rg.map L).map PyData.str))) = decide ((0 : Int) < (m : Int)) := by
        show (!PyData.eqvAll _ _) = _
        rw [eqvAll_strs]
        by_cases h0 : m = 0
        · subst h0
          have : rot rg 0 = rg := by unfold rot; simp
          rw [this]; simp
        · have hne : (rot rg m).map L ≠ rg.map L := fun e => by
            obtain ⟨x0, hx0⟩ : ∃ x, rg[0]? = some x := ⟨_, List.getElem?_eq_getElem ring.pos⟩
            refine ring.apart ok (List.mem_of_getElem? hj) (List.mem_of_getElem? hx0) (fun h => ?_) fun u hu => ?_
            · subst h
              exact h0 (getElem?_inj ring.nodup hj hx0)
            · have e1 := ring.itr_at u m j hj
              have e2 := ring.itr_at u 0 x0 hx0
              rw [Nat.zero_add, Nat.mod_eq_of_lt hu] at e2
              have := congrArg (fun l => l[u]?) e
              rw [List.getElem?_map, List.getElem?_map, rot_at hm hu, e1, e2] at this
              exact Option.some.inj this
          rw [decide_eq_false hne, decide_eq_true (by omega)]; rfl
      have differ' : (!PyData.eqv (.list ((rg.map L).map PyData.str)) (.list (((rot rg m).map L).map PyData.str))) = decide ((0 : Int) < (m : Int)) := by
        rw [← differ]
        show (!PyData.eqvAll _ _) = (!PyData.eqvAll _ _)
        rw [eqvAll_strs, eqvAll_strs]
        congr 1
        by_cases h : rg.map L = (rot rg m).map L
        · rw [decide_eq_true h, decide_eq_true h.symm]
        · rw [decide_eq_false h, decide_eq_false fun e => h e.symm]
      refine wf_consL ?_
      intro Ps
      refine wf_if ?_
      refine wb_bool ?_
      refine wb_cons ?_
      refine wb_cmpL B ?_
      intro Ps
      refine we_callL ?_
      intro Ps
      refine we_glob B he ((kx _).trans (by rfl)) (by rfl) ⟨_, .fn, callee_fn (B.K 57 _ (by rfl)) rfl, ?_⟩
      refine WTs.cons ?_
      refine we_local he ((kx _).trans (by rfl)) (by first | rfl | assumption) ?_
      refine WTs.cons ?_
      refine we_local he ((kx _).trans (by rfl)) (by first | rfl | assumption) ?_
      refine WTs.nil (WKs.nil ⟨rfl, ?_⟩)
      refine spec_ne B (pdS atH5) (pdS e2) (sdS _ (okL _)).shaped (sdS _ (okL _)).shaped ?_
      refine we_cmpL B ?_
      intro Ps
      refine we_local he ((kx _).trans (by rfl)) (by first | rfl | assumption) ?_
      refine we_intc ?_
      refine gtInt ?_
      refine isNotBool differ ⟨false, rfl, ?_⟩
      refine wb_cons ?_
      refine wb_cmpL B ?_
      intro Ps
      refine we_callL ?_
      intro Ps
      refine we_glob B he ((kx _).trans (by rfl)) (by rfl) ⟨_, .fn, callee_fn (B.K 57 _ (by rfl)) rfl, ?_⟩
      refine WTs.cons ?_
      refine we_local he ((kx _).trans (by rfl)) (by first | rfl | assumption) ?_
      refine WTs.cons ?_
      refine we_local he ((kx _).trans (by rfl)) (by first | rfl | assumption) ?_
      refine WTs.nil (WKs.nil ⟨rfl, ?_⟩)
      refine spec_ne B (pdS e2) (pdS atH5) (sdS _ (okL _)).shaped (sdS _ (okL _)).shaped ?_
      refine we_cmpL B ?_
      intro Ps
      refine we_local he ((kx _).trans (by rfl)) (by first | rfl | assumption) ?_
      refine we_intc ?_
      refine gtInt ?_
      refine isNotBool differ' ⟨false, rfl, ?_⟩
      refine wb_nil ?_
      rw [if_neg (by decide)]
      refine wf_nil ?_
      refine wf_consL ?_
      intro Ps
      refine wf_expr (hi := inter_fn he) ?_
      refine we_callL ?_
      intro Ps
      refine we_glob B he ((kx _).trans (by rfl)) (by rfl) ⟨_, .fn, callee_fn (B.K 23 _ (by rfl)) rfl, ?_⟩
      refine WTs.cons ?_
      refine we_local he ((kx _).trans (by rfl)) (by first | rfl | assumption) ?_
      refine WTs.cons ?_
      refine we_callL ?_
      intro Ps
      refine we_glob B he ((kx _).trans (by rfl)) (by rfl) ⟨_, .fn, callee_fn (B.K 71 _ (by rfl)) rfl, ?_⟩
      refine WTs.cons ?_
      refine we_slice ?_
      refine we_local he ((kx _).trans (by rfl)) (by first | rfl | assumption) ?_
      refine we_local he ((kx _).trans (by rfl)) (by first | rfl | assumption) ?_
      refine ⟨_, rfl, ?_⟩
      refine ⟨(fun e => nomatch e), rc, _, rfl, e1, by rw [List.length_map]; exact line8 l8, fun s1 hs1 => ?_⟩
      rw [pick_from]
      generalize eH6 : PH.set H5 s1 _ = H6
      have leH6 := le_new eH6 hs1
      have atH6 := at_new eH6
      refine WTs.cons ?_
      refine we_slice ?_
      refine we_local he ((kx _).trans (by rfl)) (by first | rfl | assumption) ?_
      refine we_local he ((kx _).trans (by rfl)) (by first | rfl | assumption) ?_
      refine ⟨_, rfl, ?_⟩
      refine ⟨(fun e => nomatch e), rc, _, rfl, leH6 _ _ e1, by rw [List.length_map]; exact line8 l8, fun s2 hs2 => ?_⟩
      rw [pick_upto]
      generalize eH7 : PH.set H6 s2 _ = H7
      have leH7 := le_new eH7 hs2
      have atH7 := at_new eH7
      refine WTs.nil (WKs.nil ⟨rfl, ?_⟩)
      refine spec_concat_list B (leH7 _ _ atH6) atH7 (Nat.le_trans (m := 16) (by rw [List.length_drop, List.length_take, List.length_map]; omega) (by decide)) fun t ht => ?_
      have st7 := (st5.le leH6).le leH7
      have fts := (ne_new st7.hs ht).symm
      generalize eH8 : PH.set H7 t _ = H8
      have leH8 := le_new eH8 ht
      have atH8 := at_new eH8
      have st8 := st7.le leH8
      have ht8 : H8 t = some (turnPV L D T j) := by
        rw [atH8, turnPV, hT rg mrg m j hj]; unfold rot; rw [ringPV, ringPV, List.map_append, List.map_drop, List.map_take]
      have ahead : ∀ s ∈ Sh, s ≠ j ∧ Ahead ord s j := fun s hs => by
        rcases (mem' s).mp hs with ⟨rg', h1, h2⟩ | ⟨a, h1, h2⟩
        · obtain ⟨i, hi⟩ := List.mem_iff_getElem?.mp h1
          have hik : i < k := by
            have := (List.getElem?_eq_some_iff.mp hi).1
            rw [List.length_take] at this; omega
          rw [List.getElem?_take_of_lt hik] at hi
          exact ⟨fun e => rin.off hik hi hrg h2 (e ▸ List.mem_of_getElem? hj), rin.ahead hik hi hrg h2 (List.mem_of_getElem? hj)⟩
        · refine ⟨fun e => ?_, .inl ⟨rg, ring, List.mem_of_getElem? h2, List.mem_of_getElem? hj⟩⟩
          have h2' : rg[a]? = some j := by rw [h2, e]
          have := getElem?_inj ring.nodup h2' hj
          omega
      have hc : ∀ (i s : Nat), Sh[i]? = some s → (wR L ord Sh j i = true ↔ R (Ld L) s j) := fun i s e => by
        have ms := List.mem_of_getElem? e
        rw [← ahead_iff ok (st.tn s ms).lt tj.lt (ahead s ms).1 (ahead s ms).2]
        unfold wR; rw [e]; simp
      have lens := st8.len
      refine WTs.nil ?_
      refine WKs.cons (WT.stand ?_)
      refine we_glob B he ((kx _).trans (by rfl)) (by rfl) ?_
      refine WKs.nil ⟨rfl, ?_⟩
      refine insR_P2K B (c := wR L ord Sh j) st8.hs (by rw [List.length_map, lens.1]; exact line8 lens.2) (callee_fn (B.K 182 _ (by rfl)) rfl) (endless_key B tj ht8 fun c H9 hle hc9 => ⟨hle.trans (PH.le_set hc9), askR_endless B st8.tn (st8.td.le (hle.trans (PH.le_set hc9))) PH.set_self⟩) (fun i i' h1 h2 h3 => mono_by st8.up hc h1 (by rw [List.length_map, lens.1] at h2; exact h2) h3) fun r hr => ⟨rfl, ?_⟩
      rw [List.length_map, lens.1] at hr
      have hup := ins_by st8.up hc (fun s hs => (ahead s hs).1) hr
      have st9 := st8.ins ht8 fts tj hup
      refine wf_nil ?_
      refine ⟨_, _, st9.rho rfl rfl rfl rfl rfl, r1, r2, r3, set_ne f1 (leH8 _ _ (leH7 _ _ (leH6 _ _ e1))), set_ne f2 (leH8 _ _ (leH7 _ _ (leH6 _ _ e2))), set_ne f3 (leH8 _ _ (leH7 _ _ (leH6 _ _ e3))), f1, f2, f3, fun x => ?_⟩
      rw [ins_mem, mem']
      constructor
      · rintro (rfl | h | ⟨a, h1, h2⟩)
        · exact .inr ⟨m, Nat.lt_succ_self m, hj⟩
        · exact .inl h
        · exact .inr ⟨a, Nat.lt_succ_of_lt h1, h2⟩
      · rintro (h | ⟨a, h1, h2⟩)
        · exact .inr (.inl h)
        · rcases Nat.lt_or_ge a m with h3 | h3
          · exact .inr (.inr ⟨a, h3, h2⟩)
          · have : a = m := by omega
            subst this
            exact .inl (Option.some.inj (h2.symm.trans hj))
    · rintro ρ'' H'' ⟨tds, Sh, st, r1, r2, r3, e1, e2, e3, f1, f2, f3, mem'⟩
      refine wf_nil ?_
      refine wf_nil ?_
      refine ⟨tds, Sh, st, fun x => ?_⟩
      rw [mem', List.length_map, List.length_range, List.take_add_one, hrg]
      constructor
      · rintro (⟨rg', h1, h2⟩ | ⟨a, h1, h2⟩)
        · exact ⟨rg', List.mem_append_left _ h1, h2⟩
        · exact ⟨rg, List.mem_append_right _ (List.mem_singleton_self _), List.mem_of_getElem? h2⟩
      · rintro ⟨rg', h1, h2⟩
        rcases List.mem_append.mp h1 with h1 | h1
        · exact .inl ⟨rg', h1, h2⟩
        · have h1 : rg' = rg := List.mem_singleton.mp h1
          subst h1
          obtain ⟨a, ha⟩ := List.mem_iff_getElem?.mp h2
          exact .inr ⟨a, (List.getElem?_eq_some_iff.mp ha).1, ha⟩
  · rintro ρ' H' ⟨tds, Sh, st, mem⟩
    refine wf_nil ?_
    refine tail _ _ sh tds Sh st fun x => ?_
    rw [mem, List.length_map, lencs, List.take_length, ← rin.mem]
    constructor
    · intro h
      obtain ⟨rg, h1, h2⟩ := (rin.mem x).mp h
      exact (rin.ring rg h1).lt x h2
    · exact rin.all x
end
end Mine
end

-- part V20
set_option linter.all false
noncomputable section
namespace Mine
open PySem PySem.W PySem.Calls PyProof.Rows
set_option Elab.async false
set_option maxRecDepth 100000
theorem Rings.len8 {ord g : List Nat} {k : Nat} {rs : List (List Nat)} (r : Rings ord k g rs) : rs.length ≤ 8 := by
  have key : ∀ (rs : List (List Nat)), (∀ rg ∈ rs, Ring ord rg) → rs.Pairwise (fun a b => (∀ x ∈ a, x ∉ b) ∧ ∀ (x y : Nat), a[a.length - 1]? = some x → b[b.length - 1]? = some y → x < y) → ∃ l : List Nat, l.Nodup ∧ l.length = rs.length ∧ (∀ x ∈ l, x < 8) ∧ ∀ x ∈ l, ∃ rg ∈ rs, x ∈ rg := fun rs => by
    induction rs with
    | nil => intro _ _; exact ⟨[], .nil, rfl, (fun _ h => nomatch h), fun _ h => nomatch h⟩
    | cons a rs ih =>
      intro hr hp
      have hp := List.pairwise_cons.mp hp
      obtain ⟨l, l1, l2, l3, l4⟩ := ih (fun rg h => hr rg (List.mem_cons_of_mem _ h)) hp.2
      have ra := hr a List.mem_cons_self
      obtain ⟨x, hx⟩ := List.exists_mem_of_ne_nil a ra.ne
      refine ⟨x :: l, List.nodup_cons.mpr ⟨fun h => ?_, l1⟩, by rw [List.length_cons, List.length_cons, l2], fun y hy => ?_, fun y hy => ?_⟩
      · obtain ⟨rg, h1, h2⟩ := l4 x h
        exact (hp.1 rg h1).1 x hx h2
      · rcases List.mem_cons.mp hy with rfl | hy
        · exact ra.lt _ hx
        · exact l3 y hy
      · rcases List.mem_cons.mp hy with rfl | hy
        · exact ⟨a, List.mem_cons_self, hx⟩
        · obtain ⟨rg, h1, h2⟩ := l4 y hy
          exact ⟨rg, List.mem_cons_of_mem _ h1, h2⟩
  obtain ⟨l, l1, l2, l3, _⟩ := key rs r.ring r.sep
  rw [← l2]
  exact nodup_len 8 l l1 l3
theorem RefsAt.reverse {H : PH} : ∀ {as ls}, RefsAt H as ls → RefsAt H as.reverse ls.reverse
  | _, _, .nil => .nil
  | _, _, .cons e r => by
    rw [List.reverse_cons, List.reverse_cons]
    exact r.reverse.append (.cons e .nil)
theorem Rings.ahead_rev {ord g : List Nat} {k : Nat} {rs : List (List Nat)} (r : Rings ord k g rs) {i j : Nat} {a b : List Nat} (hij : i < j) (ha : rs.reverse[i]? = some a) (hb : rs.reverse[j]? = some b) {x y : Nat} (hx : x ∈ a) (hy : y ∈ b) : Ahead ord y x ∧ x ≠ y := by
  have jl := (List.getElem?_eq_some_iff.mp hb).1
  rw [List.length_reverse] at jl
  rw [List.getElem?_reverse (by omega)] at ha hb
  have hlt : rs.length - 1 - j < rs.length - 1 - i := by omega
  exact ⟨r.ahead hlt hb ha hy hx, fun e => r.off hlt hb ha hy (e ▸ hx)⟩
section
variable {w : World} {hb : Heap} {os : OsState} {n : Nat} {H : PH} {env : Env} {ρ : Rho} {L D : Nat → PySem.Str} {ad al ab : Addr} {ord : List Nat} {T : Nat → List Nat}
variable {arr : Addr} {cs : List Addr} {rs : List (List Nat)} {g : List Nat}
/-- the shelf that is done -/
structure Done (L D : Nat → PySem.Str) (T : Nat → List Nat) (ord : List Nat) (sh : Addr) (tds : List Addr) (ρ : Rho) (H : PH) : Prop where
  rs : ρ (S "shelf") = some (.ref sh)
  hs : H sh = some (tds.map .ref)
  td : RefsAt H tds (ord.map (turnPV L D T))
theorem Done.le {sh : Addr} {tds : List Addr} {H' : PH} (d : Done L D T ord sh tds ρ H) (h : PH.le H H') : Done L D T ord sh tds ρ H' := ⟨d.rs, h _ _ d.hs, d.td.le h⟩
theorem Done.rho {sh : Addr} {tds : List Addr} {ρ' : Rho} (d : Done L D T ord sh tds ρ H) (h : ρ' (S "shelf") = ρ (S "shelf")) : Done L D T ord sh tds ρ' H := ⟨h.trans d.rs, d.hs, d.td⟩
theorem Done.set {sh a : Addr} {tds : List Addr} {l : List PV} (d : Done L D T ord sh tds ρ H) (h1 : sh ≠ a) (h2 : ∀ t ∈ tds, t ≠ a) : Done L D T ord sh tds ρ (H.set a l) := ⟨d.rs, set_ne h1 d.hs, d.td.upd h2⟩
set_option maxHeartbeats 4000000 in
theorem lawG (B : Base w hb) (he : EnvOk env) (kx : ∀ x, env.kindOf x = (scopeOf (st 22)).names.lookup x) (bd : Beads H ρ L D ad al ab) (ok : OrdOk L ord) (rr : ρ (S "rings") = some (.ref arr)) (hr : H arr = some (cs.map .ref)) (refs : RefsAt H cs (rs.map (ringPV L D))) (rin : Rings ord 8 g rs)
    (hT : ∀ rg, rg ∈ rs → ∀ a x, rg[a]? = some x → T x = rot rg a) {sd : Addr} {tdd : List Addr} (dn : Done L D T ord sd tdd ρ H) {Φ : Out → Rho → PH → Prop}
    (tail : ∀ ρ' H' sh tds Sh, ShelfSt L D T ord ad al ab arr sh (S "again") cs rs tds Sh ρ' H' → (∀ x, x ∈ Sh ↔ x < 8) → Done L D T ord sd tdd ρ' H' → WF w hb os (n + 12) env ρ' H' (execs (lawB 18) env) Φ) : WF w hb os (n + 12) env ρ H (execs (lawB 16) env) Φ := by
  have lencs : cs.length = rs.length := by have := refs.length; rwa [List.length_map] at this
  have rl8 := rin.len8
  refine wf_consL ?_
  intro Ps
  refine @wf_assign _ _ _ _ _ _ _ _ _ _ _ _ he (.inl ((kx _).trans (by rfl))) ?_ (by rfl)
  refine we_listx ?_
  refine WTs.nil ?_
  refine ⟨Nat.zero_le _, fun sh hsh => ?_⟩
  have o1 := bd.off hsh
  have o2 := ne_new hr hsh
  have o3 : ∀ c ∈ cs, c ≠ sh := fun c hc => by
    obtain ⟨i, hi⟩ := List.mem_iff_getElem?.mp hc
    obtain ⟨x, _, e⟩ := refs.get hi
    exact ne_new e hsh
  have d1 := ne_new dn.hs hsh
  have d2 : ∀ t ∈ tdd, t ≠ sh := fun c hc => by
    obtain ⟨i, hi⟩ := List.mem_iff_getElem?.mp hc
    obtain ⟨x, _, e⟩ := dn.td.get hi
    exact ne_new e hsh
  generalize eH1 : PH.set H sh _ = H1
  have leH1 := le_new eH1 hsh
  have atH1 := at_new eH1
  have st0 : ShelfSt L D T ord ad al ab arr sh (Mine.S "again") cs rs [] [] (ρ.set (Mine.S "again") (.ref sh)) H1 := ⟨(bd.le leH1).rho rfl rfl rfl, rr, leH1 _ _ hr, refs.le leH1, rfl, atH1, .nil, .nil, (fun _ h => nomatch h), o1, o2, o3, fun _ h => nomatch h⟩
  have dn1 := dn.le leH1
  refine wf_consL ?_
  intro Ps
  refine wf_forx ?_
  refine wi_list ?_
  refine we_slice ?_
  refine we_local he ((kx _).trans (by rfl)) (by first | rfl | assumption) ?_
  refine we_neg ?_
  refine we_intc ⟨_, rfl, _, rfl, ?_⟩
  refine ⟨(by decide), arr, _, rfl, leH1 _ _ hr, line8 (by rw [List.length_map, lencs]; exact rl8), fun rv hrv => ?_⟩
  have erev : pick (cs.map PV.ref) none none (some (-1)) = cs.reverse.map .ref := by rw [pick_rev, List.map_reverse]
  rw [erev]
  have frv := (ne_new st0.hs hrv).symm
  generalize eH2 : PH.set H1 rv _ = H2
  have leH2 := le_new eH2 hrv
  have atH2 := at_new eH2
  have refsR : RefsAt H2 cs.reverse (rs.reverse.map (ringPV L D)) := by rw [List.map_reverse]; exact (refs.le (leH1.trans leH2)).reverse
  refine ⟨rv, _, rfl, atH2, fun k ρ' H' => ∃ tds Sh, ShelfSt L D T ord ad al ab arr sh (Mine.S "again") cs rs tds Sh ρ' H' ∧ Done L D T ord sd tdd ρ' H' ∧ H' rv = some (cs.reverse.map .ref) ∧ RefsAt H' cs.reverse (rs.reverse.map (ringPV L D)) ∧ ∀ x, x ∈ Sh ↔ ∃ rg ∈ rs.reverse.take k, x ∈ rg, cs.reverse.map .ref, trivial,
    ⟨[], [], st0.le leH2, (dn1.le leH2).rho rfl, atH2, refsR, fun x => ⟨(fun h => nomatch h), fun ⟨_, h, _⟩ => by rw [List.take_zero] at h; exact nomatch h⟩⟩, ?_, ?_, ?_⟩
  · rintro k ρ' H' ⟨tds, Sh, st, _, h, _⟩; exact h
  · rintro k ρ' H' x hx ⟨tds, Sh, st, dn, hrv', refsR, mem⟩
    obtain ⟨rc, hrc, rfl⟩ := map_item hx
    obtain ⟨rg, hrg, erc⟩ := refsR.get hrc
    have mrg : rg ∈ rs := List.mem_reverse.mp (List.mem_of_getElem? hrg)
    have ring := rin.ring rg mrg
    have l8 := ring.len8
    have orev : ∀ c ∈ cs.reverse, c ≠ sh := fun c hc => st.off.2.2.1 c (List.mem_reverse.mp hc)
    refine wa_name he (.inl ⟨(kx _).trans (by rfl), List.mem_cons_self⟩) ?_
    refine wf_consL ?_
    intro Ps
    let Jv1 : Nat → Rho → PH → Prop := fun m ρ'' H'' => ∃ tds Sh, ShelfSt L D T ord ad al ab arr sh (Mine.S "again") cs rs tds Sh ρ'' H'' ∧ Done L D T ord sd tdd ρ'' H'' ∧ H'' rv = some (cs.reverse.map .ref) ∧ RefsAt H'' cs.reverse (rs.reverse.map (ringPV L D)) ∧ ρ'' (Mine.S "ring") = some (.ref rc) ∧ H'' rc = some (ringPV L D rg) ∧ rc ≠ sh ∧
        ∀ x, x ∈ Sh ↔ (∃ rg ∈ rs.reverse.take k, x ∈ rg) ∨ ∃ a, a < m ∧ rg[a]? = some x
    refine wf_for Jv1 ?_
    refine wi_range ?_
    refine we_callL ?_
    intro Ps
    refine we_builtin B he ((kx _).trans (by rfl)) (by rfl) (by rfl) (fun _ => .typ) ⟨_, .typ, callee_typ, ?_⟩
    refine WTs.cons ?_
    refine we_callL ?_
    intro Ps
    refine we_builtin B he ((kx _).trans (by rfl)) (by rfl) (by rfl) (fun _ => .blt) ⟨_, .blt, callee_blt, ?_⟩
    refine WTs.cons ?_
    refine we_local he ((kx _).trans (by rfl)) (by first | rfl | assumption) ?_
    refine WTs.nil (WKs.nil ⟨rfl, ?_⟩)
    refine wc_len erc (by rw [List.length_map]; omega) ?_
    refine WTs.nil (WKs.nil ⟨rfl, ?_⟩)
    refine wc_range1 ?_
    rw [List.length_map]
    refine ⟨0, (rg.length : Int), rfl, by decide, by decide, by omega, by omega, (List.range rg.length).map fun i : Nat => PV.int (0 + (i : Int)), trivial, ⟨tds, Sh, st.rho rfl rfl rfl rfl rfl, dn.rho rfl, hrv', refsR, rfl, erc, orev rc (List.mem_of_getElem? hrc), fun x => by rw [mem]; exact ⟨.inl, fun h => h.elim id fun ⟨a, h, _⟩ => (Nat.not_lt_zero a h).elim⟩⟩, ?_, ?_, ?_⟩
    · rintro m ρ'' H'' _
      show _ = _
      have : ((rg.length : Int) - 0).toNat = rg.length := by omega
      rw [this]
    · rintro m ρ'' H'' x hx ⟨tds, Sh, st, dn, hrv2, refsR2, r1, e1, f1, mem'⟩
      obtain ⟨hm, rfl⟩ := rng_item hx
      obtain ⟨j, hj⟩ : ∃ j, rg[m]? = some j := ⟨_, List.getElem?_eq_getElem hm⟩
      have tj : Turning ord T j := ⟨rg, m, ring, hj, hT rg mrg m j hj⟩
      have rsh := st.rs
      refine wa_name he (.inl ⟨(kx _).trans (by rfl), List.mem_cons_self⟩) ?_
      refine wf_consL ?_
      intro Ps
      refine wf_expr (hi := inter_fn he) ?_
      refine we_callL ?_
      intro Ps
      refine we_glob B he ((kx _).trans (by rfl)) (by rfl) ⟨_, .fn, callee_fn (B.K 41 _ (by rfl)) rfl, ?_⟩
      refine WTs.cons ?_
      refine we_local he ((kx _).trans (by rfl)) (by first | rfl | assumption) ?_
      refine WTs.cons ?_
      refine we_callL ?_
      intro Ps
      refine we_glob B he ((kx _).trans (by rfl)) (by rfl) ⟨_, .fn, callee_fn (B.K 71 _ (by rfl)) rfl, ?_⟩
      refine WTs.cons ?_
      refine we_slice ?_
      refine we_local he ((kx _).trans (by rfl)) (by first | rfl | assumption) ?_
      refine we_local he ((kx _).trans (by rfl)) (by first | rfl | assumption) ?_
      refine ⟨_, rfl, ?_⟩
      refine ⟨(fun e => nomatch e), rc, _, rfl, e1, by rw [List.length_map]; exact line8 l8, fun s1 hs1 => ?_⟩
      rw [pick_from]
      generalize eH6 : PH.set H'' s1 _ = H6
      have leH6 := le_new eH6 hs1
      have atH6 := at_new eH6
      refine WTs.cons ?_
      refine we_slice ?_
      refine we_local he ((kx _).trans (by rfl)) (by first | rfl | assumption) ?_
      refine we_local he ((kx _).trans (by rfl)) (by first | rfl | assumption) ?_
      refine ⟨_, rfl, ?_⟩
      refine ⟨(fun e => nomatch e), rc, _, rfl, leH6 _ _ e1, by rw [List.length_map]; exact line8 l8, fun s2 hs2 => ?_⟩
      rw [pick_upto]
      generalize eH7 : PH.set H6 s2 _ = H7
      have leH7 := le_new eH7 hs2
      have atH7 := at_new eH7
      refine WTs.nil (WKs.nil ⟨rfl, ?_⟩)
      refine spec_concat_list B (leH7 _ _ atH6) atH7 (Nat.le_trans (m := 16) (by rw [List.length_drop, List.length_take, List.length_map]; omega) (by decide)) fun t ht => ?_
      have st7 := (st.le leH6).le leH7
      have fts := (ne_new st7.hs ht).symm
      generalize eH8 : PH.set H7 t _ = H8
      have leH8 := le_new eH8 ht
      have atH8 := at_new eH8
      have st8 := st7.le leH8
      have le8 := (leH6.trans leH7).trans leH8
      have dn8 := dn.le le8
      have ht8 : H8 t = some (turnPV L D T j) := by
        rw [atH8, turnPV, hT rg mrg m j hj]; unfold rot; rw [ringPV, ringPV, List.map_append, List.map_drop, List.map_take]
      have ahead : ∀ s ∈ Sh, s ≠ j ∧ Ahead ord j s := fun s hs => by
        rcases (mem' s).mp hs with ⟨rg', h1, h2⟩ | ⟨a, h1, h2⟩
        · obtain ⟨i, hi⟩ := List.mem_iff_getElem?.mp h1
          have hik : i < k := by
            have := (List.getElem?_eq_some_iff.mp hi).1
            rw [List.length_take] at this; omega
          rw [List.getElem?_take_of_lt hik] at hi
          have := rin.ahead_rev hik hi hrg h2 (List.mem_of_getElem? hj)
          exact ⟨this.2, this.1⟩
        · refine ⟨fun e => ?_, .inl ⟨rg, ring, List.mem_of_getElem? hj, List.mem_of_getElem? h2⟩⟩
          have h2' : rg[a]? = some j := by rw [h2, e]
          have := getElem?_inj ring.nodup h2' hj
          omega
      have hc : ∀ (i s : Nat), Sh[i]? = some s → (wL L ord Sh j i = true ↔ R (Ld L) s j) := fun i s e => by
        have ms := List.mem_of_getElem? e
        rw [← ahead_iff' ok (st.tn s ms).lt tj.lt (ahead s ms).1 (ahead s ms).2]
        unfold wL; rw [e]
      have lens := st8.len
      refine WTs.nil ?_
      refine WKs.cons (WT.stand ?_)
      refine we_glob B he ((kx _).trans (by rfl)) (by rfl) ?_
      refine WKs.nil ⟨rfl, ?_⟩
      refine insL_P2K B (c := wL L ord Sh j) st8.hs (by rw [List.length_map, lens.1]; exact line8 lens.2) (callee_fn (B.K 182 _ (by rfl)) rfl) (endless_key B tj ht8 fun c H9 hle hc9 => ⟨hle.trans (PH.le_set hc9), askL_endless B st8.tn (st8.td.le (hle.trans (PH.le_set hc9))) PH.set_self⟩) (fun i i' h1 h2 h3 => mono_by st8.up hc h1 (by rw [List.length_map, lens.1] at h2; exact h2) h3) fun r hr => ⟨rfl, ?_⟩
      rw [List.length_map, lens.1] at hr
      have hup := ins_by st8.up hc (fun s hs => (ahead s hs).1) hr
      have st9 := st8.ins ht8 fts tj hup
      refine wf_nil ?_
      refine ⟨_, _, st9.rho rfl rfl rfl rfl rfl, (dn8.set d1 d2).rho rfl, set_ne frv (le8 _ _ hrv2), (refsR2.le le8).upd orev, r1, set_ne f1 (le8 _ _ e1), f1, fun x => ?_⟩
      rw [ins_mem, mem']
      constructor
      · rintro (rfl | h | ⟨a, h1, h2⟩)
        · exact .inr ⟨m, Nat.lt_succ_self m, hj⟩
        · exact .inl h
        · exact .inr ⟨a, Nat.lt_succ_of_lt h1, h2⟩
      · rintro (h | ⟨a, h1, h2⟩)
        · exact .inr (.inl h)
        · rcases Nat.lt_or_ge a m with h3 | h3
          · exact .inr (.inr ⟨a, h3, h2⟩)
          · have : a = m := by omega
            subst this
            exact .inl (Option.some.inj (h2.symm.trans hj))
    · rintro ρ'' H'' ⟨tds, Sh, st, dn, hrv2, refsR2, r1, e1, f1, mem'⟩
      refine wf_nil ?_
      refine wf_nil ?_
      refine ⟨tds, Sh, st, dn, hrv2, refsR2, fun x => ?_⟩
      rw [mem', List.length_map, List.length_range, List.take_add_one, hrg]
      constructor
      · rintro (⟨rg', h1, h2⟩ | ⟨a, h1, h2⟩)
        · exact ⟨rg', List.mem_append_left _ h1, h2⟩
        · exact ⟨rg, List.mem_append_right _ (List.mem_singleton_self _), List.mem_of_getElem? h2⟩
      · rintro ⟨rg', h1, h2⟩
        rcases List.mem_append.mp h1 with h1 | h1
        · exact .inl ⟨rg', h1, h2⟩
        · have h1 : rg' = rg := List.mem_singleton.mp h1
          subst h1
          obtain ⟨a, ha⟩ := List.mem_iff_getElem?.mp h2
          exact .inr ⟨a, (List.getElem?_eq_some_iff.mp ha).1, ha⟩
  · rintro ρ' H' ⟨tds, Sh, st, dn, _, _, mem⟩
    refine wf_nil ?_
    refine tail _ _ sh tds Sh st (fun x => ?_) dn
    rw [mem, List.length_map, List.length_reverse, lencs, ← List.length_reverse, List.take_length]
    constructor
    · rintro ⟨rg, h1, h2⟩
      exact (rin.ring rg (List.mem_reverse.mp h1)).lt x h2
    · intro h
      obtain ⟨rg, h1, h2⟩ := (rin.mem x).mp (rin.all x h)
      exact ⟨rg, List.mem_reverse.mpr h1, h2⟩
set_option maxHeartbeats 4000000 in
theorem lawH (B : Base w hb) (he : EnvOk env) (kx : ∀ x, env.kindOf x = (scopeOf (st 22)).names.lookup x) (ok : OrdOk L ord) {sd sh : Addr} {tdd tds : List Addr} (st : ShelfSt L D T ord ad al ab arr sh (S "again") cs rs tds ord ρ H) (dn : Done L D T ord sd tdd ρ H) {Φ : Out → Rho → PH → Prop}
    (fin : ∀ ρ' H', Φ (.ret (.bool true)) ρ' H') : WF w hb os (n + 12) env ρ H (execs (lawB 18) env) Φ := by
  have bd := st.bd
  have rb := bd.rb
  have rs1 := dn.rs
  have rs2 := st.rs
  have len := ok.len
  have lent : tdd.length = 8 := by have := dn.td.length; rwa [List.length_map, len] at this
  refine wf_consL ?_
  intro Ps
  refine wf_if (WB.drop (Φ := fun b H' => b = false ∧ PH.le H H') ?_ ?_)
  · refine wb_cmp1 ?_
    let Jv2 : Nat → List PV → PH → Prop := fun k ys H' => H' = H ∧ ys = (List.range k).map (bead L D)
    refine we_comp he Jv2 (CompOk.of [] (fun x hx => nomatch hx) rfl (by kernel_rfl)) ?_
    refine wi_list ?_
    refine we_local he ((kx _).trans (by rfl)) (by first | rfl | assumption) ?_
    refine ⟨sd, _, rfl, dn.hs, tdd.map .ref, trivial, line8 (by rw [List.length_map, lent]; exact Nat.le_refl _), ⟨rfl, rfl⟩, ?_, ?_, ?_⟩
    · rintro k ys H' ⟨rfl, _⟩; exact dn.hs
    · rintro k ys H' x hx ⟨rfl, rfl⟩ C he'
      obtain ⟨td, htd, rfl⟩ := map_item hx
      obtain ⟨i, hi, e⟩ := dn.td.get htd
      have ti := st.tn i (List.mem_of_getElem? hi)
      obtain ⟨rg, a, r, ha, hTi⟩ := ti.at_
      obtain ⟨y, y1, y2⟩ := r.last ha
      obtain rfl := ok.inj y2 hi
      rw [turnPV, hTi] at e
      have hlen : (rot rg a).length = rg.length := rot_len (Nat.le_of_lt (List.getElem?_eq_some_iff.mp ha).1)
      have hp := r.pos
      have h8 := r.len8
      refine wa_name he' (.inl ⟨rfl, List.mem_singleton.mpr rfl⟩) ?_
      refine comp_plain ?_
      have he := he'
      have kx := kxOf he'
      refine we_callL ?_
      intro Ps
      refine we_glob B he ((kx _).trans (by rfl)) (by rfl) ⟨_, .fn, callee_fn (B.K 85 _ (by rfl)) rfl, ?_⟩
      refine WTs.cons ?_
      refine we_local he ((kx _).trans (by rfl)) (by first | rfl | assumption) ?_
      refine WTs.cons ?_
      refine we_neg ?_
      refine we_intc ⟨_, rfl, ?_⟩
      refine WTs.nil (WKs.nil ⟨rfl, ?_⟩)
      refine spec_getitem_list B (j := (rot rg a).length - 1) (x := bead L D y) e (by rw [List.length_map, hlen]; omega) (by rw [List.length_map]; exact seqIndex_last (by omega)) (by rw [List.getElem?_map, y1]; rfl) ?_
      exact ⟨rfl, (range_map_succ _ _).symm⟩
    rintro ys H' ⟨rfl, rfl⟩ c1 hc1
    rw [List.length_map, lent]
    generalize eH1 : PH.set H' c1 _ = H1
    have leH1 := le_new eH1 hc1
    have atH1 := at_new eH1
    refine we_cell he ((kx _).trans (by rfl)) (by first | rfl | assumption) ?_
    refine ne_same (pd_list atH1 fun x => pd_bead) (pd_list (leH1 _ _ bd.hb) fun x => pd_bead) (sd_map (fun x => sd_bead bd.oL bd.oD) _) ?_
    exact ⟨false, rfl, rfl, leH1⟩
  rintro b H' ⟨rfl, hle⟩
  refine ⟨H, hle, ?_⟩
  rw [if_neg Bool.false_ne_true]
  refine wf_nil ?_
  refine wf_consL ?_
  intro Ps
  refine wf_ret ?_
  refine we_cmp1 ?_
  refine we_local he ((kx _).trans (by rfl)) (by first | rfl | assumption) ?_
  refine we_local he ((kx _).trans (by rfl)) (by first | rfl | assumption) ?_
  let dT : Nat → List PyData := fun i => (T i).map (beadD L D)
  have pT : ∀ i, PDs H (turnPV L D T i) (dT i) := fun i => pds_map (fun x => pd_bead) _
  refine eq_same (m := 3) (d := .list (ord.map fun i => .list (dT i))) (.ref st.hs (st.td.pds pT)) (.ref dn.hs (dn.td.pds pT)) (sd_map (m := 2) (fun i => sd_map (fun x => sd_bead bd.oL bd.oD) _) _) ?_
  exact fin _ _
end
end Mine
end

-- part H3
set_option linter.all false
noncomputable section
namespace Mine
open PySem PySem.W PySem.Calls PyProof.Rows
set_option Elab.async false
set_option maxRecDepth 100000
/-- what is looked at behind the top: its objects, and that its tokens are given out -/
theorem leftT : LeftO pw qv looseV (fun _ => true) (fun s => ((kHook KF KA KA_eq).obs s, decide (2371 ≤ s.toks))) (fun w => ((kHook KF KA KA_eq).val w, true)) 40000 := by
  refine LeftO.of_pieces (boot_open (by kernel_rfl) (by kernel_rfl) (fun s => by kernel_rfl)) hsize hrun (by kernel_rfl) (fun w => ?_)
  funext os
  exact looks_pair (congrFun (look1 w) os) (looks_pair (congrFun (look2 w) os) (looks_pair (congrFun (look3 w) os) rfl))
/-- a law of the open form, its walk told how many tokens the top has given out -/
theorem holds_told {r : OpenRow} {q : Program} {loose : List PySem.Str} {Xt : Shared → Bool} {XP : (PySem.Str → Option Value) → Heap → Prop} {α : Type} {Yf : Shared → α} {Ya : World → α} {YP : World → Heap → Prop} {ZP : Shared → Prop} {d : DefRec} {kwd : List (PySem.Str × Expr)} {N : Nat}
    (left : LeftO r.prog q loose Xt Yf Ya N) (hY : ∀ w s, Yf s = Ya w → YP w s.heap ∧ ZP s) (hYk : ∀ w h h', YP w h → (∀ b o, h.get? b = some o → h'.get? b = some o) → YP w h')
    (hX : ∀ s, Xt s = true → XP (s.heap.nsMap mainGlobals) s.heap) (hXk : ∀ mg h h', XP mg h → (∀ b o, h.get? b = some o → h'.get? b = some o) → XP mg h')
    (hdef : defOf q r.name = some (d, kwd)) (hp : r.prog.theDef r.name = some (d.params, d.body, d.scope)) (hk : kwWritten? d.params.kwonlyargs d.params.kw_defaults = some kwd) (hRf : ∀ s, Xt s = true → RecFacts r.records s.heap) (hwr : (!r.writes || r.records.isEmpty) = true)
    (k1 : r.wellSaid = true) (ok : (chainsOk q && opensWell r.prog && (frees r.toRowW && r.within.isEmpty)) = true) (hb : r.prog.bare) (hw : r.toRowW.promised)
    (call : ∀ (w : World) (s₀ s₁ : Shared) (mg mb : PySem.Str → Option Value), Ground q loose r.records XP w s₀ mg mb s₁.heap → YP w s₁.heap → ZP s₀ → ∀ (a : Addr) (o : Obj) (pm cd doc dV kV : Value), s₁.heap.get? a = some o →
      o.data = .func { docDef d.name d.params d.body d.scope pm cd doc with defaults := dV, kwdefaults := kV } → s₁.heap.CodeRec cd d.name → mg d.name = some (.ref a) → s₁.gens = #[] →
      ∀ (args : List WData) (vals : List Value) (as : List Addr), r.claim.pre args = true → WData.layableAll args = true → Laid r.records w s₀ s₁ args vals as →
        wpAny (model r.prog w) callerA (PySem.call (.ref a) vals) (fun v s' => GoodW r.claim (classAt s₀.heap) (ExcName.means s₀.heap) args s₁ (.ok (.ret v)) s')
          (fun e s' => GoodW r.claim (classAt s₀.heap) (ExcName.means s₀.heap) args s₁ (.error e) s') s₁) : r.Holds := by
  obtain ⟨ok, k5⟩ := Bool.and_eq_true_iff.mp ok
  obtain ⟨hch, o1⟩ := Bool.and_eq_true_iff.mp ok
  obtain ⟨k5, k6⟩ := Bool.and_eq_true_iff.mp k5
  obtain ⟨hsame, hu, ha, hap, hm⟩ := frees_parts k5
  have hi := ident_freeW hu ha hap
  have hwi : r.toRowW.claim.within = [] := List.isEmpty_iff.mp k6
  have tree : ∀ vs (w : World) (s : Shared) mg f (Q : PySem.Fin → Shared → Prop) (E : Value → Shared → Prop), s.heap.Ns mainGlobals mg → mg r.name = some f → wpAny (model r.prog w) callerA (PySem.call f vs) (fun v s' => Q (.done (.ret v)) s') E s →
      wpAny (model r.prog w) callerA (do match ← nsGet mainNs r.name with
        | some f => do ret (← PySem.call f vs)
        | none => unsupported "claim.caller:no-such-global") Q E s := fun vs w s mg f Q E hg hf h => wpAny_bind (wpAny_nsGet hg (by rw [hf]; exact wpAny_bind (wpAny_mono h (fun _ _ x => wpAny_pure x) fun _ _ x => x)))
  refine ⟨k1, hw, ⟨⟨hb, o1, by show r.makers.map _ = []; rw [hm]; rfl⟩, hw.witness, fun w => ⟨(left.behind hX hch w).1, fun s' hs' => ?_⟩⟩⟩
  obtain ⟨s₀, hf, hg0, s, hT, hz, hgens, hg, G00, y⟩ := (left.behind (XP := fun mg h => XP mg h ∧ RecFacts r.records h) (fun s hs => ⟨hX s hs, hRf s hs⟩) hch w).2 s' hs'
  obtain ⟨y1, y2⟩ := hY w s y
  have G0 : Ground q loose [] XP w s (s.heap.nsMap mainGlobals) (s.heap.nsMap builtinsNs) s.heap := ⟨G00.T, G00.B, G00.D, G00.TE, G00.TD, G00.W, G00.X.1, G00.cls, G00.has, G00.apart, G00.once, G00.K⟩
  have RF := G00.X.2
  refine ⟨s₀, hf, hg0, s, hT, fun n hn => ?_, RF.1, RF.2.1, ?_⟩
  · obtain rfl : n = r.name := by split at hn <;> simp_all
    exact pinned_of_view hg G0 hdef hp hk
  have G : Ground q loose r.records XP w s _ _ s.heap := RF.ground G0
  refine ClaimW.callFrom_of_specG (c := r.toRowW.claim) hz (Array.eq_empty_of_size_eq_zero (beq_iff_eq.mp hgens)) fun args hpre hlay ord hord => ?_
  obtain ⟨⟨vs, s₁⟩, hlaid⟩ := Option.isSome_iff_exists.mp (layAllW_isSome (P := w.params) (ord := ord) G.has args r.args s (pre_splitW hpre).1)
  have keeps := layAllW_keeps _ _ _ hlaid
  have hal := layAllW_rest _ _ _ hlaid
  obtain ⟨as, hrd, hin, hold⟩ := reads_layAllW hord _ _ _ hlaid hlay s₁.heap (fun _ _ e => e)
  have L : Laid r.records w s s₁ args vs as := ⟨⟨ord, hord, hlaid⟩, hrd, hin, hold, keeps, hal.1.trans (Array.eq_empty_of_size_eq_zero (beq_iff_eq.mp hgens)), hal.2.2.1⟩
  have G₁ := G.keeps hXk keeps
  obtain ⟨a, o, pm, cd, doc, dV, kV, h1, h2, h3, h4, h5⟩ := G₁.fn hdef
  have h := call w s s₁ _ _ G₁ (hYk _ _ _ y1 keeps) y2 a o pm cd doc dV kV h2 h3 h4 (defOf_name hdef ▸ h1) L.gens args vs as hpre hlay L
  exact ⟨vs, s₁, hlaid, tree vs w s₁ _ _ _ _ G₁.T.g h1 (wpAny_mono h (fun v s' g => ⟨_, rfl, have g := g.toG; have z := g.laid (c := r.toRowW.claim) hsame hwi hi L; ⟨z.1, z.2.1, z.2.2, fun q => ⟨namesKept_of hT hg _ keeps g.2.1.old, noTable hwr q⟩⟩⟩)
    fun e s' g => have g := g.toG; have z := g.laid (c := r.toRowW.claim) hsame hwi hi L; ⟨z.1, z.2.1, z.2.2, fun q => ⟨namesKept_of hT hg _ keeps g.2.1.old, noTable hwr q⟩⟩)⟩
end Mine
end

-- part V21
set_option linter.all false
noncomputable section
namespace Mine
open PySem PySem.W PySem.Calls PyProof.Rows
set_option Elab.async false
set_option maxRecDepth 100000
section
variable {w : World} {hb : Heap} {os : OsState} {n : Nat} {H : PH} {env : Env} {ρ : Rho}
/-- the law's body -/
theorem lawMain (B : Base w hb) (he : EnvOk env) (kx : ∀ x, env.kindOf x = (scopeOf (st 22)).names.lookup x) (ap : CellsApart env) {a : Addr} {xs : Array (Int × Tok)} (hs : hb.IsList a (intItems xs)) (hsz : xs.size ≤ sizeLine) (hρ : ρ (S "script") = some (.ref a)) :
    WF w hb os (n + 12) env ρ H (execs (bodyOf (st 22)) env) fun o _ _ => o = .ret (.bool true) := by
  refine lawA1 B he kx ap hs hsz hρ ?_
  intro ρ1 H1 ad ds hl ht r1 h1
  refine lawA2 B he kx ap hl ht r1 h1 ?_
  intro ρ2 H2 L D ad al ab bd
  refine lawB1 B he kx ap bd ?_
  intro ρ3 H3 ar abk T T' bd3 r3 r3' h3 h3' p1 p2 m1 m2
  refine lawC1 B he kx ap bd3 r3 r3' h3 h3' p1 p2 m1 m2 ?_
  intro ρ4 H4 ar ak ord bd4 rw4
  obtain ⟨pos, hpos⟩ := rw4.ok.pos
  have ok := rw4.ok
  refine lawD B he kx ap bd4 rw4 hpos ?_
  intro ρ5 H5 apl bd5 rp5 hp5
  refine lawE B he kx ap bd5 ok hpos rp5 hp5 ?_
  intro ρ6 H6 arr cs rs g bd6 rr6 hr6 refs6 rin
  obtain ⟨Tn, hT⟩ := rin.turning
  refine lawF (T := Tn) B he kx bd6 ok rr6 hr6 refs6 rin hT ?_
  intro ρ7 H7 sh tds Sh st7 mem7
  obtain rfl : Sh = ord := ok.is st7.up mem7
  have dn : Done L D Tn Sh sh tds ρ7 H7 := ⟨st7.rs, st7.hs, st7.td⟩
  refine lawG (T := Tn) B he kx st7.bd ok st7.rr st7.hr st7.refs rin hT dn ?_
  intro ρ8 H8 sh2 tds2 Sh2 st8 mem8 dn8
  obtain rfl : Sh2 = Sh := ok.is st8.up mem8
  exact lawH B he kx ok st8 dn8 fun _ _ => rfl
-- the law's own frame
theorem cellsFrom_names : ∀ (names : List (PySem.Str × NameKind)) (k : Nat) (acc : List (PySem.Str × Addr)), (cellsFrom k names acc).map (·.1) = ((names.filter fun x => x.2 == .cell).map (·.1)).reverse ++ acc.map (·.1)
  | [], k, acc => rfl
  | (x, kd) :: r, k, acc => by
    have ih1 := cellsFrom_names r (k + 1) ((x, k) :: acc)
    have ih2 := cellsFrom_names r k acc
    by_cases h : (kd == NameKind.cell) = true
    · simp only [cellsFrom, List.filter_cons, h, if_true, ih1]
      simp
    · simp only [cellsFrom, List.filter_cons, h, if_false, ih2, Bool.false_eq_true]
theorem lookup_of_names {α : Type} : ∀ (l : List (PySem.Str × α)) {x : PySem.Str}, x ∈ l.map (·.1) → ∃ c, l.lookup x = some c
  | [], x, h => nomatch h
  | (y, c) :: l, x, h => by
    rw [List.lookup_cons]
    by_cases hxy : (x == y) = true
    · rw [hxy]; exact ⟨c, rfl⟩
    · have e : (x == y) = false := by simpa using hxy
      rw [e]
      rcases List.mem_cons.mp h with h | h
      · have h : x = y := h
        subst h; simp at e
      · exact lookup_of_names l h
theorem lookup_of_mem {α : Type} : ∀ (l : List (PySem.Str × α)) {x : PySem.Str} {c : α}, (l.map (·.1)).Nodup → (x, c) ∈ l → l.lookup x = some c
  | (y, d) :: l, x, c, nd, h => by
    have nd := List.nodup_cons.mp nd
    rw [List.lookup_cons]
    rcases List.mem_cons.mp h with h1 | h1
    · obtain ⟨rfl, rfl⟩ := Prod.mk.inj h1
      simp
    · have : (x == y) = false := by
        have : x ≠ y := fun e => nd.1 (by rw [← e]; exact List.mem_map.mpr ⟨(x, c), h1, rfl⟩)
        simpa using this
      rw [this]
      exact lookup_of_mem l nd.2 h1
theorem apart_of {l : List (PySem.Str × Addr)} (h : l.Pairwise fun x y => x.2 ≠ y.2) {x y : PySem.Str} {c : Addr} (m1 : (x, c) ∈ l) (m2 : (y, c) ∈ l) : x = y := by
  obtain ⟨i, hi⟩ := List.mem_iff_getElem?.mp m1
  obtain ⟨j, hj⟩ := List.mem_iff_getElem?.mp m2
  obtain ⟨il, ie⟩ := List.getElem?_eq_some_iff.mp hi
  obtain ⟨jl, je⟩ := List.getElem?_eq_some_iff.mp hj
  rcases Nat.lt_trichotomy i j with g | g | g
  · exact (List.pairwise_iff_getElem.mp h i j il jl g (by rw [ie, je])).elim
  · subst g; exact (Prod.mk.inj (ie.symm.trans je)).1
  · exact (List.pairwise_iff_getElem.mp h j i jl il g (by rw [ie, je])).elim
theorem run_main {t : Sem Flow} {Φ : Out → Rho → PH → Prop} (main : WF w hb os n env ρ H t Φ) {A : Around} {s : Shared} {τ : Nat → PySem.Str} (ak : AOk n A) (J : Inv hb os env ρ H s τ) {Q : Flow → Shared → Prop} {E : Value → Shared → Prop}
    (q : ∀ o ρ' H' f s' τ', Φ o ρ' H' → Inv hb os env ρ' H' s' τ' → ORep (vw s' τ') f o → Evo (own env) H (vw s τ) H' (vw s' τ') → Q f s') : wpAny (model pw w) A t Q E s :=
  wpAny_mono (main A s τ ak J Q q) (fun _ _ z => z) fun _ _ z => z.elim
set_option maxHeartbeats 4000000 in
theorem law_call (B : Base w hb) {a b : Addr} {o : Obj} {fd : FuncData} {xs : Array (Int × Tok)} {s : Shared} {τ : Nat → PySem.Str} (hh : s.heap = hb) (hg : s.gens = #[]) (ht : TokOk s.toks τ) (ho : hb.get? a = some o) (hd : o.data = .func fd) (hcd : hb.CodeRec fd.code fd.qualname)
    (hbody : fd.body = .stmts (bodyOf (st 22))) (hscope : fd.scope = scopeOf (st 22)) (hclo : fd.closure = []) (hgl : fd.globals = mainGlobals) (hbl : fd.builtins = builtinsNs) (hbind : ∀ v, bindArgs fd ⟨[v], []⟩ = pure [(S "script", v)]) (hs : hb.IsList b (intItems xs)) (hsz : xs.size ≤ sizeLine)
    {Q : Value → Shared → Prop} {E : Value → Shared → Prop} (q : ∀ s', (∀ c o, hb.get? c = some o → s'.heap.get? c = some o) → s'.os = s.os → s'.gens = #[] → Q (.bool true) s') : wpAny (model pw w) callerA (PySem.call (.ref a) [.ref b]) Q E s := by
  subst hh
  have kx : ∀ x, (callEnvC fd s.heap.objs.size a).kindOf x = (scopeOf (st 22)).names.lookup x := fun x => by
    show fd.scope.names.lookup x = _
    rw [hscope]
  have hk : fd.scope.kind = .function := by rw [hscope]; rfl
  have he : EnvOk (callEnvC fd s.heap.objs.size a) := ⟨hk, hgl, hbl⟩
  have nms : (callEnvC fd s.heap.objs.size a).cells.map (·.1) = [S "new", S "ranked", S "row", S "beads", S "letters", S "drawn", S "k", S "bases", S "script"] := by
    show (cellsFrom (s.heap.objs.size + 1) fd.scope.names []).map (·.1) = _
    rw [cellsFrom_names, hscope]
    kernel_rfl
  have nd : ((callEnvC fd s.heap.objs.size a).cells.map (·.1)).Nodup := by rw [nms]; decide +kernel
  have cellIn : ∀ y, (callEnvC fd s.heap.objs.size a).kindOf y = some .cell → y ∈ (callEnvC fd s.heap.objs.size a).cells.map (·.1) := fun y hy => by
    rw [kx] at hy
    have hm := lookup_mem _ hy
    show y ∈ (cellsFrom (s.heap.objs.size + 1) fd.scope.names []).map (·.1)
    rw [cellsFrom_names, hscope]
    refine List.mem_append_left _ (List.mem_reverse.mpr (List.mem_map.mpr ⟨_, List.mem_filter.mpr ⟨hm, rfl⟩, rfl⟩))
  have noFree : ∀ y, (callEnvC fd s.heap.objs.size a).kindOf y ≠ some .free := fun y hy => by
    rw [kx] at hy
    have hm := lookup_mem _ hy
    have chk : ((scopeOf (st 22)).names.all fun x => x.2 != .free) = true := by kernel_rfl
    have := List.all_eq_true.mp chk _ hm
    simp at this
  have scrCell : (callEnvC fd s.heap.objs.size a).kindOf (S "script") = some .cell := (kx _).trans (by rfl)
  obtain ⟨cS, hcS⟩ := lookup_of_names _ (cellIn _ scrCell)
  have hkind : ∀ x ∈ [(S "script", Value.ref b)], fd.scope.names.lookup x.1 = some .local ∨ (fd.scope.names.lookup x.1 = some .cell ∧ ((cellsFrom (s.heap.objs.size + 1) fd.scope.names []).lookup x.1).isSome = true) := fun x hx => by
    rw [List.mem_singleton.mp hx]
    refine .inr ⟨by rw [hscope]; rfl, ?_⟩
    show ((callEnvC fd s.heap.objs.size a).cells.lookup (S "script")).isSome = true
    rw [hcS]; rfl
  refine wpAny_call (codeAny_call_function (by decide) ho hd (by rw [hscope]; rfl) (by rw [hscope]; rfl) hbody hcd ?_)
  rw [hbind, hclo]
  refine wpAny_pure (wpAny_with_toks (Nat.le_refl s.toks) (wpAny_newFunctionEnv_cells hk hkind fun env henv s₁ x kT => ?_))
  subst henv
  refine ⟨B.lim.keeps x.toInCall.keep, codeAny_func ?_⟩
  show wpAny _ _ (execs (bodyOf (st 22)) (callEnvC fd s.heap.objs.size a)) _ _ _
  obtain ⟨h₁, tk, rfl⟩ := x.toInCall.same
  have keep := x.toInCall.keep
  have fresh := x.toInCall.fresh
  have none_ge : ∀ c : Addr, s.heap.objs.size ≤ c → s.heap.get? c = Option.none := fun c hc => Heap.get?_none_of_le hc
  have above : ∀ nm c, (callEnvC fd s.heap.objs.size a).cells.lookup nm = some c → s.heap.objs.size ≤ c := fun nm c h => Nat.le_of_lt (x.above nm c (lookup_mem _ h))
  have ap : CellsApart (callEnvC fd s.heap.objs.size a) := fun y z c h1 h2 => apart_of x.apart (lookup_mem _ h1) (lookup_mem _ h2)
  have kT : s.toks ≤ tk := kT
  have J : Inv s.heap s.os (callEnvC fd s.heap.objs.size a) (fun y => if y = S "script" then some (.ref b) else Option.none) (fun _ => Option.none) { s with heap := h₁, toks := tk } τ := by
    refine ⟨keep, (fun _ _ e => nomatch e), ⟨⟨_, x.toInCall.ns, fun y p hy e => ?_⟩, none_ge _ (Nat.le_refl _), fun y hy => ?_, fun c hc => ?_⟩, hg, rfl, ht.mono kT fun _ _ => rfl⟩
    · by_cases h : y = S "script"
      · subst h; rw [scrCell] at hy; cases hy
      · rw [if_neg h] at e; cases e
    · have hy : (callEnvC fd s.heap.objs.size a).kindOf y = some .cell := hy.elim id fun h => (noFree y h).elim
      obtain ⟨c, hc⟩ := lookup_of_names _ (cellIn _ hy)
      refine ⟨c, hc, none_ge c (above y c hc), _, x.cell y c hc, fun p e => ?_⟩
      by_cases h : y = S "script"
      · subst h
        rw [if_pos rfl] at e
        obtain rfl := Option.some.inj e
        refine ⟨.ref b, ?_, .ref⟩
        show bindC _ [(S "script", Value.ref b)] _ _ = _
        unfold bindC
        rw [if_neg fun e => nomatch e.symm.trans scrCell]
        unfold bindC
        exact if_pos rfl
      · rw [if_neg h] at e; cases e
    · rcases List.mem_cons.mp hc with rfl | hc
      · obtain ⟨ob, es, ep, h1, h2, _⟩ := x.toInCall.ns
        exact ⟨ob, h1, .inl ⟨es, ep, h2⟩⟩
      · obtain ⟨⟨nm, c'⟩, hm, rfl⟩ := List.mem_map.mp hc
        obtain ⟨ob, h1, h2⟩ := x.cell nm c' (lookup_of_mem _ nd hm)
        exact ⟨ob, h1, .inr ⟨_, h2⟩⟩
  refine @run_main _ _ _ _ _ _ _ _ _ (@lawMain w s.heap s.os 0 (fun _ => Option.none) (callEnvC fd s.heap.objs.size a) (fun y => if y = S "script" then some (.ref b) else Option.none) B he kx ap b xs hs hsz (if_pos rfl)) _ _ τ (AOk.deeper (n := 0 + 12) ⟨rfl, by decide, by decide⟩) J _ _ fun o ρ' H' f s' τ' e J' r ev => ?_
  subst e
  cases r with | ret r =>
  cases r
  refine q s' (fun c o hc => ?_) J'.os J'.gens
  rcases ev.kept c o (keep c o hc) with g | g | g
  · cases g
  · rcases List.mem_cons.mp g with g | g
    · have hc2 : s.heap.get? s.heap.objs.size = some o := by rw [← (show c = s.heap.objs.size from g)]; exact hc
      rw [none_ge _ (Nat.le_refl _)] at hc2; cases hc2
    · obtain ⟨⟨nm, c'⟩, hm, rfl⟩ := List.mem_map.mp g
      rw [none_ge c' (above nm c' (lookup_of_mem _ nd hm))] at hc; cases hc
  · exact g
end
end Mine
end

-- part Z0
set_option linter.all false
noncomputable section
namespace Mine
open PySem PySem.W PySem.Calls PyProof.Rows
set_option Elab.async false
set_option maxRecDepth 100000
noncomputable def dLaw : DefRec := match st 22 with
  | .FunctionDef name args body _ _ _ scope _ _ pos => ⟨name, args, body, scope, pos⟩
  | _ => ⟨S "law", emptyArgs, [], default, default⟩
theorem hasItems_ints : ∀ {xs : List WData}, WShape.hasItems [] xs .int = true → ∃ ns : List Int, xs = ns.map .int
  | [], _ => ⟨[], rfl⟩
  | x :: xs, h => by
    have h : (WShape.has [] x .int && WShape.hasItems [] xs .int) = true := h
    have h := Bool.and_eq_true_iff.mp h
    obtain ⟨ns, rfl⟩ := hasItems_ints h.2
    have h1 := h.1
    cases x with
    | int i => exact ⟨i :: ns, rfl⟩
    | _ => exact (Bool.false_ne_true h1).elim
theorem args_are {args : List WData} (h : WShape.hasAll [] args [.list .int] = true) : ∃ ns : List Int, args = [.list (ns.map .int)] := by
  obtain ⟨d, r, rfl, h1, h2⟩ := hasAllW_cons h
  obtain rfl := hasAllW_nil h2
  cases d with
  | list xs =>
    have h1 : (WShape.hasItems [] xs .int || false) = true := h1
    rw [Bool.or_false] at h1
    obtain ⟨ns, rfl⟩ := hasItems_ints h1
    exact ⟨ns, rfl⟩
  | _ => exact (Bool.false_ne_true h1).elim
theorem and_true {a b : WTm} {e : WCtx} {x : Bool} (h : WTm.value [] a e = some (WData.bool x)) (h2 : WTm.value [] b e = some (WData.bool true)) : WTm.value [] (.and a b) e = some (WData.bool x) := by
  show (match WTm.value [] a e with | some (WData.bool false) => some (WData.bool false) | some (WData.bool true) => (match WTm.value [] b e with | some (WData.bool y) => some (WData.bool y) | _ => (Option.none : Option WData)) | _ => (Option.none : Option WData)) = _
  rw [h]
  cases x
  · rfl
  · show (match WTm.value [] b e with | some (WData.bool y) => some (WData.bool y) | _ => (Option.none : Option WData)) = _
    rw [h2]
theorem not_is {a : WTm} {e : WCtx} {x : Bool} (h : WTm.value [] a e = some (WData.bool x)) : WTm.value [] (.not a) e = some (WData.bool !x) := by
  show (match WTm.value [] a e with | some (WData.bool b) => some (WData.bool (!b)) | _ => (Option.none : Option WData)) = _
  rw [h]
theorem len_is {ns : List WData} (h : PySem.Challenge.rw_uc0039_01.row.pre.holds [] { args := [WData.list ns] } = true) : ns.length ≤ 63 := by
  have e : WTm.value [] PySem.Challenge.rw_uc0039_01.row.pre { args := [WData.list ns] } = some (.bool !(decide ((63 : Int) < ns.length))) := and_true (not_is (by rfl)) (by rfl)
  have h : (match WTm.value [] PySem.Challenge.rw_uc0039_01.row.pre { args := [WData.list ns] } with | some (.bool true) => true | _ => false) = true := h
  rw [e] at h
  by_cases hl : (63 : Int) < ns.length
  · rw [decide_eq_true hl] at h; cases h
  · omega
theorem reads_ints {R cl h} : ∀ {ns : List Int} {vs : List Value} {as}, ReadsAllW R cl h vs (ns.map .int) as → ∃ xs : List (Int × Tok), vs = xs.map (fun p => .int p.1 p.2) ∧ xs.map (·.1) = ns
  | [], vs, as, r => by cases r; exact ⟨[], rfl, rfl⟩
  | n :: ns, vs, as, r => by
    cases r with
    | cons r1 r2 =>
      cases r1
      obtain ⟨xs, rfl, e⟩ := reads_ints r2
      exact ⟨(n, _) :: xs, rfl, by rw [List.map_cons, e]⟩
theorem lay_ints {R cl P ord} : ∀ {ns : List Int} {s : Shared} {r}, layAllW R cl P ord (ns.map .int) s = some r → s.toks ≤ r.2.toks
  | [], s, r, h => by
    simp only [List.map_nil, layAllW, Option.some.injEq] at h
    subst h; exact Nat.le_refl _
  | n :: ns, s, r, h => by
    simp only [List.map_cons, layAllW, layW] at h
    split at h
    · rename_i q hq
      have := lay_ints hq
      obtain rfl := Option.some.inj h
      exact Nat.le_trans (Nat.le_succ _) this
    · cases h
theorem lay_one {R cl P ord} {ns : List Int} {s : Shared} {r} (h : layAllW R cl P ord [.list (ns.map .int)] s = some r) : s.toks ≤ r.2.toks := by
  simp only [layAllW, layW] at h
  split at h
  · rename_i q hq
    split at hq
    · rename_i q2 hq2
      have := lay_ints hq2
      obtain rfl := Option.some.inj hq
      obtain rfl := Option.some.inj h
      exact this
    · cases hq
  · cases h
/-- the texts of the table B.3 have tokens of their own -/
noncomputable def b3tok (t : Nat) : PySem.Str := match b3main.find? (fun e => match e.val with | .str _ u => u == t | _ => false) with
  | some e => (match e.val with | .str x _ => x | _ => PySem.Str.empty)
  | none => PySem.Str.empty
noncomputable def tokIs (t : Nat) (e : DictEntry) : Bool := match e.val with | .str _ u => u == t | _ => false
/-- the tokens rise along the table -/
noncomputable def tokAsc : Nat → List DictEntry → Bool
  | _, [] => true
  | p, e :: r => match e.val with | .str _ t => Nat.blt p t && Nat.blt t 2371 && tokAsc t r | _ => false
theorem tok_find {l : List DictEntry} : ∀ {p : Nat}, tokAsc p l = true → ∀ e ∈ l, ∀ x t, e.val = .str x t → p < t ∧ t < 2371 ∧ l.find? (tokIs t) = some e := by
  induction l with
  | nil => intro p _ e he; exact (List.not_mem_nil he).elim
  | cons e₀ r ih =>
    intro p h e he x t hv
    unfold tokAsc at h
    cases k : e₀.val with
    | str x₀ t₀ =>
      rw [k] at h
      obtain ⟨h, h3⟩ := Bool.and_eq_true_iff.mp h
      obtain ⟨h1, h2⟩ := Bool.and_eq_true_iff.mp h
      have h1 : p < t₀ := by simpa [Nat.blt_eq] using h1
      have h2 : t₀ < 2371 := by simpa [Nat.blt_eq] using h2
      have hi : tokIs t e₀ = (t₀ == t) := by unfold tokIs; rw [k]
      rcases List.mem_cons.mp he with rfl | he
      · rw [k] at hv
        have ht : t₀ = t := by injection hv
        subst ht
        exact ⟨h1, h2, by rw [List.find?_cons, hi, beq_self_eq_true]⟩
      · obtain ⟨a1, a2, a3⟩ := ih h3 e he x t hv
        have hne : (t₀ == t) = false := by rw [beq_eq_false_iff_ne]; exact Nat.ne_of_lt a1
        exact ⟨Nat.lt_trans h1 a1, a2, by rw [List.find?_cons, hi, hne]; exact a3⟩
    | _ => rw [k] at h; exact (Bool.false_ne_true h).elim
theorem b3asc : tokAsc 0 b3main = true := by kernel_rfl
theorem b3toks {t : Nat} {x : PySem.Str} {e : DictEntry} (he : e ∈ b3main) (hv : e.val = .str x t) : t ≠ 0 ∧ t < 2371 ∧ b3tok t = x := by
  obtain ⟨h1, h2, h3⟩ := tok_find b3asc e he x t hv
  refine ⟨Nat.pos_iff_ne_zero.mp h1, h2, ?_⟩
  have h3 : b3main.find? (fun e => match e.val with | .str _ u => u == t | _ => false) = some e := h3
  unfold b3tok
  rw [h3]
  show (match e.val with | .str x _ => x | _ => PySem.Str.empty) = x
  rw [hv]
theorem post_is (args after : List WData) : PySem.Challenge.rw_uc0039_01.row.claim.post args (.bool true) after = true := by
  have k : same (WData.bool true) (WData.bool true) = true := by first | decide +kernel | kernel_rfl | simp [same]
  have e : WTm.value [] (.eq .res (.lit (.bool true))) { args := args, res := some (.bool true), after := after } = some (.bool (same (WData.bool true) (WData.bool true))) := rfl
  rw [k] at e
  show (WShape.has [] (.bool true) .bool && (match WTm.value [] (.eq .res (.lit (.bool true))) { args := args, res := some (.bool true), after := after } with | some (.bool true) => true | _ => false)) = true
  rw [e]
  first | decide +kernel | kernel_rfl
theorem ns_unique {h : Heap} {a : Addr} {m m' : PySem.Str → Option Value} (x : h.Ns a m) (y : h.Ns a m') (z : PySem.Str) : m z = m' z := by
  obtain ⟨o, es, ep, h1, h2, _, h4⟩ := x
  obtain ⟨o', es', ep', k1, k2, _, k4⟩ := y
  obtain rfl := Option.some.inj (h1.symm.trans k1)
  obtain ⟨rfl, _⟩ := Data.dict.inj (h2.symm.trans k2)
  exact (h4 z).symm.trans (k4 z)
end Mine
end

-- part S3
set_option linter.all false
set_option maxRecDepth 100000
noncomputable section
namespace Mine
open PySem PySem.W PySem.Calls PyProof.Rows
set_option Elab.async false
noncomputable abbrev sdP := PySem.Challenge.rw_uc0039_01.row.prog
theorem said_r1 : namesResolve sdP = true := by rw [PySem.W.Fast.te8377067652309620493]; kernel_rfl
theorem said_r2 : (namesMeet sdP sdP.main.body fun _ n => attrL n) = true := by rw [PySem.W.Fast.te17119622794617984870, PySem.W.Fast.te17868728402115742887]; kernel_rfl
theorem said_r3 : (namesMeet sdP sdP.main.body fun sc x => x != "vars" || !(sc.names.lookup x == some .globalImplicit || sc.names.lookup x == some .globalExplicit)) = true := by rw [PySem.W.Fast.te17119622794617984870]; kernel_rfl
theorem said_r4 : (namesMeet sdP sdP.main.body fun sc x => x != "dir" || !(sc.names.lookup x == some .globalImplicit || sc.names.lookup x == some .globalExplicit)) = true := by rw [PySem.W.Fast.te17119622794617984870]; kernel_rfl
theorem said_r5 : (namesMeet sdP sdP.main.body fun sc x => x != "locals" || !(sc.names.lookup x == some .globalImplicit || sc.names.lookup x == some .globalExplicit)) = true := by rw [PySem.W.Fast.te17119622794617984870]; kernel_rfl
theorem said_rb : (["vars", "dir", "locals"] : List Str).filter (readsOut sdP sdP.main.body) = [] := by
  unfold readsOut; simp only [List.filter_cons, said_r3, said_r4, said_r5]; rfl
theorem said_r7 : noRoadLSs { strict := !(importedModules sdP.main.body).all cThrough.contains, foot := none, bare := (["vars", "dir", "locals"] : List Str).filter (readsOut sdP sdP.main.body) } sdP.main.body = true := by rw [said_rb, PySem.W.Fast.te8326940854005059898]; kernel_rfl
theorem said_r8 : (sreFenced sdP.main && ((moduleNames sdP.main.body).isEmpty || lookedIntoSs (moduleNames sdP.main.body) sdP.main.body)) = true := by kernel_rfl
theorem said_r9 : sdP.boundNames.all (fun n => !worldNames.contains n) = true := by kernel_rfl
theorem said_ra : looksOpen sdP = true := look_both (look_both (look_both (look_both said_r8 said_r1) said_r9) said_r7) said_r2
noncomputable abbrev sdL := PySem.Challenge.rw_uc0039_01
theorem said_s1 : sdL.row.partSaid = true := by
  unfold OpenRow.partSaid
  rw [show looksOpen sdL.row.prog = true from said_ra]
  kernel_rfl
theorem said_s2 : sdL.row.wellSaid = true := by
  unfold OpenRow.wellSaid
  rw [said_s1]
  kernel_rfl
theorem said_u1 : noClassBlock sdL.prog sdL.footing = true := by rw [PySem.W.Fast.te8179353310426384613]; kernel_rfl
theorem said_u2 : noRoadLSs { strict := true, foot := some sdL.bound', writes := sdL.writes, may := sdL.may } sdL.footing = true := by rw [PySem.W.Fast.te8326940854005059898]; kernel_rfl
theorem said_u3 : (defStands sdL.about sdL.above && sdL.namesIt) = true := by kernel_rfl
theorem said_u4 : namesMeet sdL.prog sdL.footing (fun sc n => (!(["type", "isinstance", "issubclass", "getattr", "hasattr"] : List Str).contains n || sc.names.lookup n == some .globalImplicit) &&
    (sdL.may != some n || sc.kind == .module || sc.names.lookup n == some .globalImplicit)) = true := by rw [PySem.W.Fast.te17119622794617984870]; kernel_rfl
theorem said_u5 : namesMeet sdL.prog sdL.above (fun _ n => !sdL.own.contains n) = true := by rw [PySem.W.Fast.te17119622794617984870]; kernel_rfl
theorem said_u6 : (namesMeet sdL.prog sdL.footing fun sc n => sc.kind == .module || sc.names.lookup n != some .globalExplicit) = true := by rw [PySem.W.Fast.te17119622794617984870]; kernel_rfl
theorem said : sdL.wellSaid = true := by
  unfold OpenLaw.wellSaid
  rw [said_s2, said_u1, said_u2, said_u4, said_u5, said_u6]
  kernel_rfl
end Mine
end

-- part Z1
set_option linter.all false
set_option maxHeartbeats 8000000
set_option maxRecDepth 100000
set_option Elab.async false
open PySem PySem.W PySem.Calls PyProof.Rows
theorem PySem.Challenge.cw_uc0039_01_holds : PySem.Challenge.rw_uc0039_01.Holds := by
   w_on
   refine PySem.W.holds_law Mine.said (fun said => ?_)
   refine Mine.holds_told (q := Mine.qv) (loose := Mine.looseV) (Xt := fun _ => true) (XP := fun _ _ => True) (Yf := fun s => ((kHook Mine.KF Mine.KA Mine.KA_eq).obs s, decide (2371 ≤ s.toks))) (Ya := fun w => ((kHook Mine.KF Mine.KA Mine.KA_eq).val w, true)) (YP := (kHook Mine.KF Mine.KA Mine.KA_eq).says) (ZP := fun s => 2371 ≤ s.toks) (d := Mine.dLaw) (kwd := []) (N := 40000)
    Mine.leftT (fun w s e => ⟨(kHook Mine.KF Mine.KA Mine.KA_eq).of w s (congrArg Prod.fst e), of_decide_eq_true (congrArg Prod.snd e)⟩) (kHook Mine.KF Mine.KA Mine.KA_eq).keeps (fun _ _ => trivial) (fun _ _ _ h _ => h) (by rfl) (by rfl) (by rfl) (fun s e => recFacts_of (by rfl)) (by rfl) (by assumption) (by decide +kernel) ⟨rfl, rfl, rfl, rfl, rfl, by decide +kernel⟩ ?hw ?hc
   case hw => w_witness2
   case hc =>
     intro w s₀ s₁ mg mb G Y Z a o pm cd doc dV kV ho hd hcd hmg hg args vals as hpre hlay L
     obtain ⟨p1, p2⟩ := pre_splitW hpre
     obtain ⟨ns, rfl⟩ := Mine.args_are p1
     have hlen := Mine.len_is p2
     rw [List.length_map] at hlen
     have hT : s₀.toks ≤ s₁.toks := by
       obtain ⟨ord, _, e⟩ := L.laid
       exact Mine.lay_one e
     have K : (Mine.KF w.params).In s₁.heap := kIn_of Y
     have B : Mine.Base w s₁.heap := ⟨K, G.T.nolimit, mb, G.T.b, G.T.builtins⟩
     have ha : a = 187 := by
       have e1 := Mine.ns_unique G.T.g B.glob (Mine.S "law")
       have e2 : mg (Mine.S "law") = some (.ref a) := hmg
       rw [e2] at e1
       have e3 : nsFind (Mine.gEs w.params) (Mine.S "law") = some (.ref 187) := by rfl
       rw [e3] at e1
       exact Value.ref.inj (Option.some.inj e1)
     subst ha
     have rd := L.reads
     cases rd with | cons r1 r2 =>
     cases r2
     cases r1 with | list h1 h2 h3 h4 =>
     obtain ⟨xs, e1, e2⟩ := Mine.reads_ints h4
     rename_i b ob vs k _
     have hvs : vs = intItems xs.toArray := by
       apply Array.toList_inj.mp
       rw [e1]; unfold intItems; simp
     have hl : s₁.heap.IsList b (intItems xs.toArray) := ⟨ob, h1, h2, k, by rw [h3, hvs]⟩
     have hsz : xs.toArray.size ≤ sizeLine := by
       have : xs.length = ns.length := by rw [← e2, List.length_map]
       rw [List.size_toArray, this]; exact Nat.le_trans hlen (by decide)
     have tok : Mine.TokOk s₁.toks Mine.b3tok := by
       refine ⟨fun e => ?_, fun t x ⟨en, hen, hv⟩ => ?_⟩
       · have : 2371 ≤ s₁.toks := Nat.le_trans Z hT
         rw [e] at this; exact absurd this (by decide)
       · obtain ⟨c1, c2, c3⟩ := Mine.b3toks hen hv
         exact ⟨c1, Nat.lt_of_lt_of_le c2 (Nat.le_trans Z hT), c3⟩
     refine Mine.law_call (a := 187) (b := b) (xs := xs.toArray) (τ := Mine.b3tok) B rfl hg tok (B.K 187 _ (by rfl)) rfl ⟨186, _, _, _, rfl, B.K 186 _ (by rfl), rfl, rfl⟩ rfl rfl rfl rfl rfl (fun v => by rfl) hl hsz fun s' hk hos hgs => ?_
     exact ⟨.inl ⟨_, .bool true, [], rfl, fun _ => rfl, .bool true, Mine.post_is _ _, fun _ => ⟨.nil, fun _ h => nomatch h⟩⟩, hk, hos, hgs⟩
