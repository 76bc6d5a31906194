import PyProof.Rows.All
import Wide.All
import Open.Line
import OpenK.XOpen
import Wide.FinOn
import KE.IntBitsLaws
import PySem.Challenge.RW_ux0016_01
open PySem PySem.W PyProof.Rows
set_option Elab.async false
set_option linter.all false
set_option maxRecDepth 100000
set_option maxHeartbeats 0
namespace Mine

/-- abstract values -/
inductive AV where
  | none
  | bool (b : Bool)
  | int (i : Int)
  | str (s : Str)
  | raw (v : Value)
  | lst (n : Nat)
  | tup (l : List AV)
  | rng (lo hi : Int)
  | clo (name : Str) (params : Arguments) (body : PySem.Expr) (scope : Scope) (cells : List (Str × Nat))

inductive Cell where
  | lst (l : List AV)
  | cel (v : Option AV)

noncomputable abbrev Sto := Nat → Option Cell

noncomputable def Sto.upd (σ : Sto) (n : Nat) (c : Cell) : Sto := fun k => if k = n then some c else σ k

structure RT where
  prog : Program
  w : World
  h₀ : Heap
  os : OsState
  tabs : List (Addr × Addr)

noncomputable abbrev RT.M (R : RT) : Model := model R.prog R.w

noncomputable def closFd (name : Str) (params : Arguments) (body : PySem.Expr) (scope : Scope) (cl : List (Str × Addr)) (qn : Str) (ct cd pm doc : Value) (an : Option Addr) : FuncData :=
  { name := name, qualname := qn, params := params, body := .expr body, scope := scope, globals := mainGlobals, closure := cl,
    defaults := .none, kwdefaults := .none, doc := doc, pyModule := pm, annotations := an, code := cd, closureTuple := ct, builtins := builtinsNs }

inductive CellsR (L : List Addr) : List (Str × Nat) → List (Str × Addr) → Prop
  | nil : CellsR L [] []
  | cons {x : Str} {n : Nat} {a : Addr} {r : List (Str × Nat)} {r' : List (Str × Addr)} : L[n]? = some a → CellsR L r r' → CellsR L ((x, n) :: r) ((x, a) :: r')

mutual
inductive VR (L : List Addr) (h : Heap) : AV → Value → Prop
  | none : VR L h .none .none
  | bool (b : Bool) : VR L h (.bool b) (.bool b)
  | int (i : Int) (t : Tok) : VR L h (.int i) (.int i t)
  | str (x : Str) (t : Tok) : VR L h (.str x) (.str x t)
  | raw (v : Value) : VR L h (.raw v) v
  | lst {n : Nat} {a : Addr} : L[n]? = some a → VR L h (.lst n) (.ref a)
  | tup {l : List AV} {a : Addr} {items : Array Value} {n : Nat} : h.get? a = some { cls := .type "tuple", data := .seq items n } → VRs L h l items.toList → VR L h (.tup l) (.ref a)
  | rng {a : Addr} {lo hi : Int} {t u v : Tok} : IsRange h a lo hi 1 t u v → VR L h (.rng lo hi) (.ref a)
  | clo {name : Str} {params : Arguments} {body : PySem.Expr} {scope : Scope} {cells : List (Str × Nat)} {a : Addr} {o : Obj} {cl : List (Str × Addr)} {qn : Str} {ct cd pm doc : Value} {an : Option Addr} :
      h.get? a = some o → o.cls = .type "function" → o.data = .func (closFd name params body scope cl qn ct cd pm doc an) → CellsR L cells cl → (∃ q, h.CodeRec cd q ∧ ∃ c oc, cd = .ref c ∧ h.get? c = some oc ∧ oc.cls = .type "code") →
      VR L h (.clo name params body scope cells) (.ref a)
inductive VRs (L : List Addr) (h : Heap) : List AV → List Value → Prop
  | nil : VRs L h [] []
  | cons {v : AV} {l : List AV} {v' : Value} {l' : List Value} : VR L h v v' → VRs L h l l' → VRs L h (v :: l) (v' :: l')
end

/-- objects that never change behind -/
noncomputable def DictO (o : Obj) : Prop := ∃ es n, o.data = .dict es n
noncomputable def Fixed (o : Obj) : Prop := (o.cls = .type "tuple" ∨ o.cls = .type "function" ∨ o.cls = .type "code" ∨ o.cls = .type "range") ∧ ¬ DictO o

noncomputable def Stays (h h' : Heap) : Prop := ∀ b o, h.get? b = some o → Fixed o → h'.get? b = some o

theorem getElem?_mono {L L' : List Addr} (hL : L <+: L') {n : Nat} {a : Addr} (h : L[n]? = some a) : L'[n]? = some a := by
  obtain ⟨t', rfl⟩ := hL
  rw [List.getElem?_append_left]; exact h
  exact (List.getElem?_eq_some_iff.mp h).1

theorem CellsR.mono {L L' : List Addr} (hL : L <+: L') {r : List (Str × Nat)} {r' : List (Str × Addr)} (x : CellsR L r r') : CellsR L' r r' := by
  induction x with
  | nil => exact .nil
  | cons h _ ih => exact .cons (getElem?_mono hL h) ih
theorem fix_tuple {n : Nat} {items : Array Value} {dd sl} : Fixed { cls := .type "tuple", dict := dd, data := .seq items n, slots := sl } := ⟨.inl rfl, fun ⟨_, _, e⟩ => nomatch e⟩
theorem fix_range {vs : Array Value} {dd sl} : Fixed { cls := .type "range", dict := dd, data := .fields vs, slots := sl } := ⟨.inr (.inr (.inr rfl)), fun ⟨_, _, e⟩ => nomatch e⟩
theorem fix_func {o : Obj} {fd : FuncData} (h : o.cls = .type "function") (hd : o.data = .func fd) : Fixed o := ⟨.inr (.inl h), fun ⟨_, _, e⟩ => by rw [hd] at e; cases e⟩
theorem fix_code {o : Obj} {vs : Array Value} (h : o.cls = .type "code") (hd : o.data = .fields vs) : Fixed o := ⟨.inr (.inr (.inl h)), fun ⟨_, _, e⟩ => by rw [hd] at e; cases e⟩

noncomputable def CodeOk (h : Heap) (cd : Value) : Prop := ∃ q, h.CodeRec cd q ∧ ∃ c oc, cd = .ref c ∧ h.get? c = some oc ∧ oc.cls = .type "code"
theorem CodeOk.mono {h h' : Heap} (hs : Stays h h') {cd : Value} (x : CodeOk h cd) : CodeOk h' cd := by
  obtain ⟨q, ⟨c, o, vs, t, e1, e2, e2', e3⟩, c', oc, e4, e5, e6⟩ := x
  obtain rfl : c' = c := by rw [e4] at e1; cases e1; rfl
  rw [e5] at e2; cases e2
  have := hs _ _ e5 (fix_code e6 e2')
  exact ⟨q, ⟨c', _, vs, t, e1, this, e2', e3⟩, c', _, e4, this, e6⟩

theorem VR.mono {L L' : List Addr} {h h' : Heap} (hL : L <+: L') (hs : Stays h h') {v : AV} {v' : Value} (x : VR L h v v') : VR L' h' v v' :=
  VR.rec (motive_1 := fun v v' _ => VR L' h' v v') (motive_2 := fun l l' _ => VRs L' h' l l') .none .bool .int .str .raw (fun e => .lst (getElem?_mono hL e)) (fun ho _ r => .tup (hs _ _ ho fix_tuple) r) (fun ho => .rng (hs _ _ ho fix_range))
    (fun ho hc hd hcl hq => .clo (hs _ _ ho (fix_func hc hd)) hc hd (hcl.mono hL) (CodeOk.mono hs hq)) .nil (fun _ _ a r => .cons a r) x
theorem VRs.ind {L : List Addr} {h : Heap} {P : List AV → List Value → Prop} (nil : P [] []) (cons : ∀ {v l v' l'}, VR L h v v' → VRs L h l l' → P l l' → P (v :: l) (v' :: l')) {l : List AV} {l' : List Value} (x : VRs L h l l') : P l l' :=
  VRs.rec (motive_1 := fun _ _ _ => True) (motive_2 := fun l l' _ => P l l') trivial (fun _ => trivial) (fun _ _ => trivial) (fun _ _ => trivial) (fun _ => trivial) (fun _ => trivial) (fun _ _ _ => trivial) (fun _ => trivial) (fun _ _ _ _ _ => trivial) nil (fun a r _ q => cons a r q) x
theorem VRs.mono {L L' : List Addr} {h h' : Heap} (hL : L <+: L') (hs : Stays h h') {l : List AV} {l' : List Value} (x : VRs L h l l') : VRs L' h' l l' :=
  x.ind .nil fun a _ r => .cons (VR.mono hL hs a) r

theorem VRs.length {L : List Addr} {h : Heap} {l : List AV} {l' : List Value} (x : VRs L h l l') : l'.length = l.length :=
  x.ind (P := fun l l' => l'.length = l.length) rfl fun _ _ r => congrArg (· + 1) r
theorem VRs.append {L : List Addr} {h : Heap} {l : List AV} {l' : List Value} {k : List AV} {k' : List Value} (x : VRs L h l l') (y : VRs L h k k') : VRs L h (l ++ k) (l' ++ k') :=
  x.ind (P := fun l l' => VRs L h (l ++ k) (l' ++ k')) y fun a _ r => .cons a r
theorem VRs.get {L : List Addr} {h : Heap} : ∀ {l : List AV} {l' : List Value} {i : Nat} {v : AV}, VRs L h l l' → l[i]? = some v → ∃ v', l'[i]? = some v' ∧ VR L h v v'
  | _, _, _, _, .nil, e => by simp at e
  | _, _, 0, _, .cons a _, e => by simp only [List.getElem?_cons_zero, Option.some.injEq] at e ⊢; subst e; exact ⟨_, rfl, a⟩
  | _, _, i + 1, _, .cons _ r, e => by simp only [List.getElem?_cons_succ] at e ⊢; exact r.get e

/-- what a piece of a run leaves as it was -/
noncomputable def Kept (h' : Heap) (b : Addr) (o : Obj) : Prop :=
  h'.get? b = some o ∨ (o.cls = .none ∧ ∃ vs more, o.data = .fields vs ∧ h'.get? b = some { o with data := .fields (vs ++ more) })

theorem Kept.cls {h' : Heap} {b : Addr} {o : Obj} (k : Kept h' b o) (hc : o.cls ≠ .none) : h'.get? b = some o := by
  rcases k with k | ⟨hn, _⟩
  · exact k
  · exact absurd hn hc

structure Grow (L L' : List Addr) (own : List Addr) (s s' : Shared) : Prop where
  pre : L <+: L'
  fresh : ∀ a ∈ L', a ∉ L → s.heap.get? a = none ∨ a ∈ own
  keep : ∀ b o, s.heap.get? b = some o → b ∉ L → b ∉ own → Kept s'.heap b o
  there : ∀ b o, s.heap.get? b = some o → b ∉ own → ∃ o', s'.heap.get? b = some o'
  gens : ∀ (g : Nat) (x : GenState), s.gens[g]? = some x → s'.gens[g]? = some x
  gsize : s.gens.size ≤ s'.gens.size

theorem Grow.refl (L own : List Addr) (s : Shared) : Grow L L own s s :=
  ⟨List.prefix_refl _, fun _ h h' => absurd h h', fun _ _ e _ _ => .inl e, fun _ _ e _ => ⟨_, e⟩, fun _ _ e => e, Nat.le_refl _⟩

theorem Kept.trans {h' h'' : Heap} {b : Addr} {o : Obj} (k : Kept h' b o) (k' : ∀ o', h'.get? b = some o' → Kept h'' b o') : Kept h'' b o := by
  rcases k with e | ⟨hn, vs, more, hd, e⟩
  · exact k' _ e
  · rcases k' _ e with e' | ⟨_, vs', more', hd', e'⟩
    · exact .inr ⟨hn, vs, more, hd, e'⟩
    · cases hd'
      exact .inr ⟨hn, vs, more ++ more', hd, by rw [e', Array.append_assoc]⟩

theorem Grow.trans {L L' L'' own own' : List Addr} {s s' s'' : Shared} (g : Grow L L' own s s') (g' : Grow L' L'' own' s' s'') (ho : ∀ a ∈ own', a ∈ own ∨ s.heap.get? a = none) : Grow L L'' own s s'' where
  pre := g.pre.trans g'.pre
  fresh := fun a ha hn => by
    by_cases h : a ∈ L'
    · exact g.fresh a h hn
    · rcases g'.fresh a ha h with this | h
      · cases e : s.heap.get? a with
        | none => exact .inl rfl
        | some o =>
          by_cases h' : a ∈ own
          · exact .inr h'
          · obtain ⟨o', e'⟩ := g.there _ _ e h'; rw [e'] at this; cases this
      · rcases ho a h with h | h
        · exact .inr h
        · exact .inl h
  keep := fun b o e hL hown => by
    refine (g.keep b o e hL hown).trans fun o' e' => g'.keep b o' e' (fun hb => ?_) (fun hb => ?_)
    · rcases g.fresh b hb hL with this | this
      · rw [e] at this; cases this
      · exact hown this
    · rcases ho b hb with h | h
      · exact hown h
      · rw [e] at h; cases h
  there := fun b o e hown => by
    obtain ⟨o', e'⟩ := g.there b o e hown
    refine g'.there b o' e' fun hb => ?_
    rcases ho b hb with h | h
    · exact hown h
    · rw [e] at h; cases h
  gens := fun k x e => g'.gens k x (g.gens k x e)
  gsize := Nat.le_trans g.gsize g'.gsize

theorem Grow.weaken {L L' own own' : List Addr} {s s' : Shared} (g : Grow L L' own s s') (ho : ∀ a ∈ own, a ∈ own' ∨ s.heap.get? a = none) : Grow L L' own' s s' where
  pre := g.pre
  fresh := fun a ha hn => by
    rcases g.fresh a ha hn with h | h
    · exact .inl h
    · exact (ho a h).symm
  keep := fun b o e hL hown => g.keep b o e hL fun hb => by
    rcases ho b hb with h | h
    · exact hown h
    · rw [e] at h; cases h
  there := fun b o e hown => g.there b o e fun hb => by
    rcases ho b hb with h | h
    · exact hown h
    · rw [e] at h; cases h
  gens := g.gens
  gsize := g.gsize

noncomputable def CellAt (L : List Addr) (h : Heap) : Cell → Addr → Prop
  | .lst l, a => ∃ items, h.PlainList a items ∧ VRs L h l items.toList
  | .cel none, a => ∃ o, h.get? a = some o ∧ o.cls = .type "cell" ∧ o.data = .cell none
  | .cel (some v), a => ∃ o v', h.get? a = some o ∧ o.cls = .type "cell" ∧ o.data = .cell (some v') ∧ VR L h v v'

/-- all lambdas' code objects laid in a table bear a code record -/
noncomputable def TabOk (h : Heap) (c P : Addr) : Prop :=
  ∃ ps, h.IsCode c P ps ∧ h.TableAt c P ps ∧ ∀ pos c', codeAmong pos ps.toList = some c' → CodeOk h c'

structure HR (R : RT) (L : List Addr) (σ : Sto) (s : Shared) : Prop where
  old : OldK R.h₀ s.heap
  bare : AllBare s.gens
  os : s.os = R.os
  nodup : L.Nodup
  new : ∀ a ∈ L, R.h₀.get? a = none
  kind : ∀ a ∈ L, ∃ o, s.heap.get? a = some o ∧ (o.cls = .type "list" ∨ o.cls = .type "cell") ∧ ¬ DictO o
  at_ : ∀ n c, σ n = some c → ∃ a, L[n]? = some a ∧ CellAt L s.heap c a
  tabs : ∀ c P, (c, P) ∈ R.tabs → R.h₀.get? P ≠ none ∧ TabOk s.heap c P

inductive Bnd where
  | val (v : AV)
  | cel (n : Nat)

noncomputable abbrev Loc := List (Str × Bnd)

inductive Look : Loc → Str → Bnd → Prop
  | here {x b ρ} : Look ((x, b) :: ρ) x b
  | there {x y b c ρ} : x ≠ y → Look ρ x b → Look ((y, c) :: ρ) x b

inductive Upd : Loc → Str → AV → Loc → Prop
  | nil {x v} : Upd [] x v [(x, .val v)]
  | here {x w v ρ} : Upd ((x, .val w) :: ρ) x v ((x, .val v) :: ρ)
  | there {x y c v ρ ρ'} : x ≠ y → Upd ρ x v ρ' → Upd ((y, c) :: ρ) x v ((y, c) :: ρ')

theorem Upd.look {ρ ρ' : Loc} {x : Str} {v : AV} (u : Upd ρ x v ρ') {y : Str} {b : Bnd} (h : Look ρ' y b) : (y = x ∧ b = .val v) ∨ (y ≠ x ∧ Look ρ y b) := by
  induction u with
  | nil => cases h with
    | here => exact .inl ⟨rfl, rfl⟩
    | there _ h => cases h
  | here => cases h with
    | here => exact .inl ⟨rfl, rfl⟩
    | there ne h => exact .inr ⟨ne, .there ne h⟩
  | there ne _ ih => cases h with
    | here => exact .inr ⟨fun e => ne e.symm, .here⟩
    | there ne' h => rcases ih h with h | ⟨a, b⟩
                     · exact .inl h
                     · exact .inr ⟨a, .there ne' b⟩

structure Fm where
  scope : Scope
  env : Env

structure FmOk (R : RT) (fm : Fm) : Prop where
  scope : fm.env.scope = fm.scope
  kind : fm.scope.kind = .function
  globals : fm.env.globals = mainGlobals
  builtins : fm.env.builtins = builtinsNs
  new : R.h₀.get? fm.env.locals = none

structure FR (R : RT) (L : List Addr) (fm : Fm) (ρ : Loc) (s : Shared) : Prop where
  ok : FmOk R fm
  ns : ∃ m, s.heap.Ns fm.env.locals m ∧ ∀ x v, Look ρ x (.val v) → fm.scope.names.lookup x = some .local ∧ ∃ v', m x = some v' ∧ VR L s.heap v v'
  cel : ∀ x n, Look ρ x (.cel n) → (fm.scope.names.lookup x = some .cell ∨ fm.scope.names.lookup x = some .free) ∧ ∃ a, fm.env.cells.lookup x = some a ∧ L[n]? = some a

structure St where
  ρ : Loc
  σ : Sto

noncomputable def Rep (R : RT) (fm : Fm) (L : List Addr) (st : St) (s : Shared) : Prop := HR R L st.σ s ∧ FR R L fm st.ρ s

structure Room (d : Nat) (A : Around) : Prop where
  depth : A.depth + d < recursionLimit
  units : A.units + 10 * d < cLine
  handled : A.handled = none

theorem Room.less {d d' : Nat} {A : Around} (r : Room d A) (h : d' ≤ d) : Room d' A := ⟨by have := r.depth; lia, by have := r.units; lia, r.handled⟩
theorem Room.lt {d : Nat} {A : Around} (r : Room d A) : A.depth < recursionLimit := by have := r.depth; lia

noncomputable abbrev own (fm : Fm) : List Addr := [fm.env.locals]

/-- evaluation of an expression -/
noncomputable def Ev (R : RT) (d : Nat) (fm : Fm) (e : PySem.Expr) (st : St) (K : AV → St → Prop) : Prop :=
  ∀ A L s, Room d A → 0 < s.toks → Rep R fm L st s → ∀ Q E,
    (∀ v' s' L' v st', K v st' → Rep R fm L' st' s' → VR L' s'.heap v v' → Grow L L' (own fm) s s' → Q v' s') → wpAny R.M A (eval e fm.env) Q E s

/-- a test -/
noncomputable def Tst (R : RT) (d : Nat) (fm : Fm) (e : PySem.Expr) (st : St) (K : Bool → St → Prop) : Prop :=
  ∀ A L s, Room d A → 0 < s.toks → Rep R fm L st s → ∀ Q E,
    (∀ b s' L' st', K b st' → Rep R fm L' st' s' → Grow L L' (own fm) s s' → Q b s') → wpAny R.M A (isTrue e fm.env (eval e fm.env)) Q E s

inductive Out where
  | next | brk | cont
  | ret (v : AV)

noncomputable def FlowR (L : List Addr) (h : Heap) : Out → Flow → Prop
  | .next, .next => True
  | .brk, .brk => True
  | .cont, .cont => True
  | .ret v, .ret v' => VR L h v v'
  | _, _ => False

noncomputable def Exs (R : RT) (d : Nat) (fm : Fm) (b : List Stmt) (st : St) (K : Out → St → Prop) : Prop :=
  ∀ A L s, Room d A → 0 < s.toks → Rep R fm L st s → ∀ Q E,
    (∀ f s' L' o st', K o st' → Rep R fm L' st' s' → FlowR L' s'.heap o f → Grow L L' (own fm) s s' → Q f s') → wpAny R.M A (execs b fm.env) Q E s

noncomputable def Ex (R : RT) (d : Nat) (fm : Fm) (b : Stmt) (st : St) (K : Out → St → Prop) : Prop :=
  ∀ A L s, Room d A → 0 < s.toks → Rep R fm L st s → ∀ Q E,
    (∀ f s' L' o st', K o st' → Rep R fm L' st' s' → FlowR L' s'.heap o f → Grow L L' (own fm) s s' → Q f s') → wpAny R.M A (exec b fm.env) Q E s

/-- assignment to a target -/
noncomputable def Asg (R : RT) (d : Nat) (fm : Fm) (t : PySem.Expr) (v : AV) (st : St) (K : St → Prop) : Prop :=
  ∀ A L s v', Room d A → 0 < s.toks → Rep R fm L st s → VR L s.heap v v' → ∀ Q E,
    (∀ s' L' st', K st' → Rep R fm L' st' s' → Grow L L' (own fm) s s' → Q () s') → wpAny R.M A (assign t fm.env v') Q E s

/-- a call -/
noncomputable def Calls (R : RT) (d : Nat) (f : AV) (args : List AV) (kw : List (Str × AV)) (σ : Sto) (K : AV → Sto → Prop) : Prop :=
  ∀ A L s f' args' kv', Room d A → 0 < s.toks → HR R L σ s → VR L s.heap f f' → VRs L s.heap args args' → VRs L s.heap (kw.map (·.2)) kv' → ∀ Q E,
    (∀ v' s' L' v σ', K v σ' → HR R L' σ' s' → VR L' s'.heap v v' → Grow L L' [] s s' → Q v' s') → wpAny R.M A (call f' args' ((kw.map (·.1)).zip kv')) Q E s

/-- an operator -/
noncomputable def Opr (R : RT) (t : List Value → Sem Value) (args : List AV) (σ : Sto) (K : AV → Sto → Prop) : Prop :=
  ∀ A L s args', Room 2 A → 0 < s.toks → HR R L σ s → VRs L s.heap args args' → ∀ Q E,
    (∀ v' s' L' v σ', K v σ' → HR R L' σ' s' → VR L' s'.heap v v' → Grow L L' [] s s' → Q v' s') → wpAny R.M A (t args') Q E s

theorem not_fixed_list {o : Obj} (h : o.cls = .type "list" ∨ o.cls = .type "cell") : ¬ Fixed o := by
  rintro ⟨e | e | e | e, _⟩ <;> rcases h with h | h <;> rw [h] at e <;> simp at e
theorem not_fixed_dict {o : Obj} (h : DictO o) : ¬ Fixed o := fun e => e.2 h
theorem Fixed.cls {o : Obj} (h : Fixed o) : o.cls ≠ .none := by
  rcases h with ⟨h | h | h | h, _⟩ <;> rw [h] <;> simp
theorem Kept.dict {h' : Heap} {b : Addr} {o : Obj} (k : Kept h' b o) (hd : DictO o) : h'.get? b = some o := by
  rcases k with k | ⟨_, vs, _, e, _⟩
  · exact k
  · obtain ⟨_, _, q⟩ := hd; rw [e] at q; cases q

theorem nodup_inj : ∀ {L : List Addr} {i j : Nat} {a : Addr}, L.Nodup → L[i]? = some a → L[j]? = some a → i = j
  | [], _, _, _, _, h, _ => by simp at h
  | b :: L, 0, 0, _, _, _, _ => rfl
  | b :: L, 0, j + 1, a, hn, h, h' => by
    simp only [List.getElem?_cons_zero, Option.some.injEq] at h; subst h
    rw [List.getElem?_cons_succ] at h'
    exact absurd (List.mem_of_getElem? h') (List.nodup_cons.mp hn).1
  | b :: L, i + 1, 0, a, hn, h, h' => by
    simp only [List.getElem?_cons_zero, Option.some.injEq] at h'; subst h'
    rw [List.getElem?_cons_succ] at h
    exact absurd (List.mem_of_getElem? h) (List.nodup_cons.mp hn).1
  | b :: L, i + 1, j + 1, a, hn, h, h' => by
    rw [List.getElem?_cons_succ] at h h'
    exact congrArg (· + 1) (nodup_inj (List.nodup_cons.mp hn).2 h h')

theorem Stays.refl (h : Heap) : Stays h h := fun _ _ e _ => e
theorem Stays.of_keep {h h' : Heap} (k : ∀ b o, h.get? b = some o → h'.get? b = some o) : Stays h h' := fun b o e _ => k b o e
theorem Stays.extBut {h h' : Heap} {a : Addr} (k : Heap.ExtBut a h h') (ha : ∀ o, h.get? a = some o → ¬ Fixed o) : Stays h h' := fun b o e hf => by
  by_cases hb : b = a
  · subst hb; exact absurd hf (ha o e)
  · exact k b o hb e
theorem Stays.sameBut {h h' : Heap} {a : Addr} (k : Heap.SameBut a h h') (ha : ∀ o, h.get? a = some o → ¬ Fixed o) : Stays h h' := fun b o e hf => by
  by_cases hb : b = a
  · subst hb; exact absurd hf (ha o e)
  · exact (k.2 b hb).trans e

section
variable {R : RT} {L L' : List Addr} {σ : Sto} {s s' : Shared} {fm : Fm} {ρ : Loc} {st : St}

theorem HR.stays (H : HR R L σ s) {own : List Addr} (g : Grow L L' own s s') (ho : ∀ a ∈ own, ∀ o, s.heap.get? a = some o → ¬ Fixed o) : Stays s.heap s'.heap := fun b o e hf => by
  by_cases hb : b ∈ L
  · obtain ⟨o', e', hc⟩ := H.kind b hb
    rw [e] at e'; cases e'
    exact absurd hf (not_fixed_list hc.1)
  · by_cases hb' : b ∈ own
    · exact absurd hf (ho b hb' o e)
    · exact (g.keep b o e hb hb').cls hf.cls

theorem FR.loc (F : FR R L fm ρ s) : ∃ o, s.heap.get? fm.env.locals = some o ∧ DictO o := by
  obtain ⟨m, ⟨o, es, ep, e, hd, _⟩, _⟩ := F.ns
  exact ⟨o, e, es, ep, hd⟩
theorem FR.own_free (F : FR R L fm ρ s) : ∀ a ∈ own fm, ∀ o, s.heap.get? a = some o → ¬ Fixed o := fun a ha o e => by
  obtain rfl : a = fm.env.locals := by simpa [own] using ha
  obtain ⟨o', e', hc⟩ := F.loc
  rw [e] at e'; cases e'
  exact not_fixed_dict hc

theorem Rep.stays (P : Rep R fm L st s) (g : Grow L L' (own fm) s s') : Stays s.heap s'.heap := P.1.stays g P.2.own_free
theorem HR.stays0 (H : HR R L σ s) (g : Grow L L' [] s s') : Stays s.heap s'.heap := H.stays g (fun _ h => nomatch h)

theorem FR.loc_out (F : FR R L fm ρ s) (H : HR R L σ s) : fm.env.locals ∉ L := fun h => by
  obtain ⟨o, e, hc⟩ := F.loc
  obtain ⟨o', e', hc', hd⟩ := H.kind _ h
  rw [e] at e'; cases e'
  exact hd hc

/-- a callee leaves the frame as it stood -/
theorem FR.kept (F : FR R L fm ρ s) (H : HR R L σ s) (g : Grow L L' [] s s') : FR R L' fm ρ s' := by
  obtain ⟨o, e, hc⟩ := F.loc
  have e' : s'.heap.get? fm.env.locals = some o := (g.keep _ _ e (F.loc_out H) (fun h => nomatch h)).dict hc
  refine ⟨F.ok, ?_, fun x n h => ?_⟩
  · obtain ⟨m, ⟨o₁, es, ep, h1, h2⟩, hm⟩ := F.ns
    rw [e] at h1; cases h1
    exact ⟨m, ⟨o, es, ep, e', h2⟩, fun x v h => let ⟨a, v', b, c⟩ := hm x v h; ⟨a, v', b, c.mono g.pre (H.stays0 g)⟩⟩
  · obtain ⟨a, b, c, d⟩ := F.cel x n h
    exact ⟨a, b, c, getElem?_mono g.pre d⟩

theorem TabOk.of_same {h h' : Heap} {c P : Addr} (T : TabOk h c P) (hc : h'.get? c = h.get? c) (hP : h'.get? P = h.get? P) (hs : Stays h h') : TabOk h' c P := by
  obtain ⟨ps, ⟨o, vs, file, tf, flags, tg, inF, text, tt, op, a, r1, r2, r3, r4, r5, r6, b, r⟩, ⟨⟨o', vs', e, r'⟩, t⟩, hk⟩ := T
  exact ⟨ps, ⟨o, vs, file, tf, flags, tg, inF, text, tt, op, hc.trans a, r1, r2, r3, r4, r5, r6, hP.trans b, r⟩, ⟨⟨o', vs', hc.trans e, r'⟩, hP.trans t⟩, fun pos c' h1 => (hk pos c' h1).mono hs⟩

theorem CellAt.of_same {h h' : Heap} {c : Cell} {a : Addr} (C : CellAt L h c a) (hL : L <+: L') (ha : h'.get? a = h.get? a) (hs : Stays h h') : CellAt L' h' c a := by
  match c, C with
  | .lst l, ⟨items, ⟨n, ho⟩, hv⟩ => exact ⟨items, ⟨n, ha.trans ho⟩, hv.mono hL hs⟩
  | .cel none, ⟨o, ho, r⟩ => exact ⟨o, ha.trans ho, r⟩
  | .cel (some v), ⟨o, v', ho, r1, r2, hv⟩ => exact ⟨o, v', ha.trans ho, r1, r2, hv.mono hL hs⟩

theorem step_ext {h₀ h h' : Heap} (K : OldK h₀ h) {a : Addr} (ha : h₀.get? a = none) (hs : Heap.ExtBut a h h') : OldK h₀ h' := by
  have ne : ∀ b o, h₀.get? b = some o → b ≠ a := fun b o e q => by rw [q, ha] at e; cases e
  refine ⟨fun b o e => ?_, fun b o e => let ⟨o', ho'⟩ := K.there b o e; ⟨o', hs _ _ (ne b o e) ho'⟩⟩
  rcases K.old b o e with x | ⟨t, hc, vs, more, hv, x⟩ | ⟨rfl, hc, ⟨o', es, n, ho', r⟩, z⟩
  · exact .inl (hs _ _ (ne b o e) x)
  · exact .inr (.inl ⟨t, hc, vs, more, hv, hs _ _ (ne b o e) x⟩)
  · have ho'' := hs _ _ (ne _ o e) ho'
    exact .inr (.inr ⟨rfl, hc, ⟨o', es, n, ho'', r⟩, fun key => by rw [OldK.staticOf_congr (ho''.trans ho'.symm) key]; exact z key⟩)
theorem step_same' {h₀ h h' : Heap} (K : OldK h₀ h) {a : Addr} (ha : h₀.get? a = none) (hs : Heap.SameBut a h h') : OldK h₀ h' := step_ext K ha hs.extBut

/-- a step that leaves lists, cells and code tables -/
theorem HR.step (H : HR R L σ s) (old : OldK R.h₀ s'.heap) (bare : AllBare s'.gens) (os : s'.os = s.os) (st : Stays s.heap s'.heap)
    (hL : ∀ a ∈ L, s'.heap.get? a = s.heap.get? a) (hT : ∀ c P, (c, P) ∈ R.tabs → s'.heap.get? c = s.heap.get? c ∧ s'.heap.get? P = s.heap.get? P) : HR R L σ s' where
  old := old
  bare := bare
  os := os.trans H.os
  nodup := H.nodup
  new := H.new
  kind := fun a ha => let ⟨o, e, h⟩ := H.kind a ha; ⟨o, (hL a ha).trans e, h⟩
  at_ := fun n c e => let ⟨a, h1, h2⟩ := H.at_ n c e; ⟨a, h1, h2.of_same (List.prefix_refl _) (hL a (List.mem_of_getElem? h1)) st⟩
  tabs := fun c P h => let ⟨h1, h2⟩ := H.tabs c P h; ⟨h1, h2.of_same (hT c P h).1 (hT c P h).2 st⟩

theorem TabOk.there {h : Heap} {c P : Addr} (T : TabOk h c P) : (∃ o, h.get? c = some o) ∧ ∃ o, h.get? P = some o := by
  obtain ⟨ps, ⟨o, vs, file, tf, flags, tg, inF, text, tt, op, a, r1, r2, r3, r4, r5, r6, b, r⟩, _⟩ := T
  exact ⟨⟨o, a⟩, op, b⟩

/-- the heap grows, nothing else -/
theorem HR.more (H : HR R L σ s) {h' : Heap} {tk : Nat} (hk : ∀ b o, s.heap.get? b = some o → h'.get? b = some o) : HR R L σ { s with heap := h', toks := tk } :=
  H.step (H.old.step_keeps hk) H.bare rfl (.of_keep hk) (fun a ha => by obtain ⟨o, e, _⟩ := H.kind a ha; rw [e]; exact hk _ _ e)
    (fun c P h => by
      obtain ⟨⟨o, e⟩, o', e'⟩ := (H.tabs c P h).2.there
      rw [e, e']; exact ⟨hk _ _ e, hk _ _ e'⟩)
theorem HR.tok (H : HR R L σ s) {tk : Nat} : HR R L σ { s with toks := tk } := H.more (fun _ _ e => e)
theorem Grow.more {h' : Heap} {tk : Nat} {own : List Addr} (hk : ∀ b o, s.heap.get? b = some o → h'.get? b = some o) : Grow L L own s { s with heap := h', toks := tk } :=
  ⟨List.prefix_refl _, fun _ h h' => absurd h h', fun _ _ e _ _ => .inl (hk _ _ e), fun _ _ e _ => ⟨_, hk _ _ e⟩, fun _ _ e => e, Nat.le_refl _⟩
theorem Grow.tok {tk : Nat} {own : List Addr} : Grow L L own s { s with toks := tk } := Grow.more (fun _ _ e => e)

theorem HR.fresh_out (H : HR R L σ s) {a : Addr} (ha : s.heap.get? a = none) : a ∉ L := fun h => by
  obtain ⟨o, e, _⟩ := H.kind a h; rw [ha] at e; cases e

/-- a list or a cell that has just been made -/
theorem HR.ext (H : HR R L σ s) {a : Addr} {c : Cell} (ha : a ∉ L) (hn : R.h₀.get? a = none) (hc : CellAt L s.heap c a) : HR R (L ++ [a]) (σ.upd L.length c) s where
  old := H.old
  bare := H.bare
  os := H.os
  nodup := by rw [List.nodup_append]; exact ⟨H.nodup, by simp, fun x hx y hy => by simp at hy; subst hy; exact fun e => ha (e ▸ hx)⟩
  new := fun b hb => by rcases List.mem_append.mp hb with h | h
                        · exact H.new b h
                        · simp at h; subst h; exact hn
  kind := fun b hb => by
    rcases List.mem_append.mp hb with h | h
    · exact H.kind b h
    · simp at h; subst h
      match c, hc with
      | .lst l, ⟨items, ⟨n, ho⟩, hv⟩ => exact ⟨_, ho, .inl rfl, fun ⟨_, _, e⟩ => nomatch e⟩
      | .cel none, ⟨o, ho, r, hd⟩ => exact ⟨o, ho, .inr r, fun ⟨_, _, e⟩ => by rw [hd] at e; cases e⟩
      | .cel (some v), ⟨o, v', ho, r1, r2, hv⟩ => exact ⟨o, ho, .inr r1, fun ⟨_, _, e⟩ => by rw [r2] at e; cases e⟩
  at_ := fun n c' e => by
    unfold Sto.upd at e
    by_cases h : n = L.length
    · subst h
      rw [if_pos rfl] at e; cases e
      exact ⟨a, by simp, hc.of_same (List.prefix_append _ _) rfl (.refl _)⟩
    · rw [if_neg h] at e
      obtain ⟨b, h1, h2⟩ := H.at_ n c' e
      exact ⟨b, getElem?_mono (List.prefix_append _ _) h1, h2.of_same (List.prefix_append _ _) rfl (.refl _)⟩
  tabs := H.tabs

theorem HR.fresh_old (H : HR R L σ s) {a : Addr} (ha : s.heap.get? a = none) : R.h₀.get? a = none := by
  cases e : R.h₀.get? a with
  | none => rfl
  | some o => obtain ⟨o', e'⟩ := H.old.there _ _ e; rw [ha] at e'; cases e'

theorem HR.free (H : HR R L σ s) : σ L.length = none := by
  cases e : σ L.length with
  | none => rfl
  | some c =>
    obtain ⟨a, h, _⟩ := H.at_ _ _ e
    simp at h

/-- a list or a cell of the store is written -/
theorem HR.write (H : HR R L σ s) {n : Nat} {a : Addr} {c : Cell} (hn : L[n]? = some a) (hs : Heap.SameBut a s.heap s'.heap) (hg : s'.gens = s.gens) (os : s'.os = s.os) (hc : CellAt L s'.heap c a) : HR R L (σ.upd n c) s' := by
  have ha : a ∈ L := List.mem_of_getElem? hn
  have st : Stays s.heap s'.heap := Stays.sameBut hs fun o e => by obtain ⟨o', e', h⟩ := H.kind a ha; rw [e] at e'; cases e'; exact not_fixed_list h.1
  refine ⟨step_same' H.old (H.new a ha) hs, hg ▸ H.bare, os.trans H.os, H.nodup, H.new, fun b hb => ?_, fun k c' e => ?_, fun c' P h => ?_⟩
  · by_cases h : b = a
    · subst h
      match c, hc with
      | .lst l, ⟨items, ⟨n, ho⟩, hv⟩ => exact ⟨_, ho, .inl rfl, fun ⟨_, _, e⟩ => nomatch e⟩
      | .cel none, ⟨o, ho, r, hd⟩ => exact ⟨o, ho, .inr r, fun ⟨_, _, e⟩ => by rw [hd] at e; cases e⟩
      | .cel (some v), ⟨o, v', ho, r1, r2, hv⟩ => exact ⟨o, ho, .inr r1, fun ⟨_, _, e⟩ => by rw [r2] at e; cases e⟩
    · obtain ⟨o, e, h'⟩ := H.kind b hb
      exact ⟨o, (hs.2 b h).trans e, h'⟩
  · unfold Sto.upd at e
    by_cases h : k = n
    · subst h
      rw [if_pos rfl] at e; cases e
      exact ⟨a, hn, hc⟩
    · rw [if_neg h] at e
      obtain ⟨b, h1, h2⟩ := H.at_ k c' e
      have hb : b ≠ a := fun q => h (by
        subst q
        exact nodup_inj H.nodup h1 hn)
      exact ⟨b, h1, h2.of_same (List.prefix_refl _) (hs.2 b hb) st⟩
  · obtain ⟨h1, h2⟩ := H.tabs c' P h
    have hP : P ≠ a := fun q => h1 (q ▸ H.new a ha)
    obtain ⟨o, e, hk⟩ := H.kind a ha
    have hc' : c' ≠ a := by
      rintro rfl
      obtain ⟨ps, _, ⟨⟨o', vs', e', r', _⟩, _⟩, _⟩ := h2
      rw [e] at e'; cases e'
      rcases hk.1 with q | q <;> rw [q] at r' <;> simp at r'
    exact ⟨h1, h2.of_same (hs.2 _ hc') (hs.2 _ hP) st⟩

theorem Grow.write {a : Addr} {own : List Addr} (ha : a ∈ L) (he : ∃ o, s'.heap.get? a = some o) (hs : Heap.SameBut a s.heap s'.heap) (hg : s'.gens = s.gens) : Grow L L own s s' where
  pre := List.prefix_refl _
  fresh := fun _ h h' => absurd h h'
  keep := fun b o e hb _ => .inl ((hs.2 b (fun q => hb (q ▸ ha))).trans e)
  there := fun b o e _ => by
    by_cases h : b = a
    · subst h; exact he
    · exact ⟨o, (hs.2 b h).trans e⟩
  gens := fun g x e => by rw [hg]; exact e
  gsize := Nat.le_of_eq (by rw [hg])

/-- the frame's own locals are written -/
theorem HR.locals (H : HR R L σ s) (F : FR R L fm ρ s) (hs : Heap.SameBut fm.env.locals s.heap s'.heap) (hg : s'.gens = s.gens) (os : s'.os = s.os) : HR R L σ s' := by
  have hl := F.loc_out H
  refine H.step (step_same' H.old F.ok.new hs) (hg ▸ H.bare) os (Stays.sameBut hs fun o e => F.own_free _ (by simp [own]) o e) (fun a ha => hs.2 a fun q => hl (q ▸ ha)) fun c P h => ?_
  obtain ⟨h1, h2⟩ := H.tabs c P h
  refine ⟨hs.2 _ ?_, hs.2 _ (fun q => h1 (q ▸ F.ok.new))⟩
  rintro rfl
  obtain ⟨ps, _, ⟨⟨o', vs', e', r', r'', _⟩, _⟩, _⟩ := h2
  obtain ⟨o, e, es, ep, hk⟩ := F.loc
  rw [e] at e'; cases e'
  rw [hk] at r''; cases r''

theorem Grow.locals (F : FR R L fm ρ s) (hn : ∃ o, s'.heap.get? fm.env.locals = some o) (hs : Heap.SameBut fm.env.locals s.heap s'.heap) (hg : s'.gens = s.gens) : Grow L L (own fm) s s' where
  pre := List.prefix_refl _
  fresh := fun _ h h' => absurd h h'
  keep := fun b o e _ hb => .inl ((hs.2 b (fun q => hb (by simp [own, q]))).trans e)
  there := fun b o e _ => by
    by_cases h : b = fm.env.locals
    · subst h; exact hn
    · exact ⟨o, (hs.2 b h).trans e⟩
  gens := fun g x e => by rw [hg]; exact e
  gsize := Nat.le_of_eq (by rw [hg])

end

section
variable {R : RT} {d : Nat} {fm : Fm} {st : St}

theorem Ev.mono {e : PySem.Expr} {K K' : AV → St → Prop} (h : Ev R d fm e st K) (hK : ∀ v st', K v st' → K' v st') : Ev R d fm e st K' :=
  fun A L s r t P Q E k => h A L s r t P Q E fun v' s' L' v st' hk => k v' s' L' v st' (hK v st' hk)
theorem Ex.mono {b : Stmt} {K K' : Out → St → Prop} (h : Ex R d fm b st K) (hK : ∀ v st', K v st' → K' v st') : Ex R d fm b st K' :=
  fun A L s r t P Q E k => h A L s r t P Q E fun v' s' L' v st' hk => k v' s' L' v st' (hK v st' hk)
theorem Calls.mono {f : AV} {args : List AV} {kw : List (Str × AV)} {σ : Sto} {K K' : AV → Sto → Prop} (h : Calls R d f args kw σ K) (hK : ∀ v σ', K v σ' → K' v σ') : Calls R d f args kw σ K' :=
  fun A L s f' a' k' r t H hf ha hkw Q E k => h A L s f' a' k' r t H hf ha hkw Q E fun v' s' L' v σ' hk => k v' s' L' v σ' (hK v σ' hk)
theorem Opr.mono {t : List Value → Sem Value} {args : List AV} {σ : Sto} {K K' : AV → Sto → Prop} (h : Opr R t args σ K) (hK : ∀ v σ', K v σ' → K' v σ') : Opr R t args σ K' :=
  fun A L s a' r t H ha Q E k => h A L s a' r t H ha Q E fun v' s' L' v σ' hk => k v' s' L' v σ' (hK v σ' hk)
theorem with_pos {α : Type} {M : Model} {A : Around} {t : Sem α} {Q : α → Shared → Prop} {E : Value → Shared → Prop} {s : Shared} (ht : 0 < s.toks)
    (h : ∀ E', wpAny M A t (fun a s' => 0 < s'.toks → Q a s') E' s) : wpAny M A t Q E s :=
  wpAny_with_toks (n := 1) ht (h _)

/-- run an evaluation, then go on -/
theorem Ev.run {e : PySem.Expr} {K : AV → St → Prop} (h : Ev R d fm e st K) {A : Around} {L : List Addr} {s : Shared} (r : Room d A) (ht : 0 < s.toks) (P : Rep R fm L st s) {Q : Value → Shared → Prop} {E : Value → Shared → Prop}
    (k : ∀ v' s' L' v st', K v st' → 0 < s'.toks → Rep R fm L' st' s' → VR L' s'.heap v v' → Grow L L' (own fm) s s' → Stays s.heap s'.heap → Q v' s') : wpAny R.M A (eval e fm.env) Q E s :=
  with_pos ht fun E' => h A L s r ht P _ _ fun v' s' L' v st' hk P' hv g t' => k v' s' L' v st' hk t' P' hv g (P.stays g)
theorem Tst.run {e : PySem.Expr} {K : Bool → St → Prop} (h : Tst R d fm e st K) {A : Around} {L : List Addr} {s : Shared} (r : Room d A) (ht : 0 < s.toks) (P : Rep R fm L st s) {Q : Bool → Shared → Prop} {E : Value → Shared → Prop}
    (k : ∀ b s' L' st', K b st' → 0 < s'.toks → Rep R fm L' st' s' → Grow L L' (own fm) s s' → Stays s.heap s'.heap → Q b s') : wpAny R.M A (isTrue e fm.env (eval e fm.env)) Q E s :=
  with_pos ht fun E' => h A L s r ht P _ _ fun b s' L' st' hk P' g t' => k b s' L' st' hk t' P' g (P.stays g)
theorem Exs.run {b : List Stmt} {K : Out → St → Prop} (h : Exs R d fm b st K) {A : Around} {L : List Addr} {s : Shared} (r : Room d A) (ht : 0 < s.toks) (P : Rep R fm L st s) {Q : Flow → Shared → Prop} {E : Value → Shared → Prop}
    (k : ∀ f s' L' o st', K o st' → 0 < s'.toks → Rep R fm L' st' s' → FlowR L' s'.heap o f → Grow L L' (own fm) s s' → Stays s.heap s'.heap → Q f s') : wpAny R.M A (execs b fm.env) Q E s :=
  with_pos ht fun E' => h A L s r ht P _ _ fun f s' L' o st' hk P' hv g t' => k f s' L' o st' hk t' P' hv g (P.stays g)
theorem Ex.run {b : Stmt} {K : Out → St → Prop} (h : Ex R d fm b st K) {A : Around} {L : List Addr} {s : Shared} (r : Room d A) (ht : 0 < s.toks) (P : Rep R fm L st s) {Q : Flow → Shared → Prop} {E : Value → Shared → Prop}
    (k : ∀ f s' L' o st', K o st' → 0 < s'.toks → Rep R fm L' st' s' → FlowR L' s'.heap o f → Grow L L' (own fm) s s' → Stays s.heap s'.heap → Q f s') : wpAny R.M A (exec b fm.env) Q E s :=
  with_pos ht fun E' => h A L s r ht P _ _ fun f s' L' o st' hk P' hv g t' => k f s' L' o st' hk t' P' hv g (P.stays g)
theorem Asg.run {t : PySem.Expr} {v : AV} {K : St → Prop} (h : Asg R d fm t v st K) {A : Around} {L : List Addr} {s : Shared} {v' : Value} (r : Room d A) (ht : 0 < s.toks) (P : Rep R fm L st s) (hv : VR L s.heap v v') {Q : Unit → Shared → Prop} {E : Value → Shared → Prop}
    (k : ∀ s' L' st', K st' → 0 < s'.toks → Rep R fm L' st' s' → Grow L L' (own fm) s s' → Stays s.heap s'.heap → Q () s') : wpAny R.M A (assign t fm.env v') Q E s :=
  with_pos ht fun E' => h A L s v' r ht P hv _ _ fun s' L' st' hk P' g t' => k s' L' st' hk t' P' g (P.stays g)

theorem own_ok {s : Shared} : ∀ a ∈ own fm, a ∈ own fm ∨ s.heap.get? a = none := fun _ h => .inl h
theorem own_nil {s : Shared} {l : List Addr} : ∀ a ∈ ([] : List Addr), a ∈ l ∨ s.heap.get? a = none := fun _ h => nomatch h

/-- an operator in a frame -/
theorem Opr.run {t : List Value → Sem Value} {args : List AV} {K : AV → Sto → Prop} (h : Opr R t args st.σ K) {A : Around} {L : List Addr} {s : Shared} {args' : List Value} (r : Room 2 A) (ht : 0 < s.toks) (P : Rep R fm L st s) (ha : VRs L s.heap args args')
    {Q : Value → Shared → Prop} {E : Value → Shared → Prop} (k : ∀ v' s' L' v σ', K v σ' → 0 < s'.toks → Rep R fm L' ⟨st.ρ, σ'⟩ s' → VR L' s'.heap v v' → Grow L L' (own fm) s s' → Q v' s') : wpAny R.M A (t args') Q E s :=
  with_pos ht fun E' => h A L s args' r ht P.1 ha _ _ fun v' s' L' v σ' hk H' hv g t' => k v' s' L' v σ' hk t' ⟨H', P.2.kept P.1 g⟩ hv (g.weaken own_nil)

theorem Calls.run {f : AV} {args : List AV} {kw : List (Str × AV)} {K : AV → Sto → Prop} (h : Calls R d f args kw st.σ K) {A : Around} {L : List Addr} {s : Shared} {f' : Value} {args' kv' : List Value} (r : Room d A) (ht : 0 < s.toks) (P : Rep R fm L st s)
    (hf : VR L s.heap f f') (ha : VRs L s.heap args args') (hkw : VRs L s.heap (kw.map (·.2)) kv')
    {Q : Value → Shared → Prop} {E : Value → Shared → Prop} (k : ∀ v' s' L' v σ', K v σ' → 0 < s'.toks → Rep R fm L' ⟨st.ρ, σ'⟩ s' → VR L' s'.heap v v' → Grow L L' (own fm) s s' → Q v' s') : wpAny R.M A (call f' args' ((kw.map (·.1)).zip kv')) Q E s :=
  with_pos ht fun E' => h A L s f' args' kv' r ht P.1 hf ha hkw _ _ fun v' s' L' v σ' hk H' hv g t' => k v' s' L' v σ' hk t' ⟨H', P.2.kept P.1 g⟩ hv (g.weaken own_nil)

end

noncomputable def op1 (f : Value → Sem Value) : List Value → Sem Value
  | [a] => f a
  | _ => .unsupported ""
noncomputable def op2 (f : Value → Value → Sem Value) : List Value → Sem Value
  | [a, b] => f a b
  | _ => .unsupported ""

section
variable {L : List Addr} {h : Heap}
theorem VRs.one {a : AV} {l : List Value} (x : VRs L h [a] l) : ∃ a', l = [a'] ∧ VR L h a a' := by
  cases x with | cons h1 h2 => cases h2; exact ⟨_, rfl, h1⟩
theorem VRs.two {a b : AV} {l : List Value} (x : VRs L h [a, b] l) : ∃ a' b', l = [a', b'] ∧ VR L h a a' ∧ VR L h b b' := by
  cases x with | cons h1 h2 => obtain ⟨b', rfl, h3⟩ := h2.one; exact ⟨_, _, rfl, h1, h3⟩
theorem VR.int_inv {i : Int} {v : Value} (x : VR L h (.int i) v) : ∃ t, v = .int i t := by cases x; exact ⟨_, rfl⟩
theorem VR.str_inv {i : Str} {v : Value} (x : VR L h (.str i) v) : ∃ t, v = .str i t := by cases x; exact ⟨_, rfl⟩
theorem VR.bool_inv {i : Bool} {v : Value} (x : VR L h (.bool i) v) : v = .bool i := by cases x; rfl
theorem VR.none_inv {v : Value} (x : VR L h .none v) : v = .none := by cases x; rfl
theorem VR.raw_inv {i : Value} {v : Value} (x : VR L h (.raw i) v) : v = i := by cases x; rfl
theorem VR.lst_inv {n : Nat} {v : Value} (x : VR L h (.lst n) v) : ∃ a, v = .ref a ∧ L[n]? = some a := by cases x; exact ⟨_, rfl, by assumption⟩
end

section
variable {R : RT} {L : List Addr} {σ : Sto} {s : Shared} {K : AV → Sto → Prop}

theorem HR.lst (H : HR R L σ s) {n : Nat} {l : List AV} (e : σ n = some (.lst l)) {v : Value} (hv : VR L s.heap (.lst n) v) : ∃ a items, v = .ref a ∧ L[n]? = some a ∧ s.heap.PlainList a items ∧ VRs L s.heap l items.toList ∧ items.size = l.length := by
  obtain ⟨a, rfl, ha⟩ := hv.lst_inv
  obtain ⟨b, hb, items, hp, hr⟩ := H.at_ n _ e
  rw [ha] at hb; cases hb
  exact ⟨a, items, rfl, ha, hp, hr, by rw [← hr.length, Array.length_toList]⟩

/-- a list that has just been pushed -/
theorem HR.newList (H : HR R L σ s) {h' : Heap} {items : Array Value} {l : List AV} {tk : Nat} (hk : ∀ b o, s.heap.get? b = some o → h'.get? b = some o) {a : Addr} (ha : s.heap.get? a = none)
    (hp : h'.PlainList a items) (hr : VRs L s.heap l items.toList) (own : List Addr) :
    HR R (L ++ [a]) (σ.upd L.length (.lst l)) { s with heap := h', toks := tk } ∧ VR (L ++ [a]) h' (.lst L.length) (.ref a) ∧ Grow L (L ++ [a]) own s { s with heap := h', toks := tk } := by
  have H' := H.more (h' := h') (tk := tk) hk
  refine ⟨H'.ext (H.fresh_out ha) (H.fresh_old ha) ⟨items, hp, hr.mono (List.prefix_refl _) (.of_keep hk)⟩, .lst (by simp), ?_⟩
  have g : Grow L L own s { s with heap := h', toks := tk } := .more hk
  exact ⟨List.prefix_append _ _, fun b hb hn => by
    rcases List.mem_append.mp hb with q | q
    · exact absurd q hn
    · simp at q; subst q; exact .inl ha, g.keep, g.there, g.gens, g.gsize⟩

theorem get_size_none (h : Heap) : h.get? h.objs.size = none := by
  cases e : h.get? h.objs.size with
  | none => rfl
  | some o => exact absurd (Heap.lt_size e) (Nat.lt_irrefl _)

/-- results that leave the state -/
theorem Opr.give {t : List Value → Sem Value} {args : List AV} {r : AV} (k : K r σ)
    (h : ∀ A L s args', Room 2 A → HR R L σ s → VRs L s.heap args args' → ∀ (Q : Value → Shared → Prop) E, (∀ r' tk, VR L s.heap r r' → Q r' { s with toks := tk }) → wpAny R.M A (t args') Q E s) : Opr R t args σ K :=
  fun A L s args' r ht H ha Q E k' => h A L s args' r H ha Q E fun r' tk hr => k' _ _ _ _ _ k H.tok hr Grow.tok

section
variable {a b : Int} {x y : Str} {p q : Bool}

theorem Opr.add_int (k : K (.int (a + b)) σ) : Opr R (op2 (binaryOp .Add)) [.int a, .int b] σ K :=
  .give k fun A L s args' r H ha Q E k => by
    obtain ⟨_, _, rfl, h1, h2⟩ := ha.two; obtain ⟨_, rfl⟩ := h1.int_inv; obtain ⟨_, rfl⟩ := h2.int_inv
    exact PyProof.Rows.add_int (k _ _ (.int _ _))
theorem Opr.iadd_int (k : K (.int (a + b)) σ) : Opr R (op2 (inplaceOp .Add)) [.int a, .int b] σ K :=
  .give k fun A L s args' r H ha Q E k => by
    obtain ⟨_, _, rfl, h1, h2⟩ := ha.two; obtain ⟨_, rfl⟩ := h1.int_inv; obtain ⟨_, rfl⟩ := h2.int_inv
    exact PyProof.Rows.iadd_int (k _ _ (.int _ _))
theorem Opr.isub_int (k : K (.int (a - b)) σ) : Opr R (op2 (inplaceOp .Sub)) [.int a, .int b] σ K :=
  .give k fun A L s args' r H ha Q E k => by
    obtain ⟨_, _, rfl, h1, h2⟩ := ha.two; obtain ⟨_, rfl⟩ := h1.int_inv; obtain ⟨_, rfl⟩ := h2.int_inv
    exact PyProof.Rows.isub_int (k _ _ (.int _ _))
theorem Opr.sub_int (k : K (.int (a - b)) σ) : Opr R (op2 (binaryOp .Sub)) [.int a, .int b] σ K :=
  .give k fun A L s args' r H ha Q E k => by
    obtain ⟨_, _, rfl, h1, h2⟩ := ha.two; obtain ⟨_, rfl⟩ := h1.int_inv; obtain ⟨_, rfl⟩ := h2.int_inv
    exact PyProof.Rows.sub_int (k _ _ (.int _ _))
theorem Opr.mul_int (hm : Builtin.Int.intBits a ≤ 64 ∨ Builtin.Int.intBits b ≤ 64) (k : K (.int (a * b)) σ) : Opr R (op2 (binaryOp .Mult)) [.int a, .int b] σ K :=
  .give k fun A L s args' r H ha Q E k => by
    obtain ⟨_, _, rfl, h1, h2⟩ := ha.two; obtain ⟨_, rfl⟩ := h1.int_inv; obtain ⟨_, rfl⟩ := h2.int_inv
    exact PyProof.Rows.mul_int (k _ _ (.int _ _)) (hm.elim .of_left .of_right)
theorem Opr.fdiv_int (h0 : b ≠ 0) (hb : b.natAbs < 1073741824) (k : K (.int (a.fdiv b)) σ) : Opr R (op2 (binaryOp .FloorDiv)) [.int a, .int b] σ K :=
  .give k fun A L s args' r H ha Q E k => by
    obtain ⟨_, _, rfl, h1, h2⟩ := ha.two; obtain ⟨_, rfl⟩ := h1.int_inv; obtain ⟨_, rfl⟩ := h2.int_inv
    exact PyProof.Rows.floordiv_int h0 (k _ _ (.int _ _)) (.inl (PyProof.noPylong_small hb))
theorem Opr.fmod_int (h0 : b ≠ 0) (k : K (.int (a.fmod b)) σ) : Opr R (op2 (binaryOp .Mod)) [.int a, .int b] σ K :=
  .give k fun A L s args' r H ha Q E k => by
    obtain ⟨_, _, rfl, h1, h2⟩ := ha.two; obtain ⟨_, rfl⟩ := h1.int_inv; obtain ⟨_, rfl⟩ := h2.int_inv
    exact PyProof.Rows.mod_int' h0 (k _ _ (.int _ _))
theorem Opr.pow_int (h0 : 0 ≤ b) (hs : (Builtin.Int.intBits a : Int) * b ≤ 2 ^ 27) (k : K (.int (a ^ b.toNat)) σ) : Opr R (op2 (binaryOp .Pow)) [.int a, .int b] σ K :=
  .give k fun A L s args' r H ha Q E k => by
    obtain ⟨_, _, rfl, h1, h2⟩ := ha.two; obtain ⟨_, rfl⟩ := h1.int_inv; obtain ⟨_, rfl⟩ := h2.int_inv
    exact PyProof.Rows.pow_int h0 hs (k _ _ (.int _ _))
theorem Opr.neg_int (k : K (.int (-a)) σ) : Opr R (op1 (unaryOp .USub)) [.int a] σ K :=
  .give k fun A L s args' r H ha Q E k => by
    obtain ⟨_, rfl, h1⟩ := ha.one; obtain ⟨_, rfl⟩ := h1.int_inv
    exact PyProof.Rows.neg_int (k _ _ (.int _ _))
theorem Opr.sub_bool (k : K (.int (b2i p - b2i q)) σ) : Opr R (op2 (binaryOp .Sub)) [.bool p, .bool q] σ K :=
  .give k fun A L s args' r H ha Q E k => by
    obtain ⟨_, _, rfl, h1, h2⟩ := ha.two; obtain rfl := h1.bool_inv; obtain rfl := h2.bool_inv
    exact PyProof.Rows.sub_bool (k _ _ (.int _ _))
theorem Opr.add_str (hs : x.length + y.length ≤ 16777216) (k : K (.str (x ++ y)) σ) : Opr R (op2 (binaryOp .Add)) [.str x, .str y] σ K :=
  .give k fun A L s args' r H ha Q E k => by
    obtain ⟨_, _, rfl, h1, h2⟩ := ha.two; obtain ⟨_, rfl⟩ := h1.str_inv; obtain ⟨_, rfl⟩ := h2.str_inv
    exact PyProof.Rows.add_str (fun t' tk => k _ _ (.str _ _)) (by rw [sizeLine_eq]; omega)

theorem Opr.lt_int (k : K (.bool (decide (a < b))) σ) : Opr R (op2 (compareOp .Lt)) [.int a, .int b] σ K :=
  .give k fun A L s args' r H ha Q E k => by
    obtain ⟨_, _, rfl, h1, h2⟩ := ha.two; obtain ⟨_, rfl⟩ := h1.int_inv; obtain ⟨_, rfl⟩ := h2.int_inv
    exact PyProof.Rows.lt_int (k _ _ (.bool _))
theorem Opr.gt_int (k : K (.bool (decide (b < a))) σ) : Opr R (op2 (compareOp .Gt)) [.int a, .int b] σ K :=
  .give k fun A L s args' r H ha Q E k => by
    obtain ⟨_, _, rfl, h1, h2⟩ := ha.two; obtain ⟨_, rfl⟩ := h1.int_inv; obtain ⟨_, rfl⟩ := h2.int_inv
    exact PyProof.Rows.gt_int (k _ _ (.bool _))
theorem Opr.ge_int (k : K (.bool (decide (b ≤ a))) σ) : Opr R (op2 (compareOp .GtE)) [.int a, .int b] σ K :=
  .give k fun A L s args' r H ha Q E k => by
    obtain ⟨_, _, rfl, h1, h2⟩ := ha.two; obtain ⟨_, rfl⟩ := h1.int_inv; obtain ⟨_, rfl⟩ := h2.int_inv
    exact PyProof.Rows.ge_int (k _ _ (.bool _))
theorem Opr.eq_int (k : K (.bool (a == b)) σ) : Opr R (op2 (compareOp .Eq)) [.int a, .int b] σ K :=
  .give k fun A L s args' r H ha Q E k => by
    obtain ⟨_, _, rfl, h1, h2⟩ := ha.two; obtain ⟨_, rfl⟩ := h1.int_inv; obtain ⟨_, rfl⟩ := h2.int_inv
    exact PyProof.Rows.eq_int (k _ _ (.bool _))
theorem Opr.ne_int (k : K (.bool (a != b)) σ) : Opr R (op2 (compareOp .NotEq)) [.int a, .int b] σ K :=
  .give k fun A L s args' r H ha Q E k => by
    obtain ⟨_, _, rfl, h1, h2⟩ := ha.two; obtain ⟨_, rfl⟩ := h1.int_inv; obtain ⟨_, rfl⟩ := h2.int_inv
    exact PyProof.Rows.ne_int (k _ _ (.bool _))
theorem Opr.lt_str (k : K (.bool (x.cps.toList < y.cps.toList)) σ) : Opr R (op2 (compareOp .Lt)) [.str x, .str y] σ K :=
  .give k fun A L s args' r H ha Q E k => by
    obtain ⟨_, _, rfl, h1, h2⟩ := ha.two; obtain ⟨_, rfl⟩ := h1.str_inv; obtain ⟨_, rfl⟩ := h2.str_inv
    exact P.lt_str (k _ _ (.bool _))
theorem Opr.gt_str (k : K (.bool (y.cps.toList < x.cps.toList)) σ) : Opr R (op2 (compareOp .Gt)) [.str x, .str y] σ K :=
  .give k fun A L s args' r H ha Q E k => by
    obtain ⟨_, _, rfl, h1, h2⟩ := ha.two; obtain ⟨_, rfl⟩ := h1.str_inv; obtain ⟨_, rfl⟩ := h2.str_inv
    exact P.gt_str (k _ _ (.bool _))
theorem Opr.eq_str (k : K (.bool (x == y)) σ) : Opr R (op2 (compareOp .Eq)) [.str x, .str y] σ K :=
  .give k fun A L s args' r H ha Q E k => by
    obtain ⟨_, _, rfl, h1, h2⟩ := ha.two; obtain ⟨_, rfl⟩ := h1.str_inv; obtain ⟨_, rfl⟩ := h2.str_inv
    exact PyProof.Rows.eq_str (k _ _ (.bool _))
theorem Opr.ne_str (k : K (.bool (x != y)) σ) : Opr R (op2 (compareOp .NotEq)) [.str x, .str y] σ K :=
  .give k fun A L s args' r H ha Q E k => by
    obtain ⟨_, _, rfl, h1, h2⟩ := ha.two; obtain ⟨_, rfl⟩ := h1.str_inv; obtain ⟨_, rfl⟩ := h2.str_inv
    exact PyProof.Rows.ne_str (k _ _ (.bool _))
theorem Opr.ne_bool (k : K (.bool (p != q)) σ) : Opr R (op2 (compareOp .NotEq)) [.bool p, .bool q] σ K :=
  .give k fun A L s args' r H ha Q E k => by
    obtain ⟨_, _, rfl, h1, h2⟩ := ha.two; obtain rfl := h1.bool_inv; obtain rfl := h2.bool_inv
    exact PyProof.Rows.ne_bool (k _ _ (.bool _))
theorem Opr.notIn_str (k : K (.bool (!(!(Builtin.Str.occurrences x y 0 x.length 1).isEmpty))) σ) : Opr R (op2 (compareOp .NotIn)) [.str y, .str x] σ K :=
  .give k fun A L s args' r H ha Q E k => by
    obtain ⟨_, _, rfl, h1, h2⟩ := ha.two; obtain ⟨_, rfl⟩ := h1.str_inv; obtain ⟨_, rfl⟩ := h2.str_inv
    exact P.notIn_str (k _ _ (.bool _))

theorem Opr.isNot_bool (k : K (.bool (!(p == q))) σ) : Opr R (op2 (compareOp .IsNot)) [.bool p, .bool q] σ K :=
  .give k fun A L s args' r H ha Q E k => by
    obtain ⟨_, _, rfl, h1, h2⟩ := ha.two; obtain rfl := h2.bool_inv
    obtain rfl := h1.bool_inv
    refine wpAny_isNot_plain rfl ?_
    rw [show (Value.bool p == Value.bool q) = (p == q) by cases p <;> cases q <;> rfl]
    exact k _ _ (.bool _)

noncomputable def AV.isNone : AV → Bool
  | .none => true
  | .raw v => v == .none
  | _ => false
theorem VR.isNone {h : Heap} {v : AV} {v' : Value} (hv : VR L h v v') : (v' == Value.none) = v.isNone := by
  cases hv <;> rfl
theorem Opr.is_none {v : AV} (k : K (.bool v.isNone) σ) : Opr R (op2 (compareOp .Is)) [v, .none] σ K :=
  .give k fun A L s args' r H ha Q E k => by
    obtain ⟨_, _, rfl, h1, h2⟩ := ha.two; obtain rfl := h2.none_inv
    exact PySem.is_none (by rw [h1.isNone]; exact k _ _ (.bool _))
theorem Opr.isNot_none {v : AV} (k : K (.bool (!v.isNone)) σ) : Opr R (op2 (compareOp .IsNot)) [v, .none] σ K :=
  .give k fun A L s args' r H ha Q E k => by
    obtain ⟨_, _, rfl, h1, h2⟩ := ha.two; obtain rfl := h2.none_inv
    exact PySem.isNot_none (by rw [h1.isNone]; exact k _ _ (.bool _))
end
end

section
open PySem.SeqAt
/-- plain data of one kind -/
inductive Same : AV → AV → Prop
  | int (a b : Int) : Same (.int a) (.int b)
  | str (a b : Str) : Same (.str a) (.str b)
  | pair (a b : Int) (x y : Str) : Same (.tup [.int a, .str x]) (.tup [.int b, .str y])

noncomputable def AV.eqv : AV → AV → Bool
  | .int a, .int b => a == b
  | .str a, .str b => a == b
  | .tup [.int a, .str x], .tup [.int b, .str y] => a == b && x == y
  | _, _ => false
noncomputable def eqvs : List AV → List AV → Bool
  | [], [] => true
  | a :: l, b :: k => a.eqv b && eqvs l k
  | _, _ => false
inductive Sames : List AV → List AV → Prop
  | nil : Sames [] []
  | cons {a b l k} : Same a b → Sames l k → Sames (a :: l) (b :: k)

theorem Sames.length {l k : List AV} (h : Sames l k) : l.length = k.length := by
  induction h with
  | nil => rfl
  | cons _ _ ih => simp [ih]

section
variable {R : RT} {L : List Addr} {σ : Sto} {s : Shared} {K : AV → Sto → Prop}

theorem eqv_pair (a b : Int) (x y : Str) : AV.eqv (.tup [.int a, .str x]) (.tup [.int b, .str y]) = (a == b && x == y) := rfl
theorem toList_two {x : Array Value} {a b : Value} (h : x.toList = [a, b]) : x = #[a, b] := by
  cases x; simp at h; subst h; rfl

theorem eqAt_of_same {A : Around} {h : Heap} {a b : AV} {v w : Value} (hh : h = s.heap) (hs : Same a b) (hv : VR L h a v) (hw : VR L h b w) (hu : A.units + 2 < cLine) : EqAt A s v w (a.eqv b) := by
  cases hs with
  | int a b => obtain ⟨_, rfl⟩ := hv.int_inv; obtain ⟨_, rfl⟩ := hw.int_inv; exact EqAt.int_int _ _ _ _
  | str a b => obtain ⟨_, rfl⟩ := hv.str_inv; obtain ⟨_, rfl⟩ := hw.str_inv; exact EqAt.str_str _ _ _ _
  | pair a b x y =>
    cases hv with | tup h1 r1 =>
    cases hw with | tup h2 r2 =>
    rename_i A1 I1 n1 A2 I2 n2
    obtain ⟨p, q, e1, hp, hq⟩ := r1.two
    obtain ⟨p', q', e2, hp', hq'⟩ := r2.two
    obtain ⟨_, rfl⟩ := hp.int_inv; obtain ⟨_, rfl⟩ := hq.str_inv; obtain ⟨_, rfl⟩ := hp'.int_inv; obtain ⟨_, rfl⟩ := hq'.str_inv
    obtain rfl := toList_two e1
    obtain rfl := toList_two e2
    subst hh
    by_cases hab : A1 = A2
    · subst hab
      rw [h1] at h2
      have : AV.eqv (.tup [.int a, .str x]) (.tup [.int b, .str y]) = true := by
        injection h2 with h2; injection h2 with _ _ h2; injection h2 with h2; simp at h2
        obtain ⟨⟨rfl, _⟩, rfl, _⟩ := h2
        rw [eqv_pair]; simp
      rw [this]
      exact EqAt.same _
    · refine EqAt.of_refs hab ?_
      have z := RcAt.tuples (A := A) (s := s) (e := fun j => if j = 0 then a == b else x == y) ⟨_, h1, rfl, _, rfl⟩ ⟨_, h2, rfl, _, rfl⟩ (by lia) (fun j q1 q2 => by
        simp at q1
        have : j = 0 ∨ j = 1 := by lia
        rcases this with rfl | rfl
        · exact EqAt.int_int _ _ _ _
        · exact EqAt.str_str _ _ _ _)
      rw [eqv_pair]
      simpa [List.range_succ] using z

theorem all_range_eqvs {A : Around} {l k : List AV} {xs ys : List Value} (hs : Sames l k) (hx : VRs L s.heap l xs) (hy : VRs L s.heap k ys) (hu : A.units + 2 < cLine) :
    ∃ e : Nat → Bool, (∀ j v w, xs[j]? = some v → ys[j]? = some w → EqAt A s v w (e j)) ∧ ((List.range l.length).all e) = eqvs l k := by
  induction hs generalizing xs ys with
  | nil => exact ⟨fun _ => true, fun j v w h => by cases hx; simp at h, rfl⟩
  | cons h1 h2 ih =>
    cases hx with | cons hx1 hx2 =>
    cases hy with | cons hy1 hy2 =>
    rename_i a b l k v xs w ys
    obtain ⟨e, he, hall⟩ := ih hx2 hy2
    refine ⟨fun j => if j = 0 then a.eqv b else e (j - 1), fun j v' w' q1 q2 => ?_, ?_⟩
    · cases j with
      | zero => simp at q1 q2; subst q1 q2; exact eqAt_of_same rfl h1 hx1 hy1 hu
      | succ j => simp at q1 q2; simpa using he j v' w' q1 q2
    · rw [List.length_cons, List.range_succ_eq_map, List.all_cons, List.all_map]
      show (a.eqv b && _) = (a.eqv b && eqvs l k)
      rw [← hall]
      rfl

theorem Opr.eq_lst {n m : Nat} {l k : List AV} (hn : σ n = some (.lst l)) (hm : σ m = some (.lst k)) (hs : Sames l k) (hk : K (.bool (eqvs l k)) σ) : Opr R (op2 (compareOp .Eq)) [.lst n, .lst m] σ K :=
  .give hk fun A L s args' r H ha Q E k' => by
    obtain ⟨_, _, rfl, h1, h2⟩ := ha.two
    obtain ⟨a, xs, rfl, _, px, rx, zx⟩ := H.lst hn h1
    obtain ⟨b, ys, rfl, _, py, ry, zy⟩ := H.lst hm h2
    obtain ⟨e, he, hall⟩ := all_range_eqvs (A := A.in1) hs rx ry (by have := r.units; show A.units + 1 + 2 < _; lia)
    refine eq_listAt px.isList py.isList (by rw [zx, zy, hs.length]) (by have := r.units; lia) (fun j q1 q2 => he j _ _ ?_ ?_) ?_
    · rw [Array.getElem?_toList, Array.getElem?_eq_getElem q1]
    · rw [Array.getElem?_toList, Array.getElem?_eq_getElem q2]
    · rw [zx, hall]; exact k' _ _ (.bool _)
theorem Opr.ne_lst {n m : Nat} {l k : List AV} (hn : σ n = some (.lst l)) (hm : σ m = some (.lst k)) (hs : Sames l k) (hk : K (.bool (!eqvs l k)) σ) : Opr R (op2 (compareOp .NotEq)) [.lst n, .lst m] σ K :=
  .give hk fun A L s args' r H ha Q E k' => by
    obtain ⟨_, _, rfl, h1, h2⟩ := ha.two
    obtain ⟨a, xs, rfl, _, px, rx, zx⟩ := H.lst hn h1
    obtain ⟨b, ys, rfl, _, py, ry, zy⟩ := H.lst hm h2
    obtain ⟨e, he, hall⟩ := all_range_eqvs (A := A.in1) hs rx ry (by have := r.units; show A.units + 1 + 2 < _; lia)
    show wpAny R.M A (richCompare .NotEq (.ref a) (.ref b)) Q E s
    refine RcNeAt.lists px.isList py.isList (by rw [zx, zy, hs.length]) (by have := r.units; lia) (fun j q1 q2 => he j _ _ ?_ ?_) _ _ _ _ ?_
    · rw [Array.getElem?_toList, Array.getElem?_eq_getElem q1]
    · rw [Array.getElem?_toList, Array.getElem?_eq_getElem q2]
    · rw [zx, hall]; exact k' _ _ (.bool _)

noncomputable def strL (l : List Str) : List AV := l.map .str

theorem strs_vals {h : Heap} : ∀ {l : List Str} {xs : List Value}, VRs L h (strL l) xs → ∃ ps : List (Str × Tok), xs = strValues ps ∧ ps.map (·.1) = l
  | [], _, r => by cases r; exact ⟨[], rfl, rfl⟩
  | x :: l, _, r => by
    cases r with | cons h1 h2 =>
    obtain ⟨t, rfl⟩ := h1.str_inv
    obtain ⟨ps, rfl, e⟩ := strs_vals h2
    exact ⟨(x, t) :: ps, rfl, by rw [← e]; rfl⟩

noncomputable def isStrV (x : Str) : Value → Bool
  | .str y _ => y == x
  | _ => false
theorem eqAt_isStr {A : Around} {x : Str} {t : Tok} {ps : List (Str × Tok)} : ∀ y ∈ strValues ps, EqAt A s y (.str x t) (isStrV x y) := fun y hy => by
  obtain ⟨p, _, rfl⟩ := List.mem_map.mp hy
  exact EqAt.str_str _ _ _ _

theorem any_isStr {x : Str} : ∀ {ps : List (Str × Tok)}, (strValues ps).any (isStrV x) = (ps.map (·.1)).contains x
  | [] => rfl
  | p :: ps => by
    show (p.1 == x || (strValues ps).any (isStrV x)) = _
    rw [any_isStr, List.map_cons, List.contains_cons]
    congr 1
    rw [Bool.eq_iff_iff, beq_iff_eq, beq_iff_eq]; exact eq_comm

theorem Opr.in_strs {n : Nat} {l : List Str} {x : Str} (hn : σ n = some (.lst (strL l))) (hk : K (.bool (l.contains x)) σ) : Opr R (op2 (compareOp .In)) [.str x, .lst n] σ K :=
  .give hk fun A L s args' r H ha Q E k' => by
    obtain ⟨_, _, rfl, h1, h2⟩ := ha.two
    obtain ⟨t, rfl⟩ := h1.str_inv
    obtain ⟨a, xs, rfl, _, px, rx, zx⟩ := H.lst hn h2
    obtain ⟨ps, e, rfl⟩ := strs_vals rx
    refine in_listAt (isStrV x) px.isList (fun y hy => eqAt_isStr y (by rw [← e]; simpa using hy)) ?_
    rw [← Array.any_toList, e, any_isStr]
    exact k' _ _ (.bool _)

theorem Opr.getItem {n : Nat} {l : List AV} {i : Int} {v : AV} (hn : σ n = some (.lst l)) (h0 : 0 ≤ i) (hi : l[i.toNat]? = some v) (hl : l.length < 1048576) (hk : K v σ) : Opr R (op2 getItem) [.lst n, .int i] σ K :=
  .give hk fun A L s args' r H ha Q E k' => by
    obtain ⟨_, _, rfl, h1, h2⟩ := ha.two
    obtain ⟨t, rfl⟩ := h2.int_inv
    obtain ⟨a, xs, rfl, _, px, rx, zx⟩ := H.lst hn h1
    obtain ⟨v', e, hv⟩ := rx.get hi
    have : i.toNat < l.length := (List.getElem?_eq_some_iff.mp hi).1
    exact wpAny_getItem_list px.isList h0 (by lia) (by rw [← Array.getElem?_toList]; exact e) (k' v' s.toks hv)
theorem Opr.getItemNeg {n : Nat} {l : List AV} {i : Int} {v : AV} (hn : σ n = some (.lst l)) (h0 : i < 0) (h1 : -(l.length : Int) ≤ i) (hi : l[(i + l.length).toNat]? = some v) (hl : l.length < 1048576) (hk : K v σ) : Opr R (op2 PySem.getItem) [.lst n, .int i] σ K :=
  .give hk fun A L s args' r H ha Q E k' => by
    obtain ⟨_, _, rfl, h1', h2⟩ := ha.two
    obtain ⟨t, rfl⟩ := h2.int_inv
    obtain ⟨a, xs, rfl, _, px, rx, zx⟩ := H.lst hn h1'
    obtain ⟨v', e, hv⟩ := rx.get hi
    exact wpAny_getItem_list_neg px.isList h0 (by rw [zx]; exact h1) (by lia) (by rw [← Array.getElem?_toList, zx]; exact e) (k' v' s.toks hv)

theorem Opr.add_lst {n m : Nat} {l k : List AV} (hn : σ n = some (.lst l)) (hm : σ m = some (.lst k)) (hl : l.length + k.length < 1048576) (hk : ∀ j, σ j = none → K (.lst j) (σ.upd j (.lst (l ++ k)))) : Opr R (op2 (binaryOp .Add)) [.lst n, .lst m] σ K := by
  intro A L s args' r ht H ha Q E k'
  obtain ⟨_, _, rfl, h1, h2⟩ := ha.two
  obtain ⟨a, xs, rfl, _, ⟨n1, px⟩, rx, zx⟩ := H.lst hn h1
  obtain ⟨b, ys, rfl, _, ⟨n2, py⟩, ry, zy⟩ := H.lst hm h2
  have N := H.newList (tk := s.toks) (items := xs ++ ys) (l := l ++ k) (fun b o e => Heap.get?_push_of_some _ e) (get_size_none s.heap) ⟨0, Heap.get?_push_size _ rfl⟩ (by rw [Array.toList_append]; exact rx.append ry) []
  exact P.add_list px py (k' _ _ _ _ _ (hk _ H.free) N.1 N.2.1 N.2.2) (by rw [sizeLine_eq]; lia)

end
end

section
open PySem.SeqAt
section
variable {R : RT} {L : List Addr} {σ : Sto} {s : Shared} {K : AV → Sto → Prop} {d : Nat}

noncomputable abbrev bi (id : String) : AV := .raw (.builtin id)
noncomputable abbrev ty (id : String) : AV := .raw (.type id)

theorem zip_nil_any {α β : Type} (l : List β) : ([] : List α).zip l = [] := rfl

theorem Calls.give {f : Value} {args : List AV} {r : AV} (k : K r σ)
    (h : ∀ A L s args', A.units + 20 < cLine → A.handled = none → HR R L σ s → VRs L s.heap args args' → ∀ (Q : Value → Shared → Prop) E, (∀ r' h' tk, VR L s.heap r r' → (∀ b o, s.heap.get? b = some o → h'.get? b = some o) → Q r' { s with heap := h', toks := tk }) → wpAny R.M A (call f args') Q E s) (hd : 2 ≤ d) : Calls R d (.raw f) args [] σ K :=
  fun A L s f' args' kv' r ht H hf ha hkw Q E k' => by
    obtain rfl := hf.raw_inv
    cases hkw
    have hu := r.units
    exact h A L s args' (by lia) r.handled H ha Q E fun r' h' tk hr hk => k' _ _ _ _ _ k (H.more hk) (hr.mono (List.prefix_refl _) (.of_keep hk)) (Grow.more hk)

/-- a call that writes one list -/
theorem Calls.put {f : Value} {n : Nat} {l l' : List AV} {rest : List AV} {res : AV} (hn : σ n = some (.lst l)) (k : K res (σ.upd n (.lst l'))) (hl : l.length < 1048576)
    (h : ∀ A L s a items ep rest', A.handled = none → HR R L σ s → IsL s.heap a items ep → VRs L s.heap l items.toList → items.size = l.length → VRs L s.heap rest rest' → ∀ (Q : Value → Shared → Prop) E,
      (∀ r' g, VR L s.heap res r' → VRs L s.heap l' (g items).toList → Q r' { s with heap := s.heap.update a (Obj.mapSeq g) }) → wpAny R.M A (call f (.ref a :: rest')) Q E s) : Calls R d (.raw f) (.lst n :: rest) [] σ K :=
  fun A L s f' args' kv' r ht H hf ha hkw Q E k' => by
    obtain rfl := hf.raw_inv
    cases hkw
    cases ha with | cons h1 h2 =>
    obtain ⟨a, items, rfl, hL, ⟨ep, px⟩, rx, zx⟩ := H.lst hn h1
    refine h A L s a items ep _ r.handled H px rx zx h2 Q E fun r' g hr hg => ?_
    have hs : Heap.SameBut a s.heap (s.heap.update a (Obj.mapSeq g)) := .update ..
    have st : Stays s.heap (s.heap.update a (Obj.mapSeq g)) := Stays.sameBut hs fun o e => by rw [px] at e; cases e; exact not_fixed_list (.inl rfl)
    have pl : (s.heap.update a (Obj.mapSeq g)).PlainList a (g items) := ⟨_, IsL.update px g⟩
    exact k' _ _ _ _ _ k (H.write (s' := { s with heap := s.heap.update a (Obj.mapSeq g) }) hL hs rfl rfl ⟨_, pl, hg.mono (List.prefix_refl _) st⟩) (hr.mono (List.prefix_refl _) st)
      (Grow.write (List.mem_of_getElem? hL) ⟨_, pl.isList.choose_spec.1⟩ hs rfl)

theorem Calls.len_lst {n : Nat} {l : List AV} (hn : σ n = some (.lst l)) (hl : l.length < 1048576) (k : K (.int l.length) σ) (hd : 2 ≤ d) : Calls R d (bi "len") [.lst n] [] σ K :=
  Calls.give k (fun A L s args' hu hh H ha Q E k' => by
    obtain ⟨_, rfl, h1⟩ := ha.one
    obtain ⟨a, items, rfl, hL, px, rx, zx⟩ := H.lst hn h1
    refine Calls.call_len_list px.isList (by lia) ?_
    rw [zx]
    exact k' _ _ _ (.int _ _) fun _ _ e => e) hd
theorem Calls.len_str {x : Str} (hl : x.length ≤ 16777216) (k : K (.int x.length) σ) (hd : 2 ≤ d) : Calls R d (bi "len") [.str x] [] σ K :=
  Calls.give k (fun A L s args' hu hh H ha Q E k' => by
    obtain ⟨_, rfl, h1⟩ := ha.one
    obtain ⟨t, rfl⟩ := h1.str_inv
    exact P.len_str (by lia) (k' _ _ _ (.int _ _) fun _ _ e => e)) hd
theorem Calls.isi_bool {i : Int} (k : K (.bool false) σ) (hd : 2 ≤ d) : Calls R d (bi "isinstance") [.int i, ty "bool"] [] σ K :=
  Calls.give k (fun A L s args' hu hh H ha Q E k' => by
    obtain ⟨_, _, rfl, h1, h2⟩ := ha.two
    obtain ⟨t, rfl⟩ := h1.int_inv
    obtain rfl := h2.raw_inv
    exact IsiPair.int_bool (k' _ _ _ (.bool _) fun _ _ e => e)) hd
theorem Calls.isi_int {i : Int} (k : K (.bool true) σ) (hd : 2 ≤ d) : Calls R d (bi "isinstance") [.int i, ty "int"] [] σ K :=
  Calls.give k (fun A L s args' hu hh H ha Q E k' => by
    obtain ⟨_, _, rfl, h1, h2⟩ := ha.two
    obtain ⟨t, rfl⟩ := h1.int_inv
    obtain rfl := h2.raw_inv
    exact IsiPair.int_int (k' _ _ _ (.bool _) fun _ _ e => e)) hd
theorem Calls.max2 {i j : Int} (k : K (.int (max i j)) σ) (hd : 2 ≤ d) : Calls R d (bi "max") [.int i, .int j] [] σ K :=
  Calls.give k (fun A L s args' hu hh H ha Q E k' => by
    obtain ⟨_, _, rfl, h1, h2⟩ := ha.two
    obtain ⟨t, rfl⟩ := h1.int_inv
    obtain ⟨u, rfl⟩ := h2.int_inv
    refine max_two_ints hh fun h' tk hk => k' _ _ _ ?_ hk
    by_cases c : j > i
    · rw [if_pos c, Int.max_eq_right (Int.le_of_lt c)]; exact .int _ _
    · rw [if_neg c, Int.max_eq_left (Int.not_lt.mp c)]; exact .int _ _) hd
theorem Calls.min2 {i j : Int} (k : K (.int (min i j)) σ) (hd : 2 ≤ d) : Calls R d (bi "min") [.int i, .int j] [] σ K :=
  Calls.give k (fun A L s args' hu hh H ha Q E k' => by
    obtain ⟨_, _, rfl, h1, h2⟩ := ha.two
    obtain ⟨t, rfl⟩ := h1.int_inv
    obtain ⟨u, rfl⟩ := h2.int_inv
    refine min_two_ints hh fun h' tk hk => k' _ _ _ ?_ hk
    by_cases c : j < i
    · rw [if_pos c, Int.min_eq_right (Int.le_of_lt c)]; exact .int _ _
    · rw [if_neg c, Int.min_eq_left (Int.not_lt.mp c)]; exact .int _ _) hd
theorem Calls.index {n : Nat} {l : List Str} {x : Str} {j : Nat} (hn : σ n = some (.lst (strL l))) (hl : l.length < 1048576) (hj : l[j]? = some x) (hno : ∀ m, m < j → l[m]? ≠ some x) (k : K (.int j) σ) (hd : 2 ≤ d) : Calls R d (bi "list.index") [.lst n, .str x] [] σ K :=
  Calls.give k (fun A L s args' hu hh H ha Q E k' => by
    obtain ⟨_, _, rfl, h1, h2⟩ := ha.two
    obtain ⟨t, rfl⟩ := h2.str_inv
    obtain ⟨a, items, rfl, hL, ⟨ep, px⟩, rx, zx⟩ := H.lst hn h1
    obtain ⟨ps, e, rfl⟩ := strs_vals rx
    have hz : items.size = ps.length := by rw [zx]; simp [strL]
    have at_ : ∀ m (hm : m < items.size), ∃ p, ps[m]? = some p ∧ items[m] = .str p.1 p.2 := fun m hm => by
      have : items.toList[m]? = some items[m] := by rw [Array.getElem?_toList, Array.getElem?_eq_getElem hm]
      rw [e] at this
      unfold strValues at this
      rw [List.getElem?_map] at this
      cases q : ps[m]? with
      | none => rw [q] at this; cases this
      | some p => rw [q] at this; exact ⟨p, rfl, (Option.some.inj this).symm⟩
    have hj' : j < items.size := by
      have := (List.getElem?_eq_some_iff.mp hj).1
      rw [List.length_map] at this; lia
    refine call_meets F.slot_list_index ⟨_, px, rfl⟩ F.entry_list_index (F.args_list_index_2 _ _) (MeetsSeq.list_index a items ep (.str x t) (fun v => match v with | .str y _ => y.cps.toList == x.cps.toList | _ => false) (fun y hy => ?_) j hj' ?_ ?_ ?_) ⟨px, k' _ _ _ (.int _ _) fun _ _ e => e⟩
    · have hy' : y ∈ strValues ps := by rw [← e]; simpa using hy
      obtain ⟨p, _, rfl⟩ := List.mem_map.mp hy'
      exact SeqRoads2.EqGives.str _ _ _ _
    · rw [List.length_map] at hl; lia
    · obtain ⟨p, hp, he⟩ := at_ j hj'
      rw [he]
      rw [List.getElem?_map, hp] at hj
      cases hj; simp
    · intro m hm hmj
      obtain ⟨p, hp, he⟩ := at_ m hm
      rw [he]
      have := hno m hmj
      rw [List.getElem?_map, hp] at this
      have ne : p.1 ≠ x := fun q => this (by rw [← q]; rfl)
      have : ¬ p.1.cps.toList = x.cps.toList := fun q => ne (by cases h1 : p.1; cases x; rw [h1] at q; simpa using q)
      simpa using this) hd

theorem Calls.append {n : Nat} {l : List AV} {v : AV} (hn : σ n = some (.lst l)) (hl : l.length < 1048576) (k : K .none (σ.upd n (.lst (l ++ [v])))) : Calls R d (bi "list.append") [.lst n, v] [] σ K :=
  Calls.put hn k hl fun A L s a items ep rest' hh H px rx zx hr Q E k' => by
    obtain ⟨v', rfl, hv⟩ := hr.one
    exact call_meets F.slot_list_append ⟨_, px, rfl⟩ F.entry_list_append (F.args_list_append_2 _ _) (list_append a items ep v' (by rw [sizeLine_eq, zx]; lia)) ⟨px, k' _ (fun xs => xs.push v') .none (by rw [Array.toList_push]; exact rx.append (.cons hv .nil))⟩
theorem VRs.take {h : Heap} : ∀ {l : List AV} {l' : List Value} (i : Nat), VRs L h l l' → VRs L h (l.take i) (l'.take i)
  | _, _, 0, _ => by simpa using VRs.nil
  | _, _, i + 1, .nil => by simpa using VRs.nil
  | _, _, i + 1, .cons a r => by simpa using VRs.cons a (r.take i)
theorem VRs.drop {h : Heap} : ∀ {l : List AV} {l' : List Value} (i : Nat), VRs L h l l' → VRs L h (l.drop i) (l'.drop i)
  | _, _, 0, r => by simpa using r
  | _, _, i + 1, .nil => by simpa using VRs.nil
  | _, _, i + 1, .cons a r => by simpa using r.drop i
theorem VRs.eraseIdx {h : Heap} : ∀ {l : List AV} {l' : List Value} (i : Nat), VRs L h l l' → VRs L h (l.eraseIdx i) (l'.eraseIdx i)
  | _, _, i, .nil => by simpa using VRs.nil
  | _, _, 0, .cons a r => by simpa using r
  | _, _, i + 1, .cons a r => by simpa using VRs.cons a (r.eraseIdx i)
theorem VRs.reverse {h : Heap} : ∀ {l : List AV} {l' : List Value}, VRs L h l l' → VRs L h l.reverse l'.reverse
  | _, _, .nil => by simpa using VRs.nil
  | _, _, .cons a r => by rw [List.reverse_cons, List.reverse_cons]; exact r.reverse.append (.cons a .nil)
theorem VRs.set {h : Heap} : ∀ {l : List AV} {l' : List Value} (i : Nat) {v : AV} {v' : Value}, VRs L h l l' → VR L h v v' → VRs L h (l.set i v) (l'.set i v')
  | _, _, i, _, _, .nil, _ => by simpa using VRs.nil
  | _, _, 0, _, _, .cons a r, hv => by simpa using VRs.cons hv r
  | _, _, i + 1, _, _, .cons a r, hv => by simpa using VRs.cons a (r.set i hv)

theorem Calls.insert {n : Nat} {l : List AV} {v : AV} {i : Nat} {x : Int} (hn : σ n = some (.lst l)) (hl : l.length < 1048576) (hx : x = i) (hi : i ≤ l.length) (k : K .none (σ.upd n (.lst (l.take i ++ v :: l.drop i)))) : Calls R d (bi "list.insert") [.lst n, .int x, v] [] σ K :=
  Calls.put hn k hl fun A L s a items ep rest' hh H px rx zx hr Q E k' => by
    obtain ⟨v', w', rfl, hv, hw⟩ := hr.two
    obtain ⟨t, rfl⟩ := hv.int_inv
    have hf : Builtin.List.listFitsIndex x = true := fitsIndex_of (by lia) (by lia)
    have hf' : ¬ (!Builtin.List.listFitsIndex x) = true := by rw [hf]; exact Bool.false_ne_true
    have hz : items.size ≤ sizeLine := by rw [sizeLine_eq, zx]; lia
    refine call_meets F.slot_list_insert ⟨_, px, rfl⟩ F.entry_list_insert (F.args_list_insert_3 _ _ _) (AutoSeq1.list_insert_list_int_val_1 a items ep x t w' hf' hz) ⟨px, k' _ _ .none ?_⟩
    have e : ((items.extract 0 (min x.toNat items.size)).push w' ++ items.extract (min x.toNat items.size)).toList = items.toList.take i ++ w' :: items.toList.drop i := by
      have : min x.toNat items.size = i := by rw [zx]; lia
      rw [this]
      simp [Array.toList_append, Array.toList_push, Array.toList_extract, List.extract_eq_drop_take, zx, hi]
      rw [List.take_of_length_le]
      simp [zx]
    simp only [show ¬ (x < 0) by lia, if_false]
    rw [e]
    exact (rx.take i).append (.cons hw (rx.drop i))
theorem Calls.pop_last {n : Nat} {l : List AV} {v : AV} (hn : σ n = some (.lst (l ++ [v]))) (hl : l.length < 1048575) (k : K v (σ.upd n (.lst l))) : Calls R d (bi "list.pop") [.lst n] [] σ K :=
  Calls.put hn k (by simp; lia) fun A L s a items ep rest' hh H px rx zx hr Q E k' => by
    cases hr
    have zx' : items.size = l.length + 1 := by simpa using zx
    obtain ⟨v', e, hv⟩ := rx.get (i := l.length) (v := v) (by simp)
    have e' : items[items.size - 1]? = some v' := by rw [← Array.getElem?_toList, zx']; exact e
    refine call_meets F.slot_list_pop ⟨_, px, rfl⟩ F.entry_list_pop (F.args_list_pop_1 _) (MeetsSeq.list_pop_last a items ep v' e' (by rw [sizeLine_eq, zx']; lia)) ⟨px, k' _ _ hv ?_⟩
    have := rx.take l.length
    rw [List.take_left'] at this
    · rw [Array.toList_eraseIdxIfInBounds, zx', show l.length + 1 - 1 = l.length by lia, List.eraseIdx_eq_take_drop_succ, List.drop_of_length_le (by simp [zx']), List.append_nil]
      exact this
    · rfl
theorem Calls.pop_at {n : Nat} {l : List AV} {v : AV} {i : Int} (hn : σ n = some (.lst l)) (hl : l.length < 1048576) (h0 : 0 ≤ i) (hi : l[i.toNat]? = some v) (k : K v (σ.upd n (.lst (l.eraseIdx i.toNat)))) : Calls R d (bi "list.pop") [.lst n, .int i] [] σ K :=
  Calls.put hn k hl fun A L s a items ep rest' hh H px rx zx hr Q E k' => by
    obtain ⟨v', rfl, hv⟩ := hr.one
    obtain ⟨t, rfl⟩ := hv.int_inv
    obtain ⟨w, e, hw⟩ := rx.get hi
    have hlt := (List.getElem?_eq_some_iff.mp hi).1
    refine call_meets F.slot_list_pop ⟨_, px, rfl⟩ F.entry_list_pop (F.args_list_pop_2 _ _) (MeetsSeq.list_pop_at a items ep i t i.toNat w (fitsIndex_of h0 (by lia)) (seqIndex_of h0 (by rw [zx]; lia)) (by rw [← Array.getElem?_toList]; exact e) (by rw [sizeLine_eq, zx]; lia)) ⟨px, k' _ _ hw ?_⟩
    rw [Array.toList_eraseIdxIfInBounds]
    exact rx.eraseIdx _
end
end

section
variable {R : RT} {L : List Addr} {σ : Sto} {s : Shared} {d : Nat} {fm : Fm} {ρ : Loc} {st : St}

theorem FmOk.kind' (h : FmOk R fm) : fm.env.scope.kind = .function := h.scope ▸ h.kind
theorem FmOk.kindOf (h : FmOk R fm) (x : Str) : fm.env.kindOf x = fm.scope.names.lookup x := by show fm.env.scope.names.lookup x = _; rw [h.scope]

theorem FR.tok (F : FR R L fm ρ s) {tk : Nat} : FR R L fm ρ { s with toks := tk } := ⟨F.ok, F.ns, F.cel⟩
theorem Rep.tok (P : Rep R fm L st s) {tk : Nat} : Rep R fm L st { s with toks := tk } := ⟨P.1.tok, P.2.tok⟩

/-- a value that is at hand -/
theorem Ev.now {e : PySem.Expr} {v : AV} {K : AV → St → Prop} (k : K v st)
    (h : ∀ A L s, Rep R fm L st s → ∀ (Q : Value → Shared → Prop) E, (∀ v' tk, VR L s.heap v v' → Q v' { s with toks := tk }) → wpAny R.M A (eval e fm.env) Q E s) : Ev R d fm e st K :=
  fun A L s r ht P Q E k' => h A L s P Q E fun v' tk hv => k' _ _ _ _ _ k P.tok hv Grow.tok

theorem Ev.cint {i : Int} {n : Nat} {pos : Pos} {K : AV → St → Prop} (k : K (.int i) st) : Ev R d fm (.Constant (.int i) n pos) st K :=
  .now k fun A L s P Q E k => wpAny_Constant_int (k _ _ (.int _ _))
theorem Ev.cstr {x : Str} {n : Nat} {pos : Pos} {K : AV → St → Prop} (k : K (.str x) st) : Ev R d fm (.Constant (.str x) n pos) st K :=
  .now k fun A L s P Q E k => wpAny_Constant_str (k _ _ (.str _ _))
theorem Ev.cbool {b : Bool} {n : Nat} {pos : Pos} {K : AV → St → Prop} (k : K (.bool b) st) : Ev R d fm (.Constant (.bool b) n pos) st K :=
  .now k fun A L s P Q E k => wpAny_Constant_bool (k _ s.toks (.bool _))
theorem Ev.cnone {n : Nat} {pos : Pos} {K : AV → St → Prop} (k : K .none st) : Ev R d fm (.Constant .none n pos) st K :=
  .now k fun A L s P Q E k => wpAny_Constant_none (k _ s.toks .none)

theorem load_val {M : Model} {A : Around} {x : Str} {v : AV} (hl : Look ρ x (.val v)) (F : FR R L fm ρ s) {Q : Value → Shared → Prop} {E : Value → Shared → Prop} (k : ∀ v', VR L s.heap v v' → Q v' s) : wpAny M A (loadName fm.env x) Q E s := by
  obtain ⟨m, hn, hm⟩ := F.ns
  obtain ⟨hk, v', hv, hr⟩ := hm x v hl
  exact wpAny_loadName_local F.ok.kind' ((F.ok.kindOf x).trans hk) hn hv (k v' hr)
theorem Ev.var {x : Str} {v : AV} {pos : Pos} {K : AV → St → Prop} (hl : Look st.ρ x (.val v)) (k : K v st) (hd : (x == ("__debug__" : Str)) = false := by decide) : Ev R d fm (.Name x pos) st K :=
  .now k fun A L s P Q E k => wpAny_Name (load_val hl P.2 fun v' hr => k v' s.toks hr) hd
theorem Ev.cel {x : Str} {n : Nat} {v : AV} {pos : Pos} {K : AV → St → Prop} (hl : Look st.ρ x (.cel n)) (hn : st.σ n = some (.cel (some v))) (k : K v st) (hd : (x == ("__debug__" : Str)) = false := by decide) (hc : (x == ("__classdict__" : Str)) = false := by decide) : Ev R d fm (.Name x pos) st K :=
  .now k fun A L s P Q E k => wpAny_Name (by
    obtain ⟨hk, a, ha, hL⟩ := P.2.cel x n hl
    obtain ⟨b, hb, hcell⟩ := P.1.at_ n _ hn
    rw [hL] at hb; cases hb
    obtain ⟨o, v', ho, _, hd', hv⟩ := hcell
    rcases hk with hk | hk
    · exact wpAny_loadName_cell P.2.ok.kind' ((P.2.ok.kindOf x).trans hk) ha ⟨o, ho, hd'⟩ (k v' s.toks hv)
    · exact wpAny_loadName_free P.2.ok.kind' ((P.2.ok.kindOf x).trans hk) ha ⟨o, ho, hd'⟩ (k v' s.toks hv) hc) hd

/-- a global name's value, or a built-in's -/
structure GlobV (R : RT) (x : Str) (v : Value) : Prop where
  main : ∃ mg, R.h₀.Ns mainGlobals mg ∧ (∀ o, R.h₀.get? mainGlobals = some o → o.cls ≠ .none) ∧
    (mg x = some v ∨ (mg x = none ∧ ∃ mb, R.h₀.Ns builtinsNs mb ∧ (∀ o, R.h₀.get? builtinsNs = some o → o.cls ≠ .none) ∧ mb x = some v))

theorem OldK.ns {h₀ h : Heap} (K : OldK h₀ h) {a : Addr} {m : Str → Option Value} (hn : h₀.Ns a m) (hc : ∀ o, h₀.get? a = some o → o.cls ≠ .none) : h.Ns a m := by
  obtain ⟨o, es, ep, ho, r⟩ := hn
  exact ⟨o, es, ep, K.get_of_cls ho (hc o ho), r⟩

theorem Ev.glob {x : Str} {v : Value} {pos : Pos} {K : AV → St → Prop} (hg : GlobV R x v) (hk : fm.scope.names.lookup x = some .globalImplicit) (k : K (.raw v) st) (hd : (x == ("__debug__" : Str)) = false := by decide) : Ev R d fm (.Name x pos) st K :=
  .now k fun A L s P Q E k => by
    obtain ⟨mg, h1, h2, h3⟩ := hg.main
    refine Calls.Name_function_global P.2.ok.kind' ((P.2.ok.kindOf x).trans hk) ?_ hd
    have n1 := OldK.ns P.1.old h1 h2
    rcases h3 with h3 | ⟨h3, mb, h4, h5, h6⟩
    · exact Calls.loadGlobal_global (by rw [P.2.ok.globals]; exact n1) h3 (k _ s.toks (.raw _))
    · exact Calls.loadGlobal_builtin (by rw [P.2.ok.globals]; exact n1) h3 (by rw [P.2.ok.builtins]; exact OldK.ns P.1.old h4 h5) h6 (k _ s.toks (.raw _))

theorem two_le (r : Room d A) (h : 2 ≤ d) : Room 2 A := r.less h

theorem Ev.binop {l rr : PySem.Expr} {op : Operator} {pos : Pos} {K : AV → St → Prop} (hd : 2 ≤ d)
    (h : Ev R d fm l st fun a st₁ => Ev R d fm rr st₁ fun b st₂ => Opr R (op2 (binaryOp op)) [a, b] st₂.σ fun v σ' => K v ⟨st₂.ρ, σ'⟩) : Ev R d fm (.BinOp l op rr pos) st K :=
  fun A L s r ht P Q E k => wpAny_BinOp (h.run r ht P fun a' s₁ L₁ a st₁ h₁ ht₁ P₁ va g₁ _ => h₁.run r ht₁ P₁ fun b' s₂ L₂ b st₂ h₂ ht₂ P₂ vb g₂ st₂' =>
    h₂.run (args' := [a', b']) (r.less hd) ht₂ P₂ (.cons (va.mono g₂.pre st₂') (.cons vb .nil)) fun v' s₃ L₃ v σ' hk ht₃ P₃ hv g₃ => k v' s₃ L₃ v _ hk P₃ hv ((g₁.trans g₂ own_ok).trans g₃ own_ok))
theorem Ev.unop {x : PySem.Expr} {op : UnaryOp} {pos : Pos} {K : AV → St → Prop} (hd : 2 ≤ d)
    (h : Ev R d fm x st fun a st₁ => Opr R (op1 (unaryOp op)) [a] st₁.σ fun v σ' => K v ⟨st₁.ρ, σ'⟩) : Ev R d fm (.UnaryOp op x pos) st K :=
  fun A L s r ht P Q E k => wpAny_UnaryOp (h.run r ht P fun a' s₁ L₁ a st₁ h₁ ht₁ P₁ va g₁ _ =>
    h₁.run (args' := [a']) (r.less hd) ht₁ P₁ (.cons va .nil) fun v' s₃ L₃ v σ' hk ht₃ P₃ hv g₃ => k v' s₃ L₃ v _ hk P₃ hv (g₁.trans g₃ own_ok))
theorem Ev.cmp {l rr : PySem.Expr} {op : CmpOp} {pos : Pos} {K : AV → St → Prop} (hd : 2 ≤ d)
    (h : Ev R d fm l st fun a st₁ => Ev R d fm rr st₁ fun b st₂ => Opr R (op2 (compareOp op)) [a, b] st₂.σ fun v σ' => K v ⟨st₂.ρ, σ'⟩) (hm : behindInMarks op rr = false := by with_unfolding_all rfl) : Ev R d fm (.Compare l [op] [rr] pos) st K :=
  fun A L s r ht P Q E k => wpAny_Compare1 (hm := hm) (h.run r ht P fun a' s₁ L₁ a st₁ h₁ ht₁ P₁ va g₁ _ => h₁.run r ht₁ P₁ fun b' s₂ L₂ b st₂ h₂ ht₂ P₂ vb g₂ st₂' =>
    h₂.run (args' := [a', b']) (r.less hd) ht₂ P₂ (.cons (va.mono g₂.pre st₂') (.cons vb .nil)) fun v' s₃ L₃ v σ' hk ht₃ P₃ hv g₃ => k v' s₃ L₃ v _ hk P₃ hv ((g₁.trans g₂ own_ok).trans g₃ own_ok))
theorem Tst.cmp {l rr : PySem.Expr} {op : CmpOp} {pos : Pos} {K : Bool → St → Prop} (hd : 2 ≤ d)
    (h : Ev R d fm l st fun a st₁ => Ev R d fm rr st₁ fun b st₂ => Opr R (op2 (compareOp op)) [a, b] st₂.σ fun v σ' => ∃ b, v = .bool b ∧ K b ⟨st₂.ρ, σ'⟩) (hm : behindInMarks op rr = false := by with_unfolding_all rfl) : Tst R d fm (.Compare l [op] [rr] pos) st K :=
  fun A L s r ht P Q E k => wpAny_isTrue_Compare1 (hm := hm) (h.run r ht P fun a' s₁ L₁ a st₁ h₁ ht₁ P₁ va g₁ _ => h₁.run r ht₁ P₁ fun b' s₂ L₂ b st₂ h₂ ht₂ P₂ vb g₂ st₂' =>
    h₂.run (args' := [a', b']) (r.less hd) ht₂ P₂ (.cons (va.mono g₂.pre st₂') (.cons vb .nil)) fun v' s₃ L₃ v σ' hk ht₃ P₃ hv g₃ => by
      obtain ⟨b, rfl, hk⟩ := hk
      obtain rfl := hv.bool_inv
      exact wpAny_truthy_bool (k b s₃ L₃ _ hk P₃ ((g₁.trans g₂ own_ok).trans g₃ own_ok)))
theorem Tst.not {x : PySem.Expr} {pos : Pos} {K : Bool → St → Prop} (h : Tst R d fm x st fun b st' => K (!b) st') : Tst R d fm (.UnaryOp .Not x pos) st K :=
  fun A L s r ht P Q E k => wpAny_isTrue_Not (h.run r ht P fun b s₁ L₁ st₁ hk ht₁ P₁ g₁ _ => k _ s₁ L₁ st₁ hk P₁ g₁)
theorem Tst.val {e : PySem.Expr} {K : Bool → St → Prop} (h : Ev R d fm e st fun v st' => ∃ b, v = .bool b ∧ K b st')
    (he : ∀ whole, isTrue e fm.env whole = (do let v ← whole; standAt e.pos; holding [v] (truthy v)) := by intro _; with_unfolding_all rfl) : Tst R d fm e st K :=
  fun A L s r ht P Q E k => wpAny_isTrue_value (he := he _) (h.run r ht P fun v' s₁ L₁ v st₁ hk ht₁ P₁ hv g₁ _ => by
    obtain ⟨b, rfl, hk⟩ := hk
    obtain rfl := hv.bool_inv
    exact wpAny_truthy_bool (k b s₁ L₁ _ hk P₁ g₁))

/-- all of a list of tests, or any -/
noncomputable def All (R : RT) (d : Nat) (fm : Fm) (op : BoolOp) (es : List PySem.Expr) (st : St) (K : Bool → St → Prop) : Prop :=
  ∀ A L s, Room d A → 0 < s.toks → Rep R fm L st s → ∀ Q E,
    (∀ b s' L' st', K b st' → Rep R fm L' st' s' → Grow L L' (own fm) s s' → Q b s') → wpAny R.M A (allTrue op es fm.env) Q E s
theorem All.and_nil {K : Bool → St → Prop} (k : K true st) : All R d fm .And [] st K := fun A L s r ht P Q E k' => wpAny_allTrue_And_nil (k' _ _ _ _ k P (Grow.refl ..))
theorem All.or_nil {K : Bool → St → Prop} (k : K false st) : All R d fm .Or [] st K := fun A L s r ht P Q E k' => wpAny_allTrue_Or_nil (k' _ _ _ _ k P (Grow.refl ..))
theorem All.and_cons {x : PySem.Expr} {rest : List PySem.Expr} {K : Bool → St → Prop} (h : Tst R d fm x st fun b st' => match b with | true => All R d fm .And rest st' K | false => K false st') : All R d fm .And (x :: rest) st K :=
  fun A L s r ht P Q E k' => wpAny_allTrue_And_cons (h.run r ht P fun b s₁ L₁ st₁ hk ht₁ P₁ g₁ _ => by
    cases b with
    | true => exact with_pos ht₁ fun E' => hk A L₁ s₁ r ht₁ P₁ _ _ fun b s₂ L₂ st₂ k₂ P₂ g₂ _ => k' _ _ _ _ k₂ P₂ (g₁.trans g₂ own_ok)
    | false => exact k' _ _ _ _ hk P₁ g₁)
theorem All.or_cons {x : PySem.Expr} {rest : List PySem.Expr} {K : Bool → St → Prop} (h : Tst R d fm x st fun b st' => match b with | true => K true st' | false => All R d fm .Or rest st' K) : All R d fm .Or (x :: rest) st K :=
  fun A L s r ht P Q E k' => wpAny_allTrue_Or_cons (h.run r ht P fun b s₁ L₁ st₁ hk ht₁ P₁ g₁ _ => by
    cases b with
    | false => exact with_pos ht₁ fun E' => hk A L₁ s₁ r ht₁ P₁ _ _ fun b s₂ L₂ st₂ k₂ P₂ g₂ _ => k' _ _ _ _ k₂ P₂ (g₁.trans g₂ own_ok)
    | true => exact k' _ _ _ _ hk P₁ g₁)
theorem Tst.boolop {op : BoolOp} {es : List PySem.Expr} {pos : Pos} {K : Bool → St → Prop} (h : All R d fm op es st K) : Tst R d fm (.BoolOp op es pos) st K :=
  fun A L s r ht P Q E k => wpAny_isTrue_BoolOp (h A L s r ht P Q E k)

theorem Ev.and2 {x y : PySem.Expr} {pos : Pos} {K : AV → St → Prop}
    (h : Ev R d fm x st fun v st' => ∃ b, v = .bool b ∧ match b with | true => Ev R d fm y st' K | false => K (.bool false) st') : Ev R d fm (.BoolOp .And [x, y] pos) st K :=
  fun A L s r ht P Q E k => wpAny_And2 (h.run r ht P fun v' s₁ L₁ v st₁ hk ht₁ P₁ hv g₁ _ => by
    obtain ⟨b, rfl, hk⟩ := hk
    obtain rfl := hv.bool_inv
    refine wpAny_truthy_bool ?_
    cases b with
    | true => exact hk.run r ht₁ P₁ fun v' s₂ L₂ v st₂ k₂ _ P₂ hv g₂ _ => k _ _ _ _ _ k₂ P₂ hv (g₁.trans g₂ own_ok)
    | false => exact k _ _ _ _ _ hk P₁ (.bool _) g₁)
theorem Ev.ifexp {t b o : PySem.Expr} {pos : Pos} {K : AV → St → Prop} (h : Tst R d fm t st fun c st' => match c with | true => Ev R d fm b st' K | false => Ev R d fm o st' K) : Ev R d fm (.IfExp t b o pos) st K :=
  fun A L s r ht P Q E k => wpAny_IfExp (h.run r ht P fun c s₁ L₁ st₁ hk ht₁ P₁ g₁ _ => by
    cases c with
    | true => exact Ev.run (hk : Ev R d fm b st₁ K) r ht₁ P₁ fun v' s₂ L₂ v st₂ k₂ _ P₂ hv g₂ _ => k _ _ _ _ _ k₂ P₂ hv (g₁.trans g₂ own_ok)
    | false => exact Ev.run (hk : Ev R d fm o st₁ K) r ht₁ P₁ fun v' s₂ L₂ v st₂ k₂ _ P₂ hv g₂ _ => k _ _ _ _ _ k₂ P₂ hv (g₁.trans g₂ own_ok))

/-- expressions one after another -/
noncomputable def Evs (R : RT) (d : Nat) (fm : Fm) (es : List PySem.Expr) (st : St) (K : List AV → St → Prop) : Prop :=
  ∀ A L s pos, Room d A → 0 < s.toks → Rep R fm L st s → ∀ Q E,
    (∀ vs' s' L' vs st', K vs st' → 0 < s'.toks → Rep R fm L' st' s' → VRs L' s'.heap vs vs' → Grow L L' (own fm) s s' → Q vs' s') → wpAny R.M A (spliced (backTo pos (starEach es fm.env))) Q E s
theorem Evs.nil {K : List AV → St → Prop} (k : K [] st) : Evs R d fm [] st K := fun A L s pos r ht P Q E k' => wpAny_items_nil (k' _ _ _ _ _ k ht P .nil (Grow.refl ..))
theorem Evs.cons {e : PySem.Expr} {es : List PySem.Expr} {K : List AV → St → Prop} (h : Ev R d fm e st fun v st' => Evs R d fm es st' fun vs st'' => K (v :: vs) st'')
    (he : ∀ env, starEach (e :: es) env = (false, eval e env) :: starEach es env := by intro _; with_unfolding_all rfl) : Evs R d fm (e :: es) st K :=
  fun A L s pos r ht P Q E k' => wpAny_items_cons (he := he _) (h.run r ht P fun v' s₁ L₁ v st₁ hk ht₁ P₁ hv g₁ _ => hk A L₁ s₁ pos r ht₁ P₁ _ _ fun vs' s₂ L₂ vs st₂ k₂ ht₂ P₂ hvs g₂ =>
    k' _ _ _ _ _ k₂ ht₂ P₂ (.cons (hv.mono g₂.pre (P₁.stays g₂)) hvs) (g₁.trans g₂ own_ok))

theorem Rep.newList (P : Rep R fm L st s) {items : Array Value} {l : List AV} {h' : Heap} (hk : ∀ b o, s.heap.get? b = some o → h'.get? b = some o) {a : Addr} (ha : s.heap.get? a = none) {tk : Nat}
    (hp : h'.PlainList a items) (hr : VRs L s.heap l items.toList) :
    Rep R fm (L ++ [a]) ⟨st.ρ, st.σ.upd L.length (.lst l)⟩ { s with heap := h', toks := tk } ∧ VR (L ++ [a]) h' (.lst L.length) (.ref a) ∧ Grow L (L ++ [a]) (own fm) s { s with heap := h', toks := tk } := by
  have N := P.1.newList (tk := tk) hk ha hp hr []
  exact ⟨⟨N.1, P.2.kept P.1 N.2.2⟩, N.2.1, N.2.2.weaken own_nil⟩

theorem Ev.list {es : List PySem.Expr} {pos : Pos} {K : AV → St → Prop} (h : Evs R d fm es st fun vs st' => vs.length < 1048576 ∧ ∀ n, st'.σ n = Option.none → K (.lst n) ⟨st'.ρ, st'.σ.upd n (.lst vs)⟩) : Ev R d fm (.List es pos) st K :=
  fun A L s r ht P Q E k => wpAny_List (h A L s pos r ht P _ _ fun vs' s₁ L₁ vs st₁ hk ht₁ P₁ hv g₁ => by
    refine ⟨by rw [sizeLine_eq, hv.length]; lia, ?_⟩
    have N := P₁.newList (tk := s₁.toks) (items := vs'.toArray) (fun b o e => Heap.get?_push_of_some { cls := .type "list", data := .seq vs'.toArray } e) (get_size_none s₁.heap) ⟨0, Heap.get?_push_size _ rfl⟩ hv
    exact k _ _ _ _ _ (hk.2 _ P₁.1.free) N.1 N.2.1 (g₁.trans N.2.2 own_ok))
theorem FR.more (F : FR R L fm ρ s) {h' : Heap} {tk : Nat} (hk : ∀ b o, s.heap.get? b = some o → h'.get? b = some o) : FR R L fm ρ { s with heap := h', toks := tk } := by
  refine ⟨F.ok, ?_, F.cel⟩
  obtain ⟨m, hn, hm⟩ := F.ns
  exact ⟨m, hn.keeps hk, fun x v h => let ⟨a, v', b, c⟩ := hm x v h; ⟨a, v', b, c.mono (List.prefix_refl _) (.of_keep hk)⟩⟩
theorem Rep.more (P : Rep R fm L st s) {h' : Heap} {tk : Nat} (hk : ∀ b o, s.heap.get? b = some o → h'.get? b = some o) : Rep R fm L st { s with heap := h', toks := tk } := ⟨P.1.more hk, P.2.more hk⟩
theorem Ev.tuple {es : List PySem.Expr} {n : Nat} {pos : Pos} {K : AV → St → Prop} (h : Evs R d fm es st fun vs st' => vs.length < 1048576 ∧ K (.tup vs) st') : Ev R d fm (.Tuple es n pos) st K :=
  fun A L s r ht P Q E k => wpAny_Tuple (h A L s pos r ht P _ _ fun vs' s₁ L₁ vs st₁ hk ht₁ P₁ hv g₁ => by
    refine ⟨by rw [sizeLine_eq, hv.length]; lia, ?_⟩
    have hp : ∀ b o, s₁.heap.get? b = some o → (s₁.heap.push { cls := .type "tuple", data := .seq vs'.toArray }).get? b = some o := fun b o e => Heap.get?_push_of_some _ e
    exact k _ _ _ _ _ hk.2 (P₁.more (tk := s₁.toks) hp) (.tup (Heap.get?_push_size _ rfl) (hv.mono (List.prefix_refl _) (.of_keep hp))) (g₁.trans (Grow.more (tk := s₁.toks) hp) own_ok))

/-- what may be called here -/
inductive Callee (R : RT) : AV → Prop
  | bi (id : String) : Callee R (.raw (.builtin id))
  | ty (id : String) : Callee R (.raw (.type id))
  | fn {a : Addr} {o : Obj} {fd : FuncData} : R.h₀.get? a = some o → o.cls = .type "function" → o.data = .func fd → Callee R (.raw (.ref a))
  | clo {n p b s c} : Callee R (.clo n p b s c)

theorem Callee.obj {f : AV} (c : Callee R f) (H : HR R L σ s) {f' : Value} (hv : VR L s.heap f f') :
    (∃ id, f' = .builtin id) ∨ (∃ id, f' = .type id) ∨ ∃ a o fd, f' = .ref a ∧ s.heap.get? a = some o ∧ o.cls = .type "function" ∧ o.data = .func fd := by
  cases c with
  | bi id => exact .inl ⟨id, hv.raw_inv⟩
  | ty id => exact .inr (.inl ⟨id, hv.raw_inv⟩)
  | fn h1 h2 h3 => exact .inr (.inr ⟨_, _, _, hv.raw_inv, H.old.get_of_cls h1 (by rw [h2]; simp), h2, h3⟩)
  | clo => cases hv with | clo h1 h2 h3 h4 h5 => exact .inr (.inr ⟨_, _, _, rfl, h1, h2, h3⟩)

theorem zipnil {α β : Type} : (([] : List (α × β)).map (·.1)).zip ([] : List β) = [] := rfl

theorem plain_of_nil (pos : Pos) (env : Env) : (backTo pos (starEach [] env)).any (·.1) = false := rfl

theorem evalArgs_any {M : Model} {A : Around} {E : Value → Shared → Prop} {f : Value} {es : List PySem.Expr} {pos : Pos} {env : Env} {Q : Args → Shared → Prop} (hp : (backTo pos (starEach es env)).any (·.1) = false)
    (h : wpAny M A (spliced (backTo pos (starEach es env))) (fun vs s' => Q ⟨vs, []⟩ s') E s) : wpAny M A (evalArgs f true (backTo pos (starEach es env)) []) Q E s := by
  generalize hx : backTo pos (starEach es env) = x at h hp ⊢
  cases x with
  | nil =>
    unfold evalArgs
    show wpAny M A (spliced [] >>= _) Q E s
    refine wpAny_bind (wpAny_mono h (fun vs s' h' => ?_) fun _ _ x => x)
    refine wpAny_holding ?_
    exact wpAny_bind (wpAny_pure (wpAny_bind (wpAny_pure (wpAny_pure h'))))
  | cons y ys =>
    obtain ⟨b, y⟩ := y
    simp only [List.any_cons, Bool.or_eq_false_iff] at hp
    obtain ⟨rfl, _⟩ := hp
    exact Calls.evalArgs_plain h

theorem Ev.call {f : PySem.Expr} {es : List PySem.Expr} {pos : Pos} {K : AV → St → Prop}
    (h : Ev R d fm f st fun fv st₁ => Callee R fv ∧ Evs R d fm es st₁ fun vs st₂ => Calls R d fv vs [] st₂.σ fun v σ' => K v ⟨st₂.ρ, σ'⟩)
    (hp : ∀ pos env, (backTo pos (starEach es env)).any (·.1) = false := by intro _ _; with_unfolding_all rfl)
    (he : ∀ env, eval (.Call f es [] pos) env = (do callWith pos (← eval f env) [] (backTo pos (starEach es env)) (backToKw pos (keywordEach [] env))) := by intro _; with_unfolding_all rfl) : Ev R d fm (.Call f es [] pos) st K :=
  fun A L s r ht P Q E k => by
    rw [he]
    refine wpAny_bind (h.run r ht P fun f' s₁ L₁ fv st₁ hk ht₁ P₁ hf g₁ _ => ?_)
    have run : wpAny R.M A (evalArgs f' true (backTo pos (starEach es fm.env)) []) (fun a s₂ => (∀ b o, s₁.heap.get? b = some o → Fixed o → s₂.heap.get? b = some o) ∧ wpAny R.M A (PySem.call f' ([] ++ a.pos) a.kw) Q E s₂) E s₁ :=
      evalArgs_any (hp _ _) (hk.2 A L₁ s₁ pos r ht₁ P₁ _ _ fun vs' s₂ L₂ vs st₂ k₂ ht₂ P₂ hvs g₂ =>
        ⟨P₁.stays g₂, k₂.run (kv' := []) r ht₂ P₂ (hf.mono g₂.pre (P₁.stays g₂)) hvs .nil fun v' s₃ L₃ v σ' hk ht₃ P₃ hv g₃ => k _ _ _ _ _ hk P₃ hv ((g₁.trans g₂ own_ok).trans g₃ own_ok)⟩)
    rcases hk.1.obj P₁.1 hf with ⟨id, rfl⟩ | ⟨id, rfl⟩ | ⟨a, o, fd, rfl, ho, hc, hd⟩
    · exact Calls.callWith_builtin (hp _ _) (wpAny_mono run (fun _ _ x => x.2) fun _ _ x => x)
    · exact PySem.callWith_type (hp _ _) (wpAny_mono run (fun _ _ x => x.2) fun _ _ x => x)
    · exact Calls.callWith_function (o := o) (fd := fd) (wpAny_mono run (fun _ _ x => ⟨⟨x.1 _ _ ho (fix_func hc hd), hd⟩, x.2⟩) fun _ _ x => x)

theorem Ev.callKw {f : PySem.Expr} {es : List PySem.Expr} {pos kp : Pos} {kn : Str} {ke : PySem.Expr} {K : AV → St → Prop}
    (h : Ev R d fm f st fun fv st₁ => Callee R fv ∧ (∀ v, fv ≠ .raw (.builtin v)) ∧ (∀ v, fv ≠ .raw (.type v)) ∧ Evs R d fm es st₁ fun vs st₂ => Ev R d fm ke st₂ fun kv st₃ => Calls R d fv vs [(kn, kv)] st₃.σ fun v σ' => K v ⟨st₃.ρ, σ'⟩)
    (hp : ∀ pos env, ∃ x xs, backTo pos (starEach es env) = (false, x) :: xs := by intro _ _; with_unfolding_all exact ⟨_, _, rfl⟩)
    (he : ∀ env, eval (.Call f es [⟨some kn, ke, kp⟩] pos) env = (do callWith pos (← eval f env) [] (backTo pos (starEach es env)) (backToKw pos (keywordEach [⟨some kn, ke, kp⟩] env))) := by intro _; with_unfolding_all rfl) : Ev R d fm (.Call f es [⟨some kn, ke, kp⟩] pos) st K :=
  fun A L s r ht P Q E k => by
    rw [he]
    refine wpAny_bind (h.run r ht P fun f' s₁ L₁ fv st₁ hk ht₁ P₁ hf g₁ _ => ?_)
    obtain ⟨c, n1, n2, hk⟩ := hk
    rcases c.obj P₁.1 hf with ⟨id, rfl⟩ | ⟨id, rfl⟩ | ⟨a, o, fd, rfl, ho, hc, hd⟩
    · cases c with
      | bi id' => cases hf; exact absurd rfl (n1 _)
      | ty id' => cases hf
      | fn => cases hf
      | clo => cases hf
    · cases c with
      | ty id' => cases hf; exact absurd rfl (n2 _)
      | bi id' => cases hf
      | fn => cases hf
      | clo => cases hf
    · refine callWith_function_kw (o := o) (fd := fd) ?_
      obtain ⟨x, xs, hx⟩ := hp pos fm.env
      rw [hx]
      refine evalArgs_kw rfl ?_
      rw [← hx]
      refine hk A L₁ s₁ pos r ht₁ P₁ _ _ fun vs' s₂ L₂ vs st₂ k₂ ht₂ P₂ hvs g₂ => ?_
      have sg₂ := P₁.stays g₂
      show wpAny R.M A (evalAll [do let v ← eval ke fm.env; standAt pos; pure v]) _ _ _
      refine wpAny_evalAll_cons (wpAny_bind (k₂.run r ht₂ P₂ fun kv' s₃ L₃ kv st₃ k₃ ht₃ P₃ hkv g₃ sg₃ => wpAny_bind (wpAny_standAt (wpAny_pure (wpAny_evalAll_nil ?_)))))
      refine ⟨⟨sg₃ _ _ (sg₂ _ _ ho (fix_func hc hd)) (fix_func hc hd), hd⟩, ?_⟩
      exact k₃.run (kv' := [kv']) r ht₃ P₃ ((hf.mono g₂.pre sg₂).mono g₃.pre sg₃) (hvs.mono g₃.pre sg₃) (.cons hkv .nil) fun v' s₄ L₄ v σ' hk ht₄ P₄ hv g₄ =>
        k _ _ _ _ _ hk P₄ hv (((g₁.trans g₂ own_ok).trans g₃ own_ok).trans g₄ own_ok)
end

section
variable {R : RT} {L : List Addr} {σ : Sto} {s s' : Shared} {d : Nat} {fm : Fm} {ρ : Loc} {st : St}

/-- an object of the run's own, none of the store, is written -/
theorem HR.side (H : HR R L σ s) {a : Addr} (ha : a ∉ L) (hn : R.h₀.get? a = none) (hf : ∀ o, s.heap.get? a = some o → ¬ Fixed o) (hs : Heap.ExtBut a s.heap s'.heap) (hg : s'.gens = s.gens) (os : s'.os = s.os) : HR R L σ s' := by
  refine H.step (step_ext H.old hn hs) (hg ▸ H.bare) os (Stays.extBut hs hf) (fun b hb => by obtain ⟨o, e, _⟩ := H.kind b hb; rw [e]; exact hs _ _ (fun q => ha (q ▸ hb)) e) fun c P h => ?_
  obtain ⟨h1, h2⟩ := H.tabs c P h
  obtain ⟨⟨o, e⟩, o', e'⟩ := h2.there
  rw [e, e']
  refine ⟨hs _ _ ?_ e, hs _ _ (fun q => h1 (q ▸ hn)) e'⟩
  rintro rfl
  obtain ⟨ps, _, ⟨⟨o', vs', e', r', r'', _⟩, _⟩, _⟩ := h2
  exact hf _ e' (fix_code r' r'')
theorem Grow.side {a : Addr} {own : List Addr} (hs : Heap.ExtBut a s.heap s'.heap) (hg : s'.gens = s.gens) : Grow L L (a :: own) s s' where
  pre := List.prefix_refl _
  fresh := fun _ h h' => absurd h h'
  keep := fun b o e _ hb => .inl (hs b o (fun q => hb (by simp [q])) e)
  there := fun b o e hb => ⟨o, hs b o (fun q => hb (by simp [q])) e⟩
  gens := fun g x e => by rw [hg]; exact e
  gsize := Nat.le_of_eq (by rw [hg])

/-- a step that writes one object which is none of the frame's -/
theorem FR.side (F : FR R L fm ρ s) {a : Addr} (ha : a ≠ fm.env.locals) (hs : Heap.ExtBut a s.heap s'.heap) (hf : ∀ o, s.heap.get? a = some o → ¬ Fixed o) : FR R L fm ρ s' := by
  refine ⟨F.ok, ?_, F.cel⟩
  obtain ⟨m, hn, hm⟩ := F.ns
  exact ⟨m, hn.extBut hs (Ne.symm ha), fun x v h => let ⟨a, v', b, c⟩ := hm x v h; ⟨a, v', b, c.mono (List.prefix_refl _) (Stays.extBut hs hf)⟩⟩

/-- a store into a local -/
theorem store_local {M : Model} {A : Around} {x : Str} {v : AV} {v' : Value} {ρ' : Loc} (P : Rep R fm L st s) (hk : fm.scope.names.lookup x = some .local) (hu : Upd st.ρ x v ρ') (hv : VR L s.heap v v')
    {Q : Unit → Shared → Prop} {E : Value → Shared → Prop} (k : ∀ s', Rep R fm L ⟨ρ', st.σ⟩ s' → Grow L L (own fm) s s' → Q () s') : wpAny M A (storeName fm.env x v') Q E s := by
  obtain ⟨m, hn, hm⟩ := P.2.ns
  refine wpAny_storeName_local ((P.2.ok.kindOf x).trans hk) hn (fun h' hn' hs => ?_) (by rw [P.2.ok.kind']; rfl)
  have H' := P.1.locals (s' := { s with heap := h', toks := s.toks + 1 }) P.2 hs rfl rfl
  have stays : Stays s.heap h' := Stays.sameBut hs fun o e => P.2.own_free _ (by simp [own]) o e
  obtain ⟨o', es', ep', e', hd', _⟩ := id hn'
  refine k _ ⟨H', P.2.ok, ⟨_, hn', fun y w hl => ?_⟩, fun y n hl => ?_⟩ (Grow.locals P.2 ⟨o', e'⟩ hs rfl)
  · rcases hu.look hl with ⟨rfl, hb⟩ | ⟨hy, hl⟩
    · cases hb; exact ⟨hk, v', by simp, hv.mono (List.prefix_refl _) stays⟩
    · obtain ⟨a, w', b, c⟩ := hm y w hl
      exact ⟨a, w', by simp only [hy, if_false]; exact b, c.mono (List.prefix_refl _) stays⟩
  · rcases hu.look hl with ⟨_, hb⟩ | ⟨hy, hl⟩
    · cases hb
    · exact P.2.cel y n hl

/-- a store into a cell -/
theorem store_cell {M : Model} {A : Around} {x : Str} {v : AV} {v' : Value} {n : Nat} {ov : Option AV} (P : Rep R fm L st s) (hk : fm.scope.names.lookup x = some .cell) (hl : Look st.ρ x (.cel n)) (hn : st.σ n = some (.cel ov)) (hv : VR L s.heap v v')
    {Q : Unit → Shared → Prop} {E : Value → Shared → Prop} (k : ∀ s', Rep R fm L ⟨st.ρ, st.σ.upd n (.cel (some v))⟩ s' → Grow L L (own fm) s s' → Q () s') : wpAny M A (storeName fm.env x v') Q E s := by
  obtain ⟨hk', a, ha, hL⟩ := P.2.cel x n hl
  obtain ⟨b, hb, hc⟩ := P.1.at_ n _ hn
  rw [hL] at hb; cases hb
  have hc' : ∃ o v₀, s.heap.get? a = some o ∧ o.cls = .type "cell" ∧ o.data = .cell v₀ := by
    match ov, hc with
    | none, ⟨o, h1, h2, h3⟩ => exact ⟨o, _, h1, h2, h3⟩
    | some w, ⟨o, w', h1, h2, h3, _⟩ => exact ⟨o, _, h1, h2, h3⟩
  obtain ⟨o, v₀, h1, h2, h3⟩ := hc'
  unfold storeName
  simp only [(P.2.ok.kindOf x).trans hk, P.2.ok.kind']
  refine wpAny_bind (wpAny_cellOf ha ?_)
  unfold cellSet
  refine wpAny_bind (wpAny_load h1 ?_)
  rw [h3]
  refine wpAny_update h1 ?_
  have hs : Heap.SameBut a s.heap (s.heap.update a fun o => { o with data := .cell (some v') }) := .update ..
  have g1 : (s.heap.update a fun o => { o with data := .cell (some v') }).get? a = some { o with data := .cell (some v') } := Heap.get?_update_self _ h1 rfl
  have stays : Stays s.heap (s.heap.update a fun o => { o with data := .cell (some v') }) := Stays.sameBut hs fun o' e => by rw [h1] at e; cases e; exact not_fixed_list (.inr h2)
  have W := P.1.write (s' := { s with heap := s.heap.update a fun o => { o with data := .cell (some v') } }) (c := .cel (some v)) hL hs rfl rfl ⟨_, v', g1, h2, rfl, hv.mono (List.prefix_refl _) stays⟩
  have g : Grow L L [] s { s with heap := s.heap.update a fun o => { o with data := .cell (some v') } } := Grow.write (List.mem_of_getElem? hL) ⟨_, g1⟩ hs rfl
  exact k _ ⟨W, P.2.kept P.1 g⟩ (g.weaken own_nil)

/-- names bound -/
inductive Bind (fm : Fm) (x : Str) (v : AV) : St → St → Prop
  | loc {st : St} {ρ' : Loc} : fm.scope.names.lookup x = some .local → Upd st.ρ x v ρ' → Bind fm x v st ⟨ρ', st.σ⟩
  | cel {st : St} {n : Nat} {ov : Option AV} : fm.scope.names.lookup x = some .cell → Look st.ρ x (.cel n) → st.σ n = some (.cel ov) → Bind fm x v st ⟨st.ρ, st.σ.upd n (.cel (some v))⟩

theorem store_bind {M : Model} {A : Around} {x : Str} {v : AV} {v' : Value} {st' : St} (b : Bind fm x v st st') (P : Rep R fm L st s) (hv : VR L s.heap v v')
    {Q : Unit → Shared → Prop} {E : Value → Shared → Prop} (k : ∀ s', Rep R fm L st' s' → Grow L L (own fm) s s' → Q () s') : wpAny M A (storeName fm.env x v') Q E s := by
  cases b with
  | loc hk hu => exact store_local P hk hu hv k
  | cel hk hl hn => exact store_cell P hk hl hn hv k

theorem Exs.nil {K : Out → St → Prop} (k : K .next st) : Exs R d fm [] st K := fun A L s r ht P Q E k' => wpAny_execs_nil (k' _ _ _ _ _ k P trivial (Grow.refl ..))
theorem Exs.cons {b : Stmt} {rest : List Stmt} {K : Out → St → Prop} (h : Ex R d fm b st fun o st' => match o with | .next => Exs R d fm rest st' K | o => K o st') : Exs R d fm (b :: rest) st K :=
  fun A L s r ht P Q E k' => wpAny_execs_cons (h.run r ht P fun f s₁ L₁ o st₁ hk ht₁ P₁ hf g₁ _ => by
    cases o <;> cases f <;> (try exact hf.elim)
    · exact Exs.run (hk : Exs R d fm rest st₁ K) r ht₁ P₁ fun f s₂ L₂ o st₂ k₂ ht₂ P₂ hf₂ g₂ _ => k' _ _ _ _ _ k₂ P₂ hf₂ (g₁.trans g₂ own_ok)
    · exact k' .brk _ _ .brk _ hk P₁ trivial g₁
    · exact k' .cont _ _ .cont _ hk P₁ trivial g₁
    · exact k' (.ret _) _ _ (.ret _) _ hk P₁ hf g₁)

theorem Ex.assign {x : Str} {p pos : Pos} {e : PySem.Expr} {K : Out → St → Prop} (h : Ev R d fm e st fun v st₁ => ∃ st₂, Bind fm x v st₁ st₂ ∧ K .next st₂)
    (hs : ∀ env, swapsWith e (some (.Name x p)) pos.line env = pure false := by intro _; with_unfolding_all rfl) : Ex R d fm (.Assign [.Name x p] e pos) st K :=
  fun A L s r ht P Q E k' => wpAny_Assign_Name (hs := hs _) (h.run r ht P fun v' s₁ L₁ v st₁ hk ht₁ P₁ hv g₁ _ => by
    obtain ⟨st₂, b, hk⟩ := hk
    exact store_bind b P₁ hv fun s₂ P₂ g₂ => k' _ _ _ _ _ hk P₂ trivial (g₁.trans g₂ own_ok))
theorem Ex.aug {x : Str} {p pos : Pos} {op : Operator} {e : PySem.Expr} {v₀ : AV} {K : Out → St → Prop} (hd : 2 ≤ d) (hl : Look st.ρ x (.val v₀))
    (h : Ev R d fm e st fun v st₁ => Opr R (op2 (inplaceOp op)) [v₀, v] st₁.σ fun w σ' => ∃ st₂, Bind fm x w ⟨st₁.ρ, σ'⟩ st₂ ∧ K .next st₂) : Ex R d fm (.AugAssign (.Name x p) op e pos) st K :=
  fun A L s r ht P Q E k' => wpAny_AugAssign_Name (load_val hl P.2 fun v₀' hv₀ => h.run r ht P fun v' s₁ L₁ v st₁ hk ht₁ P₁ hv g₁ st₁' =>
    hk.run (args' := [v₀', v']) (r.less hd) ht₁ P₁ (.cons (hv₀.mono g₁.pre st₁') (.cons hv .nil)) fun w' s₂ L₂ w σ' hk ht₂ P₂ hw g₂ => by
      obtain ⟨st₂, b, hk⟩ := hk
      exact store_bind b P₂ hw fun s₃ P₃ g₃ => k' _ _ _ _ _ hk P₃ trivial ((g₁.trans g₂ own_ok).trans g₃ own_ok))
theorem Ex.expr {e : PySem.Expr} {pos : Pos} {K : Out → St → Prop} (h : Ev R d fm e st fun v st₁ => v = .none ∧ K .next st₁)
    (hs : ∀ env, swapsWith e none pos.line env = pure false := by intro _; with_unfolding_all rfl) : Ex R d fm (.Expr e pos) st K :=
  fun A L s r ht P Q E k' => wpAny_Expr (hi := by simp [interactive, P.2.ok.kind']) (hs := hs _) (h.run r ht P fun v' s₁ L₁ v st₁ hk ht₁ P₁ hv g₁ _ => by
    obtain ⟨rfl, hk⟩ := hk
    obtain rfl := hv.none_inv
    exact k' _ _ _ _ _ hk P₁ trivial g₁)
theorem Ex.ret {e : PySem.Expr} {pos : Pos} {K : Out → St → Prop} (h : Ev R d fm e st fun v st₁ => K (.ret v) st₁) : Ex R d fm (.Return (some e) pos) st K :=
  fun A L s r ht P Q E k' => wpAny_Return_some (h.run r ht P fun v' s₁ L₁ v st₁ hk ht₁ P₁ hv g₁ _ => k' (.ret v') _ _ (.ret v) _ hk P₁ hv g₁)
theorem Ex.ite {t : PySem.Expr} {b o : List Stmt} {pos : Pos} {K : Out → St → Prop} (h : Tst R d fm t st fun c st₁ => match c with | true => Exs R d fm b st₁ K | false => Exs R d fm o st₁ K) : Ex R d fm (.If t b o pos) st K :=
  fun A L s r ht P Q E k' => wpAny_If (h.run r ht P fun c s₁ L₁ st₁ hk ht₁ P₁ g₁ _ => by
    cases c with
    | true => exact Exs.run (hk : Exs R d fm b st₁ K) r ht₁ P₁ fun f s₂ L₂ o st₂ k₂ ht₂ P₂ hf₂ g₂ _ => k' _ _ _ _ _ k₂ P₂ hf₂ (g₁.trans g₂ own_ok)
    | false => exact Exs.run (hk : Exs R d fm o st₁ K) r ht₁ P₁ fun f s₂ L₂ o st₂ k₂ ht₂ P₂ hf₂ g₂ _ => k' _ _ _ _ _ k₂ P₂ hf₂ (g₁.trans g₂ own_ok))

/-- the walk of a while -/
noncomputable def Wl (R : RT) (d : Nat) (fm : Fm) (t : PySem.Expr) (b : List Stmt) (st : St) (K : Out → St → Prop) : Prop :=
  ∀ A L s, Room d A → 0 < s.toks → Rep R fm L st s → ∀ (Rr : Result → Shared → Prop),
    (∀ f s' L' o st', K o st' → 0 < s'.toks → Rep R fm L' st' s' → FlowR L' s'.heap o f → Grow L L' (own fm) s s' → Rr (.ok f) s') → codeAny R.M A (.whileLoop t b [] fm.env) Rr s

theorem Wl.step {t : PySem.Expr} {b : List Stmt} {K : Out → St → Prop} (h : Tst R d fm t st fun c st₁ => match c with
    | true => Exs R d fm b st₁ fun o st₂ => match o with | .next => Wl R d fm t b st₂ K | .cont => Wl R d fm t b st₂ K | .brk => K .next st₂ | .ret v => K (.ret v) st₂
    | false => K .next st₁) : Wl R d fm t b st K :=
  fun A L s r ht P Rr k' => by
    refine codeAny_of_tree ?_
    rw [Around.under_of_weight rfl rfl]
    show wpAny _ A ((whileTurn t b [] fm.env).onRaise (fun x => do noteFrame x fm.env; theTreesLotGoes x)) _ _ s
    refine wpAny_noted ?_
    simp only [whileTurn]
    refine wpAny_bind (h.run r ht P fun c s₁ L₁ st₁ hk ht₁ P₁ g₁ _ => ?_)
    cases c with
    | false =>
      simp only [Bool.false_eq_true, if_false]
      exact wpAny_bind (wpAny_execs_nil (wpAny_pure (k' .next _ _ .next _ hk ht₁ P₁ trivial g₁)))
    | true =>
      simp only [if_true]
      refine wpAny_bind (Exs.run hk r ht₁ P₁ fun f s₂ L₂ o st₂ k₂ ht₂ P₂ hf₂ g₂ _ => ?_)
      have g := g₁.trans g₂ own_ok
      cases o <;> cases f <;> (try exact hf₂.elim)
      · exact wpAny_pure ⟨rfl, k₂ A L₂ s₂ r ht₂ P₂ Rr fun f s₃ L₃ o st₃ k₃ ht₃ P₃ hf₃ g₃ => k' _ _ _ _ _ k₃ ht₃ P₃ hf₃ (g.trans g₃ own_ok)⟩
      · exact wpAny_pure (k' .next _ _ .next _ k₂ ht₂ P₂ trivial g)
      · exact wpAny_pure ⟨rfl, k₂ A L₂ s₂ r ht₂ P₂ Rr fun f s₃ L₃ o st₃ k₃ ht₃ P₃ hf₃ g₃ => k' _ _ _ _ _ k₃ ht₃ P₃ hf₃ (g.trans g₃ own_ok)⟩
      · exact wpAny_pure (k' (.ret _) _ _ (.ret _) _ k₂ ht₂ P₂ hf₂ g)
theorem Ex.while {t : PySem.Expr} {b : List Stmt} {pos : Pos} {K : Out → St → Prop} (h : Wl R d fm t b st K) : Ex R d fm (.While t b [] pos) st K :=
  fun A L s r ht P Q E k' => wpAny_While (h A L s r ht P _ fun f s' L' o st' hk ht' P' hf g => k' _ _ _ _ _ hk P' hf g)
end

inductive AIt where
  | lst (n i : Nat)
  | rng (lo hi : Int)

noncomputable def AIt.At (L : List Addr) (h : Heap) (a : Addr) : AIt → Prop
  | .lst n i => ∃ l, L[n]? = some l ∧ h.IsListIter a l i
  | .rng lo hi => IsRangeIter h a lo (hi - lo) 1

structure IterAt (R : RT) (L : List Addr) (fm : Fm) (s : Shared) (it : AIt) (a : Addr) : Prop where
  old : R.h₀.get? a = none
  out : a ∉ L
  loc : a ≠ fm.env.locals
  at_ : it.At L s.heap a

section
variable {R : RT} {L L' : List Addr} {σ : Sto} {s s' : Shared} {d : Nat} {fm : Fm} {ρ : Loc} {st : St} {it : AIt} {a : Addr}

theorem IterAt.free (I : IterAt R L fm s it a) : ∀ o, s.heap.get? a = some o → ¬ Fixed o := fun o e => by
  have := I.at_
  cases it with
  | lst n i =>
    obtain ⟨l, _, o', e', hc, hd⟩ := this
    rw [e] at e'; cases e'
    rintro ⟨h | h | h | h, _⟩ <;> rw [hc] at h <;> simp at h
  | rng lo hi =>
    have this : s.heap.get? a = _ := this
    rw [e] at this; cases this
    rintro ⟨h | h | h | h, _⟩ <;> simp at h
theorem IterAt.obj (I : IterAt R L fm s it a) : ∃ o, s.heap.get? a = some o ∧ o.cls ≠ .none := by
  have := I.at_
  cases it with
  | lst n i => obtain ⟨l, _, o', e', hc, hd⟩ := this; exact ⟨o', e', by rw [hc]; simp⟩
  | rng lo hi => exact ⟨_, this, by simp⟩
theorem AIt.At.mono {h h' : Heap} (x : it.At L h a) (hL : L <+: L') (e : h'.get? a = h.get? a) : it.At L' h' a := by
  cases it with
  | lst n i => obtain ⟨l, h1, o, h2, r⟩ := x; exact ⟨l, getElem?_mono hL h1, o, e.trans h2, r⟩
  | rng lo hi => exact e.trans x
theorem IterAt.kept (I : IterAt R L fm s it a) (g : Grow L L' (own fm) s s') : IterAt R L' fm s' it a := by
  obtain ⟨o, e, hc⟩ := I.obj
  have hn : a ∉ own fm := by simp [own, I.loc]
  refine ⟨I.old, fun h => ?_, I.loc, I.at_.mono g.pre (((g.keep a o e I.out hn).cls hc).trans e.symm)⟩
  rcases g.fresh a h I.out with q | q
  · rw [e] at q; cases q
  · exact hn q

inductive ItNext (σ : Sto) : AIt → Option (AV × AIt) → Prop
  | lst_some {n i : Nat} {l : List AV} {v : AV} : σ n = some (.lst l) → l[i]? = some v → ItNext σ (.lst n i) (some (v, .lst n (i + 1)))
  | lst_none {n i : Nat} {l : List AV} : σ n = some (.lst l) → l.length ≤ i → ItNext σ (.lst n i) none
  | rng_some {lo hi : Int} : lo < hi → ItNext σ (.rng lo hi) (some (.int lo, .rng (lo + 1) hi))
  | rng_none {lo hi : Int} : hi ≤ lo → ItNext σ (.rng lo hi) none

/-- one turn's head -/
theorem next_run {A : Around} {r : Option (AV × AIt)} (hx : ItNext st.σ it r) (hr : Room d A) (ht : 0 < s.toks) (P : Rep R fm L st s) (I : IterAt R L fm s it a) {Q : Option Value → Shared → Prop} {E : Value → Shared → Prop}
    (k : match r with
      | none => ∀ s', 0 < s'.toks → Rep R fm L st s' → Grow L L (a :: own fm) s s' → Q none s'
      | some (v, it') => ∀ v' s', 0 < s'.toks → Rep R fm L st s' → IterAt R L fm s' it' a → VR L s'.heap v v' → Grow L L (a :: own fm) s s' → Q (some v') s') : wpAny R.M A (pyNext (.ref a)) Q E s := by
  have base : ∀ {h' : Heap} {tk : Nat}, Heap.ExtBut a s.heap h' → Rep R fm L st { s with heap := h', toks := tk } ∧ Grow L L (a :: own fm) s { s with heap := h', toks := tk } := fun {h' tk} hs =>
    ⟨⟨P.1.side (s' := { s with heap := h', toks := tk }) I.out I.old I.free hs rfl rfl, P.2.side (s' := { s with heap := h', toks := tk }) I.loc hs I.free⟩, Grow.side (s' := { s with heap := h', toks := tk }) hs rfl⟩
  refine with_pos ht fun E' => ?_
  cases hx with
  | @lst_some n i l v hn hi =>
    obtain ⟨b, hb, items, ⟨ep, px⟩, rx⟩ := P.1.at_ n _ hn
    obtain ⟨b', hb', hit⟩ := I.at_
    rw [hb] at hb'; cases hb'
    obtain ⟨v', e, hv⟩ := rx.get hi
    refine wpAny_pyNext_list_item hit (Heap.PlainList.isList ⟨ep, px⟩) (by rw [← Array.getElem?_toList]; exact e) fun h' hit' hs t' => ?_
    obtain ⟨P', g⟩ := base (tk := s.toks) hs.extBut
    exact k v' _ t' P' ⟨I.old, I.out, I.loc, _, hb, hit'⟩ (hv.mono (List.prefix_refl _) (Stays.sameBut hs I.free)) g
  | @lst_none n i l hn hi =>
    obtain ⟨b, hb, items, ⟨ep, px⟩, rx⟩ := P.1.at_ n _ hn
    obtain ⟨b', hb', hit⟩ := I.at_
    rw [hb] at hb'; cases hb'
    have hz : items.size = l.length := by rw [← rx.length, Array.length_toList]
    refine wpAny_pyNext_list_end hr.handled hit (Heap.PlainList.isList ⟨ep, px⟩) (by rw [Array.getElem?_eq_none_iff]; lia) fun h' hs t' => ?_
    obtain ⟨P', g⟩ := base (tk := s.toks) hs
    exact k _ t' P' g
  | @rng_some lo hi hlt =>
    refine wpAny_pyNext_range_item I.at_ (by lia) fun h' hit' hs t' => ?_
    obtain ⟨P', g⟩ := base (tk := s.toks + 1) hs.extBut
    exact k _ _ t' P' ⟨I.old, I.out, I.loc, by rw [show hi - lo - 1 = hi - (lo + 1) by lia] at hit'; exact hit'⟩ (.int _ _) g
  | @rng_none lo hi hle =>
    refine wpAny_pyNext_range_end hr.handled I.at_ (by lia) fun h' hs t' => ?_
    obtain ⟨P', g⟩ := base (tk := s.toks) hs
    exact k _ t' P' g

/-- the walk of a for -/
noncomputable def Fl (R : RT) (d : Nat) (fm : Fm) (t : PySem.Expr) (it : AIt) (b : List Stmt) (st : St) (K : Out → St → Prop) : Prop :=
  ∀ A L s a, Room d A → 0 < s.toks → Rep R fm L st s → IterAt R L fm s it a → ∀ (Rr : Result → Shared → Prop),
    (∀ f s' L' o st', K o st' → 0 < s'.toks → Rep R fm L' st' s' → FlowR L' s'.heap o f → Grow L L' (a :: own fm) s s' → Rr (.ok f) s') → codeAny R.M A (.forLoop t (.ref a) b [] fm.env) Rr s

theorem sub_own {x : Addr} {s : Shared} : ∀ a ∈ own fm, a ∈ x :: own fm ∨ s.heap.get? a = none := fun _ h => .inl (List.mem_cons_of_mem _ h)
theorem own_refl {l : List Addr} {s : Shared} : ∀ a ∈ l, a ∈ l ∨ s.heap.get? a = none := fun _ h => .inl h

theorem IterAt.kept' (I : IterAt R L fm s it a) {v : AV} (g : Grow L L' (own fm) s s') : IterAt R L' fm s' it a := I.kept g

theorem Fl.step {t : PySem.Expr} {b : List Stmt} {r : Option (AV × AIt)} {K : Out → St → Prop} (hx : ItNext st.σ it r)
    (h : match r with
      | none => K .next st
      | some (v, it') => Asg R d fm t v st fun st₁ => Exs R d fm b st₁ fun o st₂ => match o with | .next => Fl R d fm t it' b st₂ K | .cont => Fl R d fm t it' b st₂ K | .brk => K .next st₂ | .ret v => K (.ret v) st₂)
    (hl : ∀ it v, letOwnedTupleGo t it v = pure () := by intro _ _; with_unfolding_all rfl) : Fl R d fm t it b st K :=
  fun A L s a rm ht P I Rr k' => by
    refine codeAny_of_tree ?_
    rw [Around.under_of_weight rfl rfl]
    show wpAny _ A ((forTurn t (.ref a) b [] fm.env).onRaise (fun x => do noteFrame x fm.env; theTreesLotGoes x)) _ _ s
    refine wpAny_noted ?_
    simp only [forTurn]
    refine wpAny_bind (wpAny_standAt (wpAny_bind (wpAny_onRaise ?_)))
    refine next_run hx rm ht P I ?_
    cases r with
    | none =>
      intro s' t' P' g
      exact wpAny_pure ⟨rfl, codeAny_block (wpAny_execs_nil (k' .next _ _ .next _ h t' P' trivial g))⟩
    | some r =>
      obtain ⟨v, it'⟩ := r
      intro v' s₁ t₁ P₁ I₁ hv g₁
      refine wpAny_bind (wpAny_of_eq (hl _ _) ?_)
      have h : Asg R d fm t v st fun st₁ => Exs R d fm b st₁ fun o st₂ => match o with | .next => Fl R d fm t it' b st₂ K | .cont => Fl R d fm t it' b st₂ K | .brk => K .next st₂ | .ret v => K (.ret v) st₂ := h
      refine wpAny_bind (h.run rm t₁ P₁ hv fun s₂ L₂ st₂ k₂ t₂ P₂ g₂ _ => ?_)
      have I₂ := I₁.kept g₂
      have g12 := g₁.trans g₂ sub_own
      refine wpAny_bind (Exs.run k₂ rm t₂ P₂ fun f s₃ L₃ o st₃ k₃ t₃ P₃ hf g₃ _ => ?_)
      have I₃ := I₂.kept g₃
      have g13 := g12.trans g₃ sub_own
      cases o <;> cases f <;> (try exact hf.elim)
      · exact wpAny_pure ⟨rfl, k₃ A L₃ s₃ a rm t₃ P₃ I₃ Rr fun f s₄ L₄ o st₄ k₄ t₄ P₄ hf₄ g₄ => k' _ _ _ _ _ k₄ t₄ P₄ hf₄ (g13.trans g₄ own_refl)⟩
      · exact wpAny_pure (k' .next _ _ .next _ k₃ t₃ P₃ trivial g13)
      · exact wpAny_pure ⟨rfl, k₃ A L₃ s₃ a rm t₃ P₃ I₃ Rr fun f s₄ L₄ o st₄ k₄ t₄ P₄ hf₄ g₄ => k' _ _ _ _ _ k₄ t₄ P₄ hf₄ (g13.trans g₄ own_refl)⟩
      · exact wpAny_pure (k' (.ret _) _ _ (.ret _) _ k₃ t₃ P₃ hf g13)

/-- what an iterable value gives -/
inductive IterOf (σ : Sto) : AV → AIt → Prop
  | lst {n : Nat} {l : List AV} : σ n = some (.lst l) → IterOf σ (.lst n) (.lst n 0)
  | rng {lo hi : Int} : -1048576 ≤ lo → lo < 1048576 → -1048576 ≤ hi → hi < 1048576 → lo ≤ hi → IterOf σ (.rng lo hi) (.rng lo hi)

theorem iter_run {A : Around} {v : AV} {v' : Value} (hi : IterOf st.σ v it) (hr : Room d A) (ht : 0 < s.toks) (P : Rep R fm L st s) (hv : VR L s.heap v v') {Q : Value → Shared → Prop} {E : Value → Shared → Prop}
    (k : ∀ a s', 0 < s'.toks → Rep R fm L st s' → IterAt R L fm s' it a → Grow L L [] s s' → s.heap.get? a = none → Q (.ref a) s') : wpAny R.M A (pyIter v') Q E s := by
  have hp : ∀ {o : Obj}, ∀ b o', s.heap.get? b = some o' → (s.heap.push o).get? b = some o' := fun {o} b o' e => Heap.get?_push_of_some _ e
  have nl : s.heap.objs.size ≠ fm.env.locals := fun q => by
    obtain ⟨o, e, _⟩ := P.2.loc
    rw [← q, get_size_none] at e; cases e
  cases hi with
  | @lst n l hn =>
    obtain ⟨b, items, rfl, hL, px, rx, zx⟩ := P.1.lst hn hv
    refine wpAny_pyIter_list px.isList ?_
    exact k _ _ ht (P.more (tk := s.toks) hp) ⟨P.1.fresh_old (get_size_none _), P.1.fresh_out (get_size_none _), nl, _, hL, _, Heap.get?_push_size _ rfl, rfl, rfl⟩ (Grow.more (tk := s.toks) hp) (get_size_none _)
  | @rng lo hi h1 h2 h3 h4 h5 =>
    cases hv with | rng ho =>
    refine wpAny_pyIter_range ho (small_one (by lia) (by lia) (by lia) (by lia)) ?_
    refine k _ _ ht (P.more (tk := s.toks) hp) ⟨P.1.fresh_old (get_size_none _), P.1.fresh_out (get_size_none _), nl, ?_⟩ (Grow.more (tk := s.toks) hp) (get_size_none _)
    show (s.heap.push _).get? s.heap.objs.size = _
    rw [Heap.get?_push_size _ rfl, rangeSize_one]
    have : (if lo < hi then hi - lo else 0) = hi - lo := by split <;> lia
    rw [this]

theorem Ex.for {t e : PySem.Expr} {b : List Stmt} {pos : Pos} {K : Out → St → Prop} (h : Ev R d fm e st fun v st₁ => ∃ it, IterOf st₁.σ v it ∧ Fl R d fm t it b st₁ K)
    (hs : ∀ env x, foldedSetIterable e env x = pure x := by intro _ _; with_unfolding_all rfl) : Ex R d fm (.For t e b [] pos) st K :=
  fun A L s r ht P Q E k' => wpAny_For (hs := hs _) (h.run r ht P fun v' s₁ L₁ v st₁ hk t₁ P₁ hv g₁ _ => by
    obtain ⟨it, hi, hk⟩ := hk
    refine iter_run hi r t₁ P₁ hv fun a s₂ t₂ P₂ I₂ g₂ ha => ?_
    refine hk A L₁ s₂ a r t₂ P₂ I₂ _ fun f s₃ L₃ o st₃ k₃ t₃ P₃ hf g₃ => ?_
    have := (g₂.weaken (own' := a :: own fm) own_nil).trans g₃ own_refl
    exact k' _ _ _ _ _ k₃ P₃ hf (g₁.trans (this.weaken (own' := own fm) fun x hx => by
      rcases List.mem_cons.mp hx with rfl | h
      · exact .inr ha
      · exact .inl h) own_ok))

/-- targets -/
theorem Asg.name {x : Str} {p : Pos} {v : AV} {st' : St} {K : St → Prop} (b : Bind fm x v st st') (k : K st') : Asg R d fm (.Name x p) v st K :=
  fun A L s v' r ht P hv Q E k' => wpAny_assign_Name (store_bind b P hv fun s' P' g => k' _ _ _ k P' g)

theorem Calls.range1 {n : Int} {K : AV → Sto → Prop} (k : K (.rng 0 n) σ) : Calls R d (ty "range") [.int n] [] σ K :=
  fun A L s f' args' kv' r ht H hf ha hkw Q E k' => by
    obtain rfl := hf.raw_inv
    cases hkw
    obtain ⟨_, rfl, h1⟩ := ha.one
    obtain ⟨t, rfl⟩ := h1.int_inv
    have hp : ∀ {o : Obj}, ∀ b o', s.heap.get? b = some o' → (s.heap.push o).get? b = some o' := fun {o} b o' e => Heap.get?_push_of_some _ e
    exact call_range_1 (k' _ _ _ _ _ k (H.more (tk := s.toks + 1 + 1) hp) (.rng (IsRange.new ..)) (Grow.more (tk := s.toks + 1 + 1) hp))
theorem Calls.range2 {n m : Int} {K : AV → Sto → Prop} (k : K (.rng n m) σ) : Calls R d (ty "range") [.int n, .int m] [] σ K :=
  fun A L s f' args' kv' r ht H hf ha hkw Q E k' => by
    obtain rfl := hf.raw_inv
    cases hkw
    obtain ⟨_, _, rfl, h1, h2⟩ := ha.two
    obtain ⟨t, rfl⟩ := h1.int_inv
    obtain ⟨u, rfl⟩ := h2.int_inv
    have hp : ∀ {o : Obj}, ∀ b o', s.heap.get? b = some o' → (s.heap.push o).get? b = some o' := fun {o} b o' e => Heap.get?_push_of_some _ e
    exact call_range_2 (k' _ _ _ _ _ k (H.more (tk := s.toks + 1) hp) (.rng (IsRange.new ..)) (Grow.more (tk := s.toks + 1) hp))
end

theorem join_len (sep : Str) (B : Nat) : ∀ l : List Str, (∀ y ∈ l, y.length ≤ B) → (Str.join sep l).length ≤ l.length * B + l.length * sep.length
  | [], _ => by simp [Str.join, Str.empty, Str.length]
  | [x], h => by have := h x (by simp); simp [Str.join]; lia
  | x :: y :: r, h => by
    have h1 := h x (by simp)
    have h2 := join_len sep B (y :: r) fun z hz => h z (List.mem_cons_of_mem _ hz)
    show (x ++ sep ++ Str.join sep (y :: r)).length ≤ _
    rw [strLen_append, strLen_append, List.length_cons (a := x), Nat.succ_mul, Nat.succ_mul]
    lia

section
variable {R : RT} {L L' : List Addr} {σ : Sto} {s s' : Shared} {d : Nat} {fm : Fm} {ρ : Loc} {st : St} {A : Around}

theorem Calls.join {n : Nat} {l : List Str} {sep : Str} {B : Nat} {K : AV → Sto → Prop} (hn : σ n = some (.lst (strL l))) (hB : ∀ y ∈ l, y.length ≤ B) (hz : l.length * B + l.length * sep.length ≤ 16777216) (k : K (.str (Str.join sep l)) σ) (hd : 2 ≤ d) :
    Calls R d (bi "str.join") [.str sep, .lst n] [] σ K :=
  Calls.give k (fun A L s args' hu hh H ha Q E k' => by
    obtain ⟨_, _, rfl, h1, h2⟩ := ha.two
    obtain ⟨t, rfl⟩ := h1.str_inv
    obtain ⟨a, items, rfl, hL, px, rx, zx⟩ := H.lst hn h2
    obtain ⟨ps, e, rfl⟩ := strs_vals rx
    have ei : items = (strValues ps).toArray := by rw [← e]
    have hj := StrLaws.joinFits (sep := sep) hB hz
    refine call_meets F.slot_str_join (typeIs_str _ _ _) F.entry_str_join (F.args_str_join_2 _ _) (meets_str_join_list sep t a ps hj) ⟨ei ▸ px.isList, ?_⟩
    match ps, k', hz, hB with
    | [], k', _, _ => exact ⟨by show (0 : Nat) ≤ _; exact Nat.zero_le _, k' _ s.heap _ (.str _ _) fun _ _ e => e⟩
    | [p], k', _, _ => exact k' _ s.heap s.toks (.str _ _) fun _ _ e => e
    | p :: q :: r, k', hz, hB =>
      have hl := join_len sep B _ hB
      rw [← StrLaws.glued_eq_join] at hl k'
      exact ⟨by rw [sizeLine_eq]; exact Nat.le_trans hl hz, k' _ s.heap _ (.str _ _) fun _ _ e => e⟩) hd

/-- methods of lists and texts -/
inductive Meth : AV → Str → String → Prop
  | append {n} : Meth (.lst n) "append" "list.append"
  | insert {n} : Meth (.lst n) "insert" "list.insert"
  | pop {n} : Meth (.lst n) "pop" "list.pop"
  | index {n} : Meth (.lst n) "index" "list.index"
  | join {x} : Meth (.str x) "join" "str.join"

theorem getMeth {M : Model} {v : AV} {v' : Value} {name : Str} {id : String} {pl : Sem Bool} (m : Meth v name id) (H : HR R L σ s) (hc : ∀ n, v = .lst n → ∃ l, σ n = some (.lst l)) (hv : VR L s.heap v v') {Q : Value × List Value → Shared → Prop} {E : Value → Shared → Prop}
    (k : Q (.builtin id, [v']) s) : wpAny M A (getMethod v' name pl) Q E s := by
  have lst : ∀ {n : Nat} {name : Str} {id : String}, v = .lst n → Slot "list" name id → typeOf (.builtin id) = pure (.type "method_descriptor") → Q (.builtin id, [v']) s → wpAny M A (getMethod v' name pl) Q E s := fun {n name id} e slot ty k => by
    subst e
    obtain ⟨l, hn⟩ := hc n rfl
    obtain ⟨a, items, rfl, hL, ⟨ep, px⟩, rx, zx⟩ := H.lst hn hv
    exact getMethod_builtin ⟨_, px, rfl⟩ F.plainAttrs_list slot ty (fun a' e => by cases e; exact ⟨_, px, rfl⟩) k
  cases m with
  | append => exact lst rfl F.slot_list_append F.type_list_append k
  | insert => exact lst rfl F.slot_list_insert F.type_list_insert k
  | pop => exact lst rfl F.slot_list_pop F.type_list_pop k
  | index => exact lst rfl F.slot_list_index F.type_list_index k
  | join => obtain ⟨t, rfl⟩ := hv.str_inv; exact getMethod_builtin (typeIs_str _ _ _) F.plainAttrs_str F.slot_str_join F.type_str_join (fun _ e => nomatch e) k

theorem Ev.meth {o : PySem.Expr} {name : Str} {apos pos : Pos} {es : List PySem.Expr} {id : String} {pl : Env → Sem Bool} {K : AV → St → Prop}
    (h : Ev R d fm o st fun v st₁ => Meth v name id ∧ (∀ n, v = .lst n → ∃ l, st₁.σ n = some (.lst l)) ∧ Evs R d fm es st₁ fun vs st₂ => Calls R d (bi id) (v :: vs) [] st₂.σ fun r σ' => K r ⟨st₂.ρ, σ'⟩)
    (hp : ∀ pos env, (backTo pos (starEach es env)).any (·.1) = false := by intro _ _; with_unfolding_all rfl)
    (he : ∀ env, eval (.Call (.Attribute o name apos) es [] pos) env = (do
      let ov ← eval o env
      standAt apos.atName
      let (f, first) ← holding [ov] (getMethod ov name (pl env))
      callWith pos f first (backTo pos (starEach es env)) (backToKw pos (keywordEach [] env))) := by intro _; with_unfolding_all rfl) : Ev R d fm (.Call (.Attribute o name apos) es [] pos) st K :=
  fun A L s r ht P Q E k => by
    rw [he]
    refine wpAny_bind (h.run r ht P fun v' s₁ L₁ v st₁ hk ht₁ P₁ hv g₁ _ => wpAny_bind (wpAny_standAt (wpAny_bind (wpAny_holding ?_))))
    refine getMeth hk.1 P₁.1 hk.2.1 hv ?_
    refine Calls.callWith_builtin (hp _ _) (evalArgs_any (hp _ _) (hk.2.2 A L₁ s₁ pos r ht₁ P₁ _ _ fun vs' s₂ L₂ vs st₂ k₂ ht₂ P₂ hvs g₂ => ?_))
    exact k₂.run (kv' := []) r ht₂ P₂ (.raw _) (.cons (hv.mono g₂.pre (P₁.stays g₂)) hvs) .nil fun r' s₃ L₃ r σ' hk ht₃ P₃ hv g₃ => k _ _ _ _ _ hk P₃ hv ((g₁.trans g₂ own_ok).trans g₃ own_ok)

theorem Ev.replace {o : PySem.Expr} {apos pos p1 p2 : Pos} {n1 n2 : Nat} {y z : Str} {pl : Env → Sem Bool} {K : AV → St → Prop}
    (h : Ev R d fm o st fun v st₁ => ∃ x, v = .str x ∧ (y == z) = false ∧ x.length + (x.length + 1) * z.length ≤ 16777216 ∧ K (.str (Txt.replace x y z)) st₁)
    (he : ∀ env, eval (.Call (.Attribute o "replace" apos) [.Constant (.str y) n1 p1, .Constant (.str z) n2 p2] [] pos) env = (do
      let ov ← eval o env
      standAt apos.atName
      let (f, first) ← holding [ov] (getMethod ov "replace" (pl env))
      callWith pos f first (backTo pos (starEach [.Constant (.str y) n1 p1, .Constant (.str z) n2 p2] env)) (backToKw pos (keywordEach [] env))) := by intro _; with_unfolding_all rfl) : Ev R d fm (.Call (.Attribute o "replace" apos) [.Constant (.str y) n1 p1, .Constant (.str z) n2 p2] [] pos) st K :=
  fun A L s r ht P Q E k => by
    rw [he]
    refine wpAny_bind (h.run r ht P fun v' s₁ L₁ v st₁ hk ht₁ P₁ hv g₁ _ => wpAny_bind (wpAny_standAt (wpAny_bind (wpAny_holding ?_))))
    obtain ⟨x, rfl, hyz, hb, hk⟩ := hk
    obtain ⟨t, rfl⟩ := hv.str_inv
    refine getMethod_builtin (typeIs_str _ _ _) F.plainAttrs_str F.slot_str_replace F.type_str_replace (fun _ e => nomatch e) ?_
    refine Calls.callWith_builtin rfl (evalArgs_any rfl (wpAny_items_cons (wpAny_Constant_str (wpAny_items_cons (wpAny_Constant_str (wpAny_items_nil ?_))))))
    refine SC.replace (u := s₁.toks) (v := s₁.toks + 1) (Nat.ne_of_gt ht₁) (Nat.succ_ne_zero _) (Nat.ne_of_lt (Nat.lt_succ_self _)) hyz hb fun t' tk => ?_
    exact k _ _ _ _ _ hk (P₁.tok (tk := tk)) (.str _ _) (g₁.trans (Grow.tok (tk := tk)) own_ok)
end

theorem fm_map {α β : Type} {f : α → Option β} {g : α → β} : ∀ l : List α, (∀ x ∈ l, f x = some (g x)) → l.filterMap f = l.map g
  | [], _ => rfl
  | x :: l, h => by rw [List.filterMap_cons_some (h x (.head _)), fm_map l fun y hy => h y (.tail _ hy)]; rfl
theorem back_all (xs : Array Value) : (List.range xs.size).filterMap (xs[·]?) = xs.toList := by
  rw [fm_map (g := fun k => xs.getD k .none) _ fun k hk => by have h := List.mem_range.mp hk; simp [h]]
  refine List.ext_getElem (by simp) fun i h1 h2 => ?_
  have h : i < xs.size := by simpa using h2
  simp [h]
theorem back_range (n : Nat) : sliceRange ((n : Int) - 1) (-1) (-1) = (List.range n).reverse := by
  unfold sliceRange
  rw [if_neg (by decide)]
  cases n with
  | zero => rfl
  | succ m =>
    have e : ((((m + 1 : Nat) : Int) - 1 - -1 - -1 - 1) / (- -1)).toNat = m + 1 := by
      rw [show (- -1 : Int) = 1 by decide, Int.ediv_one]; lia
    rw [if_pos (by lia)]
    dsimp only
    rw [e]
    refine List.ext_getElem (by simp) fun i h1 h2 => ?_
    have h : i < m + 1 := by simpa using h2
    rw [List.getElem_map, List.getElem_reverse, List.getElem_range, List.getElem_range, List.length_range]
    lia
theorem back_pick (items : Array Value) : slicePick items none none (some (-1)) = items.toList.reverse.toArray := by
  unfold slicePick
  have hb : sliceBounds none none (some (-1)) items.size = ((items.size : Int) - 1, -1, -1) := by rfl
  rw [hb]
  show ((sliceRange ((items.size : Int) - 1) (-1) (-1)).filterMap (items[·]?)).toArray = _
  rw [back_range, List.filterMap_reverse, back_all]

section
variable {R : RT} {L L' : List Addr} {σ : Sto} {s s' : Shared} {d : Nat} {fm : Fm} {ρ : Loc} {st : St} {A : Around}

theorem Ev.sub {e i : PySem.Expr} {pos : Pos} {K : AV → St → Prop} (hd : 2 ≤ d)
    (h : Ev R d fm e st fun o st₁ => Ev R d fm i st₁ fun iv st₂ => (∃ n l, o = .lst n ∧ st₂.σ n = some (.lst l)) ∧ Opr R (op2 PySem.getItem) [o, iv] st₂.σ fun v σ' => K v ⟨st₂.ρ, σ'⟩)
    (hs : ∀ o v, subscripted i false o v = operate [o, v] (getItem o v) := by intro _ _; with_unfolding_all rfl) : Ev R d fm (.Subscript e i pos) st K :=
  fun A L s r ht P Q E k => by
    rw [eval_Subscript]
    refine wpAny_bind (h.run r ht P fun o' s₁ L₁ o st₁ h₁ ht₁ P₁ ho g₁ _ => wpAny_bind (wpAny_holding (h₁.run r ht₁ P₁ fun i' s₂ L₂ i st₂ h₂ ht₂ P₂ hi g₂ sg₂ => wpAny_bind (wpAny_standAt ?_))))
    obtain ⟨⟨n, l, rfl, hn⟩, h₂⟩ := h₂
    have ho₂ := ho.mono g₂.pre sg₂
    obtain ⟨a, items, rfl, hL, ⟨ep, px⟩, rx, zx⟩ := P₂.1.lst hn ho₂
    refine wpAny_bind ?_
    rw [getitemInPython_of_ne (by simp)]
    refine wpAny_bind (wpAny_specialOf (T := "list") ⟨_, px, rfl⟩ slot_list_getitem.lookup (wpAny_pure (wpAny_bind ?_)))
    rw [hs]
    refine wpAny_operating ?_
    exact h₂.run (args' := [.ref a, i']) (r.less hd) ht₂ P₂ (.cons ho₂ (.cons hi .nil)) fun v' s₃ L₃ v σ' hk ht₃ P₃ hv g₃ =>
      wpAny_bind (wpAny_letTemporaryGo (wpAny_pure (k _ _ _ _ _ hk P₃ hv ((g₁.trans g₂ own_ok).trans g₃ own_ok))))

/-- a store into a list, the object told whole -/
theorem setItem_plain {E : Value → Shared → Prop} {prog : Program} {w : World} {a : Addr} {items : Array Value} {ep : Nat} {z : Int} {t : Tok} {v : Value} {Q : Unit → Shared → Prop} (hl : IsL s.heap a items ep) (h0 : 0 ≤ z) (hj : z < items.size) (hb : items.size < 1048577)
    (k : Q () { s with heap := s.heap.update a (Obj.mapSeq (·.setIfInBounds z.toNat v)) }) : wpAny (model prog w) A (setItem (.ref a) (.int z t) v) Q E s := by
  have hT : s.TypeIs (.ref a) "list" := ⟨_, hl, rfl⟩
  have hfit : Builtin.List.listFitsIndex z = true := fitsIndex_of h0 (by lia)
  unfold setItem
  try with_reducible refine wpAny_holding ?_
  first | refine wpAny_bind (wpAny_pure ?_) | skip
  refine wpAny_bind (wpAny_sequenceKey hT (by decide) ?_)
  refine wpAny_bind (wpAny_callSpecial?_slot (name := Str.ofString "__setitem__") hT slot_list_setitem (wpAny_call_entry slot_list_setitem hT entry_list_setitem ?_ (args_list_setitem _ _ _)))
  show wpAny _ _ (Builtin.List.listSubscript? (.int z t) >>= _) _ _ s
  refine wpAny_bind (wpAny_listSubscript_int hfit ?_)
  clear hfit
  obtain ⟨j, rfl⟩ := Int.eq_ofNat_of_zero_le h0
  have hj' : j < items.size := by lia
  have hx : items[j]? = some items[j] := Array.getElem?_eq_getElem hj'
  show wpAny _ _ ((seqItemAt a j >>= fun r => pure (r.map (j, ·))) >>= _) _ _ s
  refine wpAny_bind (wpAny_bind (wpAny_seqItemAt hl rfl (wpAny_pure ?_)))
  rw [hx]
  show wpAny _ _ (setSeqItemAt a j v >>= _) _ _ s
  refine wpAny_bind (wpAny_setSeqItemAt hl rfl ?_)
  first
    | exact wpAny_bind (wpAny_pure (wpAny_pure ⟨.none, rfl, wpAny_pure k⟩))
    | exact wpAny_pure ⟨.none, rfl, wpAny_pure k⟩

theorem Ex.assign_sub {o i e : PySem.Expr} {p pos : Pos} {K : Out → St → Prop}
    (h : Ev R d fm e st fun v st₁ => Ev R d fm o st₁ fun ov st₂ => Ev R d fm i st₂ fun iv st₃ => ∃ n l j, ov = .lst n ∧ iv = .int j ∧ 0 ≤ j ∧ st₃.σ n = some (.lst l) ∧ j < l.length ∧ l.length < 1048576 ∧ K .next ⟨st₃.ρ, st₃.σ.upd n (.lst (l.set j.toNat v))⟩)
    (hs : ∀ env, swapsWith e (some (.Subscript o i p)) pos.line env = pure false := by intro _; with_unfolding_all rfl) : Ex R d fm (.Assign [.Subscript o i p] e pos) st K :=
  fun A L s r ht P Q E k => wpAny_Assign_Subscript (hs := hs _) (h.run r ht P fun v' s₁ L₁ v st₁ h₁ t₁ P₁ hv g₁ _ => h₁.run r t₁ P₁ fun o' s₂ L₂ ov st₂ h₂ t₂ P₂ ho g₂ sg₂ => h₂.run r t₂ P₂ fun i' s₃ L₃ iv st₃ h₃ t₃ P₃ hi g₃ sg₃ => by
    obtain ⟨n, l, j, rfl, rfl, h0, hn, hj, hl, hk⟩ := h₃
    obtain ⟨t, rfl⟩ := hi.int_inv
    obtain ⟨a, items, rfl, hL, ⟨ep, px⟩, rx, zx⟩ := P₃.1.lst hn (ho.mono g₃.pre sg₃)
    have hv₃ := (hv.mono g₂.pre sg₂).mono g₃.pre sg₃
    refine setItem_plain px h0 (by rw [zx]; exact hj) (by lia) ?_
    have hs' : Heap.SameBut a s₃.heap (s₃.heap.update a (Obj.mapSeq (·.setIfInBounds j.toNat v'))) := .update ..
    have st' : Stays s₃.heap (s₃.heap.update a (Obj.mapSeq (·.setIfInBounds j.toNat v'))) := Stays.sameBut hs' fun o e => by rw [px] at e; cases e; exact not_fixed_list (.inl rfl)
    have pl : (s₃.heap.update a (Obj.mapSeq (·.setIfInBounds j.toNat v'))).PlainList a (items.setIfInBounds j.toNat v') := ⟨_, IsL.update px _⟩
    have W := P₃.1.write (s' := { s₃ with heap := s₃.heap.update a (Obj.mapSeq (·.setIfInBounds j.toNat v')) }) (c := .lst (l.set j.toNat v)) hL hs' rfl rfl ⟨_, pl, by
      rw [Array.toList_setIfInBounds]; exact (rx.set j.toNat hv₃).mono (List.prefix_refl _) st'⟩
    have g : Grow L₃ L₃ [] s₃ { s₃ with heap := s₃.heap.update a (Obj.mapSeq (·.setIfInBounds j.toNat v')) } := Grow.write (List.mem_of_getElem? hL) ⟨_, pl.isList.choose_spec.1⟩ hs' rfl
    exact k .next _ _ .next _ hk ⟨W, P₃.2.kept P₃.1 g⟩ trivial (((g₁.trans g₂ own_ok).trans g₃ own_ok).trans g own_nil))

/-- a part of a slice -/
noncomputable def EvP (R : RT) (d : Nat) (fm : Fm) (x : Option PySem.Expr) (st : St) (K : Option Int → St → Prop) : Prop := match x with
  | none => K none st
  | some e => Ev R d fm e st fun v st' => ∃ i, v = .int i ∧ K (some i) st'

theorem evalPart_run {x : Option PySem.Expr} {K : Option Int → St → Prop} (h : EvP R d fm x st K) (r : Room d A) (ht : 0 < s.toks) (P : Rep R fm L st s) {Q : Value → Shared → Prop} {E : Value → Shared → Prop}
    (k : ∀ (p : Option (Int × Tok)) s' L' st', K (p.map (·.1)) st' → 0 < s'.toks → Rep R fm L' st' s' → Grow L L' (own fm) s s' → Stays s.heap s'.heap → Q (partValue p) s') : wpAny R.M A (evalPart x fm.env) Q E s := by
  cases x with
  | none => rw [evalPart_none]; exact wpAny_pure (k none s L st h ht P (Grow.refl ..) (.refl _))
  | some e =>
    rw [evalPart_some]
    refine Ev.run (h : Ev R d fm e st _) r ht P fun v' s₁ L₁ v st₁ hk ht₁ P₁ hv g₁ sg => ?_
    obtain ⟨i, rfl, hk⟩ := hk
    obtain ⟨t, rfl⟩ := hv.int_inv
    exact k (some (i, t)) s₁ L₁ st₁ hk ht₁ P₁ g₁ sg

theorem isPart_of : ∀ p : Option (Int × Tok), IsPart (partValue p) (p.map (·.1))
  | none => .none
  | some (i, t) => .int i t

noncomputable def sliceL (lo hi : Option Int) (l : List AV) : List AV := (l.drop (lo.elim 0 (clipAt l.length))).take (hi.elim l.length (clipAt l.length) - lo.elim 0 (clipAt l.length))

theorem Ev.slice {e : PySem.Expr} {lo hi : Option PySem.Expr} {p pos : Pos} {K : AV → St → Prop}
    (h : Ev R d fm e st fun o st₁ => EvP R d fm lo st₁ fun a st₂ => EvP R d fm hi st₂ fun b st₃ => ∃ n l, o = .lst n ∧ st₃.σ n = some (.lst l) ∧ l.length < 1048576 ∧ ∀ m, st₃.σ m = Option.none → K (.lst m) ⟨st₃.ρ, st₃.σ.upd m (.lst (sliceL a b l))⟩)
    (hl : ∀ o r, letTemporaryGo e o r = pure () := by intro _ _; with_unfolding_all rfl) : Ev R d fm (.Subscript e (.Slice lo hi none p) pos) st K :=
  fun A L s r ht P Q E k => wpAny_Subscript_list_slice (ht := hl) (h.run r ht P fun o' s₁ L₁ o st₁ h₁ t₁ P₁ ho g₁ _ => evalPart_run h₁ r t₁ P₁ fun p s₂ L₂ st₂ h₂ t₂ P₂ g₂ sg₂ => evalPart_run h₂ r t₂ P₂ fun q s₃ L₃ st₃ h₃ t₃ P₃ g₃ sg₃ => by
    obtain ⟨n, l, rfl, hn, hlen, hk⟩ := h₃
    obtain ⟨a, items, rfl, hL, px, rx, zx⟩ := P₃.1.lst hn ((ho.mono g₂.pre sg₂).mono g₃.pre sg₃)
    refine ⟨a, items, _, _, rfl, px.isList, by rw [sizeLine_eq, zx]; lia, isPart_of p, isPart_of q, ?_⟩
    have hp : ∀ {o : Obj}, ∀ b o', s₃.heap.get? b = some o' → (s₃.heap.push o).get? b = some o' := fun {o} b o' e => Heap.get?_push_of_some _ e
    have P₄ := P₃.more (tk := s₃.toks) (hp (o := { cls := .type "slice", data := .fields #[partValue p, partValue q, .none] }))
    have e : s₃.heap.objs.size + 1 = (s₃.heap.push { cls := .type "slice", data := .fields #[partValue p, partValue q, .none] }).objs.size := (Heap.size_push ..).symm
    have N := P₄.newList (tk := s₃.toks) (items := slicePick items (p.map (·.1)) (q.map (·.1)) none) (l := sliceL (p.map (·.1)) (q.map (·.1)) l) (h' := (s₃.heap.push { cls := .type "slice", data := .fields #[partValue p, partValue q, .none] }).push { cls := .type "list", data := .seq (slicePick items (p.map (·.1)) (q.map (·.1)) none) })
      (fun b o e => Heap.get?_push_of_some _ e) (get_size_none _) ⟨0, Heap.get?_push_size _ rfl⟩ (by
        rw [slicePick_plain, List.toList_toArray, zx]
        exact ((rx.mono (List.prefix_refl _) (.of_keep hp)).drop _).take _)
    have g4 : Grow L₃ L₃ (own fm) s₃ _ := Grow.more (tk := s₃.toks) (hp (o := { cls := .type "slice", data := .fields #[partValue p, partValue q, .none] }))
    rw [e]
    exact k _ _ _ _ _ (hk _ P₃.1.free) N.1 N.2.1 ((((g₁.trans g₂ own_ok).trans g₃ own_ok).trans g4 own_ok).trans N.2.2 own_ok))

theorem Ev.reversed {e : PySem.Expr} {p pos p1 p2 : Pos} {c : Nat} {K : AV → St → Prop}
    (h : Ev R d fm e st fun o st₁ => ∃ n l, o = .lst n ∧ st₁.σ n = some (.lst l) ∧ l.length < 1048576 ∧ ∀ m, st₁.σ m = Option.none → K (.lst m) ⟨st₁.ρ, st₁.σ.upd m (.lst l.reverse)⟩)
    (hl : ∀ o r, letTemporaryGo e o r = pure () := by intro _ _; with_unfolding_all rfl) : Ev R d fm (.Subscript e (.Slice none none (some (.UnaryOp .USub (.Constant (.int 1) c p1) p2)) p) pos) st K :=
  fun A L s r ht P Q E k => wpAny_Subscript_Slice_step (T := "list") (ht := hl) list_getitem_lookup (h.run r ht P fun o' s₁ L₁ o st₁ h₁ t₁ P₁ ho g₁ _ => wpAny_Slice (by
    rw [evalPart_none, evalPart_some]
    refine wpAny_pure ?_
    refine wpAny_pure ?_
    refine wpAny_UnaryOp (wpAny_Constant_int (PyProof.Rows.neg_int ?_))
    obtain ⟨n, l, rfl, hn, hlen, hk⟩ := h₁
    obtain ⟨a, items, rfl, hL, px, rx, zx⟩ := P₁.1.lst hn ho
    have hp : ∀ {o : Obj}, ∀ b o', s₁.heap.get? b = some o' → (s₁.heap.push o).get? b = some o' := fun {o} b o' e => Heap.get?_push_of_some _ e
    refine ⟨(px.isList.push _).typeIs, wpAny_getItem_list_slice (px.isList.push _) (Heap.IsSliceOf.new ..) .none .none (.int _ _) (by simp) ?_ (by rw [sizeLine_eq, zx]; lia)⟩
    have P₂ := P₁.more (tk := s₁.toks + 1 + 1) (hp (o := { cls := .type "slice", data := .fields #[.none, .none, .int (-1) (s₁.toks + 1)] }))
    have N := P₂.newList (tk := s₁.toks + 1 + 1) (items := slicePick items none none (some (-1))) (l := l.reverse) (h' := (s₁.heap.push { cls := .type "slice", data := .fields #[.none, .none, .int (-1) (s₁.toks + 1)] }).push { cls := .type "list", data := .seq (slicePick items none none (some (-1))) })
      (fun b o e => Heap.get?_push_of_some _ e) (get_size_none _) ⟨0, Heap.get?_push_size _ rfl⟩ (by
        rw [back_pick, List.toList_toArray]
        exact (rx.mono (List.prefix_refl _) (.of_keep hp)).reverse)
    have g4 : Grow L₁ L₁ (own fm) s₁ _ := Grow.more (tk := s₁.toks + 1 + 1) (hp (o := { cls := .type "slice", data := .fields #[.none, .none, .int (-1) (s₁.toks + 1)] }))
    exact k _ _ _ _ _ (hk _ P₁.1.free) N.1 N.2.1 ((g₁.trans g4 own_ok).trans N.2.2 own_ok)))

noncomputable def strSlice (x : Str) (a b : Nat) : Str := ⟨((x.cps.toList.drop a).take (b - a)).toArray⟩

theorem slice_str_post {x : Str} {t : Tok} {p q : Option (Int × Tok)} {a b : Nat} (ha : p.map (·.1) = some (a : Int)) (hb : (q.map (·.1) = some (b : Int)) ∨ (q = none ∧ b = x.length)) (hab : a ≤ b) (hbl : b ≤ x.length) (hx : x.length ≤ 16777216)
    {Q : Value → Shared → Prop} {s : Shared} (k : ∀ t' tk, Q (.str (strSlice x a b) t') { s with toks := tk }) : (sliceMade x t p q none).post Q s := by
  have e : slicePicked x p q none = (List.range (b - a)).map (fun k => a + k) := by
    unfold slicePicked
    rw [ha]
    rcases hb with hb | ⟨rfl, rfl⟩
    · rw [hb]; exact StrLaws.strSliceIndices_plain hab hbl
    · show Builtin.Str.strSliceIndices (some (a : Int)) none 1 x.length = _
      rw [← StrLaws.strSliceIndices_plain hab (Nat.le_refl _)]
      unfold Builtin.Str.strSliceIndices
      have h2 : ¬ ((x.length : Int) < 0) := by lia
      simp [h2]
  have e2 : (((List.range (b - a)).map (fun k => a + k)).filterMap (x.cps[·]?)) = (x.cps.toList.drop a).take (b - a) := by
    have h := StrLaws.picks x.cps.toList (b - a) a (by simp [Str.length] at hbl ⊢; lia)
    simpa using h
  have len : ((x.cps.toList.drop a).take (b - a)).length = b - a := by
    simp [Str.length] at hbl ⊢; lia
  unfold sliceMade
  rw [e, e2]
  split
  · rename_i hc
    simp at hc
    have h0 : a = 0 ∧ b = x.length := by lia
    obtain ⟨rfl, rfl⟩ := h0
    have : strSlice x 0 x.length = x := by
      unfold strSlice
      have hz : x.length = x.cps.toList.length := by simp [Str.length]
      cases x with | mk cps =>
        simp only [List.drop_zero, Nat.sub_zero, Str.length]
        rw [List.take_of_length_le (by simp)]
    have k' := k t s.toks
    rw [this] at k'
    exact k'
  · exact ⟨by
      show ((x.cps.toList.drop a).take (b - a)).toArray.size ≤ _
      rw [List.size_toArray, len, sizeLine_eq]; lia, k _ _⟩

theorem Ev.sliceStr {e : PySem.Expr} {lo hi : Option PySem.Expr} {p pos : Pos} {K : AV → St → Prop}
    (h : Ev R d fm e st fun o st₁ => EvP R d fm lo st₁ fun a st₂ => EvP R d fm hi st₂ fun b st₃ => ∃ (x : Str) (i j : Nat), o = .str x ∧ a = some (i : Int) ∧ (b = some (j : Int) ∨ (b = none ∧ j = x.length)) ∧ i ≤ j ∧ j ≤ x.length ∧ x.length ≤ 16777216 ∧ K (.str (strSlice x i j)) st₃)
    (hl : ∀ o r, letTemporaryGo e o r = pure () := by intro _ _; with_unfolding_all rfl) : Ev R d fm (.Subscript e (.Slice lo hi none p) pos) st K :=
  fun A L s r ht P Q E k => wpAny_Subscript_str_slice (ht := hl) (h.run r ht P fun o' s₁ L₁ o st₁ h₁ t₁ P₁ ho g₁ _ => evalPart_run h₁ r t₁ P₁ fun p s₂ L₂ st₂ h₂ t₂ P₂ g₂ sg₂ => evalPart_run h₂ r t₂ P₂ fun q s₃ L₃ st₃ h₃ t₃ P₃ g₃ sg₃ => by
    obtain ⟨x, i, j, rfl, hi, hj, hij, hjl, hx, hk⟩ := h₃
    obtain ⟨t, rfl⟩ := ho.str_inv
    refine ⟨x, t, p, q, rfl, rfl, rfl, slice_str_post hi (hj.imp id fun z => ⟨by cases q <;> simp_all, z.2⟩) hij hjl hx fun t' tk => ?_⟩
    have hp : ∀ {o : Obj}, ∀ b o', s₃.heap.get? b = some o' → (s₃.heap.push o).get? b = some o' := fun {o} b o' e => Heap.get?_push_of_some _ e
    exact k _ _ _ _ _ hk (P₃.more (tk := tk) hp) (.str _ _) (((g₁.trans g₂ own_ok).trans g₃ own_ok).trans (Grow.more (tk := tk) hp) own_ok))
end

/-- a comprehension's names as its own frame sees them -/
noncomputable def rel (scope outer : Scope) : Scope :=
  { scope with names := scope.names.map fun (n, k) => if (k == .free && outer.kind == .function && outer.names.lookup n == some .cell) then (n, .cell) else (n, k) }

/-- what a nested block catches of the cells -/
inductive Cap (ρ : Loc) : List (Str × NameKind) → Loc → Prop
  | nil : Cap ρ [] []
  | skip {x k r ρ'} : k ≠ .free → Cap ρ r ρ' → Cap ρ ((x, k) :: r) ρ'
  | take {x n r ρ'} : Look ρ x (.cel n) → Cap ρ r ρ' → Cap ρ ((x, .free) :: r) ((x, .cel n) :: ρ')

theorem Cap.look {ρ ρ' : Loc} {names : List (Str × NameKind)} (c : Cap ρ names ρ') {x : Str} {b : Bnd} (h : Look ρ' x b) : (∃ n, b = .cel n) ∧ Look ρ x b ∧ (x, .free) ∈ names := by
  induction c with
  | nil => cases h
  | skip _ _ ih => obtain ⟨a, b, c⟩ := ih h; exact ⟨a, b, List.mem_cons_of_mem _ c⟩
  | take hl _ ih => cases h with
    | here => exact ⟨⟨_, rfl⟩, hl, by simp⟩
    | there _ h => obtain ⟨a, b, c⟩ := ih h; exact ⟨a, b, List.mem_cons_of_mem _ c⟩

theorem Cap.free {ρ ρ' : Loc} {names : List (Str × NameKind)} (c : Cap ρ names ρ') : ∀ p ∈ names, p.2 = .free → ∃ n, Look ρ p.1 (.cel n) := by
  induction c with
  | nil => intro p hp; cases hp
  | skip hk _ ih => intro p hp hf; rcases List.mem_cons.mp hp with rfl | h
                    · exact absurd hf hk
                    · exact ih p h hf
  | take hl _ ih => intro p hp hf; rcases List.mem_cons.mp hp with rfl | h
                    · exact ⟨_, hl⟩
                    · exact ih p h hf

theorem closure_of {env : Env} {scope : Scope} (hc : ∀ p ∈ scope.names, p.2 = .free → ∃ a, env.cells.lookup p.1 = some a) :
    ∃ cl, closureFor scope env = pure cl ∧ (∀ x, (x, .free) ∈ scope.names → cl.lookup x = env.cells.lookup x) ∧ ∀ x a, (x, a) ∈ cl → env.cells.lookup x = some a := by
  have key : ∀ (names : List (Str × NameKind)) (acc : List (Str × Addr)), (∀ p ∈ names, p.2 = .free → ∃ a, env.cells.lookup p.1 = some a) → (∀ x a, (x, a) ∈ acc → env.cells.lookup x = some a) →
      ∃ cl, (forIn names acc fun x cs => if (x.2 == NameKind.free) = true then do let a ← cellOf env x.1; pure (ForInStep.yield ((x.1, a) :: cs)) else pure (ForInStep.yield cs) : Sem (List (Str × Addr))) = pure cl ∧
        (∀ x, (x, .free) ∈ names → cl.lookup x = env.cells.lookup x) ∧ (∀ x a, (x, a) ∈ cl → env.cells.lookup x = some a) ∧ ∀ x, acc.lookup x = env.cells.lookup x → cl.lookup x = env.cells.lookup x := by
    intro names
    induction names with
    | nil => intro acc _ ha; exact ⟨acc, by rw [List.forIn_nil], (fun x h => nomatch h), ha, fun x h => h⟩
    | cons p r ih =>
      intro acc hc ha
      obtain ⟨y, k⟩ := p
      by_cases hk : k = .free
      · subst hk
        obtain ⟨a, hy⟩ := hc (y, .free) (by simp) rfl
        obtain ⟨cl, e, h1, h2, h3⟩ := ih ((y, a) :: acc) (fun p hp => hc p (List.mem_cons_of_mem _ hp)) (fun x b h => by
          rcases List.mem_cons.mp h with q | q
          · cases q; exact hy
          · exact ha x b q)
        have hyc : cl.lookup y = env.cells.lookup y := h3 y (by rw [List.lookup_cons, beq_self_eq_true, hy])
        refine ⟨cl, ?_, fun x hx => ?_, h2, fun x hx => ?_⟩
        · rw [List.forIn_cons]
          simp only [cellOf, hy, beq_self_eq_true, if_true]
          exact e
        · rcases List.mem_cons.mp hx with q | q
          · cases q; exact hyc
          · exact h1 x q
        · refine h3 x ?_
          rw [List.lookup_cons]
          cases q : x == y with
          | true => rw [eq_of_beq q, hy]
          | false => exact hx
      · obtain ⟨cl, e, h1, h2, h3⟩ := ih acc (fun p hp => hc p (List.mem_cons_of_mem _ hp)) ha
        refine ⟨cl, ?_, fun x hx => ?_, h2, h3⟩
        · rw [List.forIn_cons]
          have : (k == NameKind.free) = false := by simpa using hk
          simp only [this, Bool.false_eq_true, if_false]
          exact e
        · rcases List.mem_cons.mp hx with q | q
          · cases q; exact absurd rfl hk
          · exact h1 x q
  obtain ⟨cl, e, h1, h2, _⟩ := key scope.names [] hc (fun x a h => nomatch h)
  refine ⟨cl, ?_, h1, h2⟩
  unfold closureFor
  simp only [bind_pure]
  exact e

section
variable {R : RT} {L L' : List Addr} {σ : Sto} {s s' : Shared} {d : Nat} {fm : Fm} {ρ : Loc} {st : St} {A : Around}

theorem caps_closure {ρ' : Loc} {scope : Scope} (c : Cap ρ scope.names ρ') (F : FR R L fm ρ s) :
    ∃ cl, closureFor scope fm.env = pure cl ∧ (∀ x n, Look ρ' x (.cel n) → ∃ a, cl.lookup x = some a ∧ L[n]? = some a) ∧ ∀ x a, (x, a) ∈ cl → fm.env.cells.lookup x = some a := by
  obtain ⟨cl, e, h1, h2⟩ := closure_of (env := fm.env) (scope := scope) (fun p hp hf => by
    obtain ⟨n, hl⟩ := c.free p hp hf
    obtain ⟨_, a, ha, _⟩ := F.cel _ _ hl
    exact ⟨a, ha⟩)
  refine ⟨cl, e, fun x n hl => ?_, h2⟩
  obtain ⟨_, hl', hm⟩ := c.look hl
  obtain ⟨_, a, ha, hL⟩ := F.cel x n hl'
  exact ⟨a, (h1 x hm).trans ha, hL⟩

/-- a list of tests, none or one -/
noncomputable def Tsts (R : RT) (d : Nat) (fm : Fm) (ifs : List PySem.Expr) (st : St) (K : Bool → St → Prop) : Prop := match ifs with
  | [] => K true st
  | [c] => Tst R d fm c st K
  | _ => False

theorem Tsts.run {ifs : List PySem.Expr} {K : Bool → St → Prop} (h : Tsts R d fm ifs st K) (r : Room d A) (ht : 0 < s.toks) (P : Rep R fm L st s) {Q : Bool → Shared → Prop} {E : Value → Shared → Prop}
    (k : ∀ b s' L' st', K b st' → 0 < s'.toks → Rep R fm L' st' s' → Grow L L' (own fm) s s' → Stays s.heap s'.heap → Q b s') :
    wpAny R.M A (forIn ifs true fun c r => if r = true then do let ok ← isTrue c fm.env (eval c fm.env); pure (ForInStep.yield ok) else pure (ForInStep.yield r)) Q E s := by
  match ifs, h with
  | [], h => exact wpAny_tests_nil (k _ _ _ _ h ht P (Grow.refl ..) (.refl _))
  | [c], h => exact wpAny_tests_one (Tst.run (h : Tst R d fm c st K) r ht P k)

/-- the walk of a comprehension, in its own frame -/
noncomputable def Cl (R : RT) (d : Nat) (fm : Fm) (e : PySem.Expr) (it : AIt) (n : Nat) (st : St) (K : Sto → Prop) : Prop :=
  ∀ A L s a acc, Room d A → 0 < s.toks → Rep R fm L st s → IterAt R L fm s it a → VR L s.heap (.lst n) acc → ∀ (Rr : Result → Shared → Prop),
    (∀ s' L' st', K st'.σ → 0 < s'.toks → Rep R fm L' st' s' → Grow L L' (a :: own fm) s s' → Rr (.ok .next) s') → codeAny R.M A (.compLoop e 0 (.ref a) acc fm.env) Rr s

theorem VR.lst_mono {n : Nat} {v : Value} {h h' : Heap} (x : VR L h (.lst n) v) (hL : L <+: L') : VR L' h' (.lst n) v := by
  obtain ⟨a, rfl, e⟩ := x.lst_inv; exact .lst (getElem?_mono hL e)

theorem Cl.step {elt iter : PySem.Expr} {x : Str} {px : Pos} {ifs : List PySem.Expr} {scope : Scope} {pos : Pos} {r : Option (AV × AIt)} {it : AIt} {n : Nat} {K : Sto → Prop} (hx : ItNext st.σ it r)
    (h : match r with
      | none => K st.σ
      | some (v, it') => ∃ st₁, Bind fm x v st st₁ ∧ Tsts R d fm ifs st₁ fun b st₂ => match b with
          | true => Ev R d fm elt st₂ fun w st₃ => ∃ l, st₃.σ n = some (.lst l) ∧ l.length < 1048576 ∧ Cl R d fm (.ListComp elt [⟨.Name x px, iter, ifs, 0⟩] scope pos) it' n ⟨st₃.ρ, st₃.σ.upd n (.lst (l ++ [w]))⟩ K
          | false => Cl R d fm (.ListComp elt [⟨.Name x px, iter, ifs, 0⟩] scope pos) it' n st₂ K) :
    Cl R d fm (.ListComp elt [⟨.Name x px, iter, ifs, 0⟩] scope pos) it n st K :=
  fun A L s a acc rm ht P I hacc Rr k' => by
    refine codeAny_of_tree ?_
    rw [Around.under_of_weight rfl rfl]
    show wpAny _ A ((compTurn (.ListComp elt [⟨.Name x px, iter, ifs, 0⟩] scope pos) 0 (.ref a) acc fm.env).onRaise (fun x => do noteFrame x fm.env; theTreesLotGoes x)) _ _ s
    refine wpAny_noted ?_
    rw [compTurn_list]
    refine wpAny_bind (wpAny_standAt (wpAny_bind ?_))
    refine next_run hx rm ht P I ?_
    cases r with
    | none => intro s' t' P' g; exact wpAny_pure (k' _ _ _ h t' P' g)
    | some r =>
      obtain ⟨v, it'⟩ := r
      intro v' s₁ t₁ P₁ I₁ hv g₁
      obtain ⟨st₁, hb, h⟩ := (h : ∃ st₁, Bind fm x v st st₁ ∧ Tsts R d fm ifs st₁ fun b st₂ => match b with
          | true => Ev R d fm elt st₂ fun w st₃ => ∃ l, st₃.σ n = some (.lst l) ∧ l.length < 1048576 ∧ Cl R d fm (.ListComp elt [⟨.Name x px, iter, ifs, 0⟩] scope pos) it' n ⟨st₃.ρ, st₃.σ.upd n (.lst (l ++ [w]))⟩ K
          | false => Cl R d fm (.ListComp elt [⟨.Name x px, iter, ifs, 0⟩] scope pos) it' n st₂ K)
      refine wpAny_bind (wpAny_of_eq (a := ()) rfl ?_)
      refine wpAny_bind (with_pos t₁ fun E' => wpAny_assign_Name (store_bind hb P₁ hv fun s₂ P₂ g₂ t₂ => ?_))
      have g12 := g₁.trans g₂ sub_own
      have I₂ := I₁.kept g₂
      refine wpAny_bind (h.run rm t₂ P₂ fun b s₃ L₃ st₃ h₃ t₃ P₃ g₃ _ => ?_)
      have g13 := g12.trans g₃ sub_own
      have I₃ := I₂.kept g₃
      cases b with
      | false =>
        refine wpAny_pure ⟨rfl, ?_⟩
        exact (h₃ : Cl R d fm _ it' n st₃ K) A L₃ s₃ a acc rm t₃ P₃ I₃ (hacc.lst_mono g13.pre) Rr fun s₄ L₄ st₄ k₄ t₄ P₄ g₄ => k' _ _ _ k₄ t₄ P₄ (g13.trans g₄ own_refl)
      | true =>
        refine wpAny_bind (wpAny_bind (Ev.run (h₃ : Ev R d fm elt st₃ _) rm t₃ P₃ fun w' s₄ L₄ w st₄ h₄ t₄ P₄ hw g₄ _ => ?_))
        obtain ⟨l, hn, hl, h₄⟩ := h₄
        have g14 := g13.trans g₄ sub_own
        have I₄ := I₃.kept g₄
        have ap : Calls R d (bi "list.append") [.lst n, w] [] st₄.σ fun v σ' => v = .none ∧ σ' = st₄.σ.upd n (.lst (l ++ [w])) := Calls.append hn hl ⟨rfl, rfl⟩
        refine wpAny_bind (ap.run (kv' := []) rm t₄ P₄ (.raw _) (.cons (hacc.lst_mono g14.pre) (.cons hw .nil)) .nil fun u s₅ L₅ v σ' hk t₅ P₅ hv g₅ => ?_)
        obtain ⟨rfl, rfl⟩ := hk
        have g15 := g14.trans g₅ sub_own
        exact wpAny_pure (wpAny_pure ⟨rfl, h₄ A L₅ s₅ a acc rm t₅ P₅ (I₄.kept g₅) (hacc.lst_mono g15.pre) Rr fun s₆ L₆ st₆ k₆ t₆ P₆ g₆ => k' _ _ _ k₆ t₆ P₆ (g15.trans g₆ own_refl)⟩)

noncomputable def KindsOk (sc : Scope) : Loc → Prop
  | [] => True
  | (x, _) :: r => (sc.names.lookup x = some .cell ∨ sc.names.lookup x = some .free) ∧ KindsOk sc r
theorem KindsOk.look {sc : Scope} {ρ : Loc} {x : Str} {b : Bnd} (k : KindsOk sc ρ) (h : Look ρ x b) : (sc.names.lookup x = some .cell ∨ sc.names.lookup x = some .free) := by
  induction h with
  | here => exact k.1
  | there _ _ ih => exact ih k.2

theorem pyIter_iter {it : AIt} {a : Addr} (I : IterAt R L fm s it a) {Q : Value → Shared → Prop} {E : Value → Shared → Prop} (k : Q (.ref a) s) : wpAny R.M A (pyIter (.ref a)) Q E s := by
  have := I.at_
  cases it with
  | lst n i => obtain ⟨l, _, h⟩ := this; exact wpAny_pyIter_listiter h k
  | rng lo hi => exact wpAny_pyIter_rangeiter this k

theorem rel_eq (ok : FmOk R fm) (scope : Scope) : relabel scope fm.env = rel scope fm.scope := by
  show rel scope fm.env.scope = _
  rw [ok.scope]

theorem comp_core {elt iter : PySem.Expr} {x : Str} {px : Pos} {ifs : List PySem.Expr} {scope : Scope} {pos cp : Pos} {use : Option (Value → Sem Unit)} {ρ' : Loc} {K : Nat → St → Sto → Prop}
    (hcap : Cap st.ρ scope.names ρ') (hk : KindsOk (rel scope fm.scope) ρ') (hkind : scope.kind = .function) (hcell : ∀ y ∈ scope.names, y.2 ≠ .cell)
    (hnames : ∀ y ∈ scope.names, y.2 = .local → scope.names.lookup y.1 = some .local) (hs : ∀ env x, foldedSetIterable iter env x = pure x)
    (h : Ev R d fm iter st fun v st₁ => ∃ it, IterOf st₁.σ v it ∧ ∀ n env', st₁.σ n = none → Cl R d ⟨rel scope fm.scope, env'⟩ (.ListComp elt [⟨.Name x px, iter, ifs, 0⟩] scope pos) it n ⟨ρ', st₁.σ.upd n (.lst [])⟩ fun σ' => K n st₁ σ')
    (rm : Room d A) (ht : 0 < s.toks) (P : Rep R fm L st s) {Q : Value → Shared → Prop} {E : Value → Shared → Prop}
    (fin : ∀ acc C s' L' n st₁ σ', K n st₁ σ' → 0 < s'.toks → Rep R fm L' ⟨st₁.ρ, σ'⟩ s' → VR L' s'.heap (.lst n) acc → Grow L L' (own fm) s s' → (∃ m, s'.heap.Ns C m) → C ∉ L' → R.h₀.get? C = none → C ≠ fm.env.locals → s.heap.get? C = none →
      compPost R.M A E use Q acc C (.ok .next) s') :
    wpAny R.M A (comprehension (.ListComp elt [⟨.Name x px, iter, ifs, 0⟩] scope pos) scope fm.env cp (newList []) false (eval iter fm.env) use) Q E s := by
  obtain ⟨cl, hcl, hcl1, hcl2⟩ := caps_closure hcap P.2
  refine wpAny_comprehension_free rfl (fun x => hs _ x) hcl hkind hnames (h.run rm ht P fun v' s₁ L₁ v st₁ h₁ t₁ P₁ hv g₁ _ => ?_)
  obtain ⟨it, hi, h₁⟩ := h₁
  refine with_pos t₁ fun E' => iter_run hi rm t₁ P₁ hv fun a s₂ t₂ P₂ I₂ g₂ ha _ => ?_
  refine wpAny_newObj_type ?_ (by show 0 ≤ sizeLine; exact Nat.zero_le _)
  have N := P₂.newList (tk := s₂.toks) (items := #[]) (l := []) (h' := s₂.heap.push { cls := .type "list", data := .seq #[] }) (fun b o e => Heap.get?_push_of_some _ e) (get_size_none _) ⟨0, Heap.get?_push_size _ rfl⟩ .nil
  generalize hs3 : ({ s₂ with heap := s₂.heap.push { cls := .type "list", data := .seq #[] } } : Shared) = s₃
  have N' : Rep R fm (L₁ ++ [s₂.heap.objs.size]) ⟨st₁.ρ, st₁.σ.upd L₁.length (.lst [])⟩ s₃ ∧ VR (L₁ ++ [s₂.heap.objs.size]) s₃.heap (.lst L₁.length) (.ref s₂.heap.objs.size) ∧ Grow L₁ (L₁ ++ [s₂.heap.objs.size]) (own fm) s₂ s₃ := by rw [← hs3]; exact N
  have g23' : Grow L₁ (L₁ ++ [s₂.heap.objs.size]) [] s₂ s₃ := by
    rw [← hs3]
    exact (P₂.1.newList (tk := s₂.toks) (items := #[]) (l := []) (h' := s₂.heap.push { cls := .type "list", data := .seq #[] }) (fun b o e => Heap.get?_push_of_some _ e) (get_size_none _) ⟨0, Heap.get?_push_size _ rfl⟩ .nil []).2.2
  clear N
  have t₃ : 0 < s₃.toks := by rw [← hs3]; exact t₂
  obtain ⟨P₃, hacc, g₃⟩ := N'
  generalize hD : s₂.heap.objs.size = D at *
  refine wpAny_newFunctionEnv hcell (by intro y hy; simp at hy) (fun h₄ hns₄ hsb₄ => ?_) hkind
  have C0 : s₃.heap.get? s₃.heap.objs.size = none := get_size_none _
  have hk4 : ∀ b o, s₃.heap.get? b = some o → h₄.get? b = some o := fun b o e => hsb₄.extBut b o (fun q => by rw [q, C0] at e; cases e) (Heap.get?_push_of_some _ e)
  generalize hC : s₃.heap.objs.size = C at *
  have I₃ := I₂.kept g₃
  have P₄ := P₃.more (h' := h₄) (tk := s₃.toks + ([] : List (Str × Value)).length) hk4
  have g₄ : Grow (L₁ ++ [D]) (L₁ ++ [D]) [] s₃ { s₃ with heap := h₄, toks := s₃.toks + ([] : List (Str × Value)).length } := Grow.more hk4
  have cOld : R.h₀.get? C = none := P₃.1.fresh_old C0
  have ok : FmOk R ⟨rel scope fm.scope, compEnvC scope cl C fm.env⟩ := ⟨rel_eq P.2.ok scope, hkind, P.2.ok.globals, P.2.ok.builtins, cOld⟩
  have F₄ : FR R (L₁ ++ [D]) ⟨rel scope fm.scope, compEnvC scope cl C fm.env⟩ ρ' { s₃ with heap := h₄, toks := s₃.toks + ([] : List (Str × Value)).length } :=
    ⟨ok, ⟨_, hns₄, fun y w hl => by obtain ⟨⟨n, q⟩, _⟩ := hcap.look hl; cases q⟩, fun y n hl => ⟨hk.look hl, by
      obtain ⟨b, h1, h2⟩ := hcl1 y n hl
      exact ⟨b, h1, getElem?_mono (g₁.pre.trans (List.prefix_append _ _)) h2⟩⟩⟩
  have aC : a ≠ C := fun q => by
    obtain ⟨o, e, _⟩ := I₃.obj
    rw [q, C0] at e; cases e
  have I₄ : IterAt R (L₁ ++ [D]) ⟨rel scope fm.scope, compEnvC scope cl C fm.env⟩ { s₃ with heap := h₄, toks := s₃.toks + ([] : List (Str × Value)).length } it a := by
    obtain ⟨o, e, _⟩ := I₃.obj
    exact ⟨I₃.old, I₃.out, aC, I₃.at_.mono (List.prefix_refl _) ((hk4 _ _ e).trans e.symm)⟩
  have free1 : s₁.heap.get? C = none := by
    cases q : s₁.heap.get? C with
    | none => rfl
    | some o =>
      obtain ⟨o', e'⟩ := (g₂.trans g23' own_nil).there C o q (fun h => nomatch h)
      rw [C0] at e'; cases e'
  have loop : codeAny R.M A (.compLoop (.ListComp elt [⟨.Name x px, iter, ifs, 0⟩] scope pos) 0 (.ref a) (.ref D) (compEnvC scope cl C fm.env)) (compPost R.M A E use Q (.ref D) C) { s₃ with heap := h₄, toks := s₃.toks + ([] : List (Str × Value)).length } := by
    refine h₁ L₁.length (compEnvC scope cl C fm.env) P₁.1.free A (L₁ ++ [D]) _ a (.ref D) rm (by simpa using t₃) ⟨P₄.1, F₄⟩ I₄ (hacc.lst_mono (List.prefix_refl _)) _ fun s₅ L₅ st₅ k₅ t₅ P₅ g₅ => ?_
    have g : Grow L₁ L₅ [] s₁ s₅ := (((g₂.trans g23' own_nil).trans g₄ own_nil).trans g₅ (fun y hy => by
      rcases List.mem_cons.mp hy with rfl | hy
      · exact .inr ha
      · obtain rfl : y = C := by simpa [own, compEnvC] using hy
        exact .inr free1))
    have F₅ := P₁.2.kept P₁.1 g
    refine fin (.ref D) C s₅ L₅ L₁.length st₁ st₅.σ k₅ t₅ ⟨P₅.1, F₅⟩ (hacc.lst_mono g₅.pre) (g₁.trans (g.weaken own_nil) own_ok) ?_ (P₅.2.loc_out P₅.1) cOld (fun q => ?_) ?_
    · obtain ⟨m, hm, _⟩ := P₅.2.ns; exact ⟨m, hm⟩
    · obtain ⟨o, e, _⟩ := P₁.2.loc
      rw [← q, free1] at e; cases e
    · cases q : s.heap.get? C with
      | none => rfl
      | some o =>
        by_cases hq : C ∈ own fm
        · obtain ⟨o', e, _⟩ := P₁.2.loc
          have : C = fm.env.locals := by simpa [own] using hq
          rw [← this, free1] at e; cases e
        · obtain ⟨o', e'⟩ := g₁.there C o q hq
          rw [free1] at e'; cases e'
  exact codeAny_compStart_list loop (pyIter_iter I₄ loop)

theorem Ev.comp {elt iter : PySem.Expr} {x : Str} {px : Pos} {ifs : List PySem.Expr} {scope : Scope} {pos : Pos} {ρ' : Loc} {K : AV → St → Prop}
    (hcap : Cap st.ρ scope.names ρ') (hk : KindsOk (rel scope fm.scope) ρ')
    (h : Ev R d fm iter st fun v st₁ => ∃ it, IterOf st₁.σ v it ∧ ∀ n env', st₁.σ n = Option.none → Cl R d ⟨rel scope fm.scope, env'⟩ (.ListComp elt [⟨.Name x px, iter, ifs, 0⟩] scope pos) it n ⟨ρ', st₁.σ.upd n (.lst [])⟩ fun σ' => K (.lst n) ⟨st₁.ρ, σ'⟩)
    (hkind : scope.kind = .function := by rfl) (hcell : ∀ y ∈ scope.names, y.2 ≠ .cell := by decide)
    (hnames : ∀ y ∈ scope.names, y.2 = .local → scope.names.lookup y.1 = some .local := by decide) (hs : ∀ env x, foldedSetIterable iter env x = pure x := by intro _ _; with_unfolding_all rfl) :
    Ev R d fm (.ListComp elt [⟨.Name x px, iter, ifs, 0⟩] scope pos) st K :=
  fun A L s r ht P Q E k => by
    rw [eval_ListComp]
    refine comp_core (use := none) hcap hk hkind hcell hnames hs h r ht P fun acc C s' L' n st₁ σ' hk' t' P' hacc g ⟨m, hm⟩ hC hC0 hCl hCf => ?_
    refine ⟨m, hm, fun h' hsb => ?_⟩
    have fr : ∀ o, s'.heap.get? C = some o → ¬ Fixed o := fun o e => by
      obtain ⟨o', es, ep, e', hd, _⟩ := hm
      rw [e] at e'; cases e'
      exact not_fixed_dict ⟨_, _, hd⟩
    have H := P'.1.side (s' := { s' with heap := h' }) hC hC0 fr hsb.extBut rfl rfl
    have F := P'.2.side (s' := { s' with heap := h' }) hCl hsb.extBut fr
    have g' : Grow L' L' (C :: own fm) s' { s' with heap := h' } := Grow.side hsb.extBut rfl
    exact k _ _ _ _ _ hk' ⟨H, F⟩ (hacc.lst_mono (List.prefix_refl _)) (g.trans g' fun y hy => by
      rcases List.mem_cons.mp hy with rfl | h
      · exact .inr hCf
      · exact .inl h)

theorem Ex.assign_comp {y : Str} {py : Pos} {elt iter : PySem.Expr} {x : Str} {px : Pos} {ifs : List PySem.Expr} {scope : Scope} {pos spos : Pos} {ρ' : Loc} {K : Out → St → Prop}
    (hcap : Cap st.ρ scope.names ρ') (hk : KindsOk (rel scope fm.scope) ρ')
    (h : Ev R d fm iter st fun v st₁ => ∃ it, IterOf st₁.σ v it ∧ ∀ n env', st₁.σ n = Option.none → Cl R d ⟨rel scope fm.scope, env'⟩ (.ListComp elt [⟨.Name x px, iter, ifs, 0⟩] scope pos) it n ⟨ρ', st₁.σ.upd n (.lst [])⟩ fun σ' => ∃ st₂, Bind fm y (.lst n) ⟨st₁.ρ, σ'⟩ st₂ ∧ K .next st₂)
    (hsw : ∀ env : Env, env.scope = fm.scope → swapsWith (.ListComp elt [⟨.Name x px, iter, ifs, 0⟩] scope pos) (some (.Name y py)) spos.line env = pure true)
    (hkind : scope.kind = .function := by rfl) (hcell : ∀ y ∈ scope.names, y.2 ≠ .cell := by decide)
    (hnames : ∀ y ∈ scope.names, y.2 = .local → scope.names.lookup y.1 = some .local := by decide) (hs : ∀ env x, foldedSetIterable iter env x = pure x := by intro _ _; with_unfolding_all rfl) :
    Ex R d fm (.Assign [.Name y py] (.ListComp elt [⟨.Name x px, iter, ifs, 0⟩] scope pos) spos) st K :=
  fun A L s r ht P Q E k => by
    rw [exec_Assign_Name_used _ _ _ _ (hsw _ P.2.ok.scope)]
    refine wpAny_bind (wpAny_standAt (wpAny_bind ?_))
    show wpAny _ A (do let _ ← comprehension (.ListComp elt [⟨.Name x px, iter, ifs, 0⟩] scope pos) scope fm.env _ (newList []) false (eval iter fm.env) (some (PySem.assign (.Name y py) fm.env))) _ _ s
    refine wpAny_bind (wpAny_mono (comp_core (use := some (PySem.assign (.Name y py) fm.env)) (Q := fun _ s' => Q .next s') hcap hk hkind hcell hnames hs h r ht P fun acc C s' L' n st₁ σ' hk' t' P' hacc g ⟨m, hm⟩ hC hC0 hCl hCf => ?_)
      (fun _ s' hq => wpAny_pure (wpAny_pure hq)) fun _ _ e => e)
    obtain ⟨st₂, hb, hk'⟩ := hk'
    refine wpAny_assign_Name (store_bind hb P' hacc fun s₂ P₂ g₂ => ?_)
    have hd : ∃ o, s'.heap.get? C = some o ∧ DictO o := by
      obtain ⟨o', es, ep, e', hd, _⟩ := hm
      exact ⟨o', e', es, ep, hd⟩
    obtain ⟨o, eo, ho⟩ := hd
    have eo2 : s₂.heap.get? C = some o := (g₂.keep C o eo hC (by simpa [own] using hCl)).dict ho
    have hm2 : s₂.heap.Ns C m := by
      obtain ⟨o', es, ep, e', hd⟩ := hm
      rw [eo] at e'; cases e'
      exact ⟨o, es, ep, eo2, hd⟩
    refine ⟨m, hm2, fun h' hsb => ?_⟩
    have fr : ∀ o, s₂.heap.get? C = some o → ¬ Fixed o := fun o' e => by
      rw [eo2] at e; cases e
      exact not_fixed_dict ho
    have H := P₂.1.side (s' := { s₂ with heap := h' }) hC hC0 fr hsb.extBut rfl rfl
    have F := P₂.2.side (s' := { s₂ with heap := h' }) hCl hsb.extBut fr
    have g' : Grow L' L' (C :: own fm) s₂ { s₂ with heap := h' } := Grow.side hsb.extBut rfl
    exact k _ _ _ .next _ hk' ⟨H, F⟩ trivial ((g.trans g₂ own_ok).trans g' fun y hy => by
      rcases List.mem_cons.mp hy with rfl | h
      · exact .inr hCf
      · exact .inl h)
end

theorem static_of_ns {h : Heap} {m : Str → Option Value} (hn : h.Ns cStatics m) (key : Str) : staticOf h key = m key := by
  obtain ⟨o, es, ep, ho, hd, _, hf⟩ := hn
  simp only [staticOf, ho, hd]
  exact hf key

theorem nolimit_of {h₀ h : Heap} (K : OldK h₀ h) (x : h₀.NoLimit) : h.NoLimit := by
  obtain ⟨mc, hn, hz⟩ := x
  obtain ⟨o, es, ep, ho, hd, hk, hm⟩ := id hn
  rcases K.old _ _ ho with e | ⟨_, _, vs, more, hv, _⟩ | ⟨_, _, ⟨o', es', n', ho', _, hd', hk'⟩, z⟩
  · exact ⟨mc, ⟨o, es, ep, e, hd, hk, hm⟩, hz⟩
  · rw [hd] at hv; cases hv
  · have hn' : h.Ns cStatics (fun x => nsFind es' x) := ⟨o', es', n', ho', hd', hk', fun _ => rfl⟩
    refine ⟨_, hn', ?_⟩
    have e1 := static_of_ns hn' "sys.recursionlimit"
    have e0 := static_of_ns hn "sys.recursionlimit"
    rcases z "sys.recursionlimit" with e | ⟨e, _⟩
    · rw [← e1, e, e0]; exact hz
    · exact absurd e (by decide)

/-- the cells that a call lays -/
noncomputable def Lay : List (Str × NameKind) → Sto → Loc → (Sto → Loc → Prop) → Prop
  | [], σ, ρ, K => K σ ρ
  | (x, .cell) :: r, σ, ρ, K => ∀ n, σ n = none → Lay r (σ.upd n (.cel none)) ((x, .cel n) :: ρ) K
  | _ :: r, σ, ρ, K => Lay r σ ρ K

noncomputable def Binds (fm : Fm) : List (Str × AV) → St → (St → Prop) → Prop
  | [], st, K => K st
  | (x, v) :: r, st, K => ∃ st', Bind fm x v st st' ∧ Binds fm r st' K

section
variable {R : RT} {L L' : List Addr} {σ : Sto} {s s' : Shared} {d : Nat} {fm : Fm} {ρ : Loc} {st : St} {A : Around}

theorem lay_run {env : Env} {Q : List (Str × Addr) → Shared → Prop} {E : Value → Shared → Prop} {K : Sto → Loc → Prop} {scope : Scope}
    (f : Str × NameKind → List (Str × Addr) → Sem (ForInStep (List (Str × Addr))))
    (hf : ∀ name kind cells, f (name, kind) cells = if kind == .cell then (do let a ← alloc { cls := .type "cell", data := .cell none }; pure (.yield ((name, a) :: cells))) else pure (.yield cells)) :
    ∀ (names : List (Str × NameKind)) (acc : List (Str × Addr)) (s : Shared) (L : List Addr) (σ : Sto) (ρ : Loc), HR R L σ s →
      (∀ y ∈ names, y.2 = .cell → scope.names.lookup y.1 = some .cell) →
      (∀ x b, Look ρ x b → ∃ n, b = .cel n ∧ (scope.names.lookup x = some .cell ∨ scope.names.lookup x = some .free) ∧ ∃ a, acc.lookup x = some a ∧ L[n]? = some a) →
      Lay names σ ρ K →
      (∀ acc' s' L' σ' ρ', HR R L' σ' s' → K σ' ρ' → (∀ b o, s.heap.get? b = some o → s'.heap.get? b = some o) → Grow L L' [] s s' →
        (∀ x b, Look ρ' x b → ∃ n, b = .cel n ∧ (scope.names.lookup x = some .cell ∨ scope.names.lookup x = some .free) ∧ ∃ a, acc'.lookup x = some a ∧ L'[n]? = some a) → Q acc' s') →
      wpAny R.M A (forIn names acc f) Q E s
  | [], acc, s, L, σ, ρ, H, hc, hρ, h, k => by rw [List.forIn_nil]; exact wpAny_pure (k _ _ _ _ _ H h (fun _ _ e => e) (Grow.refl ..) hρ)
  | (x, kd) :: r, acc, s, L, σ, ρ, H, hc, hρ, h, k => by
    rw [List.forIn_cons, hf]
    have hr : ∀ y ∈ r, y.2 = .cell → scope.names.lookup y.1 = some .cell := fun y hy => hc y (List.mem_cons_of_mem _ hy)
    by_cases hk : kd = .cell
    · subst hk
      rw [if_pos (by rfl)]
      refine wpAny_bind (wpAny_bind (wpAny_alloc (wpAny_pure ?_)))
      have hkp : ∀ b o, s.heap.get? b = some o → (s.heap.push { cls := .type "cell", data := .cell none }).get? b = some o := fun b o e => Heap.get?_push_of_some _ e
      have H1 := H.more (tk := s.toks) hkp
      have a0 : s.heap.get? s.heap.objs.size = none := get_size_none _
      have H2 := H1.ext (a := s.heap.objs.size) (c := .cel none) (H.fresh_out a0) (H.fresh_old a0) ⟨_, Heap.get?_push_size _ rfl, rfl, rfl⟩
      have g2 : Grow L (L ++ [s.heap.objs.size]) [] s { s with heap := s.heap.push { cls := .type "cell", data := .cell none }, toks := s.toks } := by
        have g := Grow.more (L := L) (own := []) (tk := s.toks) hkp
        exact ⟨List.prefix_append _ _, fun b hb hn => by
          rcases List.mem_append.mp hb with h | h
          · exact absurd h hn
          · simp at h; subst h; exact .inl a0, g.keep, g.there, g.gens, g.gsize⟩
      refine lay_run (env := env) f hf r _ _ _ _ _ H2 hr (fun y b hl => ?_) (h L.length H.free) fun acc' s' L' σ' ρ' H' hK hkp' g' hρ' => k _ _ _ _ _ H' hK (fun b o e => hkp' _ _ (hkp _ _ e)) (g2.trans g' own_nil) hρ'
      cases hl with
      | here => exact ⟨_, rfl, .inl (hc (x, .cell) (by simp) rfl), s.heap.objs.size, by rw [List.lookup_cons, beq_self_eq_true], by simp⟩
      | there ne hl =>
        obtain ⟨n, e, hk, a, h1, h2⟩ := hρ y b hl
        have : (y == x) = false := beq_eq_false_iff_ne.mpr ne
        exact ⟨n, e, hk, a, by rw [List.lookup_cons, this]; exact h1, getElem?_mono (List.prefix_append _ _) h2⟩
    · have hk' : (kd == NameKind.cell) = false := by simpa using hk
      rw [hk', if_neg Bool.false_ne_true]
      refine wpAny_bind (wpAny_pure (lay_run (env := env) f hf r _ _ _ _ _ H hr hρ ?_ k))
      cases kd <;> first | exact absurd rfl hk | exact h

theorem binds_run {fm : Fm} {Q : PUnit → Shared → Prop} {E : Value → Shared → Prop} {K : St → Prop} (f : Str × Value → PUnit → Sem (ForInStep PUnit)) (hf : ∀ n v u, f (n, v) u = (do storeName fm.env n v; pure (.yield ⟨⟩))) :
    ∀ (bs : List (Str × AV)) (binds : List (Str × Value)) (s : Shared) (st : St), Rep R fm L st s → binds.map (·.1) = bs.map (·.1) → VRs L s.heap (bs.map (·.2)) (binds.map (·.2)) → Binds fm bs st K →
      (∀ s' st', Rep R fm L st' s' → K st' → Grow L L (own fm) s s' → Q ⟨⟩ s') → wpAny R.M A (forIn binds ⟨⟩ f) Q E s
  | [], [], s, st, P, _, _, h, k => by rw [List.forIn_nil]; exact wpAny_pure (k _ _ P h (Grow.refl ..))
  | [], _ :: _, _, _, _, e, _, _, _ => by simp at e
  | _ :: _, [], _, _, _, e, _, _, _ => by simp at e
  | (x, v) :: r, (y, v') :: r', s, st, P, e, hv, h, k => by
    simp only [List.map_cons, List.cons.injEq] at e
    obtain ⟨rfl, e⟩ := e
    rw [List.forIn_cons, hf]
    obtain ⟨st', hb, h⟩ := h
    cases hv with
    | cons hv hr =>
    refine wpAny_bind (wpAny_bind (store_bind hb P hv fun s₁ P₁ g₁ => wpAny_pure ?_))
    exact binds_run f hf r r' s₁ st' P₁ e (hr.mono (List.prefix_refl _) (P.stays g₁)) h fun s' st'' P' hK g' => k _ _ P' hK (g₁.trans g' own_ok)

theorem newEnv_run {scope : Scope} {closure : List (Str × Addr)} {binds : List (Str × Value)} {qual : Str} {self : Addr} {code : Value} {ρ₀ : Loc} {bs : List (Str × AV)} {K : Env → St → Prop}
    (H : HR R L σ s) (hkind : scope.kind = .function)
    (hρ : ∀ x b, Look ρ₀ x b → ∃ n, b = .cel n ∧ (scope.names.lookup x = some .cell ∨ scope.names.lookup x = some .free) ∧ ∃ a, closure.lookup x = some a ∧ L[n]? = some a)
    (hc : ∀ y ∈ scope.names, y.2 = .cell → scope.names.lookup y.1 = some .cell)
    (hb : binds.map (·.1) = bs.map (·.1)) (hv : VRs L s.heap (bs.map (·.2)) (binds.map (·.2)))
    (h : Lay scope.names σ ρ₀ fun σ' ρ' => ∀ env : Env, env.code = code → Binds ⟨scope, env⟩ bs ⟨ρ', σ'⟩ (K env)) {Q : Env → Shared → Prop} {E : Value → Shared → Prop}
    (k : ∀ env s' L' st', K env st' → env.code = code → Rep R ⟨scope, env⟩ L' st' s' → Grow L L' [] s s' → s.heap.get? env.locals = none → Q env s') :
    wpAny R.M A (newFunctionEnv scope mainGlobals closure binds qual (some self) code none builtinsNs) Q E s := by
  simp only [newFunctionEnv, Option.isSome_none, Bool.false_eq_true, if_false]
  refine wpAny_bind (wpAny_alloc ?_)
  have hkp : ∀ b o, s.heap.get? b = some o → (s.heap.push { cls := .type "frame", data := .dict #[] }).get? b = some o := fun b o e => Heap.get?_push_of_some _ e
  have H1 := H.more (tk := s.toks) hkp
  have g1 := Grow.more (L := L) (own := []) (tk := s.toks) hkp
  have a0 : s.heap.get? s.heap.objs.size = none := get_size_none _
  refine wpAny_bind (lay_run (env := default) (scope := scope) _ (fun name kind cells => by cases hkc : kind == NameKind.cell <;> simp [hkc]) _ _ _ _ _ ρ₀ H1 hc hρ h fun acc s₁ L₁ σ₁ ρ₁ H₁ hK hkp₁ g₁ hρ₁ => ?_)
  refine wpAny_bind ?_
  let env : Env := { scope, locals := s.heap.objs.size, globals := mainGlobals, cells := acc, qual, func := some self, code, frame := some s.heap.objs.size, builtins := builtinsNs }
  have F : FR R L₁ ⟨scope, env⟩ ρ₁ s₁ := by
    refine ⟨⟨rfl, hkind, rfl, rfl, H.fresh_old a0⟩, ⟨fun _ => none, (Heap.Ns.new s.heap (.type "frame")).keeps hkp₁, fun x v hl => ?_⟩, fun x n hl => ?_⟩
    · obtain ⟨n, e, _⟩ := hρ₁ _ _ hl; cases e
    · obtain ⟨n', e, hk, r⟩ := hρ₁ _ _ hl; cases e
      exact ⟨hk, r⟩
  have g01 := g1.trans g₁ own_nil
  refine binds_run (fm := ⟨scope, env⟩) _ (fun _ _ _ => rfl) bs binds s₁ ⟨ρ₁, σ₁⟩ ⟨H₁, F⟩ hb (hv.mono g01.pre (H.stays0 g01)) (hK env rfl) fun s' st' P' hK' g' => wpAny_pure ?_
  exact k env s' L₁ st' hK' rfl P' ((g01.weaken own_nil).trans g' (own := []) fun a ha => .inr (by
    obtain rfl : a = s.heap.objs.size := by simpa [own] using ha
    exact a0)) a0

/-- a body -/
noncomputable def Body (R : RT) (d : Nat) (fm : Fm) (fb : FuncBody) (st : St) (K : AV → Sto → Prop) : Prop := match fb with
  | .stmts b => Exs R d fm b st fun o st' => match o with | .next => K .none st'.σ | .ret v => K v st'.σ | _ => False
  | .expr e => Ev R d fm e st fun v st' => K v st'.σ

theorem Room.deeper {env : Env} (r : Room (d + 1) A) : Room d (A.deeper env) := by
  have h1 := r.depth; have h2 := r.units
  exact ⟨by show A.depth + 1 + d < _; lia, by show A.units + 3 + 10 * d < _; lia, r.handled⟩

/-- how arguments are bound -/
noncomputable def BindR (R : RT) (fd : FuncData) (args : List AV) (kw : List (Str × AV)) (bs : List (Str × AV)) : Prop :=
  ∀ L (s : Shared) args' kv', OldK R.h₀ s.heap → VRs L s.heap args args' → VRs L s.heap (kw.map (·.2)) kv' →
    ∃ binds, BindsTo s fd ⟨args', (kw.map (·.1)).zip kv'⟩ binds ∧ binds.map (·.1) = bs.map (·.1) ∧ VRs L s.heap (bs.map (·.2)) (binds.map (·.2))

theorem call_core {a : Addr} {o : Obj} {fd : FuncData} {args' kv' : List Value} {args : List AV} {kw bs : List (Str × AV)} {ρ₀ : Loc} {K : AV → Sto → Prop} (hlim : R.h₀.NoLimit)
    (ho : s.heap.get? a = some o) (hd' : o.data = .func fd) (hcd : CodeOk s.heap fd.code) (hgl : fd.globals = mainGlobals) (hbi : fd.builtins = builtinsNs)
    (hco : fd.scope.isCoroutine = false) (hgen : fd.scope.isGenerator = false) (hkind : fd.scope.kind = .function)
    (hc : ∀ y ∈ fd.scope.names, y.2 = .cell → fd.scope.names.lookup y.1 = some .cell)
    (hρ : ∀ x b, Look ρ₀ x b → ∃ n, b = .cel n ∧ (fd.scope.names.lookup x = some .cell ∨ fd.scope.names.lookup x = some .free) ∧ ∃ a, fd.closure.lookup x = some a ∧ L[n]? = some a)
    (hbind : BindR R fd args kw bs)
    (h : Lay fd.scope.names σ ρ₀ fun σ' ρ' => ∀ env : Env, env.code = fd.code → Binds ⟨fd.scope, env⟩ bs ⟨ρ', σ'⟩ fun st => Body R d ⟨fd.scope, env⟩ fd.body st K)
    (r : Room (d + 1) A) (ht : 0 < s.toks) (H : HR R L σ s) (ha : VRs L s.heap args args') (hkw : VRs L s.heap (kw.map (·.2)) kv') {Q : Value → Shared → Prop} {E : Value → Shared → Prop}
    (k : ∀ v' s' L' v σ', K v σ' → HR R L' σ' s' → VR L' s'.heap v v' → Grow L L' [] s s' → Q v' s') : wpAny R.M A (call (.ref a) args' ((kw.map (·.1)).zip kv')) Q E s := by
  refine wpAny_call (codeAny_of_tree ?_)
  show wpAny _ A.in1 (callAny (.ref a) ⟨args', (kw.map (·.1)).zip kv'⟩) _ _ s
  simp only [callAny]
  refine wpAny_bind (wpAny_load ho ?_)
  obtain ⟨q, ⟨c, oc, vs, tq, hcc, hoc, hdc, hq⟩, _⟩ := hcd
  simp only [hd', callFunction, hco, hgen, hcc]
  refine wpAny_bind (m := field (.ref c) 1) (wpAny_field hoc hdc hq (wpAny_bind (wpAny_pure ?_)))
  obtain ⟨binds, hB, hb1, hb2⟩ := hbind L s args' kv' H.old ha hkw
  rw [hgl, hbi, ← hcc]
  refine wpAny_bind (hB _ _ _ _ ?_)
  refine wpAny_bind (with_pos ht fun E' => newEnv_run H hkind hρ hc hb1 hb2 h fun env s₁ L₁ st₁ hK he P₁ g₁ hfr t₁ => ?_)
  refine wpAny_bind (wpAny_enterFrame (nolimit_of P₁.1.old hlim) r.lt ?_)
  have g_own : ∀ {L₂ s₂}, Grow L₁ L₂ (own (Fm.mk fd.scope env)) s₁ s₂ → Grow L L₂ [] s s₂ := fun g => g₁.trans g fun a ha => .inr (by
    obtain rfl : a = env.locals := by simpa [own] using ha
    exact hfr)
  cases hbd : fd.body with
  | stmts b =>
    rw [hbd] at hK
    refine wpAny_pure (And.intro rfl ?_)
    refine codeAny_func (Exs.run (hK : Exs R d ⟨fd.scope, env⟩ b st₁ _) r.deeper t₁ P₁ fun f s₂ L₂ o st₂ hk t₂ P₂ hf g₂ _ => ?_)
    cases o <;> cases f <;> (try exact hf.elim) <;> (try exact hk.elim)
    · exact k _ _ _ _ _ hk P₂.1 .none (g_own g₂)
    · exact k _ _ _ _ _ hk P₂.1 hf (g_own g₂)
  | expr e =>
    rw [hbd] at hK
    refine wpAny_pure (And.intro rfl ?_)
    refine codeAny_of_tree (wpAny_bind (m := point) (wpAny_point (wpAny_bind (wpAny_onRaise ?_))))
    exact Ev.run (hK : Ev R d ⟨fd.scope, env⟩ e st₁ _) r.deeper t₁ P₁ fun v' s₂ L₂ v st₂ hk t₂ P₂ hv g₂ _ => wpAny_pure (k _ _ _ _ _ hk P₂.1 hv (g_own g₂))

/-- a def that stands at an address of the old heap -/
structure FnAt (R : RT) (a : Addr) (fd : FuncData) : Prop where
  obj : ∃ o, R.h₀.get? a = some o ∧ o.cls = .type "function" ∧ o.data = .func fd
  code : CodeOk R.h₀ fd.code
  globals : fd.globals = mainGlobals
  builtins : fd.builtins = builtinsNs
  clos : fd.closure = []

theorem old_stays {h₀ h : Heap} (K : OldK h₀ h) : Stays h₀ h := fun b o e hf => K.get_of_cls e hf.cls

theorem Calls.fn {a : Addr} {fd : FuncData} {args : List AV} {kw bs : List (Str × AV)} {K : AV → Sto → Prop} (hlim : R.h₀.NoLimit) (F : FnAt R a fd)
    (hbind : BindR R fd args kw bs)
    (hco : fd.scope.isCoroutine = false) (hgen : fd.scope.isGenerator = false) (hkind : fd.scope.kind = .function)
    (hc : ∀ y ∈ fd.scope.names, y.2 = .cell → fd.scope.names.lookup y.1 = some .cell)
    (h : Lay fd.scope.names σ [] fun σ' ρ' => ∀ env : Env, env.code = fd.code → Binds ⟨fd.scope, env⟩ bs ⟨ρ', σ'⟩ fun st => Body R d ⟨fd.scope, env⟩ fd.body st K) :
    Calls R (d + 1) (.raw (.ref a)) args kw σ K :=
  fun A L s f' args' kv' r ht H hf ha hkw Q E k => by
    obtain rfl := hf.raw_inv
    obtain ⟨o, h1, h2, h3⟩ := F.obj
    exact call_core hlim (H.old.get_of_cls h1 (by rw [h2]; simp)) h3 (F.code.mono (old_stays H.old)) F.globals F.builtins hco hgen hkind hc (fun x b hl => by cases hl) hbind h r ht H ha hkw k

/-- the call of a closure -/
theorem Calls.clo {name : Str} {params : Arguments} {body : PySem.Expr} {scope : Scope} {cells : List (Str × Nat)} {args : List AV} {kw bs : List (Str × AV)} {K : AV → Sto → Prop} (hlim : R.h₀.NoLimit)
    (hbind : ∀ cl qn ct cd pm doc an, BindR R (closFd name params body scope cl qn ct cd pm doc an) args kw bs)
    (hco : scope.isCoroutine = false) (hgen : scope.isGenerator = false) (hkind : scope.kind = .function)
    (hc : ∀ y ∈ scope.names, y.2 = .cell → scope.names.lookup y.1 = some .cell) (hfree : ∀ p ∈ cells, scope.names.lookup p.1 = some .free)
    (h : Lay scope.names σ (cells.map fun p => (p.1, .cel p.2)) fun σ' ρ' => ∀ env : Env, Binds ⟨scope, env⟩ bs ⟨ρ', σ'⟩ fun st => Ev R d ⟨scope, env⟩ body st fun v st' => K v st'.σ) :
    Calls R (d + 1) (.clo name params body scope cells) args kw σ K :=
  fun A L s f' args' kv' r ht H hf ha hkw Q E k => by
    cases hf with
    | clo ho hcl hd' hcells hcode =>
    rename_i cl qn ct cd pm doc an
    have hcap : ∀ {cells : List (Str × Nat)} {cl : List (Str × Addr)}, CellsR L cells cl → (∀ p ∈ cells, scope.names.lookup p.1 = some .free) → ∀ x b, Look (cells.map fun p => (p.1, Bnd.cel p.2)) x b →
        ∃ n, b = .cel n ∧ (scope.names.lookup x = some .cell ∨ scope.names.lookup x = some .free) ∧ ∃ a, cl.lookup x = some a ∧ L[n]? = some a := by
      intro cells cl C
      induction C with
      | nil => intro _ x b hl; cases hl
      | cons e C ih =>
        intro hfr x b hl
        cases hl with
        | here => exact ⟨_, rfl, .inr (hfr _ (by simp)), _, by rw [List.lookup_cons, beq_self_eq_true], e⟩
        | there ne hl =>
          obtain ⟨n, e', hk, a, h1, h2⟩ := ih (fun p hp => hfr p (List.mem_cons_of_mem _ hp)) x b hl
          exact ⟨n, e', hk, a, by rw [List.lookup_cons, beq_eq_false_iff_ne.mpr ne]; exact h1, h2⟩
    have hL : Lay scope.names σ (cells.map fun p => (p.1, .cel p.2)) fun σ' ρ' => ∀ env : Env, env.code = cd → Binds ⟨scope, env⟩ bs ⟨ρ', σ'⟩ fun st => Body R d ⟨scope, env⟩ (.expr body) st K := by
      have mono : ∀ {names : List (Str × NameKind)} {σ : Sto} {ρ : Loc} {K K' : Sto → Loc → Prop}, (∀ σ ρ, K σ ρ → K' σ ρ) → Lay names σ ρ K → Lay names σ ρ K' := by
        intro names
        induction names with
        | nil => intro σ ρ K K' hk h; exact hk _ _ h
        | cons p r ih =>
          intro σ ρ K K' hk h
          obtain ⟨x, kd⟩ := p
          cases kd <;> first | exact fun n hn => ih hk (h n hn) | exact ih hk (show Lay r σ ρ K from h)
      exact mono (fun σ' ρ' h env _ => h env) h
    exact call_core (fd := closFd name params body scope cl qn ct cd pm doc an) hlim ho hd' hcode rfl rfl hco hgen hkind hc (hcap hcells hfree) (hbind cl qn ct cd pm doc an : BindR R _ _ _ _) hL r ht H ha hkw k
end

/-- the cells that a lambda catches, in the order in which it keeps them -/
inductive CapL (ρ : Loc) : List (Str × NameKind) → List (Str × Nat) → List (Str × Nat) → Prop
  | nil {acc} : CapL ρ [] acc acc
  | skip {x k r acc cells} : k ≠ .free → CapL ρ r acc cells → CapL ρ ((x, k) :: r) acc cells
  | take {x n r acc cells} : Look ρ x (.cel n) → CapL ρ r ((x, n) :: acc) cells → CapL ρ ((x, .free) :: r) acc cells

structure Top0 (R : RT) : Prop where
  nolim : R.h₀.NoLimit
  globs : ∃ mg, R.h₀.Ns mainGlobals mg ∧ (∀ o, R.h₀.get? mainGlobals = some o → o.cls ≠ .none) ∧
    ∃ bm o, mg "__builtins__" = some (.ref bm) ∧ bm ≠ builtinsNs ∧ bm ≠ mainGlobals ∧ R.h₀.get? bm = some o ∧ o.cls = .type "module" ∧ o.dict = some builtinsNs ∧ o.data = .plain
  tabs : ∀ c P, (c, P) ∈ R.tabs → (∃ ps, R.h₀.TableAt c P ps) ∧ P ≠ cStatics

section
variable {R : RT} {L L' : List Addr} {σ : Sto} {s s' : Shared} {d : Nat} {fm : Fm} {ρ : Loc} {st : St} {A : Around}

theorem capL_closure {scope : Scope} {cells : List (Str × Nat)} (F : FR R L fm ρ s) (c : CapL ρ scope.names [] cells) : ∃ cl, closureFor scope fm.env = pure cl ∧ CellsR L cells cl := by
  have key : ∀ {names : List (Str × NameKind)} {acc cells : List (Str × Nat)} (acc' : List (Str × Addr)), CapL ρ names acc cells → CellsR L acc acc' →
      ∃ cl, (forIn names acc' fun x cs => if (x.2 == NameKind.free) = true then do let a ← cellOf fm.env x.1; pure (ForInStep.yield ((x.1, a) :: cs)) else pure (ForInStep.yield cs) : Sem (List (Str × Addr))) = pure cl ∧ CellsR L cells cl := by
    intro names acc cells acc' c
    induction c generalizing acc' with
    | nil => intro C; exact ⟨acc', by rw [List.forIn_nil], C⟩
    | @skip x k r acc cells hk _ ih =>
      intro C
      obtain ⟨cl, e, C'⟩ := ih acc' C
      refine ⟨cl, ?_, C'⟩
      rw [List.forIn_cons]
      have : (k == NameKind.free) = false := by simpa using hk
      simp only [this, Bool.false_eq_true, if_false]
      exact e
    | take hl _ ih =>
      intro C
      obtain ⟨_, a, ha, hL⟩ := F.cel _ _ hl
      obtain ⟨cl, e, C'⟩ := ih ((_, a) :: acc') (.cons hL C)
      refine ⟨cl, ?_, C'⟩
      rw [List.forIn_cons]
      simp only [cellOf, ha, beq_self_eq_true, if_true]
      exact e
  obtain ⟨cl, e, C⟩ := key [] c .nil
  refine ⟨cl, ?_, C⟩
  unfold closureFor
  simp only [bind_pure]
  exact e

theorem mk_lambda {M : Model} {E : Value → Shared → Prop} {name qual : Str} {params : Arguments} {body : PySem.Expr} {scope : Scope} {env : Env} {c P : Addr} {ps : Array Value} {pos : Pos} {firstLine : Nat} {mg : Str → Option Value}
    {clos : List (Str × Addr)} {Q : Value → Shared → Prop} (hcl : closureFor scope env = pure clos) (hge0 : env.globals = mainGlobals) (hg : s.heap.Ns mainGlobals mg) (hcode : env.code = .ref c) (C : s.heap.IsCode c P ps) (T : s.heap.TableAt c P ps)
    (hnf : codeAmong pos ps.toList = none) (hgP : mainGlobals ≠ P) (hb : s.heap.BuiltinsAt mg P)
    (h : ∀ c' ctv h' tk, Heap.ExtBut P s.heap h' → (∃ oc, h'.get? c' = some oc ∧ oc.cls = .type "code") → h'.CodeRec (.ref c') qual → h'.IsCode c P (ps ++ #[rawInt pos.line, rawInt pos.col, .ref c']) → h'.TableAt c P (ps ++ #[rawInt pos.line, rawInt pos.col, .ref c']) →
      Q (.ref h'.objs.size) { s with heap := h'.push { cls := .type "function", data := .func (closFd name params body scope clos qual ctv (.ref c') ((mg "__name__").getD .none) .none none) }, toks := tk }) :
    wpAny M A (makeFunction name qual params (.expr body) scope env [] [] [] pos firstLine) Q E s := by
  rw [makeFunction_eq]
  simp only [List.zip_nil_right, List.filterMap_nil, List.isEmpty_nil, if_true, pure_bind]
  obtain ⟨bm, ob, hbm, hne0, _, hneP, hbo, hcls, hdict, hdata⟩ := hb
  unfold makeTail
  rw [hcl, hge0]
  refine wpAny_bind (wpAny_pure ?_)
  cases clos with
  | nil =>
    simp only [List.isEmpty_nil, if_true]
    refine wpAny_bind (wpAny_pure (wpAny_bind (wpAny_functionCodeX hcode C T hnf fun c' h' tk hx hge hlt hC hrec htb hP' => ?_)))
    have hg' := hg.extBut hx hgP
    refine wpAny_bind (wpAny_builtinsFor hg' hbm hne0 (hx _ _ hneP hbo) hcls hdict hdata (wpAny_bind (wpAny_nsGet hg' ?_)))
    obtain ⟨P', _, _, ⟨oc, _, e1, e2, _⟩, _⟩ := hP'
    exact wpAny_bind (wpAny_pure (wpAny_newObj_type (h c' .none h' tk hx ⟨oc, e1, e2⟩ hrec hC htb) (by size_fits)))
  | cons q r =>
    simp only [List.isEmpty_cons, Bool.false_eq_true, if_false]
    refine wpAny_bind (wpAny_newTextTuple (wpAny_bind (wpAny_functionCodeX hcode (C.push _) (T.push _) hnf fun c' h' tk hx hge hlt hC hrec htb hP' => ?_)))
    have hg' := (hg.push _).extBut hx hgP
    have hx' : Heap.ExtBut P s.heap h' := fun b o hb' e => hx b o hb' (Heap.get?_push_of_some _ e)
    refine wpAny_bind (wpAny_builtinsFor hg' hbm hne0 (hx' _ _ hneP hbo) hcls hdict hdata (wpAny_bind (wpAny_nsGet hg' ?_)))
    obtain ⟨P', _, _, ⟨oc, _, e1, e2, _⟩, _⟩ := hP'
    exact wpAny_bind (wpAny_pure (wpAny_newObj_type (h c' _ h' tk hx' ⟨oc, e1, e2⟩ hrec hC htb) (by size_fits)))

theorem mk_lambda_hit {M : Model} {E : Value → Shared → Prop} {name qual : Str} {params : Arguments} {body : PySem.Expr} {scope : Scope} {env : Env} {c P : Addr} {ps : Array Value} {pos : Pos} {firstLine : Nat} {mg : Str → Option Value}
    {clos : List (Str × Addr)} {Q : Value → Shared → Prop} {cv : Value} (hcl : closureFor scope env = pure clos) (hge0 : env.globals = mainGlobals) (hg : s.heap.Ns mainGlobals mg) (hcode : env.code = .ref c) (C : s.heap.IsCode c P ps)
    (hf : codeAmong pos ps.toList = some cv) (hb : s.heap.BuiltinsAt mg P)
    (h : ∀ (ctv : Value) (h' : Heap) (tk : Tok), (∀ b o, s.heap.get? b = some o → h'.get? b = some o) →
      Q (.ref h'.objs.size) { s with heap := h'.push { cls := .type "function", data := .func (closFd name params body scope clos qual ctv cv ((mg "__name__").getD .none) .none none) }, toks := tk }) :
    wpAny M A (makeFunction name qual params (.expr body) scope env [] [] [] pos firstLine) Q E s := by
  rw [makeFunction_eq]
  simp only [List.zip_nil_right, List.filterMap_nil, List.isEmpty_nil, if_true, pure_bind]
  obtain ⟨bm, ob, hbm, hne0, _, hneP, hbo, hcls, hdict, hdata⟩ := hb
  unfold makeTail
  rw [hcl, hge0]
  refine wpAny_bind (wpAny_pure ?_)
  cases clos with
  | nil =>
    simp only [List.isEmpty_nil, if_true]
    refine wpAny_bind (wpAny_pure (wpAny_bind (wpAny_functionCode_hit hcode C hf (wpAny_bind (wpAny_builtinsFor hg hbm hne0 hbo hcls hdict hdata (wpAny_bind (wpAny_nsGet hg ?_)))))))
    exact wpAny_bind (wpAny_pure (wpAny_newObj_type (h .none s.heap s.toks (fun _ _ e => e)) (by size_fits)))
  | cons q r =>
    simp only [List.isEmpty_cons, Bool.false_eq_true, if_false]
    refine wpAny_bind (wpAny_newTextTuple (wpAny_bind (wpAny_functionCode_hit hcode (C.push _) hf (wpAny_bind (wpAny_builtinsFor (hg.push _) hbm hne0 (Heap.get?_push_of_some _ hbo) hcls hdict hdata (wpAny_bind (wpAny_nsGet (hg.push _) ?_)))))))
    exact wpAny_bind (wpAny_pure (wpAny_newObj_type (h _ _ s.toks (fun b o e => Heap.get?_push_of_some _ e)) (by size_fits)))

/-- a code table is written -/
theorem HR.table (H : HR R L σ s) (T0 : Top0 R) {c P : Addr} (hm : (c, P) ∈ R.tabs) {ps more : Array Value} (T : s.heap.TableAt c P ps) {h' : Heap} {tk : Tok} (hx : Heap.ExtBut P s.heap h')
    (C' : h'.IsCode c P (ps ++ more)) (T' : h'.TableAt c P (ps ++ more)) (hnew : ∀ pos c', codeAmong pos (ps ++ more).toList = some c' → codeAmong pos ps.toList = some c' ∨ CodeOk h' c') : HR R L σ { s with heap := h', toks := tk } := by
  obtain ⟨⟨ps₀, T₀⟩, hPs⟩ := T0.tabs c P hm
  have fr : ∀ o, s.heap.get? P = some o → ¬ Fixed o := fun o e hf => by
    rw [T.2] at e; cases e
    exact hf.cls rfl
  have st : Stays s.heap h' := Stays.extBut hx fr
  have hL : ∀ a ∈ L, a ≠ P := fun a ha q => (H.tabs c P hm).1 (q ▸ H.new a ha)
  refine ⟨H.old.step_table T₀ T T' hx hPs, H.bare, H.os, H.nodup, H.new, fun a ha => ?_, fun n cc e => ?_, fun c' P' hm' => ?_⟩
  · obtain ⟨o, e, h⟩ := H.kind a ha
    exact ⟨o, hx _ _ (hL a ha) e, h⟩
  · obtain ⟨a, h1, h2⟩ := H.at_ n cc e
    have ha := List.mem_of_getElem? h1
    obtain ⟨o, e, _⟩ := H.kind a ha
    exact ⟨a, h1, h2.of_same (List.prefix_refl _) ((hx _ _ (hL a ha) e).trans e.symm) st⟩
  · obtain ⟨h1, h2⟩ := H.tabs c' P' hm'
    refine ⟨h1, ?_⟩
    obtain ⟨⟨o, e⟩, o', e'⟩ := h2.there
    have hc'P : c' ≠ P := by
      rintro rfl
      obtain ⟨_, _, ⟨⟨o₁, _, e1, e2, _⟩, _⟩, _⟩ := h2
      rw [T.2] at e1; cases e1; cases e2
    by_cases hP : P' = P
    · subst hP
      obtain ⟨ps', ⟨o₁, vs, file, tf, flags, tg, inF, text, tt, op, a1, a2, a3, a4, a5, a6, a7, a8, a9, a10, a11⟩, ⟨⟨o₂, vs₂, b1, b2, b3, b4⟩, b5⟩, hk⟩ := h2
      have : ps' = ps := by
        have := Option.some.inj (b5.symm.trans T.2); injection this with _ _ h3; injection h3
      subst this
      obtain ⟨_, _, _, _, _, _, _, _, _, op', _, _, _, _, _, _, _, c8, c9, c10, _⟩ := C'
      refine ⟨ps' ++ more, ⟨o₁, vs, file, tf, flags, tg, inF, text, tt, op', hx _ _ hc'P a1, a2, a3, a4, a5, a6, a7, c8, c9, c10, a11⟩, ⟨⟨o₂, vs₂, hx _ _ hc'P b1, b2, b3, b4⟩, T'.2⟩, fun pos c₁ he => ?_⟩
      rcases hnew pos c₁ he with h | h
      · exact (hk pos c₁ h).mono st
      · exact h
    · exact h2.of_same ((hx _ _ hc'P e).trans e.symm) ((hx _ _ hP e').trans e'.symm) st

theorem codeAmong_snoc_inv {pos p : Pos} {c c' : Value} (l : List Value) (h : TriplesOk l) : codeAmong pos (l ++ [rawInt p.line, rawInt p.col, c]) = some c' → codeAmong pos l = some c' ∨ c' = c := by
  fun_induction TriplesOk l with
  | case1 =>
    simp only [List.nil_append, codeAmong, rawInt]
    intro e
    split at e
    · cases e; exact .inr rfl
    · cases e
  | case2 a t b u x rest ih =>
    simp only [List.cons_append, codeAmong]
    intro e
    split at e
    · rename_i hb; cases e; rw [if_pos hb]; exact .inl rfl
    · rename_i hb; rw [if_neg hb]; exact ih h e
  | case3 l h1 h2 => exact h.elim

theorem Ev.lambda {params : Arguments} {body : PySem.Expr} {scope : Scope} {pos : Pos} {cells : List (Str × Nat)} {c P : Addr} {K : AV → St → Prop} (T0 : Top0 R) (hm : (c, P) ∈ R.tabs) (hcode : fm.env.code = .ref c)
    (hdef : ∀ env, defaultsOf params env = ([], [])) (hcap : CapL st.ρ scope.names [] cells) (k : K (.clo "<lambda>" params body scope cells) st) : Ev R d fm (.Lambda params body scope pos) st K :=
  fun A L s r ht Pr Q E k' => by
    show wpAny R.M A (eval (.Lambda params body scope pos) fm.env) Q E s
    rw [arm_eval_Lambda, hdef]
    refine wpAny_bind (m := evalAll []) (wpAny_pure (wpAny_bind (m := holding [] (evalAllOpt [])) (wpAny_holding (wpAny_pure ?_))))
    obtain ⟨hP0, ps, C, T, hk⟩ := Pr.1.tabs c P hm
    obtain ⟨cl, hcl, hcells⟩ := capL_closure Pr.2 hcap
    obtain ⟨mg, hg0, hgc, bm, ob, b1, b2, b3, b4, b5, b6, b7⟩ := T0.globs
    have hg : s.heap.Ns mainGlobals mg := OldK.ns Pr.1.old hg0 hgc
    have hbo : s.heap.get? bm = some ob := Pr.1.old.get_of_cls b4 (by rw [b5]; simp)
    have hbP : bm ≠ P := fun q => by
      rw [q, T.2] at hbo; cases hbo; cases b5
    have hgP : mainGlobals ≠ P := fun q => by
      obtain ⟨o, _, _, e, hd, _⟩ := hg
      rw [q, T.2] at e; cases e; cases hd
    have hb : s.heap.BuiltinsAt mg P := ⟨bm, ob, b1, b2, b3, hbP, hbo, b5, b6, b7⟩
    have fin : ∀ (h' : Heap) (tk : Tok) (qual : Str) (ctv cv pm : Value), Rep R fm L st { s with heap := h', toks := tk } → Grow L L (own fm) s { s with heap := h', toks := tk } → CodeOk h' cv →
        Q (.ref h'.objs.size) { s with heap := h'.push { cls := .type "function", data := .func (closFd "<lambda>" params body scope cl qual ctv cv pm .none none) }, toks := tk } := fun h' tk qual ctv cv pm P' g' hc' => by
      have hp : ∀ b o, h'.get? b = some o → (h'.push { cls := .type "function", data := .func (closFd "<lambda>" params body scope cl qual ctv cv pm .none none) }).get? b = some o := fun b o e => Heap.get?_push_of_some _ e
      exact k' _ _ L _ st k (P'.more (tk := tk) hp) (.clo (Heap.get?_push_size _ rfl) rfl rfl hcells (hc'.mono (.of_keep hp))) (g'.trans (Grow.more (tk := tk) hp) own_ok)
    cases hf : codeAmong pos ps.toList with
    | some cv =>
      exact mk_lambda_hit hcl Pr.2.ok.globals hg hcode C hf hb fun ctv h' tk hkp => fin h' tk _ ctv cv _ (Pr.more hkp) (Grow.more hkp) ((hk _ _ hf).mono (.of_keep hkp))
    | none =>
      refine mk_lambda hcl Pr.2.ok.globals hg hcode C T hf hgP hb fun c' ctv h' tk hx hoc hrec C' T' => ?_
      have hco : CodeOk h' (.ref c') := ⟨_, hrec, c', hoc.choose, rfl, hoc.choose_spec.1, hoc.choose_spec.2⟩
      have trip : TriplesOk ps.toList := by obtain ⟨_, _, _, _, _, _, _, _, _, _, _, _, _, _, _, _, _, _, _, h, _⟩ := C; exact h
      have H' := Pr.1.table T0 hm T (tk := tk) hx C' T' fun p c₁ he => by
        have e : (ps ++ #[rawInt pos.line, rawInt pos.col, Value.ref c']).toList = ps.toList ++ [rawInt pos.line, rawInt pos.col, .ref c'] := by simp
        rw [e] at he
        rcases codeAmong_snoc_inv _ trip he with h | rfl
        · exact .inl h
        · exact .inr hco
      have fr : ∀ o, s.heap.get? P = some o → ¬ Fixed o := fun o e hf => by
        rw [T.2] at e; cases e
        exact hf.cls rfl
      have hPl : P ≠ fm.env.locals := fun q => by
        obtain ⟨o, e, es, ep, hd⟩ := Pr.2.loc
        rw [← q, T.2] at e; cases e; cases hd
      have F' := Pr.2.side (s' := { s with heap := h', toks := tk }) hPl hx fr
      have g' : Grow L L (own fm) s { s with heap := h', toks := tk } := by
        refine ⟨List.prefix_refl _, fun _ h h' => absurd h h', fun b o e _ _ => ?_, fun b o e _ => ?_, fun _ _ e => e, Nat.le_refl _⟩
        · by_cases hb : b = P
          · subst hb
            rw [T.2] at e; cases e
            exact .inr ⟨rfl, ps, _, rfl, T'.2⟩
          · exact .inl (hx _ _ hb e)
        · by_cases hb : b = P
          · subst hb; exact ⟨_, T'.2⟩
          · exact ⟨o, hx _ _ hb e⟩
      exact fin h' tk _ ctv _ _ ⟨H', F'⟩ g' hco
end

/-- what the generator gives, from a place on -/
noncomputable def escs : Nat → Bool → List Nat → List (Nat × Str)
  | _, false, [] => []
  | i, true, [] => [(i - 1, "\\")]
  | i, true, c :: cs => (i, ("\\" : Str) ++ ⟨#[c]⟩) :: escs (i + 1) false cs
  | i, false, c :: cs => if (⟨#[c]⟩ : Str) == "\\" then escs (i + 1) true cs else (i, ⟨#[c]⟩) :: escs (i + 1) false cs

noncomputable def gTgt (q : Nat → Pos) : PySem.Expr := .Tuple [.Name "pos" (q 25), .Name "ch" (q 26)] 0 (q 27)
noncomputable def gYes (q : Nat → Pos) : List Stmt :=
  [.Expr (.Yield (some (.Tuple [.Name "pos" (q 2), .BinOp (.Constant (.str "\\") 0 (q 3)) .Add (.Name "ch" (q 4)) (q 5)] 0 (q 6))) (q 7)) (q 8),
   .Assign [.Name "escape" (q 9)] (.Constant (.bool false) 0 (q 10)) (q 11)]
noncomputable def gNo (q : Nat → Pos) : List Stmt :=
  [.If (.Compare (.Name "ch" (q 12)) [.Eq] [.Constant (.str "\\") 0 (q 13)] (q 14))
    [.Assign [.Name "escape" (q 15)] (.Constant (.bool true) 0 (q 16)) (q 17)]
    [.Expr (.Yield (some (.Tuple [.Name "pos" (q 18), .Name "ch" (q 19)] 0 (q 20))) (q 21)) (q 22)] (q 23)]
noncomputable def gLoop (q : Nat → Pos) : List Stmt := [.If (.Name "escape" (q 1)) (gYes q) (gNo q) (q 24)]
noncomputable def gBody (q : Nat → Pos) : List Stmt :=
  [.Assign [.Name "pos" (q 31)] (.Constant (.int 0) 0 (q 32)) (q 33),
   .Assign [.Name "escape" (q 34)] (.Constant (.bool false) 0 (q 35)) (q 36),
   .For (gTgt q) (.Call (.Name "enumerate" (q 37)) [.Name "addr" (q 38)] [] (q 39)) (gLoop q) [] (q 40),
   .If (.Name "escape" (q 41)) [.Expr (.Yield (some (.Tuple [.Name "pos" (q 42), .Constant (.str "\\") 0 (q 43)] 0 (q 44))) (q 45)) (q 46)] [] (q 47)]

/-- nothing but these objects is other -/
noncomputable def Out' (W : List Addr) (s₀ s : Shared) : Prop := ∃ h' tk, s = { s₀ with heap := h', toks := tk } ∧ ∀ b o, b ∉ W → s₀.heap.get? b = some o → h'.get? b = some o
theorem Out'.refl (W : List Addr) (s : Shared) : Out' W s s := ⟨s.heap, s.toks, rfl, fun _ _ _ e => e⟩
theorem Out'.step {W : List Addr} {s₀ s : Shared} (x : Out' W s₀ s) {h' : Heap} {tk : Nat} (hk : ∀ b o, b ∉ W → s.heap.get? b = some o → h'.get? b = some o) : Out' W s₀ { s with heap := h', toks := tk } := by
  obtain ⟨h₁, tk₁, rfl, hk₁⟩ := x
  exact ⟨h', tk, rfl, fun b o hb e => hk b o hb (hk₁ b o hb e)⟩

/-- one item -/
noncomputable def Item (h : Heap) (it : Nat × Str) (v : Value) : Prop := ∃ T ti u n, v = .ref T ∧ h.get? T = some { cls := .type "tuple", data := .seq #[.int it.1 ti, .str it.2 u] n }

/-- an object that may be written -/
noncomputable def Loose (h : Heap) (b : Addr) : Prop := ∃ o, h.get? b = some o ∧ ¬ Fixed o ∧ (o.cls ≠ .none ∨ DictO o)
theorem Loose.keeps {h h' : Heap} {b : Addr} (x : Loose h b) (hk : ∀ o, h.get? b = some o → h'.get? b = some o) : Loose h' b := let ⟨o, e, r⟩ := x; ⟨o, hk o e, r⟩

noncomputable def gProto (items : List (Nat × Str)) (W : List Addr) : Protocol := fun m s₀ v s kap =>
  (∃ it, items[items.length - 1 - m]? = some it ∧ Item s.heap it v) ∧ Out' W s₀ s ∧ (∀ b ∈ W, Loose s.heap b) ∧
    ∀ s'' : Shared, (∀ b ∈ W, ∀ o, s.heap.get? b = some o → s''.heap.get? b = some o) → kap (.send .none) s''
noncomputable def gEnd (W : List Addr) : GenEnd := fun n s₀ r s₁ => r = .ok (.ret .none) ∧ (n = 0 ∧ Out' W s₀ s₁)

/-- what a drawing walk of an enumerate keeps to -/
structure GW (prog : Program) (w : World) (e : Addr) (W₀ wr : List Addr) (x : Str) (St : Nat → Heap → Prop) : Prop where
  walk : ∀ A : Around, A.handled = none → ∃ Mid, WalksT prog w A e W₀ wr x.cps.size (fun i vals => ∃ t v, (∃ c u, x.cps[i]? = some c ∧ v = Value.str ⟨#[c]⟩ u) ∧ vals = #[.int i t, v]) St Mid
  loose : ∀ i h, St i h → ∀ b ∈ W₀, Loose h b
  fin : ∀ A : Around, A.handled = none → ∀ (s : Shared) (Q : Option Value → Shared → Prop) (E : Value → Shared → Prop), St x.cps.size s.heap →
    (∀ h', (∀ b o, b ∉ wr → s.heap.get? b = some o → h'.get? b = some o) → (∀ b ∈ W₀, Loose h' b) → Q none { s with heap := h' }) → wpAny (model prog w) A (pyNext (.ref e)) Q E s

section
variable {prog : Program} {w : World} {A : Around} {x : Str} {e : Addr} {W₀ wr : List Addr} {St : Nat → Heap → Prop} {env : Env} {q : Nat → Pos}

structure GEnv (env : Env) : Prop where
  kind : env.scope.kind = .function
  pos : env.kindOf "pos" = some .local
  ch : env.kindOf "ch" = some .local
  escape : env.kindOf "escape" = some .local
  addr : env.kindOf "addr" = some .local
  enumerate : env.kindOf "enumerate" = some .globalImplicit
  co : env.scope.isCoroutine = false

theorem GEnv.hp (g : GEnv env) : (env.scope.kind == .class || (env.scope.kind == .module && env.locals != env.globals)) = false := by rw [g.kind]; rfl
theorem GEnv.hi (g : GEnv env) : interactive env = false := by simp [interactive, g.kind]

/-- the frame between turns -/
noncomputable def GN (env : Env) (p : Nat) (esc : Bool) (h : Heap) : Prop := ∃ m t, h.Ns env.locals m ∧ m "pos" = some (.int p t) ∧ m "escape" = some (.bool esc)
/-- the state between turns -/
structure GS (env : Env) (W₀ : List Addr) (St : Nat → Heap → Prop) (i p : Nat) (esc : Bool) (h : Heap) : Prop where
  st : St i h
  ns : GN env p esc h

theorem dict_loose {h : Heap} {a : Addr} {m} (hn : h.Ns a m) : Loose h a := by
  obtain ⟨o', es, ep, e', hd, _⟩ := hn
  exact ⟨o', e', not_fixed_dict ⟨_, _, hd⟩, .inr ⟨_, _, hd⟩⟩

theorem gname {M : Model} {A : Around} {E : Value → Shared → Prop} {s : Shared} {n : Str} {pos : Pos} {m} {v : Value} {h₀ : Heap} (g : GEnv env) (hk : env.kindOf n = some .local) (hn : h₀.Ns env.locals m) (hv : m n = some v) {Q : Value → Shared → Prop} (h : Q v s) (hd : (n == ("__debug__" : Str)) = false := by decide) (hs : s.heap = h₀ := by rfl) : wpAny M A (eval (.Name n pos) env) Q E s :=
  wpAny_Name (wpAny_loadName_local g.kind hk (hs ▸ hn) hv h) hd


theorem seg_gbody (g : GEnv env) (G : GW prog w e W₀ wr x St) (hC : env.locals ∉ W₀) (items : List (Nat × Str)) {code : Code} {fs : List Frame} {K : Flow → Sem Fin} {H : Value → Sem Fin} {gd : Bool → Bool} {lv : List Value → List Value}
    (hfs : splitAtGen fs = none) (hfg : fs.any Frame.guarded = false) (hgd : gd false = false) {i c : Nat} {rest : List Nat} {esc : Bool} {done : List (Nat × Str)} {s₀ s : Shared}
    (hit : items = done ++ escs i esc (c :: rest)) (hst : St (i + 1) s.heap) (hn : ∃ m t u, s.heap.Ns env.locals m ∧ m "pos" = some (.int i t) ∧ m "escape" = some (.bool esc) ∧ m "ch" = some (.str ⟨#[c]⟩ u)) (hO : Out' (env.locals :: W₀) s₀ s)
    (hnext : ∀ (esc' : Bool) (done' : List (Nat × Str)) (s₀' s' : Shared), items = done' ++ escs (i + 1) esc' rest → GS env W₀ St (i + 1) i esc' s'.heap → Out' (env.locals :: W₀) s₀' s' →
      Seg (model prog w) A (gEnd (env.locals :: W₀)) (gProto items (env.locals :: W₀)) (escs (i + 1) esc' rest).length s₀' code (K .next) fs s') :
    Seg (model prog w) A (gEnd (env.locals :: W₀)) (gProto items (env.locals :: W₀)) (escs i esc (c :: rest)).length s₀ code ((execs (gLoop q) env).wrap K H gd lv) fs s := by
  obtain ⟨m, t, u, hn, hp, he, hc⟩ := hn
  obtain ⟨Mid, Wk⟩ := G.walk ⟨none, 0, none, none, 0⟩ rfl
  have one : (1 : Nat) + 1 ≤ sizeLine := by size_fits
  -- one yielding turn
  have yield : ∀ (y : Str) (rest' : List (Nat × Str)) (v : Value) (s' : Shared) (H' : Heap) (tk : Nat), items = done ++ (i, y) :: rest' → s' = { s with heap := H', toks := tk } → (∀ b o, s.heap.get? b = some o → H'.get? b = some o) → Item H' (i, y) v →
      ∀ kap : Resume → Shared → Prop, (∀ s'' : Shared, s''.heap.Ns env.locals m → St (i + 1) s''.heap → kap (.send .none) s'') → gProto items (env.locals :: W₀) rest'.length s₀ v s' kap := by
    intro y rest' v s' H' tk hit' hs' hk hI kap hkap
    subst hs'
    refine ⟨⟨(i, y), ?_, hI⟩, hO.step fun b o _ eo => hk b o eo, fun b hb => ?_, fun s'' hal => hkap s'' ?_ ?_⟩
    · have : items.length - 1 - rest'.length = done.length := by rw [hit']; simp
      rw [this, hit']; simp
    · rcases List.mem_cons.mp hb with rfl | hb
      · exact dict_loose (hn.at' fun o eo => hk _ _ eo)
      · exact G.loose _ _ (Wk.frame _ _ _ hst fun b _ o eo => hk b o eo) b hb
    · exact hn.at' fun o eo => hal _ (List.mem_cons_self ..) o (hk _ _ eo)
    · exact Wk.frame _ _ _ hst fun b hb o eo => hal b (List.mem_cons_of_mem _ hb) o (hk _ _ eo)
  refine seg_execs_cons ?_
  rw [exec_If]
  refine seg_bind_wrap (wpAny_standAt (seg_bind_wrap (wpAny_isTrue_value (gname g g.escape hn he (wpAny_truthy_bool ?_)))))
  cases esc with
  | true =>
    simp only [if_true]
    have hlen : (escs i true (c :: rest)).length = (escs (i + 1) false rest).length + 1 := rfl
    rw [hlen]
    refine seg_execs_cons ?_
    refine seg_Expr_Yield hfs hgd hfg ?_ g.co g.hi
    refine wpAny_Tuple (wpAny_items_cons (gname g g.pos hn hp (wpAny_items_cons (wpAny_BinOp (wpAny_Constant_str (gname g g.ch hn hc (PyProof.Rows.add_str (fun t' tk => wpAny_items_nil ?_) (show Str.length ("\\" : Str) + Str.length (⟨#[c]⟩ : Str) ≤ sizeLine from one))))))))
    refine ⟨by size_fits, fun kap hkap => ?_⟩
    refine yield _ _ _ _ _ _ hit rfl (fun b o eo => Heap.get?_push_of_some _ eo) ⟨_, _, _, _, rfl, Heap.get?_push_size _ rfl⟩ kap fun s'' hn'' hst'' => hkap .none s'' ?_
    refine seg_execs_cons (seg_wrap (wpAny_Assign_Name (wpAny_Constant_bool (wpAny_storeName_local g.escape hn'' (fun h3 hn3 hs3 => ?_) g.hp))))
    refine seg_execs_nil (seg_execs_nil ?_)
    refine hnext false (done ++ [(i, ("\\" : Str) ++ ⟨#[c]⟩)]) s'' _ (by rw [hit]; simp [escs]) ⟨Wk.frame _ _ _ hst'' fun b hb o eo => hs3.extBut b o (fun hq => hC (hq ▸ hb)) eo, _, t, hn3, (if_neg (by decide)).trans hp, if_pos rfl⟩ ?_
    exact (Out'.refl _ s'').step fun b o hb eo => hs3.extBut b o (fun hq => hb (hq ▸ List.mem_cons_self ..)) eo
  | false =>
    simp only [Bool.false_eq_true, if_false]
    refine seg_execs_cons ?_
    rw [exec_If]
    refine seg_bind_wrap (wpAny_standAt (seg_bind_wrap (wpAny_isTrue_Compare1 (gname g g.ch hn hc (wpAny_Constant_str (PyProof.Rows.eq_str (wpAny_truthy_bool ?_)))))))
    cases hb : ((⟨#[c]⟩ : Str) == "\\") with
    | true =>
      simp only [if_true]
      have hl : escs i false (c :: rest) = escs (i + 1) true rest := by simp only [escs]; rw [if_pos hb]
      rw [hl] at hit ⊢
      refine seg_execs_cons (seg_wrap (wpAny_Assign_Name (wpAny_Constant_bool (wpAny_storeName_local g.escape hn (fun h3 hn3 hs3 => ?_) g.hp))))
      refine seg_execs_nil (seg_execs_nil (seg_execs_nil ?_))
      refine hnext true done s₀ _ hit ⟨Wk.frame _ _ _ hst fun b hb o eo => hs3.extBut b o (fun hq => hC (hq ▸ hb)) eo, _, t, hn3, (if_neg (by decide)).trans hp, if_pos rfl⟩ ?_
      exact hO.step fun b o hb eo => hs3.extBut b o (fun hq => hb (hq ▸ List.mem_cons_self ..)) eo
    | false =>
      simp only [Bool.false_eq_true, if_false]
      have hl : escs i false (c :: rest) = (i, ⟨#[c]⟩) :: escs (i + 1) false rest := by simp only [escs]; rw [if_neg (by rw [hb]; simp)]
      rw [hl] at hit ⊢
      rw [List.length_cons]
      refine seg_execs_cons ?_
      refine seg_Expr_Yield hfs hgd hfg ?_ g.co g.hi
      refine wpAny_Tuple (wpAny_items_cons (gname g g.pos hn hp (wpAny_items_cons (gname g g.ch hn hc (wpAny_items_nil ?_)))))
      refine ⟨by size_fits, fun kap hkap => ?_⟩
      refine yield _ _ _ _ _ _ hit rfl (fun b o eo => Heap.get?_push_of_some _ eo) ⟨_, _, _, _, rfl, Heap.get?_push_size _ rfl⟩ kap fun s'' hn'' hst'' => hkap .none s'' ?_
      refine seg_execs_nil (seg_execs_nil (seg_execs_nil ?_))
      exact hnext false (done ++ [(i, ⟨#[c]⟩)]) s'' _ (by rw [hit]; simp) ⟨hst'', _, t, hn'', hp, he⟩ (Out'.refl _ s'')

theorem seg_gloop (g : GEnv env) (hh : A.handled = none) (G : GW prog w e W₀ wr x St) (hC : env.locals ∉ W₀) (items : List (Nat × Str)) {k : Result → Sem Fin} {l : List Value} {p : Pos} {fc : Code}
    (hend : ∀ (esc : Bool) (done : List (Nat × Str)) (s₀ s : Shared) (i : Nat), items = done ++ escs i esc [] → GN env (i - 1) esc s.heap → (∀ b ∈ W₀, Loose s.heap b) → Out' (env.locals :: W₀) s₀ s →
      Seg (model prog w) A (gEnd (env.locals :: W₀)) (gProto items (env.locals :: W₀)) (escs i esc []).length s₀ fc (k (.ok .next)) [] s) :
    ∀ (rest : List Nat) (i : Nat) (esc : Bool) (done : List (Nat × Str)) (s₀ s : Shared), x.cps.toList.drop i = rest → i ≤ x.cps.size → items = done ++ escs i esc rest → GS env W₀ St i (i - 1) esc s.heap → Out' (env.locals :: W₀) s₀ s →
      Seg (model prog w) A (gEnd (env.locals :: W₀)) (gProto items (env.locals :: W₀)) (escs i esc rest).length s₀ (.forLoop (gTgt q) (.ref e) (gLoop q) [] env)
        ((model prog w).den (.forLoop (gTgt q) (.ref e) (gLoop q) [] env)) [.ret k none false l fc p []] s := by
  have hh' : (A.over (.forLoop (gTgt q) (.ref e) (gLoop q) [] env) [.ret k none false l fc p []]).handled = none := hh
  obtain ⟨Mid, Wk⟩ := G.walk _ hh'
  intro rest
  induction rest with
  | nil =>
    intro i esc done s₀ s hr hi hit X hO
    have hin : i = x.cps.size := by
      have := congrArg List.length hr
      simp at this; lia
    show Seg _ A _ _ _ s₀ _ ((forTurn (gTgt q) (.ref e) (gLoop q) [] env).onRaise (fun x => do noteFrame x env; theTreesLotGoes x)) _ s
    unfold forTurn
    rw [Sem.onRaise_eq_wrap]
    refine seg_bind_wrap (wpAny_standAt ?_)
    refine seg_bind_wrap (wpAny_onRaise (G.fin _ hh' s _ _ (hin ▸ X.st) fun h' hk hlo => ?_))
    refine seg_again rfl ?_
    refine seg_leaf (.ok .next) (hend esc done s₀ _ i hit ?_ hlo (hO.step fun b o hb eo => hk b o (fun hm => hb (List.mem_cons_of_mem _ (Wk.sub _ hm))) eo))
    obtain ⟨m, t, hn, r⟩ := X.ns
    exact ⟨m, t, hn.at' fun o eo => hk _ o (fun hm => hC (Wk.sub _ hm)) eo, r⟩
  | cons c rest ih =>
    intro i esc done s₀ s hr hi hit X hO
    have hlt : i < x.cps.size := by
      have := congrArg List.length hr
      simp at this; lia
    have hci : x.cps[i]? = some c := by
      have := congrArg (·[0]?) hr
      simpa using this
    have hr' : x.cps.toList.drop (i + 1) = rest := by
      have := congrArg List.tail hr
      simpa using this
    show Seg _ A _ _ _ s₀ _ ((forTurn (gTgt q) (.ref e) (gLoop q) [] env).onRaise (fun x => do noteFrame x env; theTreesLotGoes x)) _ s
    unfold forTurn
    rw [Sem.onRaise_eq_wrap]
    refine seg_bind_wrap (wpAny_standAt ?_)
    refine seg_bind_wrap (wpAny_onRaise (Wk.item i s _ _ hlt X.st fun T vals h₁ tk₁ hvals hT ht hmid hk₁ => ?_))
    obtain ⟨ti, v, ⟨c', u, hc', rfl⟩, rfl⟩ := hvals
    rw [hci] at hc'; cases hc'
    refine seg_bind_wrap (Wk.go _ _ _ i T _ _ _ hmid fun h₂ hst₂ hk₂ => ?_)
    have hTw : T ∉ wr := Wk.apart _ _ _ hmid
    obtain ⟨oT, hoT, hcT, nT, hdT⟩ := ht
    refine seg_bind_wrap (wpAny_assign_Tuple hh' ⟨oT, hk₂ _ _ hTw hoT, hcT, nT, hdT⟩ rfl rfl fun h₃ hx₃ => ?_)
    show wpAny _ _ (do holding [Value.str ⟨#[c]⟩ u] (PySem.assign (.Name "pos" (q 25)) env (.int i ti)); do holding [] (PySem.assign (.Name "ch" (q 26)) env (.str ⟨#[c]⟩ u)); pure ()) _ _ _
    obtain ⟨m, t, hn, hm1, hm2⟩ := X.ns
    have hk12 : ∀ b o, b ∉ wr → s.heap.get? b = some o → h₂.get? b = some o := fun b o hb eo => hk₂ _ _ hb (hk₁ _ _ hb eo)
    have hCw : env.locals ∉ wr := fun hm => hC (Wk.sub _ hm)
    have lt2 : ∀ b o, s.heap.get? b = some o → b < h₂.objs.size := fun b o eo => Nat.lt_trans (Nat.lt_of_lt_of_le (Heap.lt_size eo) hT) (Heap.lt_size (hk₂ _ _ hTw hoT))
    have hk3 : ∀ b o, b ∉ wr → s.heap.get? b = some o → h₃.get? b = some o := fun b o hb eo => hx₃ _ _ (Nat.ne_of_lt (lt2 b o eo)) (hk12 b o hb eo)
    have hn₃ : h₃.Ns env.locals m := hn.at' fun o eo => hk3 _ o hCw eo
    refine wpAny_bind (wpAny_holding (wpAny_assign_Name (wpAny_storeName_local g.pos hn₃ (fun h₄ hn₄ hs₄ => ?_) g.hp)))
    refine wpAny_bind (wpAny_holding (wpAny_assign_Name (wpAny_storeName_local g.ch hn₄ (fun h₅ hn₅ hs₅ => wpAny_pure ?_) g.hp)))
    have h23 : ∀ b o, h₂.get? b = some o → h₃.get? b = some o := fun b o eo => hx₃ _ _ (Nat.ne_of_lt (Heap.lt_size eo)) eo
    have h35 : ∀ b o, b ≠ env.locals → h₃.get? b = some o → h₅.get? b = some o := fun b o hb eo => hs₅.extBut b o hb (hs₄.extBut b o hb eo)
    have st5 : St (i + 1) h₅ := Wk.frame _ _ _ hst₂ fun b hb o eo => h35 b o (fun hq => hC (hq ▸ hb)) (h23 b o eo)
    have hO5 : Out' (env.locals :: W₀) s₀ { s with heap := h₅, toks := tk₁ + 1 + 1 } := hO.step fun b o hb eo =>
      h35 b o (fun hq => hb (hq ▸ List.mem_cons_self ..)) (hk3 b o (fun hm => hb (List.mem_cons_of_mem _ (Wk.sub _ hm))) eo)
    have hn5 : ∃ m5 t5 u5, h₅.Ns env.locals m5 ∧ m5 "pos" = some (.int i t5) ∧ m5 "escape" = some (.bool esc) ∧ m5 "ch" = some (.str ⟨#[c]⟩ u5) :=
      ⟨_, ti, u, hn₅, (if_neg (by decide)).trans (if_pos rfl), (if_neg (by decide)).trans ((if_neg (by decide)).trans hm2), if_pos rfl⟩
    rw [Sem.bind_eq_wrap', Sem.wrap_wrap]
    refine seg_gbody g G hC items rfl rfl rfl hit st5 hn5 hO5 fun esc' done' s₀' s' hit' X' hO' => ?_
    exact seg_again rfl (ih (i + 1) esc' done' s₀' s' hr' hlt hit' X' hO')
end

section
variable {prog : Program} {w : World} {A : Around} {E : Value → Shared → Prop} {s : Shared}

theorem fields_loose {o : Obj} {T : String} (hc : o.cls = .type T) (h1 : T ≠ "tuple") (h2 : T ≠ "function") (h3 : T ≠ "code") (h4 : T ≠ "range") : ¬ Fixed o := by
  rintro ⟨e | e | e | e, _⟩ <;> rw [hc] at e <;> simp at e <;> contradiction

theorem ascii_end {it : Addr} {x : Str} {t : Tok} {i : Nat} {Q : Value → Shared → Prop} (hh : A.handled = none)
    (hit : s.heap.IsStrIter it "str_ascii_iterator" x t i) (hx : x.cps[i]? = none)
    (hE : ∀ h' e, Heap.ExtBut it s.heap h' → (∃ o, h'.get? it = some o ∧ o.cls = .type "str_ascii_iterator") → (∃ o, h'.get? e = some o ∧ o.cls = .type "StopIteration") → E (.ref e) { s with heap := h' }) :
    wpAny (model prog w) A (Builtin.SmallTypes.nextOf (.ref it)) Q E s := by
  obtain ⟨o, ho, hc, hd⟩ := id hit
  unfold Builtin.SmallTypes.nextOf
  refine wpAny_bind (wpAny_callSpecial?_slot (name := Str.ofString "__next__") hit.typeIs F.slot_str_ascii_iterator_next
    (wpAny_call_entry F.slot_str_ascii_iterator_next hit.typeIs F.entry_str_ascii_iterator_next ?_ (F.args_str_ascii_iterator_next_1 _)))
  show wpAny _ _ (field (.ref it) 0 >>= _) _ _ s
  refine wpAny_bind (wpAny_field ho hd (x := .str x t) rfl ?_)
  show wpAny _ _ (field (.ref it) 1 >>= _) _ _ s
  refine wpAny_bind (wpAny_field ho hd (x := .int i 0) rfl ?_)
  simp only [Int.toNat_natCast, hx]
  refine wpAny_bind (wpAny_rule (wpAny_bind (wpAny_setField ho hd (by simp) (wpAny_bind (wpAny_letGo ?_)))))
  show wpAny _ _ (newExc (.type "StopIteration") [] >>= _) _ _ _
  refine wpAny_bind ?_
  simp only [newExc, newTuple]
  refine wpAny_bind (wpAny_newObj_type ?_ (by size_fits))
  refine wpAny_bind (m := firstArgMember _ _) (wpAny_of_eq (a := Value.none) (by first | rfl | (simp only [firstArgMember]; rfl)) ?_)
  refine wpAny_newObj_type ?_ (by size_fits)
  simp only [raiseNew]
  refine wpAny_bind (wpAny_handled ?_)
  first | rw [show A.in1.handled = none from hh] | rw [hh]
  refine wpAny_bind (wpAny_pure (wpAny_throw ?_))
  refine hE _ _ (((Heap.SameBut.update ..).extBut.push _).push _) ⟨_, Heap.get?_push_of_some _ (Heap.get?_push_of_some _ (Heap.get?_update_self _ ho (Obj.isFreed_of_fields (Obj.data_mapFields hd _)))), (Obj.cls_mapFields ..).trans hc⟩ ⟨_, Heap.get?_push_size _ rfl, rfl⟩

theorem wide_end {it : Addr} {x : Str} {t : Tok} {i : Nat} {Q : Value → Shared → Prop} (hh : A.handled = none)
    (hit : s.heap.IsStrIter it "str_iterator" x t i) (hx : x.cps[i]? = none)
    (hE : ∀ h' e, Heap.ExtBut it s.heap h' → (∃ o, h'.get? it = some o ∧ o.cls = .type "str_iterator") → (∃ o, h'.get? e = some o ∧ o.cls = .type "StopIteration") → E (.ref e) { s with heap := h' }) :
    wpAny (model prog w) A (Builtin.SmallTypes.nextOf (.ref it)) Q E s := by
  obtain ⟨o, ho, hc, hd⟩ := id hit
  unfold Builtin.SmallTypes.nextOf
  refine wpAny_bind (wpAny_callSpecial?_slot (name := Str.ofString "__next__") hit.typeIs F.slot_str_iterator_next
    (wpAny_call_entry F.slot_str_iterator_next hit.typeIs F.entry_str_iterator_next ?_ (F.args_str_iterator_next_1 _)))
  show wpAny _ _ (field (.ref it) 0 >>= _) _ _ s
  refine wpAny_bind (wpAny_field ho hd (x := .str x t) rfl ?_)
  show wpAny _ _ (field (.ref it) 1 >>= _) _ _ s
  refine wpAny_bind (wpAny_field ho hd (x := .int i 0) rfl ?_)
  simp only [Int.toNat_natCast, hx]
  refine wpAny_bind (wpAny_rule (wpAny_bind (wpAny_setField ho hd (by simp) (wpAny_bind (wpAny_letGo ?_)))))
  show wpAny _ _ (newExc (.type "StopIteration") [] >>= _) _ _ _
  refine wpAny_bind ?_
  simp only [newExc, newTuple]
  refine wpAny_bind (wpAny_newObj_type ?_ (by size_fits))
  refine wpAny_bind (m := firstArgMember _ _) (wpAny_of_eq (a := Value.none) (by first | rfl | (simp only [firstArgMember]; rfl)) ?_)
  refine wpAny_newObj_type ?_ (by size_fits)
  simp only [raiseNew]
  refine wpAny_bind (wpAny_handled ?_)
  first | rw [show A.in1.handled = none from hh] | rw [hh]
  refine wpAny_bind (wpAny_pure (wpAny_throw ?_))
  refine hE _ _ (((Heap.SameBut.update ..).extBut.push _).push _) ⟨_, Heap.get?_push_of_some _ (Heap.get?_push_of_some _ (Heap.get?_update_self _ ho (Obj.isFreed_of_fields (Obj.data_mapFields hd _)))), (Obj.cls_mapFields ..).trans hc⟩ ⟨_, Heap.get?_push_size _ rfl, rfl⟩

theorem enum_end {e it : Addr} {T : String} {old : Value} {i : Int} {Q : Option Value → Shared → Prop}
    (D : ∀ (Q : Value → Shared → Prop) (E : Value → Shared → Prop), (∀ h' e, Heap.ExtBut it s.heap h' → (∃ o, h'.get? it = some o ∧ o.cls = .type T) → (∃ o, h'.get? e = some o ∧ o.cls = .type "StopIteration") → E (.ref e) { s with heap := h' }) →
      wpAny (model prog w) A.in1 (Builtin.SmallTypes.nextOf (.ref it)) Q E s)
    (he : IsEnum s.heap e it i old)
    (hQ : ∀ h', Heap.ExtBut it s.heap h' → (∃ o, h'.get? it = some o ∧ o.cls = .type T) → Q none { s with heap := h' }) : wpAny (model prog w) A (pyNext (.ref e)) Q E s := by
  have hT : s.TypeIs (.ref e) "enumerate" := ⟨_, he, rfl⟩
  unfold pyNext
  refine wpAny_bind (wpAny_attempt (wpAny_callSpecial?_slot (name := Str.ofString "__next__") hT F.slot_enumerate_next
    (wpAny_call_entry F.slot_enumerate_next hT F.entry_enumerate_next ?_ (F.args_enumerate_next_1 _))))
  show wpAny _ _ (field (.ref e) 2 >>= _) _ _ _
  refine wpAny_bind (wpAny_field he rfl (x := .ref it) rfl ?_)
  refine wpAny_bind (D _ _ fun h' x he' hi' hx' => ?_)
  obtain ⟨o, ho, hc⟩ := hx'
  refine wpAny_bind (wpAny_isInstance (T := "StopIteration") (b := true) ⟨o, ho, hc⟩ isSubtype_stop ?_)
  exact wpAny_pure (hQ _ he' hi')
end

section
variable {prog : Program} {w : World}

theorem cls_loose {h : Heap} {b : Addr} {o : Obj} {T : String} (e : h.get? b = some o) (hc : o.cls = .type T) (h1 : T ≠ "tuple") (h2 : T ≠ "function") (h3 : T ≠ "code") (h4 : T ≠ "range") : Loose h b :=
  ⟨o, e, fields_loose hc h1 h2 h3 h4, .inl (by rw [hc]; simp)⟩
theorem enum_loose {h : Heap} {e it : Addr} {i : Int} {old : Value} (he : IsEnum h e it i old) : Loose h e :=
  cls_loose he rfl (by decide) (by decide) (by decide) (by decide)

/-- enumerate over a text -/
theorem gw_str {e it : Addr} (hne : e ≠ it) (x : Str) (t : Tok) : GW prog w e [e, it] [e, it] x (fun i h => (∃ old, IsEnum h e it i old) ∧ h.IsStrIter it (strIterType x) x t i) := by
  cases ha : x.cps.all (· < 128)
  · have hT : strIterType x = "str_iterator" := by simp [strIterType, ha]
    rw [hT]
    refine ⟨fun A hh => ⟨_, WalksT.enumerateD (Draws.strWide (A := A.in1) hh it x t) e hne (by simpa using hne) (by simp)⟩, fun i h st b hb => ?_, fun A hh s Q E st k => ?_⟩
    · obtain ⟨⟨old, he⟩, o', ho', hc', _⟩ := st
      rcases List.mem_cons.mp hb with rfl | hb
      · exact enum_loose he
      · rw [List.mem_singleton.mp hb]
        exact cls_loose ho' hc' (by decide) (by decide) (by decide) (by decide)
    · obtain ⟨⟨old, he⟩, hi⟩ := st
      refine enum_end (T := "str_iterator") (fun Q E k' => wide_end hh hi (by simp) k') he fun h' hx ho => k h' (fun b o hb eo => hx b o (fun q => hb (by simp [q])) eo) fun b hb => ?_
      rcases List.mem_cons.mp hb with rfl | hb
      · exact enum_loose (hx _ _ hne he)
      · obtain ⟨o', ho', hc'⟩ := ho
        rw [List.mem_singleton.mp hb]
        exact cls_loose ho' hc' (by decide) (by decide) (by decide) (by decide)
  · have hT : strIterType x = "str_ascii_iterator" := by simp [strIterType, ha]
    rw [hT]
    refine ⟨fun A hh => ⟨_, WalksT.enumerateD (Draws.strAscii (A := A.in1) hh it x t) e hne (by simpa using hne) (by simp)⟩, fun i h st b hb => ?_, fun A hh s Q E st k => ?_⟩
    · obtain ⟨⟨old, he⟩, o', ho', hc', _⟩ := st
      rcases List.mem_cons.mp hb with rfl | hb
      · exact enum_loose he
      · rw [List.mem_singleton.mp hb]
        exact cls_loose ho' hc' (by decide) (by decide) (by decide) (by decide)
    · obtain ⟨⟨old, he⟩, hi⟩ := st
      refine enum_end (T := "str_ascii_iterator") (fun Q E k' => ascii_end hh hi (by simp) k') he fun h' hx ho => k h' (fun b o hb eo => hx b o (fun q => hb (by simp [q])) eo) fun b hb => ?_
      rcases List.mem_cons.mp hb with rfl | hb
      · exact enum_loose (hx _ _ hne he)
      · obtain ⟨o', ho', hc'⟩ := ho
        rw [List.mem_singleton.mp hb]
        exact cls_loose ho' hc' (by decide) (by decide) (by decide) (by decide)
end

section
variable {R : RT} {A : Around} {x : Str} {env : Env} {q : Nat → Pos}

theorem ev_enum (g : GEnv env) (hgl : env.globals = mainGlobals) (hbi : env.builtins = builtinsNs) (GV : GlobV R "enumerate" (.type "enumerate")) {s : Shared}
    (nG : ∀ {a : Addr} {m' : Str → Option Value}, R.h₀.Ns a m' → (∀ o, R.h₀.get? a = some o → o.cls ≠ .none) → s.heap.Ns a m') {m : Str → Option Value} {t : Tok} {p1 p2 p3 : Pos}
    (hn : s.heap.Ns env.locals m) (ha : m "addr" = some (.str x t)) {Q : Value → Shared → Prop} {E : Value → Shared → Prop}
    (k : ∀ h', IsEnum h' (s.heap.objs.size + 1) s.heap.objs.size 0 .none → h'.IsStrIter s.heap.objs.size (strIterType x) x t 0 → (∀ b o, s.heap.get? b = some o → h'.get? b = some o) → Q (.ref (s.heap.objs.size + 1)) { s with heap := h' }) :
    wpAny R.M A (eval (.Call (.Name "enumerate" p1) [.Name "addr" p2] [] p3) env) Q E s := by
  obtain ⟨mg, g1, g2, g3⟩ := GV.main
  show wpAny R.M A (do callWith p3 (← eval (.Name "enumerate" p1) env) [] (backTo p3 (starEach [.Name "addr" p2] env)) (backToKw p3 (keywordEach [] env))) Q E s
  have tail : wpAny R.M A (callWith p3 (.type "enumerate") [] (backTo p3 (starEach [.Name "addr" p2] env)) (backToKw p3 (keywordEach [] env))) Q E s :=
    PySem.callWith_type rfl (Calls.evalArgs_plain (wpAny_items_cons (gname g g.addr hn ha (wpAny_items_nil (call_enumerate_str fun h' he hit hsz hk => k h' he hit hk)))))
  refine wpAny_bind (Calls.Name_function_global g.kind g.enumerate ?_ (by decide))
  rcases g3 with g3 | ⟨g3, mb, g4, g5, g6⟩
  · exact Calls.loadGlobal_global (by rw [hgl]; exact nG g1 g2) g3 tail
  · exact Calls.loadGlobal_builtin (by rw [hgl]; exact nG g1 g2) g3 (by rw [hbi]; exact nG g4 g5) g6 tail

/-- the generator's first turn -/
theorem seg_gstart (g : GEnv env) (hgl : env.globals = mainGlobals) (hbi : env.builtins = builtinsNs) (hh : A.handled = none) (GV : GlobV R "enumerate" (.type "enumerate")) {s : Shared} (hold : OldK R.h₀ s.heap) (hnew : R.h₀.get? env.locals = none) {m : Str → Option Value} {t : Tok}
    (hn : s.heap.Ns env.locals m) (ha : m "addr" = some (.str x t)) :
    Seg R.M A (gEnd [env.locals, s.heap.objs.size + 1, s.heap.objs.size]) (gProto (escs 0 false x.cps.toList) [env.locals, s.heap.objs.size + 1, s.heap.objs.size]) (escs 0 false x.cps.toList).length s (.func (gBody q) env) (R.M.den (.func (gBody q) env)) [] s := by
  refine seg_func ?_
  have lC : env.locals < s.heap.objs.size := hn.lt
  have hC : env.locals ∉ [s.heap.objs.size + 1, s.heap.objs.size] := by
    intro hm
    rcases List.mem_cons.mp hm with e | hm
    · exact Nat.ne_of_lt (Nat.lt_succ_of_lt lC) e
    · exact Nat.ne_of_lt lC (List.mem_singleton.mp hm)
  refine seg_execs_cons (seg_wrap (wpAny_Assign_Name (wpAny_Constant_int (wpAny_storeName_local g.pos hn (fun h1 hn1 hs1 => ?_) g.hp))))
  refine seg_execs_cons (seg_wrap (wpAny_Assign_Name (wpAny_Constant_bool (wpAny_storeName_local g.escape hn1 (fun h2 hn2 hs2 => ?_) g.hp))))
  have sz1 : h1.objs.size = s.heap.objs.size := hs1.1
  have sz2 : h2.objs.size = s.heap.objs.size := hs2.1.trans hs1.1
  have k02 : ∀ b o, b ≠ env.locals → s.heap.get? b = some o → h2.get? b = some o := fun b o hb eo => hs2.extBut b o hb (hs1.extBut b o hb eo)
  refine seg_execs_cons ?_
  rw [exec_For]
  refine seg_bind_wrap (wpAny_standAt (seg_bind_wrap ?_))
  obtain ⟨mg, g1, g2, g3⟩ := GV.main
  have nG : ∀ {a : Addr} {m' : Str → Option Value}, R.h₀.Ns a m' → (∀ o, R.h₀.get? a = some o → o.cls ≠ .none) → h2.Ns a m' := fun {a m'} h hc => by
    have ne : a ≠ env.locals := fun e => by
      obtain ⟨o, _, _, eo, _⟩ := h
      rw [e, hnew] at eo; cases eo
    exact (OldK.ns hold h hc).at' fun o eo => k02 _ o ne eo
  refine ev_enum g hgl hbi GV nG hn2 (m := fun y => if y = "escape" then some (.bool false) else if y = "pos" then some (.int 0 s.toks) else m y) ((if_neg (by decide)).trans ((if_neg (by decide)).trans ha)) fun h3 he hit hk => ?_
  refine seg_bind_wrap (wpAny_pure (seg_bind_wrap (wpAny_standAt (seg_bind_wrap (wpAny_holding (wpAny_pyIter_enum he ?_))))))
  rw [sz2] at he hit ⊢
  have hne : s.heap.objs.size + 1 ≠ s.heap.objs.size := Nat.succ_ne_self _
  unfold runOwn
  rw [Sem.onRaise_eq_wrap, Sem.wrap_wrap]
  show Seg _ A _ _ _ s _ ((run _ none).wrap _ _ _ _) [] _
  refine seg_call fun p => ?_
  refine seg_gloop (e := s.heap.objs.size + 1) (St := fun i h => (∃ old, IsEnum h (s.heap.objs.size + 1) s.heap.objs.size i old) ∧ h.IsStrIter s.heap.objs.size (strIterType x) x t i) g hh (gw_str hne x t) hC (escs 0 false x.cps.toList) ?_ x.cps.toList 0 false [] s _ rfl (Nat.zero_le _) rfl ⟨⟨⟨_, he⟩, hit⟩, _, _, hn2.at' fun o eo => hk _ o eo, (if_neg (by decide)).trans (if_pos rfl), if_pos rfl⟩ ?_
  · intro esc done s₀ s' i hi X hlo hO
    obtain ⟨m', t', hn', hp', he'⟩ := X
    refine seg_execs_cons (st := .If (.Name "escape" (q 41)) [.Expr (.Yield (some (.Tuple [.Name "pos" (q 42), .Constant (.str "\\") 0 (q 43)] 0 (q 44))) (q 45)) (q 46)] [] (q 47)) (rest := []) ?_
    rw [exec_If]
    refine seg_bind_wrap (wpAny_standAt (seg_bind_wrap (wpAny_isTrue_value (gname g g.escape hn' he' (wpAny_truthy_bool ?_)))))
    cases esc with
    | false =>
      simp only [Bool.false_eq_true, if_false]
      refine seg_execs_nil (seg_execs_nil ?_)
      exact seg_end (.ok (.ret .none)) ⟨rfl, rfl, hO⟩
    | true =>
      simp only [if_true]
      have hl : (escs i true []).length = 0 + 1 := rfl
      rw [hl]
      refine seg_execs_cons ?_
      refine seg_Expr_Yield rfl rfl rfl ?_ g.co g.hi
      refine wpAny_Tuple (wpAny_items_cons (gname g g.pos hn' hp' (wpAny_items_cons (wpAny_Constant_str (wpAny_items_nil ?_)))))
      refine ⟨by size_fits, fun kap hkap => ?_⟩
      refine ⟨⟨(i - 1, "\\"), ?_, ⟨_, _, _, _, rfl, Heap.get?_push_size _ rfl⟩⟩, hO.step fun b o _ eo => Heap.get?_push_of_some _ eo, fun b hb => ?_, fun s'' hal => hkap .none s'' ?_⟩
      · have : (escs 0 false x.cps.toList).length - 1 - 0 = done.length := by rw [hi]; simp [escs]
        rw [this, hi]; simp [escs]
      · rcases List.mem_cons.mp hb with rfl | hb
        · exact dict_loose (hn'.push _)
        · exact (hlo b hb).keeps fun o e => Heap.get?_push_of_some _ e
      · refine seg_execs_nil (seg_execs_nil ?_)
        exact seg_end (.ok (.ret .none)) ⟨rfl, rfl, Out'.refl _ _⟩
  · exact ⟨h3, _, rfl, fun b o hb eo => hk _ _ (k02 b o (fun q => hb (by simp [q])) eo)⟩
end

theorem step_exts {h₀ h h' : Heap} (K : OldK h₀ h) {W : List Addr} (ha : ∀ b ∈ W, h₀.get? b = none) (hs : ∀ b o, b ∉ W → h.get? b = some o → h'.get? b = some o) : OldK h₀ h' := by
  have ne : ∀ b o, h₀.get? b = some o → b ∉ W := fun b o e q => by rw [ha b q] at e; cases e
  refine ⟨fun b o e => ?_, fun b o e => let ⟨o', ho'⟩ := K.there b o e; ⟨o', hs _ _ (ne b o e) ho'⟩⟩
  rcases K.old b o e with x | ⟨t, hc, vs, more, hv, x⟩ | ⟨rfl, hc, ⟨o', es, n, ho', r⟩, z⟩
  · exact .inl (hs _ _ (ne b o e) x)
  · exact .inr (.inl ⟨t, hc, vs, more, hv, hs _ _ (ne b o e) x⟩)
  · have ho'' := hs _ _ (ne _ o e) ho'
    exact .inr (.inr ⟨rfl, hc, ⟨o', es, n, ho'', r⟩, fun key => by rw [OldK.staticOf_congr (ho''.trans ho'.symm) key]; exact z key⟩)

/-- an object of the generator's own -/
noncomputable def Priv (R : RT) (L : List Addr) (fm : Fm) (s : Shared) (b : Addr) : Prop :=
  R.h₀.get? b = none ∧ b ∉ L ∧ b ≠ fm.env.locals ∧ Loose s.heap b

structure GenS (R : RT) (A : Around) (s : Shared) (a : Addr) (g : Nat) (items rest : List (Nat × Str)) (W : List Addr) : Prop where
  gen : s.heap.IsGen a g
  out : a ∉ W
  goes : ∃ gs, s.gens[g]? = some gs ∧ ∀ s'' : Shared, (∀ b ∈ W, ∀ o, s.heap.get? b = some o → s''.heap.get? b = some o) → OldK R.h₀ s''.heap →
    ∃ W', (∀ b ∈ W', b ∈ W ∨ s''.heap.get? b = none) ∧ gs.Goes R.M A.in1 (gEnd W') (gProto items W') rest.length (.send .none) s''
  done : ∃ done, items = done ++ rest

theorem pyNext_fn {prog : Program} {w : World} {A : Around} {E : Value → Shared → Prop} {s : Shared} {a : Addr} {g n : Nat} {gs : GenState} {P : Nat → Shared → Shared → Prop} {Y : Protocol} {Q : Option Value → Shared → Prop} (hh : A.handled = none)
    (hl : s.heap.NoLimit) (hroom : A.depth < recursionLimit)
    (hg : s.heap.IsGen a g) (hgs : s.gens[g]? = some gs)
    (hgo : gs.Goes (model prog w) A.in1 (fun n s₀ r s₁ => r = .ok (.ret .none) ∧ P n s₀ s₁) Y n (.send .none) (s.setGen g .running))
    (hY : ∀ v s₁ gs', gs'.bare = true → Y (n - 1) (s.setGen g .running) v s₁ (fun r' s'' => match n with
        | 0 => False
        | m + 1 => gs'.Goes (model prog w) A.in1 (fun n s₀ r s₁ => r = .ok (.ret .none) ∧ P n s₀ s₁) Y m r' s'') → Q (some v) (s₁.setGen g gs'))
    (hP : ∀ s₁, P n (s.setGen g .running) s₁ → ∀ h', (∀ b o, s₁.heap.get? b = some o → h'.get? b = some o) → Q none { s₁.setGen g .finished with heap := h' }) :
    wpAny (model prog w) A (pyNext (.ref a)) Q E s := by
  unfold pyNext
  refine wpAny_bind (wpAny_attempt (wpAny_callSpecial?_slot (name := Str.ofString "__next__") hg.typeIs slot_gen_next
    (wpAny_call_entry slot_gen_next hg.typeIs entry_gen_next ?_ (args_gen_next _))))
  show wpAny _ A.in1 (Builtin.Generator.genWake (.ref a) (.send .none)) _ _ s
  unfold Builtin.Generator.genWake
  refine wpAny_bind (wpAny_holding (wpAny_genNumber hg (wpAny_bind (wpAny_genState hgs ?_))))
  cases gs with
  | running => exact hgo.elim
  | finished => exact hgo.elim
  | _ =>
    refine wpAny_bind (wpAny_roomToWake hl hroom ?_)
    show wpAny _ A.in1 (.resume g (.send .none) [] _) _ _ s
    refine wpAny_resumeQ hgs hgo (fun x s₁ hx => ?_) (fun v s₁ gs' hb hv => ?_)
    · obtain ⟨rfl, hp⟩ := hx
      show wpAny _ A.in1 (newExc (.type "StopIteration") [] >>= _) _ _ _
      refine wpAny_bind ?_
      simp only [newExc, newTuple]
      refine wpAny_bind (wpAny_newObj_type ?_ (by size_fits))
      refine wpAny_bind (m := firstArgMember _ _) (wpAny_of_eq (a := Value.none) (by first | rfl | (simp only [firstArgMember]; rfl)) ?_)
      refine wpAny_newObj_type ?_ (by size_fits)
      simp only [raiseNew]
      refine wpAny_bind (wpAny_bind (wpAny_handled ?_))
      first | rw [show A.in1.handled = none from hh] | rw [hh]
      refine wpAny_throw ?_
      refine wpAny_bind (wpAny_isInstance (T := "StopIteration") (b := true) ⟨_, Heap.get?_push_size _ rfl, rfl⟩ isSubtype_stop ?_)
      exact wpAny_pure (hP s₁ hp _ fun b o hb => Heap.get?_push_of_some _ (Heap.get?_push_of_some _ hb))
    · exact wpAny_pure ⟨v, rfl, wpAny_pure (hY v s₁ gs' hb hv)⟩

section
variable {R : RT} {L L' Lb : List Addr} {σ : Sto} {s s' sb : Shared} {d : Nat} {fm : Fm} {ρ : Loc} {st : St} {A : Around} {a : Addr} {g : Nat} {W : List Addr} {items rest : List (Nat × Str)}

theorem Priv.same (p : Priv R L fm s b) (gr : Grow L L' (own fm) s s') : ∀ o, s.heap.get? b = some o → s'.heap.get? b = some o := fun o e => by
  obtain ⟨p1, p2, p3, o', e', _, p5⟩ := p
  rw [e] at e'; cases e'
  have := gr.keep b o e p2 (by simpa [own] using p3)
  rcases p5 with h | h
  · exact this.cls h
  · exact this.dict h
theorem Priv.kept (p : Priv R L fm s b) (gr : Grow L L' (own fm) s s') : Priv R L' fm s' b := by
  have e := p.same gr
  obtain ⟨p1, p2, p3, o', e', p4, p5⟩ := p
  refine ⟨p1, fun hm => ?_, p3, o', e o' e', p4, p5⟩
  rcases gr.fresh b hm p2 with h | h
  · rw [e'] at h; cases h
  · exact p3 (by simpa [own] using h)

theorem GenS.kept (G : GenS R A s a g items rest W) (pa : Priv R L fm s a) (p : ∀ b ∈ W, Priv R L fm s b) (gr : Grow L L' (own fm) s s') : GenS R A s' a g items rest W := by
  obtain ⟨⟨o, nm, qn, ho, r⟩, h2, ⟨gs, h3, h4⟩, h5⟩ := G
  exact ⟨⟨o, nm, qn, pa.same gr o ho, r⟩, h2, ⟨gs, gr.gens _ _ h3, fun s'' hk => h4 s'' fun b hb o e => hk b hb o ((p b hb).same gr o e)⟩, h5⟩

/-- only the generator's own objects are other -/
theorem HR.sides (H : HR R L σ s) {h' : Heap} {gens : Array GenState} {tk : Nat} {dr} {W' : List Addr} (hW : ∀ b ∈ W', R.h₀.get? b = none ∧ b ∉ L ∧ ∀ o, s.heap.get? b = some o → ¬ Fixed o) (hs : ∀ b o, b ∉ W' → s.heap.get? b = some o → h'.get? b = some o) (hg : AllBare gens) :
    HR R L σ { s with heap := h', gens := gens, toks := tk, drawn := dr } ∧ Stays s.heap h' := by
  have st : Stays s.heap h' := fun b o e hf => hs b o (fun hm => (hW b hm).2.2 o e hf) e
  refine ⟨H.step (s' := { s with heap := h', gens := gens, toks := tk, drawn := dr }) (step_exts H.old (fun b hb => (hW b hb).1) hs) hg rfl st (fun b hb => ?_) fun c P h => ?_, st⟩
  · obtain ⟨o, e, _⟩ := H.kind b hb
    exact (hs b o (fun hm => (hW b hm).2.1 hb) e).trans e.symm
  · obtain ⟨h1, h2⟩ := H.tabs c P h
    obtain ⟨⟨o, e⟩, o', e'⟩ := h2.there
    refine ⟨(hs _ _ (fun hm => ?_) e).trans e.symm, (hs _ _ (fun hm => h1 (hW _ hm).1) e').trans e'.symm⟩
    obtain ⟨ps, _, ⟨⟨o', vs', e', r', r'', _⟩, _⟩, _⟩ := h2
    exact (hW _ hm).2.2 _ e' (fix_code r' r'')

theorem FR.sides (F : FR R L fm ρ s) {h' : Heap} {gens : Array GenState} {tk : Nat} {dr} {W' : List Addr} (hW : fm.env.locals ∉ W') (hs : ∀ b o, b ∉ W' → s.heap.get? b = some o → h'.get? b = some o) (st : Stays s.heap h') :
    FR R L fm ρ { s with heap := h', gens := gens, toks := tk, drawn := dr } := by
  refine ⟨F.ok, ?_, F.cel⟩
  obtain ⟨m, hn, hm⟩ := F.ns
  exact ⟨m, hn.at' fun o e => hs _ o hW e, fun x v h => let ⟨a, v', b, c⟩ := hm x v h; ⟨a, v', b, c.mono (List.prefix_refl _) st⟩⟩

/-- a turn of the generator, seen from a base before it was made -/
theorem Grow.priv (gr : Grow Lb L (own fm) sb s) {h' : Heap} {gens : Array GenState} {tk : Nat} {dr} {W' : List Addr} (hW : ∀ b ∈ W', sb.heap.get? b = none) (hs : ∀ b o, b ∉ W' → s.heap.get? b = some o → h'.get? b = some o)
    (hg : sb.gens.size ≤ g) (hgens : ∀ k x, k ≠ g → s.gens[k]? = some x → gens[k]? = some x) (hsz : s.gens.size ≤ gens.size) : Grow Lb L (own fm) sb { s with heap := h', gens := gens, toks := tk, drawn := dr } where
  pre := gr.pre
  fresh := gr.fresh
  keep := fun b o e hL ho => (gr.keep b o e hL ho).trans fun o' e' => .inl (hs b o' (fun hm => by rw [hW b hm] at e; cases e) e')
  there := fun b o e ho => by
    obtain ⟨o', e'⟩ := gr.there b o e ho
    exact ⟨o', hs b o' (fun hm => by rw [hW b hm] at e; cases e) e'⟩
  gens := fun k x e => hgens k x (fun q => by
    subst q
    rw [Array.getElem?_eq_none hg] at e; cases e) (gr.gens k x e)
  gsize := Nat.le_trans gr.gsize hsz

theorem setGen_gens {g : Nat} {x : GenState} : (s.setGen g x).gens = s.gens.set! g x ∧ (s.setGen g x).heap = s.heap := ⟨rfl, rfl⟩

/-- the next of a generator -/
theorem gen_next (hlim : R.h₀.NoLimit) (hr : Room d A) (ht : 0 < s.toks) (P : Rep R fm L st s) (gr : Grow Lb L (own fm) sb s) (G : GenS R A s a g items rest W) (pa : Priv R L fm s a) (hp : ∀ b ∈ W, Priv R L fm s b)
    (ha : sb.heap.get? a = none) (hW : ∀ b ∈ W, sb.heap.get? b = none) (hg : sb.gens.size ≤ g) {Q : Option Value → Shared → Prop} {E : Value → Shared → Prop}
    (k : match (generalizing := false) rest with
      | [] => ∀ s', 0 < s'.toks → Rep R fm L st s' → Grow Lb L (own fm) sb s' → Q none s'
      | it :: rest' => ∀ T ti u n s' W', 0 < s'.toks → Rep R fm L st s' → Grow Lb L (own fm) sb s' → s'.heap.get? T = some { cls := .type "tuple", data := .seq #[.int it.1 ti, .str it.2 u] n } → GenS R A s' a g items rest' W' → Priv R L fm s' a → (∀ b ∈ W', Priv R L fm s' b) →
          (∀ b ∈ W', sb.heap.get? b = none) → Q (some (.ref T)) s') : wpAny R.M A (pyNext (.ref a)) Q E s := by
  obtain ⟨gs, hgs, h4⟩ := G.goes
  obtain ⟨W', hW', hgo⟩ := h4 (s.setGen g .running) (fun _ _ _ e => e) P.1.old
  have lo : ∀ b ∈ W', R.h₀.get? b = none ∧ b ∉ L ∧ (∀ o, s.heap.get? b = some o → ¬ Fixed o) ∧ b ≠ fm.env.locals ∧ sb.heap.get? b = none ∧ b ≠ a := fun b hb => by
    rcases hW' b hb with h | h
    · obtain ⟨p1, p2, p3, o, e, p4, _⟩ := hp b h
      exact ⟨p1, p2, fun o' e' => by rw [e] at e'; cases e'; exact p4, p3, hW b h, fun q => G.out (q ▸ h)⟩
    · have h : s.heap.get? b = none := h
      refine ⟨P.1.fresh_old h, P.1.fresh_out h, (fun o e => by rw [h] at e; cases e), fun q => ?_, ?_, fun q => ?_⟩
      · obtain ⟨o, e, _⟩ := P.2.loc
        rw [← q, h] at e; cases e
      · cases e : sb.heap.get? b with
        | none => rfl
        | some o =>
          by_cases hq : b ∈ own fm
          · have hq' : b = fm.env.locals := by simpa [own] using hq
            obtain ⟨o', e', _⟩ := P.2.loc
            rw [← hq', h] at e'; cases e'
          · obtain ⟨o', e'⟩ := gr.there b o e hq
            rw [h] at e'; cases e'
      · obtain ⟨_, _, _, o, e, _⟩ := pa
        rw [← q, h] at e; cases e
  have aW : a ∉ W' := fun h => (lo a h).2.2.2.2.2 rfl
  have hCW : fm.env.locals ∉ W' := fun h => (lo _ h).2.2.2.1 rfl
  -- what any turn leaves
  have turn : ∀ (h' : Heap) (tk : Nat) (x : GenState), x.bare = true → (∀ b o, b ∉ W' → s.heap.get? b = some o → h'.get? b = some o) →
      Rep R fm L st { s with heap := h', gens := ((s.setGen g .running).setGen g x).gens, toks := tk } ∧ Grow Lb L (own fm) sb { s with heap := h', gens := ((s.setGen g .running).setGen g x).gens, toks := tk } := fun h' tk x hx hs => by
    have go := (GenOnly.setGen s g .running).trans (GenOnly.setGen (s.setGen g .running) g x)
    have hb := P.1.bare.moved (GenOnlyQ.of go (setGen_self (gs := .running) (setGen_self hgs)) hx)
    obtain ⟨H', st'⟩ := P.1.sides (tk := tk) (dr := s.drawn) (fun b hb => ⟨(lo b hb).1, (lo b hb).2.1, (lo b hb).2.2.1⟩) hs hb
    exact ⟨⟨H', P.2.sides (tk := tk) (dr := s.drawn) hCW hs st'⟩, gr.priv (tk := tk) (dr := s.drawn) (fun b hb => (lo b hb).2.2.2.2.1) hs hg (fun k x hk e => (go.2 k hk).trans e) (Nat.le_of_eq go.1.symm)⟩
  refine with_pos ht fun E' => pyNext_fn (P := fun n s₀ s₁ => n = 0 ∧ Out' W' s₀ s₁) hr.handled (nolimit_of P.1.old hlim) hr.lt G.gen hgs hgo (fun v s₁ gs' hb hv => ?_) (fun s₁ hq h' hk => ?_)
  · obtain ⟨⟨it, hi, T, ti, u, n, rfl, hT⟩, ⟨h₁, tk₁, rfl, hk₁⟩, hlo, hkap⟩ := hv
    cases rest with
    | nil => exact (hkap _ fun _ _ _ e => e).elim
    | cons it' rest' =>
      intro tp
      obtain ⟨done, hd⟩ := G.done
      have : it = it' := by
        have e : items.length - 1 - ((it' :: rest').length - 1) = done.length := by rw [hd]; simp
        rw [e, hd] at hi
        simpa using hi.symm
      subst this
      obtain ⟨P', gr'⟩ := turn h₁ tk₁ gs' hb hk₁
      have pa' : Priv R L fm { s with heap := h₁, gens := ((s.setGen g .running).setGen g gs').gens, toks := tk₁ } a := by
        obtain ⟨p1, p2, p3, p4⟩ := pa
        exact ⟨p1, p2, p3, p4.keeps fun o e => hk₁ a o aW e⟩
      refine k T ti u n _ W' tp P' gr' hT ⟨?_, aW, ⟨gs', setGen_self (gs := .running) (setGen_self hgs), fun s'' hal hold => ⟨W', fun b hb => .inl hb, hkap s'' hal⟩⟩, done ++ [it], by rw [hd]; simp⟩ pa' (fun b hb => ?_) fun b hb => (lo b hb).2.2.2.2.1
      · obtain ⟨o, nm, qn, ho, r⟩ := G.gen
        exact ⟨o, nm, qn, hk₁ a o aW ho, r⟩
      · exact ⟨(lo b hb).1, (lo b hb).2.1, (lo b hb).2.2.2.1, hlo b hb⟩
  · obtain ⟨hn, h₁, tk₁, rfl, hk₁⟩ := hq
    cases rest with
    | cons _ _ => cases hn
    | nil =>
      intro tp
      obtain ⟨P', gr'⟩ := turn h' tk₁ .finished rfl fun b o hb e => hk _ _ (hk₁ b o hb e)
      exact k _ tp P' gr'
end

structure GScope (sc : Scope) : Prop where
  kind : sc.kind = .function
  pos : sc.names.lookup ("pos" : Str) = some .local
  ch : sc.names.lookup ("ch" : Str) = some .local
  escape : sc.names.lookup ("escape" : Str) = some .local
  addr : sc.names.lookup ("addr" : Str) = some .local
  enumerate : sc.names.lookup ("enumerate" : Str) = some .globalImplicit
  co : sc.isCoroutine = false
  gen : sc.isGenerator = true
  cell : ∀ y ∈ sc.names, y.2 ≠ .cell

/-- the def of the generator -/
structure GDef (R : RT) (fa : Addr) : Prop where
  def_ : ∃ fd q, FnAt R fa fd ∧ fd.body = .stmts (gBody q) ∧ GScope fd.scope ∧ R.h₀.CodeRec fd.code fd.qualname ∧ (∀ v, bindArgs fd ⟨[v], []⟩ = pure [(("addr" : Str), v)])
  enum : GlobV R "enumerate" (.type "enumerate")

section
variable {R : RT} {L L' Lb : List Addr} {σ : Sto} {s s' sb : Shared} {d : Nat} {fm : Fm} {ρ : Loc} {st : St} {A : Around} {a : Addr} {g : Nat} {W : List Addr} {items rest : List (Nat × Str)}

theorem gen_call {fa : Addr} (hlim : R.h₀.NoLimit) (D : GDef R fa) {x : Str} {t : Tok} (hr : Room d A) (ht : 0 < s.toks) (P : Rep R fm L st s) {Q : Value → Shared → Prop} {E : Value → Shared → Prop}
    (k : ∀ a s' W g, 0 < s'.toks → Rep R fm L st s' → Grow L L [] s s' → (∀ A' : Around, A'.handled = none → GenS R A' s' a g (escs 0 false x.cps.toList) (escs 0 false x.cps.toList) W) → Priv R L fm s' a → (∀ b ∈ W, Priv R L fm s' b) →
      s.heap.get? a = none → (∀ b ∈ W, s.heap.get? b = none) → s.gens.size ≤ g → Q (.ref a) s') : wpAny R.M A (call (.ref fa) [.str x t]) Q E s := by
  obtain ⟨fd, q, F, hbd, S, hcr, hbind⟩ := D.def_
  obtain ⟨o, ho, hoc, hod⟩ := F.obj
  have ho' : s.heap.get? fa = some o := P.1.old.get_of_cls ho (by rw [hoc]; simp)
  have hcr' : s.heap.CodeRec fd.code fd.qualname := by
    obtain ⟨q', ⟨c, oc, vs, tq, e1, e2, e3, e4⟩, c', oc', e5, e6, e7⟩ := F.code
    obtain ⟨c₁, o₁, vs₁, t₁, f1, f2, f3, f4⟩ := hcr
    rw [e1] at f1 e5; cases f1; cases e5
    rw [e2] at e6 f2; cases e6; cases f2
    exact ⟨c, _, vs₁, t₁, e1, P.1.old.get_of_cls e2 (by rw [e7]; simp), f3, f4⟩
  refine with_pos ht fun E' => wpAny_call (codeAny_call_generator (o := o) hr.lt ho' hod S.co S.gen hbd hcr' ?_)
  rw [hbind, F.globals, F.builtins, F.clos]
  refine wpAny_pure (wpAny_newFunctionEnv S.cell (by intro y hy; simp at hy; subst hy; exact S.addr) (fun h' hns hsb => ?_) S.kind)
  have hk : ∀ b o, s.heap.get? b = some o → h'.get? b = some o := fun b o e => hsb.extBut b o (Nat.ne_of_lt (Heap.lt_size e)) (Heap.get?_push_of_some _ e)
  refine ⟨nolimit_of (P.1.old.step_keeps hk) hlim, ?_⟩
  intro tp
  have sz : h'.objs.size = s.heap.objs.size + 1 := by rw [hsb.1, Heap.size_push]
  have a0 : s.heap.get? s.heap.objs.size = none := get_size_none _
  have a1 : s.heap.get? h'.objs.size = none := by rw [sz]; exact Heap.get?_none_of_le (Nat.le_succ _)
  have hk2 : ∀ {ob : Obj} b o, s.heap.get? b = some o → (h'.push ob).get? b = some o := fun b o e => Heap.get?_push_of_some _ (hk b o e)
  have nl : ∀ {b}, s.heap.get? b = none → b ≠ fm.env.locals := by
    intro b hb q
    obtain ⟨o, e, _⟩ := P.2.loc
    rw [← q, hb] at e; cases e
  have ne : ∀ {b} {h'' : Heap}, s.heap.get? b = none → Loose h'' b → R.h₀.get? b = none ∧ b ∉ L ∧ b ≠ fm.env.locals ∧ Loose h'' b := fun {b h''} hb hl => ⟨P.1.fresh_old hb, P.1.fresh_out hb, nl hb, hl⟩
  obtain ⟨H', st'⟩ := P.1.sides (W' := []) (tk := s.toks + 1 + 1 + 1) (dr := s.drawn) (h' := h'.push { cls := .type "generator", data := .fields #[.int s.gens.size 0, .str fd.name (s.toks + 1), .str fd.qualname (s.toks + 1 + 1)] }) (gens := s.gens.push (.fresh (.func (gBody q) (newEnv fd.scope s.heap.objs.size mainGlobals [] (fd.qualname ++ ".<locals>.") (some fa) fd.code none builtinsNs))))
    (fun _ h => nomatch h) (fun b o _ e => hk2 b o e) (P.1.bare.push rfl)
  have F' := P.2.sides (W' := []) (tk := s.toks + 1 + 1 + 1) (dr := s.drawn) (h' := h'.push { cls := .type "generator", data := .fields #[.int s.gens.size 0, .str fd.name (s.toks + 1), .str fd.qualname (s.toks + 1 + 1)] }) (gens := s.gens.push (.fresh (.func (gBody q) (newEnv fd.scope s.heap.objs.size mainGlobals [] (fd.qualname ++ ".<locals>.") (some fa) fd.code none builtinsNs))))
    (fun h => nomatch h) (fun b o _ e => hk2 b o e) st'
  refine k h'.objs.size _ [s.heap.objs.size] s.gens.size tp ⟨H', F'⟩ ?_ (fun A' hA' => ?_) (ne a1 (cls_loose (Heap.get?_push_size _ rfl) rfl (by decide) (by decide) (by decide) (by decide))) (fun b hb => ?_) a1 (fun b hb => by rw [List.mem_singleton.mp hb]; exact a0) (Nat.le_refl _)
  · refine ⟨List.prefix_refl _, fun _ h h' => absurd h h', fun b o e _ _ => .inl (hk2 b o e), fun b o e _ => ⟨o, hk2 b o e⟩, fun i y e => ?_, by simp⟩
    have : i < s.gens.size := by
      rcases Nat.lt_or_ge i s.gens.size with h | h
      · exact h
      · rw [Array.getElem?_eq_none h] at e; cases e
    show (s.gens.push _)[i]? = _
    rw [Array.getElem?_push_lt this, ← Array.getElem?_eq_getElem this]; exact e
  · refine ⟨⟨_, _, _, Heap.get?_push_size _ rfl, rfl, rfl, rfl⟩, (fun hm => by rw [List.mem_singleton, sz] at hm; exact Nat.succ_ne_self _ hm), ⟨_, Array.getElem?_push_size .., fun s'' hal hold => ?_⟩, [], rfl⟩
    have hn'' : s''.heap.Ns s.heap.objs.size _ := hns.at' fun o e => hal _ (List.mem_singleton.mpr rfl) o (Heap.get?_push_of_some _ e)
    refine ⟨[s.heap.objs.size, s''.heap.objs.size + 1, s''.heap.objs.size], fun b hb => ?_, rfl, ?_⟩
    · rcases List.mem_cons.mp hb with rfl | hb
      · exact .inl (List.mem_singleton.mpr rfl)
      · rcases List.mem_cons.mp hb with rfl | hb
        · exact .inr (Heap.get?_none_of_le (Nat.le_succ _))
        · rw [List.mem_singleton.mp hb]; exact .inr (get_size_none _)
    · exact seg_gstart (R := R) (A := A'.in1) (env := newEnv fd.scope s.heap.objs.size mainGlobals [] (fd.qualname ++ ".<locals>.") (some fa) fd.code none builtinsNs)
        ⟨S.kind, S.pos, S.ch, S.escape, S.addr, S.enumerate, S.co⟩ rfl rfl hA' D.enum hold (P.1.fresh_old a0) hn'' rfl
  · rw [List.mem_singleton.mp hb]
    exact ne a0 ((dict_loose hns).keeps fun o e => Heap.get?_push_of_some _ e)
end

noncomputable def tupOf (it : Nat × Str) : AV := .tup [.int it.1, .str it.2]

section
variable {R : RT} {L L' Lb : List Addr} {σ : Sto} {s s' sb : Shared} {d : Nat} {fm : Fm} {ρ : Loc} {st : St} {A : Around} {a : Addr} {g : Nat} {W : List Addr} {items rest : List (Nat × Str)}

theorem item_vr {it : Nat × Str} {T : Addr} {ti u : Tok} {n : Nat} {h : Heap} (e : h.get? T = some { cls := .type "tuple", data := .seq #[.int it.1 ti, .str it.2 u] n }) : VR L h (tupOf it) (.ref T) :=
  .tup e (.cons (.int _ _) (.cons (.str _ _) .nil))

/-- the walk of a for over a generator -/
noncomputable def GFl (R : RT) (d : Nat) (fm : Fm) (t : PySem.Expr) (items rest : List (Nat × Str)) (b : List Stmt) (st : St) (K : Out → St → Prop) : Prop :=
  ∀ A Lb sb L s a g W, Room d A → 0 < s.toks → Rep R fm L st s → Grow Lb L (own fm) sb s → GenS R A s a g items rest W → Priv R L fm s a → (∀ b ∈ W, Priv R L fm s b) → sb.heap.get? a = none → (∀ b ∈ W, sb.heap.get? b = none) → sb.gens.size ≤ g →
    ∀ (Rr : Result → Shared → Prop), (∀ f s' L' o st', K o st' → 0 < s'.toks → Rep R fm L' st' s' → FlowR L' s'.heap o f → Grow Lb L' (own fm) sb s' → Rr (.ok f) s') → codeAny R.M A (.forLoop t (.ref a) b [] fm.env) Rr s

theorem letGo_gen {M : Model} {es : List PySem.Expr} {n : Nat} {pos : Pos} {v : Value} (hg : s.heap.IsGen a g) {Q : Unit → Shared → Prop} {E : Value → Shared → Prop} (k : Q () s) : wpAny M A (letOwnedTupleGo (.Tuple es n pos) (.ref a) v) Q E s := by
  obtain ⟨o, nm, qn, ho, hc, hd, _⟩ := hg
  unfold letOwnedTupleGo
  cases v with
  | ref b =>
    refine wpAny_bind (wpAny_load ho ?_)
    rw [hc, hd]
    exact wpAny_pure k
  | _ => exact wpAny_pure k

theorem GFl.step {p c : Str} {pp pc : Pos} {n : Nat} {tp : Pos} {b : List Stmt} {K : Out → St → Prop} (hlim : R.h₀.NoLimit)
    (h : match (generalizing := false) rest with
      | [] => K .next st
      | it :: rest' => ∃ st₁ st₂, Bind fm p (.int it.1) st st₁ ∧ Bind fm c (.str it.2) st₁ st₂ ∧ Exs R d fm b st₂ fun o st₃ => match o with
          | .next => GFl R d fm (.Tuple [.Name p pp, .Name c pc] n tp) items rest' b st₃ K | .cont => GFl R d fm (.Tuple [.Name p pp, .Name c pc] n tp) items rest' b st₃ K | .brk => K .next st₃ | .ret v => K (.ret v) st₃) :
    GFl R d fm (.Tuple [.Name p pp, .Name c pc] n tp) items rest b st K :=
  fun A Lb sb L s a g W rm ht P gr G pa hp ha hW hg Rr k' => by
    refine codeAny_of_tree ?_
    rw [Around.under_of_weight rfl rfl]
    show wpAny _ A ((forTurn (.Tuple [.Name p pp, .Name c pc] n tp) (.ref a) b [] fm.env).onRaise (fun x => do noteFrame x fm.env; theTreesLotGoes x)) _ _ s
    refine wpAny_noted ?_
    simp only [forTurn]
    refine wpAny_bind (wpAny_standAt (wpAny_bind (wpAny_onRaise ?_)))
    refine gen_next hlim rm ht P gr G pa hp ha hW hg ?_
    cases rest with
    | nil =>
      intro s' t' P' g'
      exact wpAny_pure ⟨rfl, codeAny_block (wpAny_execs_nil (k' .next _ _ .next _ h t' P' trivial g'))⟩
    | cons it rest' =>
      intro T ti u m s₁ W₁ t₁ P₁ gr₁ hT G₁ pa₁ hp₁ hW₁
      obtain ⟨st₁, st₂, hb1, hb2, h⟩ := h
      refine wpAny_bind (letGo_gen G₁.gen ?_)
      refine wpAny_bind (with_pos t₁ fun E' => wpAny_assign_Tuple rm.handled ⟨_, hT, rfl, _, rfl⟩ rfl rfl fun h₃ hx₃ => ?_)
      have hk₃ : ∀ b o, s₁.heap.get? b = some o → h₃.get? b = some o := fun b o e => hx₃ b o (Nat.ne_of_lt (Heap.lt_size e)) e
      have P₃ := P₁.more (tk := s₁.toks) hk₃
      have q₃ : Grow L L (own fm) s₁ { s₁ with heap := h₃ } := Grow.more (tk := s₁.toks) hk₃
      show wpAny _ A (do holding [Value.str it.2 u] (PySem.assign (.Name p pp) fm.env (.int it.1 ti)); do holding [] (PySem.assign (.Name c pc) fm.env (.str it.2 u)); pure ()) _ _ _
      refine wpAny_bind (wpAny_holding (wpAny_assign_Name (store_bind hb1 P₃ (.int _ _) fun s₄ P₄ q₄ => ?_)))
      refine wpAny_bind (wpAny_holding (wpAny_assign_Name (store_bind hb2 P₄ (.str _ _) fun s₅ P₅ q₅ => wpAny_pure fun t₅ => ?_)))
      have q := (q₃.trans q₄ own_ok).trans q₅ own_ok
      refine wpAny_bind (Exs.run h rm t₅ P₅ fun f s₆ L₆ o st₆ k₆ t₆ P₆ hf q₆ _ => ?_)
      have q' := q.trans q₆ own_ok
      have G₆ := G₁.kept pa₁ hp₁ q'
      have gr₆ := gr₁.trans q' own_ok
      cases o <;> cases f <;> (try exact hf.elim)
      · exact wpAny_pure ⟨rfl, k₆ A Lb sb L₆ s₆ a g W₁ rm t₆ P₆ gr₆ G₆ (pa₁.kept q') (fun b hb => (hp₁ b hb).kept q') ha hW₁ hg Rr k'⟩
      · exact wpAny_pure (k' .next _ _ .next _ k₆ t₆ P₆ trivial gr₆)
      · exact wpAny_pure ⟨rfl, k₆ A Lb sb L₆ s₆ a g W₁ rm t₆ P₆ gr₆ G₆ (pa₁.kept q') (fun b hb => (hp₁ b hb).kept q') ha hW₁ hg Rr k'⟩
      · exact wpAny_pure (k' (.ret _) _ _ (.ret _) _ k₆ t₆ P₆ hf gr₆)

theorem ev_gen {f : Str} {fa : Addr} {e : PySem.Expr} {fp cpos : Pos} {Ke : AV → St → Prop} (hlim : R.h₀.NoLimit) (D : GDef R fa) (hg : GlobV R f (.ref fa)) (hk : fm.scope.names.lookup f = some .globalImplicit) (hd : (f == ("__debug__" : Str)) = false)
    (h : Ev R d fm e st Ke) (rm : Room d A) (ht : 0 < s.toks) (P : Rep R fm L st s) (hx : ∀ v st', Ke v st' → ∃ x, v = .str x) {Q : Value → Shared → Prop} {E : Value → Shared → Prop}
    (hp : ∀ env, starEach [e] env = [(false, eval e env)])
    (k : ∀ a s1 L1 st₁ x s' W g, Ke (.str x) st₁ → Rep R fm L1 st₁ s1 → Grow L L1 (own fm) s s1 → 0 < s'.toks → Rep R fm L1 st₁ s' → Grow L1 L1 [] s1 s' →
      (∀ A' : Around, A'.handled = none → GenS R A' s' a g (escs 0 false x.cps.toList) (escs 0 false x.cps.toList) W) → Priv R L1 fm s' a → (∀ b ∈ W, Priv R L1 fm s' b) →
      s1.heap.get? a = none → (∀ b ∈ W, s1.heap.get? b = none) → s1.gens.size ≤ g → Q (.ref a) s') :
    wpAny R.M A (eval (.Call (.Name f fp) [e] [] cpos) fm.env) Q E s := by
  show wpAny R.M A (do callWith cpos (← eval (.Name f fp) fm.env) [] (backTo cpos (starEach [e] fm.env)) (backToKw cpos (keywordEach [] fm.env))) Q E s
  refine wpAny_bind ?_
  have gv : Ev R d fm (.Name f fp) st fun v st' => v = .raw (.ref fa) ∧ st' = st := Ev.glob hg hk ⟨rfl, rfl⟩ hd
  refine gv.run rm ht P fun f' s₀ L₀ v₀ st₀ hk₀ t₀ P₀ hv₀ g₀ _ => ?_
  obtain ⟨rfl, rfl⟩ := hk₀
  obtain rfl := hv₀.raw_inv
  obtain ⟨fd, q, F, _⟩ := D.def_
  obtain ⟨o, ho, hoc, hod⟩ := F.obj
  refine Calls.callWith_function (o := o) (fd := fd) ?_
  rw [hp]
  refine Calls.evalArgs_plain (Calls.spliced_cons ?_)
  refine h.run rm t₀ P₀ fun v' s₁ L₁ v st₁ k₁ t₁ P₁ hv g₁ _ => ?_
  refine Calls.spliced_nil ?_
  obtain ⟨x, rfl⟩ := hx _ _ k₁
  obtain ⟨t, rfl⟩ := hv.str_inv
  refine ⟨⟨P₁.1.old.get_of_cls ho (by rw [hoc]; simp), hod⟩, ?_⟩
  exact gen_call hlim D rm t₁ P₁ fun a s' W g t' P' gr' G pa hp' ha hW hg => k a s₁ L₁ st₁ x s' W g k₁ P₁ (g₀.trans g₁ own_ok) t' P' gr' G pa hp' ha hW hg

theorem Ex.forGen {f : Str} {fa : Addr} {e : PySem.Expr} {fp cpos pos pp pc tp : Pos} {p c : Str} {n : Nat} {b : List Stmt} {K : Out → St → Prop} (hlim : R.h₀.NoLimit) (D : GDef R fa) (hg : GlobV R f (.ref fa)) (hk : fm.scope.names.lookup f = some .globalImplicit)
    (h : Ev R d fm e st fun v st₁ => ∃ x, v = .str x ∧ GFl R d fm (.Tuple [.Name p pp, .Name c pc] n tp) (escs 0 false x.cps.toList) (escs 0 false x.cps.toList) b st₁ K)
    (hd : (f == ("__debug__" : Str)) = false := by decide) (hp : ∀ env, starEach [e] env = [(false, eval e env)] := by intro _; with_unfolding_all rfl) : Ex R d fm (.For (.Tuple [.Name p pp, .Name c pc] n tp) (.Call (.Name f fp) [e] [] cpos) b [] pos) st K :=
  fun A L s rm ht P Q E k' => wpAny_For (hs := fun _ => rfl) (ev_gen hlim D hg hk hd h rm ht P (fun _ _ h => ⟨_, h.choose_spec.1⟩) hp fun a s1 L1 st₁ x s' W g hK P₁ g₁ t' P' gr' G pa hp' ha hW hg' => by
    obtain ⟨x', hx, hF⟩ := hK
    cases hx
    refine wpAny_pyIter_gen (G A rm.handled).gen ?_
    refine hF A L1 s1 L1 s' a g W rm t' P' (gr'.weaken own_nil) (G A rm.handled) pa hp' ha hW hg' _ fun f s'' L'' o st'' hK t'' P'' hf gr'' => ?_
    exact k' _ _ _ _ _ hK P'' hf (g₁.trans gr'' own_ok))
end

theorem Sto.upd_upd (σ : Sto) (n : Nat) (c c' : Cell) : (σ.upd n c).upd n c' = σ.upd n c' := by
  funext k; unfold Sto.upd; by_cases h : k = n <;> simp [h]
theorem Sto.upd_self (σ : Sto) (n : Nat) (c : Cell) : σ.upd n c n = some c := by simp [Sto.upd]

section
variable {R : RT} {L L' Lb : List Addr} {σ : Sto} {s s' sb : Shared} {d : Nat} {fm : Fm} {ρ : Loc} {st : St} {A : Around} {a : Addr} {g : Nat} {W : List Addr} {items rest : List (Nat × Str)}

theorem ext_loop (hlim : R.h₀.NoLimit) {n : Nat} {S : Addr} {res : Value} {A : Around} (rm : Room d A.in1) {Rr : Result → Shared → Prop} : ∀ (rest : List (Nat × Str)) (L : List Addr) (s : Shared) (σ : Sto) (acc : List AV) (W : List Addr),
    0 < s.toks → Rep R fm L ⟨ρ, σ⟩ s → Grow Lb L (own fm) sb s → GenS R A.in1 s a g items rest W → Priv R L fm s a → (∀ b ∈ W, Priv R L fm s b) → sb.heap.get? a = none → (∀ b ∈ W, sb.heap.get? b = none) → sb.gens.size ≤ g →
    L[n]? = some S → σ n = some (.lst acc) → acc.length + rest.length < 1048576 →
    (∀ s', 0 < s'.toks → Rep R fm L ⟨ρ, σ.upd n (.lst (acc ++ rest.map tupOf))⟩ s' → Grow Lb L (own fm) sb s' → Rr (.ok (.ret res)) s') →
    codeAny R.M A (.builtin "list.extend.loop" ⟨[.ref S, .ref a, res], []⟩) Rr s := by
  intro rest
  induction rest with
  | nil =>
    intro L s σ acc W ht P gr G pa hp ha hW hg hS hn hl k
    refine codeAny_builtin F.entry_extend_loop ?_
    rw [Around.under_plainId F.plain_extend_loop _]
    show wpAny _ A.in1 (pyNext (.ref a) >>= _) _ _ s
    refine wpAny_bind (gen_next hlim rm ht P gr G pa hp ha hW hg fun s' t' P' gr' => ?_)
    have e : σ.upd n (.lst (acc ++ List.map tupOf [])) = σ := by
      funext j; unfold Sto.upd; by_cases h : j = n
      · subst h; simp [hn]
      · simp [h]
    rw [e] at k
    exact wpAny_pure (k s' t' P' gr')
  | cons it rest ih =>
    intro L s σ acc W ht P gr G pa hp ha hW hg hS hn hl k
    refine codeAny_builtin F.entry_extend_loop ?_
    rw [Around.under_plainId F.plain_extend_loop _]
    show wpAny _ A.in1 (pyNext (.ref a) >>= _) _ _ s
    refine wpAny_bind (gen_next hlim rm ht P gr G pa hp ha hW hg fun T ti u m s₁ W₁ t₁ P₁ gr₁ hT G₁ pa₁ hp₁ hW₁ => ?_)
    show wpAny _ A.in1 (updateSeq S (·.push (.ref T)) >>= _) _ _ _
    obtain ⟨b, hb, its, ⟨ep, px⟩, rx⟩ := P₁.1.at_ n _ hn
    rw [hS] at hb; cases hb
    have hz : its.size = acc.length := by rw [← rx.length, Array.length_toList]
    simp only [List.length_cons] at hl
    refine wpAny_bind (wpAny_updateSeq px rfl (wpAny_pure ⟨plainId_quiet F.plain_extend_loop _, ?_⟩) (by rw [hz, sizeLine_eq]; lia) (by show (its.push (.ref T)).size ≤ sizeLine + 1; rw [Array.size_push, hz, sizeLine_eq]; lia))
    have g1 := Heap.get?_update_self (Obj.mapSeq (·.push (Value.ref T))) px rfl
    have hs : Heap.SameBut S s₁.heap (s₁.heap.update S (Obj.mapSeq (·.push (Value.ref T)))) := .update ..
    have st' : Stays s₁.heap (s₁.heap.update S (Obj.mapSeq (·.push (Value.ref T)))) := Stays.sameBut hs fun o e => by rw [px] at e; cases e; exact not_fixed_list (.inl rfl)
    have hv : VR L s₁.heap (tupOf it) (.ref T) := item_vr hT
    have W' := P₁.1.write (s' := { s₁ with heap := s₁.heap.update S (Obj.mapSeq (·.push (Value.ref T))) }) (c := .lst (acc ++ [tupOf it])) hS hs rfl rfl ⟨_, ⟨_, g1⟩, by
      rw [Array.toList_push]
      exact (rx.mono (List.prefix_refl _) st').append (.cons (hv.mono (List.prefix_refl _) st') .nil)⟩
    have gw : Grow L L [] s₁ { s₁ with heap := s₁.heap.update S (Obj.mapSeq (·.push (Value.ref T))) } := Grow.write (List.mem_of_getElem? hS) ⟨_, g1⟩ hs rfl
    have gw' : Grow L L (own fm) s₁ { s₁ with heap := s₁.heap.update S (Obj.mapSeq (·.push (Value.ref T))) } := gw.weaken own_nil
    refine ih L _ (σ.upd n (.lst (acc ++ [tupOf it]))) (acc ++ [tupOf it]) W₁ t₁ ⟨W', P₁.2.kept P₁.1 gw⟩ (gr₁.trans gw' own_ok) (G₁.kept pa₁ hp₁ gw') (pa₁.kept gw') (fun b hb => (hp₁ b hb).kept gw') ha hW₁ hg hS (Sto.upd_self ..) (by simp; lia) fun s' t' P' gr' => ?_
    rw [Sto.upd_upd] at P'
    exact k s' t' (by rw [List.map_cons, List.append_cons]; exact P') gr'

/-- list(a generator) -/
theorem call_list_run (hlim : R.h₀.NoLimit) (rm : Room (d + 1) A) (ht : 0 < s.toks) (P : Rep R fm L st s) (gr : Grow Lb L (own fm) sb s) (G : ∀ A' : Around, A'.handled = none → GenS R A' s a g items items W) (pa : Priv R L fm s a) (hp : ∀ b ∈ W, Priv R L fm s b)
    (ha : sb.heap.get? a = none) (hW : ∀ b ∈ W, sb.heap.get? b = none) (hg : sb.gens.size ≤ g) (hl : items.length < 1048576) {Q : Value → Shared → Prop} {E : Value → Shared → Prop}
    (k : ∀ v' s' L' n, st.σ n = none → 0 < s'.toks → Rep R fm L' ⟨st.ρ, st.σ.upd n (.lst (items.map tupOf))⟩ s' → VR L' s'.heap (.lst n) v' → Grow Lb L' (own fm) sb s' → Q v' s') :
    wpAny R.M A (call (.type "list") [.ref a]) Q E s := by
  have hA : A.handled = none := rm.handled
  refine callType_codes (Q₁ := fun obj s₁ => obj = .ref s.heap.objs.size ∧ s₁ = { s with heap := s.heap.push { cls := .type "list", data := .seq #[] } }) F.called_list (F.typeCall_list_1 _) F.entry_list_init
    (code_list_new _ ⟨rfl, rfl⟩) fun obj s₁ h₁ => ?_
  obtain ⟨rfl, rfl⟩ := h₁
  have hSget : (s.heap.push { cls := .type "list", data := .seq #[] }).get? s.heap.objs.size = some { cls := .type "list", data := .seq #[] } := Heap.get?_push_size _ rfl
  refine ⟨⟨_, hSget, rfl⟩, F.args_list_init_2 _ _, ?_⟩
  have N := P.newList (tk := s.toks) (items := #[]) (l := []) (h' := s.heap.push { cls := .type "list", data := .seq #[] }) (fun b o e => Heap.get?_push_of_some _ e) (get_size_none s.heap) ⟨0, hSget⟩ .nil
  obtain ⟨P₁, hv₁, g₁⟩ := N
  have G₁ : ∀ A' : Around, A'.handled = none → GenS R A' _ a g items items W := fun A' h => (G A' h).kept pa hp g₁
  have pa₁ := pa.kept g₁
  have hp₁ : ∀ b ∈ W, Priv R _ fm _ b := fun b hb => (hp b hb).kept g₁
  have gr₁ := gr.trans g₁ own_ok
  generalize hs1 : ({ s with heap := s.heap.push { cls := .type "list", data := .seq #[] }, toks := s.toks } : Shared) = s₁ at *
  have t₁ : 0 < s₁.toks := by rw [← hs1]; exact ht
  have hS1 : s₁.heap.get? s.heap.objs.size = some { cls := .type "list", data := .seq #[] } := by rw [← hs1]; exact hSget
  generalize hSe : s.heap.objs.size = S at *
  have hLS : (L ++ [S])[L.length]? = some S := by simp
  -- the new list is emptied, touched and filled
  have wr : ∀ (s₂ : Shared) (h' : Heap) (ep : Nat), Rep R fm (L ++ [S]) ⟨st.ρ, st.σ.upd L.length (.lst [])⟩ s₂ → Heap.SameBut S s₂.heap h' → h'.get? S = some { cls := .type "list", data := .seq #[] ep } →
      Rep R fm (L ++ [S]) ⟨st.ρ, st.σ.upd L.length (.lst [])⟩ { s₂ with heap := h' } ∧ Grow (L ++ [S]) (L ++ [S]) (own fm) s₂ { s₂ with heap := h' } := by
    intro s₂ h' ep P₂ hs g1
    have W' := P₂.1.write (s' := { s₂ with heap := h' }) (c := .lst []) hLS hs rfl rfl ⟨_, ⟨_, g1⟩, .nil⟩
    have gw : Grow (L ++ [S]) (L ++ [S]) [] s₂ { s₂ with heap := h' } := Grow.write (List.mem_of_getElem? hLS) ⟨_, g1⟩ hs rfl
    have e2 : ((st.σ.upd L.length (.lst [])).upd L.length (.lst [])) = st.σ.upd L.length (.lst []) := Sto.upd_upd ..
    exact ⟨⟨e2 ▸ W', P₂.2.kept P₂.1 gw⟩, gw.weaken own_nil⟩
  show wpAny _ A.in1.in1 (do let old ← Builtin.List.listItems (.ref S); Builtin.List.listUpdate (.ref S) (fun _ => #[]); letGo old.toList.reverse; Builtin.List.listExtendWith (.ref S) (.ref a) .none) _ _ s₁
  refine wpAny_bind ?_
  unfold Builtin.List.listItems
  refine wpAny_bind (wpAny_seqItems hS1 rfl (wpAny_pure ?_))
  show wpAny _ A.in1.in1 (updateSeq S (fun _ => #[]) >>= fun _ => letGo (#[] : Array Value).toList.reverse >>= fun _ => Builtin.List.listExtendWith (.ref S) (.ref a) .none) _ _ s₁
  refine wpAny_bind (wpAny_updateSeq hS1 rfl ?_)
  have hS2 := Heap.get?_update_self (Obj.mapSeq (fun _ => (#[] : Array Value))) hS1 rfl
  obtain ⟨P₂, g₂⟩ := wr s₁ _ _ P₁ (.update ..) hS2
  generalize hs2 : ({ s₁ with heap := s₁.heap.update S (Obj.mapSeq (fun _ => (#[] : Array Value))) } : Shared) = s₂ at *
  have hS2x : ∃ ep, s₂.heap.get? S = some { cls := .type "list", data := .seq #[] ep } := ⟨_, by rw [← hs2]; exact hS2⟩
  clear hS2
  obtain ⟨ep2, hS2⟩ := hS2x
  have t₂ : 0 < s₂.toks := by rw [← hs2]; exact t₁
  refine wpAny_bind (wpAny_letGo ?_)
  have G₂ : ∀ A' : Around, A'.handled = none → GenS R A' _ a g items items W := fun A' h => (G₁ A' h).kept pa₁ hp₁ g₂
  have pa₂ := pa₁.kept g₂
  have hp₂ : ∀ b ∈ W, Priv R _ fm _ b := fun b hb => (hp₁ b hb).kept g₂
  have gr₂ := gr₁.trans g₂ own_ok
  have hT : s₂.TypeIs (.ref a) "generator" := (G₂ A hA).gen.typeIs
  have hSa : S ≠ a := fun q => pa₁.2.1 (by rw [← q]; simp)
  unfold Builtin.List.listExtendWith
  refine wpAny_bind (wpAny_typeOf hT ?_)
  have h1 : Builtin.List.listSameRef (.ref S) (.ref a) = false := by simp [Builtin.List.listSameRef, hSa]
  have h2 : (Value.type "generator" == Value.type "list") = false := by decide
  have h3 : (Value.type "generator" == Value.type "tuple") = false := by decide
  simp only [h1, h2, h3, Bool.or_false, Bool.false_eq_true, if_false]
  refine wpAny_bind (wpAny_pyIter_gen (G₂ A hA).gen ?_)
  refine wpAny_bind (wpAny_holding ?_)
  unfold Builtin.List.listLengthHint
  refine wpAny_bind (wpAny_specialOf hT F.gen_no_len ?_)
  show wpAny _ A.in1.in1 (specialOf (Value.ref a) (Str.ofString "__length_hint__") >>= _) _ _ _
  refine wpAny_bind (wpAny_specialOf hT F.gen_no_hint ?_)
  refine wpAny_pure ?_
  show wpAny _ A.in1.in1 (rule "list.extend.makes-room" >>= fun _ => Builtin.List.listTouch (.ref S) >>= fun _ =>
    again (.builtin "list.extend.loop" ⟨[.ref S, .ref a, .none], []⟩)) _ _ _
  refine wpAny_bind (wpAny_rule ?_)
  refine wpAny_bind ?_
  show wpAny _ A.in1.in1 (updateSeq S (·.push .none) >>= fun _ => updateSeq S (·.pop)) _ _ _
  refine wpAny_bind (wpAny_updateSeq hS2 rfl ?_)
  have hS3 := Heap.get?_update_self (Obj.mapSeq (·.push Value.none)) hS2 rfl
  refine wpAny_updateSeq (hz := by seq_fits) hS3 rfl ?_
  have hS4 := Heap.get?_update_self (Obj.mapSeq (·.pop)) hS3 rfl
  obtain ⟨P₃, g₃⟩ := wr s₂ _ _ P₂ ((Heap.SameBut.update s₂.heap S (Obj.mapSeq (·.push Value.none))).trans (.update _ S (Obj.mapSeq (·.pop)))) hS4
  generalize hs3 : ({ s₂ with heap := (s₂.heap.update S (Obj.mapSeq (·.push Value.none))).update S (Obj.mapSeq (·.pop)) } : Shared) = s₃ at *
  have t₃ : 0 < s₃.toks := by rw [← hs3]; exact t₂
  have rm' : Room d A.in1.in1 := by
    have h1 := rm.depth; have h2 := rm.units
    exact ⟨by show A.depth + d < _; lia, by show A.units + 1 + 1 + 10 * d < _; lia, rm.handled⟩
  refine wpAny_pure ⟨plainId_quiet F.plain_extend_loop _, ext_loop (A := A.in1) hlim rm' items (L ++ [S]) s₃ _ [] W t₃ P₃ (gr₂.trans g₃ own_ok) ((G₂ A.in1.in1 hA).kept pa₂ hp₂ g₃) (pa₂.kept g₃) (fun b hb => (hp₂ b hb).kept g₃) ha hW hg hLS (Sto.upd_self ..) (by simpa using hl) fun s' t' P' gr' => ?_⟩
  rw [Sto.upd_upd, List.nil_append] at P'
  exact ⟨rfl, k _ s' _ L.length P.1.free t' P' (.lst hLS) gr'⟩

theorem Ev.listGen {f : Str} {fa : Addr} {e : PySem.Expr} {fp lp cpos pos : Pos} {K : AV → St → Prop} (hlim : R.h₀.NoLimit) (D : GDef R fa) (hg : GlobV R f (.ref fa)) (hk : fm.scope.names.lookup f = some .globalImplicit)
    (hgl : GlobV R "list" (.type "list")) (hkl : fm.scope.names.lookup ("list" : Str) = some .globalImplicit)
    (h : Ev R (d + 1) fm e st fun v st₁ => ∃ x, v = .str x ∧ (escs 0 false x.cps.toList).length < 1048576 ∧ ∀ n, st₁.σ n = none → K (.lst n) ⟨st₁.ρ, st₁.σ.upd n (.lst ((escs 0 false x.cps.toList).map tupOf))⟩)
    (hd : (f == ("__debug__" : Str)) = false := by decide) (hp : ∀ env, starEach [e] env = [(false, eval e env)] := by intro _; with_unfolding_all rfl) :
    Ev R (d + 1) fm (.Call (.Name "list" lp) [.Call (.Name f fp) [e] [] cpos] [] pos) st K :=
  fun A L s rm ht P Q E k' => by
    show wpAny R.M A (do callWith pos (← eval (.Name "list" lp) fm.env) [] (backTo pos (starEach [.Call (.Name f fp) [e] [] cpos] fm.env)) (backToKw pos (keywordEach [] fm.env))) Q E s
    refine wpAny_bind ?_
    have gv : Ev R (d + 1) fm (.Name "list" lp) st fun v st' => v = .raw (.type "list") ∧ st' = st := Ev.glob hgl hkl ⟨rfl, rfl⟩
    refine gv.run rm ht P fun f' s₀ L₀ v₀ st₀ hk₀ t₀ P₀ hv₀ g₀ _ => ?_
    obtain ⟨rfl, rfl⟩ := hk₀
    obtain rfl := hv₀.raw_inv
    refine PySem.callWith_type rfl (Calls.evalArgs_plain (wpAny_items_cons (e := .Call (.Name f fp) [e] [] cpos) (rest := []) (env := fm.env) (he := rfl) ?_))
    refine ev_gen hlim D hg hk hd h rm t₀ P₀ (fun _ _ h => ⟨_, h.choose_spec.1⟩) hp fun a s1 L1 st₁ x s' W g hK P₁ g₁ t' P' gr' G pa hp' ha hW hg' => ?_
    obtain ⟨x', hx, hl, hK⟩ := hK
    cases hx
    refine wpAny_items_nil ?_
    exact call_list_run hlim rm t' P' (gr'.weaken own_nil) G pa hp' ha hW hg' hl fun v' s'' L'' n hn t'' P'' hv gr'' => k' _ _ _ _ _ (hK n hn) P'' hv ((g₀.trans g₁ own_ok).trans gr'' own_ok)
end

noncomputable def stm (i : Nat) : Stmt := (PySem.Challenge.pw_ux0016_01.main.body)[i]?.getD (.Pass default)
noncomputable def fnN : Stmt → Str | .FunctionDef n .. => n | _ => ""
noncomputable def fnP : Stmt → Arguments | .FunctionDef _ p .. => p | _ => ⟨[], [], none, [], [], none, []⟩
noncomputable def fnB : Stmt → List Stmt | .FunctionDef _ _ b .. => b | _ => []
noncomputable def fnS : Stmt → Scope | .FunctionDef _ _ _ _ _ _ s .. => s | _ => default

/-- the def at a place of the text, without defaults -/
structure DefIs (R : RT) (i : Nat) (a : Addr) (code : Value) : Prop where
  fd : ∃ fd, FnAt R a fd ∧ fd.params = fnP (stm i) ∧ fd.body = .stmts (fnB (stm i)) ∧ fd.scope = fnS (stm i) ∧ fd.defaults = .none ∧ fd.code = code
  glob : GlobV R (fnN (stm i)) (.ref a)

noncomputable def After (K : AV → Sto → Prop) (o : Out) (st : St) : Prop := match o with | .next => K .none st.σ | .ret v => K v st.σ | _ => False

section
variable {R : RT} {L L' : List Addr} {σ : Sto} {s s' : Shared} {d : Nat} {fm : Fm} {ρ : Loc} {st : St} {A : Around}

/-- names bound to values, one for one -/
noncomputable def BindOk (i : Nat) (n : Nat) (names : List Str) : Prop :=
  ∀ fd : FuncData, fd.params = fnP (stm i) → fd.defaults = .none → ∀ vs : List Value, vs.length = n → bindArgs fd ⟨vs, []⟩ = pure (names.zip vs)

theorem Calls.def_ {i : Nat} {a : Addr} {code : Value} {args : List AV} {names : List Str} {K : AV → Sto → Prop} (T : Top0 R) (D : DefIs R i a code) (hb : BindOk i args.length names) (hl : names.length = args.length)
    (h : Lay (fnS (stm i)).names σ [] fun σ' ρ' => ∀ env : Env, env.code = code → Binds ⟨fnS (stm i), env⟩ (names.zip args) ⟨ρ', σ'⟩ fun st => Exs R d ⟨fnS (stm i), env⟩ (fnB (stm i)) st (After K))
    (hco : (fnS (stm i)).isCoroutine = false := by rfl) (hgen : (fnS (stm i)).isGenerator = false := by rfl) (hkind : (fnS (stm i)).kind = .function := by rfl)
    (hc : ∀ y ∈ (fnS (stm i)).names, y.2 = .cell → (fnS (stm i)).names.lookup y.1 = some .cell := by decide) :
    Calls R (d + 1) (.raw (.ref a)) args [] σ K := by
  obtain ⟨fd, F, h1, h2, h3, h4, h5⟩ := D.fd
  refine Calls.fn (bs := names.zip args) T.nolim F ?_ (by rw [h3]; exact hco) (by rw [h3]; exact hgen) (by rw [h3]; exact hkind) (by rw [h3]; exact hc) ?_
  · intro L s args' kv' old ha hkw
    cases hkw
    have hn : args'.length = args.length := ha.length
    refine ⟨names.zip args', .of_eq (hb fd h1 h4 args' hn), ?_, ?_⟩
    · rw [List.map_fst_zip (by lia), List.map_fst_zip (by lia)]
    · rw [List.map_snd_zip (by lia), List.map_snd_zip (by lia)]; exact ha
  · rw [h3, h5, h2]
    exact h
end

section
variable {R : RT} {L L' : List Addr} {σ : Sto} {s s' : Shared} {d : Nat} {fm : Fm} {ρ : Loc} {st : St} {A : Around}

/-- names that are no longer told -/
theorem Look.app {ρ r : Loc} {x : Str} {b : Bnd} (h : Look ρ x b) : Look (ρ ++ r) x b := by
  induction h with
  | here => exact .here
  | there ne _ ih => exact .there ne ih
noncomputable def Pre (ρ' ρ : Loc) : Prop := ∃ r, ρ = ρ' ++ r
theorem Rep.drop {ρ' : Loc} (h : Pre ρ' ρ) (P : Rep R fm L ⟨ρ, σ⟩ s) : Rep R fm L ⟨ρ', σ⟩ s := by
  obtain ⟨r, rfl⟩ := h
  obtain ⟨H, ok, ⟨m, hn, hm⟩, hc⟩ := P
  exact ⟨H, ok, ⟨m, hn, fun x v hl => hm x v hl.app⟩, fun x n hl => hc x n hl.app⟩
theorem Wl.drop {t : PySem.Expr} {b : List Stmt} {K : Out → St → Prop} {ρ' : Loc} (h : Pre ρ' ρ) (w : Wl R d fm t b ⟨ρ', σ⟩ K) : Wl R d fm t b ⟨ρ, σ⟩ K :=
  fun A L s r ht P => w A L s r ht (P.drop h)
theorem Fl.drop {t : PySem.Expr} {it : AIt} {b : List Stmt} {K : Out → St → Prop} {ρ' : Loc} (h : Pre ρ' ρ) (w : Fl R d fm t it b ⟨ρ', σ⟩ K) : Fl R d fm t it b ⟨ρ, σ⟩ K :=
  fun A L s a r ht P I => w A L s a r ht (P.drop h) I
theorem GFl.drop {t : PySem.Expr} {items rest : List (Nat × Str)} {b : List Stmt} {K : Out → St → Prop} {ρ' : Loc} (h : Pre ρ' ρ) (w : GFl R d fm t items rest b ⟨ρ', σ⟩ K) : GFl R d fm t items rest b ⟨ρ, σ⟩ K :=
  fun A Lb sb L s a g W rm ht P => w A Lb sb L s a g W rm ht (P.drop h)
theorem Exs.drop {b : List Stmt} {K : Out → St → Prop} {ρ' : Loc} (h : Pre ρ' ρ) (w : Exs R d fm b ⟨ρ', σ⟩ K) : Exs R d fm b ⟨ρ, σ⟩ K :=
  fun A L s r ht P => w A L s r ht (P.drop h)
theorem Ev.drop {e : PySem.Expr} {K : AV → St → Prop} {ρ' : Loc} (h : Pre ρ' ρ) (w : Ev R d fm e ⟨ρ', σ⟩ K) : Ev R d fm e ⟨ρ, σ⟩ K :=
  fun A L s r ht P => w A L s r ht (P.drop h)

theorem bind_loc {x : Str} {v : AV} {ρ' : Loc} {K : St → Prop} (h1 : fm.scope.names.lookup x = some .local) (h2 : Upd ρ x v ρ') (h3 : K ⟨ρ', σ⟩) : ∃ st', Bind fm x v ⟨ρ, σ⟩ st' ∧ K st' := ⟨_, .loc h1 h2, h3⟩
theorem asg_loc {x : Str} {v : AV} {p : Pos} {ρ' : Loc} {K : St → Prop} (h1 : fm.scope.names.lookup x = some .local) (h2 : Upd ρ x v ρ') (h3 : K ⟨ρ', σ⟩) : Asg R d fm (.Name x p) v ⟨ρ, σ⟩ K := Asg.name (.loc h1 h2) h3
theorem bind_cel {x : Str} {v : AV} {n : Nat} {ov : Option AV} {K : St → Prop} (h1 : fm.scope.names.lookup x = some .cell) (h2 : Look ρ x (.cel n)) (h4 : σ n = some (.cel ov)) (h3 : K ⟨ρ, σ.upd n (.cel (some v))⟩) : ∃ st', Bind fm x v ⟨ρ, σ⟩ st' ∧ K st' := ⟨_, .cel h1 h2 h4, h3⟩

theorem EvP.some' {R : RT} {d : Nat} {fm : Fm} {e : PySem.Expr} {st : St} {K : Option Int → St → Prop} (h : Ev R d fm e st fun v st' => ∃ i, v = .int i ∧ K (some i) st') : EvP R d fm (some e) st K := h
theorem EvP.none' {R : RT} {d : Nat} {fm : Fm} {st : St} {K : Option Int → St → Prop} (h : K none st) : EvP R d fm none st K := h
theorem ne_bi {a : Addr} : ∀ v : String, AV.raw (.ref a) ≠ .raw (.builtin v) := by intro v h; cases h
theorem ne_ty {a : Addr} : ∀ v : String, AV.raw (.ref a) ≠ .raw (.type v) := by intro v h; cases h

theorem lst_is {n : Nat} {l : List AV} (h : σ n = some (.lst l)) : ∀ m, AV.lst n = .lst m → ∃ l, σ m = some (.lst l) := by intro m e; cases e; exact ⟨l, h⟩
theorem str_is {x : Str} : ∀ m, AV.str x = .lst m → ∃ l, σ m = some (.lst l) := by intro m e; cases e
theorem sub_is {n : Nat} {l : List AV} (h : σ n = some (.lst l)) : ∃ m k, AV.lst n = .lst m ∧ σ m = some (.lst k) := ⟨n, l, rfl, h⟩

theorem DefIs.callee {i : Nat} {a : Addr} {code : Value} (D : DefIs R i a code) : Callee R (.raw (.ref a)) := by
  obtain ⟨fd, F, _⟩ := D.fd
  obtain ⟨o, h1, h2, h3⟩ := F.obj
  exact .fn h1 h2 h3

/-- a def with two defaults, 0 and None -/
structure DefKw (R : RT) (i : Nat) (a : Addr) : Prop where
  fd : ∃ fd T t n, FnAt R a fd ∧ fd.params = fnP (stm i) ∧ fd.body = .stmts (fnB (stm i)) ∧ fd.scope = fnS (stm i) ∧ fd.defaults = .ref T ∧ R.h₀.get? T = some { cls := .type "tuple", data := .seq #[.int 0 t, .none] n }
  glob : GlobV R (fnN (stm i)) (.ref a)
theorem DefKw.callee {i : Nat} {a : Addr} (D : DefKw R i a) : Callee R (.raw (.ref a)) := by
  obtain ⟨fd, _, _, _, F, _⟩ := D.fd
  obtain ⟨o, h1, h2, h3⟩ := F.obj
  exact .fn h1 h2 h3

noncomputable def kwNames : List Str := ["a", "x", "lo", "hi", "key"]

noncomputable def KwOk (i : Nat) : Prop := ∀ (fd : FuncData) (T : Addr) (t : Tok) (n : Nat) (s : Shared), fd.params = fnP (stm i) → fd.defaults = .ref T → s.heap.get? T = some { cls := .type "tuple", data := .seq #[.int 0 t, .none] n } → ∀ l x lo hi f,
    BindsTo s fd ⟨[l, x], [("key", f)]⟩ (kwNames.zip [l, x, .int 0 t, .none, f]) ∧ BindsTo s fd ⟨[l, x, lo, hi], [("key", f)]⟩ (kwNames.zip [l, x, lo, hi, f])

theorem kwok5 : KwOk 5 := by
  intro fd T t n s hp hd hT l x lo hi f
  obtain ⟨name, qualname, params, body, scope, globals, closure, defaults, kwdefaults⟩ := fd
  simp only at hp hd; subst hp hd
  exact ⟨BindsTo.of_defaults rfl hT rfl rfl rfl, BindsTo.of_defaults rfl hT rfl rfl rfl⟩
theorem kwok6 : KwOk 6 := by
  intro fd T t n s hp hd hT l x lo hi f
  obtain ⟨name, qualname, params, body, scope, globals, closure, defaults, kwdefaults⟩ := fd
  simp only at hp hd; subst hp hd
  exact ⟨BindsTo.of_defaults rfl hT rfl rfl rfl, BindsTo.of_defaults rfl hT rfl rfl rfl⟩
theorem kwok7 : KwOk 7 := by
  intro fd T t n s hp hd hT l x lo hi f
  obtain ⟨name, qualname, params, body, scope, globals, closure, defaults, kwdefaults⟩ := fd
  simp only at hp hd; subst hp hd
  exact ⟨BindsTo.of_defaults rfl hT rfl rfl rfl, BindsTo.of_defaults rfl hT rfl rfl rfl⟩
theorem kwok8 : KwOk 8 := by
  intro fd T t n s hp hd hT l x lo hi f
  obtain ⟨name, qualname, params, body, scope, globals, closure, defaults, kwdefaults⟩ := fd
  simp only at hp hd; subst hp hd
  exact ⟨BindsTo.of_defaults rfl hT rfl rfl rfl, BindsTo.of_defaults rfl hT rfl rfl rfl⟩

theorem Calls.kw2 {i : Nat} {a : Addr} {l x f : AV} {K : AV → Sto → Prop} (T : Top0 R) (D : DefKw R i a) (hb : KwOk i)
    (h : Lay (fnS (stm i)).names σ [] fun σ' ρ' => ∀ env : Env, Binds ⟨fnS (stm i), env⟩ (kwNames.zip [l, x, .int 0, .none, f]) ⟨ρ', σ'⟩ fun st => Exs R d ⟨fnS (stm i), env⟩ (fnB (stm i)) st (After K))
    (hco : (fnS (stm i)).isCoroutine = false) (hgen : (fnS (stm i)).isGenerator = false) (hkind : (fnS (stm i)).kind = .function)
    (hc : ∀ y ∈ (fnS (stm i)).names, y.2 ≠ .cell) (hlay : ∀ {K : Sto → Loc → Prop} {σ : Sto} {ρ : Loc}, Lay (fnS (stm i)).names σ ρ K ↔ K σ ρ) :
    Calls R (d + 1) (.raw (.ref a)) [l, x] [("key", f)] σ K := by
  obtain ⟨fd, T', t, n, F, h1, h2, h3, h4, h5⟩ := D.fd
  refine Calls.fn (bs := kwNames.zip [l, x, .int 0, .none, f]) T.nolim F ?_ (by rw [h3]; exact hco) (by rw [h3]; exact hgen) (by rw [h3]; exact hkind) (by rw [h3]; exact fun y hy e => absurd e (hc y hy)) ?_
  · intro L s args' kv' old ha hkw
    obtain ⟨l', x', rfl, hl, hx⟩ := ha.two
    obtain ⟨f', rfl, hf⟩ := hkw.one
    exact ⟨_, (hb fd T' t n s h1 h4 (old.get_of_cls h5 (by simp)) l' x' l' l' f').1, rfl, .cons hl (.cons hx (.cons (.int _ _) (.cons .none (.cons hf .nil))))⟩
  · rw [h3, hlay]
    intro env _
    rw [h2]
    exact (hlay.mp h) env
theorem Calls.kw4 {i : Nat} {a : Addr} {l x lo hi f : AV} {K : AV → Sto → Prop} (T : Top0 R) (D : DefKw R i a) (hb : KwOk i)
    (h : Lay (fnS (stm i)).names σ [] fun σ' ρ' => ∀ env : Env, Binds ⟨fnS (stm i), env⟩ (kwNames.zip [l, x, lo, hi, f]) ⟨ρ', σ'⟩ fun st => Exs R d ⟨fnS (stm i), env⟩ (fnB (stm i)) st (After K))
    (hco : (fnS (stm i)).isCoroutine = false) (hgen : (fnS (stm i)).isGenerator = false) (hkind : (fnS (stm i)).kind = .function)
    (hc : ∀ y ∈ (fnS (stm i)).names, y.2 ≠ .cell) (hlay : ∀ {K : Sto → Loc → Prop} {σ : Sto} {ρ : Loc}, Lay (fnS (stm i)).names σ ρ K ↔ K σ ρ) :
    Calls R (d + 1) (.raw (.ref a)) [l, x, lo, hi] [("key", f)] σ K := by
  obtain ⟨fd, T', t, n, F, h1, h2, h3, h4, h5⟩ := D.fd
  refine Calls.fn (bs := kwNames.zip [l, x, lo, hi, f]) T.nolim F ?_ (by rw [h3]; exact hco) (by rw [h3]; exact hgen) (by rw [h3]; exact hkind) (by rw [h3]; exact fun y hy e => absurd e (hc y hy)) ?_
  · intro L s args' kv' old ha hkw
    obtain ⟨l', r', rfl, hl, ha⟩ : ∃ l' r', args' = l' :: r' ∧ VR L s.heap l l' ∧ VRs L s.heap [x, lo, hi] r' := by cases ha; exact ⟨_, _, rfl, by assumption, by assumption⟩
    obtain ⟨x', r', rfl, hx, ha⟩ : ∃ l' r'', r' = l' :: r'' ∧ VR L s.heap x l' ∧ VRs L s.heap [lo, hi] r'' := by cases ha; exact ⟨_, _, rfl, by assumption, by assumption⟩
    obtain ⟨lo', hi', rfl, hlo, hhi⟩ := ha.two
    obtain ⟨f', rfl, hf⟩ := hkw.one
    exact ⟨_, (hb fd T' t n s h1 h4 (old.get_of_cls h5 (by simp)) l' x' lo' hi' f').2, rfl, .cons hl (.cons hx (.cons hlo (.cons hhi (.cons hf .nil))))⟩
  · rw [h3, hlay]
    intro env _
    rw [h2]
    exact (hlay.mp h) env
end
local macro_rules | `(tactic| wtm_at "m_look") => `(tactic| first | with_reducible exact Look.here | (refine Look.there (by decide) ?_; wtm_at "m_look"))
local macro_rules | `(tactic| wtm_at "m_upd") => `(tactic| first | with_reducible exact Upd.nil | with_reducible exact Upd.here | (apply Upd.there; (focus decide); wtm_at "m_upd"))
local macro_rules | `(tactic| wtm_at "m_bind") => `(tactic| ((first | refine bind_loc rfl (by wtm_at "m_upd") ?_ | refine bind_cel rfl (by wtm_at "m_look") (by assumption) ?_ | fail "bind"); try dsimp only))
local macro_rules | `(tactic| wtm_at "m_callee") => `(tactic| (with_reducible refine And.intro (a := Callee _ _) ?ce ?_; (case ce => first | exact Callee.bi _ | exact Callee.ty _ | exact DefIs.callee (by assumption) | exact DefKw.callee (by assumption) | assumption | fail "callee")))
local macro_rules | `(tactic| wtm_at "m_meth") => `(tactic| (with_reducible first | refine And.intro (a := Meth _ _ _) Meth.append ?_ | refine And.intro (a := Meth _ _ _) Meth.insert ?_ | refine And.intro (a := Meth _ _ _) Meth.pop ?_ | refine And.intro (a := Meth _ _ _) Meth.index ?_ | refine And.intro (a := Meth _ _ _) Meth.join ?_ | fail "meth"))
local macro_rules | `(tactic| wtm_at "m_is") => `(tactic| (with_reducible first | refine And.intro (a := AV.none = AV.none) rfl ?_ | refine And.intro str_is ?_ | refine And.intro (lst_is (by assumption)) ?_ | refine And.intro (sub_is (by assumption)) ?_ | fail "is"))
local macro_rules | `(tactic| wtm_at "m_ne") => `(tactic| (with_reducible first | refine And.intro ne_bi ?_ | refine And.intro ne_ty ?_ | fail "ne"))
local macro_rules | `(tactic| wtm_at "m_ev") => `(tactic| with_reducible first
  | refine Ev.cint ?_ | refine Ev.cstr ?_ | refine Ev.cbool ?_ | refine Ev.cnone ?_
  | refine Ev.var (by wtm_at "m_look") ?_
  | refine Ev.cel (by wtm_at "m_look") (by assumption) ?_
  | refine Ev.glob (by assumption) (by with_unfolding_all rfl) ?_
  | refine Ev.binop (Nat.le_add_left 2 _) ?_
  | refine Ev.cmp (Nat.le_add_left 2 _) ?_
  | refine Ev.unop (Nat.le_add_left 2 _) ?_
  | refine Evs.nil ?_ | refine Evs.cons ?_
  | refine Tst.cmp (Nat.le_add_left 2 _) ?_
  | refine Tst.not ?_
  | refine Tst.boolop ?_
  | refine All.and_nil ?_ | refine All.and_cons ?_ | refine All.or_nil ?_ | refine All.or_cons ?_
  | refine Ev.reversed ?_ | refine Ev.sub (Nat.le_add_left 2 _) ?_
  | refine EvP.some' ?_ | refine EvP.none' ?_
  | refine Ev.list ?_ | refine Ev.tuple ?_
  | refine Ev.meth (name := "append") (id := "list.append") ?_ (he := fun _ => by with_unfolding_all rfl) | refine Ev.meth (name := "insert") (id := "list.insert") ?_ (he := fun _ => by with_unfolding_all rfl) | refine Ev.meth (name := "pop") (id := "list.pop") ?_ (he := fun _ => by with_unfolding_all rfl) | refine Ev.meth (name := "index") (id := "list.index") ?_ (he := fun _ => by with_unfolding_all rfl) | refine Ev.meth (name := "join") (id := "str.join") ?_ (he := fun _ => by with_unfolding_all rfl) | refine Ev.call ?_ | refine Ev.callKw ?_ | fail "ev")
local macro_rules | `(tactic| wtm_at "m_op") => `(tactic| with_reducible first
  | refine Opr.add_int ?_ | refine Opr.sub_int ?_ | refine Opr.sub_bool ?_
  | refine Opr.lt_int ?_ | refine Opr.gt_int ?_ | refine Opr.ge_int ?_ | refine Opr.eq_int ?_ | refine Opr.ne_int ?_
  | refine Opr.lt_str ?_ | refine Opr.gt_str ?_ | refine Opr.eq_str ?_ | refine Opr.ne_str ?_ | refine Opr.ne_bool ?_ | refine Opr.notIn_str ?_
  | refine Opr.is_none ?_ | refine Opr.isNot_none ?_ | refine Opr.iadd_int ?_ | refine Opr.isub_int ?_ | refine Opr.neg_int ?_ | refine Opr.add_str (by assumption) ?_ | fail "op")
local macro_rules | `(tactic| wtm_at "m_ex") => `(tactic| with_reducible first
  | refine Exs.nil ?_ | refine Exs.cons ?_
  | refine Ex.ret ?_ | refine Ex.assign ?_ | refine Ex.expr ?_ | refine Ex.ite ?_ | refine Ex.aug (Nat.le_add_left 2 _) (by wtm_at "m_look") ?_ | refine Ex.assign_sub ?_ | refine asg_loc (by with_unfolding_all rfl) (by wtm_at "m_upd") ?_ | fail "ex")
local macro_rules | `(tactic| wtm_at "m_tst") => `(tactic| (first | refine ⟨_, rfl, ?_⟩ | fail "tst"))
local macro_rules | `(tactic| wtm_at "mm") => `(tactic| (first | wtm_at "m_ev" | wtm_at "m_op" | wtm_at "m_ex" | wtm_at "m_bind" | wtm_at "m_callee" | wtm_at "m_ne" | wtm_at "m_meth" | wtm_at "m_is" | wtm_at "m_tst" | fail "m"); try dsimp only)
local macro_rules | `(tactic| wtm_at "m_cap") => `(tactic| first | with_reducible exact Cap.nil | ((first | with_reducible refine Cap.skip (by decide) ?_ | with_reducible refine Cap.take (by wtm_at "m_look") ?_); wtm_at "m_cap"))
local macro_rules | `(tactic| wtm_at "m_kinds") => `(tactic| first | exact trivial | exact ⟨.inl (by with_unfolding_all rfl), by wtm_at "m_kinds"⟩ | exact ⟨.inr (by with_unfolding_all rfl), by wtm_at "m_kinds"⟩)
local macro_rules | `(tactic| wtm_at "m_swaps") => `(tactic| (intro env he; unfold swapsWith; simp only [Env.blockKind, Env.kindOf, he]; with_unfolding_all rfl))
local macro_rules | `(tactic| wtm_at "m_capl") => `(tactic| first | with_reducible exact CapL.nil | ((first | with_reducible refine CapL.skip (by decide) ?_ | with_reducible refine CapL.take (by wtm_at "m_look") ?_); wtm_at "m_capl"))

noncomputable def coll (a b : Str) : Int := b2i (decide (b.cps.toList < a.cps.toList)) - b2i (decide (a.cps.toList < b.cps.toList))
theorem len_cons {α : Type} {n : Nat} : ∀ {l : List α}, l.length = n + 1 → ∃ a t, l = a :: t ∧ t.length = n
  | a :: t, h => ⟨a, t, rfl, Nat.succ.inj h⟩
theorem bok1 {i : Nat} {x : Str} (h : ∀ fd : FuncData, fd.params = fnP (stm i) → fd.defaults = .none → ∀ v, bindArgs fd ⟨[v], []⟩ = pure [(x, v)]) : BindOk i 1 [x] := by
  intro fd hp hd vs hv
  obtain ⟨a, t, rfl, h1⟩ := len_cons hv
  obtain rfl := List.eq_nil_of_length_eq_zero h1
  exact h fd hp hd a
theorem bok2 {i : Nat} {x y : Str} (h : ∀ fd : FuncData, fd.params = fnP (stm i) → fd.defaults = .none → ∀ v w, bindArgs fd ⟨[v, w], []⟩ = pure [(x, v), (y, w)]) : BindOk i 2 [x, y] := by
  intro fd hp hd vs hv
  obtain ⟨a, t, rfl, h1⟩ := len_cons hv
  obtain ⟨b, t, rfl, h2⟩ := len_cons h1
  obtain rfl := List.eq_nil_of_length_eq_zero h2
  exact h fd hp hd a b
theorem bok3 {i : Nat} {x y z : Str} (h : ∀ fd : FuncData, fd.params = fnP (stm i) → fd.defaults = .none → ∀ v w u, bindArgs fd ⟨[v, w, u], []⟩ = pure [(x, v), (y, w), (z, u)]) : BindOk i 3 [x, y, z] := by
  intro fd hp hd vs hv
  obtain ⟨a, t, rfl, h1⟩ := len_cons hv
  obtain ⟨b, t, rfl, h2⟩ := len_cons h1
  obtain ⟨c, t, rfl, h3⟩ := len_cons h2
  obtain rfl := List.eq_nil_of_length_eq_zero h3
  exact h fd hp hd a b c

section
variable {R : RT} {σ : Sto} {a : Addr} {code : Value} {d : Nat}
theorem c_strcoll (T : Top0 R) (D : DefIs R 10 a code) (x y : Str) : Calls R (d + 3) (.raw (.ref a)) [.str x, .str y] [] σ fun v σ' => v = .int (coll x y) ∧ σ' = σ := by
  refine Calls.def_ (names := ["a", "b"]) T D (bok2 fun fd hp hd v w => by unfold bindArgs; rw [hp, hd]; rfl) rfl ?_
  intro env he
  iterate 2 wtm_at "m_bind"
  refine Exs.cons ?_
  repeat' wtm_at "mm"
  exact ⟨rfl, rfl⟩
theorem c_strxfrm (T : Top0 R) (D : DefIs R 11 a code) (v : AV) : Calls R (d + 1) (.raw (.ref a)) [v] [] σ fun r σ' => r = v ∧ σ' = σ := by
  refine Calls.def_ (names := ["s"]) T D (bok1 fun fd hp hd v => by unfold bindArgs; rw [hp, hd]; rfl) rfl ?_
  intro env he
  wtm_at "m_bind"
  refine Exs.cons ?_
  repeat' wtm_at "mm"
  exact ⟨rfl, rfl⟩

/-- the search of bisect: the first place at which p tells true, if p is so from there on -/
noncomputable def bis (p : Nat → Bool) : Nat → Nat → Nat → Nat
  | 0, lo, _ => lo
  | k + 1, lo, hi => if lo < hi then (if p ((lo + hi) / 2) then bis p k lo ((lo + hi) / 2) else bis p k ((lo + hi) / 2 + 1) hi) else lo


/-- what a key gives and how it compares, at each place -/
structure KeyOk (R : RT) (d : Nat) (σ : Sto) (l : List AV) (f x : AV) (swap : Bool) (p : Nat → Bool) : Prop where
  callee : Callee R f
  some_ : f.isNone = false
  key : ∀ (i : Nat) (v : AV), l[i]? = some v → Calls R d f [v] [] σ fun kv σ' => σ' = σ ∧ Opr R (op2 (compareOp .Lt)) (if swap then [kv, x] else [x, kv]) σ fun w σ' => w = .bool (p i != swap) ∧ σ' = σ

noncomputable def elseOf : Option Stmt → Stmt | some (.If _ _ (x :: _) _) => x | _ => .Pass default
noncomputable def bisLoop (i : Nat) : Stmt := elseOf (fnB (stm i))[2]?
noncomputable def whT : Stmt → PySem.Expr | .While t _ _ _ => t | _ => .Constant .none 0 default
noncomputable def whB : Stmt → List Stmt | .While _ b _ _ => b | _ => []

theorem fdiv2 (a b : Nat) : ((a : Int) + (b : Int)).fdiv 2 = ((a + b) / 2 : Nat) := by
  rw [Int.fdiv_eq_ediv_of_nonneg _ (by lia)]; lia

noncomputable def bisLoc (n : Nat) (x f : AV) (lo hi : Nat) : Loc := [("a", .val (.lst n)), ("x", .val x), ("lo", .val (.int lo)), ("hi", .val (.int hi)), ("key", .val f)]

theorem w_bisr {n : Nat} {l : List AV} {x f : AV} {p : Nat → Bool} {env : Env} {K : Out → St → Prop} (hn : σ n = some (.lst l)) (hl : l.length < 1048576) (hk : KeyOk R (d + 2) σ l f x false p) :
    ∀ (k lo hi : Nat), hi - lo < k → lo ≤ hi → hi ≤ l.length → (∀ hi', K .next ⟨bisLoc n x f (bis p k lo hi) hi', σ⟩) →
      Wl R (d + 2) ⟨fnS (stm 6), env⟩ (whT (bisLoop 6)) (whB (bisLoop 6)) ⟨bisLoc n x f lo hi, σ⟩ K := by
  intro k
  induction k with
  | zero => intro lo hi h; exact absurd h (by lia)
  | succ k ih =>
    intro lo hi h1 h2 h3 hK
    have hcal := hk.callee
    refine Wl.step ?_
    unfold bisLoc
    refine Tst.cmp (by lia) ?_
    repeat' wtm_at "mm"
    by_cases h : lo < hi
    · rw [show decide ((lo : Int) < (hi : Int)) = true by simpa using h]
      dsimp only
      refine Exs.cons ?_
      repeat' wtm_at "mm"
      refine Opr.fdiv_int (by decide) (by decide) ?_
      rw [fdiv2]
      repeat' wtm_at "mm"
      obtain ⟨v0, hv0⟩ : ∃ v, l[(lo + hi) / 2]? = some v := ⟨_, List.getElem?_eq_getElem (by lia)⟩
      refine Opr.getItem hn (by lia) hv0 hl ?_
      refine Evs.nil ?_
      refine (hk.key _ _ hv0).mono fun kv σ' hq => ?_
      obtain ⟨rfl, ho⟩ := hq
      refine ho.mono fun w σ' hq => ?_
      obtain ⟨rfl, rfl⟩ := hq
      refine ⟨_, rfl, ?_⟩
      cases hp : p ((lo + hi) / 2) with
      | true =>
        rw [show (true != false) = true from rfl]
        dsimp only
        repeat' wtm_at "mm"
        refine Wl.drop (ρ' := bisLoc n x f lo ((lo + hi) / 2)) ⟨_, rfl⟩ (ih lo ((lo + hi) / 2) (by lia) (by lia) (by lia) ?_)
        intro hi'
        have := hK hi'
        simpa [bis, h, hp] using this
      | false =>
        rw [show (false != false) = false from rfl]
        dsimp only
        repeat' wtm_at "mm"
        refine Wl.drop (ρ' := bisLoc n x f ((lo + hi) / 2 + 1) hi) ⟨_, rfl⟩ (ih ((lo + hi) / 2 + 1) hi (by lia) (by lia) (by lia) ?_)
        intro hi'
        have := hK hi'
        simpa [bis, h, hp] using this
    · rw [show decide ((lo : Int) < (hi : Int)) = false by simpa using h]
      dsimp only
      have e : bis p (k + 1) lo hi = lo := by simp [bis, h]
      have := hK hi
      rw [e] at this
      exact this

theorem bis_bounds (p : Nat → Bool) : ∀ (k lo hi : Nat), lo ≤ hi → lo ≤ bis p k lo hi ∧ bis p k lo hi ≤ hi := by
  intro k
  induction k with
  | zero => intro lo hi h; exact ⟨Nat.le_refl _, h⟩
  | succ k ih =>
    intro lo hi h
    unfold bis
    split
    · split
      · have := ih lo ((lo + hi) / 2) (by lia); lia
      · have := ih ((lo + hi) / 2 + 1) hi (by lia); lia
    · lia

noncomputable def bisAt (p : Nat → Bool) (n : Nat) : Nat := bis p (n + 1) 0 n
theorem bisAt_le (p : Nat → Bool) (n : Nat) : bisAt p n ≤ n := (bis_bounds p _ _ _ (Nat.zero_le _)).2

theorem b_bisr {n : Nat} {l : List AV} {x f : AV} {p : Nat → Bool} (glen : GlobV R "len" (.builtin "len")) (hn : σ n = some (.lst l)) (hl : l.length < 1048576) (hk : KeyOk R (d + 2) σ l f x false p) (env : Env) :
    Binds ⟨fnS (stm 6), env⟩ (kwNames.zip [.lst n, x, .int 0, .none, f]) ⟨[], σ⟩ fun st => Exs R (d + 2) ⟨fnS (stm 6), env⟩ (fnB (stm 6)) st (After fun v σ' => v = .int (bisAt p l.length) ∧ σ' = σ) := by
  iterate 5 wtm_at "m_bind"
  refine Exs.cons ?_
  repeat' wtm_at "mm"
  rw [show decide ((0 : Int) < 0) = false from rfl]
  dsimp only
  repeat' wtm_at "mm"
  rw [show AV.none.isNone = true from rfl]
  dsimp only
  repeat' wtm_at "mm"
  refine Calls.len_lst hn hl ?_ (by lia)
  repeat' wtm_at "mm"
  rw [hk.some_]
  dsimp only
  refine Exs.cons (Ex.while ?_)
  refine w_bisr hn hl hk (l.length + 1) 0 l.length (by lia) (by lia) (by lia) fun hi' => ?_
  unfold bisLoc
  dsimp only
  repeat' wtm_at "mm"
  exact ⟨rfl, rfl⟩
theorem w_bisl {n : Nat} {l : List AV} {x f : AV} {p : Nat → Bool} {env : Env} {K : Out → St → Prop} (hn : σ n = some (.lst l)) (hl : l.length < 1048576) (hk : KeyOk R (d + 2) σ l f x true p) :
    ∀ (k lo hi : Nat), hi - lo < k → lo ≤ hi → hi ≤ l.length → (∀ hi', K .next ⟨bisLoc n x f (bis p k lo hi) hi', σ⟩) →
      Wl R (d + 2) ⟨fnS (stm 8), env⟩ (whT (bisLoop 8)) (whB (bisLoop 8)) ⟨bisLoc n x f lo hi, σ⟩ K := by
  intro k
  induction k with
  | zero => intro lo hi h; exact absurd h (by lia)
  | succ k ih =>
    intro lo hi h1 h2 h3 hK
    have hcal := hk.callee
    refine Wl.step ?_
    unfold bisLoc
    refine Tst.cmp (by lia) ?_
    repeat' wtm_at "mm"
    by_cases h : lo < hi
    · rw [show decide ((lo : Int) < (hi : Int)) = true by simpa using h]
      dsimp only
      refine Exs.cons ?_
      repeat' wtm_at "mm"
      refine Opr.fdiv_int (by decide) (by decide) ?_
      rw [fdiv2]
      repeat' wtm_at "mm"
      obtain ⟨v0, hv0⟩ : ∃ v, l[(lo + hi) / 2]? = some v := ⟨_, List.getElem?_eq_getElem (by lia)⟩
      refine Opr.getItem hn (by lia) hv0 hl ?_
      refine Evs.nil ?_
      refine (hk.key _ _ hv0).mono fun kv σ' hq => ?_
      obtain ⟨rfl, ho⟩ := hq
      repeat' wtm_at "mm"
      refine ho.mono fun w σ' hq => ?_
      obtain ⟨rfl, rfl⟩ := hq
      refine ⟨_, rfl, ?_⟩
      cases hp : p ((lo + hi) / 2) with
      | true =>
        rw [show (true != true) = false from rfl]
        dsimp only
        repeat' wtm_at "mm"
        refine Wl.drop (ρ' := bisLoc n x f lo ((lo + hi) / 2)) ⟨_, rfl⟩ (ih lo ((lo + hi) / 2) (by lia) (by lia) (by lia) ?_)
        intro hi'
        have := hK hi'
        simpa [bis, h, hp] using this
      | false =>
        rw [show (false != true) = true from rfl]
        dsimp only
        repeat' wtm_at "mm"
        refine Wl.drop (ρ' := bisLoc n x f ((lo + hi) / 2 + 1) hi) ⟨_, rfl⟩ (ih ((lo + hi) / 2 + 1) hi (by lia) (by lia) (by lia) ?_)
        intro hi'
        have := hK hi'
        simpa [bis, h, hp] using this
    · rw [show decide ((lo : Int) < (hi : Int)) = false by simpa using h]
      dsimp only
      have e : bis p (k + 1) lo hi = lo := by simp [bis, h]
      have := hK hi
      rw [e] at this
      exact this

theorem b_bisl {n : Nat} {l : List AV} {x f : AV} {p : Nat → Bool} (glen : GlobV R "len" (.builtin "len")) (hn : σ n = some (.lst l)) (hl : l.length < 1048576) (hk : KeyOk R (d + 2) σ l f x true p) (env : Env) :
    Binds ⟨fnS (stm 8), env⟩ (kwNames.zip [.lst n, x, .int 0, .none, f]) ⟨[], σ⟩ fun st => Exs R (d + 2) ⟨fnS (stm 8), env⟩ (fnB (stm 8)) st (After fun v σ' => v = .int (bisAt p l.length) ∧ σ' = σ) := by
  iterate 5 wtm_at "m_bind"
  refine Exs.cons ?_
  repeat' wtm_at "mm"
  rw [show decide ((0 : Int) < 0) = false from rfl]
  dsimp only
  repeat' wtm_at "mm"
  rw [show AV.none.isNone = true from rfl]
  dsimp only
  repeat' wtm_at "mm"
  refine Calls.len_lst hn hl ?_ (by lia)
  repeat' wtm_at "mm"
  rw [hk.some_]
  dsimp only
  refine Exs.cons (Ex.while ?_)
  refine w_bisl hn hl hk (l.length + 1) 0 l.length (by lia) (by lia) (by lia) fun hi' => ?_
  unfold bisLoc
  dsimp only
  repeat' wtm_at "mm"
  exact ⟨rfl, rfl⟩
end

section
variable {R : RT} {σ : Sto} {a : Addr} {code : Value} {d : Nat}

theorem c_bisr4 {a6 : Addr} (T : Top0 R) (D : DefKw R 6 a6) (glen : GlobV R "len" (.builtin "len")) {n : Nat} {l : List AV} {x f : AV} {p : Nat → Bool} (hn : σ n = some (.lst l)) (hl : l.length < 1048576) (hk : KeyOk R (d + 2) σ l f x false p) :
    Calls R (d + 3) (.raw (.ref a6)) [.lst n, x, .int 0, .none] [("key", f)] σ fun v σ' => v = .int (bisAt p l.length) ∧ σ' = σ :=
  Calls.kw4 T D kwok6 (fun env => b_bisr glen hn hl hk env) rfl rfl rfl (by decide) Iff.rfl
theorem c_bisl2 {a6 : Addr} (T : Top0 R) (D : DefKw R 8 a6) (glen : GlobV R "len" (.builtin "len")) {n : Nat} {l : List AV} {x f : AV} {p : Nat → Bool} (hn : σ n = some (.lst l)) (hl : l.length < 1048576) (hk : KeyOk R (d + 2) σ l f x true p) :
    Calls R (d + 3) (.raw (.ref a6)) [.lst n, x] [("key", f)] σ fun v σ' => v = .int (bisAt p l.length) ∧ σ' = σ :=
  Calls.kw2 T D kwok8 (fun env => b_bisl glen hn hl hk env) rfl rfl rfl (by decide) Iff.rfl
theorem c_bisl4 {a6 : Addr} (T : Top0 R) (D : DefKw R 8 a6) (glen : GlobV R "len" (.builtin "len")) {n : Nat} {l : List AV} {x f : AV} {p : Nat → Bool} (hn : σ n = some (.lst l)) (hl : l.length < 1048576) (hk : KeyOk R (d + 2) σ l f x true p) :
    Calls R (d + 3) (.raw (.ref a6)) [.lst n, x, .int 0, .none] [("key", f)] σ fun v σ' => v = .int (bisAt p l.length) ∧ σ' = σ :=
  Calls.kw4 T D kwok8 (fun env => b_bisl glen hn hl hk env) rfl rfl rfl (by decide) Iff.rfl

noncomputable def insAt (l : List AV) (i : Nat) (x : AV) : List AV := l.take i ++ x :: l.drop i

theorem c_insr {a5 a6 : Addr} (T : Top0 R) (D5 : DefKw R 5 a5) (D : DefKw R 6 a6) (glen : GlobV R "len" (.builtin "len")) {n : Nat} {l : List AV} {x f xk : AV} {p : Nat → Bool} (hn : σ n = some (.lst l)) (hl : l.length < 1048576) (hk : KeyOk R (d + 2) σ l f xk false p)
    (hf1 : ∀ v, f ≠ .raw (.builtin v)) (hf2 : ∀ v, f ≠ .raw (.type v)) (hx : Calls R (d + 3) f [x] [] σ fun v σ' => v = xk ∧ σ' = σ) :
    Calls R (d + 4) (.raw (.ref a5)) [.lst n, x] [("key", f)] σ fun v σ' => v = .none ∧ σ' = σ.upd n (.lst (insAt l (bisAt p l.length) x)) := by
  refine Calls.kw2 T D5 kwok5 (fun env => ?_) rfl rfl rfl (by decide) Iff.rfl
  have g6 : GlobV R "bisect_right" (.ref a6) := D.glob
  have hcal := hk.callee
  iterate 5 wtm_at "m_bind"
  refine Exs.cons ?_
  repeat' wtm_at "mm"
  rw [hk.some_]
  dsimp only
  refine Exs.cons ?_
  repeat' wtm_at "mm"
  refine hx.mono fun v σ' hq => ?_
  obtain ⟨rfl, rfl⟩ := hq
  repeat' wtm_at "mm"
  refine (c_bisr4 T D glen hn hl hk).mono fun v σ'' hq => ?_
  obtain ⟨rfl, rfl⟩ := hq
  repeat' wtm_at "mm"
  repeat' wtm_at "mm"
  refine Calls.insert (i := bisAt p l.length) hn hl rfl (bisAt_le p _) ?_
  repeat' wtm_at "mm"
  exact ⟨rfl, rfl⟩
theorem c_insl {a5 a6 : Addr} (T : Top0 R) (D5 : DefKw R 7 a5) (D : DefKw R 8 a6) (glen : GlobV R "len" (.builtin "len")) {n : Nat} {l : List AV} {x f xk : AV} {p : Nat → Bool} (hn : σ n = some (.lst l)) (hl : l.length < 1048576) (hk : KeyOk R (d + 2) σ l f xk true p)
    (hf1 : ∀ v, f ≠ .raw (.builtin v)) (hf2 : ∀ v, f ≠ .raw (.type v)) (hx : Calls R (d + 3) f [x] [] σ fun v σ' => v = xk ∧ σ' = σ) :
    Calls R (d + 4) (.raw (.ref a5)) [.lst n, x] [("key", f)] σ fun v σ' => v = .none ∧ σ' = σ.upd n (.lst (insAt l (bisAt p l.length) x)) := by
  refine Calls.kw2 T D5 kwok7 (fun env => ?_) rfl rfl rfl (by decide) Iff.rfl
  have g6 : GlobV R "bisect_left" (.ref a6) := D.glob
  have hcal := hk.callee
  iterate 5 wtm_at "m_bind"
  refine Exs.cons ?_
  repeat' wtm_at "mm"
  rw [hk.some_]
  dsimp only
  refine Exs.cons ?_
  repeat' wtm_at "mm"
  refine hx.mono fun v σ' hq => ?_
  obtain ⟨rfl, rfl⟩ := hq
  repeat' wtm_at "mm"
  refine (c_bisl4 T D glen hn hl hk).mono fun v σ'' hq => ?_
  obtain ⟨rfl, rfl⟩ := hq
  repeat' wtm_at "mm"
  repeat' wtm_at "mm"
  refine Calls.insert (i := bisAt p l.length) hn hl rfl (bisAt_le p _) ?_
  repeat' wtm_at "mm"
  exact ⟨rfl, rfl⟩
end

noncomputable def Ext (σ σ' : Sto) : Prop := ∀ k c, σ k = some c → σ' k = some c
theorem Ext.refl (σ : Sto) : Ext σ σ := fun _ _ h => h
theorem Ext.trans {a b c : Sto} (x : Ext a b) (y : Ext b c) : Ext a c := fun k d h => y k d (x k d h)
theorem Ext.upd {σ σ' : Sto} {n : Nat} {c : Cell} (x : Ext σ σ') (h : σ n = none) : Ext σ (σ'.upd n c) := fun k d e => by
  unfold Sto.upd
  by_cases hk : k = n
  · subst hk; rw [h] at e; cases e
  · rw [if_neg hk]; exact x k d e
theorem upd_ne {σ : Sto} {n k : Nat} {c : Cell} (h : k ≠ n) : σ.upd n c k = σ k := by unfold Sto.upd; rw [if_neg h]

/-- items at rising places -/
noncomputable def Inc (len : Nat) : Nat → List (Nat × Str) → Prop
  | _, [] => True
  | lo, (p, _) :: t => lo ≤ p ∧ p < len ∧ Inc len (p + 1) t
theorem Inc.le {len lo lo' : Nat} : ∀ {l : List (Nat × Str)}, Inc len lo l → lo' ≤ lo → Inc len lo' l
  | [], _, _ => trivial
  | _ :: _, ⟨a, b, c⟩, h => ⟨Nat.le_trans h a, b, c⟩
theorem escs_inc (len : Nat) : ∀ (cs : List Nat) (i lo : Nat) (esc : Bool), i + cs.length = len → (esc = false → lo ≤ i) → (esc = true → lo ≤ i - 1 ∧ 0 < i) → Inc len lo (escs i esc cs) := by
  intro cs
  induction cs with
  | nil =>
    intro i lo esc h h1 h2
    cases esc with
    | true => have := h2 rfl; simp at h; exact ⟨this.1, by lia, trivial⟩
    | false => exact trivial
  | cons c cs ih =>
    intro i lo esc h h1 h2
    simp only [List.length_cons] at h
    cases esc with
    | true =>
      have := h2 rfl
      exact ⟨by lia, by lia, ih (i + 1) (i + 1) false (by lia) (fun _ => Nat.le_refl _) (fun e => nomatch e)⟩
    | false =>
      have := h1 rfl
      simp only [escs]
      by_cases hb : ((⟨#[c]⟩ : Str) == "\\") = true
      · rw [if_pos hb]
        exact ih (i + 1) lo true (by lia) (fun e => nomatch e) (fun _ => ⟨by lia, by lia⟩)
      · rw [if_neg hb]
        exact ⟨this, by lia, ih (i + 1) (i + 1) false (by lia) (fun _ => Nat.le_refl _) (fun e => nomatch e)⟩
theorem escs_len : ∀ (cs : List Nat) (i : Nat) (esc : Bool), (escs i esc cs).length ≤ cs.length + 1
  | [], i, true => by simp [escs]
  | [], i, false => by simp [escs]
  | c :: cs, i, true => by have := escs_len cs (i + 1) false; simp [escs]; lia
  | c :: cs, i, false => by
    simp only [escs]
    split
    · have := escs_len cs (i + 1) true; simp; lia
    · have := escs_len cs (i + 1) false; simp; lia

noncomputable def stripGo (x : Str) : List (Nat × Str) → Nat → Option Nat → List Str → Nat × List Str
  | [], s, _, r => (s, r)
  | (p, c) :: t, s, o, r => if c == "\"" then (match o with
      | none => stripGo x t s (some p) r
      | some q => stripGo x t (p + 1) none (if s != q then r ++ [strSlice x s q] else r)) else stripGo x t s o r
noncomputable def hasQ (x : Str) : Bool := !(Builtin.Str.occurrences x "\"" 0 x.length 1).isEmpty
noncomputable def strip (x : Str) : Str := if hasQ x then
    (let (s, r) := stripGo x (escs 0 false x.cps.toList) 0 none []
     Str.join "" (if s < x.length then r ++ [strSlice x s x.length] else r)) else x

noncomputable def opV : Option Nat → AV | none => .none | some q => .int q
noncomputable def stripLoc (x : Str) (s : Nat) (o : Option Nat) (n : Nat) : Loc := [("addr", .val (.str x)), ("start", .val (.int s)), ("open_pos", .val (opV o)), ("result", .val (.lst n))]

theorem gbind {fm : Fm} {σ : Sto} {ρ ρ₁ ρ₂ : Loc} {p c : Str} {v w : AV} {P : St → Prop} (h1 : fm.scope.names.lookup p = some .local) (u1 : Upd ρ p v ρ₁) (h2 : fm.scope.names.lookup c = some .local) (u2 : Upd ρ₁ c w ρ₂) (h : P ⟨ρ₂, σ⟩) :
    ∃ st₁ st₂, Bind fm p v ⟨ρ, σ⟩ st₁ ∧ Bind fm c w st₁ st₂ ∧ P st₂ := ⟨_, _, .loc h1 u1, .loc h2 u2, h⟩

noncomputable def forB : Stmt → List Stmt | .For _ _ b _ _ => b | _ => []
noncomputable def forT : Stmt → PySem.Expr | .For t _ _ _ _ => t | _ => .Constant .none 0 default

section
variable {R : RT} {σ : Sto} {a : Addr} {code : Value} {d : Nat}

theorem g_strip (hlim : R.h₀.NoLimit) {x : Str} {n : Nat} {items : List (Nat × Str)} {env : Env} {K : Out → St → Prop} (hx : x.length ≤ 1000) : ∀ (rest : List (Nat × Str)) (s : Nat) (o : Option Nat) (r : List Str) (σ : Sto),
    σ n = some (.lst (strL r)) → Inc x.length (match o with | none => s | some q => q) rest → (∀ q, o = some q → s ≤ q ∧ q < x.length) → s ≤ x.length → r.length + rest.length < 1048576 →
    (∀ σ' o', (∀ k, k ≠ n → σ' k = σ k) → σ' n = some (.lst (strL (stripGo x rest s o r).2)) → K .next ⟨stripLoc x (stripGo x rest s o r).1 o' n, σ'⟩) →
    GFl R (d + 2) ⟨fnS (stm 2), env⟩ (forT ((fnB (stm 2))[4]?.getD default)) items rest (forB ((fnB (stm 2))[4]?.getD default)) ⟨stripLoc x s o n, σ⟩ K := by
  intro rest
  induction rest with
  | nil =>
    intro s o r σ hn hi ho hs hl hK
    exact GFl.step (p := "pos") (c := "ch") hlim (hK σ o (fun _ _ => rfl) hn)
  | cons it rest ih =>
    intro s o r σ hn hi ho hs hl hK
    obtain ⟨pp, c⟩ := it
    refine GFl.step (p := "pos") (c := "ch") hlim ?_
    unfold stripLoc
    refine gbind rfl (by wtm_at "m_upd") rfl (by wtm_at "m_upd") ?_
    refine Exs.cons ?_
    repeat' wtm_at "mm"
    obtain ⟨hp1, hp2, hi'⟩ := hi
    cases hc : (c == "\"") with
    | false =>
      dsimp only
      repeat' wtm_at "mm"
      refine GFl.drop (ρ' := stripLoc x s o n) ⟨_, rfl⟩ (ih s o r σ hn (hi'.le (by lia)) ho hs (by simp at hl; lia) ?_)
      simpa only [stripGo, hc, Bool.false_eq_true, if_false] using hK
    | true =>
      dsimp only
      repeat' wtm_at "mm"
      cases o with
      | none =>
        rw [show (opV none).isNone = true from rfl]
        dsimp only
        repeat' wtm_at "mm"
        refine GFl.drop (ρ' := stripLoc x s (some pp) n) ⟨_, rfl⟩ (ih s (some pp) r σ hn (hi'.le (Nat.le_succ pp)) (fun q e => by cases e; exact ⟨hp1, hp2⟩) hs (by simp at hl; lia) ?_)
        simpa only [stripGo, hc, if_true] using hK
      | some q =>
        rw [show (opV (some q)).isNone = false from rfl]
        dsimp only
        unfold opV
        repeat' wtm_at "mm"
        have hq := ho q rfl
        have hp1 : q ≤ pp := hp1
        by_cases hsq : s = q
        · rw [show ((s : Int) != (q : Int)) = false by simp [hsq]]
          dsimp only
          repeat' wtm_at "mm"
          refine GFl.drop (ρ' := stripLoc x (pp + 1) none n) ⟨_, rfl⟩ (ih (pp + 1) none r σ hn hi' (fun q e => nomatch e) (by lia) (by simp at hl; lia) ?_)
          simpa only [stripGo, hc, if_true, hsq, bne_self_eq_false, Bool.false_eq_true, if_false] using hK
        · rw [show ((s : Int) != (q : Int)) = true by simp; lia]
          dsimp only
          repeat' wtm_at "mm"
          refine Ev.sliceStr ?_
          repeat' wtm_at "mm"
          refine ⟨x, s, q, rfl, rfl, .inl rfl, hq.1, by lia, by lia, ?_⟩
          repeat' wtm_at "mm"
          refine Calls.append hn (by simp [strL]; lia) ?_
          repeat' wtm_at "mm"
          refine GFl.drop (ρ' := stripLoc x (pp + 1) none n) ⟨_, rfl⟩ (ih (pp + 1) none (r ++ [strSlice x s q]) _ (by rw [Sto.upd_self]; simp [strL]) hi' (fun q e => nomatch e) (by lia) (by simp at hl ⊢; lia) ?_)
          intro σ' o' h1 h2
          have hne : (s != q) = true := by simpa using hsq
          have e : stripGo x ((pp, c) :: rest) s (some q) r = stripGo x rest (pp + 1) none (r ++ [strSlice x s q]) := by simp only [stripGo, hc, if_true, hne]
          rw [e] at hK
          exact hK σ' o' (fun k hk => (h1 k hk).trans (upd_ne hk)) h2

theorem stripGo_len (x : Str) : ∀ (l : List (Nat × Str)) (s : Nat) (o : Option Nat) (r : List Str), (stripGo x l s o r).2.length ≤ r.length + l.length
  | [], _, _, r => by simp [stripGo]
  | (p, c) :: t, s, o, r => by
    simp only [stripGo, List.length_cons]
    split
    · cases o with
      | none => have := stripGo_len x t s (some p) r; simp only; lia
      | some q =>
        have := stripGo_len x t (p + 1) none (if s != q then r ++ [strSlice x s q] else r)
        have h2 : (if s != q then r ++ [strSlice x s q] else r).length ≤ r.length + 1 := by split <;> simp
        simp only; lia
    · have := stripGo_len x t s o r; lia
theorem strSlice_len (x : Str) (a b : Nat) : (strSlice x a b).length ≤ x.length := by
  simp [strSlice, Str.length]; lia
theorem stripGo_mem (x : Str) : ∀ (l : List (Nat × Str)) (s : Nat) (o : Option Nat) (r : List Str), (∀ y ∈ r, y.length ≤ x.length) → ∀ y ∈ (stripGo x l s o r).2, y.length ≤ x.length
  | [], _, _, r, h => by simpa [stripGo] using h
  | (p, c) :: t, s, o, r, h => by
    simp only [stripGo]
    split
    · cases o with
      | none => exact stripGo_mem x t s (some p) r h
      | some q =>
        refine stripGo_mem x t (p + 1) none _ fun y hy => ?_
        split at hy
        · rcases List.mem_append.mp hy with hy | hy
          · exact h y hy
          · rw [List.mem_singleton.mp hy]; exact strSlice_len ..
        · exact h y hy
    · exact stripGo_mem x t s o r h
theorem stripGo_start (x : Str) : ∀ (l : List (Nat × Str)) (s : Nat) (o : Option Nat) (r : List Str), Inc x.length (match o with | none => s | some q => q) l → (∀ q, o = some q → s ≤ q) → s ≤ x.length → (stripGo x l s o r).1 ≤ x.length
  | [], s, _, _, _, _, h => by simpa [stripGo] using h
  | (p, c) :: t, s, o, r, hi, ho, h => by
    obtain ⟨h1, h2, h3⟩ := hi
    simp only [stripGo]
    split
    · cases o with
      | none => exact stripGo_start x t s (some p) r (h3.le (Nat.le_succ p)) (fun q e => by cases e; exact h1) h
      | some q => exact stripGo_start x t (p + 1) none _ h3 (fun q e => nomatch e) (by lia)
    · exact stripGo_start x t s o r (h3.le (by lia)) ho h

end

section
variable {R : RT} {σ : Sto} {a : Addr} {code : Value} {d : Nat}
theorem c_strip {a1 a2 : Addr} (T : Top0 R) (D : DefIs R 2 a2 code) (G : GDef R a1) (gi : GlobV R "_iter_escaped_chars" (.ref a1)) (glen : GlobV R "len" (.builtin "len")) {x : Str} (hx : x.length ≤ 1000) :
    Calls R (d + 3) (.raw (.ref a2)) [.str x] [] σ fun v σ' => v = .str (strip x) ∧ Ext σ σ' := by
  refine Calls.def_ (names := ["addr"]) T D (bok1 fun fd hp hd v => by unfold bindArgs; rw [hp, hd]; rfl) rfl ?_
  intro env he
  wtm_at "m_bind"
  refine Exs.cons ?_
  repeat' wtm_at "mm"
  cases hq : hasQ x with
  | false =>
    rw [show (!(!(Builtin.Str.occurrences x "\"" 0 x.length 1).isEmpty)) = true by rw [show (!(Builtin.Str.occurrences x "\"" 0 x.length 1).isEmpty) = false from hq]; rfl]
    dsimp only
    repeat' wtm_at "mm"
    exact ⟨by simp [strip, hq], Ext.refl _⟩
  | true =>
    rw [show (!(!(Builtin.Str.occurrences x "\"" 0 x.length 1).isEmpty)) = false by rw [show (!(Builtin.Str.occurrences x "\"" 0 x.length 1).isEmpty) = true from hq]; rfl]
    dsimp only
    repeat' wtm_at "mm"
    refine ⟨by decide, fun n hn => ?_⟩
    repeat' wtm_at "mm"
    have hcl : x.cps.toList.length = x.length := by simp [Str.length]
    have hinc : Inc x.length 0 (escs 0 false x.cps.toList) := escs_inc _ _ _ _ _ (by lia) (fun _ => Nat.le_refl _) (fun e => nomatch e)
    have hlen := escs_len x.cps.toList 0 false
    have hz := stripGo_len x (escs 0 false x.cps.toList) 0 none []
    refine Ex.forGen T.nolim G gi rfl ?_
    repeat' wtm_at "mm"
    refine g_strip (R := R) (d := d) T.nolim hx (n := n) (K := _) (escs 0 false x.cps.toList) 0 none [] _ (Sto.upd_self ..) hinc (fun q e => nomatch e) (Nat.zero_le _) (by simp; lia) ?_
    intro σ' o' h1 h2
    have hext : Ext σ σ' := fun k c e => by
      have hk : k ≠ n := fun q => by rw [q, hn] at e; cases e
      rw [h1 k hk, upd_ne hk]; exact e
    have hst := stripGo_start x (escs 0 false x.cps.toList) 0 none [] hinc (fun q e => nomatch e) (Nat.zero_le _)
    have hmem := stripGo_mem x (escs 0 false x.cps.toList) 0 none [] (fun y hy => nomatch hy)
    have hstrip : strip x = Str.join "" (if (stripGo x (escs 0 false x.cps.toList) 0 none []).1 < x.length then (stripGo x (escs 0 false x.cps.toList) 0 none []).2 ++ [strSlice x (stripGo x (escs 0 false x.cps.toList) 0 none []).1 x.length] else (stripGo x (escs 0 false x.cps.toList) 0 none []).2) := by
      simp only [strip, hq, if_true]
    generalize stripGo x (escs 0 false x.cps.toList) 0 none [] = g at *
    obtain ⟨s, r⟩ := g
    dsimp only at *
    unfold stripLoc
    repeat' wtm_at "mm"
    refine Calls.len_str (by lia) ?_ (by lia)
    repeat' wtm_at "mm"
    have hj : ∀ (l : List Str), l.length ≤ 1002 → l.length * x.length + l.length * (Str.length "") ≤ 16777216 := fun l hl => by
      have := Nat.mul_le_mul hl hx
      have h0 : Str.length "" = 0 := rfl
      rw [h0]; lia
    by_cases hsx : s < x.length
    · rw [show decide ((s : Int) < (x.length : Int)) = true by simpa using hsx]
      dsimp only
      repeat' wtm_at "mm"
      refine Ev.sliceStr ?_
      repeat' wtm_at "mm"
      refine ⟨x, s, x.length, rfl, rfl, .inr ⟨rfl, rfl⟩, by lia, by lia, by lia, ?_⟩
      repeat' wtm_at "mm"
      refine Calls.append h2 (by simp [strL] at hz ⊢; lia) ?_
      have h3 : (σ'.upd n (.lst (strL r ++ [.str (strSlice x s x.length)]))) n = some (.lst (strL (r ++ [strSlice x s x.length]))) := by rw [Sto.upd_self]; simp [strL]
      have hext' : Ext σ (σ'.upd n (.lst (strL r ++ [.str (strSlice x s x.length)]))) := hext.upd hn
      generalize σ'.upd n (.lst (strL r ++ [.str (strSlice x s x.length)])) = σ₂ at *
      repeat' wtm_at "mm"
      refine Calls.join (B := x.length) h3 (fun y hy => ?_) (hj _ (by simp at hz ⊢; lia)) ?_ (by lia)
      · rcases List.mem_append.mp hy with hy | hy
        · exact hmem y hy
        · rw [List.mem_singleton.mp hy]; exact strSlice_len ..
      · rw [hstrip, if_pos hsx]
        exact ⟨rfl, hext'⟩
    · rw [show decide ((s : Int) < (x.length : Int)) = false by simpa using hsx]
      dsimp only
      repeat' wtm_at "mm"
      refine Calls.join (B := x.length) h2 hmem (hj _ (by simp at hz ⊢; lia)) ?_ (by lia)
      rw [hstrip, if_neg hsx]
      exact ⟨rfl, hext⟩

/-- the count of _check_parenthesis: none when refused -/
noncomputable def parGo : List (Nat × Str) → Int → Option Int
  | [], o => some o
  | (_, c) :: t, o => if c == "(" then parGo t (o + 1) else if c == ")" then (if o - 1 < 0 then none else parGo t (o - 1)) else parGo t o
noncomputable def check (x : Str) : Bool := match parGo (escs 0 false (strip x).cps.toList) 0 with | some o => o == 0 | none => false

noncomputable def parLoc (x : Str) (o : Int) : Loc := [("addr", .val (.str x)), ("opens", .val (.int o))]

theorem g_par (hlim : R.h₀.NoLimit) {x : Str} {items : List (Nat × Str)} {env : Env} {K : Out → St → Prop} : ∀ (rest : List (Nat × Str)) (o : Int),
    (match parGo rest o with | some o' => K .next ⟨parLoc x o', σ⟩ | none => ∀ ρ, K (.ret (.bool false)) ⟨ρ, σ⟩) →
    GFl R (d + 2) ⟨fnS (stm 3), env⟩ (forT ((fnB (stm 3))[2]?.getD default)) items rest (forB ((fnB (stm 3))[2]?.getD default)) ⟨parLoc x o, σ⟩ K := by
  intro rest
  induction rest with
  | nil =>
    intro o hK
    exact GFl.step (p := "pos") (c := "ch") hlim hK
  | cons it rest ih =>
    intro o hK
    obtain ⟨pp, c⟩ := it
    refine GFl.step (p := "pos") (c := "ch") hlim ?_
    unfold parLoc
    refine gbind rfl (by wtm_at "m_upd") rfl (by wtm_at "m_upd") ?_
    refine Exs.cons ?_
    repeat' wtm_at "mm"
    simp only [parGo] at hK
    cases hc : (c == "(") with
    | true =>
      rw [hc, if_pos rfl] at hK
      dsimp only
      repeat' wtm_at "mm"
      exact GFl.drop (ρ' := parLoc x (o + 1)) ⟨_, rfl⟩ (ih _ hK)
    | false =>
      rw [hc, if_neg (by simp)] at hK
      dsimp only
      repeat' wtm_at "mm"
      cases hc2 : (c == ")") with
      | true =>
        rw [hc2, if_pos rfl] at hK
        dsimp only
        repeat' wtm_at "mm"
        by_cases ho : o - 1 < 0
        · rw [if_pos ho] at hK
          rw [show decide (o - 1 < 0) = true by simpa using ho]
          dsimp only
          repeat' wtm_at "mm"
          exact hK _
        · rw [if_neg ho] at hK
          rw [show decide (o - 1 < 0) = false by simpa using ho]
          dsimp only
          repeat' wtm_at "mm"
          exact GFl.drop (ρ' := parLoc x (o - 1)) ⟨_, rfl⟩ (ih _ hK)
      | false =>
        rw [hc2, if_neg (by simp)] at hK
        dsimp only
        repeat' wtm_at "mm"
        exact GFl.drop (ρ' := parLoc x o) ⟨_, rfl⟩ (ih _ hK)

theorem c_check {a1 a2 a3 : Addr} {code2 : Value} (T : Top0 R) (D : DefIs R 3 a3 code) (D2 : DefIs R 2 a2 code2) (G : GDef R a1) (gi : GlobV R "_iter_escaped_chars" (.ref a1)) (glen : GlobV R "len" (.builtin "len")) {x : Str} (hx : x.length ≤ 1000) :
    Calls R (d + 4) (.raw (.ref a3)) [.str x] [] σ fun v σ' => v = .bool (check x) ∧ Ext σ σ' := by
  refine Calls.def_ (names := ["addr"]) T D (bok1 fun fd hp hd v => by unfold bindArgs; rw [hp, hd]; rfl) rfl ?_
  intro env he
  have g2 : GlobV R "_strip_quoted_realnames" (.ref a2) := D2.glob
  wtm_at "m_bind"
  refine Exs.cons ?_
  repeat' wtm_at "mm"
  refine (c_strip T D2 G gi glen hx).mono fun v σ₁ hq => ?_
  obtain ⟨rfl, hext⟩ := hq
  repeat' wtm_at "mm"
  refine Ex.forGen T.nolim G gi rfl ?_
  repeat' wtm_at "mm"
  refine g_par (R := R) (d := d + 1) T.nolim (K := _) (escs 0 false (strip x).cps.toList) 0 ?_
  cases hg : parGo (escs 0 false (strip x).cps.toList) 0 with
  | some o =>
    dsimp only
    unfold parLoc
    repeat' wtm_at "mm"
    exact ⟨by simp [check, hg], hext⟩
  | none =>
    intro ρ
    exact ⟨by simp [check, hg], hext⟩
end

noncomputable def typed : List Str := ["", "\"", "(", "()", ")", "A", "\\", "a", "é"]
theorem bok0 {i : Nat} (h : ∀ fd : FuncData, fd.params = fnP (stm i) → fd.defaults = .none → bindArgs fd ⟨[], []⟩ = pure []) : BindOk i 0 [] := by
  intro fd hp hd vs hv
  obtain rfl := List.eq_nil_of_length_eq_zero hv
  exact h fd hp hd
section
variable {R : RT} {σ : Sto} {a : Addr} {code : Value} {d : Nat}

theorem c_typed {a14 : Addr} (T : Top0 R) (D : DefIs R 14 a14 code) : Calls R (d + 3) (.raw (.ref a14)) [] [] σ fun v σ' => ∃ n, v = .lst n ∧ σ n = none ∧ σ' = σ.upd n (.lst (strL typed)) := by
  refine Calls.def_ (names := []) T D (bok0 fun fd hp hd => by unfold bindArgs; rw [hp, hd]; rfl) rfl ?_
  intro env he
  refine Exs.cons ?_
  repeat' wtm_at "mm"
  exact ⟨by decide, fun n hn => ⟨n, rfl, hn, rfl⟩⟩

/-- what the script's numbers make of the two cells -/
noncomputable def cellsGo : List Int → Nat → Int × Int → Int × Int
  | [], _, c => c
  | x :: t, k, (p, q) => cellsGo t (k + 1) (if k % 2 = 0 then (p + x, q) else (p, q + x))

theorem fmod_nat (a b : Nat) : ((a : Int)).fmod (b : Int) = ((a % b : Nat) : Int) := by
  rw [Int.fmod_eq_emod_of_nonneg _ (by lia)]; lia

/-- the draw of names -/
noncomputable def namesGo : Nat → Nat → List Str → List Str → List Str
  | 0, _, _, acc => acc
  | k + 1, num, left, acc => namesGo k (num / left.length) (left.eraseIdx (num % left.length)) (acc ++ [left.getD (num % left.length) ""])
end

section
variable {R : RT} {σ : Sto} {a : Addr} {code : Value} {d : Nat}

theorem fdiv_nat (a b : Nat) : ((a : Int)).fdiv (b : Int) = ((a / b : Nat) : Int) := by
  rw [Int.fdiv_eq_ediv_of_nonneg _ (by lia)]; lia

theorem strL_erase : ∀ (l : List Str) (i : Nat), (strL l).eraseIdx i = strL (l.eraseIdx i)
  | [], i => rfl
  | x :: l, 0 => rfl
  | x :: l, i + 1 => by
    show _ :: (strL l).eraseIdx i = _ :: strL (l.eraseIdx i)
    rw [strL_erase]

noncomputable def namesLoc (num n1 n2 : Nat) : Loc := [("number", .val (.int num)), ("left", .val (.lst n1)), ("names", .val (.lst n2))]

theorem l_names {n1 n2 : Nat} {env : Env} {K : Out → St → Prop} (h12 : n1 ≠ n2) (glen : GlobV R "len" (.builtin "len")) : ∀ (j : Nat) (lo : Int) (num : Nat) (left acc : List Str) (σ : Sto), lo + j = 6 → σ n1 = some (.lst (strL left)) → σ n2 = some (.lst (strL acc)) → left.length = j + 3 → acc.length + j = 6 →
    (∀ σ' num', σ' n2 = some (.lst (strL (namesGo j num left acc))) → (∀ k, k ≠ n1 → k ≠ n2 → σ' k = σ k) → K .next ⟨namesLoc num' n1 n2, σ'⟩) →
    Fl R (d + 2) ⟨fnS (stm 15), env⟩ (forT ((fnB (stm 15))[2]?.getD default)) (.rng lo 6) (forB ((fnB (stm 15))[2]?.getD default)) ⟨namesLoc num n1 n2, σ⟩ K := by
  intro j
  induction j with
  | zero =>
    intro lo num left acc σ h hl hn h1 h2 hK
    exact Fl.step (.rng_none (by lia)) (hK σ num hn (fun _ _ _ => rfl))
  | succ j ih =>
    intro lo num left acc σ h hl hn h1 h2 hK
    refine Fl.step (.rng_some (by lia)) ?_
    unfold namesLoc
    refine asg_loc rfl (by wtm_at "m_upd") ?_
    refine Exs.cons ?_
    repeat' wtm_at "mm"
    refine Calls.len_lst hl (by simp [strL]; lia) ?_ (by lia)
    have hlen : (strL left).length = left.length := by simp [strL]
    rw [hlen]
    refine Opr.fmod_int (by lia) ?_
    rw [fmod_nat]
    repeat' wtm_at "mm"
    have hm : num % left.length < left.length := Nat.mod_lt _ (by lia)
    obtain ⟨x, hx⟩ : ∃ x, left[num % left.length]? = some x := ⟨_, List.getElem?_eq_getElem hm⟩
    refine Calls.pop_at hl (by rw [hlen]; lia) (by lia) (v := .str x) (by rw [Int.toNat_natCast]; simp [strL, hx]) ?_
    have e1 : (strL left).eraseIdx ((num % left.length : Nat) : Int).toNat = strL (left.eraseIdx (num % left.length)) := by
      rw [Int.toNat_natCast, strL_erase]
    rw [e1]
    have hn' : (σ.upd n1 (.lst (strL (left.eraseIdx (num % left.length))))) n2 = some (.lst (strL acc)) := by rw [upd_ne (Ne.symm h12)]; exact hn
    have hl' : (σ.upd n1 (.lst (strL (left.eraseIdx (num % left.length))))) n1 = some (.lst (strL (left.eraseIdx (num % left.length)))) := Sto.upd_self ..
    repeat' wtm_at "mm"
    refine Calls.append hn' (by simp [strL]; lia) ?_
    have e2 : strL acc ++ [.str x] = strL (acc ++ [x]) := by simp [strL]
    rw [e2]
    have hn2 : ((σ.upd n1 (.lst (strL (left.eraseIdx (num % left.length))))).upd n2 (.lst (strL (acc ++ [x])))) n2 = some (.lst (strL (acc ++ [x]))) := Sto.upd_self ..
    have hl2 : ((σ.upd n1 (.lst (strL (left.eraseIdx (num % left.length))))).upd n2 (.lst (strL (acc ++ [x])))) n1 = some (.lst (strL (left.eraseIdx (num % left.length)))) := by rw [upd_ne h12]; exact hl'
    have ho2 : ∀ k, k ≠ n1 → k ≠ n2 → ((σ.upd n1 (.lst (strL (left.eraseIdx (num % left.length))))).upd n2 (.lst (strL (acc ++ [x])))) k = σ k := fun k a b => by rw [upd_ne b, upd_ne a]
    generalize ((σ.upd n1 (.lst (strL (left.eraseIdx (num % left.length))))).upd n2 (.lst (strL (acc ++ [x])))) = σ₂ at *
    repeat' wtm_at "mm"
    have hlen2 : (strL (left.eraseIdx (num % left.length))).length = left.length - 1 := by simp [strL, List.length_eraseIdx, hm]
    refine Calls.len_lst hl2 (by rw [hlen2]; lia) ?_ (by lia)
    repeat' wtm_at "mm"
    rw [hlen2, show (((left.length - 1 : Nat) : Int) + 1) = ((left.length : Nat) : Int) by lia]
    refine Opr.fdiv_int (by lia) (by lia) ?_
    rw [fdiv_nat]
    repeat' wtm_at "mm"
    refine Fl.drop (ρ' := namesLoc (num / left.length) n1 n2) ⟨_, rfl⟩ (ih (lo + 1) _ _ _ _ (by lia) hl2 hn2 (by simp [List.length_eraseIdx, hm]; lia) (by simp; lia) ?_)
    intro σ' num' hs ho
    refine hK σ' num' ?_ fun k a b => (ho k a b).trans (ho2 k a b)
    have : left.getD (num % left.length) "" = x := by simp [List.getD, hx]
    simpa only [namesGo, this] using hs

theorem c_names {a14 a15 : Addr} {c14 : Value} (T : Top0 R) (D : DefIs R 15 a15 code) (D14 : DefIs R 14 a14 c14) (glen : GlobV R "len" (.builtin "len")) (grange : GlobV R "range" (.type "range")) (num : Nat) :
    Calls R (d + 4) (.raw (.ref a15)) [.int num] [] σ fun v σ' => ∃ n, v = .lst n ∧ σ' n = some (.lst (strL (namesGo 6 num typed []))) ∧ σ n = none ∧ Ext σ σ' := by
  refine Calls.def_ (names := ["number"]) T D (bok1 fun fd hp hd v => by unfold bindArgs; rw [hp, hd]; rfl) rfl ?_
  intro env he
  have g14 : GlobV R "_law_typed" (.ref a14) := D14.glob
  wtm_at "m_bind"
  refine Exs.cons ?_
  repeat' wtm_at "mm"
  refine (c_typed T D14).mono fun v σ' hq => ?_
  obtain ⟨n1, rfl, h1, rfl⟩ := hq
  repeat' wtm_at "mm"
  refine ⟨by decide, fun n2 h2 => ?_⟩
  have h12 : n1 ≠ n2 := fun q => by subst q; rw [Sto.upd_self] at h2; cases h2
  repeat' wtm_at "mm"
  refine Ex.for ?_
  repeat' wtm_at "mm"
  refine Calls.range1 ?_
  refine ⟨_, .rng (by lia) (by lia) (by lia) (by lia) (by lia), ?_⟩
  refine l_names (R := R) (d := d + 1) h12 glen 6 0 num typed [] _ (by lia) (by rw [upd_ne h12, Sto.upd_self]) (by rw [Sto.upd_self]; rfl) rfl rfl ?_
  intro σ' num' hs ho
  unfold namesLoc
  repeat' wtm_at "mm"
  refine ⟨hs, by rw [upd_ne (Ne.symm h12)] at h2; exact h2, fun k c e => ?_⟩
  have hk1 : k ≠ n1 := fun q => by rw [q, h1] at e; cases e
  have hk2 : k ≠ n2 := fun q => by
    rw [upd_ne (Ne.symm h12)] at h2
    rw [q, h2] at e; cases e
  rw [ho k hk1 hk2, upd_ne hk2, upd_ne hk1]; exact e
end

section
variable {R : RT} {σ : Sto} {a : Addr} {code : Value} {d : Nat} {fm : Fm}

theorem Calls.coll {a10 : Addr} {c10 : Value} {x y : Str} {K : AV → Sto → Prop} (T : Top0 R) (D : DefIs R 10 a10 c10) (k : K (.int (coll x y)) σ) : Calls R (d + 3) (.raw (.ref a10)) [.str x, .str y] [] σ K :=
  (c_strcoll T D x y).mono fun v σ' h => by obtain ⟨rfl, rfl⟩ := h; exact k

/-- a search through a range -/
noncomputable def anyFrom (f : Nat → Bool) : Nat → Nat → Bool
  | 0, _ => false
  | k + 1, lo => f lo || anyFrom f k (lo + 1)

theorem l_any {f : Nat → Bool} {x : Str} {p : Pos} {b : List Stmt} {base : Loc} {K : Out → St → Prop} (hx : fm.scope.names.lookup x = some .local) (hu : ∀ i : Int, Upd base x (.int i) (base ++ [(x, .val (.int i))])) (hi : Nat)
    (hbody : ∀ (i : Nat) (K' : Out → St → Prop), i < hi → (f i = true → ∀ ρ', K' (.ret (.bool true)) ⟨ρ', σ⟩) → (f i = false → ∀ ρ', Pre base ρ' → K' .next ⟨ρ', σ⟩) → Exs R d fm b ⟨base ++ [(x, .val (.int i))], σ⟩ K') :
    ∀ (k lo : Nat), lo + k = hi → (anyFrom f k lo = true → ∀ ρ', K (.ret (.bool true)) ⟨ρ', σ⟩) → (anyFrom f k lo = false → ∀ ρ', Pre base ρ' → K .next ⟨ρ', σ⟩) →
      Fl R d fm (.Name x p) (.rng lo hi) b ⟨base, σ⟩ K := by
  intro k
  induction k with
  | zero => intro lo h k1 k2; exact Fl.step (.rng_none (by lia)) (k2 rfl base ⟨[], by simp⟩)
  | succ k ih =>
    intro lo h k1 k2
    refine Fl.step (.rng_some (by lia)) (asg_loc hx (hu lo) (hbody lo _ (by lia) (fun hf ρ' => ?_) fun hf ρ' hρ => ?_))
    · exact k1 (by simp [anyFrom, hf]) ρ'
    · refine Fl.drop hρ (ih (lo + 1) (by lia) (fun h1 => k1 (by simp [anyFrom, h1])) fun h1 => k2 (by simp [anyFrom, hf, h1]))

noncomputable def at' (l : List Str) (i : Nat) : Str := l.getD i ""
noncomputable def crossAt (l : List Str) (a b c d : Nat) : Bool :=
  (coll (at' l c) (at' l a) == -1 && coll (at' l a) (at' l d) == -1 && coll (at' l d) (at' l b) == -1) || (coll (at' l b) (at' l d) == -1 && coll (at' l d) (at' l a) == -1 && coll (at' l a) (at' l c) == -1)
noncomputable def crossed (l : List Str) : Bool := anyFrom (fun a => anyFrom (fun b => anyFrom (fun c => anyFrom (fun d => crossAt l a b c d) (5 - c) (c + 1)) (5 - b) (b + 1)) (5 - a) (a + 1)) 6 0

theorem at_get {l : List Str} {i : Nat} (h : i < l.length) : (strL l)[i]? = some (.str (at' l i)) := by
  simp [strL, at', List.getD, List.getElem?_eq_getElem h]

noncomputable def forN (ss : List Stmt) : List Stmt := match ss with | .For _ _ b _ _ :: _ => b | _ => []
noncomputable def crB (n : Nat) : List Stmt := Nat.rec (fnB (stm 20)) (fun _ b => forN b) n

theorem b_cross {n : Nat} {l : List Str} {a10 : Addr} {c10 : Value} {env : Env} (T : Top0 R) (D10 : DefIs R 10 a10 c10) (hn : σ n = some (.lst (strL l))) (hl : l.length = 6) (ia ib ic i : Nat) (ha : ia < 6) (hb : ib < 6) (hc : ic < 6) (K' : Out → St → Prop) (hi : i < 6) 
    (k1 : crossAt l ia ib ic i = true → ∀ ρ', K' (.ret (.bool true)) ⟨ρ', σ⟩) (k2 : crossAt l ia ib ic i = false → ∀ ρ', Pre [("names", .val (.lst n)), ("a", .val (.int ia)), ("b", .val (.int ib)), ("c", .val (.int ic))] ρ' → K' .next ⟨ρ', σ⟩) :
    Exs R (d + 3) ⟨fnS (stm 20), env⟩ (crB 4) ⟨[("names", .val (.lst n)), ("a", .val (.int ia)), ("b", .val (.int ib)), ("c", .val (.int ic)), ("d", .val (.int i))], σ⟩ K' := by
  have g10 : GlobV R "_strcoll" (.ref a10) := D10.glob
  have h1 := at_get (l := l) (i := ia) (by lia)
  have h2 := at_get (l := l) (i := ib) (by lia)
  have h3 := at_get (l := l) (i := ic) (by lia)
  have h4 := at_get (l := l) (i := i) (by lia)
  have hl' : (strL l).length < 1048576 := by simp [strL]; lia
  have second : (coll (at' l ic) (at' l ia) == -1 && coll (at' l ia) (at' l i) == -1 && coll (at' l i) (at' l ib) == -1) = false →
      Exs R (d + 3) ⟨fnS (stm 20), env⟩ ((crB 4).drop 1) ⟨[("names", .val (.lst n)), ("a", .val (.int ia)), ("b", .val (.int ib)), ("c", .val (.int ic)), ("d", .val (.int i))], σ⟩ K' := by
    intro h0
    refine Exs.cons ?_
    repeat' wtm_at "mm"
    refine Opr.getItem hn (by lia) h2 hl' ?_
    repeat' wtm_at "mm"
    refine Opr.getItem hn (by lia) h4 hl' ?_
    repeat' wtm_at "mm"
    refine Calls.coll T D10 ?_
    repeat' wtm_at "mm"
    cases e4 : (coll (at' l ib) (at' l i) == -1) with
    | false =>
      dsimp only
      repeat' wtm_at "mm"
      exact k2 (by simp [crossAt, h0, e4]) _ ⟨_, rfl⟩
    | true =>
      dsimp only
      repeat' wtm_at "mm"
      refine Opr.getItem hn (by lia) h4 hl' ?_
      repeat' wtm_at "mm"
      refine Opr.getItem hn (by lia) h1 hl' ?_
      repeat' wtm_at "mm"
      refine Calls.coll T D10 ?_
      repeat' wtm_at "mm"
      cases e5 : (coll (at' l i) (at' l ia) == -1) with
      | false =>
        dsimp only
        repeat' wtm_at "mm"
        exact k2 (by simp [crossAt, h0, e5]) _ ⟨_, rfl⟩
      | true =>
        dsimp only
        repeat' wtm_at "mm"
        refine Opr.getItem hn (by lia) h1 hl' ?_
        repeat' wtm_at "mm"
        refine Opr.getItem hn (by lia) h3 hl' ?_
        repeat' wtm_at "mm"
        refine Calls.coll T D10 ?_
        repeat' wtm_at "mm"
        cases e6 : (coll (at' l ia) (at' l ic) == -1) with
        | false =>
          dsimp only
          repeat' wtm_at "mm"
          exact k2 (by simp [crossAt, h0, e6]) _ ⟨_, rfl⟩
        | true =>
          dsimp only
          repeat' wtm_at "mm"
          exact k1 (by simp [crossAt, e4, e5, e6]) _
  refine Exs.cons ?_
  repeat' wtm_at "mm"
  refine Opr.getItem hn (by lia) h3 hl' ?_
  repeat' wtm_at "mm"
  refine Opr.getItem hn (by lia) h1 hl' ?_
  repeat' wtm_at "mm"
  refine Calls.coll T D10 ?_
  repeat' wtm_at "mm"
  cases e1 : (coll (at' l ic) (at' l ia) == -1) with
  | false =>
    dsimp only
    repeat' (first | exact second (by simp [e1]) | wtm_at "mm")
  | true =>
    dsimp only
    repeat' wtm_at "mm"
    refine Opr.getItem hn (by lia) h1 hl' ?_
    repeat' wtm_at "mm"
    refine Opr.getItem hn (by lia) h4 hl' ?_
    repeat' wtm_at "mm"
    refine Calls.coll T D10 ?_
    repeat' wtm_at "mm"
    cases e2 : (coll (at' l ia) (at' l i) == -1) with
    | false =>
      dsimp only
      repeat' (first | exact second (by simp [e2]) | wtm_at "mm")
    | true =>
      dsimp only
      repeat' wtm_at "mm"
      refine Opr.getItem hn (by lia) h4 hl' ?_
      repeat' wtm_at "mm"
      refine Opr.getItem hn (by lia) h2 hl' ?_
      repeat' wtm_at "mm"
      refine Calls.coll T D10 ?_
      repeat' wtm_at "mm"
      cases e3 : (coll (at' l i) (at' l ib) == -1) with
      | false =>
        dsimp only
        repeat' (first | exact second (by simp [e3]) | wtm_at "mm")
      | true =>
        dsimp only
        repeat' wtm_at "mm"
        exact k1 (by simp [crossAt, e1, e2, e3]) _

theorem c_crossed {n : Nat} {l : List Str} {a10 a20 : Addr} {c10 : Value} (T : Top0 R) (D : DefIs R 20 a20 code) (D10 : DefIs R 10 a10 c10) (grange : GlobV R "range" (.type "range")) (hn : σ n = some (.lst (strL l))) (hl : l.length = 6) :
    Calls R (d + 4) (.raw (.ref a20)) [.lst n] [] σ fun v σ' => v = .bool (crossed l) ∧ σ' = σ := by
  refine Calls.def_ (names := ["names"]) T D (bok1 fun fd hp hd v => by unfold bindArgs; rw [hp, hd]; rfl) rfl ?_
  intro env he
  wtm_at "m_bind"
  refine Exs.cons ?_
  refine Ex.for ?_
  repeat' wtm_at "mm"
  refine Calls.range1 ?_
  refine ⟨_, .rng (by lia) (by lia) (by lia) (by lia) (by lia), ?_⟩
  refine l_any (f := fun a => anyFrom (fun b => anyFrom (fun c => anyFrom (fun d => crossAt l a b c d) (5 - c) (c + 1)) (5 - b) (b + 1)) (5 - a) (a + 1)) (base := [("names", .val (.lst n))]) rfl (fun i => by simp only [List.cons_append, List.nil_append]; wtm_at "m_upd") 6 ?_ 6 0 rfl ?_ ?_
  · intro ia K1 ha k1 k2
    simp only [List.cons_append, List.nil_append]
    refine Exs.cons (Ex.for ?_)
    repeat' wtm_at "mm"
    refine Calls.range2 ?_
    refine ⟨_, .rng (by lia) (by lia) (by lia) (by lia) (by lia), ?_⟩
    rw [show ((ia : Int) + 1) = ((ia + 1 : Nat) : Int) from rfl]
    refine l_any (f := fun b => anyFrom (fun c => anyFrom (fun d => crossAt l ia b c d) (5 - c) (c + 1)) (5 - b) (b + 1)) (base := [("names", .val (.lst n)), ("a", .val (.int ia))]) rfl (fun i => by simp only [List.cons_append, List.nil_append]; wtm_at "m_upd") 6 ?_ (5 - ia) (ia + 1) (by lia) k1 (fun h ρ' hρ => ?_)
    · intro ib K2 h2 k1' k2'
      clear k1 k2; rename_i _; revert k1' k2'; intro k1 k2
      simp only [List.cons_append, List.nil_append]
      refine Exs.cons (Ex.for ?_)
      repeat' wtm_at "mm"
      refine Calls.range2 ?_
      refine ⟨_, .rng (by lia) (by lia) (by lia) (by lia) (by lia), ?_⟩
      rw [show ((ib : Int) + 1) = ((ib + 1 : Nat) : Int) from rfl]
      refine l_any (f := fun c => anyFrom (fun d => crossAt l ia ib c d) (5 - c) (c + 1)) (base := [("names", .val (.lst n)), ("a", .val (.int ia)), ("b", .val (.int ib))]) rfl (fun i => by simp only [List.cons_append, List.nil_append]; wtm_at "m_upd") 6 ?_ (5 - ib) (ib + 1) (by lia) k1 (fun h ρ' hρ => ?_)
      · intro ic K3 h3 k1' k2'
        clear k1 k2; rename_i _; revert k1' k2'; intro k1 k2
        simp only [List.cons_append, List.nil_append]
        refine Exs.cons (Ex.for ?_)
        repeat' wtm_at "mm"
        refine Calls.range2 ?_
        refine ⟨_, .rng (by lia) (by lia) (by lia) (by lia) (by lia), ?_⟩
        rw [show ((ic : Int) + 1) = ((ic + 1 : Nat) : Int) from rfl]
        refine l_any (f := fun d => crossAt l ia ib ic d) (base := [("names", .val (.lst n)), ("a", .val (.int ia)), ("b", .val (.int ib)), ("c", .val (.int ic))]) rfl (fun i => by simp only [List.cons_append, List.nil_append]; wtm_at "m_upd") 6 ?_ (5 - ic) (ic + 1) (by lia) k1 (fun h ρ' hρ => ?_)
        · intro i K4 h4 k1' k2'
          simp only [List.cons_append, List.nil_append]
          exact b_cross T D10 hn hl ia ib ic i ha h2 h3 _ h4 k1' k2'
        · obtain ⟨r, rfl⟩ := hρ
          repeat' wtm_at "mm"
          exact k2 h _ ⟨_, rfl⟩
      · obtain ⟨r, rfl⟩ := hρ
        repeat' wtm_at "mm"
        exact k2 h _ ⟨_, rfl⟩
    · obtain ⟨r, rfl⟩ := hρ
      repeat' wtm_at "mm"
      exact k2 h _ ⟨_, rfl⟩
  · intro h ρ'
    exact ⟨by simp [crossed, h], rfl⟩
  · rintro h ρ' ⟨r, rfl⟩
    simp only [List.cons_append, List.nil_append]
    repeat' wtm_at "mm"
    exact ⟨by simp [crossed, h], rfl⟩
end

section
variable {R : RT} {σ : Sto} {a : Addr} {code : Value} {d : Nat} {fm : Fm}

noncomputable def slice (l : List Str) (i j : Nat) : List Str := (l.drop i).take (j - i)

theorem sliceL_some {l : List Str} {i j : Nat} (hi : i ≤ l.length) (hj : j ≤ l.length) : sliceL (some (i : Int)) (some (j : Int)) (strL l) = strL (slice l i j) := by
  have e : ∀ k : Nat, k ≤ l.length → clipAt (strL l).length (k : Int) = k := fun k hk => by
    unfold clipAt
    rw [if_neg (by lia)]
    have : (strL l).length = l.length := by simp [strL]
    rw [this]; lia
  simp only [sliceL, Option.elim, e i hi, e j hj]
  simp only [slice, strL, List.map_take, List.map_drop]

noncomputable def mateGo (us : List Str) (h : Nat) : Nat → Nat → Nat
  | 0, t => t
  | k + 1, t => if t < us.length then (if at' us t == ")" && check (Str.join "" (slice us h (t + 1))) then t else mateGo us h k (t + 1)) else t

noncomputable def mateLoc (n h t : Nat) : Loc := [("units", .val (.lst n)), ("here", .val (.int h)), ("there", .val (.int t))]

theorem w_mate {n : Nat} {us : List Str} {a1 a2 a3 : Addr} {c2 c3 : Value} {env : Env} {h : Nat} {K : Out → St → Prop} (T : Top0 R) (D3 : DefIs R 3 a3 c3) (D2 : DefIs R 2 a2 c2) (G : GDef R a1) (gi : GlobV R "_iter_escaped_chars" (.ref a1)) (glen : GlobV R "len" (.builtin "len"))
    (hu : ∀ y ∈ us, y.length ≤ 2) (hl : us.length ≤ 60) : ∀ (k t : Nat) (σ : Sto), us.length - t < k → h < t → t ≤ us.length → σ n = some (.lst (strL us)) →
      (∀ σ', Ext σ σ' → K .next ⟨mateLoc n h (mateGo us h k t), σ'⟩) →
      Wl R (d + 4) ⟨fnS (stm 18), env⟩ (whT ((fnB (stm 18))[1]?.getD default)) (whB ((fnB (stm 18))[1]?.getD default)) ⟨mateLoc n h t, σ⟩ K := by
  have g3 : GlobV R "_check_parenthesis" (.ref a3) := D3.glob
  have hlen : (strL us).length = us.length := by simp [strL]
  intro k
  induction k with
  | zero => intro t σ hk; lia
  | succ k ih =>
    intro t σ hk hht htl hn hK
    refine Wl.step ?_
    unfold mateLoc
    refine Tst.boolop ?_
    refine All.and_cons ?_
    repeat' wtm_at "mm"
    refine Calls.len_lst hn (by lia) ?_ (by lia)
    repeat' wtm_at "mm"
    rw [hlen]
    by_cases htl' : t < us.length
    · rw [show decide ((t : Int) < (us.length : Int)) = true by simpa using htl']
      dsimp only
      have hget := at_get (l := us) htl'
      repeat' wtm_at "mm"
      refine Opr.getItem hn (by lia) hget (by lia) ?_
      repeat' wtm_at "mm"
      have next : ∀ σ₁, Ext σ σ₁ → ((at' us t == ")" && check (Str.join "" (slice us h (t + 1)))) = false) → 
          Exs R (d + 4) ⟨fnS (stm 18), env⟩ (whB ((fnB (stm 18))[1]?.getD default)) ⟨mateLoc n h t, σ₁⟩ fun o st₂ => match o with
            | .next => Wl R (d + 4) ⟨fnS (stm 18), env⟩ (whT ((fnB (stm 18))[1]?.getD default)) (whB ((fnB (stm 18))[1]?.getD default)) st₂ K
            | .cont => Wl R (d + 4) ⟨fnS (stm 18), env⟩ (whT ((fnB (stm 18))[1]?.getD default)) (whB ((fnB (stm 18))[1]?.getD default)) st₂ K
            | .brk => K .next st₂ | .ret v => K (.ret v) st₂ := by
        intro σ₁ hx hf
        unfold mateLoc
        refine Exs.cons ?_
        repeat' wtm_at "mm"
        refine ih (t + 1) σ₁ (by lia) (by lia) (by lia) (hx _ _ hn) fun σ' hσ => ?_
        have := hK σ' (hx.trans hσ)
        simp only [mateGo, if_pos htl', hf, Bool.false_eq_true, if_false] at this
        exact this
      cases hb : (at' us t == ")") with
      | false =>
        rw [show (at' us t != ")") = true by simp [bne, hb]]
        dsimp only
        repeat' (first | exact next _ (Ext.refl _) (by simp [hb]) | wtm_at "mm")
      | true =>
        rw [show (at' us t != ")") = false by simp [bne, hb]]
        dsimp only
        repeat' wtm_at "mm"
        refine Ev.slice ?_
        repeat' wtm_at "mm"
        refine ⟨n, strL us, rfl, hn, by lia, fun m hm => ?_⟩
        rw [show ((t : Int) + 1) = ((t + 1 : Nat) : Int) from rfl, sliceL_some (by lia) (by lia)]
        have hm' : (σ.upd m (.lst (strL (slice us h (t + 1))))) m = some (.lst (strL (slice us h (t + 1)))) := Sto.upd_self ..
        have hx1 : Ext σ (σ.upd m (.lst (strL (slice us h (t + 1))))) := (Ext.refl _).upd hm
        generalize (σ.upd m (.lst (strL (slice us h (t + 1))))) = σ₁ at *
        have hB : ∀ y ∈ slice us h (t + 1), y.length ≤ 2 := fun y hy => hu y (List.mem_of_mem_drop (List.mem_of_mem_take hy))
        have hsl : (slice us h (t + 1)).length ≤ 60 := by simp [slice]; lia
        have h0 : Str.length "" = 0 := rfl
        have hjl := join_len "" 2 (slice us h (t + 1)) hB
        rw [h0] at hjl
        repeat' wtm_at "mm"
        refine Calls.join (B := 2) hm' hB (by rw [h0]; lia) ?_ (by lia)
        repeat' wtm_at "mm"
        refine (c_check T D3 D2 G gi glen (by lia)).mono fun v σ₂ hq => ?_
        obtain ⟨rfl, hx2⟩ := hq
        repeat' wtm_at "mm"
        refine Opr.isNot_bool ?_
        repeat' wtm_at "mm"
        cases hc : check (Str.join "" (slice us h (t + 1))) with
        | true =>
          rw [show (!(true == true)) = false from rfl]
          dsimp only
          repeat' wtm_at "mm"
          have := hK σ₂ (hx1.trans hx2)
          simp only [mateGo, if_pos htl', hb, hc, Bool.and_self, if_true] at this
          exact this
        | false =>
          rw [show (!(false == true)) = true from rfl]
          dsimp only
          repeat' (first | exact next _ (hx1.trans hx2) (by simp [hc]) | wtm_at "mm")
    · rw [show decide ((t : Int) < (us.length : Int)) = false by simpa using htl']
      dsimp only
      have := hK σ (Ext.refl _)
      simp only [mateGo, if_neg htl'] at this
      exact this

noncomputable def mate (us : List Str) (h : Nat) : Nat := mateGo us h (us.length + 1) (h + 1)

theorem c_mate {n : Nat} {us : List Str} {a1 a2 a3 a18 : Addr} {c2 c3 : Value} {h : Nat} (T : Top0 R) (D : DefIs R 18 a18 code) (D3 : DefIs R 3 a3 c3) (D2 : DefIs R 2 a2 c2) (G : GDef R a1) (gi : GlobV R "_iter_escaped_chars" (.ref a1)) (glen : GlobV R "len" (.builtin "len"))
    (hu : ∀ y ∈ us, y.length ≤ 2) (hl : us.length ≤ 60) (hn : σ n = some (.lst (strL us))) (hh : h < us.length) :
    Calls R (d + 5) (.raw (.ref a18)) [.lst n, .int h] [] σ fun v σ' => v = .int (mate us h) ∧ Ext σ σ' := by
  refine Calls.def_ (names := ["units", "here"]) T D (bok2 fun fd hp hd v w => by unfold bindArgs; rw [hp, hd]; rfl) rfl ?_
  intro env he
  iterate 2 wtm_at "m_bind"
  refine Exs.cons ?_
  repeat' wtm_at "mm"
  refine Ex.while ?_
  refine w_mate T D3 D2 G gi glen hu hl (us.length + 1) (h + 1) σ (by lia) (by lia) (by lia) hn fun σ' hx => ?_
  unfold mateLoc
  repeat' wtm_at "mm"
  exact ⟨rfl, hx⟩
end

section
variable {R : RT} {σ : Sto} {a : Addr} {code : Value} {d : Nat} {fm : Fm}

noncomputable def pS (swap : Bool) (l : List Str) (x : Str) (i : Nat) : Bool := if swap then !decide ((at' l i).cps.toList < x.cps.toList) else decide (x.cps.toList < (at' l i).cps.toList)

theorem strL_get {l : List Str} {i : Nat} {v : AV} (h : (strL l)[i]? = some v) : v = .str (at' l i) ∧ i < l.length := by
  have hi : i < l.length := by
    have := (List.getElem?_eq_some_iff.mp h).1
    simpa [strL] using this
  rw [at_get hi] at h
  cases h; exact ⟨rfl, hi⟩

theorem keyok_xfrm {a11 : Addr} {c11 : Value} (T : Top0 R) (D : DefIs R 11 a11 c11) (l : List Str) (x : Str) (swap : Bool) : KeyOk R (d + 1) σ (strL l) (.raw (.ref a11)) (.str x) swap (pS swap l x) := by
  refine ⟨D.callee, rfl, fun i v h => ?_⟩
  obtain ⟨rfl, hi⟩ := strL_get h
  refine (c_strxfrm T D _).mono fun kv σ' hq => ?_
  obtain ⟨rfl, rfl⟩ := hq
  refine ⟨rfl, ?_⟩
  cases swap with
  | true =>
    refine Opr.lt_str ⟨?_, rfl⟩
    simp [pS]
  | false =>
    refine Opr.lt_str ⟨?_, rfl⟩
    simp [pS]

noncomputable def rankOf (ranked : List Str) (x : Str) : Nat := bisAt (pS true ranked x) ranked.length

/-- a stretch of the pile -/
structure It where
  lo : Nat
  hi : Nat
  text : Str
  units : List Str

noncomputable def quote (x : Str) : Str := Txt.replace (Txt.replace x "\\" "\\\\") "\"" "\\\""
noncomputable def leaf (ranked : List Str) (x : Str) : It := ⟨rankOf ranked x, rankOf ranked x, ("\"" : Str) ++ quote x ++ "\",", [","]⟩
noncomputable def joinIt (m0 m1 : Str) (f l : It) : It :=
  let m := if f.hi + 1 == l.lo then m0 else m1
  ⟨min f.lo l.lo, max f.hi l.hi, ("(" : Str) ++ m ++ f.text ++ l.text ++ ")", ([("(" : Str), m] ++ f.units) ++ l.units ++ [(")" : Str)]⟩
noncomputable def near (f l : It) : Bool := f.hi + 1 == l.lo || l.hi + 1 == f.lo
/-- the top ones joined, as long as they lie side by side; the top first -/
noncomputable def collapse (m0 m1 : Str) : Nat → List It → List It
  | k + 1, l :: f :: r => if near f l then collapse m0 m1 k (joinIt m0 m1 f l :: r) else l :: f :: r
  | _, p => p
noncomputable def pileGo (ranked : List Str) (m0 m1 : Str) : List Str → List It → List It
  | [], p => p
  | x :: t, p => pileGo ranked m0 m1 t (collapse m0 m1 (p.length + 1) (leaf ranked x :: p))

/-- a stretch in the store -/
noncomputable def ItR (σ : Sto) (n : Nat) (i : It) : Prop := ∃ u, σ n = some (.lst [.int i.lo, .int i.hi, .str i.text, .lst u]) ∧ σ u = some (.lst (strL i.units)) ∧ i.units ≠ []
inductive ItsR (σ : Sto) : List Nat → List It → Prop
  | nil : ItsR σ [] []
  | cons {n i ns is} : ItR σ n i → ItsR σ ns is → ItsR σ (n :: ns) (i :: is)
theorem ItR.ext {σ σ' : Sto} {n : Nat} {i : It} (x : Ext σ σ') : ItR σ n i → ItR σ' n i := fun ⟨u, h1, h2, h3⟩ => ⟨u, x _ _ h1, x _ _ h2, h3⟩
theorem ItsR.map {σ σ' : Sto} {ns : List Nat} {is : List It} (h : ItsR σ ns is) (k : ∀ n i, ItR σ n i → ItR σ' n i) : ItsR σ' ns is := by
  induction h with
  | nil => exact .nil
  | cons a _ ih => exact .cons (k _ _ a) ih
theorem ItsR.length {σ : Sto} {ns : List Nat} {is : List It} (h : ItsR σ ns is) : ns.length = is.length := by
  induction h with
  | nil => rfl
  | cons _ _ ih => simp [ih]

noncomputable def refs (ns : List Nat) : List AV := ns.map .lst

/-- the pile is no stretch, nor a stretch's units -/
theorem ItR.upd {σ : Sto} {n m : Nat} {i : It} {ns : List Nat} {c : Cell} (hm : σ m = some (.lst (refs ns))) (h : ItR σ n i) : ItR (σ.upd m c) n i := by
  obtain ⟨u, h1, h2, h3⟩ := h
  have hn : n ≠ m := fun q => by
    rw [q, hm] at h1
    cases ns with
    | nil => simp [refs] at h1
    | cons x r => simp [refs] at h1
  by_cases hu : u = m
  · subst hu
    rw [hm] at h2
    cases hi : i.units with
    | nil => exact absurd hi h3
    | cons y t =>
      rw [hi] at h2
      cases ns with
      | nil => simp [refs, strL] at h2
      | cons x r => simp [refs, strL] at h2
  · exact ⟨u, by rw [upd_ne hn]; exact h1, by rw [upd_ne hu]; exact h2, h3⟩

theorem neg2 (r : List AV) (a b : AV) : (r ++ [a, b])[(-2 + ((r ++ [a, b]).length : Int)).toNat]? = some a := by
  have : (-2 + ((r ++ [a, b]).length : Int)).toNat = r.length := by simp; lia
  rw [this]; simp
theorem neg1 (r : List AV) (a b : AV) : (r ++ [a, b])[(-1 + ((r ++ [a, b]).length : Int)).toNat]? = some b := by
  have : (-1 + ((r ++ [a, b]).length : Int)).toNat = r.length + 1 := by simp; lia
  rw [this]; simp

noncomputable def ExtBut (m : Nat) (σ σ' : Sto) : Prop := ∀ k c, k ≠ m → σ k = some c → σ' k = some c
noncomputable def pileLoc (nn nr nm np : Nat) : Loc := [("names", .val (.lst nn)), ("ranked", .val (.lst nr)), ("marks", .val (.lst nm)), ("pile", .val (.lst np))]
noncomputable def pileLoc2 (nn nr nm np : Nat) (x : Str) (p : Nat) (y : Str) : Loc := [("names", .val (.lst nn)), ("ranked", .val (.lst nr)), ("marks", .val (.lst nm)), ("pile", .val (.lst np)), ("name", .val (.str x)), ("place", .val (.int p)), ("inner", .val (.str y))]

noncomputable def pileLoc3 (nn nr nm np : Nat) (x : Str) (p : Nat) (y : Str) (nl nf : Nat) (m : Str) : Loc := [("names", .val (.lst nn)), ("ranked", .val (.lst nr)), ("marks", .val (.lst nm)), ("pile", .val (.lst np)), ("name", .val (.str x)), ("place", .val (.int p)), ("inner", .val (.str y)), ("last", .val (.lst nl)), ("first", .val (.lst nf)), ("mark", .val (.str m))]

noncomputable def PileOk (p : List It) : Prop := (p.map fun i => i.text.length + 4).sum ≤ 1000 ∧ (p.map fun i => i.units.length + 3).sum ≤ 200 ∧ p.length ≤ 20

noncomputable def pileW : Stmt := ((forB ((fnB (stm 16))[1]?.getD default))[3]?).getD default

/-- from the sign on: the two are laid as one -/
theorem t_pile {nn nr nm np nl nf ul uf p : Nat} {x y m0 m1 m : Str} {f l : It} {ns : List Nat} {env : Env} {K : Out → St → Prop} (gmin : GlobV R "min" (.builtin "min")) (gmax : GlobV R "max" (.builtin "max"))
    (hft1 : f.text.length ≤ 1000) (hft2 : l.text.length ≤ 1000) (hft3 : f.units.length ≤ 200) (hft4 : l.units.length ≤ 200) (hm : m.length ≤ 2) (hlen : ns.length ≤ 20)
    (hj : joinIt m0 m1 f l = ⟨min f.lo l.lo, max f.hi l.hi, ("(" : Str) ++ m ++ f.text ++ l.text ++ ")", ([("(" : Str), m] ++ f.units) ++ l.units ++ [(")" : Str)]⟩)
    (hf1 : σ nf = some (.lst [.int f.lo, .int f.hi, .str f.text, .lst uf])) (hf2 : σ uf = some (.lst (strL f.units))) (hl1 : σ nl = some (.lst [.int l.lo, .int l.hi, .str l.text, .lst ul])) (hl2 : σ ul = some (.lst (strL l.units))) (hp2 : σ np = some (.lst (refs ns.reverse)))
    (hK : ∀ (σ' : Sto) (n6 : Nat) (ρ' : Loc), Pre (pileLoc2 nn nr nm np x p y) ρ' → σ' np = some (.lst (refs (n6 :: ns).reverse)) → ItR σ' n6 (joinIt m0 m1 f l) → (∀ n i, ItR σ n i → ItR σ' n i) → ExtBut np σ σ' → K .next ⟨ρ', σ'⟩) :
    Exs R (d + 4) ⟨fnS (stm 16), env⟩ ((whB pileW).drop 4) ⟨pileLoc3 nn nr nm np x p y nl nf m, σ⟩ K := by
  unfold pileLoc3
  have hp1 : Str.length "(" = 1 := rfl
  have hp2' : Str.length ")" = 1 := rfl
  have s1 : Str.length "(" + m.length ≤ 16777216 := by lia
  have s2 : Str.length (("(" : Str) ++ m) + f.text.length ≤ 16777216 := by rw [strLen_append]; lia
  have s3 : Str.length (("(" : Str) ++ m ++ f.text) + l.text.length ≤ 16777216 := by rw [strLen_append, strLen_append]; lia
  have s4 : Str.length (("(" : Str) ++ m ++ f.text ++ l.text) + Str.length ")" ≤ 16777216 := by rw [strLen_append, strLen_append, strLen_append]; lia
  refine Exs.cons ?_
  repeat' wtm_at "mm"
  refine Opr.getItem hf1 (by lia) (v := .str f.text) rfl (by simp) ?_
  repeat' wtm_at "mm"
  refine Opr.getItem hl1 (by lia) (v := .str l.text) rfl (by simp) ?_
  repeat' wtm_at "mm"
  refine Opr.getItem hf1 (by lia) (v := .int f.lo) rfl (by simp) ?_
  repeat' wtm_at "mm"
  refine Opr.getItem hl1 (by lia) (v := .int l.lo) rfl (by simp) ?_
  repeat' wtm_at "mm"
  refine Calls.min2 ?_ (by lia)
  repeat' wtm_at "mm"
  refine Opr.getItem hf1 (by lia) (v := .int f.hi) rfl (by simp) ?_
  repeat' wtm_at "mm"
  refine Opr.getItem hl1 (by lia) (v := .int l.hi) rfl (by simp) ?_
  repeat' wtm_at "mm"
  refine Calls.max2 ?_ (by lia)
  repeat' wtm_at "mm"
  refine ⟨by simp, fun n1 h1 => ?_⟩
  have x1 : Ext σ (σ.upd n1 (.lst [.str "(", .str m])) := (Ext.refl σ).upd h1
  have c1 : (σ.upd n1 (.lst [.str "(", .str m])) n1 = some (.lst (strL ["(", m])) := Sto.upd_self ..
  generalize (σ.upd n1 (.lst [.str "(", .str m])) = σa at x1 c1 ⊢
  have hf1a := x1 _ _ hf1
  repeat' wtm_at "mm"
  refine Opr.getItem hf1a (by lia) (v := .lst uf) rfl (by simp) ?_
  repeat' wtm_at "mm"
  refine Opr.add_lst c1 (x1 _ _ hf2) (by simp [strL]; lia) fun n2 h2 => ?_
  rw [show strL ["(", m] ++ strL f.units = strL ([("(" : Str), m] ++ f.units) by simp [strL]]
  have x2 := x1.upd (c := .lst (strL ([("(" : Str), m] ++ f.units))) (n := n2) (by
    cases e : σ n2 with
    | none => rfl
    | some c => have := x1 _ _ e; rw [h2] at this; cases this)
  have c2 : (σa.upd n2 (.lst (strL ([("(" : Str), m] ++ f.units)))) n2 = _ := Sto.upd_self ..
  generalize (σa.upd n2 (.lst (strL ([("(" : Str), m] ++ f.units)))) = σb at x2 c2 ⊢
  have hl1b := x2 _ _ hl1
  repeat' wtm_at "mm"
  refine Opr.getItem hl1b (by lia) (v := .lst ul) rfl (by simp) ?_
  repeat' wtm_at "mm"
  refine Opr.add_lst c2 (x2 _ _ hl2) (by simp [strL]; lia) fun n3 h3 => ?_
  rw [show strL ([("(" : Str), m] ++ f.units) ++ strL l.units = strL (([("(" : Str), m] ++ f.units) ++ l.units) by simp [strL]]
  have x3 := x2.upd (c := .lst (strL (([("(" : Str), m] ++ f.units) ++ l.units))) (n := n3) (by
    cases e : σ n3 with
    | none => rfl
    | some c => have := x2 _ _ e; rw [h3] at this; cases this)
  have c3 : (σb.upd n3 (.lst (strL (([("(" : Str), m] ++ f.units) ++ l.units)))) n3 = _ := Sto.upd_self ..
  generalize (σb.upd n3 (.lst (strL (([("(" : Str), m] ++ f.units) ++ l.units)))) = σc at x3 c3 ⊢
  repeat' wtm_at "mm"
  refine ⟨by simp, fun n4 h4 => ?_⟩
  have n34 : n3 ≠ n4 := fun q => by rw [q, h4] at c3; cases c3
  have x4 := x3.upd (c := .lst [.str ")"]) (n := n4) (by
    cases e : σ n4 with
    | none => rfl
    | some c => have := x3 _ _ e; rw [h4] at this; cases this)
  have c4 : (σc.upd n4 (.lst [.str ")"])) n4 = some (.lst (strL [")"])) := Sto.upd_self ..
  have c3' : (σc.upd n4 (.lst [.str ")"])) n3 = some (.lst (strL (([("(" : Str), m] ++ f.units) ++ l.units))) := by rw [upd_ne n34]; exact c3
  generalize (σc.upd n4 (.lst [.str ")"])) = σd at x4 c4 c3' ⊢
  repeat' wtm_at "mm"
  refine Opr.add_lst c3' c4 (by simp [strL]; lia) fun n5 h5 => ?_
  rw [show strL (([("(" : Str), m] ++ f.units) ++ l.units) ++ strL [")"] = strL ((([("(" : Str), m] ++ f.units) ++ l.units) ++ [(")" : Str)]) by simp [strL]]
  have x5 := x4.upd (c := .lst (strL ((([("(" : Str), m] ++ f.units) ++ l.units) ++ [(")" : Str)]))) (n := n5) (by
    cases e : σ n5 with
    | none => rfl
    | some c => have := x4 _ _ e; rw [h5] at this; cases this)
  have c5 : (σd.upd n5 (.lst (strL ((([("(" : Str), m] ++ f.units) ++ l.units) ++ [(")" : Str)])))) n5 = _ := Sto.upd_self ..
  generalize (σd.upd n5 (.lst (strL ((([("(" : Str), m] ++ f.units) ++ l.units) ++ [(")" : Str)])))) = σe at x5 c5 ⊢
  repeat' wtm_at "mm"
  refine ⟨by simp, fun n6 h6 => ?_⟩
  have n56 : n5 ≠ n6 := fun q => by rw [q, h6] at c5; cases c5
  generalize hcell : Cell.lst (AV.int (min (f.lo : Int) l.lo) :: AV.int (max (f.hi : Int) l.hi) :: AV.str (("(" : Str) ++ m ++ f.text ++ l.text ++ ")") :: AV.lst n5 :: []) = cell
  have x6 := x5.upd (c := cell) (n := n6) (by
    cases e : σ n6 with
    | none => rfl
    | some c => have := x5 _ _ e; rw [h6] at this; cases this)
  have c6 : (σe.upd n6 cell) n6 = some cell := Sto.upd_self ..
  have c5' : (σe.upd n6 cell) n5 = _ := (upd_ne n56).trans c5
  generalize (σe.upd n6 cell) = σf at x6 c6 c5' ⊢
  have hpf := x6 _ _ hp2
  repeat' wtm_at "mm"
  refine Calls.append hpf (by simp [refs]; lia) ?_
  have hI : ItR σf n6 (joinIt m0 m1 f l) := by
    rw [hj]
    refine ⟨n5, ?_, c5', by simp⟩
    rw [c6, ← hcell]
    have e1 : ((min f.lo l.lo : Nat) : Int) = min (f.lo : Int) l.lo := by lia
    have e2 : ((max f.hi l.hi : Nat) : Int) = max (f.hi : Int) l.hi := by lia
    simp only [e1, e2]
  have hIu := fun n i (h : ItR σf n i) => h.upd (c := .lst (refs ns.reverse ++ [.lst n6])) hpf
  have hfin := fun ρ' hρ => hK (σf.upd np (.lst (refs ns.reverse ++ [.lst n6]))) n6 ρ' hρ (by rw [Sto.upd_self]; simp [refs]) (hIu _ _ hI) (fun n i h => hIu _ _ (h.ext x6)) (fun k c hk e => by rw [upd_ne hk]; exact x6 _ _ e)
  repeat' wtm_at "mm"
  exact hfin _ ⟨_, rfl⟩

/-- the while's body -/
theorem d_pile {nn nr nm np nl nf p : Nat} {x y m0 m1 : Str} {f l : It} {ns : List Nat} {env : Env} {K : Out → St → Prop} (gmin : GlobV R "min" (.builtin "min")) (gmax : GlobV R "max" (.builtin "max"))
    (hm0 : m0.length ≤ 2) (hm1 : m1.length ≤ 2) (hnm : nm ≠ np) (hft1 : f.text.length ≤ 1000) (hft2 : l.text.length ≤ 1000) (hft3 : f.units.length ≤ 200) (hft4 : l.units.length ≤ 200) (hlen : ns.length ≤ 18)
    (hf' : ItR σ nf f) (hl' : ItR σ nl l) (hmk : σ nm = some (.lst (strL [m0, m1]))) (hp : σ np = some (.lst (refs ns.reverse ++ [.lst nf, .lst nl])))
    (hK : ∀ (σ' : Sto) (n6 : Nat) (ρ' : Loc), Pre (pileLoc2 nn nr nm np x p y) ρ' → σ' np = some (.lst (refs (n6 :: ns).reverse)) → ItR σ' n6 (joinIt m0 m1 f l) → (∀ n i, ItR σ n i → ItR σ' n i) → ExtBut np σ σ' → K .next ⟨ρ', σ'⟩) :
    Exs R (d + 4) ⟨fnS (stm 16), env⟩ (whB pileW) ⟨pileLoc2 nn nr nm np x p y, σ⟩ K := by
  have hpN : σ np = some (.lst (refs (nl :: nf :: ns).reverse)) := by rw [hp]; simp [refs]
  unfold pileLoc2
  refine Exs.cons ?_
  repeat' wtm_at "mm"
  have hp' : σ np = some (.lst ((refs ns.reverse ++ [.lst nf]) ++ [.lst nl])) := by rw [hp]; simp
  have hlen' : (refs ns.reverse ++ [AV.lst nf]).length < 1048575 := by simp [refs]; lia
  refine Calls.pop_last hp' hlen' ?_
  have hq : (σ.upd np (.lst (refs ns.reverse ++ [.lst nf]))) np = some (.lst (refs ns.reverse ++ [.lst nf])) := Sto.upd_self ..
  repeat' wtm_at "mm"
  refine Calls.pop_last hq (by simp at hlen' ⊢; lia) ?_
  rw [Sto.upd_upd]
  have iu : ∀ n i, ItR σ n i → ItR (σ.upd np (.lst (refs ns.reverse))) n i := fun n i h => h.upd hpN
  obtain ⟨ul, hl1, hl2, hl3⟩ := iu _ _ hl'
  obtain ⟨uf, hf1, hf2, hf3⟩ := iu _ _ hf'
  have hp2 : (σ.upd np (.lst (refs ns.reverse))) np = some (.lst (refs ns.reverse)) := Sto.upd_self ..
  have hm2 : (σ.upd np (.lst (refs ns.reverse))) nm = some (.lst (strL [m0, m1])) := by rw [upd_ne hnm]; exact hmk
  have hx2 : ExtBut np σ (σ.upd np (.lst (refs ns.reverse))) := fun k c hk e => by rw [upd_ne hk]; exact e
  generalize (σ.upd np (.lst (refs ns.reverse))) = σ₂ at *
  have tail : ∀ (m : Str) (K' : Out → St → Prop), m.length ≤ 2 → joinIt m0 m1 f l = ⟨min f.lo l.lo, max f.hi l.hi, ("(" : Str) ++ m ++ f.text ++ l.text ++ ")", ([("(" : Str), m] ++ f.units) ++ l.units ++ [(")" : Str)]⟩ → (∀ st, K' .next st = K .next st) →
      Exs R (d + 4) ⟨fnS (stm 16), env⟩ ((whB pileW).drop 4) ⟨pileLoc3 nn nr nm np x p y nl nf m, σ₂⟩ K' := fun m K' hm hj hk =>
    t_pile gmin gmax hft1 hft2 hft3 hft4 hm (by lia) hj hf1 hf2 hl1 hl2 hp2 fun σ' n6 ρ' hρ e1 e2 e3 e4 => by
      rw [hk]
      exact hK σ' n6 ρ' hρ e1 e2 (fun n i h => e3 n i (iu n i h)) fun k c hk e => e4 k c hk (hx2 k c hk e)
  repeat' wtm_at "mm"
  refine Opr.getItem hm2 (by lia) (v := .str m1) rfl (by simp [strL]) ?_
  repeat' wtm_at "mm"
  refine Opr.getItem hf1 (by lia) (v := .int f.hi) rfl (by simp) ?_
  repeat' wtm_at "mm"
  refine Opr.getItem hl1 (by lia) (v := .int l.lo) rfl (by simp) ?_
  repeat' wtm_at "mm"
  cases hc : (((f.hi : Int) + 1) == (l.lo : Int)) with
  | true =>
    dsimp only
    repeat' wtm_at "mm"
    refine Opr.getItem hm2 (by lia) (v := .str m0) rfl (by simp [strL]) ?_
    have hb : (f.hi + 1 == l.lo) = true := by simp at hc ⊢; lia
    iterate 2 wtm_at "mm"
    exact tail m0 _ hm0 (by simp [joinIt, hb]) (fun _ => rfl)
  | false =>
    dsimp only
    have hb : (f.hi + 1 == l.lo) = false := by simp at hc ⊢; lia
    wtm_at "mm"
    exact tail m1 _ hm1 (by simp [joinIt, hb]) (fun _ => rfl)

theorem w_pile {nn nr nm np : Nat} {x y : Str} {p : Nat} {m0 m1 : Str} {env : Env} {K : Out → St → Prop} (glen : GlobV R "len" (.builtin "len")) (gmin : GlobV R "min" (.builtin "min")) (gmax : GlobV R "max" (.builtin "max"))
    (hm0 : m0.length ≤ 2) (hm1 : m1.length ≤ 2) (hnm : nm ≠ np) : ∀ (k : Nat) (st : List It) (ns : List Nat) (σ : Sto), st.length ≤ k → PileOk st → σ np = some (.lst (refs ns.reverse)) → ItsR σ ns st → σ nm = some (.lst (strL [m0, m1])) →
      (∀ σ' ns', σ' np = some (.lst (refs ns'.reverse)) → ItsR σ' ns' (collapse m0 m1 k st) → ExtBut np σ σ' → K .next ⟨pileLoc2 nn nr nm np x p y, σ'⟩) →
      Wl R (d + 4) ⟨fnS (stm 16), env⟩ (whT pileW) (whB pileW) ⟨pileLoc2 nn nr nm np x p y, σ⟩ K := by
  intro k
  induction k with
  | zero =>
    intro st ns σ hk ho hp hs hmk hK
    have : st = [] := List.length_eq_zero_iff.mp (by lia)
    subst this
    cases hs
    refine Wl.step ?_
    unfold pileLoc2
    refine Tst.boolop ?_
    refine All.and_cons ?_
    repeat' wtm_at "mm"
    refine Calls.len_lst hp (by decide) ?_ (by lia)
    repeat' wtm_at "mm"
    rw [show decide ((1 : Int) < ((refs (List.reverse ([] : List Nat))).length : Int)) = false from rfl]
    dsimp only
    exact hK σ [] hp .nil (fun _ _ _ h => h)
  | succ k ih =>
    intro st ns σ hk ho hp hs hmk hK
    refine Wl.step ?_
    unfold pileLoc2
    refine Tst.boolop ?_
    refine All.and_cons ?_
    repeat' wtm_at "mm"
    have hl := hs.length
    refine Calls.len_lst hp (by simp [refs]; have := ho.2.2; lia) ?_ (by lia)
    repeat' wtm_at "mm"
    match st, ns, hs with
    | [], [], hs =>
      rw [show decide ((1 : Int) < ((refs (List.reverse ([] : List Nat))).length : Int)) = false from rfl]
      dsimp only
      exact hK σ [] hp .nil (fun _ _ _ h => h)
    | [i], [n], hs =>
      rw [show decide ((1 : Int) < ((refs (List.reverse [n])).length : Int)) = false from rfl]
      dsimp only
      exact hK σ [n] hp hs (fun _ _ _ h => h)
    | l :: f :: r, nl :: nf :: ns, .cons hl' (.cons hf' hr') =>
      have e : refs (nl :: nf :: ns).reverse = refs ns.reverse ++ [.lst nf, .lst nl] := by simp [refs]
      have hpN := hp
      rw [e] at hp ⊢
      rw [show decide ((1 : Int) < ((refs ns.reverse ++ [AV.lst nf, AV.lst nl]).length : Int)) = true by simp; lia]
      dsimp only
      obtain ⟨ul, hl1, hl2, hl3⟩ := id hl'
      obtain ⟨uf, hf1, hf2, hf3⟩ := id hf'
      have hlen : (refs ns.reverse ++ [AV.lst nf, AV.lst nl]).length < 1048576 := by
        have := ho.2.2; simp [refs] at hl this ⊢; lia
      have b2 : -(((refs ns.reverse ++ [AV.lst nf, AV.lst nl]).length : Nat) : Int) ≤ -2 := by simp; lia
      have b1 : -(((refs ns.reverse ++ [AV.lst nf, AV.lst nl]).length : Nat) : Int) ≤ -1 := by simp; lia
      have body : near f l = true → Exs R (d + 4) ⟨fnS (stm 16), env⟩ (whB pileW) ⟨pileLoc2 nn nr nm np x p y, σ⟩ fun o st₂ => match o with
          | .next => Wl R (d + 4) ⟨fnS (stm 16), env⟩ (whT pileW) (whB pileW) st₂ K
          | .cont => Wl R (d + 4) ⟨fnS (stm 16), env⟩ (whT pileW) (whB pileW) st₂ K
          | .brk => K .next st₂ | .ret v => K (.ret v) st₂ := by
        intro hnear
        have hft : f.text.length ≤ 1000 ∧ l.text.length ≤ 1000 ∧ f.units.length ≤ 200 ∧ l.units.length ≤ 200 := by
          have h1 := ho.1; have h2 := ho.2.1
          simp only [List.map_cons, List.sum_cons] at h1 h2
          lia
        obtain ⟨hft1, hft2, hft3, hft4⟩ := hft
        refine d_pile (nl := nl) (nf := nf) gmin gmax hm0 hm1 hnm hft1 hft2 hft3 hft4 (by have := ho.2.2; simp at hl this; lia) hf' hl' hmk hp ?_
        intro σ₂ n6 ρ' hρ e1 e2 e3 e4
        refine Wl.drop hρ (ih (joinIt m0 m1 f l :: r) (n6 :: ns) _ (by simp at hk ⊢; lia) ?_ e1 (.cons e2 (hr'.map e3)) (e4 _ _ hnm hmk) ?_)
        · obtain ⟨o1, o2, o3⟩ := ho
          have hp1 : Str.length "(" = 1 := rfl
          have hp2' : Str.length ")" = 1 := rfl
          have e5 : (if (f.hi + 1 == l.lo) = true then m0 else m1).length ≤ 2 := by split <;> assumption
          simp only [List.map_cons, List.sum_cons, List.length_cons] at o1 o2 o3
          refine ⟨?_, ?_, ?_⟩
          · simp only [List.map_cons, List.sum_cons, joinIt, strLen_append]; lia
          · simp only [List.map_cons, List.sum_cons, joinIt, List.length_append, List.length_cons, List.length_nil]; lia
          · simp only [List.length_cons]; lia
        · intro σ' ns' h1 h2 h3
          refine hK σ' ns' h1 ?_ fun k c hk e => h3 k c hk (e4 k c hk e)
          simp only [collapse, hnear, if_true]
          exact h2
      repeat' wtm_at "mm"
      refine Opr.getItemNeg hp (by lia) b2 (neg2 _ _ _) hlen ?_
      repeat' wtm_at "mm"
      refine Opr.getItem hf1 (by lia) (v := .int f.hi) rfl (by simp) ?_
      repeat' wtm_at "mm"
      refine Opr.getItemNeg hp (by lia) b1 (neg1 _ _ _) hlen ?_
      repeat' wtm_at "mm"
      refine Opr.getItem hl1 (by lia) (v := .int l.lo) rfl (by simp) ?_
      repeat' wtm_at "mm"
      cases hc : (((f.hi : Int) + 1) == (l.lo : Int)) with
      | true =>
        have hb : near f l = true := by simp [near] at hc ⊢; lia
        dsimp only
        repeat' wtm_at "mm"
        exact body hb
      | false =>
        dsimp only
        repeat' wtm_at "mm"
        refine Opr.getItemNeg hp (by lia) b1 (neg1 _ _ _) hlen ?_
        repeat' wtm_at "mm"
        refine Opr.getItem hl1 (by lia) (v := .int l.hi) rfl (by simp) ?_
        repeat' wtm_at "mm"
        refine Opr.getItemNeg hp (by lia) b2 (neg2 _ _ _) hlen ?_
        repeat' wtm_at "mm"
        refine Opr.getItem hf1 (by lia) (v := .int f.lo) rfl (by simp) ?_
        repeat' wtm_at "mm"
        cases hc2 : (((l.hi : Int) + 1) == (f.lo : Int)) with
        | true =>
          have hb : near f l = true := by simp [near] at hc2 ⊢; lia
          dsimp only
          repeat' wtm_at "mm"
          exact body hb
        | false =>
          have hb : near f l = false := by simp [near] at hc hc2 ⊢; lia
          dsimp only
          repeat' wtm_at "mm"
          refine hK σ (nl :: nf :: ns) hpN ?_ (fun _ _ _ h => h)
          simp only [collapse, hb, Bool.false_eq_true, if_false]
          exact .cons hl' (.cons hf' hr')
end

section
variable {R : RT} {σ : Sto} {a : Addr} {code : Value} {d : Nat} {fm : Fm}

/-- names that the pile can bear -/
noncomputable def NameOk (x : Str) : Prop := x.length ≤ 2 ∧ (Txt.replace x "\\" "\\\\").length ≤ 4 ∧ (quote x).length ≤ 2

noncomputable def pileLocN (nn nr nm np : Nat) (x : Str) : Loc := [("names", .val (.lst nn)), ("ranked", .val (.lst nr)), ("marks", .val (.lst nm)), ("pile", .val (.lst np)), ("name", .val (.str x))]

theorem b_pile {nn nr nm np : Nat} {x : Str} {ranked : List Str} {m0 m1 : Str} {a8 a11 : Addr} {c11 : Value} {env : Env} {K : Out → St → Prop} (T : Top0 R) (D8 : DefKw R 8 a8) (D11 : DefIs R 11 a11 c11)
    (glen : GlobV R "len" (.builtin "len")) (gmin : GlobV R "min" (.builtin "min")) (gmax : GlobV R "max" (.builtin "max")) (hx : NameOk x) (hrl : ranked.length < 1048576)
    (hm0 : m0.length ≤ 2) (hm1 : m1.length ≤ 2) (hnm : nm ≠ np) (st : List It) (ns : List Nat) (σ : Sto) (ho : PileOk (leaf ranked x :: st)) (hp : σ np = some (.lst (refs ns.reverse))) (hs : ItsR σ ns st) (hmk : σ nm = some (.lst (strL [m0, m1]))) (hr : σ nr = some (.lst (strL ranked)))
    (hK : ∀ σ' ns', σ' np = some (.lst (refs ns'.reverse)) → ItsR σ' ns' (collapse m0 m1 (st.length + 1) (leaf ranked x :: st)) → ExtBut np σ σ' → ∀ ρ', Pre (pileLoc nn nr nm np) ρ' → K .next ⟨ρ', σ'⟩) :
    Exs R (d + 4) ⟨fnS (stm 16), env⟩ (forB ((fnB (stm 16))[1]?.getD default)) ⟨pileLocN nn nr nm np x, σ⟩ K := by
  have g8 : GlobV R "bisect_left" (.ref a8) := D8.glob
  have g11 : GlobV R "_strxfrm" (.ref a11) := D11.glob
  unfold pileLocN
  refine Exs.cons ?_
  repeat' wtm_at "mm"
  refine (c_strxfrm T D11 _).mono fun v σ' hq => ?_
  obtain ⟨rfl, rfl⟩ := hq
  repeat' wtm_at "mm"
  refine (c_bisl2 T D8 glen hr (by simp [strL]; lia) (keyok_xfrm T D11 ranked x true)).mono fun v σ' hq => ?_
  obtain ⟨rfl, rfl⟩ := hq
  rw [show (strL ranked).length = ranked.length by simp [strL]]
  repeat' wtm_at "mm"
  refine Ev.replace ?_ (he := fun _ => rfl)
  refine Ev.replace ?_ (he := fun _ => rfl)
  repeat' wtm_at "mm"
  have hz1 : Str.length "\\\\" = 2 := by decide
  have hz2 : Str.length "\\\"" = 2 := by decide
  refine ⟨by decide, by rw [hz1]; have := hx.1; lia, ?_⟩
  refine ⟨_, rfl, by decide, by rw [hz2]; have := hx.2.1; lia, ?_⟩
  rw [show Txt.replace (Txt.replace x "\\" "\\\\") "\"" "\\\"" = quote x from rfl]
  have hq := hx.2.2
  have hq1 : Str.length "\"" = 1 := by decide
  have hq2 : Str.length "\"," = 2 := by decide
  have s1 : Str.length "\"" + (quote x).length ≤ 16777216 := by lia
  have s2 : Str.length (("\"" : Str) ++ quote x) + Str.length "\"," ≤ 16777216 := by rw [strLen_append]; lia
  repeat' wtm_at "mm"
  refine ⟨by simp, fun n1 h1 => ?_⟩
  have x1 : Ext σ' (σ'.upd n1 (.lst [.str ","])) := (Ext.refl σ').upd h1
  have c1 : (σ'.upd n1 (.lst [.str ","])) n1 = some (.lst (strL [","])) := Sto.upd_self ..
  generalize (σ'.upd n1 (.lst [.str ","])) = σa at x1 c1 ⊢
  repeat' wtm_at "mm"
  refine ⟨by simp, fun n2 h2 => ?_⟩
  have n12 : n1 ≠ n2 := fun q => by rw [q, h2] at c1; cases c1
  generalize hcell : Cell.lst (AV.int (bisAt (pS true ranked x) ranked.length : Nat) :: AV.int (bisAt (pS true ranked x) ranked.length : Nat) :: AV.str (("\"" : Str) ++ quote x ++ "\",") :: AV.lst n1 :: []) = cell
  have x2 := x1.upd (c := cell) (n := n2) (by
    cases e : σ' n2 with
    | none => rfl
    | some c => have := x1 _ _ e; rw [h2] at this; cases this)
  have c2 : (σa.upd n2 cell) n2 = some cell := Sto.upd_self ..
  have c1' : (σa.upd n2 cell) n1 = some (.lst (strL [","])) := (upd_ne n12).trans c1
  generalize (σa.upd n2 cell) = σb at x2 c2 c1' ⊢
  have hpb := x2 _ _ hp
  have hl := hs.length
  have ho3 := ho.2.2
  repeat' wtm_at "mm"
  refine Calls.append hpb (by simp [refs] at ho3 ⊢; lia) ?_
  have hI : ItR σb n2 (leaf ranked x) := ⟨n1, by rw [c2, ← hcell]; rfl, c1', by simp [leaf]⟩
  have hIu := fun n i (h : ItR σb n i) => h.upd (c := .lst (refs ns.reverse ++ [.lst n2])) hpb
  repeat' wtm_at "mm"
  refine Ex.while ?_
  refine w_pile glen gmin gmax hm0 hm1 hnm (st.length + 1) (leaf ranked x :: st) (n2 :: ns) _ (by simp) ho (by rw [Sto.upd_self]; simp [refs]) (.cons (hIu _ _ hI) ((hs.map fun n i h => h.ext x2).map hIu)) (by rw [upd_ne hnm]; exact x2 _ _ hmk) ?_
  intro σ₂ ns' h1 h2 h3
  unfold pileLoc2
  repeat' wtm_at "mm"
  exact hK σ₂ ns' h1 h2 (fun k c hk e => h3 k c hk (by rw [upd_ne hk]; exact x2 _ _ e)) _ ⟨_, rfl⟩
end

section
variable {R : RT} {σ : Sto} {a : Addr} {code : Value} {d : Nat} {fm : Fm}

/-- all the piles on the way are fit -/
noncomputable def PilesOk (ranked : List Str) (m0 m1 : Str) : List Str → List It → Prop
  | [], _ => True
  | x :: t, p => NameOk x ∧ PileOk (leaf ranked x :: p) ∧ PilesOk ranked m0 m1 t (collapse m0 m1 (p.length + 1) (leaf ranked x :: p))

theorem l_pile {nn nr nm np : Nat} {names ranked : List Str} {m0 m1 : Str} {a8 a11 : Addr} {c11 : Value} {env : Env} {K : Out → St → Prop} (T : Top0 R) (D8 : DefKw R 8 a8) (D11 : DefIs R 11 a11 c11)
    (glen : GlobV R "len" (.builtin "len")) (gmin : GlobV R "min" (.builtin "min")) (gmax : GlobV R "max" (.builtin "max")) (hrl : ranked.length < 1048576)
    (hm0 : m0.length ≤ 2) (hm1 : m1.length ≤ 2) (hnm : nm ≠ np) (hnn : nn ≠ np) (hnr : nr ≠ np) : ∀ (rest : List Str) (i : Nat) (st : List It) (ns : List Nat) (σ : Sto), names.drop i = rest → PilesOk ranked m0 m1 rest st →
      σ np = some (.lst (refs ns.reverse)) → ItsR σ ns st → σ nm = some (.lst (strL [m0, m1])) → σ nr = some (.lst (strL ranked)) → σ nn = some (.lst (strL names)) →
      (∀ σ' ns', σ' np = some (.lst (refs ns'.reverse)) → ItsR σ' ns' (pileGo ranked m0 m1 rest st) → ExtBut np σ σ' → K .next ⟨pileLoc nn nr nm np, σ'⟩) →
      Fl R (d + 4) ⟨fnS (stm 16), env⟩ (forT ((fnB (stm 16))[1]?.getD default)) (.lst nn i) (forB ((fnB (stm 16))[1]?.getD default)) ⟨pileLoc nn nr nm np, σ⟩ K := by
  intro rest
  induction rest with
  | nil =>
    intro i st ns σ hd ho hp hs hmk hr hn hK
    have hlen : names.length ≤ i := by
      have := congrArg List.length hd
      simp at this; lia
    exact Fl.step (.lst_none hn (by simp [strL]; lia)) (hK σ ns hp hs (fun _ _ _ h => h))
  | cons x rest ih =>
    intro i st ns σ hd ho hp hs hmk hr hn hK
    have hx : names[i]? = some x := by
      have := congrArg (·[0]?) hd
      simpa using this
    have hd' : names.drop (i + 1) = rest := by
      have := congrArg List.tail hd
      simpa using this
    obtain ⟨o1, o2, o3⟩ := ho
    refine Fl.step (.lst_some (v := .str x) hn (by simp [strL, hx])) ?_
    refine asg_loc (ρ' := pileLocN nn nr nm np x) rfl (by unfold pileLoc pileLocN; wtm_at "m_upd") ?_
    refine b_pile T D8 D11 glen gmin gmax o1 hrl hm0 hm1 hnm st ns σ o2 hp hs hmk hr ?_
    intro σ' ns' h1 h2 h3 ρ' hρ
    refine Fl.drop hρ (ih (i + 1) _ ns' σ' hd' o3 h1 h2 (h3 _ _ hnm hmk) (h3 _ _ hnr hr) (h3 _ _ hnn hn) ?_)
    intro σ₂ ns₂ k1 k2 k3
    exact hK σ₂ ns₂ k1 k2 fun k c hk e => k3 k c hk (h3 k c hk e)

theorem c_pile {nn nr nm : Nat} {names ranked : List Str} {m0 m1 : Str} {a8 a11 a16 : Addr} {c11 : Value} (T : Top0 R) (D : DefIs R 16 a16 code) (D8 : DefKw R 8 a8) (D11 : DefIs R 11 a11 c11)
    (glen : GlobV R "len" (.builtin "len")) (gmin : GlobV R "min" (.builtin "min")) (gmax : GlobV R "max" (.builtin "max")) (hrl : ranked.length < 1048576)
    (hm0 : m0.length ≤ 2) (hm1 : m1.length ≤ 2) (ho : PilesOk ranked m0 m1 names []) (hmk : σ nm = some (.lst (strL [m0, m1]))) (hr : σ nr = some (.lst (strL ranked))) (hn : σ nn = some (.lst (strL names))) :
    Calls R (d + 5) (.raw (.ref a16)) [.lst nn, .lst nr, .lst nm] [] σ fun v σ' => ∃ np ns, v = .lst np ∧ σ' np = some (.lst (refs ns.reverse)) ∧ ItsR σ' ns (pileGo ranked m0 m1 names []) ∧ σ np = none ∧ Ext σ σ' := by
  refine Calls.def_ (names := ["names", "ranked", "marks"]) T D (bok3 fun fd hp hd v w u => by unfold bindArgs; rw [hp, hd]; rfl) rfl ?_
  intro env he
  iterate 3 wtm_at "m_bind"
  refine Exs.cons ?_
  repeat' wtm_at "mm"
  refine ⟨by decide, fun np h => ?_⟩
  have ne : ∀ {k c}, σ k = some c → k ≠ np := fun {k c} e q => by rw [q, h] at e; cases e
  have hn' : (σ.upd np (.lst [])) nn = some (.lst (strL names)) := by rw [upd_ne (ne hn)]; exact hn
  repeat' wtm_at "mm"
  refine Ex.for ?_
  repeat' wtm_at "mm"
  refine ⟨_, .lst hn', ?_⟩
  refine l_pile T D8 D11 glen gmin gmax hrl hm0 hm1 (ne hmk) (ne hn) (ne hr) names 0 [] [] _ rfl ho (by rw [Sto.upd_self]; rfl) .nil (by rw [upd_ne (ne hmk)]; exact hmk) (by rw [upd_ne (ne hr)]; exact hr) hn' ?_
  intro σ' ns' h1 h2 h3
  unfold pileLoc
  repeat' wtm_at "mm"
  exact ⟨np, ns', rfl, h1, h2, h, fun k c e => h3 k c (ne e) (by rw [upd_ne (ne e)]; exact e)⟩
end

/- plain facts on texts and units -/

/-- a unit: a sign that is no backslash, or a backslash with the next sign -/
noncomputable def GoodUnit (u : Str) : Prop := (∃ c, u = ⟨#[c]⟩ ∧ c ≠ 92) ∨ ∃ c, u = ⟨#[92, c]⟩
noncomputable def flat (us : List Str) : List Nat := us.flatMap fun u => u.cps.toList
/-- units at their last signs' places -/
noncomputable def places : Nat → List Str → List (Nat × Str)
  | _, [] => []
  | i, u :: us => (i + u.length - 1, u) :: places (i + u.length) us

theorem bs_ne {c : Nat} (h : c ≠ 92) : ((⟨#[c]⟩ : Str) == "\\") = false := by
  have e : ("\\" : Str) = ⟨#[92]⟩ := by decide
  rw [e]
  cases hb : ((⟨#[c]⟩ : Str) == ⟨#[92]⟩) with
  | false => rfl
  | true =>
    have := eq_of_beq hb
    simp at this
    exact absurd this h
theorem bs_eq : ((⟨#[92]⟩ : Str) == "\\") = true := by decide

theorem escs_units : ∀ (us : List Str) (i : Nat) (tail : List Nat), (∀ u ∈ us, GoodUnit u) → escs i false (flat us ++ tail) = places i us ++ escs (i + (flat us).length) false tail
  | [], i, tail, _ => by simp [flat, places]
  | u :: us, i, tail, h => by
    have hu := h u (by simp)
    have hr : ∀ v ∈ us, GoodUnit v := fun v hv => h v (List.mem_cons_of_mem _ hv)
    rcases hu with ⟨c, rfl, hc⟩ | ⟨c, rfl⟩
    · have ih := escs_units us (i + 1) tail hr
      have e : flat (⟨#[c]⟩ :: us) = c :: flat us := by simp [flat]
      rw [e, List.cons_append]
      simp only [escs, bs_ne hc, Bool.false_eq_true, if_false]
      rw [ih]
      simp [places, Str.length, Nat.add_comm, Nat.add_left_comm, Nat.add_assoc]
    · have ih := escs_units us (i + 2) tail hr
      have e : flat (⟨#[92, c]⟩ :: us) = 92 :: c :: flat us := by simp [flat]
      rw [e, List.cons_append, List.cons_append]
      simp only [escs, bs_eq, if_true]
      rw [ih]
      have e2 : (("\\" : Str) ++ ⟨#[c]⟩) = ⟨#[92, c]⟩ := by
        have : ("\\" : Str) = ⟨#[92]⟩ := by decide
        rw [this]; rfl
      rw [e2]
      simp [places, Str.length, Nat.add_comm, Nat.add_left_comm, Nat.add_assoc]

theorem stripGo_places (x : Str) : ∀ (us : List Str) (i s : Nat) (o : Option Nat) (r : List Str) (t : List (Nat × Str)), (∀ u ∈ us, (u == "\"") = false) → stripGo x (places i us ++ t) s o r = stripGo x t s o r
  | [], _, _, _, _, _, _ => rfl
  | u :: us, i, s, o, r, t, h => by
    have hu := h u (by simp)
    simp only [places, List.cons_append, stripGo, hu, Bool.false_eq_true, if_false]
    exact stripGo_places x us _ s o r t fun v hv => h v (List.mem_cons_of_mem _ hv)

/-- the count over units -/
noncomputable def par : List Str → Int → Option Int
  | [], o => some o
  | c :: t, o => if c == "(" then par t (o + 1) else if c == ")" then (if o - 1 < 0 then none else par t (o - 1)) else par t o
theorem parGo_places : ∀ (us : List Str) (i : Nat) (o : Int), parGo (places i us) o = par us o
  | [], _, _ => rfl
  | u :: us, i, o => by
    simp only [places, parGo, par]
    rw [parGo_places us _ (o + 1), parGo_places us _ (o - 1), parGo_places us _ o]
theorem par_append : ∀ (us vs : List Str) (o : Int), par (us ++ vs) o = (par us o).bind (par vs)
  | [], _, _ => rfl
  | u :: us, vs, o => by
    simp only [List.cons_append, par]
    split
    · exact par_append us vs _
    · split
      · split
        · rfl
        · exact par_append us vs _
      · exact par_append us vs _

theorem join_cps : ∀ (us : List Str), (Str.join "" us).cps.toList = flat us
  | [] => rfl
  | [u] => by simp [Str.join, flat]
  | u :: v :: r => by
    have ih := join_cps (v :: r)
    show ((u ++ ("" : Str)) ++ Str.join "" (v :: r)).cps.toList = _
    have app : ∀ a b : Str, (a ++ b).cps.toList = a.cps.toList ++ b.cps.toList := fun a b => by
      show (a.cps ++ b.cps).toList = _
      rw [Array.toList_append]
    have e0 : ("" : Str).cps.toList = [] := by decide
    rw [app, app, ih, e0]
    simp [flat]

theorem slice_all (x : Str) : strSlice x 0 x.length = x := by
  obtain ⟨c⟩ := x
  have : List.take c.size c.toList = c.toList := List.take_of_length_le (by simp)
  simp [strSlice, Str.length, this]

/-- a text of which nothing stands between marks -/
theorem strip_plain {x : Str} (h : stripGo x (escs 0 false x.cps.toList) 0 none [] = (0, [])) : strip x = x := by
  unfold strip
  split
  · rw [h]
    simp only
    by_cases hx : 0 < x.length
    · rw [if_pos hx, slice_all]; rfl
    · rw [if_neg hx]
      obtain ⟨c⟩ := x
      have : c = #[] := by
        have : c.size = 0 := by simp [Str.length] at hx; simpa using hx
        exact Array.eq_empty_of_size_eq_zero this
      subst this; rfl
  · rfl

theorem strip_units {us : List Str} (hg : ∀ u ∈ us, GoodUnit u) (hq : ∀ u ∈ us, (u == "\"") = false) : strip (Str.join "" us) = Str.join "" us := by
  refine strip_plain ?_
  have e := escs_units us 0 [] hg
  rw [List.append_nil] at e
  rw [join_cps, e]
  rw [stripGo_places _ us 0 0 none [] _ hq]
  simp [escs, stripGo]

theorem check_units {us : List Str} (hg : ∀ u ∈ us, GoodUnit u) (hq : ∀ u ∈ us, (u == "\"") = false) : check (Str.join "" us) = (match par us 0 with | some o => o == 0 | none => false) := by
  unfold check
  rw [strip_units hg hq, join_cps]
  have e := escs_units us 0 [] hg
  rw [List.append_nil] at e
  rw [e, show escs (0 + (flat us).length) false [] = [] from rfl, List.append_nil, parGo_places]
  all_goals (cases par us 0 <;> rfl)

theorem hasQ_eq (x : Str) : hasQ x = decide (34 ∈ x.cps.toList) := by
  unfold hasQ
  have e : ("\"" : Str) = ⟨#[34]⟩ := by decide
  rw [e]
  exact StrLaws.found_one x 34

/-- the trees of the pile: a leaf bears a rank, a node tells whether the second part's ranks lie above -/
inductive Tr where
  | leaf (x : Nat)
  | node (up : Bool) (l r : Tr)

noncomputable def Tr.units (m0 m1 : Str) : Tr → List Str
  | .leaf _ => [","]
  | .node up l r => ([("(" : Str), if up then m0 else m1] ++ l.units m0 m1) ++ r.units m0 m1 ++ [(")" : Str)]
noncomputable def Tr.text (N : Nat → Str) (m0 m1 : Str) : Tr → Str
  | .leaf x => ("\"" : Str) ++ quote (N x) ++ "\","
  | .node up l r => ("(" : Str) ++ (if up then m0 else m1) ++ l.text N m0 m1 ++ r.text N m0 m1 ++ ")"

/-- a mark: a backslash and a sign -/
noncomputable def Mark (m : Str) : Prop := ∃ c, m = ⟨#[92, c]⟩
theorem Mark.par {m : Str} (h : Mark m) : (m == "(") = false ∧ (m == ")") = false ∧ (m == "\"") = false := by
  obtain ⟨c, rfl⟩ := h
  have e1 : ("(" : Str) = ⟨#[40]⟩ := by decide
  have e2 : (")" : Str) = ⟨#[41]⟩ := by decide
  have e3 : ("\"" : Str) = ⟨#[34]⟩ := by decide
  rw [e1, e2, e3]
  refine ⟨?_, ?_, ?_⟩ <;> (rw [beq_eq_false_iff_ne]; intro e; injection e with e; exact absurd (congrArg Array.size e) (by simp))

theorem Tr.good {m0 m1 : Str} (h0 : Mark m0) (h1 : Mark m1) : ∀ t : Tr, (∀ u ∈ t.units m0 m1, GoodUnit u ∧ (u == "\"") = false) ∧ ∀ o : Int, 0 ≤ o → ∀ k, par (t.units m0 m1 ++ k) o = par k o := by
  have gl : ∀ c : Nat, c ≠ 92 → GoodUnit ⟨#[c]⟩ := fun c h => .inl ⟨c, rfl, h⟩
  have gm : ∀ {m}, Mark m → GoodUnit m := fun {m} ⟨c, h⟩ => .inr ⟨c, h⟩
  intro t
  induction t with
  | leaf x =>
    refine ⟨fun u hu => ?_, fun o ho k => ?_⟩
    · rw [List.mem_singleton.mp hu]
      exact ⟨.inl ⟨44, by decide, by decide⟩, by decide⟩
    · simp only [Tr.units, List.cons_append, List.nil_append, par]
      rw [show (("," : Str) == "(") = false by decide, show (("," : Str) == ")") = false by decide]
      simp
  | node up l r ihl ihr =>
    have hm : Mark (if up then m0 else m1) := by cases up <;> simp [h0, h1]
    refine ⟨fun u hu => ?_, fun o ho k => ?_⟩
    · simp only [Tr.units, List.mem_append, List.mem_cons, List.not_mem_nil, or_false] at hu
      rcases hu with (((rfl | rfl) | hu) | hu) | rfl
      · exact ⟨.inl ⟨40, by decide, by decide⟩, by decide⟩
      · exact ⟨gm hm, hm.par.2.2⟩
      · exact ihl.1 u hu
      · exact ihr.1 u hu
      · exact ⟨.inl ⟨41, by decide, by decide⟩, by decide⟩
    · simp only [Tr.units, List.append_assoc, List.cons_append, List.nil_append, par]
      rw [show (("(" : Str) == "(") = true by decide, hm.par.1, hm.par.2.1]
      simp only [if_true, Bool.false_eq_true, if_false]
      rw [ihl.2 (o + 1) (by lia), ihr.2 (o + 1) (by lia)]
      simp only [par]
      rw [show ((")" : Str) == "(") = false by decide, show ((")" : Str) == ")") = true by decide]
      simp only [Bool.false_eq_true, if_false, if_true]
      rw [if_neg (by lia), show o + 1 - 1 = o by lia]

theorem Tr.whole {m0 m1 : Str} (h0 : Mark m0) (h1 : Mark m1) (t : Tr) : check (Str.join "" (t.units m0 m1)) = true := by
  have g := t.good h0 h1
  rw [check_units (fun u hu => (g.1 u hu).1) (fun u hu => (g.1 u hu).2)]
  have := g.2 0 (by lia) []
  rw [List.append_nil] at this
  rw [this]; rfl

/-- a closing bracket ahead -/
theorem Tr.ahead {m0 m1 : Str} (h0 : Mark m0) (h1 : Mark m1) (t : Tr) : check (Str.join "" (")" :: t.units m0 m1)) = false := by
  have g := t.good h0 h1
  have hu : ∀ u ∈ (")" : Str) :: t.units m0 m1, GoodUnit u ∧ (u == "\"") = false := fun u hu => by
    rcases List.mem_cons.mp hu with rfl | hu
    · exact ⟨.inl ⟨41, by decide, by decide⟩, by decide⟩
    · exact g.1 u hu
  rw [check_units (fun u h => (hu u h).1) (fun u h => (hu u h).2)]
  simp only [par]
  rw [show ((")" : Str) == "(") = false by decide, show ((")" : Str) == ")") = true by decide]
  rfl

/-- a closing and an opening one behind -/
theorem Tr.behind {m0 m1 : Str} (h0 : Mark m0) (h1 : Mark m1) (t : Tr) : check (Str.join "" (t.units m0 m1 ++ [(")" : Str), "("])) = false := by
  have g := t.good h0 h1
  have hu : ∀ u ∈ t.units m0 m1 ++ [(")" : Str), "("], GoodUnit u ∧ (u == "\"") = false := fun u hu => by
    rcases List.mem_append.mp hu with hu | hu
    · exact g.1 u hu
    · rcases List.mem_cons.mp hu with rfl | hu
      · exact ⟨.inl ⟨41, by decide, by decide⟩, by decide⟩
      · rw [List.mem_singleton.mp hu]; exact ⟨.inl ⟨40, by decide, by decide⟩, by decide⟩
  rw [check_units (fun u h => (hu u h).1) (fun u h => (hu u h).2), g.2 0 (by lia)]
  simp only [par]
  rw [show ((")" : Str) == "(") = false by decide, show ((")" : Str) == ")") = true by decide]
  rfl

/- plain facts: bisect, insertion, the draw of names -/
theorem bis_eq {p : Nat → Bool} {j : Nat} : ∀ (k lo hi : Nat), hi - lo < k → lo ≤ j → j ≤ hi → (∀ i, lo ≤ i → i < j → p i = false) → (∀ i, j ≤ i → i < hi → p i = true) → bis p k lo hi = j := by
  intro k
  induction k with
  | zero => intro lo hi h; exact absurd h (by lia)
  | succ k ih =>
    intro lo hi h h1 h2 h3 h4
    unfold bis
    by_cases hl : lo < hi
    · rw [if_pos hl]
      cases hp : p ((lo + hi) / 2) with
      | true =>
        rw [if_pos rfl]
        have hj : j ≤ (lo + hi) / 2 := by
          rcases Nat.lt_or_ge ((lo + hi) / 2) j with h' | h'
          · rw [h3 _ (by lia) h'] at hp; cases hp
          · exact h'
        exact ih lo _ (by lia) h1 hj h3 fun i a b => h4 i a (by lia)
      | false =>
        rw [if_neg (by simp)]
        have hj : (lo + hi) / 2 < j := by
          rcases Nat.lt_or_ge ((lo + hi) / 2) j with h' | h'
          · exact h'
          · rw [h4 _ h' (by lia)] at hp; cases hp
        exact ih _ hi (by lia) (by lia) h2 (fun i a b => h3 i (by lia) b) h4
    · rw [if_neg hl]; lia

theorem bisAt_split {α : Type} {A B : List α} {q : α → Bool} {p : Nat → Bool} {n : Nat} (hn : n = A.length + B.length) (hA : ∀ a ∈ A, q a = false) (hB : ∀ b ∈ B, q b = true) (hp : ∀ i v, (A ++ B)[i]? = some v → p i = q v) : bisAt p n = A.length := by
  subst hn
  refine bis_eq _ 0 _ (by lia) (Nat.zero_le _) (by lia) (fun i _ h => ?_) fun i h h' => ?_
  · have : (A ++ B)[i]? = some A[i] := by rw [List.getElem?_append_left h]; exact List.getElem?_eq_getElem h
    rw [hp i _ this]; exact hA _ (List.getElem_mem h)
  · have hb : i - A.length < B.length := by lia
    have : (A ++ B)[i]? = some B[i - A.length] := by rw [List.getElem?_append_right h]; exact List.getElem?_eq_getElem hb
    rw [hp i _ this]; exact hB _ (List.getElem_mem hb)

theorem ins_split {α : Type} {R : α → α → Prop} (q : α → Bool) (x : α) (irr : ∀ a, ¬ R a a) (tr : ∀ a b c, R a b → R b c → R a c) : ∀ l : List α, l.Pairwise R → (∀ a ∈ l, q a = false → R a x) → (∀ a ∈ l, q a = true → R x a) →
    ∃ A B, l = A ++ B ∧ (∀ a ∈ A, q a = false) ∧ (∀ b ∈ B, q b = true) ∧ (A ++ x :: B).Pairwise R
  | [], _, _, _ => ⟨[], [], rfl, by simp, by simp, by simp⟩
  | a :: l, hl, h1, h2 => by
    obtain ⟨hl1, hl2⟩ := List.pairwise_cons.mp hl
    cases hq : q a with
    | true =>
      have hx := h2 a (by simp) hq
      have all : ∀ b ∈ a :: l, R x b := fun b hb => by
        rcases List.mem_cons.mp hb with rfl | hb
        · exact hx
        · exact tr _ _ _ hx (hl1 b hb)
      refine ⟨[], a :: l, rfl, by simp, fun b hb => ?_, ?_⟩
      · cases hb' : q b with
        | true => rfl
        | false => exact absurd (tr _ _ _ (h1 b hb hb') (all b hb)) (irr b)
      · exact List.pairwise_cons.mpr ⟨all, hl⟩
    | false =>
      obtain ⟨A, B, rfl, hA, hB, hP⟩ := ins_split q x irr tr l hl2 (fun b hb => h1 b (by simp [hb])) fun b hb => h2 b (by simp [hb])
      refine ⟨a :: A, B, rfl, fun b hb => ?_, hB, ?_⟩
      · rcases List.mem_cons.mp hb with rfl | hb
        · exact hq
        · exact hA b hb
      · refine List.pairwise_cons.mpr ⟨fun b hb => ?_, hP⟩
        rcases List.mem_append.mp hb with hb | hb
        · exact hl1 b (by simp [hb])
        · rcases List.mem_cons.mp hb with rfl | hb
          · exact h1 a (by simp) hq
          · exact hl1 b (by simp [hb])

theorem strL_append (l k : List Str) : strL (l ++ k) = strL l ++ strL k := by simp [strL]
theorem insAt_at {A B : List AV} {x : AV} {n : Nat} (hn : n = A.length) : insAt (A ++ B) n x = A ++ x :: B := by
  subst hn; simp [insAt]

/-- the draw by places -/
noncomputable def idxGo : Nat → Nat → List Nat → List Nat → List Nat
  | 0, _, _, acc => acc
  | k + 1, num, left, acc => idxGo k (num / left.length) (left.eraseIdx (num % left.length)) (acc ++ [left.getD (num % left.length) 0])
theorem map_erase {α β : Type} (f : α → β) : ∀ (l : List α) (i : Nat), (l.map f).eraseIdx i = (l.eraseIdx i).map f
  | [], _ => rfl
  | _ :: _, 0 => rfl
  | x :: l, i + 1 => by simp [map_erase f l i]
theorem getD_map {α β : Type} (f : α → β) (d : α) : ∀ (l : List α) (i : Nat), (l.map f).getD i (f d) = f (l.getD i d)
  | [], _ => rfl
  | _ :: _, 0 => rfl
  | x :: l, i + 1 => by simpa using getD_map f d l i
noncomputable def tA (i : Nat) : Str := at' typed i
theorem tA0 : tA 0 = "" := by decide
theorem namesGo_map : ∀ (k num : Nat) (left acc : List Nat), namesGo k num (left.map tA) (acc.map tA) = (idxGo k num left acc).map tA
  | 0, _, _, _ => rfl
  | k + 1, num, left, acc => by
    simp only [namesGo, idxGo, List.length_map]
    rw [map_erase, ← tA0, getD_map, ← namesGo_map k]
    simp
theorem erase_perm : ∀ (l : List Nat) (m : Nat), m < l.length → (l.getD m 0 :: l.eraseIdx m).Perm l
  | [], _, h => by simp at h
  | x :: l, 0, _ => by simp
  | x :: l, m + 1, h => by
    have := erase_perm l m (by simpa using h)
    simp only [List.getD_cons_succ, List.eraseIdx_cons_succ]
    exact (List.Perm.swap ..).trans (this.cons x)
theorem idxGo_perm : ∀ (k num : Nat) (left acc : List Nat), k ≤ left.length → (idxGo k num left acc).length = acc.length + k ∧ ∃ r, (idxGo k num left acc ++ r).Perm (acc ++ left)
  | 0, _, left, acc, _ => ⟨rfl, left, .refl _⟩
  | k + 1, num, left, acc, h => by
    have hm : num % left.length < left.length := Nat.mod_lt _ (by lia)
    obtain ⟨h1, r, h2⟩ := idxGo_perm k (num / left.length) (left.eraseIdx (num % left.length)) (acc ++ [left.getD (num % left.length) 0]) (by rw [List.length_eraseIdx, if_pos hm]; lia)
    refine ⟨by simp only [idxGo]; rw [h1]; simp; lia, r, ?_⟩
    simp only [idxGo]
    refine h2.trans ?_
    rw [List.append_assoc]
    exact (erase_perm left _ hm).append_left acc

theorem typed_map : typed = (List.range 9).map tA := by decide

/-- six names as ranks of six rising ones -/
structure Setup (names ranked : List Str) (π : List Nat) : Prop where
  rl : ranked.length = 6
  pm : π.Perm (List.range 6)
  nm : names = π.map (at' ranked)
  cmp : ∀ i j, i < 6 → j < 6 → decide ((at' ranked i).cps.toList < (at' ranked j).cps.toList) = decide (i < j)
  typ : ∀ r, r < 6 → at' ranked r ∈ typed
  sel : typed.filter (names.contains ·) = ranked

theorem tA_cmp : ∀ i j, i < 9 → j < 9 → decide ((tA i).cps.toList < (tA j).cps.toList) = decide (i < j) := by
  have : ((List.range 9).all fun i => (List.range 9).all fun j => decide ((tA i).cps.toList < (tA j).cps.toList) == decide (i < j)) = true := by decide +kernel
  intro i j hi hj
  have h1 := List.all_eq_true.mp this i (List.mem_range.mpr hi)
  have h2 := List.all_eq_true.mp h1 j (List.mem_range.mpr hj)
  simpa using h2
theorem tA_inj {i j : Nat} (hi : i < 9) (hj : j < 9) (h : tA i = tA j) : i = j := by
  have h1 := tA_cmp i j hi hj
  have h2 := tA_cmp j i hj hi
  rw [h] at h1 h2
  have e : decide ((tA j).cps.toList < (tA j).cps.toList) = false := by simp [List.lt_irrefl]
  rw [e] at h1 h2
  simp at h1 h2; lia

theorem idxOf_lt {l : List Nat} {x : Nat} (h : x ∈ l) : l.idxOf x < l.length := List.idxOf_lt_length_iff.mpr h
theorem idxOf_self {l : List Nat} : l.Nodup → l.map (l.idxOf ·) = List.range l.length := by
  intro h
  refine List.ext_getElem (by simp) fun i h1 h2 => ?_
  simp only [List.getElem_map, List.getElem_range]
  simp only [List.length_map] at h1
  have hlt : l.idxOf l[i] < l.length := idxOf_lt (List.getElem_mem h1)
  have e := List.getElem_idxOf hlt
  exact (List.getElem_inj h).mp e

theorem setup (num : Nat) : ∃ ranked π, Setup (namesGo 6 num typed []) ranked π := by
  obtain ⟨hlen, r, hp⟩ := idxGo_perm 6 num (List.range 9) [] (by simp)
  generalize hidx : idxGo 6 num (List.range 9) [] = idx at hlen hp
  have hnm : namesGo 6 num typed [] = idx.map tA := by
    have := namesGo_map 6 num (List.range 9) []
    rw [← typed_map, hidx] at this
    exact this
  simp only [List.nil_append] at hp
  have hnd : (idx ++ r).Nodup := hp.nodup_iff.mpr List.nodup_range
  have hni : idx.Nodup := (List.nodup_append.mp hnd).1
  have hlt : ∀ x ∈ idx, x < 9 := fun x hx => List.mem_range.mp (hp.mem_iff.mp (List.mem_append_left _ hx))
  generalize hS : (List.range 9).filter (idx.contains ·) = S
  have hSn : S.Nodup := hS ▸ List.Pairwise.filter _ List.nodup_range
  have hSm : ∀ a, a ∈ S ↔ a ∈ idx := fun a => by
    rw [← hS, List.mem_filter, List.mem_range]
    simp only [List.contains_iff_mem]
    exact ⟨fun h => h.2, fun h => ⟨hlt a h, h⟩⟩
  have hSp : idx.Perm S := (List.perm_ext_iff_of_nodup hni hSn).mpr fun a => (hSm a).symm
  have hSl : S.length = 6 := by rw [← hSp.length_eq, hlen]; rfl
  have hSs : S.Pairwise (· < ·) := hS ▸ List.Pairwise.filter _ List.pairwise_lt_range
  have hS9 : ∀ a ∈ S, a < 9 := fun a ha => hlt a ((hSm a).mp ha)
  have hat : ∀ i (h : i < S.length), at' (S.map tA) i = tA S[i] := fun i h => by simp [at', List.getD, h]
  refine ⟨S.map tA, idx.map (S.idxOf ·), by simp [hSl], ?_, ?_, ?_, ?_, ?_⟩
  · have := hSp.map (S.idxOf ·)
    rw [idxOf_self hSn, hSl] at this
    exact this
  · rw [hnm, List.map_map]
    refine List.map_congr_left fun a ha => ?_
    have haS := (hSm a).mpr ha
    have hl := idxOf_lt haS
    simp only [Function.comp]
    rw [hat _ hl, List.getElem_idxOf hl]
  · intro i j hi hj
    rw [hat i (by lia), hat j (by lia), tA_cmp _ _ (hS9 _ (List.getElem_mem _)) (hS9 _ (List.getElem_mem _))]
    rw [decide_eq_decide]
    constructor
    · intro h
      rcases Nat.lt_trichotomy i j with h' | h' | h'
      · exact h'
      · subst h'; exact absurd h (Nat.lt_irrefl _)
      · have := List.pairwise_iff_getElem.mp hSs j i (by lia) (by lia) h'; lia
    · intro h
      exact List.pairwise_iff_getElem.mp hSs i j (by lia) (by lia) h
  · intro r hr
    rw [hat r (by lia), typed_map]
    exact List.mem_map.mpr ⟨_, List.mem_range.mpr (hS9 _ (List.getElem_mem _)), rfl⟩
  · rw [hnm, typed_map, List.filter_map, ← hS]
    congr 1
    refine List.filter_congr fun a ha => ?_
    simp only [Function.comp]
    rw [Bool.eq_iff_iff]
    simp only [List.contains_iff_mem, List.mem_map]
    constructor
    · rintro ⟨b, hb, e⟩
      have := tA_inj (hlt b hb) (List.mem_range.mp ha) e
      exact this ▸ hb
    · intro h; exact ⟨a, h, rfl⟩

/- the pile is a pile of trees -/
theorem Setup.coll_eq {names ranked : List Str} {π : List Nat} (S : Setup names ranked π) {i j : Nat} (hi : i < 6) (hj : j < 6) : coll (at' ranked i) (at' ranked j) = b2i (decide (j < i)) - b2i (decide (i < j)) := by
  unfold coll; rw [S.cmp i j hi hj, S.cmp j i hj hi]
theorem coll_neg (i j : Nat) : ((b2i (decide (j < i)) - b2i (decide (i < j)) : Int) == -1) = decide (i < j) := by
  rcases Nat.lt_trichotomy i j with h | h | h
  · rw [decide_eq_true h, decide_eq_false (by lia)]; rfl
  · subst h; rw [decide_eq_false (by lia)]; rfl
  · rw [decide_eq_true h, decide_eq_false (p := i < j) (by lia)]; rfl

theorem get_at {l : List Str} {i : Nat} (h : i < l.length) : l[i]? = some (at' l i) := by simp [at', List.getD, h]

theorem rank_of {names ranked : List Str} {π : List Nat} (S : Setup names ranked π) {r : Nat} (hr : r < 6) : rankOf ranked (at' ranked r) = r := by
  unfold rankOf
  have hl : (List.range 6) = List.range r ++ List.range' r (6 - r) := by
    rw [List.range_eq_range', List.range_eq_range', show (6 : Nat) = r + (6 - r) by lia]
    rw [← List.range'_append_1]; simp
  have := bisAt_split (A := List.range r) (B := List.range' r (6 - r)) (q := fun i => decide (r ≤ i)) (p := pS true ranked (at' ranked r)) (n := ranked.length) (by simp [S.rl]; lia) (fun a h => by have := List.mem_range.mp h; simp; lia) (fun b h => by have := List.mem_range'_1.mp h; simp; lia) (fun i v h => by
    rw [← hl] at h
    obtain ⟨hi, e⟩ := List.getElem?_eq_some_iff.mp h
    simp at e hi; subst e
    simp only [pS, if_true]
    rw [S.cmp i r hi hr, Bool.eq_iff_iff]
    simp)
  simpa using this

/-- a tree over an unbroken run of ranks -/
inductive TI : Tr → Nat → Nat → Prop
  | leaf (r : Nat) : TI (.leaf r) r r
  | up {l r a b c} : TI l a b → TI r (b + 1) c → TI (.node true l r) a c
  | down {l r a b c} : TI l (b + 1) c → TI r a b → TI (.node false l r) a c
theorem TI.le {t : Tr} {a b : Nat} (h : TI t a b) : a ≤ b := by
  induction h <;> lia
noncomputable def Tr.leaves : Tr → List Nat
  | .leaf r => [r]
  | .node _ l r => l.leaves ++ r.leaves
noncomputable def Tr.size : Tr → Nat
  | .leaf _ => 0
  | .node _ l r => 1 + l.size + r.size
theorem Tr.leaves_len : ∀ t : Tr, t.leaves.length = t.size + 1
  | .leaf _ => rfl
  | .node _ l r => by simp [Tr.leaves, Tr.size, Tr.leaves_len l, Tr.leaves_len r]; lia
theorem TI.perm {t : Tr} {a b : Nat} (h : TI t a b) : t.leaves.Perm (List.range' a (b + 1 - a)) := by
  induction h with
  | leaf r => simp [Tr.leaves]
  | up h1 h2 ih1 ih2 =>
    have e1 := h1.le; have e2 := h2.le
    rename_i a b c
    have : List.range' a (c + 1 - a) = List.range' a (b + 1 - a) ++ List.range' (b + 1) (c + 1 - (b + 1)) := by
      rw [show c + 1 - a = (b + 1 - a) + (c + 1 - (b + 1)) by lia, ← List.range'_append_1, show a + (b + 1 - a) = b + 1 by lia]
    rw [this]
    exact ih1.append ih2
  | down h1 h2 ih1 ih2 =>
    have e1 := h1.le; have e2 := h2.le
    rename_i a b c
    have : List.range' a (c + 1 - a) = List.range' a (b + 1 - a) ++ List.range' (b + 1) (c + 1 - (b + 1)) := by
      rw [show c + 1 - a = (b + 1 - a) + (c + 1 - (b + 1)) by lia, ← List.range'_append_1, show a + (b + 1 - a) = b + 1 by lia]
    rw [this]
    exact (ih1.append ih2).trans List.perm_append_comm
theorem TI.mem {t : Tr} {a b x : Nat} (h : TI t a b) (hx : x ∈ t.leaves) : a ≤ x ∧ x ≤ b := by
  have := List.mem_range'_1.mp (h.perm.mem_iff.mp hx)
  have := h.le; lia

noncomputable def ItT (N : Nat → Str) (m0 m1 : Str) (i : It) (t : Tr) : Prop := i.text = t.text N m0 m1 ∧ i.units = t.units m0 m1 ∧ TI t i.lo i.hi
inductive ItTs (N : Nat → Str) (m0 m1 : Str) : List It → List Tr → Prop
  | nil : ItTs N m0 m1 [] []
  | cons {i t is ts} : ItT N m0 m1 i t → ItTs N m0 m1 is ts → ItTs N m0 m1 (i :: is) (t :: ts)
/-- the pile's leaves from its foot on, the top being the first -/
noncomputable def flatL : List Tr → List Nat
  | [] => []
  | t :: ts => flatL ts ++ t.leaves

section
variable {N : Nat → Str} {m0 m1 : Str}
theorem join_tree {f l : It} {tf tl : Tr} (hf : ItT N m0 m1 f tf) (hl : ItT N m0 m1 l tl) (hn : near f l = true) : ∃ t, ItT N m0 m1 (joinIt m0 m1 f l) t ∧ t.leaves = tf.leaves ++ tl.leaves := by
  obtain ⟨f1, f2, f3⟩ := hf
  obtain ⟨l1, l2, l3⟩ := hl
  have e1 := f3.le; have e2 := l3.le
  cases hb : f.hi + 1 == l.lo with
  | true =>
    have h : f.hi + 1 = l.lo := by simpa using hb
    refine ⟨.node true tf tl, ⟨?_, ?_, ?_⟩, rfl⟩
    · simp only [joinIt, hb, if_true, Tr.text, f1, l1]
    · simp only [joinIt, hb, if_true, Tr.units, f2, l2]
    · simp only [joinIt]
      rw [show min f.lo l.lo = f.lo by lia, show max f.hi l.hi = l.hi by lia]
      exact .up f3 (h ▸ l3)
  | false =>
    have h : l.hi + 1 = f.lo := by simpa [near, hb] using hn
    refine ⟨.node false tf tl, ⟨?_, ?_, ?_⟩, rfl⟩
    · simp only [joinIt, hb, Bool.false_eq_true, if_false, Tr.text, f1, l1]
    · simp only [joinIt, hb, Bool.false_eq_true, if_false, Tr.units, f2, l2]
    · simp only [joinIt]
      rw [show min f.lo l.lo = l.lo by lia, show max f.hi l.hi = f.hi by lia]
      exact .down (h ▸ f3) l3

theorem collapse_trees : ∀ (k : Nat) (p : List It) (ts : List Tr), ItTs N m0 m1 p ts → ∃ ts', ItTs N m0 m1 (collapse m0 m1 k p) ts' ∧ flatL ts' = flatL ts
  | 0, p, ts, h => ⟨ts, by simpa [collapse] using h, rfl⟩
  | k + 1, [], ts, h => ⟨ts, by simpa [collapse] using h, rfl⟩
  | k + 1, [i], ts, h => ⟨ts, by simpa [collapse] using h, rfl⟩
  | k + 1, l :: f :: r, _, .cons (t := tl) hl (.cons (t := tf) (ts := ts) hf hr) => by
    cases hn : near f l with
    | true =>
      obtain ⟨t, h1, h2⟩ := join_tree hf hl hn
      obtain ⟨ts', h3, h4⟩ := collapse_trees k _ _ (.cons h1 hr)
      refine ⟨ts', by simpa only [collapse, hn, if_true] using h3, ?_⟩
      rw [h4]; simp [flatL, h2]
    | false => exact ⟨_, by simpa only [collapse, hn, Bool.false_eq_true, if_false] using .cons hl (.cons hf hr), rfl⟩

theorem pile_trees {ranked : List Str} : ∀ (rest : List Nat) (p : List It) (ts : List Tr), (∀ r ∈ rest, rankOf ranked (N r) = r) → ItTs N m0 m1 p ts →
    ∃ ts', ItTs N m0 m1 (pileGo ranked m0 m1 (rest.map N) p) ts' ∧ flatL ts' = flatL ts ++ rest
  | [], p, ts, _, h => ⟨ts, h, by simp⟩
  | x :: rest, p, ts, hr, h => by
    have hx : ItT N m0 m1 (leaf ranked (N x)) (.leaf x) := by
      refine ⟨rfl, rfl, ?_⟩
      simp only [leaf, hr x (by simp)]
      exact .leaf x
    obtain ⟨ts₁, h1, h2⟩ := collapse_trees (p.length + 1) _ _ (.cons hx h)
    obtain ⟨ts₂, h3, h4⟩ := pile_trees rest _ ts₁ (fun r h => hr r (by simp [h])) h1
    exact ⟨ts₂, h3, by rw [h4, h2]; simp [flatL, Tr.leaves]⟩

/-- the piles' weights -/
noncomputable def wt (p : List It) : Nat := (p.map fun i => i.text.length + 4).sum
noncomputable def wu (p : List It) : Nat := (p.map fun i => i.units.length + 3).sum
theorem collapse_wt (h0 : m0.length ≤ 2) (h1 : m1.length ≤ 2) : ∀ (k : Nat) (p : List It), wt (collapse m0 m1 k p) ≤ wt p ∧ wu (collapse m0 m1 k p) ≤ wu p ∧ (collapse m0 m1 k p).length ≤ p.length
  | 0, p => by simp [collapse]
  | k + 1, [] => by simp [collapse]
  | k + 1, [i] => by simp [collapse]
  | k + 1, l :: f :: r => by
    cases hn : near f l with
    | true =>
      have ih := collapse_wt h0 h1 k (joinIt m0 m1 f l :: r)
      simp only [collapse, hn, if_true]
      refine ⟨Nat.le_trans ih.1 ?_, Nat.le_trans ih.2.1 ?_, Nat.le_trans ih.2.2 (by simp)⟩
      · have e1 : Str.length "(" = 1 := rfl
        have e2 : Str.length ")" = 1 := rfl
        have e3 : (if (f.hi + 1 == l.lo) = true then m0 else m1).length ≤ 2 := by split <;> assumption
        simp only [wt, List.map_cons, List.sum_cons, joinIt, strLen_append]
        lia
      · simp only [wu, List.map_cons, List.sum_cons, joinIt, List.length_append, List.length_cons, List.length_nil]
        lia
    | false => simp [collapse, hn]

theorem piles_ok {ranked : List Str} (h0 : m0.length ≤ 2) (h1 : m1.length ≤ 2) : ∀ (rest : List Str) (i : Nat) (p : List It), (∀ x ∈ rest, NameOk x) → i + rest.length ≤ 6 → wt p ≤ 9 * i → wu p ≤ 4 * i → p.length ≤ i → PilesOk ranked m0 m1 rest p
  | [], _, _, _, _, _, _, _ => trivial
  | x :: rest, i, p, hx, hl, a1, a2, a3 => by
    have hx1 := (hx x (by simp)).2.2
    simp only [List.length_cons] at hl
    have e1 : Str.length "\"" = 1 := by decide
    have e2 : Str.length "\"," = 2 := by decide
    have w1 : wt (leaf ranked x :: p) ≤ 9 * (i + 1) := by
      have : (leaf ranked x).text.length ≤ 5 := by simp only [leaf, strLen_append]; lia
      simp only [wt, List.map_cons, List.sum_cons] at a1 ⊢; lia
    have w2 : wu (leaf ranked x :: p) ≤ 4 * (i + 1) := by
      simp only [wu, List.map_cons, List.sum_cons, leaf, List.length_cons, List.length_nil] at a2 ⊢; lia
    have w3 : (leaf ranked x :: p).length ≤ i + 1 := by simp; lia
    have c := collapse_wt h0 h1 (p.length + 1) (leaf ranked x :: p)
    exact ⟨hx x (by simp), ⟨by unfold wt at w1; lia, by unfold wu at w2; lia, by lia⟩, piles_ok h0 h1 rest (i + 1) _ (fun y hy => hx y (by simp [hy])) (by lia) (by lia) (by lia) (by lia)⟩
end

theorem typed_ok : ∀ x ∈ typed, NameOk x := by
  have : (typed.all fun x => decide (x.length ≤ 2) && decide ((Txt.replace x "\\" "\\\\").length ≤ 4) && decide ((quote x).length ≤ 2)) = true := by decide +kernel
  intro x hx
  have h := List.all_eq_true.mp this x hx
  simp only [Bool.and_eq_true, decide_eq_true_eq] at h
  exact ⟨h.1.1, h.1.2, h.2⟩

section
variable {R : RT} {σ : Sto} {a : Addr} {code : Value} {d : Nat} {fm : Fm} {ρ : Loc}

theorem Cl.drop {e : PySem.Expr} {it : AIt} {n : Nat} {K : Sto → Prop} {ρ' : Loc} (h : Pre ρ' ρ) (w : Cl R d fm e it n ⟨ρ', σ⟩ K) : Cl R d fm e it n ⟨ρ, σ⟩ K :=
  fun A L s a acc r ht P I hacc => w A L s a acc r ht (P.drop h) I hacc

theorem ExtBut.refl (m : Nat) (σ : Sto) : ExtBut m σ σ := fun _ _ _ e => e
theorem ExtBut.trans {m : Nat} {a b c : Sto} (x : ExtBut m a b) (y : ExtBut m b c) : ExtBut m a c := fun k d hk h => y k d hk (x k d hk h)
theorem Ext.but {m : Nat} {a b : Sto} (x : Ext a b) : ExtBut m a b := fun k d _ h => x k d h
theorem ExtBut.upd {m : Nat} {σ σ' : Sto} {c : Cell} (x : ExtBut m σ σ') : ExtBut m σ (σ'.upd m c) := fun k d hk h => by rw [upd_ne hk]; exact x k d hk h
theorem ExtBut.ext {m : Nat} {σ σ' : Sto} (x : ExtBut m σ σ') (h : σ m = none) : Ext σ σ' := fun k c e => x k c (fun q => by rw [q, h] at e; cases e) e

/-- an iterator gives these values, whatever is laid meanwhile at any place but n -/
noncomputable def Gives (σ₀ : Sto) (n : Nat) : List AV → AIt → Prop
  | [], it => ∀ σ, ExtBut n σ₀ σ → ItNext σ it none
  | v :: vs, it => ∃ it', (∀ σ, ExtBut n σ₀ σ → ItNext σ it (some (v, it'))) ∧ Gives σ₀ n vs it'

theorem Gives.rng {n : Nat} : ∀ (k lo hi : Nat), lo + k = hi → Gives σ n ((List.range' lo k).map fun (i : Nat) => AV.int (i : Int)) (.rng lo hi)
  | 0, lo, hi, h => fun σ' _ => .rng_none (by lia)
  | k + 1, lo, hi, h => ⟨.rng ((lo + 1 : Nat) : Int) hi, fun σ' _ => .rng_some (by lia), Gives.rng k (lo + 1) hi (by lia)⟩
theorem Gives.lst {n m : Nat} {l : List AV} (hm : σ m = some (.lst l)) (hmn : m ≠ n) : ∀ (r : List AV) (i : Nat), l.drop i = r → Gives σ n r (.lst m i)
  | [], i, h => fun σ' x => .lst_none (x _ _ hmn hm) (by have := congrArg List.length h; simp at this; lia)
  | v :: r, i, h => ⟨.lst m (i + 1), fun σ' x => .lst_some (x _ _ hmn hm) (by have := congrArg (·[0]?) h; simpa using this), Gives.lst hm hmn r (i + 1) (by have := congrArg List.tail h; simpa using this)⟩

theorem cl_all {α : Type} {val f : α → AV} {p : α → Bool} {elt iter : PySem.Expr} {x : Str} {px : Pos} {ifs : List PySem.Expr} {scope : Scope} {pos : Pos} {n : Nat} {σ₀ : Sto} {ρ' : Loc} {K : Sto → Prop} {xs : List α}
    (hx : fm.scope.names.lookup x = some .local) (hu : ∀ v, Upd ρ' x v (ρ' ++ [(x, .val v)]))
    (htst : ∀ a ∈ xs, ∀ (σ : Sto) (KK : Bool → St → Prop), ExtBut n σ₀ σ → (∀ σ', Ext σ σ' → KK (p a) ⟨ρ' ++ [(x, .val (val a))], σ'⟩) → Tsts R d fm ifs ⟨ρ' ++ [(x, .val (val a))], σ⟩ KK)
    (helt : ∀ a ∈ xs, p a = true → ∀ (σ : Sto) (KK : AV → St → Prop), ExtBut n σ₀ σ → (∀ σ', Ext σ σ' → KK (f a) ⟨ρ' ++ [(x, .val (val a))], σ'⟩) → Ev R d fm elt ⟨ρ' ++ [(x, .val (val a))], σ⟩ KK) :
    ∀ (rest : List α) (it : AIt) (acc : List AV) (σ : Sto), (∀ a ∈ rest, a ∈ xs) → Gives σ₀ n (rest.map val) it → ExtBut n σ₀ σ → σ n = some (.lst acc) → acc.length + rest.length < 1048576 →
      (∀ σ', ExtBut n σ₀ σ' → σ' n = some (.lst (acc ++ (rest.filter p).map f)) → K σ') → Cl R d fm (.ListComp elt [⟨.Name x px, iter, ifs, 0⟩] scope pos) it n ⟨ρ', σ⟩ K := by
  intro rest
  induction rest with
  | nil =>
    intro it acc σ hm hg hx hn hl hK
    exact Cl.step (hg σ hx) (hK σ hx (by simpa using hn))
  | cons y rest ih =>
    intro it acc σ hm hg hxt hn hl hK
    obtain ⟨it', h1, h2⟩ := hg
    refine Cl.step (h1 σ hxt) ⟨_, .loc hx (hu _), htst y (hm y (by simp)) σ _ hxt fun σ' he => ?_⟩
    have hn' := he _ _ hn
    have hx' := hxt.trans he.but
    simp only [List.length_cons] at hl
    cases hp : p y with
    | false =>
      dsimp only
      refine Cl.drop ⟨_, rfl⟩ (ih it' acc σ' (fun a h => hm a (by simp [h])) h2 hx' hn' (by lia) ?_)
      simpa [List.filter_cons, hp] using hK
    | true =>
      dsimp only
      refine helt y (hm y (by simp)) hp σ' _ hx' fun σ₂ he₂ => ?_
      refine ⟨acc, he₂ _ _ hn', by lia, ?_⟩
      refine Cl.drop ⟨_, rfl⟩ (ih it' (acc ++ [f y]) _ (fun a h => hm a (by simp [h])) h2 (hx'.trans he₂.but).upd (Sto.upd_self ..) (by simp; lia) ?_)
      simpa [List.filter_cons, hp] using hK
end

section
variable {R : RT} {σ : Sto} {a : Addr} {code : Value} {d : Nat} {fm : Fm}

noncomputable def mateOf (us : List Str) (k : Nat) : Nat := if at' us k == "(" then mate us k else k
noncomputable def opensL (us : List Str) : List Nat := (List.range us.length).filter fun k => at' us k == "("
noncomputable def leafL (us : List Str) : List Nat := (List.range us.length).filter fun k => at' us k == ","
noncomputable def powOf (us : List Str) (m1 : Str) (o k : Nat) : Nat := if at' us (o + 1) == m1 then 2 * k + 3 else 2 * k + 2
noncomputable def stepP (us : List Str) (m1 : Str) (B : Int) (x k : Nat) (p : Int × Int) : Int × Int :=
  let o := (opensL us).getD k 0
  if mateOf us (o + 2) < x ∧ x < mateOf us o then (p.1 + B ^ (12 - powOf us m1 o k), p.2 + (-1) ^ powOf us m1 o k * B ^ (12 - powOf us m1 o k)) else p
noncomputable def pairGo (us : List Str) (m1 : Str) (B : Int) (x : Nat) : Nat → Nat → Int × Int → Int × Int
  | 0, _, p => p
  | j + 1, k, p => pairGo us m1 B x j (k + 1) (stepP us m1 B x k p)
noncomputable def pairOf (us : List Str) (m1 : Str) (B : Int) (x : Nat) : Int × Int := pairGo us m1 B x (opensL us).length 0 (0, 0)
noncomputable def heightsOf (us : List Str) (m1 : Str) (B : Int) : List (Int × Int) := (leafL us).map (pairOf us m1 B)

noncomputable def matesL (us : List Str) : List AV := (List.range us.length).map fun k => AV.int (mateOf us k)
noncomputable def natsL (l : List Nat) : List AV := l.map fun (k : Nat) => AV.int (k : Int)
noncomputable def ifB : Stmt → List Stmt | .If _ b _ _ => b | _ => []
noncomputable def hF : Stmt := (fnB (stm 19))[3]?.getD default
noncomputable def hG : Stmt := (ifB ((forB hF)[0]?.getD default))[1]?.getD default

theorem natsL_get {l : List Nat} {i : Nat} (h : i < l.length) : (natsL l)[i]? = some (.int (l.getD i 0 : Nat)) := by
  simp [natsL, List.getElem?_eq_getElem h, List.getD]
theorem matesL_get {us : List Str} {i : Nat} (h : i < us.length) : (matesL us)[i]? = some (.int (mateOf us i : Nat)) := by
  simp [matesL, h]

/-- units that heights can take -/
structure HOk (us : List Str) : Prop where
  len : us.length ≤ 60
  opens : (opensL us).length ≤ 5
  two : ∀ o ∈ opensL us, o + 2 < us.length
  short : ∀ y ∈ us, y.length ≤ 2

noncomputable def pairLoc (cu : Nat) (m1 : Str) (B : Int) (nm no nh x np : Nat) : Loc := [("units", .cel cu), ("below", .val (.str m1)), ("base", .val (.int B)), ("mates", .val (.lst nm)), ("opens", .val (.lst no)), ("heights", .val (.lst nh)), ("leaf", .val (.int x)), ("pair", .val (.lst np))]

theorem bits_base {B : Int} (h0 : 0 ≤ B) (h : B < 128) : Builtin.Int.intBits B ≤ 7 := intBits_le_iff.mpr (by lia)
theorem bits_sign (w : Nat) : Builtin.Int.intBits ((-1 : Int) ^ w) ≤ 64 := by
  refine intBits_le_iff.mpr ?_
  rcases Nat.mod_two_eq_zero_or_one w with h | h
  · rw [show w = 2 * (w / 2) by lia, Int.pow_mul]; simp
  · rw [show w = 2 * (w / 2) + 1 by lia, Int.pow_succ, Int.pow_mul]; simp

noncomputable def hB2 : List Stmt := (ifB ((forB hG)[0]?.getD default)).drop 2
theorem t_pair {cu nm no nh np x k w : Nat} {m1 : Str} {B : Int} {env : Env} {K : Out → St → Prop} {p : Int × Int} (hB0 : 0 ≤ B) (hB : B < 128) (hw : w ≤ 12) (gp : σ np = some (.lst [.int p.1, .int p.2]))
    (hK : ∀ ρ, Pre (pairLoc cu m1 B nm no nh x np) ρ → K .next ⟨ρ, σ.upd np (.lst [.int (p.1 + B ^ (12 - w)), .int (p.2 + (-1) ^ w * B ^ (12 - w))])⟩) :
    Exs R (d + 2) ⟨fnS (stm 19), env⟩ hB2 ⟨[("units", .cel cu), ("below", .val (.str m1)), ("base", .val (.int B)), ("mates", .val (.lst nm)), ("opens", .val (.lst no)), ("heights", .val (.lst nh)), ("leaf", .val (.int x)), ("pair", .val (.lst np)), ("k", .val (.int k)), ("power", .val (.int w))], σ⟩ K := by
  have hbits := bits_base hB0 hB
  have hsub : ((12 : Int) - (w : Int)).toNat = 12 - w := by lia
  have hpow : (Builtin.Int.intBits B : Int) * (12 - (w : Int)) ≤ 2 ^ 27 := by
    have h1 : (Builtin.Int.intBits B : Int) ≤ 7 := by exact_mod_cast hbits
    have h2 : (Builtin.Int.intBits B : Int) * (12 - (w : Int)) ≤ 7 * (12 - (w : Int)) := Int.mul_le_mul_of_nonneg_right h1 (by lia)
    lia
  have hpow1 : (Builtin.Int.intBits (-1) : Int) * (w : Int) ≤ 2 ^ 27 := by
    have : Builtin.Int.intBits (-1) = 1 := by decide
    rw [this]; lia
  refine Exs.cons ?_
  repeat' wtm_at "mm"
  refine Opr.getItem gp (by lia) (v := .int p.1) rfl (by simp) ?_
  repeat' wtm_at "mm"
  refine Opr.pow_int (by lia) hpow ?_
  rw [hsub]
  repeat' wtm_at "mm"
  refine ⟨np, _, _, rfl, rfl, by decide, gp, by simp, by simp, ?_⟩
  have gp2 : (σ.upd np (.lst ([AV.int p.1, AV.int p.2].set (0 : Int).toNat (.int (p.1 + B ^ (12 - w)))))) np = some (.lst [.int (p.1 + B ^ (12 - w)), .int p.2]) := Sto.upd_self ..
  generalize hσ₂ : (σ.upd np (.lst ([AV.int p.1, AV.int p.2].set (0 : Int).toNat (.int (p.1 + B ^ (12 - w)))))) = σ₂ at gp2 ⊢
  repeat' wtm_at "mm"
  refine Opr.getItem gp2 (by lia) (v := .int p.2) rfl (by simp) ?_
  repeat' wtm_at "mm"
  refine Opr.pow_int (by lia) hpow1 ?_
  rw [Int.toNat_natCast]
  repeat' wtm_at "mm"
  refine Opr.pow_int (by lia) hpow ?_
  rw [hsub]
  refine Opr.mul_int (.inl (bits_sign w)) ?_
  repeat' wtm_at "mm"
  refine ⟨np, _, _, rfl, rfl, by decide, gp2, by simp, by simp, ?_⟩
  repeat' wtm_at "mm"
  rw [← hσ₂, Sto.upd_upd]
  exact hK _ ⟨_, rfl⟩

theorem l_pair {cu nu nm no nh np x : Nat} {us : List Str} {m1 : Str} {B : Int} {env : Env} {K : Out → St → Prop} (ok : HOk us) (hB0 : 0 ≤ B) (hB : B < 128) (hcu : σ cu = some (.cel (some (.lst nu)))) (hu : σ nu = some (.lst (strL us))) (hm : σ nm = some (.lst (matesL us))) (ho : σ no = some (.lst (natsL (opensL us))))
    (hp : σ np = none) : ∀ (j k : Nat) (p : Int × Int), k + j = (opensL us).length → K .next ⟨pairLoc cu m1 B nm no nh x np, σ.upd np (.lst [.int (pairGo us m1 B x j k p).1, .int (pairGo us m1 B x j k p).2])⟩ →
      Fl R (d + 2) ⟨fnS (stm 19), env⟩ (forT hG) (.rng k ((opensL us).length : Nat)) (forB hG) ⟨pairLoc cu m1 B nm no nh x np, σ.upd np (.lst [.int p.1, .int p.2])⟩ K := by
  have ne : ∀ {k c}, σ k = some c → k ≠ np := fun {k c} e q => by rw [q, hp] at e; cases e
  have len1 : (matesL us).length < 1048576 := by have := ok.len; simp [matesL]; lia
  have len2 : (natsL (opensL us)).length < 1048576 := by have := ok.opens; simp [natsL]; lia
  have len3 : (strL us).length < 1048576 := by have := ok.len; simp [strL]; lia
  intro j
  induction j with
  | zero => intro k p h hK; exact Fl.step (.rng_none (by lia)) hK
  | succ j ih =>
    intro k p h hK
    have hk : k < (opensL us).length := by lia
    have ho1 := natsL_get hk
    generalize hoo : (opensL us).getD k 0 = o at ho1
    have hmem : o ∈ opensL us := by
      rw [← hoo]; simp [List.getD, List.getElem?_eq_getElem hk]
    have h2 := ok.two o hmem
    have hm1 := matesL_get (us := us) (i := o + 2) h2
    have hm2 := matesL_get (us := us) (i := o) (by lia)
    have hu1 := at_get (l := us) (i := o + 1) (by lia)
    refine Fl.step (.rng_some (by lia)) ?_
    unfold pairLoc
    refine asg_loc rfl (by wtm_at "m_upd") ?_
    generalize hσ : σ.upd np (.lst [.int p.1, .int p.2]) = σ₁
    have gu : σ₁ nu = some (.lst (strL us)) := by rw [← hσ, upd_ne (ne hu)]; exact hu
    have gcu : σ₁ cu = some (.cel (some (.lst nu))) := by rw [← hσ, upd_ne (ne hcu)]; exact hcu
    have gm : σ₁ nm = some (.lst (matesL us)) := by rw [← hσ, upd_ne (ne hm)]; exact hm
    have go : σ₁ no = some (.lst (natsL (opensL us))) := by rw [← hσ, upd_ne (ne ho)]; exact ho
    have gp : σ₁ np = some (.lst [.int p.1, .int p.2]) := by rw [← hσ]; exact Sto.upd_self ..
    refine Exs.cons (Ex.ite ?_)
    refine Tst.boolop ?_
    refine All.and_cons ?_
    repeat' wtm_at "mm"
    refine Opr.getItem go (by lia) ho1 len2 ?_
    repeat' wtm_at "mm"
    refine Opr.getItem gm (by lia) (v := .int (mateOf us (o + 2) : Nat)) (by rw [show ((o : Int) + 2).toNat = o + 2 by lia]; exact hm1) len1 ?_
    repeat' wtm_at "mm"
    have skip : ¬ (mateOf us (o + 2) < x ∧ x < mateOf us o) → stepP us m1 B x k p = p := fun hn => by simp only [stepP, hoo, if_neg hn]
    have drop : ∀ (ρ : Loc) q, Pre (pairLoc cu m1 B nm no nh x np) ρ → stepP us m1 B x k p = q → Fl R (d + 2) ⟨fnS (stm 19), env⟩ (forT hG) (.rng ((k : Int) + 1) ((opensL us).length : Nat)) (forB hG) ⟨ρ, σ.upd np (.lst [.int q.1, .int q.2])⟩ K := fun ρ q hρ hq => by
      refine Fl.drop hρ (ih (k + 1) q (by lia) ?_)
      rw [← hq]; exact hK
    by_cases c1 : mateOf us (o + 2) < x
    · rw [show decide ((mateOf us (o + 2) : Int) < (x : Int)) = true by simpa using c1]
      dsimp only
      repeat' wtm_at "mm"
      refine Opr.getItem go (by lia) ho1 len2 ?_
      repeat' wtm_at "mm"
      refine Opr.getItem gm (by lia) (v := .int (mateOf us o : Nat)) (by rw [Int.toNat_natCast]; exact hm2) len1 ?_
      repeat' wtm_at "mm"
      by_cases c2 : x < mateOf us o
      · rw [show decide ((x : Int) < (mateOf us o : Int)) = true by simpa using c2]
        dsimp only
        repeat' wtm_at "mm"
        refine Opr.mul_int (.inl (by decide)) ?_
        repeat' wtm_at "mm"
        refine Opr.getItem go (by lia) ho1 len2 ?_
        repeat' wtm_at "mm"
        refine Opr.getItem gu (by lia) (v := .str (at' us (o + 1))) hu1 len3 ?_
        repeat' wtm_at "mm"
        have hq : ∀ w : Nat, powOf us m1 o k = w → stepP us m1 B x k p = (p.1 + B ^ (12 - w), p.2 + (-1) ^ w * B ^ (12 - w)) := fun w h => by
          simp only [stepP, hoo, if_pos (show mateOf us (o + 2) < x ∧ x < mateOf us o from ⟨c1, c2⟩), h]
        have hk5 := ok.opens
        have tp : ∀ (w : Nat) (pw : Int) (K' : Out → St → Prop), pw = (w : Int) → powOf us m1 o k = w → w ≤ 12 → (∀ ρ, Pre (pairLoc cu m1 B nm no nh x np) ρ → K' .next ⟨ρ, σ.upd np (.lst [.int (stepP us m1 B x k p).1, .int (stepP us m1 B x k p).2])⟩) →
            Exs R (d + 2) ⟨fnS (stm 19), env⟩ hB2 ⟨[("units", .cel cu), ("below", .val (.str m1)), ("base", .val (.int B)), ("mates", .val (.lst nm)), ("opens", .val (.lst no)), ("heights", .val (.lst nh)), ("leaf", .val (.int x)), ("pair", .val (.lst np)), ("k", .val (.int k)), ("power", .val (.int pw))], σ₁⟩ K' := by
          intro w pw K' e1 e2 e3 hk'
          subst e1
          refine t_pair hB0 hB e3 gp fun ρ hρ => ?_
          have := hk' ρ hρ
          rw [hq w e2] at this
          rw [← hσ, Sto.upd_upd]
          exact this
        cases hc : (at' us (o + 1) == m1) with
        | true =>
          dsimp only
          repeat' (first | refine tp (2 * k + 3) _ _ (by lia) (by simp [powOf, hc]) (by lia) ?_ | wtm_at "mm")
          intro ρ hρ
          repeat' wtm_at "mm"
          exact drop _ _ hρ rfl
        | false =>
          dsimp only
          repeat' (first | refine tp (2 * k + 2) _ _ (by lia) (by simp [powOf, hc]) (by lia) ?_ | wtm_at "mm")
          intro ρ hρ
          repeat' wtm_at "mm"
          exact drop _ _ hρ rfl
      · rw [show decide ((x : Int) < (mateOf us o : Int)) = false by simpa using c2]
        dsimp only
        repeat' wtm_at "mm"
        rw [← hσ]
        exact drop _ p ⟨_, rfl⟩ (skip fun h => c2 h.2)
    · rw [show decide ((mateOf us (o + 2) : Int) < (x : Int)) = false by simpa using c1]
      dsimp only
      repeat' wtm_at "mm"
      rw [← hσ]
      exact drop _ p ⟨_, rfl⟩ (skip fun h => c1 h.1)
end

/- what the strip leaves of a text -/
inductive Tk where
  | unit (u : Str)
  | name (q : List Str)
noncomputable def tkUnits : List Tk → List Str
  | [] => []
  | .unit u :: t => u :: tkUnits t
  | .name q :: t => ("\"" : Str) :: (q ++ ("\"" : Str) :: tkUnits t)
noncomputable def tkBare : List Tk → List Str
  | [] => []
  | .unit u :: t => u :: tkBare t
  | .name q :: t => tkBare t
noncomputable def TkOk : List Tk → Prop
  | [] => True
  | .unit u :: t => (GoodUnit u ∧ (u == "\"") = false) ∧ TkOk t
  | .name q :: t => (∀ u ∈ q, GoodUnit u ∧ (u == "\"") = false) ∧ TkOk t
theorem tkUnits_append : ∀ a b : List Tk, tkUnits (a ++ b) = tkUnits a ++ tkUnits b
  | [], b => rfl
  | .unit u :: t, b => by simp [tkUnits, tkUnits_append t b]
  | .name q :: t, b => by simp [tkUnits, tkUnits_append t b]
theorem tkBare_append : ∀ a b : List Tk, tkBare (a ++ b) = tkBare a ++ tkBare b
  | [], b => rfl
  | .unit u :: t, b => by simp [tkBare, tkBare_append t b]
  | .name q :: t, b => by simp [tkBare, tkBare_append t b]
theorem TkOk.append : ∀ {a b : List Tk}, TkOk a → TkOk b → TkOk (a ++ b)
  | [], b, _, h => h
  | .unit u :: t, b, ⟨h1, h2⟩, h => ⟨h1, h2.append h⟩
  | .name q :: t, b, ⟨h1, h2⟩, h => ⟨h1, h2.append h⟩
theorem good_q : GoodUnit "\"" := .inl ⟨34, by decide, by decide⟩
theorem TkOk.good : ∀ {a : List Tk}, TkOk a → ∀ u ∈ tkUnits a, GoodUnit u
  | [], _, u, h => by simp [tkUnits] at h
  | .unit v :: t, ⟨h1, h2⟩, u, h => by
    rcases List.mem_cons.mp h with rfl | h
    · exact h1.1
    · exact h2.good u h
  | .name q :: t, ⟨h1, h2⟩, u, h => by
    rcases List.mem_cons.mp h with rfl | h
    · exact good_q
    · rcases List.mem_append.mp h with h | h
      · exact (h1 u h).1
      · rcases List.mem_cons.mp h with rfl | h
        · exact good_q
        · exact h2.good u h

theorem flat_append (a b : List Str) : flat (a ++ b) = flat a ++ flat b := by simp [flat]
theorem flat_cons (a : Str) (b : List Str) : flat (a :: b) = a.cps.toList ++ flat b := by simp [flat]
theorem cps_len (x : Str) : x.cps.toList.length = x.length := by simp [Str.length]
theorem str_ext {x y : Str} (h : x.cps.toList = y.cps.toList) : x = y := by
  obtain ⟨a⟩ := x; obtain ⟨b⟩ := y
  simp only at h
  rw [Array.toList_inj.mp h]
theorem app_cps (a b : Str) : (a ++ b).cps.toList = a.cps.toList ++ b.cps.toList := by
  show (a.cps ++ b.cps).toList = _
  rw [Array.toList_append]

/-- a piece of a list -/
noncomputable def sg (l : List Nat) (a b : Nat) : List Nat := (l.drop a).take (b - a)
theorem sg_self (l : List Nat) (a : Nat) : sg l a a = [] := by simp [sg]
theorem sg_slice (x : Str) (a b : Nat) : (strSlice x a b).cps.toList = sg x.cps.toList a b := by simp [strSlice, sg]
theorem sg_join (l : List Nat) {a b c : Nat} (h : a ≤ b) (h' : b ≤ c) : sg l a b ++ sg l b c = sg l a c := by
  unfold sg
  rw [show c - a = (b - a) + (c - b) by lia, List.take_add, List.drop_drop, show a + (b - a) = b by lia]
theorem sg_mid {l pre m post : List Nat} {a b : Nat} (h : l = pre ++ (m ++ post)) (ha : pre.length = a) (hb : b = a + m.length) : sg l a b = m := by
  subst h ha hb
  unfold sg
  rw [List.drop_left', show pre.length + m.length - pre.length = m.length by lia, List.take_left']
  · rfl
  · rfl

theorem places_append : ∀ (a b : List Str) (i : Nat), places i (a ++ b) = places i a ++ places (i + (flat a).length) b
  | [], b, i => by simp [places, flat]
  | u :: a, b, i => by
    simp only [List.cons_append, places, places_append a b, flat_cons, List.length_append, cps_len]
    rw [Nat.add_assoc]

theorem q_len : Str.length "\"" = 1 := by decide
theorem q_cps : ("\"" : Str).cps.toList = [34] := by decide
theorem stripGo_toks (x : Str) : ∀ (toks : List Tk) (i s : Nat) (r : List Str) (pre post : List Nat) (t : List (Nat × Str)), TkOk toks → x.cps.toList = pre ++ (flat (tkUnits toks) ++ post) → pre.length = i → s ≤ i →
    ∃ s' r', stripGo x (places i (tkUnits toks) ++ t) s none r = stripGo x t s' none r' ∧ s' ≤ i + (flat (tkUnits toks)).length ∧
      flat r' ++ sg x.cps.toList s' (i + (flat (tkUnits toks)).length) = flat r ++ sg x.cps.toList s i ++ flat (tkBare toks)
  | [], i, s, r, pre, post, t, _, _, _, h => ⟨s, r, by simp [tkUnits, places], by simpa [tkUnits, flat] using h, by simp [tkUnits, tkBare, flat]⟩
  | .unit u :: toks, i, s, r, pre, post, t, ⟨h1, h2⟩, hx, hp, hs => by
    have hx' : x.cps.toList = (pre ++ u.cps.toList) ++ (flat (tkUnits toks) ++ post) := by rw [hx]; simp [tkUnits, flat_cons]
    obtain ⟨s', r', e1, e2, e3⟩ := stripGo_toks x toks (i + u.length) s r (pre ++ u.cps.toList) post t h2 hx' (by rw [List.length_append, hp, cps_len]) (by lia)
    have hm : sg x.cps.toList i (i + u.length) = u.cps.toList := sg_mid (m := u.cps.toList) (post := flat (tkUnits toks) ++ post) (by rw [hx']; simp) hp (by rw [cps_len])
    have hl : i + (flat (tkUnits (.unit u :: toks))).length = i + u.length + (flat (tkUnits toks)).length := by
      simp only [tkUnits, flat_cons, List.length_append, cps_len]; lia
    refine ⟨s', r', ?_, by rw [hl]; exact e2, ?_⟩
    · rw [← e1]
      simp only [tkUnits, places, List.cons_append, stripGo, h1.2, Bool.false_eq_true, if_false]
    · rw [hl, e3, ← sg_join _ hs (Nat.le_add_right i u.length), hm]
      simp [tkBare, flat_cons]
  | .name q :: toks, i, s, r, pre, post, t, ⟨h1, h2⟩, hx, hp, hs => by
    generalize hj : i + 1 + (flat q).length = j
    have hx' : x.cps.toList = (pre ++ [34] ++ flat q ++ [34]) ++ (flat (tkUnits toks) ++ post) := by rw [hx]; simp [tkUnits, flat_cons, flat_append, q_cps]
    obtain ⟨s', r', e1, e2, e3⟩ := stripGo_toks x toks (j + 1) (j + 1) (if s != i then r ++ [strSlice x s i] else r) (pre ++ [34] ++ flat q ++ [34]) post t h2 hx' (by simp; lia) (Nat.le_refl _)
    have hl : i + (flat (tkUnits (.name q :: toks))).length = j + 1 + (flat (tkUnits toks)).length := by
      simp only [tkUnits, flat_cons, flat_append, List.length_append, q_cps, List.length_cons, List.length_nil]; lia
    refine ⟨s', r', ?_, by rw [hl]; exact e2, ?_⟩
    · rw [← e1]
      simp only [tkUnits, places, List.cons_append, places_append, List.append_assoc, q_len]
      rw [show stripGo x ((i + 1 - 1, ("\"" : Str)) :: (places (i + 1) q ++ (i + 1 + (flat q).length + 1 - 1, ("\"" : Str)) :: (places (i + 1 + (flat q).length + 1) (tkUnits toks) ++ t))) s none r
        = stripGo x (places (i + 1) q ++ (i + 1 + (flat q).length + 1 - 1, ("\"" : Str)) :: (places (i + 1 + (flat q).length + 1) (tkUnits toks) ++ t)) s (some i) r by
          simp [stripGo]]
      rw [stripGo_places x q (i + 1) s (some i) r _ fun u hu => (h1 u hu).2, hj]
      simp [stripGo]
    · rw [hl, e3, sg_self, List.append_nil]
      have : flat (if s != i then r ++ [strSlice x s i] else r) = flat r ++ sg x.cps.toList s i := by
        by_cases h : s = i
        · subst h; simp [sg_self]
        · have : (s != i) = true := by simpa using h
          rw [this, if_pos rfl, flat_append, flat_cons, sg_slice]; simp [flat]
      rw [this]; rfl

theorem join_str {x : Str} {us : List Str} (h : flat us = x.cps.toList) : Str.join "" us = x := str_ext (by rw [join_cps]; exact h)

theorem strip_toks {x : Str} {toks : List Tk} {post : List Nat} {t : List (Nat × Str)} (ok : TkOk toks) (hx : x.cps.toList = flat (tkUnits toks) ++ post) (hq : 34 ∈ x.cps.toList) (he : escs (flat (tkUnits toks)).length false post = t)
    (ht : ∀ s r, stripGo x t s none r = (s, r)) : (strip x).cps.toList = flat (tkBare toks) ++ post := by
  have e := escs_units (tkUnits toks) 0 post ok.good
  rw [← hx, Nat.zero_add, he] at e
  obtain ⟨s', r', e1, e2, e3⟩ := stripGo_toks x toks 0 0 [] [] post t ok (by simpa using hx) rfl (Nat.le_refl _)
  have hQ : hasQ x = true := by rw [hasQ_eq]; simpa using hq
  have hlen : x.length = (flat (tkUnits toks)).length + post.length := by rw [← cps_len, hx, List.length_append]
  unfold strip
  rw [hQ, if_pos rfl, e, e1, ht]
  simp only [Nat.zero_add, sg_self, List.append_nil] at e3 e2
  have e4 : flat r' ++ sg x.cps.toList s' x.length = flat (tkBare toks) ++ post := by
    rw [← sg_join _ e2 (show (flat (tkUnits toks)).length ≤ x.length by lia), ← List.append_assoc, e3]
    rw [sg_mid (pre := flat (tkUnits toks)) (m := post) (post := []) (by simpa using hx) rfl hlen]
    simp [flat]
  simp only
  rw [join_cps]
  by_cases h : s' < x.length
  · rw [if_pos h, flat_append, flat_cons, sg_slice]
    simpa [flat] using e4
  · rw [if_neg h]
    have : s' = x.length := by lia
    rw [this, sg_self, List.append_nil] at e4
    exact e4

/-- a name between marks -/
noncomputable def qu (x : Str) : List Str := (escs 0 false (quote x).cps.toList).map (·.2)
noncomputable def gub (u : Str) : Bool := match u.cps.toList with | [c] => c != 92 | [a, _] => a == 92 | _ => false
theorem gub_good {u : Str} (h : gub u = true) : GoodUnit u := by
  unfold gub at h
  split at h
  · rename_i c e
    exact .inl ⟨c, str_ext e, by simpa using h⟩
  · rename_i a c e
    have : a = 92 := by simpa using h
    subst this
    exact .inr ⟨c, str_ext e⟩
  · cases h
/-- names that can stand between marks -/
noncomputable def QOk (x : Str) : Prop := flat (qu x) = (quote x).cps.toList ∧ ∀ u ∈ qu x, GoodUnit u ∧ (u == "\"") = false
theorem typed_q : ∀ x ∈ typed, QOk x := by
  have : (typed.all fun x => decide (flat (qu x) = (quote x).cps.toList) && (qu x).all fun u => gub u && !(u == "\"")) = true := by decide +kernel
  intro x hx
  have h := List.all_eq_true.mp this x hx
  simp only [Bool.and_eq_true, decide_eq_true_eq] at h
  refine ⟨h.1, fun u hu => ?_⟩
  have h2 := List.all_eq_true.mp h.2 u hu
  simp only [Bool.and_eq_true, Bool.not_eq_true'] at h2
  exact ⟨gub_good h2.1, h2.2⟩

noncomputable def Tr.toks (N : Nat → Str) (m0 m1 : Str) : Tr → List Tk
  | .leaf x => [.name (qu (N x)), .unit ","]
  | .node up l r => .unit "(" :: .unit (if up then m0 else m1) :: (l.toks N m0 m1 ++ (r.toks N m0 m1 ++ [.unit ")"]))
theorem Tr.bare (N : Nat → Str) (m0 m1 : Str) : ∀ t : Tr, tkBare (t.toks N m0 m1) = t.units m0 m1
  | .leaf x => rfl
  | .node up l r => by simp [Tr.toks, tkBare, tkBare_append, Tr.bare N m0 m1 l, Tr.bare N m0 m1 r, Tr.units]
noncomputable def Tr.Fit (N : Nat → Str) : Tr → Prop
  | .leaf x => QOk (N x)
  | .node _ l r => l.Fit N ∧ r.Fit N
theorem Tr.toks_ok {N : Nat → Str} {m0 m1 : Str} (h0 : Mark m0) (h1 : Mark m1) : ∀ t : Tr, t.Fit N → TkOk (t.toks N m0 m1)
  | .leaf x, h => ⟨h.2, ⟨.inl ⟨44, by decide, by decide⟩, by decide⟩, trivial⟩
  | .node up l r, h => by
    have hm : Mark (if up then m0 else m1) := by cases up <;> simp [h0, h1]
    obtain ⟨c, hc⟩ := id hm
    exact ⟨⟨.inl ⟨40, by decide, by decide⟩, by decide⟩, ⟨.inr ⟨c, hc⟩, hm.par.2.2⟩, (Tr.toks_ok h0 h1 l h.1).append ((Tr.toks_ok h0 h1 r h.2).append ⟨⟨.inl ⟨41, by decide, by decide⟩, by decide⟩, trivial⟩)⟩
theorem Tr.text_toks {N : Nat → Str} {m0 m1 : Str} : ∀ t : Tr, t.Fit N → (t.text N m0 m1).cps.toList = flat (tkUnits (t.toks N m0 m1))
  | .leaf x, h => by
    have e1 : ("\"," : Str).cps.toList = [34, 44] := by decide
    have e2 : ("," : Str).cps.toList = [44] := by decide
    simp only [Tr.text, Tr.toks, tkUnits, app_cps, flat_cons, flat_append, h.1, q_cps, e1, e2]
    simp [flat]
  | .node up l r, h => by
    simp only [Tr.text, Tr.toks, tkUnits, app_cps, flat_cons, flat_append, tkUnits_append, Tr.text_toks l h.1, Tr.text_toks r h.2]
    simp [flat]
theorem Tr.text_q {N : Nat → Str} {m0 m1 : Str} : ∀ t : Tr, 34 ∈ (t.text N m0 m1).cps.toList
  | .leaf x => by simp [Tr.text, app_cps, q_cps]
  | .node up l r => by
    have := Tr.text_q (N := N) (m0 := m0) (m1 := m1) l
    simp [Tr.text, app_cps, this]

section
variable {N : Nat → Str} {m0 m1 : Str} (h0 : Mark m0) (h1 : Mark m1) {t : Tr} (hf : t.Fit N)
include h0 h1 hf
theorem Tr.strip_text : strip (t.text N m0 m1) = Str.join "" (t.units m0 m1) := by
  refine str_ext ?_
  rw [join_cps, strip_toks (toks := t.toks N m0 m1) (post := []) (t := []) (Tr.toks_ok h0 h1 t hf) (by simpa using Tr.text_toks t hf) (Tr.text_q t) rfl (fun _ _ => rfl), Tr.bare]
  simp
theorem Tr.strip_tail : strip (t.text N m0 m1 ++ "\"(") = Str.join "" (t.units m0 m1) ++ "\"(" := by
  have e : ("\"(" : Str).cps.toList = [34, 40] := by decide
  refine str_ext ?_
  rw [app_cps, join_cps, strip_toks (toks := t.toks N m0 m1) (post := [34, 40]) (Tr.toks_ok h0 h1 t hf) (by rw [app_cps, Tr.text_toks t hf, e]) (by rw [app_cps]; exact List.mem_append_left _ (Tr.text_q t)) rfl ?_, Tr.bare, e]
  intro s r
  have a1 : ((⟨#[34]⟩ : Str) == "\\") = false := by decide
  have a2 : ((⟨#[40]⟩ : Str) == "\\") = false := by decide
  have a3 : ((⟨#[34]⟩ : Str) == "\"") = true := by decide
  have a4 : ((⟨#[40]⟩ : Str) == "\"") = false := by decide
  simp only [escs, a1, a2, Bool.false_eq_true, if_false, stripGo, a3, a4, if_true]
theorem Tr.strip_ahead : strip ((")" : Str) ++ t.text N m0 m1) = Str.join "" (")" :: t.units m0 m1) := by
  refine str_ext ?_
  rw [join_cps, strip_toks (toks := .unit ")" :: t.toks N m0 m1) (post := []) (t := []) ⟨⟨.inl ⟨41, by decide, by decide⟩, by decide⟩, Tr.toks_ok h0 h1 t hf⟩ ?_ ?_ rfl (fun _ _ => rfl)]
  · simp [tkBare, Tr.bare]
  · rw [app_cps, Tr.text_toks t hf]; simp [tkUnits, flat_cons]
  · rw [app_cps]; exact List.mem_append_right _ (Tr.text_q t)
omit hf in
theorem strip_units_tr : strip (Str.join "" (t.units m0 m1)) = Str.join "" (t.units m0 m1) := by
  have g := t.good h0 h1
  exact strip_units (fun u hu => (g.1 u hu).1) (fun u hu => (g.1 u hu).2)
theorem check_of_strip {x y : Str} (h : strip x = y) (hy : strip y = y) : check x = check y := by
  unfold check; rw [h, hy]
theorem Tr.check_text : check (t.text N m0 m1) = true := by
  rw [check_of_strip h0 h1 hf (Tr.strip_text h0 h1 hf) (strip_units_tr h0 h1)]
  exact Tr.whole h0 h1 t
theorem Tr.check_ahead : check ((")" : Str) ++ t.text N m0 m1) = false := by
  have g := t.good h0 h1
  have hu : ∀ u ∈ (")" : Str) :: t.units m0 m1, GoodUnit u ∧ (u == "\"") = false := fun u hu => by
    rcases List.mem_cons.mp hu with rfl | hu
    · exact ⟨.inl ⟨41, by decide, by decide⟩, by decide⟩
    · exact g.1 u hu
  rw [check_of_strip h0 h1 hf (Tr.strip_ahead h0 h1 hf) (strip_units (fun u h => (hu u h).1) (fun u h => (hu u h).2))]
  exact Tr.ahead h0 h1 t
omit hf in
theorem Tr.check_behind : check (Str.join "" (t.units m0 m1) ++ ")(") = false := by
  have : Str.join "" (t.units m0 m1) ++ (")(" : Str) = Str.join "" (t.units m0 m1 ++ [(")" : Str), "("]) := by
    refine str_ext ?_
    have e : (")(" : Str).cps.toList = [41, 40] := by decide
    have e1 : (")" : Str).cps.toList = [41] := by decide
    have e2 : ("(" : Str).cps.toList = [40] := by decide
    rw [app_cps, join_cps, join_cps, flat_append, flat_cons, flat_cons, e, e1, e2]
    simp [flat]
  rw [this]
  exact Tr.behind h0 h1 t
omit hf in
theorem Tr.escs_bare : escs 0 false ((Str.join "" (t.units m0 m1) ++ "\\").cps.toList) = places 0 (t.units m0 m1 ++ [("\\" : Str)]) := by
  have g := t.good h0 h1
  have e : ("\\" : Str).cps.toList = [92] := by decide
  rw [app_cps, join_cps, e, escs_units _ _ _ fun u hu => (g.1 u hu).1, places_append]
  congr 1
end

theorem places_map : ∀ (us : List Str) (i : Nat), places i us = (List.range us.length).map fun k => (i + (flat (us.take (k + 1))).length - 1, at' us k)
  | [], i => rfl
  | u :: us, i => by
    rw [List.length_cons, List.range_succ_eq_map, List.map_cons, List.map_map]
    simp only [places]
    congr 1
    · simp [flat, at']; rfl
    · rw [places_map us]
      refine List.map_congr_left fun k hk => ?_
      simp only [Function.comp, List.take_succ_cons, flat_cons, List.length_append, cps_len]
      rw [Nat.add_assoc]
      simp [at']

/- the heights of a tree's leaves -/
structure Br where
  o : Nat
  e : Nat
  c : Nat
  up : Bool

noncomputable def Tr.len : Tr → Nat
  | .leaf _ => 1
  | .node _ l r => 2 + l.len + r.len + 1
theorem Tr.len_size : ∀ t : Tr, t.len = 4 * t.size + 1
  | .leaf _ => rfl
  | .node _ l r => by simp only [Tr.len, Tr.size, Tr.len_size l, Tr.len_size r]; lia
theorem Tr.len_units (m0 m1 : Str) : ∀ t : Tr, (t.units m0 m1).length = t.len
  | .leaf _ => rfl
  | .node _ l r => by simp only [Tr.len, Tr.units, List.length_append, List.length_cons, List.length_nil, Tr.len_units m0 m1 l, Tr.len_units m0 m1 r]
noncomputable def Tr.brs : Nat → Tr → List Br
  | _, .leaf _ => []
  | o, .node up l r => ⟨o, o + 1 + l.len, o + 2 + l.len + r.len, up⟩ :: (l.brs (o + 2) ++ r.brs (o + 2 + l.len))
noncomputable def Tr.lp : Nat → Tr → List Nat
  | o, .leaf _ => [o]
  | o, .node _ l r => l.lp (o + 2) ++ r.lp (o + 2 + l.len)
theorem Tr.brs_len : ∀ (t : Tr) (o : Nat), (t.brs o).length = t.size
  | .leaf _, _ => rfl
  | .node _ l r, o => by simp only [Tr.brs, Tr.size, List.length_cons, List.length_append, Tr.brs_len l, Tr.brs_len r]; lia
theorem Tr.brs_in : ∀ (t : Tr) (o : Nat), ∀ b ∈ t.brs o, o ≤ b.o ∧ b.o + 2 ≤ b.e ∧ b.e < b.c ∧ b.c < o + t.len
  | .leaf _, _, b, h => by simp [Tr.brs] at h
  | .node _ l r, o, b, h => by
    have pl : 1 ≤ l.len := by rw [l.len_size]; lia
    have pr : 1 ≤ r.len := by rw [r.len_size]; lia
    simp only [Tr.brs, List.mem_cons, List.mem_append] at h
    simp only [Tr.len]
    rcases h with rfl | h | h
    · simp only; lia
    · have := Tr.brs_in l (o + 2) b h; lia
    · have := Tr.brs_in r (o + 2 + l.len) b h; lia
theorem Tr.lp_in : ∀ (t : Tr) (o : Nat), ∀ x ∈ t.lp o, o ≤ x ∧ x < o + t.len
  | .leaf _, o, x, h => by simp [Tr.lp] at h; subst h; simp [Tr.len]
  | .node _ l r, o, x, h => by
    simp only [Tr.lp, List.mem_append] at h
    simp only [Tr.len]
    rcases h with h | h
    · have := Tr.lp_in l (o + 2) x h; lia
    · have := Tr.lp_in r (o + 2 + l.len) x h; lia

/-- the places of some units -/
noncomputable def posOf (q : Str → Bool) : Nat → List Str → List Nat
  | _, [] => []
  | i, u :: us => if q u then i :: posOf q (i + 1) us else posOf q (i + 1) us
theorem posOf_append (q : Str → Bool) : ∀ (a b : List Str) (i : Nat), posOf q i (a ++ b) = posOf q i a ++ posOf q (i + a.length) b
  | [], b, i => by simp [posOf]
  | u :: a, b, i => by
    simp only [List.cons_append, posOf, posOf_append q a b (i + 1), List.length_cons]
    rw [show i + 1 + a.length = i + (a.length + 1) by lia]
    split <;> rfl
theorem posOf_range (q : Str → Bool) : ∀ (us : List Str) (i : Nat), ((List.range us.length).filter fun k => q (at' us k)).map (· + i) = posOf q i us
  | [], i => rfl
  | u :: us, i => by
    rw [List.length_cons, List.range_succ_eq_map, List.filter_cons]
    have e0 : at' (u :: us) 0 = u := rfl
    have ih := posOf_range q us (i + 1)
    have e : ((List.map Nat.succ (List.range us.length)).filter fun k => q (at' (u :: us) k)).map (· + i) = posOf q (i + 1) us := by
      rw [← ih, List.filter_map, List.map_map]
      refine List.map_congr_left fun k _ => ?_
      simp only [Function.comp]; lia
    rw [e0]
    cases hq : q u with
    | true => simp only [if_true, List.map_cons, posOf, hq, e]; simp
    | false => simp only [Bool.false_eq_true, if_false, posOf, hq, e]
theorem posOf_range0 (q : Str → Bool) (us : List Str) : ((List.range us.length).filter fun k => q (at' us k)) = posOf q 0 us := by
  have := posOf_range q us 0
  simpa using this

section
variable {m0 m1 : Str} (h0 : Mark m0) (h1 : Mark m1)
include h0 h1
omit h0 h1 in
theorem Mark.comma {m : Str} (h : Mark m) : (m == ",") = false := by
  obtain ⟨c, rfl⟩ := h
  have e1 : ("," : Str) = ⟨#[44]⟩ := by decide
  rw [e1, beq_eq_false_iff_ne]; intro e; injection e with e; exact absurd (congrArg Array.size e) (by simp)
theorem Tr.pos_open : ∀ (t : Tr) (o : Nat), posOf (· == "(") o (t.units m0 m1) = (t.brs o).map (·.o)
  | .leaf _, o => by
    have : (("," : Str) == "(") = false := by decide
    simp [Tr.units, posOf, Tr.brs, this]
  | .node up l r, o => by
    have hm : Mark (if up then m0 else m1) := by cases up <;> simp [h0, h1]
    have e1 : (("(" : Str) == "(") = true := by decide
    have e2 : ((")" : Str) == "(") = false := by decide
    simp only [Tr.units, posOf_append, List.length_append, List.length_cons, List.length_nil, Tr.len_units, Tr.pos_open l, Tr.pos_open r, posOf, e1, hm.par.1, e2, Bool.false_eq_true, if_false, if_true, Tr.brs, List.map_cons, List.map_append]
    simp [Nat.add_assoc]
theorem Tr.pos_leaf : ∀ (t : Tr) (o : Nat), posOf (· == ",") o (t.units m0 m1) = t.lp o
  | .leaf _, o => by
    have : (("," : Str) == ",") = true := by decide
    simp [Tr.units, posOf, Tr.lp, this]
  | .node up l r, o => by
    have hm : Mark (if up then m0 else m1) := by cases up <;> simp [h0, h1]
    have e1 : (("(" : Str) == ",") = false := by decide
    have e2 : ((")" : Str) == ",") = false := by decide
    simp only [Tr.units, posOf_append, List.length_append, List.length_cons, List.length_nil, Tr.len_units, Tr.pos_leaf l, Tr.pos_leaf r, posOf, e1, hm.comma, e2, Bool.false_eq_true, if_false, Tr.lp]
    simp [Nat.add_assoc]

/-- a tree's first units never count below the beginning -/
theorem Tr.pre_par : ∀ (t : Tr) (n : Nat) (o : Int), 0 ≤ o → ∃ o', o ≤ o' ∧ par ((t.units m0 m1).take n) o = some o'
  | .leaf _, 0, o, _ => ⟨o, Int.le_refl _, rfl⟩
  | .leaf _, n + 1, o, _ => ⟨o, Int.le_refl _, by
      have e1 : (("," : Str) == "(") = false := by decide
      have e2 : (("," : Str) == ")") = false := by decide
      simp [Tr.units, par, e1, e2]⟩
  | .node up l r, 0, o, _ => ⟨o, Int.le_refl _, rfl⟩
  | .node up l r, 1, o, _ => ⟨o + 1, by lia, by
      have e1 : (("(" : Str) == "(") = true := by decide
      simp [Tr.units, par, e1]⟩
  | .node up l r, n + 2, o, ho => by
    have hm : Mark (if up then m0 else m1) := by cases up <;> simp [h0, h1]
    have e1 : (("(" : Str) == "(") = true := by decide
    have hu : ((Tr.node up l r).units m0 m1).take (n + 2) = ("(" : Str) :: (if up then m0 else m1) :: (l.units m0 m1 ++ (r.units m0 m1 ++ [(")" : Str)])).take n := by simp [Tr.units]
    have hp : par (((Tr.node up l r).units m0 m1).take (n + 2)) o = par ((l.units m0 m1 ++ (r.units m0 m1 ++ [(")" : Str)])).take n) (o + 1) := by
      rw [hu]
      simp only [par, e1, if_true, hm.par.1, hm.par.2.1, Bool.false_eq_true, if_false]
    rw [hp]
    by_cases hl : n ≤ (l.units m0 m1).length
    · obtain ⟨o', h, e⟩ := Tr.pre_par l n (o + 1) (by lia)
      rw [List.take_append_of_le_length hl]
      exact ⟨o', by lia, e⟩
    · rw [List.take_append, List.take_of_length_le (by lia), (l.good h0 h1).2 (o + 1) (by lia)]
      generalize n - (l.units m0 m1).length = n'
      by_cases hr : n' ≤ (r.units m0 m1).length
      · obtain ⟨o', h, e⟩ := Tr.pre_par r n' (o + 1) (by lia)
        rw [List.take_append_of_le_length hr]
        exact ⟨o', by lia, e⟩
      · rw [List.take_append, List.take_of_length_le (by lia), (r.good h0 h1).2 (o + 1) (by lia)]
        refine ⟨o, Int.le_refl _, ?_⟩
        have : n' - (r.units m0 m1).length = (n' - (r.units m0 m1).length - 1) + 1 := by lia
        rw [this]
        have e2 : ((")" : Str) == "(") = false := by decide
        have e3 : ((")" : Str) == ")") = true := by decide
        simp only [List.take_succ_cons, List.take_nil, par, e2, e3, Bool.false_eq_true, if_false, if_true]
        rw [if_neg (by lia), show o + 1 - 1 = o by lia]
/-- within a bracket the count is above the beginning -/
theorem Tr.pre_node (up : Bool) (l r : Tr) (n : Nat) (hn : 1 ≤ n) (hn' : n < (Tr.node up l r).len) : ∃ o', 1 ≤ o' ∧ par (((Tr.node up l r).units m0 m1).take n) 0 = some o' := by
  have hm : Mark (if up then m0 else m1) := by cases up <;> simp [h0, h1]
  have e1 : (("(" : Str) == "(") = true := by decide
  match n, hn with
  | 1, _ => exact ⟨1, by lia, by simp [Tr.units, par, e1]⟩
  | n + 2, _ =>
    have hu : ((Tr.node up l r).units m0 m1).take (n + 2) = ("(" : Str) :: (if up then m0 else m1) :: (l.units m0 m1 ++ (r.units m0 m1 ++ [(")" : Str)])).take n := by simp [Tr.units]
    have hp : par (((Tr.node up l r).units m0 m1).take (n + 2)) 0 = par ((l.units m0 m1 ++ (r.units m0 m1 ++ [(")" : Str)])).take n) 1 := by
      rw [hu]
      simp only [par, e1, if_true, hm.par.1, hm.par.2.1, Bool.false_eq_true, if_false]
      rfl
    rw [hp]
    simp only [Tr.len] at hn'
    by_cases hl : n ≤ (l.units m0 m1).length
    · rw [List.take_append_of_le_length hl]
      exact Tr.pre_par h0 h1 l n 1 (by lia)
    · have ll := l.len_units m0 m1
      have lr := r.len_units m0 m1
      rw [List.take_append, List.take_of_length_le (by lia), (l.good h0 h1).2 1 (by lia)]
      rw [List.take_append_of_le_length (by lia)]
      exact Tr.pre_par h0 h1 r _ 1 (by lia)

theorem Tr.check_pre (t : Tr) (n : Nat) : check (Str.join "" ((t.units m0 m1).take n)) = (match par ((t.units m0 m1).take n) 0 with | some o => o == 0 | none => false) := by
  have g := t.good h0 h1
  exact check_units (fun u hu => (g.1 u (List.mem_of_mem_take hu)).1) fun u hu => (g.1 u (List.mem_of_mem_take hu)).2

omit h0 h1 in
theorem mateGo_eq {us : List Str} {h c : Nat} (hc : c < us.length) (hat : (at' us c == ")" && check (Str.join "" (slice us h (c + 1)))) = true) : ∀ (k t : Nat), t ≤ c → c - t < k →
    (∀ j, t ≤ j → j < c → (at' us j == ")" && check (Str.join "" (slice us h (j + 1)))) = false) → mateGo us h k t = c := by
  intro k
  induction k with
  | zero => intro t _ h; lia
  | succ k ih =>
    intro t ht hk hno
    simp only [mateGo]
    rw [if_pos (by lia)]
    by_cases e : t = c
    · subst e; rw [hat, if_pos rfl]
    · rw [hno t (Nat.le_refl _) (by lia), if_neg (by simp)]
      exact ih (t + 1) (by lia) (by lia) fun j a b => hno j (by lia) b

omit h0 h1 in
theorem at_mid {us A B : List Str} {u : Str} {i : Nat} (h : us = A ++ u :: B) (hi : i = A.length) : at' us i = u := by
  subst h hi; simp [at', List.getD]

theorem Tr.block_mate (t : Tr) {us A C : List Str} (h : us = A ++ (t.units m0 m1 ++ C)) : mateOf us A.length + 1 = A.length + t.len := by
  cases t with
  | leaf x =>
    have : at' us A.length = "," := at_mid (B := C) (by rw [h]; rfl) rfl
    unfold mateOf
    rw [this, show (("," : Str) == "(") = false by decide, if_neg (by simp)]
    rfl
  | node up l r =>
    generalize ht : Tr.node up l r = t at h ⊢
    have hlen : (t.units m0 m1).length = t.len := t.len_units m0 m1
    have hpos : t.len = 2 + l.len + r.len + 1 := by rw [← ht]; rfl
    have hfst : at' us A.length = "(" := at_mid (B := (if up then m0 else m1) :: (l.units m0 m1 ++ r.units m0 m1 ++ [(")" : Str)] ++ C)) (by rw [h, ← ht]; simp [Tr.units]) rfl
    have hlst : at' us (A.length + t.len - 1) = ")" := at_mid (A := A ++ ([("(" : Str), if up then m0 else m1] ++ l.units m0 m1 ++ r.units m0 m1)) (B := C) (by rw [h, ← ht]; simp [Tr.units])
      (by simp only [List.length_append, List.length_cons, List.length_nil, Tr.len_units]; lia)
    have hsl : ∀ n, n ≤ t.len → slice us A.length (A.length + n) = (t.units m0 m1).take n := fun n hn => by
      unfold slice
      rw [h, List.drop_left', show A.length + n - A.length = n by lia, List.take_append_of_le_length (by lia)]
      rfl
    unfold mateOf
    rw [hfst, show (("(" : Str) == "(") = true by decide, if_pos rfl]
    have : mate us A.length = A.length + t.len - 1 := by
      refine mateGo_eq (by rw [h]; simp only [List.length_append]; lia) ?_ _ _ (by lia) (by rw [h]; simp only [List.length_append]; lia) ?_
      · rw [hlst, show A.length + t.len - 1 + 1 = A.length + t.len by lia, hsl _ (Nat.le_refl _), List.take_of_length_le (by lia), Tr.whole h0 h1 t]
        decide
      · intro j hj hj'
        have : check (Str.join "" (slice us A.length (j + 1))) = false := by
          rw [show j + 1 = A.length + (j + 1 - A.length) by lia, hsl _ (by lia), Tr.check_pre h0 h1 t]
          obtain ⟨o', ho, e⟩ := Tr.pre_node h0 h1 up l r (j + 1 - A.length) (by lia) (by rw [ht]; lia)
          rw [ht] at e
          rw [e]
          simp; lia
        rw [this, Bool.and_false]
    lia

theorem Tr.brs_spec (hne : (m0 == m1) = false) : ∀ (t : Tr) (us A C : List Str), us = A ++ (t.units m0 m1 ++ C) → ∀ b ∈ t.brs A.length, mateOf us b.o = b.c ∧ mateOf us (b.o + 2) = b.e ∧ (at' us (b.o + 1) == m1) = !b.up
  | .leaf _, _, _, _, _, b, hb => by simp [Tr.brs] at hb
  | .node up l r, us, A, C, h, b, hb => by
    have hl : us = (A ++ [("(" : Str), if up then m0 else m1]) ++ (l.units m0 m1 ++ (r.units m0 m1 ++ ([(")" : Str)] ++ C))) := by rw [h]; simp [Tr.units]
    have hr : us = (A ++ [("(" : Str), if up then m0 else m1] ++ l.units m0 m1) ++ (r.units m0 m1 ++ ([(")" : Str)] ++ C)) := by rw [h]; simp [Tr.units]
    have la : (A ++ [("(" : Str), if up then m0 else m1]).length = A.length + 2 := by simp
    have lb : (A ++ [("(" : Str), if up then m0 else m1] ++ l.units m0 m1).length = A.length + 2 + l.len := by simp [Tr.len_units]; lia
    simp only [Tr.brs, List.mem_cons, List.mem_append] at hb
    rcases hb with rfl | hb | hb
    · have e1 := Tr.block_mate h0 h1 (.node up l r) h
      have e2 := Tr.block_mate h0 h1 l hl
      rw [la] at e2
      simp only [Tr.len] at e1
      refine ⟨by simp only; lia, by simp only; lia, ?_⟩
      have : at' us (A.length + 1) = (if up then m0 else m1) := at_mid (A := A ++ [("(" : Str)]) (B := l.units m0 m1 ++ (r.units m0 m1 ++ ([(")" : Str)] ++ C))) (by rw [h]; simp [Tr.units]) (by simp)
      simp only [this]
      cases up with
      | true => simpa using hne
      | false => simp
    · exact Tr.brs_spec hne l us _ _ hl b (by rw [la]; exact hb)
    · exact Tr.brs_spec hne r us _ _ hr b (by rw [lb]; exact hb)
end

/- the heights as a tree's sums, and their order -/
noncomputable def wOf (up : Bool) (k : Nat) : Nat := if up then 2 * k + 2 else 2 * k + 3
noncomputable def sumB (B : Int) (x : Nat) : Nat → List Br → Int × Int
  | _, [] => (0, 0)
  | k, b :: bs => if b.e < x ∧ x < b.c then (B ^ (12 - wOf b.up k) + (sumB B x (k + 1) bs).1, (-1) ^ wOf b.up k * B ^ (12 - wOf b.up k) + (sumB B x (k + 1) bs).2) else sumB B x (k + 1) bs
theorem sumB_append (B : Int) (x : Nat) : ∀ (a b : List Br) (k : Nat), sumB B x k (a ++ b) = ((sumB B x k a).1 + (sumB B x (k + a.length) b).1, (sumB B x k a).2 + (sumB B x (k + a.length) b).2)
  | [], b, k => by simp [sumB]
  | y :: a, b, k => by
    have ih := sumB_append B x a b (k + 1)
    rw [show k + 1 + a.length = k + (y :: a).length by simp; lia] at ih
    simp only [List.cons_append, sumB, ih]
    split
    · simp only [Int.add_assoc]
    · rfl
theorem sumB_none (B : Int) (x : Nat) : ∀ (a : List Br) (k : Nat), (∀ b ∈ a, ¬ (b.e < x ∧ x < b.c)) → sumB B x k a = (0, 0)
  | [], _, _ => rfl
  | y :: a, k, h => by
    simp only [sumB]
    rw [if_neg (h y (by simp)), sumB_none B x a (k + 1) fun b hb => h b (by simp [hb])]

theorem pairGo_sum {us : List Str} {m1 : Str} {B : Int} {x : Nat} {bs : List Br} (ho : opensL us = bs.map (·.o)) (hs : ∀ b ∈ bs, mateOf us b.o = b.c ∧ mateOf us (b.o + 2) = b.e ∧ (at' us (b.o + 1) == m1) = !b.up) :
    ∀ (j k : Nat) (p : Int × Int), k + j = bs.length → pairGo us m1 B x j k p = (p.1 + (sumB B x k (bs.drop k)).1, p.2 + (sumB B x k (bs.drop k)).2) := by
  intro j
  induction j with
  | zero =>
    intro k p h
    rw [List.drop_of_length_le (by lia)]
    simp [pairGo, sumB]
  | succ j ih =>
    intro k p h
    have hk : k < bs.length := by lia
    have hb := hs bs[k] (List.getElem_mem hk)
    have ek : (opensL us).getD k 0 = bs[k].o := by rw [ho]; simp [List.getD, hk]
    have hp : powOf us m1 bs[k].o k = wOf bs[k].up k := by
      unfold powOf wOf
      rw [hb.2.2]
      cases bs[k].up <;> rfl
    rw [List.drop_eq_getElem_cons hk]
    simp only [pairGo, sumB]
    rw [ih (k + 1) _ (by lia)]
    simp only [stepP, ek, hb.1, hb.2.1, hp]
    split
    · simp only [Int.add_assoc]
    · rfl

noncomputable def Tr.hts (B : Int) : Nat → Tr → List (Int × Int)
  | _, .leaf _ => [(0, 0)]
  | k, .node up l r => l.hts B (k + 1) ++ (r.hts B (k + 1 + l.size)).map fun p => (B ^ (12 - wOf up k) + p.1, (-1) ^ wOf up k * B ^ (12 - wOf up k) + p.2)
theorem Tr.hts_len (B : Int) : ∀ (t : Tr) (k : Nat), (t.hts B k).length = t.leaves.length
  | .leaf _, _ => rfl
  | .node up l r, k => by simp [Tr.hts, Tr.leaves, Tr.hts_len B l, Tr.hts_len B r]
theorem Tr.lp_sum (B : Int) : ∀ (t : Tr) (o k : Nat), (t.lp o).map (fun x => sumB B x k (t.brs o)) = t.hts B k
  | .leaf _, _, _ => rfl
  | .node up l r, o, k => by
    simp only [Tr.lp, Tr.hts, List.map_append]
    have cons : ∀ x, sumB B x k ((Tr.node up l r).brs o) = if o + 1 + l.len < x ∧ x < o + 2 + l.len + r.len then (B ^ (12 - wOf up k) + ((sumB B x (k + 1) (l.brs (o + 2))).1 + (sumB B x (k + 1 + l.size) (r.brs (o + 2 + l.len))).1), (-1) ^ wOf up k * B ^ (12 - wOf up k) + ((sumB B x (k + 1) (l.brs (o + 2))).2 + (sumB B x (k + 1 + l.size) (r.brs (o + 2 + l.len))).2)) else ((sumB B x (k + 1) (l.brs (o + 2))).1 + (sumB B x (k + 1 + l.size) (r.brs (o + 2 + l.len))).1, (sumB B x (k + 1) (l.brs (o + 2))).2 + (sumB B x (k + 1 + l.size) (r.brs (o + 2 + l.len))).2) := fun x => by
      simp only [Tr.brs, sumB, sumB_append, Tr.brs_len]
    congr 1
    · rw [← Tr.lp_sum B l (o + 2) (k + 1)]
      refine List.map_congr_left fun x hx => ?_
      have h1 := Tr.lp_in l _ x hx
      rw [cons, if_neg (by lia), sumB_none B x (r.brs (o + 2 + l.len)) _ fun b hb => by have := Tr.brs_in r _ b hb; lia]
      simp
    · rw [← Tr.lp_sum B r (o + 2 + l.len) (k + 1 + l.size), List.map_map]
      refine List.map_congr_left fun x hx => ?_
      have h1 := Tr.lp_in r _ x hx
      rw [cons, if_pos (by lia), sumB_none B x (l.brs (o + 2)) _ fun b hb => by have := Tr.brs_in l _ b hb; lia]
      simp

theorem Tr.heights_eq {m0 m1 : Str} (h0 : Mark m0) (h1 : Mark m1) (hne : (m0 == m1) = false) (B : Int) (t : Tr) : heightsOf (t.units m0 m1) m1 B = t.hts B 0 := by
  have hs := Tr.brs_spec h0 h1 hne t (t.units m0 m1) [] [] (by simp)
  have ho : opensL (t.units m0 m1) = (t.brs 0).map (·.o) := by
    unfold opensL; rw [posOf_range0 (· == "("), Tr.pos_open h0 h1]
  have hl : leafL (t.units m0 m1) = t.lp 0 := by
    unfold leafL; rw [posOf_range0 (· == ","), Tr.pos_leaf h0 h1]
  unfold heightsOf
  rw [hl, ← Tr.lp_sum B t 0 0]
  refine List.map_congr_left fun x hx => ?_
  unfold pairOf
  rw [pairGo_sum ho hs _ 0 (0, 0) (by rw [ho]; simp)]
  simp

theorem Tr.hok {m0 m1 : Str} (h0 : Mark m0) (h1 : Mark m1) (t : Tr) (hs : t.size ≤ 5) : HOk (t.units m0 m1) := by
  have ho : opensL (t.units m0 m1) = (t.brs 0).map (·.o) := by
    unfold opensL; rw [posOf_range0 (· == "("), Tr.pos_open h0 h1]
  refine ⟨by rw [Tr.len_units, Tr.len_size]; lia, by rw [ho, List.length_map, Tr.brs_len]; exact hs, fun o h => ?_, fun u hu => ?_⟩
  · rw [ho] at h
    obtain ⟨b, hb, rfl⟩ := List.mem_map.mp h
    have := Tr.brs_in t 0 b hb
    rw [Tr.len_units]; lia
  · rcases ((t.good h0 h1).1 u hu).1 with ⟨c, rfl, _⟩ | ⟨c, rfl⟩ <;> simp [Str.length]

/-- all that brackets can sum to -/
noncomputable def GG (B : Int) : Nat → Nat → Int
  | _, 0 => 0
  | k, n + 1 => B ^ (10 - 2 * k) + GG B (k + 1) n
theorem GG_append (B : Int) : ∀ (a b k : Nat), GG B k (a + b) = GG B k a + GG B (k + a) b
  | 0, b, k => by simp [GG]
  | a + 1, b, k => by
    rw [show a + 1 + b = (a + b) + 1 by lia]
    simp only [GG, GG_append B a b (k + 1)]
    rw [show k + 1 + a = k + (a + 1) by lia, Int.add_assoc]
theorem pow_pos' {B : Int} (hB : 2 ≤ B) (n : Nat) : 0 < B ^ n := Int.pow_pos (by lia)
theorem GG_nonneg {B : Int} (hB : 2 ≤ B) : ∀ (n k : Nat), 0 ≤ GG B k n
  | 0, _ => Int.le_refl _
  | n + 1, k => by
    have := pow_pos' hB (10 - 2 * k)
    have := GG_nonneg hB n (k + 1)
    simp only [GG]; lia
theorem pow_twice {B : Int} (hB : 2 ≤ B) (n : Nat) : 2 * B ^ n ≤ B ^ (n + 1) := by
  rw [Int.pow_succ, Int.mul_comm 2]
  exact Int.mul_le_mul_of_nonneg_left hB (Int.le_of_lt (pow_pos' hB n))
theorem pow_mono' {B : Int} (hB : 2 ≤ B) (n : Nat) : B ^ n ≤ B ^ (n + 1) := by
  have := pow_twice hB n
  have := pow_pos' hB n
  lia
theorem GG_lt {B : Int} (hB : 2 ≤ B) : ∀ (n k : Nat), k + n ≤ 5 → GG B k n < B ^ (11 - 2 * k)
  | 0, k, _ => pow_pos' hB _
  | n + 1, k, h => by
    have ih := GG_lt hB n (k + 1) (by lia)
    simp only [GG]
    have e1 : 11 - 2 * (k + 1) = 9 - 2 * k := by lia
    have e2 : 10 - 2 * k = (9 - 2 * k) + 1 := by lia
    have e3 : 11 - 2 * k = (10 - 2 * k) + 1 := by lia
    rw [e1] at ih
    have a1 := pow_mono' hB (9 - 2 * k)
    have a2 := pow_twice hB (10 - 2 * k)
    rw [← e2] at a1
    rw [e3]; lia

theorem sign_w (up : Bool) (k : Nat) : (-1 : Int) ^ wOf up k = if up then 1 else -1 := by
  cases up
  · rw [show wOf false k = 2 * (k + 1) + 1 by unfold wOf; simp only [Bool.false_eq_true, if_false]; lia, Int.pow_succ, Int.pow_mul]; simp [Int.one_pow]
  · rw [show wOf true k = 2 * (k + 1) by unfold wOf; simp only [if_true]; lia, Int.pow_mul]; simp [Int.one_pow]
theorem pow_w {B : Int} (hB : 2 ≤ B) (up : Bool) (k : Nat) (hk : k ≤ 4) : B ^ (9 - 2 * k) ≤ B ^ (12 - wOf up k) ∧ B ^ (12 - wOf up k) ≤ B ^ (10 - 2 * k) := by
  have a1 := pow_mono' hB (9 - 2 * k)
  rw [show 9 - 2 * k + 1 = 10 - 2 * k by lia] at a1
  cases up
  · rw [show 12 - wOf false k = 9 - 2 * k by unfold wOf; simp only [Bool.false_eq_true, if_false]; lia]; lia
  · rw [show 12 - wOf true k = 10 - 2 * k by unfold wOf; simp only [if_true]; lia]; lia

theorem Tr.hts_bound {B : Int} (hB : 2 ≤ B) : ∀ (t : Tr) (k : Nat), k + t.size ≤ 5 → ∀ p ∈ t.hts B k, 0 ≤ p.1 ∧ p.1 ≤ GG B k t.size ∧ -p.1 ≤ p.2 ∧ p.2 ≤ p.1
  | .leaf _, k, _, p, hp => by
    simp only [Tr.hts, List.mem_singleton] at hp
    subst hp
    exact ⟨Int.le_refl _, Int.le_refl _, by decide, Int.le_refl _⟩
  | .node up l r, k, h, p, hp => by
    simp only [Tr.size] at h
    have e : GG B k (Tr.node up l r).size = B ^ (10 - 2 * k) + (GG B (k + 1) l.size + GG B (k + 1 + l.size) r.size) := by
      rw [show (Tr.node up l r).size = (l.size + r.size) + 1 by simp [Tr.size]; lia]
      simp only [GG]; rw [GG_append]
    have n1 := GG_nonneg hB l.size (k + 1)
    have n2 := GG_nonneg hB r.size (k + 1 + l.size)
    have n3 := pow_pos' hB (10 - 2 * k)
    have n4 := pow_pos' hB (12 - wOf up k)
    have n5 := (pow_w hB up k (by lia)).2
    rw [e]
    simp only [Tr.hts, List.mem_append, List.mem_map] at hp
    rcases hp with hp | ⟨q, hq, rfl⟩
    · have := Tr.hts_bound hB l (k + 1) (by lia) p hp; lia
    · have := Tr.hts_bound hB r (k + 1 + l.size) (by lia) q hq
      simp only [sign_w]
      cases up <;> simp only [Bool.false_eq_true, if_false, if_true] <;> lia

/-- at one the sums rise -/
theorem Tr.hts_rise {B : Int} (hB : 2 ≤ B) : ∀ (t : Tr) (k : Nat), k + t.size ≤ 5 → (t.hts B k).Pairwise fun p q => p.1 < q.1
  | .leaf _, k, _ => by simp [Tr.hts]
  | .node up l r, k, h => by
    simp only [Tr.size] at h
    simp only [Tr.hts]
    refine List.pairwise_append.mpr ⟨Tr.hts_rise hB l (k + 1) (by lia), ?_, ?_⟩
    · refine List.pairwise_map.mpr ((Tr.hts_rise hB r (k + 1 + l.size) (by lia)).imp fun h => ?_)
      simp only; lia
    · intro p hp q hq
      obtain ⟨q', hq', rfl⟩ := List.mem_map.mp hq
      have b1 := Tr.hts_bound hB l (k + 1) (by lia) p hp
      have b2 := Tr.hts_bound hB r (k + 1 + l.size) (by lia) q' hq'
      have g1 := GG_lt hB l.size (k + 1) (by lia)
      rw [show 11 - 2 * (k + 1) = 9 - 2 * k by lia] at g1
      have g2 := (pow_w hB up k (by lia)).1
      simp only; lia

/-- at minus one they stand as the ranks do -/
theorem Tr.hts_signed {B : Int} (hB : 2 ≤ B) : ∀ {t : Tr} {a b : Nat} (h : TI t a b) (k : Nat), k + t.size ≤ 5 → (t.leaves.zip (t.hts B k)).Pairwise fun p q => (p.1 < q.1 ∧ p.2.2 < q.2.2) ∨ (q.1 < p.1 ∧ q.2.2 < p.2.2) := by
  have zl : ∀ (l r : Tr) (up : Bool) (k : Nat), (Tr.node up l r).leaves.zip ((Tr.node up l r).hts B k) = l.leaves.zip (l.hts B (k + 1)) ++ (r.leaves.zip (r.hts B (k + 1 + l.size))).map fun q => (q.1, (B ^ (12 - wOf up k) + q.2.1, (-1) ^ wOf up k * B ^ (12 - wOf up k) + q.2.2)) := by
    intro l r up k
    simp only [Tr.leaves, Tr.hts]
    rw [List.zip_append (Tr.hts_len B l (k + 1)).symm, List.zip_map_right]
    rfl
  have zm : ∀ (t : Tr) (k : Nat) (q : Nat × Int × Int), q ∈ t.leaves.zip (t.hts B k) → q.1 ∈ t.leaves ∧ q.2 ∈ t.hts B k := fun t k q hq => List.of_mem_zip (a := q.1) (b := q.2) hq
  have shift : ∀ (r : Tr) (up : Bool) (k j : Nat), (r.leaves.zip (r.hts B j)).Pairwise (fun p q => (p.1 < q.1 ∧ p.2.2 < q.2.2) ∨ (q.1 < p.1 ∧ q.2.2 < p.2.2)) →
      ((r.leaves.zip (r.hts B j)).map fun q : Nat × Int × Int => (q.1, (B ^ (12 - wOf up k) + q.2.1, (-1) ^ wOf up k * B ^ (12 - wOf up k) + q.2.2))).Pairwise (fun p q => (p.1 < q.1 ∧ p.2.2 < q.2.2) ∨ (q.1 < p.1 ∧ q.2.2 < p.2.2)) := by
    intro r up k j h
    refine List.pairwise_map.mpr (h.imp fun h => ?_)
    simp only; lia
  have bound : ∀ (l r : Tr) (k : Nat), k + (1 + l.size + r.size) ≤ 5 → ∀ (up : Bool) (p q : Int × Int), p ∈ l.hts B (k + 1) → q ∈ r.hts B (k + 1 + l.size) → p.1 + q.1 < B ^ (12 - wOf up k) ∧ -p.1 ≤ p.2 ∧ p.2 ≤ p.1 ∧ -q.1 ≤ q.2 ∧ q.2 ≤ q.1 := by
    intro l r k h up p q hp hq
    have b1 := Tr.hts_bound hB l (k + 1) (by lia) p hp
    have b2 := Tr.hts_bound hB r (k + 1 + l.size) (by lia) q hq
    have g0 := GG_append B l.size r.size (k + 1)
    have g1 := GG_lt hB (l.size + r.size) (k + 1) (by lia)
    rw [show 11 - 2 * (k + 1) = 9 - 2 * k by lia] at g1
    have g2 := (pow_w hB up k (by lia)).1
    lia
  intro t a b h
  induction h with
  | leaf r => intro k _; simp [Tr.leaves, Tr.hts]
  | up hl hr ih1 ih2 =>
    rename_i l r a b c
    intro k h
    simp only [Tr.size] at h
    rw [zl]
    refine List.pairwise_append.mpr ⟨ih1 (k + 1) (by lia), shift r true k _ (ih2 _ (by lia)), fun p hp q hq => ?_⟩
    obtain ⟨q', hq', rfl⟩ := List.mem_map.mp hq
    obtain ⟨p1, p2⟩ := zm l _ p hp
    obtain ⟨q1, q2⟩ := zm r _ q' hq'
    have := bound l r k h true _ _ p2 q2
    have := hl.mem p1
    have := hr.mem q1
    left
    simp only [sign_w, if_true]
    lia
  | down hl hr ih1 ih2 =>
    rename_i l r a b c
    intro k h
    simp only [Tr.size] at h
    rw [zl]
    refine List.pairwise_append.mpr ⟨ih1 (k + 1) (by lia), shift r false k _ (ih2 _ (by lia)), fun p hp q hq => ?_⟩
    obtain ⟨q', hq', rfl⟩ := List.mem_map.mp hq
    obtain ⟨p1, p2⟩ := zm l _ p hp
    obtain ⟨q1, q2⟩ := zm r _ q' hq'
    have := bound l r k h false _ _ p2 q2
    have := hl.mem p1
    have := hr.mem q1
    right
    simp only [sign_w, Bool.false_eq_true, if_false]
    lia

section
variable {R : RT} {σ : Sto} {a : Addr} {code : Value} {d : Nat} {fm : Fm}

inductive PairsR (σ : Sto) : List Nat → List (Int × Int) → Prop
  | nil : PairsR σ [] []
  | cons {n ns p ps} : σ n = some (.lst [.int p.1, .int p.2]) → PairsR σ ns ps → PairsR σ (n :: ns) (p :: ps)
theorem PairsR.map {σ σ' : Sto} {ns : List Nat} {ps : List (Int × Int)} (h : PairsR σ ns ps) (k : ∀ n (p : Int × Int), σ n = some (.lst [.int p.1, .int p.2]) → σ' n = some (.lst [.int p.1, .int p.2])) : PairsR σ' ns ps := by
  induction h with
  | nil => exact .nil
  | cons a _ ih => exact .cons (k _ _ a) ih
theorem PairsR.snoc {σ : Sto} {ns : List Nat} {ps : List (Int × Int)} {n : Nat} {p : Int × Int} (h : PairsR σ ns ps) (hn : σ n = some (.lst [.int p.1, .int p.2])) : PairsR σ (ns ++ [n]) (ps ++ [p]) := by
  induction h with
  | nil => exact .cons hn .nil
  | cons a _ ih => exact .cons a ih
theorem PairsR.length {σ : Sto} {ns : List Nat} {ps : List (Int × Int)} (h : PairsR σ ns ps) : ns.length = ps.length := by
  induction h with
  | nil => rfl
  | cons _ _ ih => simp [ih]
theorem PairsR.get {σ : Sto} {ns : List Nat} {ps : List (Int × Int)} (h : PairsR σ ns ps) : ∀ {i : Nat}, i < ps.length → ∃ n, (refs ns)[i]? = some (.lst n) ∧ σ n = some (.lst [.int (ps.getD i (0, 0)).1, .int (ps.getD i (0, 0)).2]) := by
  induction h with
  | nil => intro i hi; simp at hi
  | cons a _ ih =>
    intro i hi
    match i with
    | 0 => exact ⟨_, rfl, by simpa using a⟩
    | i + 1 =>
      obtain ⟨n, h1, h2⟩ := ih (i := i) (by simpa using hi)
      exact ⟨n, by simpa [refs] using h1, by simpa using h2⟩

noncomputable def hLoc (cu : Nat) (m1 : Str) (B : Int) (nm no nh : Nat) : Loc := [("units", .cel cu), ("below", .val (.str m1)), ("base", .val (.int B)), ("mates", .val (.lst nm)), ("opens", .val (.lst no)), ("heights", .val (.lst nh))]

theorem l_leaf {cu nu nm no nh : Nat} {us : List Str} {m1 : Str} {B : Int} {env : Env} {K : Out → St → Prop} (glen : GlobV R "len" (.builtin "len")) (grange : GlobV R "range" (.type "range")) (ok : HOk us) (hB0 : 0 ≤ B) (hB : B < 128)
    (n1 : cu ≠ nh) (n2 : nu ≠ nh) (n3 : nm ≠ nh) (n4 : no ≠ nh) : ∀ (j lo : Nat) (ns : List Nat) (ps : List (Int × Int)) (σ : Sto), lo + j = us.length → σ nh = some (.lst (refs ns)) → PairsR σ ns ps → ns.length ≤ lo →
      σ cu = some (.cel (some (.lst nu))) → σ nu = some (.lst (strL us)) → σ nm = some (.lst (matesL us)) → σ no = some (.lst (natsL (opensL us))) →
      (∀ σ' ns', σ' nh = some (.lst (refs ns')) → PairsR σ' ns' (ps ++ ((List.range' lo j).filter fun k => at' us k == ",").map (pairOf us m1 B)) → ExtBut nh σ σ' → K .next ⟨hLoc cu m1 B nm no nh, σ'⟩) →
      Fl R (d + 2) ⟨fnS (stm 19), env⟩ (forT hF) (.rng lo (us.length : Nat)) (forB hF) ⟨hLoc cu m1 B nm no nh, σ⟩ K := by
  have len3 : (strL us).length < 1048576 := by have := ok.len; simp [strL]; lia
  have len2 : (natsL (opensL us)).length < 1048576 := by have := ok.opens; simp [natsL]; lia
  have len4 : (natsL (opensL us)).length = (opensL us).length := by simp [natsL]
  intro j
  induction j with
  | zero =>
    intro lo ns ps σ h hh hps hl hcu hu hm ho hK
    exact Fl.step (.rng_none (by lia)) (hK σ ns hh (by simpa using hps) (ExtBut.refl _ _))
  | succ j ih =>
    intro lo ns ps σ h hh hps hl hcu hu hm ho hK
    have hu1 := at_get (l := us) (i := lo) (by lia)
    have h60 := ok.len
    refine Fl.step (.rng_some (by lia)) ?_
    unfold hLoc
    refine asg_loc rfl (by wtm_at "m_upd") ?_
    refine Exs.cons (Ex.ite ?_)
    repeat' wtm_at "mm"
    refine Opr.getItem hu (by lia) (v := .str (at' us lo)) hu1 len3 ?_
    repeat' wtm_at "mm"
    cases hc : (at' us lo == ",") with
    | false =>
      dsimp only
      repeat' wtm_at "mm"
      refine Fl.drop (ρ' := hLoc cu m1 B nm no nh) ⟨_, rfl⟩ (ih (lo + 1) ns ps σ (by lia) hh hps (by lia) hcu hu hm ho ?_)
      simpa [List.range'_succ, List.filter_cons, hc] using hK
    | true =>
      dsimp only
      repeat' wtm_at "mm"
      refine ⟨by simp, fun np hp => ?_⟩
      have ne : ∀ {k c}, σ k = some c → k ≠ np := fun {k c} e q => by rw [q, hp] at e; cases e
      have ho' : ∀ c, (σ.upd np c) no = some (.lst (natsL (opensL us))) := fun c => by rw [upd_ne (ne ho)]; exact ho
      have ho1 := ho' (.lst [.int 0, .int 0])
      repeat' wtm_at "mm"
      refine Ex.for ?_
      repeat' wtm_at "mm"
      refine Calls.len_lst ho1 len2 ?_ (by lia)
      repeat' wtm_at "mm"
      refine Calls.range1 ?_
      have h5 := ok.opens
      rw [len4]
      refine ⟨_, .rng (by lia) (by lia) (by lia) (by lia) (by lia), ?_⟩
      refine l_pair ok hB0 hB hcu hu hm ho hp (opensL us).length 0 (0, 0) (by lia) ?_
      have hq : pairGo us m1 B lo (opensL us).length 0 (0, 0) = pairOf us m1 B lo := rfl
      rw [hq]
      unfold pairLoc
      have hh' : (σ.upd np (.lst [.int (pairOf us m1 B lo).1, .int (pairOf us m1 B lo).2])) nh = some (.lst (refs ns)) := by rw [upd_ne (ne hh)]; exact hh
      repeat' wtm_at "mm"
      refine Calls.append hh' (by simp [refs]; lia) ?_
      generalize hσ : (σ.upd np (.lst [.int (pairOf us m1 B lo).1, .int (pairOf us m1 B lo).2])) = σ₁ at hh' ⊢
      have x1 : Ext σ σ₁ := by rw [← hσ]; exact (Ext.refl σ).upd hp
      have gp : σ₁ np = some (.lst [.int (pairOf us m1 B lo).1, .int (pairOf us m1 B lo).2]) := by rw [← hσ]; exact Sto.upd_self ..
      have keep : ∀ n (p : Int × Int), σ₁ n = some (.lst [.int p.1, .int p.2]) → (σ₁.upd nh (.lst (refs ns ++ [.lst np]))) n = some (.lst [.int p.1, .int p.2]) := fun n p e => by
        have : n ≠ nh := fun q => by
          rw [q, hh'] at e
          cases ns with
          | nil => simp [refs] at e
          | cons x r => simp [refs] at e
        rw [upd_ne this]; exact e
      have hps' := ((hps.map (σ' := σ₁) fun n p e => x1 _ _ e).map keep).snoc (keep _ _ gp)
      have x2 : ExtBut nh σ (σ₁.upd nh (.lst (refs ns ++ [.lst np]))) := x1.but.upd
      repeat' wtm_at "mm"
      refine Fl.drop (ρ' := hLoc cu m1 B nm no nh) ⟨_, rfl⟩ (ih (lo + 1) (ns ++ [np]) _ _ (by lia) (by rw [Sto.upd_self]; simp [refs]) hps' (by simp; lia) (x2 _ _ n1 hcu) (x2 _ _ n2 hu) (x2 _ _ n3 hm) (x2 _ _ n4 ho) ?_)
      intro σ' ns' k1 k2 k3
      refine hK σ' ns' k1 ?_ (x2.trans k3)
      simpa [List.range'_succ, List.filter_cons, hc] using k2
end

section
variable {R : RT} {σ : Sto} {a : Addr} {code : Value} {d : Nat} {fm : Fm}

theorem ExtBut.of_upd {σ σ' : Sto} {n : Nat} {c : Cell} (x : ExtBut n (σ.upd n c) σ') (h : σ n = none) : Ext σ σ' := fun k d e => by
  have hk : k ≠ n := fun q => by rw [q, h] at e; cases e
  exact x k d hk (by rw [upd_ne hk]; exact e)
theorem bok3' {i : Nat} {x y z : Str} (h : ∀ fd : FuncData, fd.params = fnP (stm i) → fd.defaults = .none → ∀ v w u, bindArgs fd ⟨[v, w, u], []⟩ = pure [(x, v), (y, w), (z, u)]) : BindOk i 3 [x, y, z] := bok3 h

noncomputable def hC (i : Nat) : PySem.Expr := match (fnB (stm 19))[i]? with | some (.Assign _ e _) => e | _ => .Constant .none 0 default

theorem c_heights {nu : Nat} {us : List Str} {m1 : Str} {B : Int} {a1 a2 a3 a18 a19 : Addr} {c2 c3 c18 : Value} (T : Top0 R) (D : DefIs R 19 a19 code) (D18 : DefIs R 18 a18 c18) (D3 : DefIs R 3 a3 c3) (D2 : DefIs R 2 a2 c2) (G : GDef R a1) (gi : GlobV R "_iter_escaped_chars" (.ref a1)) (glen : GlobV R "len" (.builtin "len")) (grange : GlobV R "range" (.type "range"))
    (ok : HOk us) (hB0 : 0 ≤ B) (hB : B < 128) (hu : σ nu = some (.lst (strL us))) :
    Calls R (d + 6) (.raw (.ref a19)) [.lst nu, .str m1, .int B] [] σ fun v σ' => ∃ nh ns, v = .lst nh ∧ σ' nh = some (.lst (refs ns)) ∧ PairsR σ' ns (heightsOf us m1 B) ∧ Ext σ σ' := by
  have g18 : GlobV R "_law_mate" (.ref a18) := D18.glob
  have h60 := ok.len
  have len3 : (strL us).length < 1048576 := by simp [strL]; lia
  have len4 : (strL us).length = us.length := by simp [strL]
  refine Calls.def_ (names := ["units", "below", "base"]) T D (bok3 fun fd hp hd v w u => by unfold bindArgs; rw [hp, hd]; rfl) rfl ?_
  intro cu hcu env he
  have hc0 : (σ.upd cu (.cel none)) cu = some (.cel none) := Sto.upd_self ..
  iterate 3 wtm_at "m_bind"
  rw [Sto.upd_upd]
  have x0 : Ext σ (σ.upd cu (.cel (some (.lst nu)))) := (Ext.refl σ).upd hcu
  have gcu : (σ.upd cu (.cel (some (.lst nu)))) cu = some (.cel (some (.lst nu))) := Sto.upd_self ..
  generalize (σ.upd cu (.cel (some (.lst nu)))) = σ₀ at x0 gcu ⊢
  have gu := x0 _ _ hu
  refine Exs.cons ?_
  refine Ex.assign_comp (ρ' := [("units", .cel cu)]) (by wtm_at "m_cap") (by wtm_at "m_kinds") ?_ (by wtm_at "m_swaps")
  repeat' wtm_at "mm"
  refine Calls.len_lst gu len3 ?_ (by lia)
  rw [len4]
  repeat' wtm_at "mm"
  refine Calls.range1 ?_
  refine ⟨_, .rng (by lia) (by lia) (by lia) (by lia) (by lia), fun nm env' hnm => ?_⟩
  refine cl_all (xs := List.range' 0 us.length) (val := fun (k : Nat) => AV.int (k : Int)) (p := fun _ => true) (f := fun k => AV.int (mateOf us k : Nat)) (by with_unfolding_all rfl) (fun v => by simp only [List.cons_append, List.nil_append]; wtm_at "m_upd") ?_ ?_ _ _ [] _ (fun _ h => h) (Gives.rng us.length 0 us.length (by lia)) (ExtBut.refl _ _) (Sto.upd_self ..) (by simp; lia) ?_
  · intro k hk σ₂ KK hx hKK
    exact hKK _ (Ext.refl _)
  · intro k hk _ σ₂ KK hx hKK
    simp only [List.cons_append, List.nil_append] at hKK ⊢
    have hk' : k < us.length := by have := List.mem_range'_1.mp hk; lia
    have x2 := hx.of_upd hnm
    have gcu2 := x2 _ _ gcu
    have gu2 := x2 _ _ gu
    have hu1 := at_get (l := us) (i := k) hk'
    refine Ev.ifexp ?_
    repeat' wtm_at "mm"
    refine Opr.getItem gu2 (by lia) (v := .str (at' us k)) hu1 len3 ?_
    repeat' wtm_at "mm"
    cases hc : (at' us k == "(") with
    | true =>
      dsimp only
      repeat' wtm_at "mm"
      refine (c_mate T D18 D3 D2 G gi glen ok.short ok.len gu2 hk').mono fun v σ₃ hq => ?_
      obtain ⟨rfl, hx3⟩ := hq
      have e : mateOf us k = mate us k := by simp [mateOf, hc]
      rw [← e]
      exact hKK _ hx3
    | false =>
      dsimp only
      repeat' wtm_at "mm"
      have e : mateOf us k = k := by simp [mateOf, hc]
      have := hKK _ (Ext.refl _)
      rw [e] at this
      exact this
  intro σ₁ hx1 hm1
  have x1 := x0.trans (hx1.of_upd hnm)
  have gcu1 := hx1.of_upd hnm _ _ gcu
  have gu1 := x1 _ _ hu
  have em : ([] ++ ((List.range' 0 us.length).filter fun _ => true).map fun k => AV.int (mateOf us k : Nat)) = matesL us := by
    rw [List.filter_eq_self.mpr (fun _ _ => rfl), List.nil_append, matesL, List.range_eq_range']
  rw [em] at hm1
  generalize hnm = hnm at *
  clear hx1 em hc0
  clear x0 gcu gu
  repeat' wtm_at "m_bind"
  refine Exs.cons ?_
  refine Ex.assign_comp (ρ' := [("units", .cel cu)]) (by wtm_at "m_cap") (by wtm_at "m_kinds") ?_ (by wtm_at "m_swaps")
  repeat' wtm_at "mm"
  refine Calls.len_lst gu1 len3 ?_ (by lia)
  rw [len4]
  repeat' wtm_at "mm"
  refine Calls.range1 ?_
  refine ⟨_, .rng (by lia) (by lia) (by lia) (by lia) (by lia), fun no env' hno => ?_⟩
  refine cl_all (xs := List.range' 0 us.length) (val := fun (k : Nat) => AV.int (k : Int)) (p := fun k => at' us k == "(") (f := fun (k : Nat) => AV.int (k : Int)) (by with_unfolding_all rfl) (fun v => by simp only [List.cons_append, List.nil_append]; wtm_at "m_upd") ?_ ?_ _ _ [] _ (fun _ h => h) (Gives.rng us.length 0 us.length (by lia)) (ExtBut.refl _ _) (Sto.upd_self ..) (by simp; lia) ?_
  · intro k hk σ₂ KK hx hKK
    simp only [List.cons_append, List.nil_append] at hKK ⊢
    have hk' : k < us.length := by have := List.mem_range'_1.mp hk; lia
    have x2 := hx.of_upd hno
    have gcu2 := x2 _ _ gcu1
    have gu2 := x2 _ _ gu1
    have hu1 := at_get (l := us) (i := k) hk'
    refine Tst.cmp (Nat.le_add_left 2 _) ?_
    repeat' wtm_at "mm"
    refine Opr.getItem gu2 (by lia) (v := .str (at' us k)) hu1 len3 ?_
    repeat' wtm_at "mm"
    exact hKK _ (Ext.refl _)
  · intro k hk _ σ₂ KK hx hKK
    simp only [List.cons_append, List.nil_append] at hKK ⊢
    repeat' wtm_at "mm"
    exact hKK _ (Ext.refl _)
  intro σ₂ hx2 hm2
  have x12 := hx2.of_upd hno
  have x2 := x1.trans x12
  have gcu2 := x12 _ _ gcu1
  have gu2 := x12 _ _ gu1
  have gm2 := x12 _ _ hm1
  have eo : ([] ++ ((List.range' 0 us.length).filter fun k => at' us k == "(").map fun (k : Nat) => AV.int (k : Int)) = natsL (opensL us) := by
    rw [List.nil_append, natsL, opensL, List.range_eq_range']
  rw [eo] at hm2
  clear hx2 eo x12 hm1 gcu1 gu1 x1
  repeat' wtm_at "mm"
  refine ⟨by simp, fun nh hnh => ?_⟩
  have ne : ∀ {k c}, σ₂ k = some c → k ≠ nh := fun {k c} e q => by rw [q, hnh] at e; cases e
  have x3 : Ext σ₂ (σ₂.upd nh (.lst [])) := (Ext.refl σ₂).upd hnh
  have gh3 : (σ₂.upd nh (.lst [])) nh = some (.lst (refs [])) := Sto.upd_self ..
  have n1 := ne gcu2
  have n2 := ne gu2
  have n3 := ne gm2
  have n4 := ne hm2
  have gcu3 := x3 _ _ gcu2
  have gu3 := x3 _ _ gu2
  have gm3 := x3 _ _ gm2
  have go3 := x3 _ _ hm2
  have x4 := x2.trans x3
  have xb : ∀ σ', ExtBut nh (σ₂.upd nh (.lst [])) σ' → Ext σ σ' := fun σ' x k c e => x k c (fun q => by rw [q] at e; have := x2 _ _ e; rw [hnh] at this; cases this) (x4 _ _ e)
  generalize (σ₂.upd nh (.lst [])) = σ₃ at *
  repeat' wtm_at "mm"
  refine Ex.for ?_
  repeat' wtm_at "mm"
  refine Calls.len_lst gu3 len3 ?_ (by lia)
  rw [len4]
  repeat' wtm_at "mm"
  refine Calls.range1 ?_
  refine ⟨_, .rng (by lia) (by lia) (by lia) (by lia) (by lia), ?_⟩
  refine l_leaf glen grange ok hB0 hB n1 n2 n3 n4 us.length 0 [] [] σ₃ (by lia) gh3 .nil (by simp) gcu3 gu3 gm3 go3 ?_
  intro σ₄ ns h1 h2 h3
  unfold hLoc
  repeat' wtm_at "mm"
  refine ⟨nh, ns, rfl, h1, ?_, xb _ h3⟩
  rw [List.nil_append] at h2
  unfold heightsOf leafL
  rw [List.range_eq_range']
  exact h2
end

/- plain facts: parted by a sign -/
noncomputable def belows (s : Str) (l : List Str) : List Str := l.filter fun y => coll y s == -1
noncomputable def sames (s : Str) (l : List Str) : List Str := l.filter fun y => coll y s == 0
noncomputable def aboves (s : Str) (l : List Str) : List Str := l.filter fun y => coll y s == 1
noncomputable def early (s : Str) (l : List Str) : List Str := (belows s l).reverse ++ ((sames s l).reverse ++ (aboves s l).reverse)
noncomputable def late (s : Str) (l : List Str) : List Str := belows s l ++ (sames s l ++ aboves s l)
theorem coll_three (x y : Str) : coll x y = -1 ∨ coll x y = 0 ∨ coll x y = 1 := by
  unfold coll b2i
  cases decide (y.cps.toList < x.cps.toList) <;> cases decide (x.cps.toList < y.cps.toList) <;> simp
noncomputable def pC (swap : Bool) (s : Str) (l : List Str) (x : Str) (i : Nat) : Bool := if swap then !decide (coll (at' l i) s < coll x s) else decide (coll x s < coll (at' l i) s)

theorem ins_at_split (swap : Bool) (s x : Str) (A B : List Str) (hA : ∀ y ∈ A, (if swap then !decide (coll y s < coll x s) else decide (coll x s < coll y s)) = false) (hB : ∀ y ∈ B, (if swap then !decide (coll y s < coll x s) else decide (coll x s < coll y s)) = true) :
    insAt (strL (A ++ B)) (bisAt (pC swap s (A ++ B) x) (strL (A ++ B)).length) (.str x) = strL (A ++ x :: B) := by
  have h := bisAt_split (A := A) (B := B) (q := fun y => if swap then !decide (coll y s < coll x s) else decide (coll x s < coll y s)) (p := pC swap s (A ++ B) x) (n := (strL (A ++ B)).length) (by simp [strL]) hA hB (fun i v hi => by
    have : at' (A ++ B) i = v := by unfold at'; rw [List.getD_eq_getElem?_getD, hi]; rfl
    unfold pC; rw [this])
  rw [h, strL_append, insAt_at (by simp [strL]), strL_append]
  rfl
theorem mem_b {s y : Str} {l : List Str} (h : y ∈ belows s l) : coll y s = -1 := by simpa using (List.mem_filter.mp h).2
theorem mem_s {s y : Str} {l : List Str} (h : y ∈ sames s l) : coll y s = 0 := by simpa using (List.mem_filter.mp h).2
theorem mem_a {s y : Str} {l : List Str} (h : y ∈ aboves s l) : coll y s = 1 := by simpa using (List.mem_filter.mp h).2

theorem early_step (s x : Str) (P : List Str) : insAt (strL (early s P)) (bisAt (pC true s (early s P) x) (strL (early s P)).length) (.str x) = strL (early s (P ++ [x])) := by
  have hb := fun y (h : y ∈ belows s P) => mem_b h
  have hs := fun y (h : y ∈ sames s P) => mem_s h
  have ha := fun y (h : y ∈ aboves s P) => mem_a h
  rcases coll_three x s with h | h | h
  · have e : early s (P ++ [x]) = [] ++ x :: early s P := by simp [early, belows, sames, aboves, List.filter_append, List.filter_cons, h]
    have := ins_at_split true s x [] (early s P) (by simp) (fun y hy => by
      simp only [early, List.mem_append, List.mem_reverse] at hy
      rcases hy with hy | hy | hy
      · simp [hb y hy, h]
      · simp [hs y hy, h]
      · simp [ha y hy, h])
    rw [List.nil_append] at this
    rw [this, e]
  · have e : early s (P ++ [x]) = (belows s P).reverse ++ x :: ((sames s P).reverse ++ (aboves s P).reverse) := by simp [early, belows, sames, aboves, List.filter_append, List.filter_cons, h]
    have := ins_at_split true s x (belows s P).reverse ((sames s P).reverse ++ (aboves s P).reverse) (fun y hy => by simp [hb y (List.mem_reverse.mp hy), h]) (fun y hy => by
      simp only [List.mem_append, List.mem_reverse] at hy
      rcases hy with hy | hy
      · simp [hs y hy, h]
      · simp [ha y hy, h])
    rw [e]; exact this
  · have e : early s (P ++ [x]) = ((belows s P).reverse ++ (sames s P).reverse) ++ x :: (aboves s P).reverse := by simp [early, belows, sames, aboves, List.filter_append, List.filter_cons, h]
    have := ins_at_split true s x ((belows s P).reverse ++ (sames s P).reverse) (aboves s P).reverse (fun y hy => by
      simp only [List.mem_append, List.mem_reverse] at hy
      rcases hy with hy | hy
      · simp [hb y hy, h]
      · simp [hs y hy, h]) (fun y hy => by simp [ha y (List.mem_reverse.mp hy), h])
    rw [e]; rw [List.append_assoc] at this; exact this
theorem late_step (s x : Str) (P : List Str) : insAt (strL (late s P)) (bisAt (pC false s (late s P) x) (strL (late s P)).length) (.str x) = strL (late s (P ++ [x])) := by
  have hb := fun y (h : y ∈ belows s P) => mem_b h
  have hs := fun y (h : y ∈ sames s P) => mem_s h
  have ha := fun y (h : y ∈ aboves s P) => mem_a h
  rcases coll_three x s with h | h | h
  · have e : late s (P ++ [x]) = belows s P ++ x :: (sames s P ++ aboves s P) := by simp [late, belows, sames, aboves, List.filter_append, List.filter_cons, h]
    have := ins_at_split false s x (belows s P) (sames s P ++ aboves s P) (fun y hy => by simp [hb y hy, h]) (fun y hy => by
      simp only [List.mem_append] at hy
      rcases hy with hy | hy
      · simp [hs y hy, h]
      · simp [ha y hy, h])
    rw [e]; exact this
  · have e : late s (P ++ [x]) = (belows s P ++ sames s P) ++ x :: aboves s P := by simp [late, belows, sames, aboves, List.filter_append, List.filter_cons, h]
    have := ins_at_split false s x (belows s P ++ sames s P) (aboves s P) (fun y hy => by
      simp only [List.mem_append] at hy
      rcases hy with hy | hy
      · simp [hb y hy, h]
      · simp [hs y hy, h]) (fun y hy => by simp [ha y hy, h])
    rw [e]; rw [List.append_assoc] at this; exact this
  · have e : late s (P ++ [x]) = late s P ++ [x] := by simp [late, belows, sames, aboves, List.filter_append, List.filter_cons, h]
    have := ins_at_split false s x (late s P) [] (fun y hy => by
      simp only [late, List.mem_append] at hy
      rcases hy with hy | hy | hy
      · simp [hb y hy, h]
      · simp [hs y hy, h]
      · simp [ha y hy, h]) (by simp)
    rw [List.append_nil] at this
    rw [this, e]

section
variable {R : RT} {σ : Sto} {a : Addr} {code : Value} {d : Nat} {fm : Fm}

noncomputable def lamOf : Stmt → PySem.Expr | .If (.Compare (.Call _ _ [⟨_, e, _⟩] _) _ _ _) _ _ _ => e | _ => .Constant .none 0 default
noncomputable def lamP : PySem.Expr → Arguments | .Lambda p _ _ _ => p | _ => ⟨[], [], none, [], [], none, []⟩
noncomputable def lamB : PySem.Expr → PySem.Expr | .Lambda _ b _ _ => b | e => e
noncomputable def lamS : PySem.Expr → Scope | .Lambda _ _ s _ => s | _ => default
noncomputable def lamE (i : Nat) : PySem.Expr := lamOf ((forB ((fnB (stm 17))[2]?.getD default))[i]?.getD default)

theorem c_key0 {a10 : Addr} {c10 : Value} {cn nn : Nat} {names : List Str} (T : Top0 R) (D10 : DefIs R 10 a10 c10) (hc : σ cn = some (.cel (some (.lst nn)))) (hn : σ nn = some (.lst (strL names))) (hl : names.length = 6) (x : Str) :
    Calls R (d + 4) (.clo "<lambda>" (lamP (lamE 0)) (lamB (lamE 0)) (lamS (lamE 0)) [("names", cn)]) [.str x] [] σ fun v σ' => v = .int (coll x (at' names 5)) ∧ σ' = σ := by
  have g10 : GlobV R "_strcoll" (.ref a10) := D10.glob
  have h5 := at_get (l := names) (i := 5) (by lia)
  refine Calls.clo (bs := [("one", .str x)]) T.nolim ?_ rfl rfl rfl (by decide) (fun p hp => by cases List.mem_singleton.mp hp; rfl) ?_
  · intro cl qn ct cd pm doc an L s args' kv' old ha hkw
    cases hkw
    obtain ⟨v', rfl, hv⟩ := ha.one
    exact ⟨[("one", v')], .of_eq (by unfold bindArgs; rfl), rfl, .cons hv .nil⟩
  · intro env
    simp only [List.map_cons, List.map_nil]
    wtm_at "m_bind"
    refine Ev.call ?_
    repeat' wtm_at "mm"
    refine Opr.getItem hn (i := 5) (by lia) (v := .str (at' names 5)) (by exact h5) (by simp [strL]; lia) ?_
    repeat' wtm_at "mm"
    refine Calls.coll T D10 ?_
    exact ⟨rfl, rfl⟩
theorem c_key1 {a10 : Addr} {c10 : Value} {cn nn : Nat} {names : List Str} (T : Top0 R) (D10 : DefIs R 10 a10 c10) (hc : σ cn = some (.cel (some (.lst nn)))) (hn : σ nn = some (.lst (strL names))) (hl : names.length = 6) (x : Str) :
    Calls R (d + 4) (.clo "<lambda>" (lamP (lamE 1)) (lamB (lamE 1)) (lamS (lamE 1)) [("names", cn)]) [.str x] [] σ fun v σ' => v = .int (coll x (at' names 5)) ∧ σ' = σ := by
  have g10 : GlobV R "_strcoll" (.ref a10) := D10.glob
  have h5 := at_get (l := names) (i := 5) (by lia)
  refine Calls.clo (bs := [("one", .str x)]) T.nolim ?_ rfl rfl rfl (by decide) (fun p hp => by cases List.mem_singleton.mp hp; rfl) ?_
  · intro cl qn ct cd pm doc an L s args' kv' old ha hkw
    cases hkw
    obtain ⟨v', rfl, hv⟩ := ha.one
    exact ⟨[("one", v')], .of_eq (by unfold bindArgs; rfl), rfl, .cons hv .nil⟩
  · intro env
    simp only [List.map_cons, List.map_nil]
    wtm_at "m_bind"
    refine Ev.call ?_
    repeat' wtm_at "mm"
    refine Opr.getItem hn (i := 5) (by lia) (v := .str (at' names 5)) (by exact h5) (by simp [strL]; lia) ?_
    repeat' wtm_at "mm"
    refine Calls.coll T D10 ?_
    exact ⟨rfl, rfl⟩

theorem keyok_coll {f : AV} {s : Str} (hcal : Callee R f) (hnone : f.isNone = false) (l : List Str) (x : Str) (swap : Bool) (hf : ∀ y : Str, Calls R d f [.str y] [] σ fun v σ' => v = .int (coll y s) ∧ σ' = σ) :
    KeyOk R d σ (strL l) f (.int (coll x s)) swap (pC swap s l x) := by
  refine ⟨hcal, hnone, fun i v h => ?_⟩
  obtain ⟨rfl, hi⟩ := strL_get h
  refine (hf _).mono fun kv σ' hq => ?_
  obtain ⟨rfl, rfl⟩ := hq
  refine ⟨rfl, ?_⟩
  cases swap with
  | true =>
    refine Opr.lt_int ⟨?_, rfl⟩
    simp [pC]
  | false =>
    refine Opr.lt_int ⟨?_, rfl⟩
    simp [pC]

noncomputable def partLoc (cc cr cn ne nl : Nat) : Loc := [("cut", .cel cc), ("ranked", .cel cr), ("names", .cel cn), ("early", .val (.lst ne)), ("late", .val (.lst nl))]

theorem l_part {cc cr cn ne nl nn : Nat} {names : List Str} {a5 a6 a7 a8 a10 : Addr} {c10 : Value} {env : Env} {c P : Addr} {K : Out → St → Prop} (T : Top0 R) (D5 : DefKw R 5 a5) (D6 : DefKw R 6 a6) (D7 : DefKw R 7 a7) (D8 : DefKw R 8 a8) (D10 : DefIs R 10 a10 c10) (glen : GlobV R "len" (.builtin "len"))
    (hm : (c, P) ∈ R.tabs) (hcode : env.code = .ref c) (hl : names.length = 6) (n1 : ne ≠ nl) (n2 : nn ≠ ne) (n3 : nn ≠ nl) (n4 : cn ≠ ne) (n5 : cn ≠ nl) : ∀ (rest pre : List Str) (i : Nat) (σ : Sto), names.drop i = rest → pre = names.take i → i ≤ 6 →
      σ cn = some (.cel (some (.lst nn))) → σ nn = some (.lst (strL names)) → σ ne = some (.lst (strL (early (at' names 5) pre))) → σ nl = some (.lst (strL (late (at' names 5) pre))) →
      (∀ σ', (∀ k, k ≠ ne → k ≠ nl → σ' k = σ k) → σ' ne = some (.lst (strL (early (at' names 5) names))) → σ' nl = some (.lst (strL (late (at' names 5) names))) → K .next ⟨partLoc cc cr cn ne nl, σ'⟩) →
      Fl R (d + 6) ⟨fnS (stm 17), env⟩ (forT ((fnB (stm 17))[2]?.getD default)) (.lst nn i) (forB ((fnB (stm 17))[2]?.getD default)) ⟨partLoc cc cr cn ne nl, σ⟩ K := by
  have g5 : GlobV R "insort_right" (.ref a5) := D5.glob
  have g7 : GlobV R "insort_left" (.ref a7) := D7.glob
  have le : ∀ s (l : List Str), l.length ≤ 6 → (strL (early s l)).length < 1048576 ∧ (strL (late s l)).length < 1048576 := fun s l h => by
    have h1 := List.length_filter_le (fun y => coll y s == -1) l
    have h2 := List.length_filter_le (fun y => coll y s == 0) l
    have h3 := List.length_filter_le (fun y => coll y s == 1) l
    simp only [strL, List.length_map, early, late, belows, sames, aboves, List.length_append, List.length_reverse]
    lia
  intro rest
  induction rest with
  | nil =>
    intro pre i σ hd hp hi hcn hnn hne hnl hK
    have hi6 : names.length ≤ i := by
      have := congrArg List.length hd
      simp at this; lia
    have : pre = names := by rw [hp, List.take_of_length_le hi6]
    subst this
    exact Fl.step (.lst_none hnn (by simp [strL]; lia)) (hK σ (fun _ _ _ => rfl) hne hnl)
  | cons x rest ih =>
    intro pre i σ hd hp hi hcn hnn hne hnl hK
    have hx : names[i]? = some x := by
      have := congrArg (·[0]?) hd
      simpa using this
    have hd' : names.drop (i + 1) = rest := by
      have := congrArg List.tail hd
      simpa using this
    have hil : i < names.length := (List.getElem?_eq_some_iff.mp hx).1
    have hp' : pre ++ [x] = names.take (i + 1) := by
      rw [List.take_add_one, hx, hp]; rfl
    have hpl : pre.length ≤ 6 := by rw [hp]; simp; lia
    refine Fl.step (.lst_some (v := .str x) hnn (by simp [strL, hx])) ?_
    unfold partLoc
    refine asg_loc rfl (by wtm_at "m_upd") ?_
    refine Exs.cons (Ex.ite ?_)
    refine Tst.cmp (Nat.le_add_left 2 _) ?_
    repeat' wtm_at "mm"
    refine Ev.lambda (cells := [("names", cn)]) T hm hcode (by intro _; with_unfolding_all rfl) (by wtm_at "m_capl") ?_
    refine (c_insl (d := d + 2) T D7 D8 glen hne (le _ pre hpl).1 (keyok_coll (s := at' names 5) .clo rfl (early (at' names 5) pre) x true fun y => c_key0 T D10 hcn hnn hl y) (fun v h => nomatch h) (fun v h => nomatch h) ((c_key0 (d := d + 1) T D10 hcn hnn hl x))).mono fun v σ₁ hq => ?_
    obtain ⟨rfl, rfl⟩ := hq
    rw [early_step]
    have hcn1 : (σ.upd ne (.lst (strL (early (at' names 5) (pre ++ [x]))))) cn = some (.cel (some (.lst nn))) := by rw [upd_ne n4]; exact hcn
    have hnn1 : (σ.upd ne (.lst (strL (early (at' names 5) (pre ++ [x]))))) nn = some (.lst (strL names)) := by rw [upd_ne n2]; exact hnn
    have hne1 : (σ.upd ne (.lst (strL (early (at' names 5) (pre ++ [x]))))) ne = some (.lst (strL (early (at' names 5) (pre ++ [x])))) := Sto.upd_self ..
    have hnl1 : (σ.upd ne (.lst (strL (early (at' names 5) (pre ++ [x]))))) nl = some (.lst (strL (late (at' names 5) pre))) := by rw [upd_ne (Ne.symm n1)]; exact hnl
    have ho1 : ∀ k, k ≠ ne → k ≠ nl → (σ.upd ne (.lst (strL (early (at' names 5) (pre ++ [x]))))) k = σ k := fun k h _ => upd_ne h
    generalize (σ.upd ne (.lst (strL (early (at' names 5) (pre ++ [x]))))) = σ₁ at *
    repeat' wtm_at "mm"
    rw [show (!AV.none.isNone) = false from rfl]
    dsimp only
    repeat' wtm_at "mm"
    refine Ev.lambda (cells := [("names", cn)]) T hm hcode (by intro _; with_unfolding_all rfl) (by wtm_at "m_capl") ?_
    refine (c_insr (d := d + 2) T D5 D6 glen hnl1 (le _ pre hpl).2 (keyok_coll (s := at' names 5) .clo rfl (late (at' names 5) pre) x false fun y => c_key1 T D10 hcn1 hnn1 hl y) (fun v h => nomatch h) (fun v h => nomatch h) ((c_key1 (d := d + 1) T D10 hcn1 hnn1 hl x))).mono fun v σ₂ hq => ?_
    obtain ⟨rfl, rfl⟩ := hq
    rw [late_step]
    repeat' wtm_at "mm"
    rw [show (!AV.none.isNone) = false from rfl]
    dsimp only
    repeat' wtm_at "mm"
    refine Fl.drop (ρ' := partLoc cc cr cn ne nl) ⟨_, rfl⟩ (ih (pre ++ [x]) (i + 1) _ hd' hp' (by lia) (by rw [upd_ne n5]; exact hcn1) (by rw [upd_ne n3]; exact hnn1) (by rw [upd_ne n1]; exact hne1) (Sto.upd_self ..) ?_)
    intro σ' h1 h2 h3
    exact hK σ' (fun k a b => by rw [h1 k a b, upd_ne b]; exact ho1 k a b) h2 h3
end

section
variable {R : RT} {σ : Sto} {a : Addr} {code : Value} {d : Nat} {fm : Fm}

theorem eqvs_strs : ∀ l : List Str, Sames (strL l) (strL l) ∧ eqvs (strL l) (strL l) = true
  | [] => ⟨.nil, rfl⟩
  | x :: l => by
    have ih := eqvs_strs l
    refine ⟨.cons (.str x x) ih.1, ?_⟩
    show ((AV.str x).eqv (.str x) && eqvs (strL l) (strL l)) = true
    rw [ih.2, show (AV.str x).eqv (.str x) = (x == x) from rfl]; simp
theorem clip_nat (n k : Nat) (h : k ≤ n) : clipAt n (k : Int) = k := by
  unfold clipAt
  rw [if_neg (by lia)]
  lia
theorem sliceL_to {l : List Str} {j : Nat} (hj : j ≤ l.length) : sliceL none (some (j : Int)) (strL l) = strL (l.take j) := by
  have : (strL l).length = l.length := by simp [strL]
  simp only [sliceL, Option.elim, this, clip_nat _ _ hj]
  simp [strL]
theorem sliceL_from {l : List Str} {j : Nat} (hj : j ≤ l.length) : sliceL (some (j : Int)) none (strL l) = strL (l.drop j) := by
  have : (strL l).length = l.length := by simp [strL]
  simp only [sliceL, Option.elim, this, clip_nat _ _ hj]
  simp only [strL, List.map_drop]
  exact List.take_of_length_le (by simp)

/-- what parted answers true for -/
structure PartOk (names ranked : List Str) (j : Nat) : Prop where
  nl : names.length = 6
  rl : ranked.length = 6
  at_ : ranked[j]? = some (at' names 5)
  no : ∀ m, m < j → ranked[m]? ≠ some (at' names 5)
  low : names.filter (fun y => (ranked.take j).contains y) = belows (at' names 5) names
  high : names.filter (fun y => (ranked.drop (j + 1)).contains y) = aboves (at' names 5) names
  same : sames (at' names 5) names = [at' names 5]

/-- the last row of parted: what is asked of the four lists -/
theorem r_parted {cc cr cn ne nl nn nr lo hi j : Nat} {names ranked : List Str} {env : Env} {K : Out → St → Prop} (ok : PartOk names ranked j) 
    (hcn : σ cn = some (.cel (some (.lst nn)))) (hnn : σ nn = some (.lst (strL names))) (hne : σ ne = some (.lst (strL (early (at' names 5) names)))) (hnl : σ nl = some (.lst (strL (late (at' names 5) names))))
    (hlo : σ lo = some (.lst (strL (belows (at' names 5) names)))) (hhi : σ hi = some (.lst (strL (aboves (at' names 5) names))))
    (hK : ∀ σ' ρ, Ext σ σ' → K (.ret (.bool true)) ⟨ρ, σ'⟩) :
    Exs R (d + 6) ⟨fnS (stm 17), env⟩ ((fnB (stm 17)).drop 6) ⟨[("cut", .cel cc), ("ranked", .cel cr), ("names", .cel cn), ("early", .val (.lst ne)), ("late", .val (.lst nl)), ("low", .val (.lst lo)), ("high", .val (.lst hi))], σ⟩ K := by
  have l6 := ok.nl
  have h5 := at_get (l := names) (i := 5) (by lia)
  have lnn : (strL names).length < 1048576 := by simp [strL]; lia
  have lb : (belows (at' names 5) names).length ≤ 6 := by rw [← l6]; exact List.length_filter_le _ _
  have la : (aboves (at' names 5) names).length ≤ 6 := by rw [← l6]; exact List.length_filter_le _ _
  have fr : ∀ {σ' : Sto} {n : Nat}, Ext σ σ' → σ' n = none → σ n = none := fun {σ' n} x h => by
    cases e : σ n with
    | none => rfl
    | some c => have := x _ _ e; rw [h] at this; cases this
  refine Exs.cons (Ex.ret ?_)
  refine Ev.and2 ?_
  repeat' wtm_at "mm"
  refine ⟨lo, _, rfl, hlo, by simp [strL]; lia, fun n1 h1 => ?_⟩
  have x1 : Ext σ (σ.upd n1 (.lst (strL (belows (at' names 5) names)).reverse)) := (Ext.refl σ).upd h1
  have c1 : (σ.upd n1 (.lst (strL (belows (at' names 5) names)).reverse)) n1 = some (.lst (strL (belows (at' names 5) names).reverse)) := by rw [Sto.upd_self]; simp [strL]
  generalize (σ.upd n1 (.lst (strL (belows (at' names 5) names)).reverse)) = σ₁ at x1 c1 ⊢
  have hcn1 := x1 _ _ hcn
  have hnn1 := x1 _ _ hnn
  repeat' wtm_at "mm"
  refine Opr.getItem (x1 _ _ hnn) (i := 5) (by lia) (v := .str (at' names 5)) (by exact h5) lnn ?_
  repeat' wtm_at "mm"
  refine ⟨by simp, fun n2 h2 => ?_⟩
  have n12 : n1 ≠ n2 := fun q => by rw [q, h2] at c1; cases c1
  have x2 := x1.upd (c := .lst [.str (at' names 5)]) (fr x1 h2)
  have c2 : (σ₁.upd n2 (.lst [.str (at' names 5)])) n2 = some (.lst (strL [at' names 5])) := Sto.upd_self ..
  have c12 : (σ₁.upd n2 (.lst [.str (at' names 5)])) n1 = some (.lst (strL (belows (at' names 5) names).reverse)) := by rw [upd_ne n12]; exact c1
  generalize (σ₁.upd n2 (.lst [.str (at' names 5)])) = σ₂ at x2 c2 c12 ⊢
  refine Opr.add_lst c12 c2 (by simp [strL]; lia) fun n3 h3 => ?_
  have x3 := x2.upd (c := .lst (strL (belows (at' names 5) names).reverse ++ strL [at' names 5])) (fr x2 h3)
  have c3 : (σ₂.upd n3 (.lst (strL (belows (at' names 5) names).reverse ++ strL [at' names 5]))) n3 = some (.lst (strL ((belows (at' names 5) names).reverse ++ [at' names 5]))) := by rw [Sto.upd_self]; simp [strL]
  generalize (σ₂.upd n3 (.lst (strL (belows (at' names 5) names).reverse ++ strL [at' names 5]))) = σ₃ at x3 c3 ⊢
  repeat' wtm_at "mm"
  refine ⟨hi, _, rfl, x3 _ _ hhi, by simp [strL]; lia, fun n4 h4 => ?_⟩
  have n34 : n3 ≠ n4 := fun q => by rw [q, h4] at c3; cases c3
  have x4 := x3.upd (c := .lst (strL (aboves (at' names 5) names)).reverse) (fr x3 h4)
  have c4 : (σ₃.upd n4 (.lst (strL (aboves (at' names 5) names)).reverse)) n4 = some (.lst (strL (aboves (at' names 5) names).reverse)) := by rw [Sto.upd_self]; simp [strL]
  have c34 : (σ₃.upd n4 (.lst (strL (aboves (at' names 5) names)).reverse)) n3 = some (.lst (strL ((belows (at' names 5) names).reverse ++ [at' names 5]))) := by rw [upd_ne n34]; exact c3
  generalize (σ₃.upd n4 (.lst (strL (aboves (at' names 5) names)).reverse)) = σ₄ at x4 c4 c34 ⊢
  refine Opr.add_lst c34 c4 (by simp [strL]; lia) fun n5 h5' => ?_
  have e5 : strL ((belows (at' names 5) names).reverse ++ [at' names 5]) ++ strL (aboves (at' names 5) names).reverse = strL (early (at' names 5) names) := by
    rw [← strL_append]; unfold early; rw [ok.same]; simp
  rw [e5]
  have x5 := x4.upd (c := .lst (strL (early (at' names 5) names))) (fr x4 h5')
  have c5 : (σ₄.upd n5 (.lst (strL (early (at' names 5) names)))) n5 = some (.lst (strL (early (at' names 5) names))) := Sto.upd_self ..
  generalize (σ₄.upd n5 (.lst (strL (early (at' names 5) names)))) = σ₅ at x5 c5 ⊢
  refine Opr.eq_lst (x5 _ _ hne) c5 (eqvs_strs _).1 ?_
  rw [(eqvs_strs _).2]
  refine ⟨_, rfl, ?_⟩
  dsimp only
  have hcn5 := x5 _ _ hcn
  have hnn5 := x5 _ _ hnn
  repeat' wtm_at "mm"
  refine Opr.getItem (x5 _ _ hnn) (i := 5) (by lia) (v := .str (at' names 5)) (by exact h5) lnn ?_
  repeat' wtm_at "mm"
  refine ⟨by simp, fun n6 h6 => ?_⟩
  have x6 := x5.upd (c := .lst [.str (at' names 5)]) (fr x5 h6)
  have c6 : (σ₅.upd n6 (.lst [.str (at' names 5)])) n6 = some (.lst (strL [at' names 5])) := Sto.upd_self ..
  generalize (σ₅.upd n6 (.lst [.str (at' names 5)])) = σ₆ at x6 c6 ⊢
  refine Opr.add_lst (x6 _ _ hlo) c6 (by simp [strL]; lia) fun n7 h7 => ?_
  have x7 := x6.upd (c := .lst (strL (belows (at' names 5) names) ++ strL [at' names 5])) (fr x6 h7)
  have c7 : (σ₆.upd n7 (.lst (strL (belows (at' names 5) names) ++ strL [at' names 5]))) n7 = some (.lst (strL (belows (at' names 5) names ++ [at' names 5]))) := by rw [Sto.upd_self]; simp [strL]
  generalize (σ₆.upd n7 (.lst (strL (belows (at' names 5) names) ++ strL [at' names 5]))) = σ₇ at x7 c7 ⊢
  repeat' wtm_at "mm"
  refine Opr.add_lst c7 (x7 _ _ hhi) (by simp [strL]; lia) fun n8 h8 => ?_
  have e8 : strL (belows (at' names 5) names ++ [at' names 5]) ++ strL (aboves (at' names 5) names) = strL (late (at' names 5) names) := by
    rw [← strL_append]; unfold late; rw [ok.same]; simp
  rw [e8]
  have x8 := x7.upd (c := .lst (strL (late (at' names 5) names))) (fr x7 h8)
  have c8 : (σ₇.upd n8 (.lst (strL (late (at' names 5) names)))) n8 = some (.lst (strL (late (at' names 5) names))) := Sto.upd_self ..
  generalize (σ₇.upd n8 (.lst (strL (late (at' names 5) names)))) = σ₈ at x8 c8 ⊢
  refine Opr.eq_lst (x8 _ _ hnl) c8 (eqvs_strs _).1 ?_
  rw [(eqvs_strs _).2]
  exact hK _ _ x8
end

/- what the setup gives: parted, the ranked row, the pile's end -/
section
variable {names ranked : List Str} {π : List Nat} (S : Setup names ranked π)
include S
theorem Setup.lt6 : ∀ r ∈ π, r < 6 := fun r h => List.mem_range.mp (S.pm.mem_iff.mp h)
theorem Setup.pl : π.length = 6 := S.pm.length_eq
theorem Setup.nl : names.length = 6 := by rw [S.nm, List.length_map, S.pl]
theorem Setup.nd : π.Nodup := S.pm.nodup_iff.mpr List.nodup_range
theorem Setup.inj {i j : Nat} (hi : i < 6) (hj : j < 6) (h : at' ranked i = at' ranked j) : i = j := by
  have h1 := S.cmp i j hi hj
  have h2 := S.cmp j i hj hi
  rw [h] at h1 h2
  have e : decide ((at' ranked j).cps.toList < (at' ranked j).cps.toList) = false := by simp [List.lt_irrefl]
  rw [e] at h1 h2
  simp at h1 h2; lia
theorem Setup.ranked_map : ranked = (List.range 6).map (at' ranked) := by
  refine List.ext_getElem (by simp [S.rl]) fun i h1 h2 => ?_
  simp [at', List.getD, h1]
theorem Setup.at_names {i : Nat} (h : i < 6) : at' names i = at' ranked (π.getD i 0) := by
  have := S.pl
  rw [S.nm]
  simp [at', List.getD, show i < π.length by lia]
theorem Setup.getD_lt {i : Nat} (h : i < 6) : π.getD i 0 < 6 := by
  have := S.pl
  have hi : i < π.length := by lia
  simp only [List.getD, List.getElem?_eq_getElem hi, Option.getD_some]
  exact S.lt6 _ (List.getElem_mem hi)

theorem Setup.part_ok : PartOk names ranked (π.getD 5 0) := by
  have hs := S.at_names (i := 5) (by lia)
  have hl := S.getD_lt (i := 5) (by lia)
  generalize hj : π.getD 5 0 = j at *
  have hjm : j ∈ π := by
    have := S.pl
    rw [← hj]; simp only [List.getD, List.getElem?_eq_getElem (show 5 < π.length by lia), Option.getD_some]
    exact List.getElem_mem _
  have hc : ∀ r ∈ π, coll (at' ranked r) (at' names 5) = b2i (decide (j < r)) - b2i (decide (r < j)) := fun r hr => by rw [hs, S.coll_eq (S.lt6 r hr) hl]
  have hct : ∀ r, r < 6 → (ranked.take j).contains (at' ranked r) = decide (r < j) := fun r hr => by
    rw [Bool.eq_iff_iff, List.contains_iff_mem, decide_eq_true_iff, S.ranked_map, ← List.map_take, List.mem_map]
    constructor
    · rintro ⟨a, ha, e⟩
      rw [List.take_range] at ha
      have ha' := List.mem_range.mp ha
      rw [← S.ranked_map] at e
      have := S.inj (by lia) hr e; lia
    · intro h
      exact ⟨r, by rw [List.take_range]; exact List.mem_range.mpr (by lia), by rw [← S.ranked_map]⟩
  have hcd : ∀ r, r < 6 → (ranked.drop (j + 1)).contains (at' ranked r) = decide (j < r) := fun r hr => by
    have hdr : ∀ a, a ∈ (List.range 6).drop (j + 1) ↔ j < a ∧ a < 6 := fun a => by
      rw [List.range_eq_range', List.drop_range', List.mem_range'_1]; lia
    rw [Bool.eq_iff_iff, List.contains_iff_mem, decide_eq_true_iff, S.ranked_map, ← List.map_drop, List.mem_map]
    constructor
    · rintro ⟨a, ha, e⟩
      rw [hdr] at ha
      rw [← S.ranked_map] at e
      have := S.inj ha.2 hr e; lia
    · intro h
      exact ⟨r, (hdr r).mpr ⟨h, hr⟩, by rw [← S.ranked_map]⟩
  refine ⟨S.nl, S.rl, by rw [hs]; exact get_at (by rw [S.rl]; exact hl), fun m hm h => ?_, ?_, ?_, ?_⟩
  · have hm6 : m < 6 := by lia
    rw [get_at (by rw [S.rl]; exact hm6), hs] at h
    have := S.inj hm6 hl (Option.some.inj h); lia
  · conv => lhs; rw [S.nm]
    unfold belows
    conv => rhs; rw [S.nm]
    rw [List.filter_map, List.filter_map]
    congr 1
    refine List.filter_congr fun r hr => ?_
    simp only [Function.comp]
    rw [hct r (S.lt6 r hr), ← S.nm, hc r hr, coll_neg]
  · conv => lhs; rw [S.nm]
    unfold aboves
    conv => rhs; rw [S.nm]
    rw [List.filter_map, List.filter_map]
    congr 1
    refine List.filter_congr fun r hr => ?_
    simp only [Function.comp]
    rw [hcd r (S.lt6 r hr), ← S.nm, hc r hr]
    rcases Nat.lt_trichotomy r j with h | h | h
    · rw [decide_eq_true h, decide_eq_false (p := j < r) (by lia)]; rfl
    · subst h; rw [decide_eq_false (by lia)]; rfl
    · rw [decide_eq_true h, decide_eq_false (p := r < j) (by lia)]; rfl
  · have key : π.filter (fun r => coll (at' ranked r) (at' names 5) == 0) = π.filter (· == j) := List.filter_congr fun r hr => by
      rw [hc r hr]
      rcases Nat.lt_trichotomy r j with h | h | h
      · rw [decide_eq_true h, decide_eq_false (p := j < r) (by lia), beq_eq_false_iff_ne.mpr (by lia : r ≠ j)]; rfl
      · subst h; rw [decide_eq_false (by lia)]; simp [b2i]
      · rw [decide_eq_true h, decide_eq_false (p := r < j) (by lia), beq_eq_false_iff_ne.mpr (by lia : r ≠ j)]; rfl
    have one : ∀ (l : List Nat), l.Nodup → j ∈ l → l.filter (· == j) = [j] := by
      intro l
      induction l with
      | nil => intro _ h; simp at h
      | cons a l ih =>
        intro hn hm
        obtain ⟨h1, h2⟩ := List.nodup_cons.mp hn
        by_cases ha : a = j
        · subst ha
          have : l.filter (· == a) = [] := List.filter_eq_nil_iff.mpr fun b hb => by
            simp; intro e; exact h1 (e ▸ hb)
          simp [this]
        · have hl : j ∈ l := by
            rcases List.mem_cons.mp hm with h | h
            · exact absurd h.symm ha
            · exact h
          simp [List.filter_cons, ha, ih h2 hl]
    unfold sames
    conv => lhs; rw [S.nm]
    rw [List.filter_map]
    have : (fun y => coll y (at' (π.map (at' ranked)) 5) == 0) ∘ at' ranked = fun r => coll (at' ranked r) (at' names 5) == 0 := by rw [← S.nm]; rfl
    rw [this, key, one π S.nd hjm, hs]
    rfl
end

/-- the pile by its ranks alone -/
noncomputable def collR : Nat → List (Nat × Nat) → List (Nat × Nat)
  | k + 1, l :: f :: r => if f.2 + 1 == l.1 || l.2 + 1 == f.1 then collR k ((min f.1 l.1, max f.2 l.2) :: r) else l :: f :: r
  | _, p => p
noncomputable def pileR : List Nat → List (Nat × Nat) → List (Nat × Nat)
  | [], p => p
  | x :: t, p => pileR t (collR (p.length + 1) ((x, x) :: p))
noncomputable def rk (i : It) : Nat × Nat := (i.lo, i.hi)
theorem coll_rk (m0 m1 : Str) : ∀ (k : Nat) (p : List It), (collapse m0 m1 k p).map rk = collR k (p.map rk)
  | 0, p => by simp [collapse, collR]
  | k + 1, [] => by simp [collapse, collR]
  | k + 1, [i] => by simp [collapse, collR]
  | k + 1, l :: f :: r => by
    simp only [List.map_cons, collR, collapse]
    have : near f l = ((rk f).2 + 1 == (rk l).1 || (rk l).2 + 1 == (rk f).1) := rfl
    rw [← this]
    cases near f l with
    | true => simp only [if_true]; rw [coll_rk m0 m1 k]; rfl
    | false => simp
theorem pile_rk {ranked : List Str} {m0 m1 : Str} : ∀ (rest : List Nat) (p : List It), (∀ r ∈ rest, rankOf ranked (at' ranked r) = r) → (pileGo ranked m0 m1 (rest.map (at' ranked)) p).map rk = pileR rest (p.map rk)
  | [], p, _ => rfl
  | x :: t, p, h => by
    simp only [List.map_cons, pileGo, pileR]
    rw [pile_rk t _ fun r hr => h r (by simp [hr]), coll_rk]
    simp only [List.map_cons, List.length_map]
    rw [show rk (leaf ranked (at' ranked x)) = (x, x) by simp [rk, leaf, h x (by simp)]]

noncomputable def crossR (π : List Nat) (a b c d : Nat) : Bool :=
  (decide (π.getD c 0 < π.getD a 0) && decide (π.getD a 0 < π.getD d 0) && decide (π.getD d 0 < π.getD b 0)) || (decide (π.getD b 0 < π.getD d 0) && decide (π.getD d 0 < π.getD a 0) && decide (π.getD a 0 < π.getD c 0))
noncomputable def crossedR (π : List Nat) : Bool := anyFrom (fun a => anyFrom (fun b => anyFrom (fun c => anyFrom (fun d => crossR π a b c d) (5 - c) (c + 1)) (5 - b) (b + 1)) (5 - a) (a + 1)) 6 0
theorem anyFrom_congr {f g : Nat → Bool} : ∀ (k lo : Nat), (∀ i, lo ≤ i → i < lo + k → f i = g i) → anyFrom f k lo = anyFrom g k lo
  | 0, _, _ => rfl
  | k + 1, lo, h => by
    simp only [anyFrom]
    rw [h lo (Nat.le_refl _) (by lia), anyFrom_congr k (lo + 1) fun i a b => h i (by lia) (by lia)]
theorem Setup.crossed_eq {names ranked : List Str} {π : List Nat} (S : Setup names ranked π) : crossed names = crossedR π := by
  unfold crossed crossedR
  refine anyFrom_congr _ _ fun a _ ha => anyFrom_congr _ _ fun b hb1 hb => anyFrom_congr _ _ fun c hc1 hc => anyFrom_congr _ _ fun d hd1 hd => ?_
  have cn : ∀ i j, i < 6 → j < 6 → (coll (at' names i) (at' names j) == -1) = decide (π.getD i 0 < π.getD j 0) := fun i j hi hj => by
    rw [S.at_names hi, S.at_names hj, S.coll_eq (S.getD_lt hi) (S.getD_lt hj), coll_neg]
  unfold crossAt crossR
  rw [cn c a (by lia) (by lia), cn a d (by lia) (by lia), cn d b (by lia) (by lia), cn b d (by lia) (by lia), cn a c (by lia) (by lia)]
  rw [cn d a (by lia) (by lia)]

/-- the rows that begin with a -/
noncomputable def allFrom (a : Nat) : Bool := (List.range 6).all fun b => b == a || (List.range 6).all fun c => c == a || c == b || (List.range 6).all fun d => d == a || d == b || d == c || (List.range 6).all fun e => e == a || e == b || e == c || e == d ||
  (List.range 6).all fun f => f == a || f == b || f == c || f == d || f == e || ((pileR [a, b, c, d, e, f] []).length == 1) != crossedR [a, b, c, d, e, f]
theorem all0 : allFrom 0 = true := by decide +kernel
theorem all1 : allFrom 1 = true := by decide +kernel
theorem all2 : allFrom 2 = true := by decide +kernel
theorem all3 : allFrom 3 = true := by decide +kernel
theorem all4 : allFrom 4 = true := by decide +kernel
theorem all5 : allFrom 5 = true := by decide +kernel
theorem pile_cross {π : List Nat} (h : π.Perm (List.range 6)) : (((pileR π []).length == 1) != crossedR π) = true := by
  have hl : π.length = 6 := h.length_eq
  have hn : π.Nodup := h.nodup_iff.mpr List.nodup_range
  have h6 : ∀ r ∈ π, r < 6 := fun r hr => List.mem_range.mp (h.mem_iff.mp hr)
  obtain ⟨a, t, rfl, hl1⟩ := len_cons hl
  obtain ⟨b, t, rfl, hl2⟩ := len_cons hl1
  obtain ⟨c, t, rfl, hl3⟩ := len_cons hl2
  obtain ⟨d, t, rfl, hl4⟩ := len_cons hl3
  obtain ⟨e, t, rfl, hl5⟩ := len_cons hl4
  obtain ⟨f, t, rfl, hl6⟩ := len_cons hl5
  obtain rfl := List.eq_nil_of_length_eq_zero hl6
  have ha := h6 a (by simp)
  have hb := List.mem_range.mpr (h6 b (by simp))
  have hc := List.mem_range.mpr (h6 c (by simp))
  have hd := List.mem_range.mpr (h6 d (by simp))
  have he := List.mem_range.mpr (h6 e (by simp))
  have hf := List.mem_range.mpr (h6 f (by simp))
  have hA : allFrom a = true := by
    rcases (by lia : a = 0 ∨ a = 1 ∨ a = 2 ∨ a = 3 ∨ a = 4 ∨ a = 5) with rfl | rfl | rfl | rfl | rfl | rfl
    · exact all0
    · exact all1
    · exact all2
    · exact all3
    · exact all4
    · exact all5
  simp only [List.nodup_cons, List.mem_cons, List.not_mem_nil, or_false, not_or] at hn
  obtain ⟨⟨n1, n2, n3, n4, n5⟩, ⟨n6, n7, n8, n9⟩, ⟨n10, n11, n12⟩, ⟨n13, n14⟩, n15, _⟩ := hn
  have r := List.all_eq_true.mp hA b hb
  rw [beq_eq_false_iff_ne.mpr (Ne.symm n1), Bool.false_or] at r
  have r := List.all_eq_true.mp r c hc
  rw [beq_eq_false_iff_ne.mpr (Ne.symm n2), beq_eq_false_iff_ne.mpr (Ne.symm n6), Bool.false_or, Bool.false_or] at r
  have r := List.all_eq_true.mp r d hd
  rw [beq_eq_false_iff_ne.mpr (Ne.symm n3), beq_eq_false_iff_ne.mpr (Ne.symm n7), beq_eq_false_iff_ne.mpr (Ne.symm n10), Bool.false_or, Bool.false_or, Bool.false_or] at r
  have r := List.all_eq_true.mp r e he
  rw [beq_eq_false_iff_ne.mpr (Ne.symm n4), beq_eq_false_iff_ne.mpr (Ne.symm n8), beq_eq_false_iff_ne.mpr (Ne.symm n11), beq_eq_false_iff_ne.mpr (Ne.symm n13), Bool.false_or, Bool.false_or, Bool.false_or, Bool.false_or] at r
  have r := List.all_eq_true.mp r f hf
  rw [beq_eq_false_iff_ne.mpr (Ne.symm n5), beq_eq_false_iff_ne.mpr (Ne.symm n9), beq_eq_false_iff_ne.mpr (Ne.symm n12), beq_eq_false_iff_ne.mpr (Ne.symm n14), beq_eq_false_iff_ne.mpr (Ne.symm n15), Bool.false_or, Bool.false_or, Bool.false_or, Bool.false_or, Bool.false_or] at r
  exact r

/- insertion in the ranked row and in the order of keys -/
theorem Setup.rank_step {names ranked : List Str} {π : List Nat} (S : Setup names ranked π) {Q : List Nat} {r : Nat} (hQ : Q.Pairwise (· < ·)) (h6 : ∀ a ∈ Q, a < 6) (hr : r < 6) (hn : r ∉ Q) :
    ∃ Q' : List Nat, insAt (strL (Q.map (at' ranked))) (bisAt (pS false (Q.map (at' ranked)) (at' ranked r)) (strL (Q.map (at' ranked))).length) (.str (at' ranked r)) = strL (Q'.map (at' ranked)) ∧ Q'.Pairwise (· < ·) ∧ Q'.Perm (r :: Q) := by
  obtain ⟨A, B, rfl, hA, hB, hP⟩ := ins_split (R := (· < ·)) (fun a => decide (r < a)) r (fun a => Nat.lt_irrefl a) (fun a b c => Nat.lt_trans) Q hQ (fun a ha h => by
    have h1 : ¬ r < a := by simpa using h
    have h2 : a ≠ r := fun e => hn (e ▸ ha)
    lia) (fun a _ h => by simpa using h)
  refine ⟨A ++ r :: B, ?_, hP, List.perm_middle⟩
  have hb := bisAt_split (A := A) (B := B) (q := fun a => decide (r < a)) (p := pS false ((A ++ B).map (at' ranked)) (at' ranked r)) (n := (strL ((A ++ B).map (at' ranked))).length) (by simp [strL]) hA hB (fun i v hi => by
    have hv : v ∈ A ++ B := List.mem_of_getElem? hi
    have : at' ((A ++ B).map (at' ranked)) i = at' ranked v := by
      show ((A ++ B).map (at' ranked)).getD i "" = _
      rw [List.getD_eq_getElem?_getD, List.getElem?_map, hi]; rfl
    simp only [pS, Bool.false_eq_true, if_false]
    rw [this, S.cmp r v hr (h6 v hv)])
  rw [hb, List.map_append, strL_append, insAt_at (by simp [strL]), List.map_append, strL_append]
  rfl

/-- insertion of places by their keys -/
noncomputable def pN (key : Nat → Int) (l : List Nat) (k i : Nat) : Bool := !decide (key (l.getD i 0) < key k)
theorem order_step {key : Nat → Int} {l : List Nat} {k : Nat} (hl : l.Pairwise fun a b => key a < key b) (hk : ∀ a ∈ l, key a ≠ key k) :
    ∃ l' : List Nat, insAt (l.map fun (k : Nat) => AV.int (k : Int)) (bisAt (pN key l k) (l.map fun (k : Nat) => AV.int (k : Int)).length) (.int (k : Nat)) = (l'.map fun (k : Nat) => AV.int (k : Int)) ∧ l'.Pairwise (fun a b => key a < key b) ∧ l'.Perm (k :: l) := by
  obtain ⟨A, B, rfl, hA, hB, hP⟩ := ins_split (R := fun a b => key a < key b) (fun a => !decide (key a < key k)) k (fun a => by lia) (fun a b c h1 h2 => by lia) l hl (fun a ha h => by simpa using h) (fun a ha h => by
    have h1 : ¬ key a < key k := by simpa using h
    have := hk a ha
    lia)
  refine ⟨A ++ k :: B, ?_, hP, List.perm_middle⟩
  have hb := bisAt_split (A := A) (B := B) (q := fun a => !decide (key a < key k)) (p := pN key (A ++ B) k) (n := ((A ++ B).map fun (k : Nat) => AV.int (k : Int)).length) (by simp) hA hB (fun i v hi => by
    have : (A ++ B).getD i 0 = v := by rw [List.getD_eq_getElem?_getD, hi]; rfl
    unfold pN; rw [this])
  rw [hb, List.map_append, insAt_at (by simp), List.map_append]
  rfl

theorem sorted_range {Q : List Nat} (h : Q.Pairwise (· < ·)) (hp : Q.Perm (List.range 6)) : Q = List.range 6 :=
  List.Perm.eq_of_pairwise (le := (· < ·)) (fun a b _ _ h1 h2 => by lia) h List.pairwise_lt_range hp

section
variable {R : RT} {σ : Sto} {a : Addr} {code : Value} {d : Nat} {fm : Fm}

theorem Ext.none {σ σ' : Sto} {n : Nat} (x : Ext σ σ') (h : σ' n = none) : σ n = none := by
  cases e : σ n with
  | none => rfl
  | some c => have := x _ _ e; rw [h] at this; cases this

/-- from the cut on -/
theorem t_parted {cc cr cn ne nl nn nr j : Nat} {names ranked : List Str} {env : Env} {K : Out → St → Prop} (ok : PartOk names ranked j) (hcc : σ cc = some (.cel (some (.int j)))) (hcr : σ cr = some (.cel (some (.lst nr)))) (hnr : σ nr = some (.lst (strL ranked)))
    (hcn : σ cn = some (.cel (some (.lst nn)))) (hnn : σ nn = some (.lst (strL names))) (hne : σ ne = some (.lst (strL (early (at' names 5) names)))) (hnl : σ nl = some (.lst (strL (late (at' names 5) names))))
    (hK : ∀ σ' ρ, Ext σ σ' → K (.ret (.bool true)) ⟨ρ, σ'⟩) :
    Exs R (d + 6) ⟨fnS (stm 17), env⟩ ((fnB (stm 17)).drop 4) ⟨[("cut", .cel cc), ("ranked", .cel cr), ("names", .cel cn), ("early", .val (.lst ne)), ("late", .val (.lst nl))], σ⟩ K := by
  have l6 := ok.nl
  have r6 := ok.rl
  have lnn : (strL names).length < 1048576 := by simp [strL]; lia
  have lnr : (strL ranked).length < 1048576 := by simp [strL]; lia
  have hj : j < 6 := by rw [← r6]; exact (List.getElem?_eq_some_iff.mp ok.at_).1
  refine Exs.cons ?_
  refine Ex.assign_comp (ρ' := [("cut", .cel cc), ("ranked", .cel cr)]) (by wtm_at "m_cap") (by wtm_at "m_kinds") ?_ (by wtm_at "m_swaps")
  repeat' wtm_at "mm"
  refine ⟨_, .lst hnn, fun lo env' hlo => ?_⟩
  have ne1 : nn ≠ lo := fun q => by rw [q, hlo] at hnn; cases hnn
  refine cl_all (xs := names) (val := AV.str) (p := fun y => (ranked.take j).contains y) (f := AV.str) (by with_unfolding_all rfl) (fun v => by simp only [List.cons_append, List.nil_append]; wtm_at "m_upd") ?_ ?_ names _ [] _ (fun _ h => h) (Gives.lst (by rw [upd_ne ne1]; exact hnn) ne1 _ 0 rfl) (ExtBut.refl _ _) (Sto.upd_self ..) (by simp; lia) ?_
  · intro y hy σ₂ KK hx hKK
    simp only [List.cons_append, List.nil_append] at hKK ⊢
    have x2 := hx.of_upd hlo
    have h1 := x2 _ _ hcc
    have h2 := x2 _ _ hcr
    have h3 := x2 _ _ hnr
    refine Tst.cmp (Nat.le_add_left 2 _) ?_
    repeat' wtm_at "mm"
    refine Ev.slice ?_
    repeat' wtm_at "mm"
    refine ⟨nr, _, rfl, h3, lnr, fun m hm => ?_⟩
    rw [sliceL_to (by lia)]
    refine Opr.in_strs (Sto.upd_self ..) ?_
    refine ⟨_, rfl, ?_⟩
    exact hKK _ ((Ext.refl _).upd hm)
  · intro y hy _ σ₂ KK hx hKK
    simp only [List.cons_append, List.nil_append] at hKK ⊢
    repeat' wtm_at "mm"
    exact hKK _ (Ext.refl _)
  intro σ₁ hx1 hl1
  have x1 := hx1.of_upd hlo
  rw [List.nil_append, ok.low] at hl1
  clear hx1
  have hcc1 := x1 _ _ hcc
  have hcr1 := x1 _ _ hcr
  have hnr1 := x1 _ _ hnr
  have hnn1 := x1 _ _ hnn
  have hcn1 := x1 _ _ hcn
  repeat' wtm_at "m_bind"
  refine Exs.cons ?_
  refine Ex.assign_comp (ρ' := [("cut", .cel cc), ("ranked", .cel cr)]) (by wtm_at "m_cap") (by wtm_at "m_kinds") ?_ (by wtm_at "m_swaps")
  repeat' wtm_at "mm"
  refine ⟨_, .lst hnn1, fun hi env' hhi => ?_⟩
  have ne2 : nn ≠ hi := fun q => by rw [q, hhi] at hnn1; cases hnn1
  refine cl_all (xs := names) (val := AV.str) (p := fun y => (ranked.drop (j + 1)).contains y) (f := AV.str) (by with_unfolding_all rfl) (fun v => by simp only [List.cons_append, List.nil_append]; wtm_at "m_upd") ?_ ?_ names _ [] _ (fun _ h => h) (Gives.lst (by rw [upd_ne ne2]; exact hnn1) ne2 _ 0 rfl) (ExtBut.refl _ _) (Sto.upd_self ..) (by simp; lia) ?_
  · intro y hy σ₂ KK hx hKK
    simp only [List.cons_append, List.nil_append] at hKK ⊢
    have x2 := hx.of_upd hhi
    have h1 := x2 _ _ hcc1
    have h2 := x2 _ _ hcr1
    have h3 := x2 _ _ hnr1
    refine Tst.cmp (Nat.le_add_left 2 _) ?_
    repeat' wtm_at "mm"
    refine Ev.slice ?_
    repeat' wtm_at "mm"
    refine ⟨nr, _, rfl, h3, lnr, fun m hm => ?_⟩
    rw [show ((j : Int) + 1) = ((j + 1 : Nat) : Int) from rfl, sliceL_from (by lia)]
    refine Opr.in_strs (Sto.upd_self ..) ?_
    refine ⟨_, rfl, ?_⟩
    exact hKK _ ((Ext.refl _).upd hm)
  · intro y hy _ σ₂ KK hx hKK
    simp only [List.cons_append, List.nil_append] at hKK ⊢
    repeat' wtm_at "mm"
    exact hKK _ (Ext.refl _)
  intro σ₂ hx2 hl2
  have x2 := hx2.of_upd hhi
  have x12 := x1.trans x2
  rw [List.nil_append, ok.high] at hl2
  repeat' wtm_at "m_bind"
  exact r_parted (nr := nr) ok (x12 _ _ hcn) (x12 _ _ hnn) (x12 _ _ hne) (x12 _ _ hnl) (x2 _ _ hl1) hl2 fun σ' ρ hx => hK σ' ρ (x12.trans hx)

theorem c_parted {nn nr j : Nat} {names ranked : List Str} {a5 a6 a7 a8 a10 a17 : Addr} {c10 : Value} {c P : Addr} (T : Top0 R) (D : DefIs R 17 a17 (.ref c)) (hm : (c, P) ∈ R.tabs) (D5 : DefKw R 5 a5) (D6 : DefKw R 6 a6) (D7 : DefKw R 7 a7) (D8 : DefKw R 8 a8) (D10 : DefIs R 10 a10 c10) (glen : GlobV R "len" (.builtin "len"))
    (ok : PartOk names ranked j) (hnn : σ nn = some (.lst (strL names))) (hnr : σ nr = some (.lst (strL ranked))) :
    Calls R (d + 7) (.raw (.ref a17)) [.lst nn, .lst nr] [] σ fun v σ' => v = .bool true ∧ Ext σ σ' := by
  have l6 := ok.nl
  have r6 := ok.rl
  have lnn : (strL names).length < 1048576 := by simp [strL]; lia
  have h5 := at_get (l := names) (i := 5) (by lia)
  have hj : j < 6 := by rw [← r6]; exact (List.getElem?_eq_some_iff.mp ok.at_).1
  refine Calls.def_ (names := ["names", "ranked"]) T D (bok2 fun fd hp hd v w => by unfold bindArgs; rw [hp, hd]; rfl) rfl ?_
  intro cn hcn cr hcr cc hcc env he
  have n1 : cn ≠ cr := fun q => by rw [q, Sto.upd_self] at hcr; cases hcr
  have n2 : cr ≠ cc := fun q => by rw [q, Sto.upd_self] at hcc; cases hcc
  have n3 : cn ≠ cc := fun q => by rw [← q, upd_ne n1, Sto.upd_self] at hcc; cases hcc
  have hcr0 : σ cr = none := by rw [upd_ne (Ne.symm n1)] at hcr; exact hcr
  have hcc0 : σ cc = none := by rw [upd_ne (Ne.symm n2), upd_ne (Ne.symm n3)] at hcc; exact hcc
  have e1 : (((σ.upd cn (.cel none)).upd cr (.cel none)).upd cc (.cel none)) cn = some (.cel none) := by rw [upd_ne n3, upd_ne n1, Sto.upd_self]
  have e2 : ((((σ.upd cn (.cel none)).upd cr (.cel none)).upd cc (.cel none)).upd cn (.cel (some (.lst nn)))) cr = some (.cel none) := by rw [upd_ne (Ne.symm n1), upd_ne n2, Sto.upd_self]
  have e3 : (((((σ.upd cn (.cel none)).upd cr (.cel none)).upd cc (.cel none)).upd cn (.cel (some (.lst nn)))).upd cr (.cel (some (.lst nr)))) cc = some (.cel none) := by rw [upd_ne (Ne.symm n2), upd_ne (Ne.symm n3), Sto.upd_self]
  have e4 : (((((σ.upd cn (.cel none)).upd cr (.cel none)).upd cc (.cel none)).upd cn (.cel (some (.lst nn)))).upd cr (.cel (some (.lst nr)))) cn = some (.cel (some (.lst nn))) := by rw [upd_ne n1, Sto.upd_self]
  have e5 : (((((σ.upd cn (.cel none)).upd cr (.cel none)).upd cc (.cel none)).upd cn (.cel (some (.lst nn)))).upd cr (.cel (some (.lst nr)))) cr = some (.cel (some (.lst nr))) := Sto.upd_self ..
  have x0 : Ext σ (((((σ.upd cn (.cel none)).upd cr (.cel none)).upd cc (.cel none)).upd cn (.cel (some (.lst nn)))).upd cr (.cel (some (.lst nr)))) := (((((Ext.refl σ).upd hcn).upd hcr0).upd hcc0).upd hcn).upd hcr0
  iterate 2 wtm_at "m_bind"
  generalize (((((σ.upd cn (.cel none)).upd cr (.cel none)).upd cc (.cel none)).upd cn (.cel (some (.lst nn)))).upd cr (.cel (some (.lst nr)))) = σ₀ at *
  have hnn0 := x0 _ _ hnn
  have hnr0 := x0 _ _ hnr
  refine Exs.cons ?_
  repeat' wtm_at "mm"
  refine ⟨by simp, fun ne hne => ?_⟩
  have x1 : Ext σ₀ (σ₀.upd ne (.lst [])) := (Ext.refl _).upd hne
  have c1 : (σ₀.upd ne (.lst [])) ne = some (.lst (strL (early (at' names 5) []))) := Sto.upd_self ..
  generalize (σ₀.upd ne (.lst [])) = σ₁ at x1 c1 ⊢
  repeat' wtm_at "mm"
  refine ⟨by simp, fun nl hnl => ?_⟩
  have x2 : Ext σ₁ (σ₁.upd nl (.lst [])) := (Ext.refl _).upd hnl
  have c2 : (σ₁.upd nl (.lst [])) nl = some (.lst (strL (late (at' names 5) []))) := Sto.upd_self ..
  have x02 := x1.trans x2
  have c1' := x2 _ _ c1
  have hnl0 : σ₀ nl = none := x1.none hnl
  have m1 : ne ≠ nl := fun q => by rw [q, hnl] at c1; cases c1
  have ne0 : ∀ {k c}, σ₀ k = some c → k ≠ ne ∧ k ≠ nl := fun {k c} e => ⟨fun q => (by rw [q, hne] at e; cases e), fun q => (by rw [q, hnl0] at e; cases e)⟩
  generalize (σ₁.upd nl (.lst [])) = σ₂ at *
  have gnn := x02 _ _ hnn0
  have gcn := x02 _ _ e4
  repeat' wtm_at "mm"
  refine Ex.for ?_
  repeat' wtm_at "mm"
  refine ⟨_, .lst gnn, ?_⟩
  refine l_part T D5 D6 D7 D8 D10 glen hm he l6 m1 (ne0 hnn0).1 (ne0 hnn0).2 (ne0 e4).1 (ne0 e4).2 names [] 0 σ₂ rfl rfl (by lia) gcn gnn c1' c2 ?_
  intro σ₃ h1 h2 h3
  have x3 : Ext σ₀ σ₃ := fun k c e => by rw [h1 k (ne0 e).1 (ne0 e).2]; exact x02 _ _ e
  have gnn3 := x3 _ _ hnn0
  have gcn3 := x3 _ _ e4
  have gcr3 := x3 _ _ e5
  have gcc3 := x3 _ _ e3
  have gnr3 := x3 _ _ hnr0
  unfold partLoc
  repeat' wtm_at "mm"
  refine Opr.getItem gnn3 (i := 5) (by lia) (v := .str (at' names 5)) (by exact h5) lnn ?_
  repeat' wtm_at "mm"
  refine Calls.index gnr3 (by lia) ok.at_ ok.no ?_ (by lia)
  have m2 : ∀ {k c}, σ₀ k = some c → k ≠ cc → (σ₃.upd cc (.cel (some (.int j)))) k = some c := fun {k c} e h => by rw [upd_ne h]; exact x3 _ _ e
  have q1 : nn ≠ cc := fun q => by rw [q, e3] at hnn0; cases hnn0
  have q2 : nr ≠ cc := fun q => by rw [q, e3] at hnr0; cases hnr0
  have q3 : ne ≠ cc := fun q => by rw [q, e3] at hne; cases hne
  have q4 : nl ≠ cc := fun q => by rw [q, e3] at hnl0; cases hnl0
  have hE : Ext σ (σ₃.upd cc (.cel (some (.int j)))) := fun k c e => by
    have hk : k ≠ cc := fun q => by rw [q, hcc0] at e; cases e
    exact m2 (x0 _ _ e) hk
  wtm_at "m_bind"
  refine t_parted ok (Sto.upd_self ..) (m2 e5 n2) (m2 hnr0 q2) (m2 e4 n3) (m2 hnn0 q1) (by rw [upd_ne q3]; exact h2) (by rw [upd_ne q4]; exact h3) ?_
  intro σ' ρ hx
  exact ⟨rfl, hE.trans hx⟩
end

section
variable {R : RT} {σ : Sto} {a : Addr} {code : Value} {d : Nat} {fm : Fm} {st : St}

/-- a list of the old heap -/
theorem old_list {h : Heap} (K : OldK R.h₀ h) {p : Addr} {items : Array Value} (hn : R.h₀.PlainList p items) : h.PlainList p items := by
  obtain ⟨n, e⟩ := hn
  exact ⟨n, K.get_of_cls e (by simp)⟩
theorem Calls.len_raw {p : Addr} {items : Array Value} {K : AV → Sto → Prop} (hn : R.h₀.PlainList p items) (hl : items.size < 1048576) (k : K (.int items.size) σ) (hd : 2 ≤ d) : Calls R d (bi "len") [.raw (.ref p)] [] σ K :=
  Calls.give k (fun A L s args' hu hh H ha Q E k' => by
    obtain ⟨_, rfl, h1⟩ := ha.one
    obtain rfl := h1.raw_inv
    refine Calls.call_len_list (old_list H.old hn).isList (by lia) ?_
    exact k' _ _ _ (.int _ _) fun _ _ e => e) hd
theorem Ev.subRaw {p : Addr} {items : Array Value} {e i : PySem.Expr} {pos : Pos} {K : AV → St → Prop} (hn : R.h₀.PlainList p items) (hd : 2 ≤ d)
    (h : Ev R d fm e st fun o st₁ => Ev R d fm i st₁ fun iv st₂ => o = .raw (.ref p) ∧ Opr R (op2 PySem.getItem) [o, iv] st₂.σ fun v σ' => K v ⟨st₂.ρ, σ'⟩)
    (hs : ∀ o v, subscripted i false o v = operate [o, v] (getItem o v) := by intro _ _; with_unfolding_all rfl) : Ev R d fm (.Subscript e i pos) st K :=
  fun A L s r ht P Q E k => by
    rw [eval_Subscript]
    refine wpAny_bind (h.run r ht P fun o' s₁ L₁ o st₁ h₁ ht₁ P₁ ho g₁ _ => wpAny_bind (wpAny_holding (h₁.run r ht₁ P₁ fun i' s₂ L₂ i st₂ h₂ ht₂ P₂ hi g₂ sg₂ => wpAny_bind (wpAny_standAt ?_))))
    obtain ⟨rfl, h₂⟩ := h₂
    have ho₂ := ho.mono g₂.pre sg₂
    obtain rfl := ho₂.raw_inv
    obtain ⟨ep, px⟩ := old_list P₂.1.old hn
    refine wpAny_bind ?_
    rw [getitemInPython_of_ne (by simp)]
    refine wpAny_bind (wpAny_specialOf (T := "list") ⟨_, px, rfl⟩ slot_list_getitem.lookup (wpAny_pure (wpAny_bind ?_)))
    rw [hs]
    refine wpAny_operating ?_
    exact h₂.run (args' := [.ref p, i']) (r.less hd) ht₂ P₂ (.cons ho₂ (.cons hi .nil)) fun v' s₃ L₃ v σ' hk ht₃ P₃ hv g₃ =>
      wpAny_bind (wpAny_letTemporaryGo (wpAny_pure (k _ _ _ _ _ hk P₃ hv ((g₁.trans g₂ own_ok).trans g₃ own_ok))))
theorem ints_get : ∀ {vs : List Value} {ns : List Int}, IntsAre vs ns → vs.length = ns.length ∧ ∀ {i : Nat} {n : Int}, ns[i]? = some n → ∃ t, vs[i]? = some (.int n t)
  | _, _, .nil => ⟨rfl, fun h => by simp at h⟩
  | _, _, .cons n t r => by
    obtain ⟨h1, h2⟩ := ints_get r
    refine ⟨by simp [h1], fun {i m} h => ?_⟩
    match i with
    | 0 => simp at h; subst h; exact ⟨t, rfl⟩
    | i + 1 =>
      obtain ⟨t', e⟩ := h2 (i := i) (by simpa using h)
      exact ⟨t', by simpa using e⟩
theorem Opr.getItemRaw {p : Addr} {vs : List Value} {ns : List Int} {i n : Int} {K : AV → Sto → Prop} (hn : R.h₀.PlainList p vs.toArray) (hI : IntsAre vs ns) (h0 : 0 ≤ i) (hi : ns[i.toNat]? = some n) (hl : ns.length < 1048576) (hk : K (.int n) σ) : Opr R (op2 PySem.getItem) [.raw (.ref p), .int i] σ K :=
  .give hk fun A L s args' r H ha Q E k' => by
    obtain ⟨_, _, rfl, h1, h2⟩ := ha.two
    obtain ⟨t, rfl⟩ := h2.int_inv
    obtain rfl := h1.raw_inv
    obtain ⟨e1, e2⟩ := ints_get hI
    obtain ⟨t', e⟩ := e2 hi
    have : i.toNat < ns.length := (List.getElem?_eq_some_iff.mp hi).1
    exact wpAny_getItem_list (old_list H.old hn).isList h0 (by simp; lia) (by simpa using e) (k' _ s.toks (.int _ _))

theorem l_cellsR {p : Addr} {vs : List Value} {n : Nat} {xs : List Int} {env : Env} {K : Out → St → Prop} (hm : R.h₀.PlainList p vs.toArray) (hI : IntsAre vs xs) (hx : xs.length ≤ 63) : ∀ (r : List Int) (k : Nat) (c0 c1 : Int), xs.drop k = r → k ≤ xs.length →
    K .next ⟨[("script", .val (.raw (.ref p))), ("cells", .val (.lst n))], σ.upd n (.lst [.int (cellsGo r k (c0, c1)).1, .int (cellsGo r k (c0, c1)).2])⟩ →
    Fl R (d + 2) ⟨fnS (stm 13), env⟩ (forT ((fnB (stm 13))[1]?.getD default)) (.rng k xs.length) (forB ((fnB (stm 13))[1]?.getD default)) ⟨[("script", .val (.raw (.ref p))), ("cells", .val (.lst n))], σ.upd n (.lst [.int c0, .int c1])⟩ K := by
  intro r
  induction r with
  | nil =>
    intro k p q hr hk hK
    have : xs.length = k := by
      have := congrArg List.length hr
      simp at this; lia
    exact Fl.step (.rng_none (by lia)) hK
  | cons y r ih =>
    intro k c0 c1 hr hk hK
    have hlt : k < xs.length := by
      have := congrArg List.length hr
      simp at this; lia
    have hy : xs[k]? = some y := by
      have := congrArg (·[0]?) hr
      simpa using this
    have hr' : xs.drop (k + 1) = r := by
      have := congrArg List.tail hr
      simpa using this
    refine Fl.step (.rng_some (by lia)) ?_
    refine asg_loc rfl (by wtm_at "m_upd") ?_
    refine Exs.cons ?_
    have hn : (σ.upd n (.lst [.int c0, .int c1])) n = some (.lst [.int c0, .int c1]) := Sto.upd_self ..
    have gs : ∀ {KK : AV → Sto → Prop}, KK (.int y) (σ.upd n (.lst [.int c0, .int c1])) → Opr R (op2 PySem.getItem) [.raw (.ref p), .int (k : Int)] (σ.upd n (.lst [.int c0, .int c1])) KK := fun {KK} kk => Opr.getItemRaw hm hI (by lia) (by rw [Int.toNat_natCast]; exact hy) (by lia) kk
    repeat' wtm_at "mm"
    refine Opr.fmod_int (by decide) ?_
    rw [show ((k : Int)).fmod 2 = ((k % 2 : Nat) : Int) from fmod_nat k 2]
    repeat' wtm_at "mm"
    rcases Nat.mod_two_eq_zero_or_one k with h | h
    · rw [h]
      refine Opr.getItem hn (by decide) (v := .int c0) rfl (by simp) ?_
      refine Ev.subRaw hm (by lia) ?_
      repeat' wtm_at "mm"
      refine ⟨rfl, gs ?_⟩
      repeat' wtm_at "mm"
      refine Opr.fmod_int (by decide) ?_
      rw [show ((k : Int)).fmod 2 = ((k % 2 : Nat) : Int) from fmod_nat k 2, h]
      refine ⟨n, _, _, rfl, rfl, by decide, hn, by simp, by simp, ?_⟩
      repeat' wtm_at "mm"
      refine Fl.drop (ρ' := [("script", .val (.raw (.ref p))), ("cells", .val (.lst n))]) ⟨_, rfl⟩ ?_
      rw [Sto.upd_upd]
      refine ih (k + 1) (c0 + y) c1 hr' (by lia) ?_
      simpa [cellsGo, h] using hK
    · rw [h]
      refine Opr.getItem hn (by decide) (v := .int c1) rfl (by simp) ?_
      refine Ev.subRaw hm (by lia) ?_
      repeat' wtm_at "mm"
      refine ⟨rfl, gs ?_⟩
      repeat' wtm_at "mm"
      refine Opr.fmod_int (by decide) ?_
      rw [show ((k : Int)).fmod 2 = ((k % 2 : Nat) : Int) from fmod_nat k 2, h]
      refine ⟨n, _, _, rfl, rfl, by decide, hn, by simp, by simp, ?_⟩
      repeat' wtm_at "mm"
      refine Fl.drop (ρ' := [("script", .val (.raw (.ref p))), ("cells", .val (.lst n))]) ⟨_, rfl⟩ ?_
      rw [Sto.upd_upd]
      refine ih (k + 1) c0 (c1 + y) hr' (by lia) ?_
      simpa [cellsGo, h] using hK

theorem c_cellsR {a13 p : Addr} {vs : List Value} (T : Top0 R) (D : DefIs R 13 a13 code) (glen : GlobV R "len" (.builtin "len")) (grange : GlobV R "range" (.type "range")) {xs : List Int} (hm : R.h₀.PlainList p vs.toArray) (hI : IntsAre vs xs) (hx : xs.length ≤ 63) :
    Calls R (d + 3) (.raw (.ref a13)) [.raw (.ref p)] [] σ fun v σ' => ∃ n, v = .lst n ∧ σ n = none ∧ σ' = σ.upd n (.lst [.int (cellsGo xs 0 (60061, 8)).1, .int (cellsGo xs 0 (60061, 8)).2]) := by
  have hsz : vs.toArray.size = xs.length := by simp [(ints_get hI).1]
  refine Calls.def_ (names := ["script"]) T D (bok1 fun fd hp hd v => by unfold bindArgs; rw [hp, hd]; rfl) rfl ?_
  intro env he
  wtm_at "m_bind"
  refine Exs.cons ?_
  repeat' wtm_at "mm"
  refine ⟨by decide, fun n hn => ?_⟩
  repeat' wtm_at "mm"
  refine Ex.for ?_
  repeat' wtm_at "mm"
  refine Calls.len_raw hm (by lia) ?_ (by lia)
  rw [hsz]
  repeat' wtm_at "mm"
  refine Calls.range1 ?_
  refine ⟨_, .rng (by lia) (by lia) (by lia) (by lia) (by lia), ?_⟩
  refine l_cellsR (R := R) (σ := σ) (d := d) hm hI hx xs 0 60061 8 rfl (Nat.zero_le _) ?_
  repeat' wtm_at "mm"
  exact ⟨hn, rfl⟩
end

section
variable {R : RT} {σ : Sto} {a : Addr} {code : Value} {d : Nat} {fm : Fm}

/-- the two signs -/
structure MP (m0 m1 : Str) : Prop where
  h0 : Mark m0
  h1 : Mark m1
  ne : (m0 == m1) = false
theorem Mark.len {m : Str} (h : Mark m) : m.length = 2 := by obtain ⟨c, rfl⟩ := h; simp [Str.length]

noncomputable def lawLoc (ch cu cs cn nsc nc nm : Nat) (B : Int) : Loc := [("heights", .cel ch), ("units", .cel cu), ("stretch", .cel cs), ("names", .cel cn), ("script", .val (.raw (.ref nsc))), ("cells", .val (.lst nc)), ("marks", .val (.lst nm)), ("base", .val (.int B))]

theorem s_A1 {ch cu cs cn nsc nc nm : Nat} {c0 c1 : Int} {a14 a15 : Addr} {c14 c15 : Value} {env : Env} {K : Out → St → Prop} (T : Top0 R) (D14 : DefIs R 14 a14 c14) (D15 : DefIs R 15 a15 c15) (glen : GlobV R "len" (.builtin "len")) (grange : GlobV R "range" (.type "range"))
    (hc : σ nc = some (.lst [.int c0, .int c1])) (hcn : σ cn = some (.cel none))
    (hK : ∀ (σ' : Sto) (nn : Nat) (B : Int) (num : Nat), 2 ≤ B → B ≤ 91 → σ' nn = some (.lst (strL (namesGo 6 num typed []))) → σ' cn = some (.cel (some (.lst nn))) → ExtBut cn σ σ' →
      Exs R (d + 7) ⟨fnS (stm 21), env⟩ ((fnB (stm 21)).drop 4) ⟨lawLoc ch cu cs cn nsc nc nm B, σ'⟩ K) :
    Exs R (d + 7) ⟨fnS (stm 21), env⟩ ((fnB (stm 21)).drop 2) ⟨[("heights", .cel ch), ("units", .cel cu), ("stretch", .cel cs), ("names", .cel cn), ("script", .val (.raw (.ref nsc))), ("cells", .val (.lst nc)), ("marks", .val (.lst nm))], σ⟩ K := by
  have g15 : GlobV R "_law_names" (.ref a15) := D15.glob
  refine Exs.cons ?_
  repeat' wtm_at "mm"
  refine Opr.getItem hc (i := 1) (by lia) (v := .int c1) rfl (by simp) ?_
  repeat' wtm_at "mm"
  refine Opr.fmod_int (by decide) ?_
  have b1 : 0 ≤ c1.fmod 90 := Int.fmod_nonneg_of_pos _ (by decide)
  have b2 : c1.fmod 90 < 90 := Int.fmod_lt_of_pos _ (by decide)
  repeat' wtm_at "mm"
  refine Opr.getItem hc (i := 0) (by lia) (v := .int c0) rfl (by simp) ?_
  repeat' wtm_at "mm"
  refine Opr.fmod_int (by decide) ?_
  have b3 : 0 ≤ c0.fmod 60480 := Int.fmod_nonneg_of_pos _ (by decide)
  obtain ⟨num, hnum⟩ : ∃ num : Nat, c0.fmod 60480 = num := ⟨(c0.fmod 60480).toNat, by lia⟩
  rw [hnum]
  repeat' wtm_at "mm"
  refine (c_names T D15 D14 glen grange num).mono fun v σ₁ hq => ?_
  obtain ⟨nn, rfl, h1, h2, h3⟩ := hq
  have hcn1 := h3 _ _ hcn
  have n1 : nn ≠ cn := fun q => by rw [q, hcn] at h2; cases h2
  wtm_at "m_bind"
  exact hK _ nn (2 + c1.fmod 90) num (by lia) (by lia) (by rw [upd_ne n1]; exact h1) (Sto.upd_self ..) h3.but.upd

theorem s_A {ch cu cs cn nsc : Nat} {xs : List Int} {a13 a14 a15 : Addr} {c13 c14 c15 : Value} {env : Env} {K : Out → St → Prop} (T : Top0 R) (D13 : DefIs R 13 a13 c13) (D14 : DefIs R 14 a14 c14) (D15 : DefIs R 15 a15 c15) (glen : GlobV R "len" (.builtin "len")) (grange : GlobV R "range" (.type "range"))
    {vs : List Value} (hsc : R.h₀.PlainList nsc vs.toArray) (hI : IntsAre vs xs) (hxs : xs.length ≤ 63) (hcn : σ cn = some (.cel none))
    (hK : ∀ (σ' : Sto) (nc nm nn : Nat) (m0 m1 : Str) (B : Int) (num : Nat), MP m0 m1 → 2 ≤ B → B ≤ 91 → σ' nm = some (.lst (strL [m0, m1])) → σ' nn = some (.lst (strL (namesGo 6 num typed []))) → σ' cn = some (.cel (some (.lst nn))) → ExtBut cn σ σ' →
      Exs R (d + 7) ⟨fnS (stm 21), env⟩ ((fnB (stm 21)).drop 4) ⟨lawLoc ch cu cs cn nsc nc nm B, σ'⟩ K) :
    Exs R (d + 7) ⟨fnS (stm 21), env⟩ (fnB (stm 21)) ⟨[("heights", .cel ch), ("units", .cel cu), ("stretch", .cel cs), ("names", .cel cn), ("script", .val (.raw (.ref nsc)))], σ⟩ K := by
  have g13 : GlobV R "_law_cells" (.ref a13) := D13.glob
  refine Exs.cons ?_
  repeat' wtm_at "mm"
  refine (c_cellsR T D13 glen grange hsc hI hxs).mono fun v σ₁ hq => ?_
  obtain ⟨nc, rfl, h1, rfl⟩ := hq
  generalize cellsGo xs 0 (60061, 8) = cc
  obtain ⟨c0, c1⟩ := cc
  have x1 : Ext σ (σ.upd nc (.lst [.int c0, .int c1])) := (Ext.refl _).upd h1
  have hc1 : (σ.upd nc (.lst [.int c0, .int c1])) nc = some (.lst [.int c0, .int c1]) := Sto.upd_self ..
  dsimp only
  generalize (σ.upd nc (.lst [.int c0, .int c1])) = σ₁ at *
  repeat' wtm_at "mm"
  refine ⟨by simp, fun n1 f1 => ?_⟩
  have y1 : Ext σ₁ (σ₁.upd n1 (.lst [.str "\\(", .str "\\)"])) := (Ext.refl _).upd f1
  have d1 : (σ₁.upd n1 (.lst [.str "\\(", .str "\\)"])) n1 = some (.lst (strL ["\\(", "\\)"])) := Sto.upd_self ..
  generalize (σ₁.upd n1 (.lst [.str "\\(", .str "\\)"])) = τ₁ at y1 d1 ⊢
  repeat' wtm_at "mm"
  refine ⟨by simp, fun n2 f2 => ?_⟩
  have y2 : Ext τ₁ (τ₁.upd n2 (.lst [.str "\\)", .str "\\("])) := (Ext.refl _).upd f2
  have d2 : (τ₁.upd n2 (.lst [.str "\\)", .str "\\("])) n2 = some (.lst (strL ["\\)", "\\("])) := Sto.upd_self ..
  have d12 := y2 _ _ d1
  generalize (τ₁.upd n2 (.lst [.str "\\)", .str "\\("])) = τ₂ at y2 d2 d12 ⊢
  repeat' wtm_at "mm"
  refine ⟨by simp, fun n3 f3 => ?_⟩
  have y3 : Ext τ₂ (τ₂.upd n3 (.lst [.str "\\\\", .str "\\\""])) := (Ext.refl _).upd f3
  have d3 : (τ₂.upd n3 (.lst [.str "\\\\", .str "\\\""])) n3 = some (.lst (strL ["\\\\", "\\\""])) := Sto.upd_self ..
  have d13 := y3 _ _ d12
  have d23 := y3 _ _ d2
  generalize (τ₂.upd n3 (.lst [.str "\\\\", .str "\\\""])) = τ₃ at y3 d3 d13 d23 ⊢
  repeat' wtm_at "mm"
  refine ⟨by simp, fun n4 f4 => ?_⟩
  have y4 : Ext τ₃ (τ₃.upd n4 (.lst [.str "\\\"", .str "\\\\"])) := (Ext.refl _).upd f4
  have d4 : (τ₃.upd n4 (.lst [.str "\\\"", .str "\\\\"])) n4 = some (.lst (strL ["\\\"", "\\\\"])) := Sto.upd_self ..
  have d14 := y4 _ _ d13
  have d24 := y4 _ _ d23
  have d34 := y4 _ _ d3
  generalize (τ₃.upd n4 (.lst [.str "\\\"", .str "\\\\"])) = τ₄ at y4 d4 d14 d24 d34 ⊢
  repeat' wtm_at "mm"
  refine ⟨by simp, fun n5 f5 => ?_⟩
  have y5 : Ext τ₄ (τ₄.upd n5 (.lst [.lst n1, .lst n2, .lst n3, .lst n4])) := (Ext.refl _).upd f5
  have d5 : (τ₄.upd n5 (.lst [.lst n1, .lst n2, .lst n3, .lst n4])) n5 = some (.lst [.lst n1, .lst n2, .lst n3, .lst n4]) := Sto.upd_self ..
  have d15 := y5 _ _ d14
  have d25 := y5 _ _ d24
  have d35 := y5 _ _ d34
  have d45 := y5 _ _ d4
  have x5 := ((((x1.trans y1).trans y2).trans y3).trans y4).trans y5
  have hc5 := y5 _ _ (y4 _ _ (y3 _ _ (y2 _ _ (y1 _ _ hc1))))
  generalize (τ₄.upd n5 (.lst [.lst n1, .lst n2, .lst n3, .lst n4])) = τ₅ at y5 d5 d15 d25 d35 d45 x5 hc5 ⊢
  repeat' wtm_at "mm"
  refine Opr.getItem hc5 (i := 0) (by lia) (v := .int c0) rfl (by simp) ?_
  repeat' wtm_at "mm"
  refine Opr.getItem hc5 (i := 1) (by lia) (v := .int c1) rfl (by simp) ?_
  repeat' wtm_at "mm"
  refine Opr.fmod_int (by decide) ?_
  have b1 : 0 ≤ (c0 + c1).fmod 4 := Int.fmod_nonneg_of_pos _ (by decide)
  have b2 : (c0 + c1).fmod 4 < 4 := Int.fmod_lt_of_pos _ (by decide)
  have hcn5 := x5 _ _ hcn
  obtain ⟨nm, m0, m1, hg, hm, hmp⟩ : ∃ nm m0 m1, ([AV.lst n1, .lst n2, .lst n3, .lst n4])[((c0 + c1).fmod 4).toNat]? = some (.lst nm) ∧ τ₅ nm = some (.lst (strL [m0, m1])) ∧ MP m0 m1 := by
    have : (c0 + c1).fmod 4 = 0 ∨ (c0 + c1).fmod 4 = 1 ∨ (c0 + c1).fmod 4 = 2 ∨ (c0 + c1).fmod 4 = 3 := by lia
    rcases this with e | e | e | e <;> rw [e]
    · exact ⟨n1, _, _, rfl, d15, ⟨40, by decide⟩, ⟨41, by decide⟩, by decide⟩
    · exact ⟨n2, _, _, rfl, d25, ⟨41, by decide⟩, ⟨40, by decide⟩, by decide⟩
    · exact ⟨n3, _, _, rfl, d35, ⟨92, by decide⟩, ⟨34, by decide⟩, by decide⟩
    · exact ⟨n4, _, _, rfl, d45, ⟨34, by decide⟩, ⟨92, by decide⟩, by decide⟩
  repeat' wtm_at "mm"
  refine Opr.getItem d5 b1 hg (by simp) ?_
  wtm_at "mm"
  refine s_A1 T D14 D15 glen grange hc5 hcn5 ?_
  intro σ' nn B num h1 h2 h3 h4 h5
  have hne : nm ≠ cn := fun q => by rw [q, hcn5] at hm; cases hm
  exact hK σ' nc nm nn m0 m1 B num hmp h1 h2 (h5 _ _ hne hm) h3 h4 (x5.but.trans h5)
end

section
variable {R : RT} {σ : Sto} {a : Addr} {code : Value} {d : Nat} {fm : Fm}

noncomputable def lawLocR (ch cu cs cn nsc nc nm : Nat) (B : Int) (nr : Nat) : Loc := [("heights", .cel ch), ("units", .cel cu), ("stretch", .cel cs), ("names", .cel cn), ("script", .val (.raw (.ref nsc))), ("cells", .val (.lst nc)), ("marks", .val (.lst nm)), ("base", .val (.int B)), ("ranked", .val (.lst nr))]

theorem l_rank {ch cu cs cn nsc nc nm nn nr : Nat} {B : Int} {names ranked : List Str} {π : List Nat} {a5 a6 a11 : Addr} {c11 : Value} {env : Env} {K : Out → St → Prop} (S : Setup names ranked π) (T : Top0 R) (D5 : DefKw R 5 a5) (D6 : DefKw R 6 a6) (D11 : DefIs R 11 a11 c11) (glen : GlobV R "len" (.builtin "len"))
    (n1 : cn ≠ nr) (n2 : nn ≠ nr) : ∀ (rest pre : List Nat) (Q : List Nat) (σ : Sto), π = pre ++ rest → Q.Pairwise (· < ·) → Q.Perm pre → σ nn = some (.lst (strL names)) → σ nr = some (.lst (strL (Q.map (at' ranked)))) →
      (∀ σ', (∀ k, k ≠ nr → σ' k = σ k) → σ' nr = some (.lst (strL ranked)) → K .next ⟨lawLocR ch cu cs cn nsc nc nm B nr, σ'⟩) →
      Fl R (d + 7) ⟨fnS (stm 21), env⟩ (forT ((fnB (stm 21))[5]?.getD default)) (.lst nn pre.length) (forB ((fnB (stm 21))[5]?.getD default)) ⟨lawLocR ch cu cs cn nsc nc nm B nr, σ⟩ K := by
  have g5 : GlobV R "insort_right" (.ref a5) := D5.glob
  have g11 : GlobV R "_strxfrm" (.ref a11) := D11.glob
  have pl := S.pl
  intro rest
  induction rest with
  | nil =>
    intro pre Q σ hπ hQ hp hnn hnr hK
    rw [List.append_nil] at hπ
    subst hπ
    refine Fl.step (.lst_none hnn (by simp [strL, S.nl, pl])) (hK σ (fun _ _ => rfl) ?_)
    rw [hnr, sorted_range hQ (hp.trans S.pm), ← S.ranked_map]
  | cons r rest ih =>
    intro pre Q σ hπ hQ hp hnn hnr hK
    have hr : r < 6 := S.lt6 r (by rw [hπ]; simp)
    have hx : names[pre.length]? = some (at' ranked r) := by rw [S.nm, hπ]; simp
    have hn : r ∉ Q := fun h => by
      have := S.nd
      rw [hπ, List.nodup_append] at this
      exact this.2.2 r (hp.mem_iff.mp h) r (by simp) rfl
    have hQ6 : ∀ a ∈ Q, a < 6 := fun a h => S.lt6 a (by rw [hπ]; exact List.mem_append_left _ (hp.mem_iff.mp h))
    have hQl : Q.length ≤ 6 := by
      rw [hp.length_eq]
      have := congrArg List.length hπ
      simp at this; lia
    obtain ⟨Q', e1, e2, e3⟩ := S.rank_step hQ hQ6 hr hn
    refine Fl.step (.lst_some (v := .str (at' ranked r)) hnn (by simp [strL, hx])) ?_
    unfold lawLocR
    refine asg_loc rfl (by wtm_at "m_upd") ?_
    refine Exs.cons (Ex.ite ?_)
    refine Tst.boolop ?_
    refine All.or_cons ?_
    repeat' wtm_at "mm"
    have hk : KeyOk R (d + 5) σ (strL (Q.map (at' ranked))) (.raw (.ref a11)) (.str (at' ranked r)) false (pS false (Q.map (at' ranked)) (at' ranked r)) := keyok_xfrm (d := d + 4) T D11 _ _ false
    refine (c_insr (d := d + 3) T D5 D6 glen hnr (by simp [strL]; lia) hk (fun v h => by cases h) (fun v h => by cases h) ((c_strxfrm T D11 _).mono fun v σ' h => h)).mono fun v σ₁ hq => ?_
    obtain ⟨rfl, rfl⟩ := hq
    rw [e1]
    have hnn1 : (σ.upd nr (.lst (strL (Q'.map (at' ranked))))) nn = some (.lst (strL names)) := by rw [upd_ne n2]; exact hnn
    have hnr1 : (σ.upd nr (.lst (strL (Q'.map (at' ranked))))) nr = some (.lst (strL (Q'.map (at' ranked)))) := Sto.upd_self ..
    have ho : ∀ k, k ≠ nr → (σ.upd nr (.lst (strL (Q'.map (at' ranked))))) k = σ k := fun k h => upd_ne h
    generalize (σ.upd nr (.lst (strL (Q'.map (at' ranked))))) = σ₁ at *
    repeat' wtm_at "mm"
    rw [show (!AV.none.isNone) = false from rfl]
    dsimp only
    repeat' wtm_at "mm"
    refine (c_strxfrm T D11 _).mono fun v σ₂ hq => ?_
    obtain ⟨rfl, rfl⟩ := hq
    repeat' wtm_at "mm"
    rw [show (at' ranked r != at' ranked r) = false by simp]
    dsimp only
    repeat' wtm_at "mm"
    have hlen : pre.length + 1 = (pre ++ [r]).length := by simp
    rw [hlen]
    refine Fl.drop (ρ' := lawLocR ch cu cs cn nsc nc nm B nr) ⟨_, rfl⟩ (ih (pre ++ [r]) Q' _ (by rw [hπ]; simp) e2 (e3.trans ?_) hnn1 hnr1 ?_)
    · exact (List.Perm.cons r hp).trans (by simpa using (List.perm_append_comm (l₁ := [r]) (l₂ := pre)))
    · intro σ' h1 h2
      exact hK σ' (fun k h => (h1 k h).trans (ho k h)) h2

theorem s_B {ch cu cs cn nsc nc nm nn : Nat} {B : Int} {names ranked : List Str} {π : List Nat} {a5 a6 a11 : Addr} {c11 : Value} {env : Env} {K : Out → St → Prop} (S : Setup names ranked π) (T : Top0 R) (D5 : DefKw R 5 a5) (D6 : DefKw R 6 a6) (D11 : DefIs R 11 a11 c11) (glen : GlobV R "len" (.builtin "len"))
    (hcn : σ cn = some (.cel (some (.lst nn)))) (hnn : σ nn = some (.lst (strL names)))
    (hK : ∀ (σ' : Sto) (nr : Nat), σ' nr = some (.lst (strL ranked)) → Ext σ σ' → Exs R (d + 7) ⟨fnS (stm 21), env⟩ ((fnB (stm 21)).drop 6) ⟨lawLocR ch cu cs cn nsc nc nm B nr, σ'⟩ K) :
    Exs R (d + 7) ⟨fnS (stm 21), env⟩ ((fnB (stm 21)).drop 4) ⟨lawLoc ch cu cs cn nsc nc nm B, σ⟩ K := by
  unfold lawLoc
  refine Exs.cons ?_
  repeat' wtm_at "mm"
  refine ⟨by simp, fun nr hnr => ?_⟩
  have x1 : Ext σ (σ.upd nr (.lst [])) := (Ext.refl _).upd hnr
  have c1 : (σ.upd nr (.lst [])) nr = some (.lst (strL (([] : List Nat).map (at' ranked)))) := Sto.upd_self ..
  have ne : ∀ {k c}, σ k = some c → k ≠ nr := fun {k c} e q => by rw [q, hnr] at e; cases e
  generalize (σ.upd nr (.lst [])) = σ₁ at *
  have hcn1 := x1 _ _ hcn
  have hnn1 := x1 _ _ hnn
  repeat' wtm_at "mm"
  refine Ex.for ?_
  repeat' wtm_at "mm"
  refine ⟨_, .lst hnn1, ?_⟩
  refine l_rank S T D5 D6 D11 glen (ne hcn) (ne hnn) π [] [] σ₁ rfl (by simp) (.refl _) hnn1 c1 ?_
  intro σ₂ h1 h2
  exact hK σ₂ nr h2 fun k c e => by rw [h1 k (ne e)]; exact x1 _ _ e
end

section
variable {R : RT} {σ : Sto} {a : Addr} {code : Value} {d : Nat} {fm : Fm}

/-- a range's loop that only lays more -/
theorem l_all {x : Str} {p : Pos} {b : List Stmt} {base : Loc} {K : Out → St → Prop} {σ₀ : Sto} (hx : fm.scope.names.lookup x = some .local) (hu : ∀ i : Int, Upd base x (.int i) (base ++ [(x, .val (.int i))])) (first hi : Nat)
    (hbody : ∀ (i : Nat) (K' : Out → St → Prop) (σ : Sto), first ≤ i → i < hi → Ext σ₀ σ → (∀ ρ' σ', Pre base ρ' → Ext σ σ' → K' .next ⟨ρ', σ'⟩) → Exs R d fm b ⟨base ++ [(x, .val (.int i))], σ⟩ K') :
    ∀ (k lo : Nat) (σ : Sto), first ≤ lo → lo + k = hi → Ext σ₀ σ → (∀ σ', Ext σ₀ σ' → K .next ⟨base, σ'⟩) → Fl R d fm (.Name x p) (.rng lo hi) b ⟨base, σ⟩ K := by
  intro k
  induction k with
  | zero => intro lo σ hf h hx hK; exact Fl.step (.rng_none (by lia)) (hK σ hx)
  | succ k ih =>
    intro lo σ hf h hxt hK
    refine Fl.step (.rng_some (by lia)) (asg_loc hx (hu lo) (hbody lo _ σ hf (by lia) hxt fun ρ' σ' hρ hx' => ?_))
    exact Fl.drop hρ (ih (lo + 1) σ' (by lia) (by lia) (hxt.trans hx') hK)

theorem s_C {ch cu cs cn nsc nc nm nn nr : Nat} {B : Int} {names ranked : List Str} {π : List Nat} {a5 a6 a7 a8 a10 a14 a17 : Addr} {c10 c14 : Value} {c P : Addr} {env : Env} {K : Out → St → Prop} (S : Setup names ranked π) (T : Top0 R) (D14 : DefIs R 14 a14 c14) (D17 : DefIs R 17 a17 (.ref c)) (hm : (c, P) ∈ R.tabs)
    (D5 : DefKw R 5 a5) (D6 : DefKw R 6 a6) (D7 : DefKw R 7 a7) (D8 : DefKw R 8 a8) (D10 : DefIs R 10 a10 c10) (glen : GlobV R "len" (.builtin "len"))
    (hcn : σ cn = some (.cel (some (.lst nn)))) (hnn : σ nn = some (.lst (strL names))) (hnr : σ nr = some (.lst (strL ranked)))
    (hK : ∀ (σ' : Sto), Ext σ σ' → Exs R (d + 7) ⟨fnS (stm 21), env⟩ ((fnB (stm 21)).drop 7) ⟨lawLocR ch cu cs cn nsc nc nm B nr, σ'⟩ K) :
    Exs R (d + 7) ⟨fnS (stm 21), env⟩ ((fnB (stm 21)).drop 6) ⟨lawLocR ch cu cs cn nsc nc nm B nr, σ⟩ K := by
  have g14 : GlobV R "_law_typed" (.ref a14) := D14.glob
  have g17 : GlobV R "_law_parted" (.ref a17) := D17.glob
  unfold lawLocR
  refine Exs.cons (Ex.ite ?_)
  refine Tst.boolop ?_
  refine All.or_cons ?_
  refine Tst.cmp (Nat.le_add_left 2 _) ?_
  repeat' wtm_at "mm"
  refine Ev.comp (ρ' := [("names", .cel cn)]) (by wtm_at "m_cap") (by wtm_at "m_kinds") ?_
  repeat' wtm_at "mm"
  refine (c_typed T D14).mono fun v σ₁ hq => ?_
  obtain ⟨nt, rfl, hnt, rfl⟩ := hq
  have x1 : Ext σ (σ.upd nt (.lst (strL typed))) := (Ext.refl _).upd hnt
  have c1 : (σ.upd nt (.lst (strL typed))) nt = some (.lst (strL typed)) := Sto.upd_self ..
  generalize (σ.upd nt (.lst (strL typed))) = σ₁ at *
  refine ⟨_, .lst c1, fun n env' hn => ?_⟩
  have ne1 : nt ≠ n := fun q => by rw [q, hn] at c1; cases c1
  refine cl_all (xs := typed) (val := AV.str) (p := fun y => names.contains y) (f := AV.str) (by with_unfolding_all rfl) (fun v => by simp only [List.cons_append, List.nil_append]; wtm_at "m_upd") ?_ ?_ typed _ [] _ (fun _ h => h) (Gives.lst (by rw [upd_ne ne1]; exact c1) ne1 _ 0 rfl) (ExtBut.refl _ _) (Sto.upd_self ..) (by decide) ?_
  · intro y hy σ₂ KK hx hKK
    simp only [List.cons_append, List.nil_append] at hKK ⊢
    have x2 := x1.trans (hx.of_upd hn)
    have h1 := x2 _ _ hcn
    have h2 := x2 _ _ hnn
    refine Tst.cmp (Nat.le_add_left 2 _) ?_
    repeat' wtm_at "mm"
    refine Opr.in_strs h2 ?_
    refine ⟨_, rfl, ?_⟩
    exact hKK _ (Ext.refl _)
  · intro y hy _ σ₂ KK hx hKK
    simp only [List.cons_append, List.nil_append] at hKK ⊢
    repeat' wtm_at "mm"
    exact hKK _ (Ext.refl _)
  intro σ₂ hx2 hl2
  have x2 := x1.trans (hx2.of_upd hn)
  have e : ([] ++ (typed.filter fun y => names.contains y).map AV.str) = strL ranked := by rw [S.sel]; rfl
  rw [e] at hl2
  have hnr2 := x2 _ _ hnr
  refine Opr.ne_lst hnr2 hl2 (eqvs_strs _).1 ?_
  rw [(eqvs_strs _).2, show (!true) = false from rfl]
  refine ⟨_, rfl, ?_⟩
  dsimp only
  have hcn2 := x2 _ _ hcn
  have hnn2 := x2 _ _ hnn
  refine All.or_cons ?_
  refine Tst.not ?_
  refine Tst.val ?_
  repeat' wtm_at "mm"
  refine (c_parted (d := d) T D17 hm D5 D6 D7 D8 D10 glen S.part_ok hnn2 hnr2).mono fun v σ₃ hq => ?_
  obtain ⟨rfl, hx3⟩ := hq
  refine ⟨_, rfl, ?_⟩
  rw [show (!true) = false from rfl]
  dsimp only
  repeat' (first | exact hK σ₃ (x2.trans hx3) | wtm_at "mm")

theorem s_D {ch cu cs cn nsc nc nm nn nr : Nat} {B : Int} {names ranked : List Str} {π : List Nat} {a10 : Addr} {c10 : Value} {env : Env} {K : Out → St → Prop} (S : Setup names ranked π) (T : Top0 R) (D10 : DefIs R 10 a10 c10) (grange : GlobV R "range" (.type "range")) (gis : GlobV R "isinstance" (.builtin "isinstance")) (gb : GlobV R "bool" (.type "bool")) (gint : GlobV R "int" (.type "int"))
    (hnr : σ nr = some (.lst (strL ranked)))
    (hK : ∀ (σ' : Sto), Ext σ σ' → Exs R (d + 7) ⟨fnS (stm 21), env⟩ ((fnB (stm 21)).drop 8) ⟨lawLocR ch cu cs cn nsc nc nm B nr, σ'⟩ K) :
    Exs R (d + 7) ⟨fnS (stm 21), env⟩ ((fnB (stm 21)).drop 7) ⟨lawLocR ch cu cs cn nsc nc nm B nr, σ⟩ K := by
  have g10 : GlobV R "_strcoll" (.ref a10) := D10.glob
  have lr : (strL ranked).length < 1048576 := by simp [strL, S.rl]
  refine Exs.cons (Ex.for ?_)
  repeat' wtm_at "mm"
  refine Calls.range2 ?_
  refine ⟨_, .rng (by lia) (by lia) (by lia) (by lia) (by lia), ?_⟩
  refine l_all (base := lawLocR ch cu cs cn nsc nc nm B nr) (σ₀ := σ) rfl (fun i => by unfold lawLocR; simp only [List.cons_append, List.nil_append]; wtm_at "m_upd") 1 6 ?_ 5 1 σ (by lia) (by lia) (Ext.refl _) hK
  intro i K' σ₁ h1 h2 hx hk
  unfold lawLocR
  simp only [List.cons_append, List.nil_append]
  have hr1 := hx _ _ hnr
  have a1 := at_get (l := ranked) (i := i) (by rw [S.rl]; exact h2)
  have a0 := at_get (l := ranked) (i := i - 1) (by rw [S.rl]; lia)
  have v1 : coll (at' ranked (i - 1)) (at' ranked i) = -1 := by
    rw [S.coll_eq (by lia) h2, decide_eq_true (p := i - 1 < i) (by lia), decide_eq_false (by lia)]; rfl
  have v2 : coll (at' ranked i) (at' ranked i) = 0 := by rw [S.coll_eq h2 h2, decide_eq_false (by lia)]; rfl
  have v3 : coll (at' ranked i) (at' ranked (i - 1)) = 1 := by
    rw [S.coll_eq h2 (by lia), decide_eq_true (p := i - 1 < i) (by lia), decide_eq_false (by lia)]; rfl
  have gi1 : ∀ {KK : AV → Sto → Prop}, KK (.str (at' ranked i)) σ₁ → Opr R (op2 getItem) [.lst nr, .int i] σ₁ KK := fun {KK} k => Opr.getItem hr1 (by lia) (v := .str (at' ranked i)) (by rw [Int.toNat_natCast]; exact a1) lr k
  have gi0 : ∀ {KK : AV → Sto → Prop}, KK (.str (at' ranked (i - 1))) σ₁ → Opr R (op2 getItem) [.lst nr, .int ((i : Int) - 1)] σ₁ KK := fun {KK} k => Opr.getItem hr1 (by lia) (v := .str (at' ranked (i - 1))) (by rw [show ((i : Int) - 1).toNat = i - 1 by lia]; exact a0) lr k
  refine Exs.cons ?_
  repeat' wtm_at "mm"
  refine gi0 ?_
  repeat' wtm_at "mm"
  refine gi1 ?_
  repeat' wtm_at "mm"
  refine Calls.coll T D10 ?_
  repeat' wtm_at "mm"
  refine gi1 ?_
  repeat' wtm_at "mm"
  refine gi1 ?_
  repeat' wtm_at "mm"
  refine Calls.coll T D10 ?_
  repeat' wtm_at "mm"
  refine gi1 ?_
  repeat' wtm_at "mm"
  refine gi0 ?_
  repeat' wtm_at "mm"
  refine Calls.coll T D10 ?_
  repeat' wtm_at "mm"
  rw [v1, v2, v3]
  refine ⟨by simp, fun nw hnw => ?_⟩
  have x1 : Ext σ₁ (σ₁.upd nw (.lst [.int (-1), .int 0, .int 1])) := (Ext.refl _).upd hnw
  have cw : (σ₁.upd nw (.lst [.int (-1), .int 0, .int 1])) nw = some (.lst [.int (-1), .int 0, .int 1]) := Sto.upd_self ..
  generalize (σ₁.upd nw (.lst [.int (-1), .int 0, .int 1])) = σ₂ at *
  repeat' wtm_at "mm"
  refine ⟨by simp, fun n2 hn2 => ?_⟩
  have x2 : Ext σ₂ (σ₂.upd n2 (.lst [.int (-1), .int 0, .int 1])) := (Ext.refl _).upd hn2
  have c2 : (σ₂.upd n2 (.lst [.int (-1), .int 0, .int 1])) n2 = some (.lst [.int (-1), .int 0, .int 1]) := Sto.upd_self ..
  have cw2 := x2 _ _ cw
  generalize (σ₂.upd n2 (.lst [.int (-1), .int 0, .int 1])) = σ₃ at *
  refine Opr.ne_lst cw2 c2 (.cons (.int _ _) (.cons (.int _ _) (.cons (.int _ _) .nil))) ?_
  rw [show (!eqvs [AV.int (-1), .int 0, .int 1] [AV.int (-1), .int 0, .int 1]) = false from rfl]
  refine ⟨_, rfl, ?_⟩
  dsimp only
  refine All.or_cons ?_
  refine Tst.cmp (Nat.le_add_left 2 _) ?_
  refine Ev.comp (ρ' := []) (by wtm_at "m_cap") (by wtm_at "m_kinds") ?_
  repeat' wtm_at "mm"
  refine ⟨_, .lst cw2, fun n env' hn => ?_⟩
  have ne1 : nw ≠ n := fun q => by rw [q, hn] at cw2; cases cw2
  refine cl_all (xs := [(-1 : Int), 0, 1]) (val := AV.int) (p := fun _ => false) (f := AV.int) (by with_unfolding_all rfl) (fun v => by simp only [List.cons_append, List.nil_append]; wtm_at "m_upd") ?_ ?_ [(-1 : Int), 0, 1] _ [] _ (fun _ h => h) (Gives.lst (l := [AV.int (-1), .int 0, .int 1]) (by rw [upd_ne ne1]; exact cw2) ne1 _ 0 rfl) (ExtBut.refl _ _) (Sto.upd_self ..) (by decide) ?_
  · intro y hy σ₂ KK hx hKK
    simp only [List.cons_append, List.nil_append] at hKK ⊢
    refine Tst.boolop ?_
    refine All.or_cons (Tst.val ?_)
    repeat' wtm_at "mm"
    refine Calls.isi_bool ?_ (by lia)
    refine ⟨_, rfl, ?_⟩
    try dsimp only
    refine All.or_cons (Tst.not (Tst.val ?_))
    repeat' wtm_at "mm"
    refine Calls.isi_int ?_ (by lia)
    refine ⟨_, rfl, ?_⟩
    try rw [show (!true) = false from rfl]
    try dsimp only
    repeat' wtm_at "mm"
    exact hKK _ (Ext.refl _)
  · intro y hy h
    cases h
  intro σ₄ hx4 hl4
  have x4 := hx4.of_upd hn
  rw [show ([] ++ ([(-1 : Int), 0, 1].filter fun _ => false).map AV.int) = [] from rfl] at hl4
  repeat' wtm_at "mm"
  refine ⟨by simp, fun n5 hn5 => ?_⟩
  have x5 : Ext σ₄ (σ₄.upd n5 (.lst [])) := (Ext.refl _).upd hn5
  refine Opr.ne_lst (x5 _ _ hl4) (Sto.upd_self ..) .nil ?_
  refine ⟨_, rfl, ?_⟩
  rw [show (!eqvs [] []) = false from rfl]
  dsimp only
  repeat' wtm_at "mm"
  exact hk _ _ ⟨_, rfl⟩ (((x1.trans x2).trans x4).trans x5)
end

section
variable {R : RT} {σ : Sto} {a : Addr} {code : Value} {d : Nat} {fm : Fm}

/-- all stays but what three cells hold -/
structure X3 (cs cu ch : Nat) (σ σ' : Sto) : Prop where
  lst : ∀ k l, σ k = some (.lst l) → σ' k = some (.lst l)
  cel : ∀ k v, k ≠ cs → k ≠ cu → k ≠ ch → σ k = some (.cel v) → σ' k = some (.cel v)
  c1 : ∀ v, σ cs = some (.cel v) → ∃ w, σ' cs = some (.cel w)
  c2 : ∀ v, σ cu = some (.cel v) → ∃ w, σ' cu = some (.cel w)
  c3 : ∀ v, σ ch = some (.cel v) → ∃ w, σ' ch = some (.cel w)
theorem X3.trans {cs cu ch : Nat} {a b c : Sto} (x : X3 cs cu ch a b) (y : X3 cs cu ch b c) : X3 cs cu ch a c where
  lst := fun k l h => y.lst k l (x.lst k l h)
  cel := fun k v h1 h2 h3 h => y.cel k v h1 h2 h3 (x.cel k v h1 h2 h3 h)
  c1 := fun v h => by obtain ⟨w, h⟩ := x.c1 v h; exact y.c1 w h
  c2 := fun v h => by obtain ⟨w, h⟩ := x.c2 v h; exact y.c2 w h
  c3 := fun v h => by obtain ⟨w, h⟩ := x.c3 v h; exact y.c3 w h
theorem Ext.x3 {cs cu ch : Nat} {a b : Sto} (x : Ext a b) : X3 cs cu ch a b :=
  ⟨fun _ _ h => x _ _ h, fun _ _ _ _ _ h => x _ _ h, fun v h => ⟨v, x _ _ h⟩, fun v h => ⟨v, x _ _ h⟩, fun v h => ⟨v, x _ _ h⟩⟩
theorem ne_lc {k c : Nat} {l : List AV} {v : Option AV} (h : σ k = some (.lst l)) (h' : σ c = some (.cel v)) : k ≠ c := fun q => by rw [q, h'] at h; cases h
theorem cel_keep {k c : Nat} {v v' : Option AV} (h : σ k = some (.cel v)) : ∃ w, (σ.upd c (.cel v')) k = some (.cel w) := by
  by_cases q : k = c
  · exact ⟨v', by rw [q, Sto.upd_self]⟩
  · exact ⟨v, by rw [upd_ne q]; exact h⟩
theorem X3.upd {cs cu ch c : Nat} {v : Option AV} {w : Option AV} (h : σ c = some (.cel v)) (hc : c = cs ∨ c = cu ∨ c = ch) : X3 cs cu ch σ (σ.upd c (.cel w)) where
  lst := fun k l e => by rw [upd_ne (ne_lc e h)]; exact e
  cel := fun k u h1 h2 h3 e => by
    rw [upd_ne (by rcases hc with rfl | rfl | rfl <;> assumption)]; exact e
  c1 := fun u e => cel_keep e
  c2 := fun u e => cel_keep e
  c3 := fun u e => cel_keep e

noncomputable def lawLocI (ch cu cs cn nsc nc nm : Nat) (B : Int) (nr np st : Nat) : Loc := [("heights", .cel ch), ("units", .cel cu), ("stretch", .cel cs), ("names", .cel cn), ("script", .val (.raw (.ref nsc))), ("cells", .val (.lst nc)), ("marks", .val (.lst nm)), ("base", .val (.int B)), ("ranked", .val (.lst nr)), ("pile", .val (.lst np)), ("start", .val (.int st))]
noncomputable def lawLocX (ch cu cs cn nsc nc nm : Nat) (B : Int) (nr np st ni : Nat) : Loc := [("heights", .cel ch), ("units", .cel cu), ("stretch", .cel cs), ("names", .cel cn), ("script", .val (.raw (.ref nsc))), ("cells", .val (.lst nc)), ("marks", .val (.lst nm)), ("base", .val (.int B)), ("ranked", .val (.lst nr)), ("pile", .val (.lst np)), ("start", .val (.int st)), ("item", .val (.lst ni))]
noncomputable def lawLocJ (ch cu cs cn nsc nc nm : Nat) (B : Int) (nr np st ni : Nat) (bare : Str) : Loc := [("heights", .cel ch), ("units", .cel cu), ("stretch", .cel cs), ("names", .cel cn), ("script", .val (.raw (.ref nsc))), ("cells", .val (.lst nc)), ("marks", .val (.lst nm)), ("base", .val (.int B)), ("ranked", .val (.lst nr)), ("pile", .val (.lst np)), ("start", .val (.int st)), ("item", .val (.lst ni)), ("bare", .val (.str bare))]
noncomputable def ib (j : Nat) : List Stmt := (forB ((fnB (stm 21))[10]?.getD default)).drop j

theorem s_E {ch cu cs cn nsc nc nm nn nr : Nat} {B : Int} {names ranked : List Str} {m0 m1 : Str} {a8 a11 a16 : Addr} {c11 c16 : Value} {env : Env} {K : Out → St → Prop} (T : Top0 R) (D16 : DefIs R 16 a16 c16) (D8 : DefKw R 8 a8) (D11 : DefIs R 11 a11 c11)
    (glen : GlobV R "len" (.builtin "len")) (gmin : GlobV R "min" (.builtin "min")) (gmax : GlobV R "max" (.builtin "max")) (hrl : ranked.length < 1048576)
    (hm0 : m0.length ≤ 2) (hm1 : m1.length ≤ 2) (ho : PilesOk ranked m0 m1 names []) (hcn : σ cn = some (.cel (some (.lst nn)))) (hmk : σ nm = some (.lst (strL [m0, m1]))) (hr : σ nr = some (.lst (strL ranked))) (hn : σ nn = some (.lst (strL names)))
    (hK : ∀ (σ' : Sto) (np : Nat) (ns : List Nat), σ' np = some (.lst (refs ns.reverse)) → ItsR σ' ns (pileGo ranked m0 m1 names []) → Ext σ σ' → Exs R (d + 7) ⟨fnS (stm 21), env⟩ ((fnB (stm 21)).drop 10) ⟨lawLocI ch cu cs cn nsc nc nm B nr np 0, σ'⟩ K) :
    Exs R (d + 7) ⟨fnS (stm 21), env⟩ ((fnB (stm 21)).drop 8) ⟨lawLocR ch cu cs cn nsc nc nm B nr, σ⟩ K := by
  have g16 : GlobV R "_law_pile" (.ref a16) := D16.glob
  unfold lawLocR
  refine Exs.cons ?_
  repeat' wtm_at "mm"
  refine (c_pile (d := d + 2) T D16 D8 D11 glen gmin gmax hrl hm0 hm1 ho hmk hr hn).mono fun v σ₁ hq => ?_
  obtain ⟨np, ns, rfl, h1, h2, h3, h4⟩ := hq
  repeat' (first | exact hK σ₁ np ns h1 h2 h4 | wtm_at "mm")

/-- what is asked of a stretch -/
structure IF (names ranked : List Str) (m1 : Str) (B : Int) (st : Nat) (i : It) : Prop where
  le : i.lo ≤ i.hi
  hi : i.hi < 6
  fit : st + (i.hi - i.lo + 1) ≤ 6
  nl : names.length = 6
  rl : ranked.length = 6
  short : ∀ y ∈ names, y.length ≤ 2
  tl : i.text.length ≤ 900
  pos : ∀ y ∈ i.units, 1 ≤ y.length
  stp : strip i.text = Str.join "" i.units
  stp2 : strip (i.text ++ "\"(") = Str.join "" i.units ++ "\"("
  esc : escs 0 false (Str.join "" i.units ++ "\\").cps.toList = places 0 (i.units ++ [("\\" : Str)])
  chk : check i.text = true
  chk2 : check ((")" : Str) ++ i.text) = false
  chk3 : check (Str.join "" i.units ++ ")(") = false
  hok : HOk i.units
  hlen : (heightsOf i.units m1 B).length = i.hi - i.lo + 1
  rise : (heightsOf i.units m1 B).Pairwise fun p q => p.1 < q.1
  apart : ∀ a b, a < i.hi - i.lo + 1 → b < i.hi - i.lo + 1 → a ≠ b → ((heightsOf i.units m1 B).getD a (0, 0)).2 ≠ ((heightsOf i.units m1 B).getD b (0, 0)).2
  order : ∀ l : List Nat, l.Perm (List.range (i.hi - i.lo + 1)) → (l.Pairwise fun a b => ((heightsOf i.units m1 B).getD a (0, 0)).2 < ((heightsOf i.units m1 B).getD b (0, 0)).2) →
    l.map (at' (slice names st (st + (i.hi - i.lo + 1)))) = slice ranked i.lo (i.hi + 1)

theorem slice_len {l : List Str} {i j : Nat} (h : j ≤ l.length) (h' : i ≤ j) : (slice l i j).length = j - i := by
  simp [slice]; lia

/-- the body's first rows: stretch, start, units, bare -/
theorem b_0 {ch cu cs cn nsc nc nm nn nr np ni nu st : Nat} {B : Int} {names ranked : List Str} {m1 : Str} {i : It} {a1 a2 : Addr} {c2 : Value} {env : Env} {K : Out → St → Prop} (T : Top0 R) (D2 : DefIs R 2 a2 c2) (G : GDef R a1) (gi : GlobV R "_iter_escaped_chars" (.ref a1)) (glen : GlobV R "len" (.builtin "len"))
    (F : IF names ranked m1 B st i) (n1 : cn ≠ cs) (n2 : cn ≠ cu) (n3 : cn ≠ ch) (n4 : cs ≠ cu) {v1 v2 : Option AV} (hcs : σ cs = some (.cel v1)) (hcu : σ cu = some (.cel v2)) (hcn : σ cn = some (.cel (some (.lst nn)))) (hn : σ nn = some (.lst (strL names)))
    (hi : σ ni = some (.lst [.int i.lo, .int i.hi, .str i.text, .lst nu])) (hu : σ nu = some (.lst (strL i.units)))
    (hK : ∀ (σ' : Sto) (nst nun : Nat), X3 cs cu ch σ σ' → σ' cs = some (.cel (some (.lst nst))) → σ' nst = some (.lst (strL (slice names st (st + (i.hi - i.lo + 1))))) → σ' cu = some (.cel (some (.lst nun))) → σ' nun = some (.lst (strL (i.units ++ [("\\" : Str)]))) →
      Exs R (d + 7) ⟨fnS (stm 21), env⟩ (ib 4) ⟨lawLocJ ch cu cs cn nsc nc nm B nr np (st + (i.hi - i.lo + 1)) ni (Str.join "" i.units), σ'⟩ K) :
    Exs R (d + 7) ⟨fnS (stm 21), env⟩ (ib 0) ⟨lawLocX ch cu cs cn nsc nc nm B nr np st ni, σ⟩ K := by
  have g2 : GlobV R "_strip_quoted_realnames" (.ref a2) := D2.glob
  have e1 := F.le; have e2 := F.hi; have e3 := F.fit; have e4 := F.nl; have e5 := F.tl; have e6 := F.hok.len
  unfold lawLocX
  refine Exs.cons (Ex.assign ?_)
  refine Ev.slice ?_
  repeat' wtm_at "mm"
  refine Opr.getItem hi (i := 1) (by lia) (v := .int i.hi) rfl (by simp) ?_
  repeat' wtm_at "mm"
  refine Opr.getItem hi (i := 0) (by lia) (v := .int i.lo) rfl (by simp) ?_
  repeat' wtm_at "mm"
  refine ⟨nn, _, rfl, hn, by simp [strL]; lia, fun nst hst => ?_⟩
  rw [show ((st : Int) + (i.hi : Int) - (i.lo : Int) + 1) = ((st + (i.hi - i.lo + 1) : Nat) : Int) by lia, sliceL_some (by lia) (by lia)]
  generalize hS : slice names st (st + (i.hi - i.lo + 1)) = S
  have hSl : S.length = i.hi - i.lo + 1 := by rw [← hS, slice_len (by lia) (by lia)]; lia
  have x1 : Ext σ (σ.upd nst (.lst (strL S))) := (Ext.refl _).upd hst
  have d1 : (σ.upd nst (.lst (strL S))) nst = some (.lst (strL S)) := Sto.upd_self ..
  generalize (σ.upd nst (.lst (strL S))) = σ₁ at *
  have hcs1 := x1 _ _ hcs
  wtm_at "m_bind"
  have x2 : X3 cs cu ch σ₁ (σ₁.upd cs (.cel (some (.lst nst)))) := X3.upd hcs1 (.inl rfl)
  have d2 : (σ₁.upd cs (.cel (some (.lst nst)))) cs = some (.cel (some (.lst nst))) := Sto.upd_self ..
  have d1' := x2.lst _ _ d1
  have x12 : X3 cs cu ch σ _ := x1.x3.trans x2
  have hcu2 : (σ₁.upd cs (.cel (some (.lst nst)))) cu = some (.cel v2) := by rw [upd_ne (Ne.symm n4)]; exact x1 _ _ hcu
  generalize (σ₁.upd cs (.cel (some (.lst nst)))) = σ₂ at *
  repeat' wtm_at "mm"
  refine Calls.len_lst d1' (by simp [strL]; lia) ?_ (by lia)
  rw [show ((strL S).length : Int) = ((i.hi - i.lo + 1 : Nat) : Int) by simp [strL, hSl]]
  have hi2 := x12.lst _ _ hi
  have hu2 := x12.lst _ _ hu
  repeat' wtm_at "mm"
  refine Opr.getItem hi2 (i := 3) (by lia) (v := .lst nu) rfl (by simp) ?_
  repeat' wtm_at "mm"
  refine ⟨by simp, fun n5 h5 => ?_⟩
  have x3 : Ext σ₂ (σ₂.upd n5 (.lst [.str "\\"])) := (Ext.refl _).upd h5
  have d5 : (σ₂.upd n5 (.lst [.str "\\"])) n5 = some (.lst (strL [("\\" : Str)])) := Sto.upd_self ..
  generalize (σ₂.upd n5 (.lst [.str "\\"])) = σ₃ at *
  refine Opr.add_lst (x3 _ _ hu2) d5 (by simp [strL]; lia) fun nun h6 => ?_
  rw [← strL_append]
  have x4 : Ext σ₃ (σ₃.upd nun (.lst (strL (i.units ++ [("\\" : Str)])))) := (Ext.refl _).upd h6
  have d6 : (σ₃.upd nun (.lst (strL (i.units ++ [("\\" : Str)])))) nun = some (.lst (strL (i.units ++ [("\\" : Str)]))) := Sto.upd_self ..
  generalize (σ₃.upd nun (.lst (strL (i.units ++ [("\\" : Str)])))) = σ₄ at *
  have x34 := x3.trans x4
  have hcu4 := x34 _ _ hcu2
  wtm_at "m_bind"
  have x5 : X3 cs cu ch σ₄ (σ₄.upd cu (.cel (some (.lst nun)))) := X3.upd hcu4 (.inr (.inl rfl))
  have d7 : (σ₄.upd cu (.cel (some (.lst nun)))) cu = some (.cel (some (.lst nun))) := Sto.upd_self ..
  have d8 : (σ₄.upd cu (.cel (some (.lst nun)))) cs = some (.cel (some (.lst nst))) := by rw [upd_ne n4]; exact x34 _ _ d2
  have d9 := x5.lst _ _ d6
  have x15 : X3 cs cu ch σ _ := (x12.trans x34.x3).trans x5
  have d10 := x5.lst _ _ (x34 _ _ d1')
  generalize (σ₄.upd cu (.cel (some (.lst nun)))) = σ₅ at *
  have hi5 := x15.lst _ _ hi
  repeat' wtm_at "mm"
  refine Opr.getItem hi5 (i := 2) (by lia) (v := .str i.text) rfl (by simp) ?_
  repeat' wtm_at "mm"
  refine (c_strip (d := d + 4) T D2 G gi glen (by lia)).mono fun v σ₆ hq => ?_
  obtain ⟨rfl, x6⟩ := hq
  rw [F.stp]
  have hfin := hK σ₆ nst nun (x15.trans x6.x3) (x6 _ _ d8) (by rw [hS]; exact x6 _ _ d10) (x6 _ _ d7) (x6 _ _ d9)
  wtm_at "m_bind"
  rw [show ((st : Int) + ((i.hi - i.lo + 1 : Nat) : Int)) = ((st + (i.hi - i.lo + 1) : Nat) : Int) by lia]
  exact hfin
end

/- the stretches are as they are asked to be -/
theorem Tr.fit_of {N : Nat → Str} : ∀ t : Tr, (∀ r ∈ t.leaves, QOk (N r)) → t.Fit N
  | .leaf r, h => h r (by simp [Tr.leaves])
  | .node _ l r, h => ⟨Tr.fit_of l fun x hx => h x (by simp [Tr.leaves, hx]), Tr.fit_of r fun x hx => h x (by simp [Tr.leaves, hx])⟩
theorem Tr.text_len {N : Nat → Str} {m0 m1 : Str} (h0 : m0.length ≤ 2) (h1 : m1.length ≤ 2) : ∀ t : Tr, (∀ r ∈ t.leaves, (quote (N r)).length ≤ 2) → (t.text N m0 m1).length ≤ 9 * t.size + 5
  | .leaf r, h => by
    have := h r (by simp [Tr.leaves])
    have e1 : Str.length "\"" = 1 := by decide
    have e2 : Str.length "\"," = 2 := by decide
    simp only [Tr.text, strLen_append, Tr.size]; lia
  | .node up l r, h => by
    have hl := Tr.text_len h0 h1 l fun x hx => h x (by simp [Tr.leaves, hx])
    have hr := Tr.text_len h0 h1 r fun x hx => h x (by simp [Tr.leaves, hx])
    have e1 : Str.length "(" = 1 := by decide
    have e2 : Str.length ")" = 1 := by decide
    have hm : (if up then m0 else m1).length ≤ 2 := by cases up <;> simp [h0, h1]
    simp only [Tr.text, strLen_append, Tr.size]; lia

inductive IFs (names ranked : List Str) (m1 : Str) (B : Int) : Nat → List It → Prop
  | nil {st} : IFs names ranked m1 B st []
  | cons {st i r} : IF names ranked m1 B st i → IFs names ranked m1 B (st + (i.hi - i.lo + 1)) r → IFs names ranked m1 B st (i :: r)
noncomputable def wide : List It → Nat
  | [] => 0
  | i :: r => (i.hi - i.lo + 1) + wide r
theorem IFs.snoc {names ranked : List Str} {m1 : Str} {B : Int} : ∀ {l : List It} {st : Nat} {i : It}, IFs names ranked m1 B st l → IF names ranked m1 B (st + wide l) i → IFs names ranked m1 B st (l ++ [i])
  | [], st, i, _, h => .cons (by simpa [wide] using h) .nil
  | y :: l, st, i, .cons h1 h2, h => .cons h1 (IFs.snoc h2 (by simpa [wide, Nat.add_assoc] using h))
theorem wide_append : ∀ a b : List It, wide (a ++ b) = wide a + wide b
  | [], b => by simp [wide]
  | i :: a, b => by simp [wide, wide_append a b, Nat.add_assoc]

theorem signed_lt {r : List Nat} {h : List (Int × Int)} (hl : h.length = r.length) (hp : (r.zip h).Pairwise fun p q => (p.1 < q.1 ∧ p.2.2 < q.2.2) ∨ (q.1 < p.1 ∧ q.2.2 < p.2.2)) {a b : Nat} (ha : a < r.length) (hb : b < r.length) :
    (a ≠ b → (h.getD a (0, 0)).2 ≠ (h.getD b (0, 0)).2) ∧ ((h.getD a (0, 0)).2 < (h.getD b (0, 0)).2 → r.getD a 0 < r.getD b 0) := by
  have key : ∀ i j (hi : i < r.length) (hj : j < r.length), i < j → (r.getD i 0 < r.getD j 0 ∧ (h.getD i (0, 0)).2 < (h.getD j (0, 0)).2) ∨ (r.getD j 0 < r.getD i 0 ∧ (h.getD j (0, 0)).2 < (h.getD i (0, 0)).2) := by
    intro i j hi hj hij
    have := List.pairwise_iff_getElem.mp hp i j (by simp [hl]; lia) (by simp [hl]; lia) hij
    simpa [List.getD, List.getElem?_eq_getElem hi, List.getElem?_eq_getElem hj, List.getElem?_eq_getElem (show i < h.length by lia), List.getElem?_eq_getElem (show j < h.length by lia)] using this
  rcases Nat.lt_trichotomy a b with hab | hab | hab
  · have := key a b ha hb hab
    exact ⟨fun _ => by lia, fun h => by lia⟩
  · subst hab; exact ⟨fun h => absurd rfl h, fun h => by lia⟩
  · have := key b a hb ha hab
    exact ⟨fun _ => by lia, fun h => by lia⟩

section
variable {names ranked : List Str} {π : List Nat} (S : Setup names ranked π) {m0 m1 : Str} (hm : MP m0 m1) {B : Int} (hB : 2 ≤ B)
include S hm hB

theorem item_ok {i : It} {t : Tr} {pre post : List Nat} (hit : ItT (at' ranked) m0 m1 i t) (hπ : π = pre ++ (t.leaves ++ post)) : IF names ranked m1 B pre.length i ∧ t.leaves.length = i.hi - i.lo + 1 := by
  obtain ⟨h1, h2, h3⟩ := hit
  have hle := h3.le
  have hpm := h3.perm
  have hlen : t.leaves.length = i.hi - i.lo + 1 := by rw [hpm.length_eq, List.length_range']; lia
  have pl := S.pl
  have hsz := t.leaves_len
  have htot : pre.length + (t.leaves.length + post.length) = 6 := by rw [← pl, hπ]; simp
  have h6 : ∀ r ∈ t.leaves, r < 6 := fun r hr => S.lt6 r (by rw [hπ]; simp [hr])
  have hhi : i.hi < 6 := h6 i.hi (hpm.mem_iff.mpr (List.mem_range'_1.mpr (by lia)))
  have hfit : t.Fit (at' ranked) := Tr.fit_of t fun r hr => typed_q _ (S.typ r (h6 r hr))
  have hl0 := hm.h0.len; have hl1 := hm.h1.len
  have hts := Tr.heights_eq hm.h0 hm.h1 hm.ne B t
  have hlH : (t.hts B 0).length = t.leaves.length := Tr.hts_len B t 0
  have hsg := Tr.hts_signed hB h3 0 (by lia)
  have hnm : slice names pre.length (pre.length + (i.hi - i.lo + 1)) = t.leaves.map (at' ranked) := by
    unfold slice
    rw [S.nm, hπ, List.map_append, List.map_append, List.drop_left' (by simp), show pre.length + (i.hi - i.lo + 1) - pre.length = (t.leaves.map (at' ranked)).length by rw [List.length_map]; lia, List.take_left' rfl]
  have hgood := t.good hm.h0 hm.h1
  refine ⟨⟨hle, hhi, by lia, S.nl, S.rl, fun y hy => ?_, ?_, fun y hy => ?_, ?_, ?_, ?_, ?_, ?_, ?_, ?_, ?_, ?_, ?_, ?_⟩, hlen⟩
  · rw [S.nm] at hy
    obtain ⟨r, hr, rfl⟩ := List.mem_map.mp hy
    exact (typed_ok _ (S.typ r (S.lt6 r hr))).1
  · rw [h1]
    have := Tr.text_len (N := at' ranked) (m0 := m0) (m1 := m1) (by lia) (by lia) t fun r hr => (typed_ok _ (S.typ r (h6 r hr))).2.2
    lia
  · rw [h2] at hy
    rcases (hgood.1 y hy).1 with ⟨c, rfl, _⟩ | ⟨c, rfl⟩ <;> simp [Str.length]
  · rw [h1, h2]; exact Tr.strip_text hm.h0 hm.h1 hfit
  · rw [h1, h2]; exact Tr.strip_tail hm.h0 hm.h1 hfit
  · rw [h2]; exact Tr.escs_bare hm.h0 hm.h1
  · rw [h1]; exact Tr.check_text hm.h0 hm.h1 hfit
  · rw [h1]; exact Tr.check_ahead hm.h0 hm.h1 hfit
  · rw [h2]; exact Tr.check_behind hm.h0 hm.h1
  · rw [h2]; exact Tr.hok hm.h0 hm.h1 t (by lia)
  · rw [h2, hts, hlH, hlen]
  · rw [h2, hts]; exact Tr.hts_rise hB t 0 (by lia)
  · intro a b ha hb hab
    rw [h2, hts]
    exact (signed_lt hlH hsg (by lia) (by lia)).1 hab
  · intro l hl hs
    rw [h2, hts] at hs
    rw [← hlen] at hl
    have hmem : ∀ a ∈ l, a < t.leaves.length := fun a ha => List.mem_range.mp (hl.mem_iff.mp ha)
    have hQ : (l.map (t.leaves.getD · 0)).Pairwise (· < ·) := by
      refine List.pairwise_map.mpr (List.Pairwise.imp_of_mem (fun {a b} ha hb h => ?_) hs)
      exact (signed_lt hlH hsg (hmem a ha) (hmem b hb)).2 h
    have hR : (List.range t.leaves.length).map (t.leaves.getD · 0) = t.leaves := List.ext_getElem (by simp) fun k k1 k2 => by
      simp [List.getD, List.getElem?_eq_getElem k2]
    have hQp : (l.map (t.leaves.getD · 0)).Perm (List.range' i.lo (i.hi + 1 - i.lo)) := by
      have := hl.map (t.leaves.getD · 0)
      rw [hR] at this
      exact this.trans hpm
    have hQe : l.map (t.leaves.getD · 0) = List.range' i.lo (i.hi + 1 - i.lo) :=
      List.Perm.eq_of_pairwise (le := (· < ·)) (fun a b _ _ h1 h2 => by lia) hQ List.pairwise_lt_range' hQp
    have e1 : l.map (at' (slice names pre.length (pre.length + (i.hi - i.lo + 1)))) = (l.map (t.leaves.getD · 0)).map (at' ranked) := by
      rw [List.map_map]
      refine List.map_congr_left fun a ha => ?_
      have ha' := hmem a ha
      rw [hnm]
      simp [at', List.getD, List.getElem?_eq_getElem ha']
    rw [e1, hQe]
    have e2 : slice ranked i.lo (i.hi + 1) = (((List.range 6).map (at' ranked)).drop i.lo).take (i.hi + 1 - i.lo) := by rw [← S.ranked_map]; rfl
    rw [e2, ← List.map_drop, ← List.map_take]
    congr 1
    have e3 : (List.range 6).drop i.lo = List.range' i.lo (i.hi + 1 - i.lo) ++ List.range' (i.hi + 1) (6 - (i.hi + 1)) := by
      rw [List.range_eq_range', List.drop_range', show 0 + i.lo * 1 = i.lo by lia, show 6 - i.lo = (i.hi + 1 - i.lo) + (6 - (i.hi + 1)) by lia, ← List.range'_append_1, show i.lo + (i.hi + 1 - i.lo) = i.hi + 1 by lia]
    rw [e3, List.take_left' (by simp)]

theorem items_ok : ∀ {p : List It} {ts : List Tr} (post : List Nat), ItTs (at' ranked) m0 m1 p ts → π = flatL ts ++ post → IFs names ranked m1 B 0 p.reverse ∧ wide p.reverse = (flatL ts).length
  | _, _, post, .nil, _ => ⟨.nil, rfl⟩
  | i :: p, t :: ts, post, .cons h1 h2, hπ => by
    have hπ' : π = flatL ts ++ (t.leaves ++ post) := by rw [hπ]; simp [flatL]
    obtain ⟨a1, a2⟩ := items_ok (t.leaves ++ post) h2 hπ'
    obtain ⟨b1, b2⟩ := item_ok S hm hB h1 hπ'
    rw [List.reverse_cons]
    refine ⟨a1.snoc (by rw [Nat.zero_add, a2]; exact b1), ?_⟩
    rw [wide_append, a2]
    simp only [wide, flatL, List.length_append]; lia

theorem pile_ok : IFs names ranked m1 B 0 (pileGo ranked m0 m1 names []).reverse ∧ (((pileGo ranked m0 m1 names []).length == 1) != crossed names) = true ∧ PilesOk ranked m0 m1 names [] := by
  have hr : ∀ r ∈ π, rankOf ranked (at' ranked r) = r := fun r hr => rank_of S (S.lt6 r hr)
  have hl0 := hm.h0.len; have hl1 := hm.h1.len
  refine ⟨?_, ?_, ?_⟩
  · obtain ⟨ts, h1, h2⟩ := pile_trees (N := at' ranked) (m0 := m0) (m1 := m1) (ranked := ranked) π [] [] hr .nil
    rw [← S.nm] at h1
    exact (items_ok S hm hB [] h1 (by rw [h2]; simp [flatL])).1
  · have h1 := pile_rk (ranked := ranked) (m0 := m0) (m1 := m1) π [] hr
    rw [← S.nm] at h1
    have h2 := congrArg List.length h1
    rw [List.length_map] at h2
    rw [h2, S.crossed_eq]
    exact pile_cross S.pm
  · refine piles_ok (by lia) (by lia) names 0 [] (fun x hx => ?_) (by rw [S.nl]; lia) (by simp [wt]) (by simp [wu]) (by simp)
    rw [S.nm] at hx
    obtain ⟨r, hr', rfl⟩ := List.mem_map.mp hx
    exact typed_ok _ (S.typ r (S.lt6 r hr'))
end

section
variable {R : RT} {σ : Sto} {a : Addr} {code : Value} {d : Nat} {fm : Fm}

theorem join_small {us : List Str} (h : ∀ y ∈ us, y.length ≤ 2) (hl : us.length ≤ 61) : (Str.join "" us).length ≤ 122 := by
  have := join_len "" 2 us h
  have h0 : Str.length "" = 0 := rfl
  rw [h0] at this; lia

theorem join_pos {us : List Str} (h : us ≠ []) (hp : ∀ y ∈ us, 1 ≤ y.length) : 1 ≤ (Str.join "" us).length := by
  cases us with
  | nil => exact absurd rfl h
  | cons y r =>
    have h1 := hp y (by simp)
    rw [← cps_len, join_cps, flat_cons, List.length_append, cps_len]; lia

/-- the text without what stands between marks -/
theorem b_1 {ch cu cs cn nsc nc nm nr np ni nu st st' : Nat} {B : Int} {names ranked : List Str} {m1 : Str} {i : It} {a1 a2 : Addr} {c2 : Value} {env : Env} {K : Out → St → Prop} (T : Top0 R) (D2 : DefIs R 2 a2 c2) (G : GDef R a1) (gi : GlobV R "_iter_escaped_chars" (.ref a1)) (glen : GlobV R "len" (.builtin "len"))
    (F : IF names ranked m1 B st i) (hi : σ ni = some (.lst [.int i.lo, .int i.hi, .str i.text, .lst nu])) (hu : σ nu = some (.lst (strL i.units)))
    (hK : ∀ (σ' : Sto), Ext σ σ' → Exs R (d + 7) ⟨fnS (stm 21), env⟩ (ib 5) ⟨lawLocJ ch cu cs cn nsc nc nm B nr np st' ni (Str.join "" i.units), σ'⟩ K) :
    Exs R (d + 7) ⟨fnS (stm 21), env⟩ (ib 4) ⟨lawLocJ ch cu cs cn nsc nc nm B nr np st' ni (Str.join "" i.units), σ⟩ K := by
  have g2 : GlobV R "_strip_quoted_realnames" (.ref a2) := D2.glob
  have e5 := F.tl; have e6 := F.hok.len
  have hB := F.hok.short
  have h0 : Str.length "" = 0 := rfl
  have hj := join_small hB (by lia)
  have hq : Str.length "\"(" = 2 := by decide
  unfold lawLocJ
  refine Exs.cons (Ex.ite ?_)
  refine Tst.boolop ?_
  refine All.or_cons ?_
  refine Tst.cmp (Nat.le_add_left 2 _) ?_
  repeat' wtm_at "mm"
  refine Opr.getItem hi (i := 3) (by lia) (v := .lst nu) rfl (by simp) ?_
  repeat' wtm_at "mm"
  refine Calls.join (B := 2) hu hB (by rw [h0]; lia) ?_ (by lia)
  repeat' wtm_at "mm"
  rw [show (Str.join "" i.units != Str.join "" i.units) = false by simp]
  dsimp only
  have s1 : i.text.length + Str.length "\"(" ≤ 16777216 := by lia
  have s2 : (Str.join "" i.units).length + Str.length "\"(" ≤ 16777216 := by lia
  repeat' wtm_at "mm"
  refine Opr.getItem hi (i := 2) (by lia) (v := .str i.text) rfl (by simp) ?_
  repeat' wtm_at "mm"
  refine (c_strip (d := d + 4) T D2 G gi glen (by rw [strLen_append]; lia)).mono fun v σ₁ hq => ?_
  obtain ⟨rfl, x1⟩ := hq
  rw [F.stp2]
  repeat' wtm_at "mm"
  rw [show (Str.join "" i.units ++ "\"(" != Str.join "" i.units ++ "\"(") = false by simp]
  dsimp only
  repeat' (first | exact hK σ₁ x1 | wtm_at "mm")

theorem sames_tup : ∀ l : List (Nat × Str), Sames (l.map tupOf) (l.map tupOf) ∧ eqvs (l.map tupOf) (l.map tupOf) = true
  | [] => ⟨.nil, rfl⟩
  | x :: l => by
    have ih := sames_tup l
    refine ⟨.cons (.pair _ _ _ _) ih.1, ?_⟩
    show ((tupOf x).eqv (tupOf x) && eqvs (l.map tupOf) (l.map tupOf)) = true
    rw [ih.2]; simp [tupOf, AV.eqv]

/-- the units with their last signs' places -/
theorem b_2 {ch cu cs cn nsc nc nm nr np ni nun st st' : Nat} {B : Int} {names ranked : List Str} {m1 : Str} {i : It} {a1 : Addr} {env : Env} {K : Out → St → Prop} (T : Top0 R) (G : GDef R a1) (gi : GlobV R "_iter_escaped_chars" (.ref a1)) (glen : GlobV R "len" (.builtin "len")) (grange : GlobV R "range" (.type "range")) (glist : GlobV R "list" (.type "list"))
    (F : IF names ranked m1 B st i) (hcu : σ cu = some (.cel (some (.lst nun)))) (hun : σ nun = some (.lst (strL (i.units ++ [("\\" : Str)]))))
    (hK : ∀ (σ' : Sto), Ext σ σ' → Exs R (d + 7) ⟨fnS (stm 21), env⟩ (ib 6) ⟨lawLocJ ch cu cs cn nsc nc nm B nr np st' ni (Str.join "" i.units), σ'⟩ K) :
    Exs R (d + 7) ⟨fnS (stm 21), env⟩ (ib 5) ⟨lawLocJ ch cu cs cn nsc nc nm B nr np st' ni (Str.join "" i.units), σ⟩ K := by
  have e6 := F.hok.len
  have hB := F.hok.short
  have hj := join_small hB (by lia)
  have hq : Str.length "\\" = 1 := by decide
  have h0 : Str.length "" = 0 := rfl
  have hplaces := F.esc
  generalize hus : i.units ++ [("\\" : Str)] = us at *
  have hul : us.length = i.units.length + 1 := by rw [← hus]; simp
  have hB' : ∀ y ∈ us, y.length ≤ 2 := fun y hy => by
    rw [← hus] at hy
    rcases List.mem_append.mp hy with h | h
    · exact hB y h
    · rw [List.mem_singleton.mp h, hq]; lia
  have hpos' : ∀ y ∈ us, 1 ≤ y.length := fun y hy => by
    rw [← hus] at hy
    rcases List.mem_append.mp hy with h | h
    · exact F.pos y h
    · rw [List.mem_singleton.mp h, hq]; lia
  have lus : (strL us).length < 1048576 := by simp [strL]; lia
  have s1 : (Str.join "" i.units).length + Str.length "\\" ≤ 16777216 := by lia
  have hpl : places 0 us = (List.range' 0 us.length).map fun k => ((Str.join "" (us.take (k + 1))).length - 1, at' us k) := by
    rw [places_map, ← List.range_eq_range']
    refine List.map_congr_left fun k _ => ?_
    rw [← join_cps, cps_len, Nat.zero_add]
  unfold lawLocJ
  refine Exs.cons (Ex.ite ?_)
  refine Tst.cmp (Nat.le_add_left 2 _) ?_
  refine Ev.listGen (d := d + 6) T.nolim G gi rfl glist rfl ?_
  repeat' wtm_at "mm"
  refine ⟨?_, fun n1 h1 => ?_⟩
  · rw [hplaces, hpl]; simp; lia
  rw [hplaces]
  have x1 : Ext σ (σ.upd n1 (.lst ((places 0 us).map tupOf))) := (Ext.refl _).upd h1
  have c1 : (σ.upd n1 (.lst ((places 0 us).map tupOf))) n1 = some (.lst ((places 0 us).map tupOf)) := Sto.upd_self ..
  generalize (σ.upd n1 (.lst ((places 0 us).map tupOf))) = σ₁ at *
  have hcu1 := x1 _ _ hcu
  have hun1 := x1 _ _ hun
  refine Ev.comp (ρ' := [("units", .cel cu)]) (by wtm_at "m_cap") (by wtm_at "m_kinds") ?_
  repeat' wtm_at "mm"
  refine Calls.len_lst hun1 lus ?_ (by lia)
  rw [show ((strL us).length : Int) = (us.length : Int) by simp [strL]]
  repeat' wtm_at "mm"
  refine Calls.range1 ?_
  refine ⟨_, .rng (by lia) (by lia) (by lia) (by lia) (by lia), fun n env' hn => ?_⟩
  refine cl_all (xs := List.range' 0 us.length) (val := fun (k : Nat) => AV.int (k : Int)) (p := fun _ => true) (f := fun k => tupOf ((Str.join "" (us.take (k + 1))).length - 1, at' us k)) (by with_unfolding_all rfl) (fun v => by simp only [List.cons_append, List.nil_append]; wtm_at "m_upd") ?_ ?_ _ _ [] _ (fun _ h => h) (Gives.rng us.length 0 us.length (by lia)) (ExtBut.refl _ _) (Sto.upd_self ..) (by simp; lia) ?_
  · intro k hk σ₂ KK hx hKK
    exact hKK _ (Ext.refl _)
  · intro k hk _ σ₂ KK hx hKK
    simp only [List.cons_append, List.nil_append] at hKK ⊢
    have hk' : k < us.length := by have := List.mem_range'_1.mp hk; lia
    have x2 := hx.of_upd hn
    have hcu2 := x2 _ _ hcu1
    have hun2 := x2 _ _ hun1
    have hu1 := at_get (l := us) (i := k) hk'
    have hB2 : ∀ y ∈ us.take (k + 1), y.length ≤ 2 := fun y hy => hB' y (List.mem_of_mem_take hy)
    have hj2 := join_small hB2 (by simp; lia)
    have hpos : 1 ≤ (Str.join "" (us.take (k + 1))).length := by
      have hne : us.take (k + 1) ≠ [] := by
        intro e
        have := congrArg List.length e
        rw [List.length_take, List.length_nil] at this; lia
      exact join_pos hne fun y hy => hpos' y (List.mem_of_mem_take hy)
    repeat' wtm_at "mm"
    refine Ev.slice ?_
    repeat' wtm_at "mm"
    refine ⟨nun, _, rfl, hun2, lus, fun m hm => ?_⟩
    rw [show ((k : Int) + 1) = ((k + 1 : Nat) : Int) from rfl, sliceL_to (by lia)]
    have x3 : Ext σ₂ (σ₂.upd m (.lst (strL (us.take (k + 1))))) := (Ext.refl _).upd hm
    have c3 : (σ₂.upd m (.lst (strL (us.take (k + 1))))) m = some (.lst (strL (us.take (k + 1)))) := Sto.upd_self ..
    generalize (σ₂.upd m (.lst (strL (us.take (k + 1))))) = σ₃ at *
    have hcu3 := x3 _ _ hcu2
    have hun3 := x3 _ _ hun2
    repeat' wtm_at "mm"
    refine Calls.join (B := 2) c3 hB2 (by rw [h0]; simp; lia) ?_ (by lia)
    repeat' wtm_at "mm"
    refine Calls.len_str (by lia) ?_ (by lia)
    repeat' wtm_at "mm"
    refine Opr.getItem hun3 (i := k) (by lia) (v := .str (at' us k)) (by rw [Int.toNat_natCast]; exact hu1) lus ?_
    repeat' wtm_at "mm"
    refine ⟨by simp, ?_⟩
    have := hKK _ x3
    rw [show ((Str.join "" (us.take (k + 1))).length : Int) - 1 = (((Str.join "" (us.take (k + 1))).length - 1 : Nat) : Int) by lia]
    exact this
  intro σ₄ hx4 hl4
  have x4 := hx4.of_upd hn
  have e4 : ([] ++ ((List.range' 0 us.length).filter fun _ => true).map fun k => tupOf ((Str.join "" (us.take (k + 1))).length - 1, at' us k)) = (places 0 us).map tupOf := by
    rw [List.filter_eq_self.mpr (fun _ _ => rfl), List.nil_append, hpl, List.map_map]; rfl
  rw [e4] at hl4
  refine Opr.ne_lst (x4 _ _ c1) hl4 (sames_tup _).1 ?_
  rw [(sames_tup _).2, show (!true) = false from rfl]
  refine ⟨_, rfl, ?_⟩
  dsimp only
  repeat' (first | exact hK σ₄ (x1.trans x4) | wtm_at "mm")

theorem bl_3 {ch cu cs cn nsc nc nm nr np ni nb st' : Nat} {B : Int} {bare x y : Str} {a1 a2 a3 : Addr} {c2 c3 : Value} {env : Env} {K : Out → St → Prop} (T : Top0 R) (D3 : DefIs R 3 a3 c3) (D2 : DefIs R 2 a2 c2) (G : GDef R a1) (gi : GlobV R "_iter_escaped_chars" (.ref a1)) (glen : GlobV R "len" (.builtin "len")) : ∀ (rest : List Str) (j : Nat) (σ : Sto), [x, y].drop j = rest → (∀ z ∈ rest, check z = false ∧ z.length ≤ 1000) → σ nb = some (.lst (strL [x, y])) →
      (∀ σ', Ext σ σ' → K .next ⟨lawLocJ ch cu cs cn nsc nc nm B nr np st' ni bare, σ'⟩) →
      Fl R (d + 7) ⟨fnS (stm 21), env⟩ (forT ((ib 7)[0]?.getD default)) (.lst nb j) (forB ((ib 7)[0]?.getD default)) ⟨lawLocJ ch cu cs cn nsc nc nm B nr np st' ni bare, σ⟩ K := by
  have g3 : GlobV R "_check_parenthesis" (.ref a3) := D3.glob
  intro rest
  induction rest with
  | nil =>
    intro j σ hd hc hb hK
    have : 2 ≤ j := by
      have := congrArg List.length hd
      simp at this; lia
    exact Fl.step (.lst_none hb (by simp [strL]; lia)) (hK σ (Ext.refl _))
  | cons z rest ih =>
    intro j σ hd hc hb hK
    have hz : [x, y][j]? = some z := by
      have := congrArg (·[0]?) hd
      simpa using this
    have hd' : [x, y].drop (j + 1) = rest := by
      have := congrArg List.tail hd
      simpa using this
    obtain ⟨hc1, hc2⟩ := hc z (by simp)
    refine Fl.step (.lst_some (v := .str z) hb (by
      show ([x, y].map AV.str)[j]? = _
      rw [List.getElem?_map, hz]; rfl)) ?_
    unfold lawLocJ
    refine asg_loc rfl (by wtm_at "m_upd") ?_
    refine Exs.cons (Ex.ite ?_)
    refine Tst.cmp (Nat.le_add_left 2 _) ?_
    repeat' wtm_at "mm"
    refine (c_check (d := d + 3) T D3 D2 G gi glen hc2).mono fun v σ₁ hq => ?_
    obtain ⟨rfl, x1⟩ := hq
    rw [hc1]
    repeat' wtm_at "mm"
    refine Opr.isNot_bool ?_
    rw [show (!(false == false)) = false from rfl]
    refine ⟨_, rfl, ?_⟩
    dsimp only
    repeat' wtm_at "mm"
    refine Fl.drop (ρ' := lawLocJ ch cu cs cn nsc nc nm B nr np st' ni bare) ⟨_, rfl⟩ (ih (j + 1) σ₁ hd' (fun w hw => hc w (by simp [hw])) (x1 _ _ hb) ?_)
    intro σ' hx
    exact hK σ' (x1.trans hx)

/-- the whole text is taken, and refused with a closing bracket ahead, as is what is left of it with two brackets behind -/
theorem b_3 {ch cu cs cn nsc nc nm nr np ni nu st st' : Nat} {B : Int} {names ranked : List Str} {m1 : Str} {i : It} {a1 a2 a3 : Addr} {c2 c3 : Value} {env : Env} {K : Out → St → Prop} (T : Top0 R) (D3 : DefIs R 3 a3 c3) (D2 : DefIs R 2 a2 c2) (G : GDef R a1) (gi : GlobV R "_iter_escaped_chars" (.ref a1)) (glen : GlobV R "len" (.builtin "len"))
    (F : IF names ranked m1 B st i) (hi : σ ni = some (.lst [.int i.lo, .int i.hi, .str i.text, .lst nu]))
    (hK : ∀ (σ' : Sto), Ext σ σ' → Exs R (d + 7) ⟨fnS (stm 21), env⟩ (ib 8) ⟨lawLocJ ch cu cs cn nsc nc nm B nr np st' ni (Str.join "" i.units), σ'⟩ K) :
    Exs R (d + 7) ⟨fnS (stm 21), env⟩ (ib 6) ⟨lawLocJ ch cu cs cn nsc nc nm B nr np st' ni (Str.join "" i.units), σ⟩ K := by
  have g3 : GlobV R "_check_parenthesis" (.ref a3) := D3.glob
  have e5 := F.tl; have e6 := F.hok.len
  have hB := F.hok.short
  have hj := join_small hB (by lia)
  have q1 : Str.length ")" = 1 := by decide
  have q2 : Str.length ")(" = 2 := by decide
  have s1 : Str.length ")" + i.text.length ≤ 16777216 := by lia
  have s2 : (Str.join "" i.units).length + Str.length ")(" ≤ 16777216 := by lia
  unfold lawLocJ
  refine Exs.cons (Ex.ite ?_)
  refine Tst.cmp (Nat.le_add_left 2 _) ?_
  repeat' wtm_at "mm"
  refine Opr.getItem hi (i := 2) (by lia) (v := .str i.text) rfl (by simp) ?_
  repeat' wtm_at "mm"
  refine (c_check (d := d + 3) T D3 D2 G gi glen (by lia)).mono fun v σ₁ hq => ?_
  obtain ⟨rfl, x1⟩ := hq
  rw [F.chk]
  repeat' wtm_at "mm"
  refine Opr.isNot_bool ?_
  rw [show (!(true == true)) = false from rfl]
  refine ⟨_, rfl, ?_⟩
  dsimp only
  have hi1 := x1 _ _ hi
  repeat' wtm_at "mm"
  refine Ex.for ?_
  repeat' wtm_at "mm"
  refine Opr.getItem hi1 (i := 2) (by lia) (v := .str i.text) rfl (by simp) ?_
  repeat' wtm_at "mm"
  refine ⟨by simp, fun nb hnb => ?_⟩
  have x2 : Ext σ₁ (σ₁.upd nb (.lst [.str ((")" : Str) ++ i.text), .str (Str.join "" i.units ++ ")(")])) := (Ext.refl _).upd hnb
  have c2 : (σ₁.upd nb (.lst [.str ((")" : Str) ++ i.text), .str (Str.join "" i.units ++ ")(")])) nb = some (.lst (strL [(")" : Str) ++ i.text, Str.join "" i.units ++ ")("])) := Sto.upd_self ..
  generalize (σ₁.upd nb (.lst [.str ((")" : Str) ++ i.text), .str (Str.join "" i.units ++ ")(")])) = σ₂ at *
  refine ⟨_, .lst c2, ?_⟩
  refine bl_3 T D3 D2 G gi glen _ 0 σ₂ rfl (fun z hz => ?_) c2 ?_
  · rcases List.mem_cons.mp hz with rfl | hz
    · exact ⟨F.chk2, by rw [strLen_append]; lia⟩
    · rw [List.mem_singleton.mp hz]
      exact ⟨F.chk3, by rw [strLen_append]; lia⟩
  intro σ₃ x3
  exact hK σ₃ ((x1.trans x2).trans x3)
end

section
variable {R : RT} {σ : Sto} {a : Addr} {code : Value} {d : Nat} {fm : Fm}

theorem PairsR.x3 {cs cu ch : Nat} {σ σ' : Sto} {ns : List Nat} {ps : List (Int × Int)} (h : PairsR σ ns ps) (x : X3 cs cu ch σ σ') : PairsR σ' ns ps := h.map fun n p e => x.lst n _ e
theorem PairsR.ext {σ σ' : Sto} {ns : List Nat} {ps : List (Int × Int)} (h : PairsR σ ns ps) (x : Ext σ σ') : PairsR σ' ns ps := h.map fun n p e => x _ _ e

/-- the heights, and that at one they rise -/
theorem b_4 {ch cu cs cn nsc nc nm nr np ni nu st st' : Nat} {B : Int} {names ranked : List Str} {m0 m1 : Str} {i : It} {a1 a2 a3 a18 a19 : Addr} {c2 c3 c18 c19 : Value} {env : Env} {K : Out → St → Prop} (T : Top0 R) (D19 : DefIs R 19 a19 c19) (D18 : DefIs R 18 a18 c18) (D3 : DefIs R 3 a3 c3) (D2 : DefIs R 2 a2 c2) (G : GDef R a1) (gi : GlobV R "_iter_escaped_chars" (.ref a1)) (glen : GlobV R "len" (.builtin "len")) (grange : GlobV R "range" (.type "range"))
    (F : IF names ranked m1 B st i) (hB0 : 0 ≤ B) (hB : B < 128) {v3 : Option AV} (hch : σ ch = some (.cel v3)) (hnm : σ nm = some (.lst (strL [m0, m1]))) (hi : σ ni = some (.lst [.int i.lo, .int i.hi, .str i.text, .lst nu])) (hu : σ nu = some (.lst (strL i.units)))
    (hK : ∀ (σ' : Sto) (nh : Nat) (ns : List Nat), X3 cs cu ch σ σ' → (∀ k v, k ≠ ch → σ k = some (.cel v) → σ' k = some (.cel v)) → σ' ch = some (.cel (some (.lst nh))) → σ' nh = some (.lst (refs ns)) → PairsR σ' ns (heightsOf i.units m1 B) →
      Exs R (d + 7) ⟨fnS (stm 21), env⟩ (ib 10) ⟨lawLocJ ch cu cs cn nsc nc nm B nr np st' ni (Str.join "" i.units), σ'⟩ K) :
    Exs R (d + 7) ⟨fnS (stm 21), env⟩ (ib 8) ⟨lawLocJ ch cu cs cn nsc nc nm B nr np st' ni (Str.join "" i.units), σ⟩ K := by
  have g19 : GlobV R "_law_heights" (.ref a19) := D19.glob
  have el := F.hlen; have e1 := F.le; have e2 := F.hi
  unfold lawLocJ
  refine Exs.cons (Ex.assign ?_)
  repeat' wtm_at "mm"
  refine Opr.getItem hi (i := 3) (by lia) (v := .lst nu) rfl (by simp) ?_
  repeat' wtm_at "mm"
  refine Opr.getItem hnm (i := 1) (by lia) (v := .str m1) rfl (by simp [strL]) ?_
  repeat' wtm_at "mm"
  refine (c_heights (d := d + 1) T D19 D18 D3 D2 G gi glen grange F.hok hB0 hB hu).mono fun v σ₁ hq => ?_
  obtain ⟨nh, ns, rfl, h1, h2, x1⟩ := hq
  have hch1 := x1 _ _ hch
  wtm_at "m_bind"
  have x2 : X3 cs cu ch σ₁ (σ₁.upd ch (.cel (some (.lst nh)))) := X3.upd hch1 (.inr (.inr rfl))
  have c2 : (σ₁.upd ch (.cel (some (.lst nh)))) ch = some (.cel (some (.lst nh))) := Sto.upd_self ..
  have k2 : ∀ k v, k ≠ ch → σ k = some (.cel v) → (σ₁.upd ch (.cel (some (.lst nh)))) k = some (.cel v) := fun k v hk e => by rw [upd_ne hk]; exact x1 _ _ e
  have h1' := x2.lst _ _ h1
  have h2' := h2.x3 x2
  have x12 := (x1.x3 (cs := cs) (cu := cu) (ch := ch)).trans x2
  generalize (σ₁.upd ch (.cel (some (.lst nh)))) = σ₂ at *
  generalize hH : heightsOf i.units m1 B = H at *
  have lns : (refs ns).length = H.length := by rw [show (refs ns).length = ns.length by simp [refs], h2'.length]
  refine Exs.cons (Ex.ite ?_)
  refine Tst.cmp (Nat.le_add_left 2 _) ?_
  refine Ev.comp (ρ' := [("heights", .cel ch)]) (by wtm_at "m_cap") (by wtm_at "m_kinds") ?_
  repeat' wtm_at "mm"
  refine Calls.len_lst h1' (by lia) ?_ (by lia)
  rw [lns]
  repeat' wtm_at "mm"
  refine Calls.range2 ?_
  refine ⟨_, .rng (by lia) (by lia) (by lia) (by lia) (by lia), fun n env' hn => ?_⟩
  refine cl_all (xs := List.range' 1 (H.length - 1)) (val := fun (k : Nat) => AV.int (k : Int)) (p := fun _ => false) (f := fun (k : Nat) => AV.int (k : Int)) (by with_unfolding_all rfl) (fun v => by simp only [List.cons_append, List.nil_append]; wtm_at "m_upd") ?_ ?_ _ _ [] _ (fun _ h => h) (Gives.rng (H.length - 1) 1 H.length (by lia)) (ExtBut.refl _ _) (Sto.upd_self ..) (by simp; lia) ?_
  · intro k hk σ₃ KK hx hKK
    simp only [List.cons_append, List.nil_append] at hKK ⊢
    have hk' : 1 ≤ k ∧ k < H.length := by have := List.mem_range'_1.mp hk; lia
    have x3 := hx.of_upd hn
    have g1 := x3 _ _ c2
    have g2 := x3 _ _ h1'
    have g3 := h2'.ext x3
    obtain ⟨na, a1, a2⟩ := g3.get (i := k - 1) (by lia)
    obtain ⟨nb, b1, b2⟩ := g3.get (i := k) (by lia)
    refine Tst.cmp (Nat.le_add_left 2 _) ?_
    repeat' wtm_at "mm"
    refine Opr.getItem g2 (by lia) (v := .lst na) (by rw [show ((k : Int) - 1).toNat = k - 1 by lia]; exact a1) (by lia) ?_
    repeat' wtm_at "mm"
    refine Opr.getItem a2 (i := 0) (by lia) (v := .int (H.getD (k - 1) (0, 0)).1) rfl (by simp) ?_
    repeat' wtm_at "mm"
    refine Opr.getItem g2 (by lia) (v := .lst nb) (by rw [Int.toNat_natCast]; exact b1) (by lia) ?_
    repeat' wtm_at "mm"
    refine Opr.getItem b2 (i := 0) (by lia) (v := .int (H.getD k (0, 0)).1) rfl (by simp) ?_
    have hlt : (H.getD (k - 1) (0, 0)).1 < (H.getD k (0, 0)).1 := by
      have := List.pairwise_iff_getElem.mp (hH ▸ F.rise) (k - 1) k (by lia) (by lia) (by lia)
      simpa [List.getD, List.getElem?_eq_getElem (show k - 1 < H.length by lia), List.getElem?_eq_getElem hk'.2] using this
    repeat' wtm_at "mm"
    rw [show decide ((H.getD k (0, 0)).1 ≤ (H.getD (k - 1) (0, 0)).1) = false by rw [decide_eq_false_iff_not]; lia]
    exact hKK _ (Ext.refl _)
  · intro k hk h
    cases h
  intro σ₄ hx4 hl4
  have x4 := hx4.of_upd hn
  have e4 : ([] ++ ((List.range' 1 (H.length - 1)).filter fun _ => false).map fun (k : Nat) => AV.int (k : Int)) = [] := by
    rw [List.filter_eq_nil_iff.mpr (by simp)]; rfl
  rw [e4] at hl4
  repeat' wtm_at "mm"
  refine ⟨by simp, fun n5 hn5 => ?_⟩
  have x5 : Ext σ₄ (σ₄.upd n5 (.lst [])) := (Ext.refl _).upd hn5
  refine Opr.ne_lst (x5 _ _ hl4) (Sto.upd_self ..) .nil ?_
  refine ⟨_, rfl, ?_⟩
  rw [show (!eqvs [] []) = false from rfl]
  dsimp only
  have x45 := x4.trans x5
  have hfin := hK _ nh ns (x12.trans x45.x3) (fun k v hk e => x45 _ _ (k2 k v hk e)) (x45 _ _ c2) (x45 _ _ h1') (h2'.ext x45)
  repeat' (first | exact hfin | wtm_at "mm")

noncomputable def lamL : PySem.Expr := lamOf ((forB ((ib 11)[0]?.getD default))[0]?.getD default)
noncomputable def keyH (H : List (Int × Int)) (k : Nat) : Int := (H.getD k (0, 0)).2

theorem c_keyL {ch nh : Nat} {ns : List Nat} {H : List (Int × Int)} (T : Top0 R) (hc : σ ch = some (.cel (some (.lst nh)))) (hn : σ nh = some (.lst (refs ns))) (hp : PairsR σ ns H) (hl : H.length ≤ 6) {k : Nat} (hk : k < H.length) :
    Calls R (d + 3) (.clo "<lambda>" (lamP lamL) (lamB lamL) (lamS lamL) [("heights", ch)]) [.int k] [] σ fun v σ' => v = .int (keyH H k) ∧ σ' = σ := by
  obtain ⟨na, a1, a2⟩ := hp.get hk
  have lns : (refs ns).length = H.length := by rw [show (refs ns).length = ns.length by simp [refs], hp.length]
  refine Calls.clo (bs := [("one", .int k)]) T.nolim ?_ rfl rfl rfl (by decide) (fun p hp => by cases List.mem_singleton.mp hp; rfl) ?_
  · intro cl qn ct cd pm doc an L s args' kv' old ha hkw
    cases hkw
    obtain ⟨v', rfl, hv⟩ := ha.one
    exact ⟨[("one", v')], .of_eq (by unfold bindArgs; rfl), rfl, .cons hv .nil⟩
  · intro env
    simp only [List.map_cons, List.map_nil]
    wtm_at "m_bind"
    refine Ev.sub (Nat.le_add_left 2 _) ?_
    repeat' wtm_at "mm"
    refine Opr.getItem hn (i := k) (by lia) (v := .lst na) (by rw [Int.toNat_natCast]; exact a1) (by lia) ?_
    repeat' wtm_at "mm"
    refine Opr.getItem a2 (i := 1) (by lia) (v := .int (keyH H k)) rfl (by simp) ?_
    exact ⟨rfl, rfl⟩

theorem keyok_H {ch nh : Nat} {ns : List Nat} {H : List (Int × Int)} {l : List Nat} {k : Nat} (T : Top0 R) (hc : σ ch = some (.cel (some (.lst nh)))) (hn : σ nh = some (.lst (refs ns))) (hp : PairsR σ ns H) (hl : H.length ≤ 6) (hl6 : ∀ a ∈ l, a < H.length) :
    KeyOk R (d + 3) σ (natsL l) (.clo "<lambda>" (lamP lamL) (lamB lamL) (lamS lamL) [("heights", ch)]) (.int (keyH H k)) true (pN (keyH H) l k) := by
  refine ⟨.clo, rfl, fun j v h => ?_⟩
  have hj : j < l.length := by
    have := (List.getElem?_eq_some_iff.mp h).1
    simpa [natsL] using this
  have e : v = .int (l.getD j 0 : Nat) := by
    have := natsL_get hj
    rw [h] at this; exact Option.some.inj this
  subst e
  have hm : l.getD j 0 < H.length := hl6 _ (by simp [List.getD, List.getElem?_eq_getElem hj])
  refine (c_keyL T hc hn hp hl hm).mono fun kv σ' hq => ?_
  obtain ⟨rfl, rfl⟩ := hq
  refine ⟨rfl, ?_⟩
  refine Opr.lt_int ⟨?_, rfl⟩
  simp [pN]
end

section
variable {R : RT} {σ : Sto} {a : Addr} {code : Value} {d : Nat} {fm : Fm}

noncomputable def lawLocO (ch cu cs cn nsc nc nm : Nat) (B : Int) (nr np st ni : Nat) (bare : Str) (no : Nat) : Loc := [("heights", .cel ch), ("units", .cel cu), ("stretch", .cel cs), ("names", .cel cn), ("script", .val (.raw (.ref nsc))), ("cells", .val (.lst nc)), ("marks", .val (.lst nm)), ("base", .val (.int B)), ("ranked", .val (.lst nr)), ("pile", .val (.lst np)), ("start", .val (.int st)), ("item", .val (.lst ni)), ("bare", .val (.str bare)), ("order", .val (.lst no))]

theorem natsL_len (l : List Nat) : (natsL l).length = l.length := by simp [natsL]

theorem l_order {ch cu cs cn nsc nc nm nr np ni nh no st' : Nat} {B : Int} {bare : Str} {ns : List Nat} {H : List (Int × Int)} {a7 a8 : Addr} {c P : Addr} {env : Env} {K : Out → St → Prop} (T : Top0 R) (D7 : DefKw R 7 a7) (D8 : DefKw R 8 a8) (glen : GlobV R "len" (.builtin "len")) (hm : (c, P) ∈ R.tabs) (hcode : env.code = .ref c)
    (hc : σ ch = some (.cel (some (.lst nh)))) (hn : σ nh = some (.lst (refs ns))) (hp : PairsR σ ns H) (hl : H.length ≤ 6) (hno : σ no = none) (hap : ∀ a b, a < H.length → b < H.length → a ≠ b → keyH H a ≠ keyH H b) : ∀ (j lo : Nat) (l : List Nat), lo + j = H.length → (l.Pairwise fun a b => keyH H a < keyH H b) → l.Perm (List.range lo) →
      (∀ l' : List Nat, (l'.Pairwise fun a b => keyH H a < keyH H b) → l'.Perm (List.range H.length) → K .next ⟨lawLocO ch cu cs cn nsc nc nm B nr np st' ni bare no, σ.upd no (.lst (natsL l'))⟩) →
      Fl R (d + 7) ⟨fnS (stm 21), env⟩ (forT ((ib 11)[0]?.getD default)) (.rng lo (H.length : Nat)) (forB ((ib 11)[0]?.getD default)) ⟨lawLocO ch cu cs cn nsc nc nm B nr np st' ni bare no, σ.upd no (.lst (natsL l))⟩ K := by
  have g7 : GlobV R "insort_left" (.ref a7) := D7.glob
  have ne : ∀ {k c}, σ k = some c → k ≠ no := fun {k c} e q => by rw [q, hno] at e; cases e
  intro j
  induction j with
  | zero =>
    intro lo l h hs hpm hK
    have : lo = H.length := by lia
    subst this
    exact Fl.step (.rng_none (by lia)) (hK l hs hpm)
  | succ j ih =>
    intro lo l h hs hpm hK
    have hlo : lo < H.length := by lia
    have hmem : ∀ a ∈ l, a < lo := fun a ha => List.mem_range.mp (hpm.mem_iff.mp ha)
    have hll : l.length = lo := by rw [hpm.length_eq, List.length_range]
    obtain ⟨l', e1, e2, e3⟩ := order_step (key := keyH H) (k := lo) hs fun a ha => hap a lo (by have := hmem a ha; lia) hlo (by have := hmem a ha; lia)
    have x1 : Ext σ (σ.upd no (.lst (natsL l))) := (Ext.refl _).upd hno
    have g1 : (σ.upd no (.lst (natsL l))) no = some (.lst (natsL l)) := Sto.upd_self ..
    have hc1 := x1 _ _ hc
    have hn1 := x1 _ _ hn
    have hp1 := hp.ext x1
    refine Fl.step (.rng_some (by lia)) ?_
    unfold lawLocO
    refine asg_loc rfl (by wtm_at "m_upd") ?_
    refine Exs.cons (Ex.ite ?_)
    refine Tst.cmp (Nat.le_add_left 2 _) ?_
    repeat' wtm_at "mm"
    refine Ev.lambda (cells := [("heights", ch)]) T hm hcode (by intro _; with_unfolding_all rfl) (by wtm_at "m_capl") ?_
    have hkey : KeyOk R (d + 5) (σ.upd no (.lst (natsL l))) (natsL l) (.clo "<lambda>" (lamP lamL) (lamB lamL) (lamS lamL) [("heights", ch)]) (.int (keyH H lo)) true (pN (keyH H) l lo) := keyok_H (d := d + 2) T hc1 hn1 hp1 hl fun a ha => by have := hmem a ha; lia
    refine (c_insl (d := d + 3) T D7 D8 glen g1 (by rw [natsL_len]; lia) hkey (fun v h => nomatch h) (fun v h => nomatch h) (c_keyL (d := d + 3) T hc1 hn1 hp1 hl hlo)).mono fun v σ₁ hq => ?_
    obtain ⟨rfl, rfl⟩ := hq
    rw [Sto.upd_upd, show insAt (natsL l) (bisAt (pN (keyH H) l lo) (natsL l).length) (.int lo) = natsL l' from e1]
    repeat' wtm_at "mm"
    rw [show (!AV.none.isNone) = false from rfl]
    dsimp only
    repeat' wtm_at "mm"
    refine Fl.drop (ρ' := lawLocO ch cu cs cn nsc nc nm B nr np st' ni bare no) ⟨_, rfl⟩ (ih (lo + 1) l' (by lia) e2 (e3.trans ?_) hK)
    rw [List.range_succ]
    exact (List.Perm.cons lo hpm).trans (by simpa using (List.perm_append_comm (l₁ := [lo]) (l₂ := List.range lo)))

/-- the order of the keys, and the names in it -/
theorem b_5 {ch cu cs cn nsc nc nm nr np ni nu nh nst st st' : Nat} {B : Int} {names ranked : List Str} {m1 : Str} {i : It} {ns : List Nat} {a7 a8 : Addr} {c P : Addr} {env : Env} {K : Out → St → Prop} (T : Top0 R) (D7 : DefKw R 7 a7) (D8 : DefKw R 8 a8) (glen : GlobV R "len" (.builtin "len")) (grange : GlobV R "range" (.type "range")) (hm : (c, P) ∈ R.tabs) (hcode : env.code = .ref c)
    (F : IF names ranked m1 B st i) (hc : σ ch = some (.cel (some (.lst nh)))) (hn : σ nh = some (.lst (refs ns))) (hp : PairsR σ ns (heightsOf i.units m1 B)) (hcs : σ cs = some (.cel (some (.lst nst)))) (hst : σ nst = some (.lst (strL (slice names st (st + (i.hi - i.lo + 1))))))
    (hr : σ nr = some (.lst (strL ranked))) (hi : σ ni = some (.lst [.int i.lo, .int i.hi, .str i.text, .lst nu]))
    (hK : ∀ (σ' : Sto) (ρ' : Loc), Ext σ σ' → Pre (lawLocJ ch cu cs cn nsc nc nm B nr np st' ni (Str.join "" i.units)) ρ' → K .next ⟨ρ', σ'⟩) :
    Exs R (d + 7) ⟨fnS (stm 21), env⟩ (ib 10) ⟨lawLocJ ch cu cs cn nsc nc nm B nr np st' ni (Str.join "" i.units), σ⟩ K := by
  have el := F.hlen; have e1 := F.le; have e2 := F.hi; have e3 := F.fit; have e4 := F.nl; have e5 := F.rl
  have hord := F.order
  have hapt := F.apart
  generalize hH : heightsOf i.units m1 B = H at *
  have lns : (refs ns).length = H.length := by rw [show (refs ns).length = ns.length by simp [refs], hp.length]
  have lr : (strL ranked).length < 1048576 := by simp [strL]; lia
  unfold lawLocJ
  refine Exs.cons ?_
  repeat' wtm_at "mm"
  refine ⟨by simp, fun no hno => ?_⟩
  have ne : ∀ {k c}, σ k = some c → k ≠ no := fun {k c} e q => by rw [q, hno] at e; cases e
  have x1 : Ext σ (σ.upd no (.lst [])) := (Ext.refl _).upd hno
  have hc1 := x1 _ _ hc
  have hn1 := x1 _ _ hn
  repeat' wtm_at "mm"
  refine Ex.for ?_
  repeat' wtm_at "mm"
  refine Calls.len_lst hn1 (by lia) ?_ (by lia)
  rw [lns]
  repeat' wtm_at "mm"
  refine Calls.range1 ?_
  refine ⟨_, .rng (by lia) (by lia) (by lia) (by lia) (by lia), ?_⟩
  refine l_order T D7 D8 glen hm hcode hc hn hp (by lia) hno (fun a b ha hb hab => hapt a b (by lia) (by lia) hab) H.length 0 [] (by lia) (by simp) (.refl _) ?_
  intro l hl1 hl2
  have hfin := hord l (by rw [← el]; exact hl2) hl1
  have x2 : Ext σ (σ.upd no (.lst (natsL l))) := (Ext.refl _).upd hno
  have gno : (σ.upd no (.lst (natsL l))) no = some (.lst (natsL l)) := Sto.upd_self ..
  have hll : l.length = H.length := by rw [hl2.length_eq, List.length_range]
  have hmem : ∀ a ∈ l, a < H.length := fun a ha => List.mem_range.mp (hl2.mem_iff.mp ha)
  generalize (σ.upd no (.lst (natsL l))) = σ₁ at *
  have hcs1 := x2 _ _ hcs
  have hst1 := x2 _ _ hst
  have hr1 := x2 _ _ hr
  have hi1 := x2 _ _ hi
  generalize hS : slice names st (st + (i.hi - i.lo + 1)) = S at *
  have hSl : S.length = i.hi - i.lo + 1 := by rw [← hS, slice_len (by lia) (by lia)]; lia
  unfold lawLocO
  refine Exs.cons (Ex.ite ?_)
  refine Tst.cmp (Nat.le_add_left 2 _) ?_
  refine Ev.comp (ρ' := [("stretch", .cel cs)]) (by wtm_at "m_cap") (by wtm_at "m_kinds") ?_
  repeat' wtm_at "mm"
  refine ⟨_, .lst gno, fun n env' hn => ?_⟩
  have ne1 : no ≠ n := fun q => by rw [q, hn] at gno; cases gno
  refine cl_all (xs := l) (val := fun (k : Nat) => AV.int (k : Int)) (p := fun _ => true) (f := fun k => AV.str (at' S k)) (by with_unfolding_all rfl) (fun v => by simp only [List.cons_append, List.nil_append]; wtm_at "m_upd") ?_ ?_ l _ [] _ (fun _ h => h) (Gives.lst (l := natsL l) (by rw [upd_ne ne1]; exact gno) ne1 _ 0 rfl) (ExtBut.refl _ _) (Sto.upd_self ..) (by simp; lia) ?_
  · intro k hk σ₂ KK hx hKK
    exact hKK _ (Ext.refl _)
  · intro k hk _ σ₂ KK hx hKK
    simp only [List.cons_append, List.nil_append] at hKK ⊢
    have hk' := hmem k hk
    have x3 := hx.of_upd hn
    have g1 := x3 _ _ hcs1
    have g2 := x3 _ _ hst1
    have hs1 := at_get (l := S) (i := k) (by lia)
    repeat' wtm_at "mm"
    refine Opr.getItem g2 (i := k) (by lia) (v := .str (at' S k)) (by rw [Int.toNat_natCast]; exact hs1) (by simp [strL]; lia) ?_
    exact hKK _ (Ext.refl _)
  intro σ₄ hx4 hl4
  have x4 := hx4.of_upd hn
  have e4' : ([] ++ (l.filter fun _ => true).map fun k => AV.str (at' S k)) = strL (slice ranked i.lo (i.hi + 1)) := by
    rw [List.filter_eq_self.mpr (fun _ _ => rfl), List.nil_append, ← hfin, strL, List.map_map]; rfl
  rw [e4'] at hl4
  have hr4 := x4 _ _ hr1
  have hi4 := x4 _ _ hi1
  repeat' wtm_at "mm"
  refine Ev.slice ?_
  repeat' wtm_at "mm"
  refine Opr.getItem hi4 (i := 0) (by lia) (v := .int i.lo) rfl (by simp) ?_
  repeat' wtm_at "mm"
  refine Opr.getItem hi4 (i := 1) (by lia) (v := .int i.hi) rfl (by simp) ?_
  repeat' wtm_at "mm"
  refine ⟨nr, _, rfl, hr4, lr, fun n5 hn5 => ?_⟩
  rw [show ((i.hi : Int) + 1) = ((i.hi + 1 : Nat) : Int) from rfl, sliceL_some (by lia) (by lia)]
  have x5 : Ext σ₄ (σ₄.upd n5 (.lst (strL (slice ranked i.lo (i.hi + 1))))) := (Ext.refl _).upd hn5
  refine Opr.ne_lst (x5 _ _ hl4) (Sto.upd_self ..) (eqvs_strs _).1 ?_
  rw [(eqvs_strs _).2, show (!true) = false from rfl]
  refine ⟨_, rfl, ?_⟩
  dsimp only
  repeat' wtm_at "mm"
  exact hK _ _ ((x2.trans x4).trans x5) ⟨_, rfl⟩
end

section
variable {R : RT} {σ : Sto} {a : Addr} {code : Value} {d : Nat} {fm : Fm}

theorem Pre.trans {a b c : Loc} (h : Pre a b) (h' : Pre b c) : Pre a c := by
  obtain ⟨r, rfl⟩ := h; obtain ⟨s, rfl⟩ := h'
  exact ⟨r ++ s, by simp⟩
theorem ItR.x3 {cs cu ch : Nat} {σ σ' : Sto} {n : Nat} {i : It} (h : ItR σ n i) (x : X3 cs cu ch σ σ') : ItR σ' n i := by
  obtain ⟨u, h1, h2, h3⟩ := h
  exact ⟨u, x.lst _ _ h1, x.lst _ _ h2, h3⟩
theorem ItsR.append {σ : Sto} {a c : List Nat} {b e : List It} (h : ItsR σ a b) (h' : ItsR σ c e) : ItsR σ (a ++ c) (b ++ e) := by
  induction h with
  | nil => exact h'
  | cons x _ ih => exact .cons x ih
theorem ItsR.reverse {σ : Sto} {a : List Nat} {b : List It} (h : ItsR σ a b) : ItsR σ a.reverse b.reverse := by
  induction h with
  | nil => exact .nil
  | cons x _ ih => rw [List.reverse_cons, List.reverse_cons]; exact ih.append (.cons x .nil)

set_option genInjectivity false in
set_option genSizeOf false in
/-- the defs and globals that the law reaches -/
structure Env0 (R : RT) where
  T : Top0 R
  a1 : Addr
  a2 : Addr
  a3 : Addr
  a5 : Addr
  a6 : Addr
  a7 : Addr
  a8 : Addr
  a10 : Addr
  a11 : Addr
  a13 : Addr
  a14 : Addr
  a15 : Addr
  a16 : Addr
  a17 : Addr
  a18 : Addr
  a19 : Addr
  a20 : Addr
  a21 : Addr
  c2 : Value
  c3 : Value
  c10 : Value
  c11 : Value
  c13 : Value
  c14 : Value
  c15 : Value
  c16 : Value
  c17 : Addr
  c18 : Value
  c19 : Value
  c20 : Value
  c21 : Addr
  P17 : Addr
  P21 : Addr
  G : GDef R a1
  gi : GlobV R "_iter_escaped_chars" (.ref a1)
  D2 : DefIs R 2 a2 c2
  D3 : DefIs R 3 a3 c3
  D5 : DefKw R 5 a5
  D6 : DefKw R 6 a6
  D7 : DefKw R 7 a7
  D8 : DefKw R 8 a8
  D10 : DefIs R 10 a10 c10
  D11 : DefIs R 11 a11 c11
  D13 : DefIs R 13 a13 c13
  D14 : DefIs R 14 a14 c14
  D15 : DefIs R 15 a15 c15
  D16 : DefIs R 16 a16 c16
  D17 : DefIs R 17 a17 (.ref c17)
  D18 : DefIs R 18 a18 c18
  D19 : DefIs R 19 a19 c19
  D20 : DefIs R 20 a20 c20
  D21 : DefIs R 21 a21 (.ref c21)
  t17 : (c17, P17) ∈ R.tabs
  t21 : (c21, P21) ∈ R.tabs
  glen : GlobV R "len" (.builtin "len")
  gmin : GlobV R "min" (.builtin "min")
  gmax : GlobV R "max" (.builtin "max")
  gis : GlobV R "isinstance" (.builtin "isinstance")
  grange : GlobV R "range" (.type "range")
  glist : GlobV R "list" (.type "list")
  gbool : GlobV R "bool" (.type "bool")
  gint : GlobV R "int" (.type "int")

theorem l_item {ch cu cs cn nsc nc nm nn nr np : Nat} {B : Int} {names ranked : List Str} {m0 m1 : Str} {env : Env} {K : Out → St → Prop} {ms : List Nat} (E : Env0 R) (hcode : env.code = .ref E.c21) (hB0 : 0 ≤ B) (hB : B < 128)
    (n1 : cn ≠ cs) (n2 : cn ≠ cu) (n3 : cn ≠ ch) (n4 : cs ≠ cu) (n5 : cs ≠ ch) (hms : ms.length < 1048576) : ∀ (rits : List It) (rids : List Nat) (j st : Nat) (σ : Sto), ms.drop j = rids → ItsR σ rids rits → IFs names ranked m1 B st rits →
      σ np = some (.lst (refs ms)) → (∃ v, σ cs = some (.cel v)) → (∃ v, σ cu = some (.cel v)) → (∃ v, σ ch = some (.cel v)) → σ cn = some (.cel (some (.lst nn))) → σ nn = some (.lst (strL names)) → σ nr = some (.lst (strL ranked)) → σ nm = some (.lst (strL [m0, m1])) →
      (∀ σ' st', X3 cs cu ch σ σ' → K .next ⟨lawLocI ch cu cs cn nsc nc nm B nr np st', σ'⟩) →
      Fl R (d + 7) ⟨fnS (stm 21), env⟩ (forT ((fnB (stm 21))[10]?.getD default)) (.lst np j) (forB ((fnB (stm 21))[10]?.getD default)) ⟨lawLocI ch cu cs cn nsc nc nm B nr np st, σ⟩ K := by
  intro rits
  induction rits with
  | nil =>
    intro rids j st σ hd hits hif hnp hcs hcu hch hcn hnn hnr hnm hK
    cases hits
    have : ms.length ≤ j := by
      have := congrArg List.length hd
      simp at this; lia
    exact Fl.step (.lst_none hnp (by simp [refs]; lia)) (hK σ st (Ext.refl _).x3)
  | cons i rits ih =>
    intro rids j st σ hd hits hif hnp hcs hcu hch hcn hnn hnr hnm hK
    cases hits with
    | cons hit hits =>
    rename_i ni rids
    cases hif with
    | cons F hif =>
    have hx : ms[j]? = some ni := by
      have := congrArg (·[0]?) hd
      simpa using this
    have hd' : ms.drop (j + 1) = rids := by
      have := congrArg List.tail hd
      simpa using this
    obtain ⟨nu, hi, hu, _⟩ := id hit
    obtain ⟨v1, hcs⟩ := hcs
    obtain ⟨v2, hcu⟩ := hcu
    obtain ⟨v3, hch⟩ := hch
    refine Fl.step (.lst_some (v := .lst ni) hnp (by simp [refs, hx])) ?_
    unfold lawLocI
    refine asg_loc rfl (by wtm_at "m_upd") ?_
    refine b_0 E.T E.D2 E.G E.gi E.glen F n1 n2 n3 n4 hcs hcu hcn hnn hi hu ?_
    intro σ₁ nst nun x1 a1 a2 a3 a4
    refine b_1 E.T E.D2 E.G E.gi E.glen F (x1.lst _ _ hi) (x1.lst _ _ hu) ?_
    intro σ₂ x2
    refine b_2 E.T E.G E.gi E.glen E.grange E.glist F (x2 _ _ a3) (x2 _ _ a4) ?_
    intro σ₃ x3
    have x13 := x1.trans (x2.trans x3).x3
    refine b_3 E.T E.D3 E.D2 E.G E.gi E.glen F (x13.lst _ _ hi) ?_
    intro σ₄ x4
    have x14 := x13.trans x4.x3
    have x24 := (x2.trans x3).trans x4
    obtain ⟨w3, hch4⟩ := x14.c3 _ hch
    refine b_4 E.T E.D19 E.D18 E.D3 E.D2 E.G E.gi E.glen E.grange F hB0 hB hch4 (x14.lst _ _ hnm) (x14.lst _ _ hi) (x14.lst _ _ hu) ?_
    intro σ₅ nh ns x5 k5 b1 b2 b3
    have x15 := x14.trans x5
    have hcs5 := k5 _ _ n5 (x24 _ _ a1)
    refine b_5 E.T E.D7 E.D8 E.glen E.grange E.t21 hcode F b1 b2 b3 hcs5 (x5.lst _ _ (x24 _ _ a2)) (x15.lst _ _ hnr) (x15.lst _ _ hi) ?_
    intro σ₆ ρ' x6 hρ
    have x16 := x15.trans x6.x3
    refine Fl.drop (ρ' := lawLocI ch cu cs cn nsc nc nm B nr np (st + (i.hi - i.lo + 1))) (Pre.trans ⟨_, rfl⟩ hρ) ?_
    refine ih rids (j + 1) _ σ₆ hd' (hits.map fun n i h => h.x3 x16) hif (x16.lst _ _ hnp) (x16.c1 _ hcs) (x16.c2 _ hcu) (x16.c3 _ hch) (x16.cel _ _ n1 n2 n3 hcn) (x16.lst _ _ hnn) (x16.lst _ _ hnr) (x16.lst _ _ hnm) ?_
    intro σ' st' x
    exact hK σ' st' (x16.trans x)
end

section
variable {R : RT} {σ : Sto} {a : Addr} {code : Value} {d : Nat} {fm : Fm}

theorem IFs.len {names ranked : List Str} {m1 : Str} {B : Int} : ∀ {l : List It} {st : Nat}, IFs names ranked m1 B st l → st ≤ 6 → st + l.length ≤ 6
  | [], st, _, h => by simpa using h
  | i :: l, st, .cons F h, _ => by
    have h1 := F.fit
    have := IFs.len h h1
    simp only [List.length_cons]; lia

/-- the last row -/
theorem s_G {ch cu cs cn nsc nc nm nn nr np st : Nat} {B : Int} {names : List Str} {ms : List Nat} {env : Env} {K : Out → St → Prop} (E : Env0 R) (hcn : σ cn = some (.cel (some (.lst nn)))) (hnn : σ nn = some (.lst (strL names))) (hl : names.length = 6) (hnp : σ np = some (.lst (refs ms))) (hms : ms.length < 1048576)
    (hc : ((ms.length == 1) != crossed names) = true) (hK : ∀ ρ, K (.ret (.bool true)) ⟨ρ, σ⟩) :
    Exs R (d + 7) ⟨fnS (stm 21), env⟩ ((fnB (stm 21)).drop 11) ⟨lawLocI ch cu cs cn nsc nc nm B nr np st, σ⟩ K := by
  have D20 := E.D20
  have g20 : GlobV R "_law_crossed" (.ref E.a20) := D20.glob
  have glen := E.glen
  have lp : (refs ms).length = ms.length := by simp [refs]
  unfold lawLocI
  refine Exs.cons (Ex.ret ?_)
  refine Ev.cmp (Nat.le_add_left 2 _) ?_
  repeat' wtm_at "mm"
  refine Calls.len_lst hnp (by lia) ?_ (by lia)
  rw [lp]
  repeat' wtm_at "mm"
  refine (c_crossed (d := d + 3) E.T E.D20 E.D10 E.grange hnn hl).mono fun v σ₁ hq => ?_
  obtain ⟨rfl, rfl⟩ := hq
  repeat' wtm_at "mm"
  have e : ((ms.length : Int) == 1) = (ms.length == 1) := by
    by_cases h : ms.length = 1
    · simp [h]
    · rw [beq_eq_false_iff_ne.mpr h, beq_eq_false_iff_ne.mpr (by lia)]
  rw [e, hc]
  exact hK _

theorem c_law {nsc : Nat} {xs : List Int} {vs : List Value} (E : Env0 R) (hsc : R.h₀.PlainList nsc vs.toArray) (hI : IntsAre vs xs) (hxs : xs.length ≤ 63) :
    Calls R (d + 8) (.raw (.ref E.a21)) [.raw (.ref nsc)] [] σ fun v σ' => v = .bool true := by
  refine Calls.def_ (names := ["script"]) E.T E.D21 (bok1 fun fd hp hd v => by unfold bindArgs; rw [hp, hd]; rfl) rfl ?_
  intro cn hcn cs hcs cu hcu ch hch env he
  have n1 : cn ≠ cs := fun q => by rw [q, Sto.upd_self] at hcs; cases hcs
  have n2 : cs ≠ cu := fun q => by rw [q, Sto.upd_self] at hcu; cases hcu
  have n3 : cn ≠ cu := fun q => by rw [← q, upd_ne n1, Sto.upd_self] at hcu; cases hcu
  have n4 : cu ≠ ch := fun q => by rw [q, Sto.upd_self] at hch; cases hch
  have n5 : cs ≠ ch := fun q => by rw [← q, upd_ne n2, Sto.upd_self] at hch; cases hch
  have n6 : cn ≠ ch := fun q => by rw [← q, upd_ne n3, upd_ne n1, Sto.upd_self] at hch; cases hch
  have e1 : ((((σ.upd cn (.cel none)).upd cs (.cel none)).upd cu (.cel none)).upd ch (.cel none)) cn = some (.cel none) := by rw [upd_ne n6, upd_ne n3, upd_ne n1, Sto.upd_self]
  have e2 : ((((σ.upd cn (.cel none)).upd cs (.cel none)).upd cu (.cel none)).upd ch (.cel none)) cs = some (.cel none) := by rw [upd_ne n5, upd_ne n2, Sto.upd_self]
  have e3 : ((((σ.upd cn (.cel none)).upd cs (.cel none)).upd cu (.cel none)).upd ch (.cel none)) cu = some (.cel none) := by rw [upd_ne n4, Sto.upd_self]
  have e4 : ((((σ.upd cn (.cel none)).upd cs (.cel none)).upd cu (.cel none)).upd ch (.cel none)) ch = some (.cel none) := Sto.upd_self ..
  have hcs0 : σ cs = none := by rw [upd_ne (Ne.symm n1)] at hcs; exact hcs
  have hcu0 : σ cu = none := by rw [upd_ne (Ne.symm n2), upd_ne (Ne.symm n3)] at hcu; exact hcu
  have hch0 : σ ch = none := by rw [upd_ne (Ne.symm n4), upd_ne (Ne.symm n5), upd_ne (Ne.symm n6)] at hch; exact hch
  have x0 : Ext σ ((((σ.upd cn (.cel none)).upd cs (.cel none)).upd cu (.cel none)).upd ch (.cel none)) := ((((Ext.refl σ).upd hcn).upd hcs0).upd hcu0).upd hch0
  wtm_at "m_bind"
  generalize ((((σ.upd cn (.cel none)).upd cs (.cel none)).upd cu (.cel none)).upd ch (.cel none)) = σ₀ at *
  refine s_A E.T E.D13 E.D14 E.D15 E.glen E.grange hsc hI hxs e1 ?_
  intro σ₁ nc nm nn m0 m1 B num hmp hB1 hB2 a1 a2 a3 x1
  obtain ⟨ranked, π, S⟩ := setup num
  generalize namesGo 6 num typed [] = names at a2 S
  have b2 := x1 _ _ (Ne.symm n1) e2
  have b3 := x1 _ _ (Ne.symm n3) e3
  have b4 := x1 _ _ (Ne.symm n6) e4
  refine s_B S E.T E.D5 E.D6 E.D11 E.glen a3 a2 ?_
  intro σ₂ nr r1 x2
  refine s_C S E.T E.D14 E.D17 E.t17 E.D5 E.D6 E.D7 E.D8 E.D10 E.glen (x2 _ _ a3) (x2 _ _ a2) r1 ?_
  intro σ₃ x3
  refine s_D (nn := nn) S E.T E.D10 E.grange E.gis E.gbool E.gint (x3 _ _ r1) ?_
  intro σ₄ x4
  have x24 := (x2.trans x3).trans x4
  have x34 := x3.trans x4
  obtain ⟨p1, p2, p3⟩ := pile_ok S hmp hB1
  have hl0 := hmp.h0.len; have hl1 := hmp.h1.len
  refine s_E E.T E.D16 E.D8 E.D11 E.glen E.gmin E.gmax (by rw [S.rl]; lia) (by lia) (by lia) p3 (x24 _ _ a3) (x24 _ _ a1) (x34 _ _ r1) (x24 _ _ a2) ?_
  intro σ₅ np ns q1 q2 x5
  have x25 := x24.trans x5
  have x35 := x34.trans x5
  generalize pileGo ranked m0 m1 names [] = pile at p1 p2 q2
  have hnl := q2.length
  have hpl : ns.length < 1048576 := by
    have := p1.len (by lia)
    rw [List.length_reverse] at this; lia
  unfold lawLocI
  refine Exs.cons (Ex.for ?_)
  repeat' wtm_at "mm"
  refine ⟨_, .lst q1, ?_⟩
  refine l_item (ms := ns.reverse) E he (by lia) (by lia) n1 n3 n6 n2 n5 (by rw [List.length_reverse]; exact hpl) pile.reverse ns.reverse 0 0 σ₅ rfl q2.reverse p1 q1 ⟨_, x25 _ _ b2⟩ ⟨_, x25 _ _ b3⟩ ⟨_, x25 _ _ b4⟩ (x25 _ _ a3) (x25 _ _ a2) (x35 _ _ r1) (x25 _ _ a1) ?_
  intro σ₆ st' x6
  have hc : ((ns.reverse.length == 1) != crossed names) = true := by rw [List.length_reverse, hnl]; exact p2
  refine s_G (ms := ns.reverse) E (x6.cel _ _ n1 n3 n6 (x25 _ _ a3)) (x6.lst _ _ (x25 _ _ a2)) S.nl (x6.lst _ _ q1) (by rw [List.length_reverse]; exact hpl) hc ?_
  intro ρ
  rfl
end

section
variable {R : RT}

theorem codeOk_of {h : Heap} {c : Addr} {oc : Obj} {vs : Array Value} {q : Str} {t : Tok} (k1 : h.get? c = some oc) (k2 : oc.cls = .type "code") (k3 : oc.data = .fields vs) (k4 : vs[1]? = some (.str q t)) : CodeOk h (.ref c) :=
  ⟨q, ⟨c, oc, vs, t, rfl, k1, k3, k4⟩, c, oc, rfl, k1, k2⟩
theorem defIs_of {i a c : Nat} {o oc : Obj} {fd : FuncData} {vs : Array Value} {q : Str} {t : Tok} (h1 : R.h₀.get? a = some o) (h2 : o.cls = .type "function") (h3 : o.data = .func fd) (hp : fd.params = fnP (stm i)) (hb : fd.body = .stmts (fnB (stm i))) (hs : fd.scope = fnS (stm i)) (hd : fd.defaults = .none) (hc : fd.code = .ref c)
    (hg : fd.globals = mainGlobals) (hbi : fd.builtins = builtinsNs) (hcl : fd.closure = []) (k1 : R.h₀.get? c = some oc) (k2 : oc.cls = .type "code") (k3 : oc.data = .fields vs) (k4 : vs[1]? = some (.str q t)) (g : GlobV R (fnN (stm i)) (.ref a)) : DefIs R i a (.ref c) :=
  ⟨⟨fd, ⟨⟨o, h1, h2, h3⟩, by rw [hc]; exact codeOk_of k1 k2 k3 k4, hg, hbi, hcl⟩, hp, hb, hs, hd, hc⟩, g⟩
theorem defKw_of {i a c T : Nat} {o oc : Obj} {fd : FuncData} {vs : Array Value} {q : Str} {t u : Tok} {n : Nat} (h1 : R.h₀.get? a = some o) (h2 : o.cls = .type "function") (h3 : o.data = .func fd) (hp : fd.params = fnP (stm i)) (hb : fd.body = .stmts (fnB (stm i))) (hs : fd.scope = fnS (stm i)) (hd : fd.defaults = .ref T) (hc : fd.code = .ref c)
    (hg : fd.globals = mainGlobals) (hbi : fd.builtins = builtinsNs) (hcl : fd.closure = []) (k1 : R.h₀.get? c = some oc) (k2 : oc.cls = .type "code") (k3 : oc.data = .fields vs) (k4 : vs[1]? = some (.str q t)) (hT : R.h₀.get? T = some { cls := .type "tuple", data := .seq #[.int 0 u, .none] n }) (g : GlobV R (fnN (stm i)) (.ref a)) : DefKw R i a :=
  ⟨⟨fd, T, u, n, ⟨⟨o, h1, h2, h3⟩, by rw [hc]; exact codeOk_of k1 k2 k3 k4, hg, hbi, hcl⟩, hp, hb, hs, hd, hT⟩, g⟩
theorem gdef_of {a c : Nat} {ps : List Pos} {o oc : Obj} {fd : FuncData} {vs : Array Value} {t : Tok} (h1 : R.h₀.get? a = some o) (h2 : o.cls = .type "function") (h3 : o.data = .func fd) (hb : fd.body = .stmts (gBody fun n => ps.getD n default)) (hs : GScope fd.scope) (hc : fd.code = .ref c)
    (hg : fd.globals = mainGlobals) (hbi : fd.builtins = builtinsNs) (hcl : fd.closure = []) (k1 : R.h₀.get? c = some oc) (k2 : oc.cls = .type "code") (k3 : oc.data = .fields vs) (k4 : vs[1]? = some (.str fd.qualname t)) (hbind : ∀ v, bindArgs fd ⟨[v], []⟩ = pure [(("addr" : Str), v)]) (en : GlobV R "enumerate" (.type "enumerate")) : GDef R a :=
  ⟨⟨fd, _, ⟨⟨o, h1, h2, h3⟩, by rw [hc]; exact codeOk_of k1 k2 k3 k4, hg, hbi, hcl⟩, hb, hs, by rw [hc]; exact ⟨c, oc, vs, t, rfl, k1, k3, k4⟩, hbind⟩, en⟩
theorem cls_ne {h : Heap} {a : Addr} {o : Obj} (ho : h.get? a = some o) (hc : o.cls ≠ .none) : ∀ o', h.get? a = some o' → o'.cls ≠ .none := fun o' e => by rw [ho] at e; cases e; exact hc
theorem ns_val {h : Heap} {a : Addr} {m : Str → Option Value} {o : Obj} {es : Array DictEntry} {ep : Nat} {x : Str} {r : Option Value} (hn : h.Ns a m) (ho : h.get? a = some o) (hd : o.data = .dict es ep) (hx : nsFind es x = r) : m x = r := by
  obtain ⟨o', es', ep', e, hd', _, hf⟩ := hn
  rw [ho] at e; cases e
  rw [hd] at hd'; cases hd'
  rw [← hf]; exact hx
theorem tabOk_of {h : Heap} {c P : Addr} {oc : Obj} {vs : Array Value} {file : Str} {tf tg tt : Tok} {flags : Int} {inF : Bool} {text : Int} (k1 : h.get? c = some oc) (k2 : oc.cls = .type "code") (k3 : oc.data = .fields vs) (k4 : vs.getD 11 .none = .ref P) (k5 : vs.getD 18 .none = .str file tf) (k6 : vs.getD 7 .none = .int flags tg)
    (k7 : vs.getD 9 .none = .bool inF) (k8 : vs.getD 10 .none = .int text tt) (k9 : vs[11]? = some (.ref P)) (h1 : h.get? P = some { cls := .none, data := .fields #[] }) (hne : c ≠ P) : TabOk h c P :=
  ⟨#[], ⟨oc, vs, file, tf, flags, tg, inF, text, tt, _, k1, k3, k4, k5, k6, k7, k8, h1, rfl, trivial, hne⟩, ⟨⟨oc, vs, k1, k2, k3, k9⟩, h1⟩, fun pos c' e => by cases e⟩

/-- the law's call, as the head asks for it -/
theorem run_law {s₁ : Shared} {w : World} {prog : Program} {tabs : List (Addr × Addr)} (E : Env0 ⟨prog, w, s₁.heap, s₁.os, tabs⟩) (htabs : ∀ c P, (c, P) ∈ tabs → s₁.heap.get? P ≠ none ∧ TabOk s₁.heap c P) (hg : s₁.gens = #[]) (ht : 0 < s₁.toks)
    {p : Addr} {xs : List Int} {vs : List Value} (hsc : s₁.heap.PlainList p vs.toArray) (hI : IntsAre vs xs) (hxs : xs.length ≤ 63) {Q : Value → Shared → Prop} {X : Value → Shared → Prop}
    (hK : ∀ s', OldK s₁.heap s'.heap → s'.os = s₁.os → AllBare s'.gens → Q (.bool true) s') : wpAny (model prog w) callerA (call (.ref E.a21) [.ref p]) Q X s₁ := by
  have H : HR ⟨prog, w, s₁.heap, s₁.os, tabs⟩ [] (fun _ => none) s₁ := ⟨OldK.refl _, by rw [hg]; intro y hy; simp at hy, rfl, List.nodup_nil, fun a h => (by cases h), fun a h => (by cases h), fun n c h => (by cases h), htabs⟩
  have c := c_law (d := 0) (σ := fun _ => none) E hsc hI hxs
  refine c callerA [] s₁ (.ref E.a21) [.ref p] [] ⟨by decide, by decide, rfl⟩ ht H (.raw _) (.cons (.raw _) .nil) .nil Q X ?_
  intro v' s' L' v σ' hv H' hr g
  subst hv
  obtain rfl := hr.bool_inv
  exact hK s' H'.old H'.os H'.bare
end

/-- the ints of a script take tokens alone -/
theorem lay_script {C : WRecords} {cl : Str → Option Addr} {P : Params} {ord : List DictEntry → List DictEntry} : ∀ (xs : List Int) (s : Shared) (r : List Value × Shared),
    layAllW C cl P ord (ofPys (xs.map PyData.int)) s = some r → r.2.heap = s.heap ∧ s.toks ≤ r.2.toks
  | [], s, r, h => by
    obtain rfl : ([], s) = r := Option.some.inj h
    exact ⟨rfl, Nat.le_refl _⟩
  | x :: xs, s, r, h => by
    have h' : (match layAllW C cl P ord (ofPys (xs.map PyData.int)) { s with toks := s.toks + 1 } with
      | some q => some (Value.int x s.toks :: q.1, q.2)
      | none => none) = some r := h
    cases g : layAllW C cl P ord (ofPys (xs.map PyData.int)) { s with toks := s.toks + 1 } with
    | none => rw [g] at h'; cases h'
    | some q =>
      rw [g] at h'
      obtain rfl := Option.some.inj h'
      obtain ⟨a, b⟩ := lay_script xs _ _ g
      exact ⟨a, Nat.le_of_succ_le b⟩
/-- the script as it is laid: a plain list, and the tokens have grown -/
theorem script_laid {C : WRecords} {w : World} {s₀ s₁ : Shared} {xs : List Int} {a : Addr} {as : List Addr} {its : Array Value} (L : Laid C w s₀ s₁ [ofPy (PyData.list (xs.map PyData.int))] [.ref a] as)
    (ht : 0 < s₀.toks) (hL : s₁.heap.IsList a its) : 0 < s₁.toks ∧ s₁.heap.PlainList a its := by
  obtain ⟨ord, _, h⟩ := L.laid
  have h' : (match (match layAllW C (classAt s₀.heap) w.params ord (ofPys (xs.map PyData.int)) s₀ with
      | some r => some (Value.ref r.2.heap.objs.size, { r.2 with heap := r.2.heap.push { cls := .type "list", data := .seq r.1.toArray } })
      | none => none) with
    | some q => some ([q.1], q.2)
    | none => none) = some ([.ref a], s₁) := h
  cases g : layAllW C (classAt s₀.heap) w.params ord (ofPys (xs.map PyData.int)) s₀ with
  | none => rw [g] at h'; cases h'
  | some r =>
    rw [g] at h'
    cases h'
    obtain ⟨b, c⟩ := lay_script _ _ _ g
    obtain ⟨o, ho, _, n, hd⟩ := hL
    refine ⟨Nat.lt_of_lt_of_le ht c, n, ?_⟩
    rw [Heap.get?_push_size _ rfl] at ho
    cases ho
    cases hd
    exact Heap.get?_push_size _ rfl

/-- what is looked at behind the top: a function, a code object, a code object's table -/
noncomputable def seeFn (h : Heap) (a : Addr) : Option (Value × Option (Arguments × FuncBody × Scope × Value × Value × Addr × Addr × List (Str × Addr))) :=
  (h.get? a).map fun o => (o.cls, match o.data with | .func fd => some (fd.params, fd.body, fd.scope, fd.defaults, fd.code, fd.globals, fd.builtins, fd.closure) | _ => none)
noncomputable def seeCo (h : Heap) (c : Addr) : Option (Value × Option Str) :=
  (h.get? c).map fun o => (o.cls, match o.data with | Data.fields (vs : Array Value) => (match vs[1]? with | some (Value.str q _) => some q | _ => none) | _ => none)
noncomputable def isS : Value → Bool | .str _ _ => true | _ => false
noncomputable def isI : Value → Bool | .int _ _ => true | _ => false
noncomputable def isB : Value → Bool | .bool _ => true | _ => false
theorem isS_elim {v : Value} (h : isS v = true) : ∃ x t, v = .str x t := by cases v <;> first | exact ⟨_, _, rfl⟩ | cases h
theorem isI_elim {v : Value} (h : isI v = true) : ∃ x t, v = .int x t := by cases v <;> first | exact ⟨_, _, rfl⟩ | cases h
theorem isB_elim {v : Value} (h : isB v = true) : ∃ x, v = .bool x := by cases v <;> first | exact ⟨_, rfl⟩ | cases h
noncomputable def seeTab (h : Heap) (c : Addr) : Option (Option (Value × Option Value × Bool × Bool × Bool × Bool)) :=
  (h.get? c).map fun o => match o.data with
    | .fields vs => some (vs.getD 11 .none, vs[11]?, isS (vs.getD 18 .none), isI (vs.getD 7 .none), isB (vs.getD 9 .none), isI (vs.getD 10 .none))
    | _ => none
noncomputable def seeNs (h : Heap) (l : List (Str × Option Value)) : Option (Value × Option (List (Option Value))) :=
  (h.get? mainGlobals).map fun o => (o.cls, match o.data with | .dict es _ => some (l.map fun x => nsFind es x.1) | _ => none)
noncomputable def seeGen (h : Heap) (a : Addr) : Option (Option (Str × Value)) :=
  (h.get? a).map fun o => match o.data with | .func fd => some (fd.qualname, fd.kwdefaults) | _ => none

/-- the defs: the place in the text, the function, the code -/
noncomputable def theFns : List (Nat × Nat × Nat) := [(2, 28, 27), (3, 35, 34), (10, 78, 77), (11, 85, 84), (13, 92, 91), (14, 99, 98), (15, 106, 105), (16, 113, 112), (17, 118, 117), (18, 125, 124), (19, 130, 129), (20, 137, 136), (21, 142, 141), (1, 21, 20)]
/-- the defs with defaults: besides, the tuple and its token -/
noncomputable def theKws : List (Nat × Nat × Nat × Nat × Nat) := [(5, 44, 43, 36, 223), (6, 53, 52, 45, 236), (7, 62, 61, 54, 250), (8, 71, 70, 63, 263)]
noncomputable def theNames : List (Str × Option Value) := [("_iter_escaped_chars", some (.ref 21)), ("_strip_quoted_realnames", some (.ref 28)), ("_check_parenthesis", some (.ref 35)), ("insort_right", some (.ref 44)), ("bisect_right", some (.ref 53)), ("insort_left", some (.ref 62)), ("bisect_left", some (.ref 71)),
  ("_strcoll", some (.ref 78)), ("_strxfrm", some (.ref 85)), ("_law_cells", some (.ref 92)), ("_law_typed", some (.ref 99)), ("_law_names", some (.ref 106)), ("_law_pile", some (.ref 113)), ("_law_parted", some (.ref 118)), ("_law_mate", some (.ref 125)), ("_law_heights", some (.ref 130)), ("_law_crossed", some (.ref 137)), ("law", some (.ref 142)),
  ("__builtins__", some (.ref 4)), ("len", none), ("min", none), ("max", none), ("isinstance", none), ("range", none), ("list", none), ("bool", none), ("int", none), ("enumerate", none)]
noncomputable def theTabs : List (Nat × Nat) := [(117, 115), (141, 139)]

structure Seen where
  fns : List (Option (Value × Option (Arguments × FuncBody × Scope × Value × Value × Addr × Addr × List (Str × Addr))) × Option (Value × Option Str))
  kws : List (Option (Value × Option (Arguments × FuncBody × Scope × Value × Value × Addr × Addr × List (Str × Addr))) × Option (Value × Option Str) × Option Obj)
  ns : Option (Value × Option (List (Option Value)))
  tabs : List (Option (Option (Value × Option Value × Bool × Bool × Bool × Bool)) × Option Obj)
  gen : Option (Option (Str × Value))
  blt : Option Value
  mod : Option Obj
  toks : Bool

noncomputable def obsL (s : Shared) : Seen where
  fns := theFns.map fun x => (seeFn s.heap x.2.1, seeCo s.heap x.2.2)
  kws := theKws.map fun x => (seeFn s.heap x.2.1, seeCo s.heap x.2.2.1, s.heap.get? x.2.2.2.1)
  ns := seeNs s.heap theNames
  tabs := theTabs.map fun x => (seeTab s.heap x.1, s.heap.get? x.2)
  gen := seeGen s.heap 21
  blt := (s.heap.get? builtinsNs).map (·.cls)
  mod := s.heap.get? 4
  toks := Nat.blt 0 s.toks
noncomputable def fnVal (i : Nat) (dV : Value) (c : Nat) : Option (Value × Option (Arguments × FuncBody × Scope × Value × Value × Addr × Addr × List (Str × Addr))) :=
  some (.type "function", some (fnP (stm i), .stmts (fnB (stm i)), fnS (stm i), dV, .ref c, mainGlobals, builtinsNs, []))
noncomputable def coVal (i : Nat) : Option (Value × Option Str) := some (.type "code", some (fnN (stm i)))
noncomputable def valL (_ : World) : Seen where
  fns := theFns.map fun x => (fnVal x.1 .none x.2.2, coVal x.1)
  kws := theKws.map fun x => (fnVal x.1 (.ref x.2.2.2.1) x.2.2.1, coVal x.1, some { cls := .type "tuple", data := .seq #[.int 0 x.2.2.2.2, .none] })
  ns := some (.type "dict", some (theNames.map (·.2)))
  tabs := theTabs.map fun x => (some (some (.ref x.2, some (.ref x.2), true, true, true, true)), some { cls := .none, data := .fields #[] })
  gen := some (some (fnN (stm 1), .none))
  blt := some (.type "dict")
  mod := some { cls := .type "module", dict := some builtinsNs }
  toks := true
noncomputable def hookL : Hook := ⟨Seen, obsL, valL, fun _ _ => True, fun _ _ _ => trivial, fun _ _ _ _ _ => trivial⟩

/-- one member of two equal images -/
theorem at_ {α β : Type} {l : List α} {f g : α → β} (y : l.map f = l.map g) (i : Nat) {x : α} (hx : l[i]? = some x) : f x = g x := by
  have h := congrArg (·[i]?) y
  simp only [List.getElem?_map, hx, Option.map_some] at h
  exact Option.some.inj h

section
variable {R : RT} {h : Heap}
theorem seeCo_elim (K : ∀ b o, h.get? b = some o → R.h₀.get? b = some o) {c : Addr} {q : Str} (e : seeCo h c = some (.type "code", some q)) : ∃ oc vs t, R.h₀.get? c = some oc ∧ oc.cls = .type "code" ∧ oc.data = .fields vs ∧ vs[1]? = some (.str q t) := by
  unfold seeCo at e
  cases ho : h.get? c with
  | none => rw [ho] at e; cases e
  | some o =>
    rw [ho] at e
    simp only [Option.map_some, Option.some.injEq, Prod.mk.injEq] at e
    obtain ⟨e1, e2⟩ := e
    split at e2
    · rename_i vs hd
      split at e2
      · rename_i q' t hv
        cases e2
        exact ⟨o, vs, t, K _ _ ho, e1, hd, hv⟩
      · cases e2
    · cases e2
theorem seeFn_elim (K : ∀ b o, h.get? b = some o → R.h₀.get? b = some o) {a i c : Nat} {dV : Value} (e : seeFn h a = fnVal i dV c) : ∃ o fd, R.h₀.get? a = some o ∧ h.get? a = some o ∧ o.cls = .type "function" ∧ o.data = .func fd ∧ fd.params = fnP (stm i) ∧ fd.body = .stmts (fnB (stm i)) ∧ fd.scope = fnS (stm i) ∧ fd.defaults = dV ∧ fd.code = .ref c ∧ fd.globals = mainGlobals ∧ fd.builtins = builtinsNs ∧ fd.closure = [] := by
  unfold seeFn fnVal at e
  cases ho : h.get? a with
  | none => rw [ho] at e; cases e
  | some o =>
    rw [ho] at e
    simp only [Option.map_some, Option.some.injEq, Prod.mk.injEq] at e
    obtain ⟨e1, e2⟩ := e
    split at e2
    · rename_i fd hd
      simp only [Option.some.injEq, Prod.mk.injEq] at e2
      obtain ⟨x1, x2, x3, x4, x5, x6, x7, x8⟩ := e2
      exact ⟨o, fd, K _ _ ho, rfl, e1, hd, x1, x2, x3, x4, x5, x6, x7, x8⟩
    · cases e2
theorem defIs_see (K : ∀ b o, h.get? b = some o → R.h₀.get? b = some o) {i a c : Nat} (e : (seeFn h a, seeCo h c) = (fnVal i .none c, coVal i)) (g : GlobV R (fnN (stm i)) (.ref a)) : DefIs R i a (.ref c) := by
  obtain ⟨e1, e2⟩ := Prod.mk.inj e
  obtain ⟨oc, vs, t, k1, k2, k3, k4⟩ := seeCo_elim K e2
  obtain ⟨o, fd, h1, _, h2, h3, hp, hb, hs, hd, hc, hg, hbi, hcl⟩ := seeFn_elim K e1
  exact defIs_of h1 h2 h3 hp hb hs hd hc hg hbi hcl k1 k2 k3 k4 g
theorem defKw_see (K : ∀ b o, h.get? b = some o → R.h₀.get? b = some o) {i a c T u : Nat} (e : (seeFn h a, seeCo h c, h.get? T) = (fnVal i (.ref T) c, coVal i, some { cls := .type "tuple", data := .seq #[.int 0 u, .none] })) (g : GlobV R (fnN (stm i)) (.ref a)) : DefKw R i a := by
  obtain ⟨e1, e2⟩ := Prod.mk.inj e
  obtain ⟨e2, e3⟩ := Prod.mk.inj e2
  obtain ⟨oc, vs, t, k1, k2, k3, k4⟩ := seeCo_elim K e2
  obtain ⟨o, fd, h1, _, h2, h3, hp, hb, hs, hd, hc, hg, hbi, hcl⟩ := seeFn_elim K e1
  exact defKw_of h1 h2 h3 hp hb hs hd hc hg hbi hcl k1 k2 k3 k4 (K _ _ e3) g
theorem gdef_see (K : ∀ b o, h.get? b = some o → R.h₀.get? b = some o) {a c : Nat} (e : (seeFn h a, seeCo h c) = (fnVal 1 .none c, coVal 1)) (e3 : seeGen h a = some (some (fnN (stm 1), .none))) (en : GlobV R "enumerate" (.type "enumerate")) : GDef R a := by
  obtain ⟨e1, e2⟩ := Prod.mk.inj e
  obtain ⟨oc, vs, t, k1, k2, k3, k4⟩ := seeCo_elim K e2
  obtain ⟨o, fd, h1, h1', h2, h3, hp, hb, hs, hd, hc, hg, hbi, hcl⟩ := seeFn_elim K e1
  unfold seeGen at e3
  rw [h1'] at e3
  simp only [Option.map_some, h3, Option.some.injEq, Prod.mk.injEq] at e3
  obtain ⟨q1, q2⟩ := e3
  refine gdef_of (ps := [default, _, _, _, _, _, _, _, _, _, _, _, _, _, _, _, _, _, _, _, _, _, _, _, _, _, _, _, default, default, default, _, _, _, _, _, _, _, _, _, _, _, _, _, _, _, _, _]) h1 h2 h3 (hb.trans rfl) (hs ▸ ⟨rfl, rfl, rfl, rfl, rfl, rfl, rfl, rfl, by decide⟩) hc hg hbi hcl k1 k2 k3 (by rw [q1]; exact k4) (fun v => ?_) en
  obtain ⟨name, qualname, params, body, scope, globals, closure, defaults, kwdefaults, doc, pyModule, annotations, code, closureTuple, builtins⟩ := fd
  cases hp; cases hd; cases q1; cases q2
  rfl
theorem tab_see (K : ∀ b o, h.get? b = some o → R.h₀.get? b = some o) {c P : Nat} (e : (seeTab h c, h.get? P) = (some (some (.ref P, some (.ref P), true, true, true, true)), some { cls := .none, data := .fields #[] })) {q : Str} (e' : seeCo h c = some (.type "code", some q)) (hne : c ≠ P) : TabOk R.h₀ c P ∧ (∃ ps, R.h₀.TableAt c P ps) ∧ R.h₀.get? P ≠ none := by
  obtain ⟨e1, e2⟩ := Prod.mk.inj e
  unfold seeTab at e1
  unfold seeCo at e'
  cases ho : h.get? c with
  | none => rw [ho] at e1; cases e1
  | some o =>
    rw [ho] at e1 e'
    simp only [Option.map_some, Option.some.injEq, Prod.mk.injEq] at e1 e'
    obtain ⟨ec, _⟩ := e'
    split at e1
    · rename_i vs hd
      simp only [Prod.mk.injEq, Option.some.injEq] at e1
      obtain ⟨x1, x2, y1, y2, y3, y4⟩ := e1
      obtain ⟨_, _, y1⟩ := isS_elim y1
      obtain ⟨_, _, y2⟩ := isI_elim y2
      obtain ⟨_, y3⟩ := isB_elim y3
      obtain ⟨_, _, y4⟩ := isI_elim y4
      exact ⟨tabOk_of (K _ _ ho) ec hd x1 y1 y2 y3 y4 x2 (K _ _ e2) hne, ⟨#[], ⟨o, vs, K _ _ ho, ec, hd, x2⟩, K _ _ e2⟩, by rw [K _ _ e2]; simp⟩
    · cases e1
theorem ns_see (K : ∀ b o, h.get? b = some o → R.h₀.get? b = some o) {mg : Str → Option Value} {l : List (Str × Option Value)} (hn : R.h₀.Ns mainGlobals mg) (e : seeNs h l = some (.type "dict", some (l.map (·.2)))) : (∀ o, R.h₀.get? mainGlobals = some o → o.cls ≠ .none) ∧ l.map (fun x => mg x.1) = l.map (·.2) := by
  unfold seeNs at e
  cases ho : h.get? mainGlobals with
  | none => rw [ho] at e; cases e
  | some o =>
    rw [ho] at e
    simp only [Option.map_some, Option.some.injEq, Prod.mk.injEq] at e
    obtain ⟨ec, e2⟩ := e
    refine ⟨cls_ne (K _ _ ho) (by rw [ec]; simp), ?_⟩
    split at e2
    · rename_i es ep hd
      rw [← Option.some.inj e2]
      exact List.map_congr_left fun x _ => ns_val hn (K _ _ ho) hd rfl
    · cases e2
theorem blt_see (K : ∀ b o, h.get? b = some o → R.h₀.get? b = some o) (e : (h.get? builtinsNs).map (·.cls) = some (.type "dict")) : ∀ o, R.h₀.get? builtinsNs = some o → o.cls ≠ .none := by
  cases ho : h.get? builtinsNs with
  | none => rw [ho] at e; cases e
  | some o =>
    rw [ho] at e
    exact cls_ne (K _ _ ho) (by have e' : o.cls = _ := Option.some.inj e; rw [e']; simp)
end

/-- the head's row, with what is known of the laid arguments («o_head» writes the row by this name, which stands here ahead of the library's) -/
theorem PySem.W.holds_open {r : OpenRow} {q : Program} {loose : List Str} {Xt : Shared → Bool} {XP : (Str → Option Value) → Heap → Prop} {α : Type} {Yf : Shared → α} {Ya : World → α} {YP : World → Heap → Prop} {d : DefRec} {kwd : List (Str × Expr)} {N : Nat}
    (left : LeftO r.prog q loose Xt Yf Ya N) (_ : ∀ w s, Yf s = Ya w → YP w s.heap) (_ : ∀ w h h', YP w h → (∀ b o, h.get? b = some o → h'.get? b = some o) → YP w h')
    (hX : ∀ s, Xt s = true → XP (s.heap.nsMap mainGlobals) s.heap) (hXk : ∀ mg h h', XP mg h → (∀ b o, h.get? b = some o → h'.get? b = some o) → XP mg h')
    (hdef : defOf q r.name = some (d, kwd)) (hp : r.prog.theDef r.name = some (d.params, d.body, d.scope)) (hk : kwWritten? d.params.kwonlyargs d.params.kw_defaults = some kwd) (hRf : ∀ s, Xt s = true → RecFacts r.records s.heap) (hwr : (!r.writes || r.records.isEmpty) = true)
    (k1 : r.wellSaid = true) (ok : (chainsOk q && opensWell r.prog && (frees r.toRowW && r.within.isEmpty)) = true) (hb : r.prog.bare) (hw : r.toRowW.promised)
    (call : WalkX q loose XP Yf Ya r.toRowW d kwd fun f vs => PySem.call f vs) : r.Holds :=
  holds_openX left hX hXk hdef hp hk hRf hwr k1 ok hb hw call

theorem said_law : PySem.Challenge.rw_ux0016_01.wellSaid = true := by
  unfold OpenLaw.wellSaid OpenRow.wellSaid OpenRow.partSaid looksOpen
  repeat' (with_reducible refine look_both ?_ ?_)
  all_goals decide +kernel
theorem row_holds : PySem.Challenge.rw_ux0016_01.Holds := by
  w_on
  refine holds_law said_law fun said => ?_
  o_head hookL
  case hw => w_witness2
  intro w s₀ s₁ mg mb G y fa o pm cd doc dV kV ho hd hcd hD hmg hg args vals as L hpre hlay hrd hwl hlo
  have K : ∀ b o, s₀.heap.get? b = some o → s₁.heap.get? b = some o := L.keeps
  have Y : obsL s₀ = valL w := y
  clear y
  refine Ground.open G ?_
  intro T B D TE TW
  wrow_args hpre hlay hrd hwl hlo
  clear hd hD hcd
  rename_i xs _ _ _ _ _ _ _ p vs _ hL _ _ _ hI _ hlen _
  obtain ⟨htk, hsc⟩ := script_laid L (Nat.blt_eq.mp (congrArg Seen.toks Y)) hL
  let R : RT := ⟨PySem.Challenge.rw_ux0016_01.row.prog, w, s₁.heap, s₁.os, theTabs⟩
  have yf : theFns.map (fun x => (seeFn s₀.heap x.2.1, seeCo s₀.heap x.2.2)) = theFns.map (fun x => (fnVal x.1 .none x.2.2, coVal x.1)) := congrArg Seen.fns Y
  have yk : theKws.map (fun x => (seeFn s₀.heap x.2.1, seeCo s₀.heap x.2.2.1, s₀.heap.get? x.2.2.2.1)) = theKws.map (fun x => (fnVal x.1 (.ref x.2.2.2.1) x.2.2.1, coVal x.1, some { cls := .type "tuple", data := .seq #[.int 0 x.2.2.2.2, .none] })) := congrArg Seen.kws Y
  have yt : theTabs.map (fun x => (seeTab s₀.heap x.1, s₀.heap.get? x.2)) = theTabs.map (fun x => (some (some (.ref x.2, some (.ref x.2), true, true, true, true)), some { cls := .none, data := .fields #[] })) := congrArg Seen.tabs Y
  obtain ⟨hg3, yn⟩ := ns_see (R := R) K T.g (congrArg Seen.ns Y)
  have hg0 := blt_see (R := R) K (congrArg Seen.blt Y)
  have gm : ∀ {x : Str} {v : Value}, mg x = some v → GlobV R x v := fun {x v} e => ⟨mg, T.g, hg3, .inl e⟩
  have gb : ∀ {x : Str} {v : Value}, mg x = none → mb x = some v → GlobV R x v := fun {x v} e e' => ⟨mg, T.g, hg3, .inr ⟨e, mb, T.b, hg0, e'⟩⟩
  have m1 : GlobV R (fnN (stm 1)) (.ref 21) := gm (at_ yn 0 rfl)
  have m2 : GlobV R (fnN (stm 2)) (.ref 28) := gm (at_ yn 1 rfl)
  have m3 : GlobV R (fnN (stm 3)) (.ref 35) := gm (at_ yn 2 rfl)
  have m5 : GlobV R (fnN (stm 5)) (.ref 44) := gm (at_ yn 3 rfl)
  have m6 : GlobV R (fnN (stm 6)) (.ref 53) := gm (at_ yn 4 rfl)
  have m7 : GlobV R (fnN (stm 7)) (.ref 62) := gm (at_ yn 5 rfl)
  have m8 : GlobV R (fnN (stm 8)) (.ref 71) := gm (at_ yn 6 rfl)
  have m10 : GlobV R (fnN (stm 10)) (.ref 78) := gm (at_ yn 7 rfl)
  have m11 : GlobV R (fnN (stm 11)) (.ref 85) := gm (at_ yn 8 rfl)
  have m13 : GlobV R (fnN (stm 13)) (.ref 92) := gm (at_ yn 9 rfl)
  have m14 : GlobV R (fnN (stm 14)) (.ref 99) := gm (at_ yn 10 rfl)
  have m15 : GlobV R (fnN (stm 15)) (.ref 106) := gm (at_ yn 11 rfl)
  have m16 : GlobV R (fnN (stm 16)) (.ref 113) := gm (at_ yn 12 rfl)
  have m17 : GlobV R (fnN (stm 17)) (.ref 118) := gm (at_ yn 13 rfl)
  have m18 : GlobV R (fnN (stm 18)) (.ref 125) := gm (at_ yn 14 rfl)
  have m19 : GlobV R (fnN (stm 19)) (.ref 130) := gm (at_ yn 15 rfl)
  have m20 : GlobV R (fnN (stm 20)) (.ref 137) := gm (at_ yn 16 rfl)
  have m21 : GlobV R (fnN (stm 21)) (.ref 142) := gm (at_ yn 17 rfl)
  have b_len : GlobV R "len" (.builtin "len") := gb (at_ yn 19 rfl) ((T.builtins "len" (by decide)).trans (by rfl))
  have b_min : GlobV R "min" (.builtin "min") := gb (at_ yn 20 rfl) ((T.builtins "min" (by decide)).trans (by rfl))
  have b_max : GlobV R "max" (.builtin "max") := gb (at_ yn 21 rfl) ((T.builtins "max" (by decide)).trans (by rfl))
  have b_isinstance : GlobV R "isinstance" (.builtin "isinstance") := gb (at_ yn 22 rfl) ((T.builtins "isinstance" (by decide)).trans (by rfl))
  have b_range : GlobV R "range" (.type "range") := gb (at_ yn 23 rfl) ((T.builtins "range" (by decide)).trans (by rfl))
  have b_list : GlobV R "list" (.type "list") := gb (at_ yn 24 rfl) ((T.builtins "list" (by decide)).trans (by rfl))
  have b_bool : GlobV R "bool" (.type "bool") := gb (at_ yn 25 rfl) ((T.builtins "bool" (by decide)).trans (by rfl))
  have b_int : GlobV R "int" (.type "int") := gb (at_ yn 26 rfl) ((T.builtins "int" (by decide)).trans (by rfl))
  have b_enumerate : GlobV R "enumerate" (.type "enumerate") := gb (at_ yn 27 rfl) ((T.builtins "enumerate" (by decide)).trans (by rfl))
  have mb4 : mg "__builtins__" = some (.ref 4) := at_ yn 18 rfl
  have D2 : DefIs R 2 28 (.ref 27) := defIs_see K (at_ yf 0 rfl) m2
  have D3 : DefIs R 3 35 (.ref 34) := defIs_see K (at_ yf 1 rfl) m3
  have D10 : DefIs R 10 78 (.ref 77) := defIs_see K (at_ yf 2 rfl) m10
  have D11 : DefIs R 11 85 (.ref 84) := defIs_see K (at_ yf 3 rfl) m11
  have D13 : DefIs R 13 92 (.ref 91) := defIs_see K (at_ yf 4 rfl) m13
  have D14 : DefIs R 14 99 (.ref 98) := defIs_see K (at_ yf 5 rfl) m14
  have D15 : DefIs R 15 106 (.ref 105) := defIs_see K (at_ yf 6 rfl) m15
  have D16 : DefIs R 16 113 (.ref 112) := defIs_see K (at_ yf 7 rfl) m16
  have D17 : DefIs R 17 118 (.ref 117) := defIs_see K (at_ yf 8 rfl) m17
  have D18 : DefIs R 18 125 (.ref 124) := defIs_see K (at_ yf 9 rfl) m18
  have D19 : DefIs R 19 130 (.ref 129) := defIs_see K (at_ yf 10 rfl) m19
  have D20 : DefIs R 20 137 (.ref 136) := defIs_see K (at_ yf 11 rfl) m20
  have D21 : DefIs R 21 142 (.ref 141) := defIs_see K (at_ yf 12 rfl) m21
  have D5 : DefKw R 5 44 := defKw_see K (at_ yk 0 rfl) m5
  have D6 : DefKw R 6 53 := defKw_see K (at_ yk 1 rfl) m6
  have D7 : DefKw R 7 62 := defKw_see K (at_ yk 2 rfl) m7
  have D8 : DefKw R 8 71 := defKw_see K (at_ yk 3 rfl) m8
  have D1 : GDef R 21 := gdef_see K (at_ yf 13 rfl) (congrArg Seen.gen Y) b_enumerate
  obtain ⟨t17, u17, v17⟩ := tab_see (R := R) K (at_ yt 0 rfl) (Prod.mk.inj (at_ yf 8 rfl)).2 (by decide)
  obtain ⟨t21, u21, v21⟩ := tab_see (R := R) K (at_ yt 1 rfl) (Prod.mk.inj (at_ yf 12 rfl)).2 (by decide)
  have two : ∀ {c P : Addr}, (c, P) ∈ theTabs → (c = 117 ∧ P = 115) ∨ (c = 141 ∧ P = 139) := fun {c P} h => by simpa [theTabs] using h
  have T0 : Top0 R := ⟨T.nolimit, ⟨mg, T.g, hg3, 4, _, mb4, by decide, by decide, K _ _ (congrArg Seen.mod Y), rfl, rfl, rfl⟩, fun c P h => by
    rcases two h with ⟨rfl, rfl⟩ | ⟨rfl, rfl⟩
    · exact ⟨u17, by decide⟩
    · exact ⟨u21, by decide⟩⟩
  let E : Env0 R := { T := T0, a1 := 21, a2 := 28, a3 := 35, a5 := 44, a6 := 53, a7 := 62, a8 := 71, a10 := 78, a11 := 85, a13 := 92, a14 := 99, a15 := 106, a16 := 113, a17 := 118, a18 := 125, a19 := 130, a20 := 137, a21 := 142, c2 := .ref 27, c3 := .ref 34, c10 := .ref 77, c11 := .ref 84, c13 := .ref 91, c14 := .ref 98, c15 := .ref 105, c16 := .ref 112, c17 := 117, c18 := .ref 124, c19 := .ref 129, c20 := .ref 136, c21 := 141, P17 := 115, P21 := 139, G := D1, gi := m1, D2 := D2, D3 := D3, D5 := D5, D6 := D6, D7 := D7, D8 := D8, D10 := D10, D11 := D11, D13 := D13, D14 := D14, D15 := D15, D16 := D16, D17 := D17, D18 := D18, D19 := D19, D20 := D20, D21 := D21, t17 := .head _, t21 := .tail _ (.head _), glen := b_len, gmin := b_min, gmax := b_max, gis := b_isinstance, grange := b_range, glist := b_list, gbool := b_bool, gint := b_int }
  have hfa : fa = 142 := by
    have e := Option.some.inj (hmg.symm.trans (at_ yn 17 rfl : mg "law" = some (.ref 142)))
    cases e; rfl
  subst hfa
  refine run_law (tabs := theTabs) E ?_ hg htk hsc hI (by omega) ?_
  · intro c P h
    rcases two h with ⟨rfl, rfl⟩ | ⟨rfl, rfl⟩
    · exact ⟨v17, t17⟩
    · exact ⟨v21, t21⟩
  · intro s' h1 h2 h3
    exact ⟨.inl ⟨_, .bool true, [], rfl, fun _ => rfl, .bool .., by first | rfl | wrow_post, fun _ => ⟨List.nodup_nil, fun a h => (by cases h)⟩⟩, h1, h2, h3⟩
end Mine

theorem PySem.Challenge.cw_ux0016_01_holds : PySem.Challenge.rw_ux0016_01.Holds :=
  Mine.row_holds
