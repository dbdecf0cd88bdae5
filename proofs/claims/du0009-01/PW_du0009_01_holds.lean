import PyProof.Rows.All
import Wide.All
import OpenK.AllK
import Wide.FinOn
import PySem.Challenge.RW_du0009_01
open PySem PySem.W PyProof.Rows
set_option Elab.async false
set_option maxRecDepth 100000

-- part B1
namespace Mine

abbrev T3 := Int × Int × Int
/-- the order of triples -/
def tlt (a b : T3) : Bool :=
  if a.1 = b.1 then (if a.2.1 = b.2.1 then decide (a.2.2 < b.2.2) else decide (a.2.1 < b.2.1)) else decide (a.1 < b.1)

/-- v is, in the heap h, a tuple of the three ints of t -/
def IsT3 (h : Heap) (v : Value) (t : T3) : Prop :=
  ∃ a n x y z, v = .ref a ∧ h.get? a = some { cls := .type "tuple", data := .seq #[.int t.1 x, .int t.2.1 y, .int t.2.2 z] n }

section
variable {prog : Program} {w : World} {A : Around} {E : Value → Shared → Prop} {s : Shared}
open PySem.AutoSeq1 (wpAny_loadPart')
open MeetsSeq

/-- the lexical order, place by place -/
def lexL : List ((Int × Tok) × (Int × Tok)) → Bool
  | [] => false
  | (a, b) :: r => if a.1 = b.1 then lexL r else decide (a.1 < b.1)

def vpair (p : (Int × Tok) × (Int × Tok)) : Value × Value := (.int p.1.1 p.1.2, .int p.2.1 p.2.2)

theorem tuple3_lt (l b : Addr) (n n2 : Nat) (p q : T3) (x y z x' y' z' : Tok) :
    Meets (Builtin.«tuple.__lt__» ⟨[.ref l, .ref b], []⟩)
      (fun _ R s => s.heap.get? l = some { cls := .type "tuple", data := .seq #[.int p.1 x, .int p.2.1 y, .int p.2.2 z] n } ∧
        s.heap.get? b = some { cls := .type "tuple", data := .seq #[.int q.1 x', .int q.2.1 y', .int q.2.2 z'] n2 } ∧
        R (.ok (.ret (.bool (tlt p q)))) s) :=
  .of_wp fun prog w A R s h => by
    obtain ⟨hp, g, d, tk, os⟩ := s; obtain ⟨hl, hb, h⟩ := h
    have f2 := AutoSeq1.sub_tuple_tuple
    wp_walk using wpAny_loadPart' hl, wpAny_loadPart' hb, wpAny_forIn_list _ (fun rest b s' => b.1 = none ∧ s' = ⟨hp, g, d, tk, os⟩ ∧
      ∃ ps, rest = ps.map vpair ∧ R (.ok (.ret (.bool (lexL ps)))) ⟨hp, g, d, tk, os⟩) _
    case turn =>
      rintro ⟨u, v⟩ rest b s' ⟨hb', rfl, ps, hz, hR⟩
      match ps, hz, hR with
      | ((a, ta), (c, tc)) :: r, hz, hR =>
        injection hz with hyx hrest
        obtain ⟨rfl, rfl⟩ := Prod.mk.inj hyx
        refine wpAny_bind ((EqGives.int a c ta tc).at _ _ prog w _ _ ?_)
        by_cases hac : a = c
        · subst hac
          have : lexL (((a, ta), (a, tc)) :: r) = lexL r := by simp [lexL]
          rw [this] at hR
          rw [beq_self_eq_true]
          wp_walk
          exact ⟨rfl, rfl, r, hrest, hR⟩
        · have : lexL (((a, ta), (c, tc)) :: r) = decide (a < c) := by simp [lexL, hac]
          rw [this] at hR
          have e2 : (a == c) = false := by simpa using hac
          rw [e2]
          refine (show wpAny _ _ (do rule "tuple.compare.by-the-first-pair-that-differs"; let r ← ret (← richCompare CmpOp.Lt (Value.int a ta) (Value.int c tc)); pure (ForInStep.done (some r, ()))) _ _ _ from ?_)
          refine wpAny_bind (wpAny_rule (wpAny_bind (wpAny_lt_int ?_)))
          exact wpAny_bind (wpAny_pure (wpAny_pure (wpAny_pure ⟨_, rfl, hR⟩)))
    case fin =>
      rintro ⟨b1, b2⟩ s' ⟨hb', rfl, ps, hz, hR⟩
      simp only at hb'
      subst hb'
      match ps, hz, hR with
      | [], _, hR =>
        wp_walk
        exact ⟨_, rfl, hR⟩
    case h =>
      refine ⟨rfl, rfl, [((p.1, x), (q.1, x')), ((p.2.1, y), (q.2.1, y')), ((p.2.2, z), (q.2.2, z'))], rfl, ?_⟩
      have : lexL [((p.1, x), (q.1, x')), ((p.2.1, y), (q.2.1, y')), ((p.2.2, z), (q.2.2, z'))] = tlt p q := by
        unfold tlt
        simp only [lexL]
        split <;> rename_i h1
        · split <;> rename_i h2
          · split <;> rename_i h3
            · simp [h3]
            · rfl
          · rfl
        · rfl
      rw [this]; exact h

theorem lt_T3 {va vb : Value} {ta tb : T3} {Q : Value → Shared → Prop} (ha : IsT3 s.heap va ta) (hb : IsT3 s.heap vb tb) (hu : A.units < cLine)
    (h : Q (.bool (tlt ta tb)) s) : wpAny (model prog w) A (compareOp .Lt va vb) Q E s := by
  obtain ⟨a, n, x, y, z, rfl, ha⟩ := ha
  obtain ⟨b, n2, x', y', z', rfl, hb⟩ := hb
  show wpAny _ _ (richCompare .Lt _ _) _ _ _
  exact richCompare_meets_room (op := .Lt) ⟨_, ha, rfl⟩ ⟨_, hb, rfl⟩ F.slot_tuple_lt F.entry_tuple_lt (F.args_tuple_lt_2 _ _) (tuple3_lt a b n n2 ta tb x y z x' y' z')
    ⟨ha, hb, show Value.bool (tlt ta tb) ≠ Value.notImplemented ∧ Q (.bool (tlt ta tb)) s from ⟨(fun x => nomatch x), h⟩⟩ hu
end
end Mine

-- part B2
namespace Mine

/-- the i-th statement of the program's top -/
def fdef (i : Nat) : Stmt := PySem.Challenge.pw_du0009_01.main.body.getD i (.Pass default)
def nm (i : Nat) : Str := match fdef i with | .FunctionDef name .. => name | _ => Str.empty
def prm (i : Nat) : Arguments := match fdef i with | .FunctionDef _ a .. => a | _ => default
def bd (i : Nat) : List Stmt := match fdef i with | .FunctionDef _ _ b .. => b | _ => []
def sc (i : Nat) : Scope := match fdef i with | .FunctionDef _ _ _ _ _ _ c .. => c | _ => default

abbrev fdOf (i : Nat) (doc pm : Value) (an : Option Addr) (cdv ct : Value) : FuncData :=
  fnOf (nm i) (nm i) (prm i) (bd i) (sc i) .none .none doc pm an cdv ct

/-- the i-th def of the text stands at f -/
def FnAt (h : Heap) (f : Addr) (i : Nat) : Prop :=
  ∃ o doc pm an cdv ct, h.get? f = some o ∧ o.data = .func (fdOf i doc pm an cdv ct) ∧ h.CodeRec cdv (nm i)

structure Fns where
  pop : Addr
  rep : Addr
  ify : Addr
  sd : Addr
  su : Addr
  num : Addr
  snd : Addr
  runs : Addr
  due : Addr

/-- what the program's top has laid: its defs, the globals, the built-in names -/
structure PW (h : Heap) (F : Fns) (mg mb : Str → Option Value) : Prop where
  g : h.Ns mainGlobals mg
  b : h.Ns builtinsNs mb
  nolimit : h.NoLimit
  fpop : FnAt h F.pop 1
  frep : FnAt h F.rep 2
  fify : FnAt h F.ify 3
  fsd : FnAt h F.sd 4
  fsu : FnAt h F.su 5
  fnum : FnAt h F.num 7
  fsnd : FnAt h F.snd 8
  fruns : FnAt h F.runs 9
  fdue : FnAt h F.due 10
  gpop : mg "heappop" = some (.ref F.pop)
  grep : mg "heapreplace" = some (.ref F.rep)
  gify : mg "heapify" = some (.ref F.ify)
  gsd : mg "_siftdown" = some (.ref F.sd)
  gsu : mg "_siftup" = some (.ref F.su)
  gnum : mg "_law_number" = some (.ref F.num)
  gsnd : mg "_law_sound" = some (.ref F.snd)
  gruns : mg "_law_runs" = some (.ref F.runs)
  gdue : mg "_law_due" = some (.ref F.due)
  glen : mg "len" = none
  blen : mb "len" = some (.builtin "len")
  grange : mg "range" = none
  brange : mb "range" = some (.type "range")
  grev : mg "reversed" = none
  brev : mb "reversed" = some (.type "reversed")
  glist : mg "list" = none
  blist : mb "list" = some (.type "list")
  gmin : mg "min" = none
  bmin : mb "min" = some (.builtin "min")
  gsorted : mg "sorted" = none
  bsorted : mb "sorted" = some (.builtin "sorted")
  gidx : mg "IndexError" = none
  bidx : mb "IndexError" = some (.type "IndexError")

/-- all that stood in h₀ stands in h -/
def Bs (h₀ h : Heap) : Prop := ∀ b o, h₀.get? b = some o → h.get? b = some o

/-- all but l that stood in h stands in h' -/
def Ext (l : Addr) (h h' : Heap) : Prop := ∀ b o, b ≠ l → h.get? b = some o → h'.get? b = some o

theorem Ext.refl {l : Addr} {h : Heap} : Ext l h h := fun _ _ _ e => e
theorem Ext.trans {l : Addr} {h h' h'' : Heap} (x : Ext l h h') (y : Ext l h' h'') : Ext l h h'' := fun b o n e => y b o n (x b o n e)
theorem Bs.ext {l : Addr} {h₀ h h' : Heap} (x : Bs h₀ h) (n : h₀.get? l = none) (y : Ext l h h') : Bs h₀ h' := fun b o e =>
  y b o (fun q => by rw [q, n] at e; cases e) (x b o e)
theorem Ext.bs {l : Addr} {h h' : Heap} (y : Bs h h') : Ext l h h' := fun b o _ e => y b o e

section
variable {M : Model} {prog : Program} {w : World} {A : Around} {E : Value → Shared → Prop} {s : Shared} {env : Env} {m : Str → Option Value}

theorem ldv {x : Str} {pos : Pos} {v : Value} {Q : Value → Shared → Prop} (hn : s.heap.Ns env.locals m) (hv : m x = some v) (h : Q v s)
    (hk : env.scope.kind = .function := by rfl) (hl : env.kindOf x = some .local := by rfl)
    (hd : (x == ("__debug__" : Str)) = false := by decide) : wpAny M A (eval (.Name x pos) env) Q E s :=
  wpAny_Name (wpAny_loadName_local hk hl hn hv h) hd

theorem stv (s : Shared) {h : Heap} {tk : Nat} {x : Str} {v : Value} {Q : Unit → Shared → Prop} (hn : h.Ns env.locals m)
    (k : ∀ h' tk', h'.Ns env.locals (fun y => if y = x then some v else m y) → Heap.SameBut env.locals h h' → Q () { s with heap := h', toks := tk' })
    (hk : env.scope.kind = .function := by rfl) (hl : env.kindOf x = some .local := by rfl) : wpAny M A (storeName env x v) Q E { s with heap := h, toks := tk } :=
  wpAny_storeName_local hl hn (fun h' n b => k h' _ n b) (by rw [hk]; rfl)

theorem itemL {value slice : PySem.Expr} {l : Addr} {vs : List Value} {k : Int} {u : Tok} {v : Value} {Q : Value → Shared → Prop}
    (hl : s.heap.PlainList l vs.toArray) (h0 : 0 ≤ k) (hfit : k < 2 ^ 63) (hx : vs[k.toNat]? = some v) (h : Q v s)
    (hs : subscripted slice false (.ref l) (.int k u) = operate [.ref l, .int k u] (getItem (.ref l) (.int k u)) := by with_unfolding_all rfl) :
    wpAny (model prog w) A (subscriptTail value slice (.ref l) (.int k u)) Q E s :=
  tail_any hl.isList.typeIs slot_list_getitem.lookup (wpAny_getItem_list hl.isList h0 hfit (by simpa using hx) h) hs

theorem setL {l : Addr} {vs : List Value} {k : Int} {t : Tok} {v : Value} {Q : Unit → Shared → Prop} (hl : s.heap.PlainList l vs.toArray)
    (h0 : 0 ≤ k) (hfit : k < 2 ^ 63) (hn : k < vs.length)
    (h : ∀ h', h'.PlainList l (vs.set k.toNat v).toArray → Heap.SameBut l s.heap h' → Q () { s with heap := h' }) :
    wpAny (model prog w) A (setItem (.ref l) (.int k t) v) Q E s := by
  obtain ⟨n, ho⟩ := hl
  refine ki_setAt ho h0 hfit (by simpa using hn) (h _ ⟨n, ?_⟩ (Heap.SameBut.update ..))
  have q := PySem.IsL.update ho (fun x => x.setIfInBounds k.toNat v)
  simpa using q

theorem Heap_Ns_ne {h : Heap} {a l : Addr} {m : Str → Option Value} {its : Array Value} (hn : h.Ns a m) (hl : h.PlainList l its) : l ≠ a := by
  rintro rfl
  obtain ⟨o, es, ep, ho, hd, _⟩ := hn
  obtain ⟨n, hl⟩ := hl
  rw [hl] at ho
  cases ho
  cases hd

abbrev envI (i : Nat) (L f : Addr) (cdv : Value) : Env :=
  { scope := sc i, locals := L, globals := mainGlobals, cells := [], qual := nm i ++ ".<locals>.", func := some f, code := cdv, frame := some L, builtins := builtinsNs }

theorem enter {h₀ : Heap} {i : Nat} {f : Addr} {args : List Value} {binds : List (Str × Value)} {Q : Value → Shared → Prop} (X : FnAt h₀ f i) (B : Bs h₀ s.heap) (hlim : h₀.NoLimit) (hroom : A.depth < recursionLimit)
    (hb : ∀ doc pm an cdv ct, bindArgs (fdOf i doc pm an cdv ct) ⟨args, []⟩ = pure binds)
    (hcell : ∀ x ∈ (sc i).names, x.2 ≠ .cell) (hloc : ∀ x ∈ binds, (sc i).names.lookup x.1 = some .local)
    (h : ∀ L cdv h₁ tk, s.heap.get? L = none → h₁.Ns L (fun x => binds.reverse.lookup x) → Bs s.heap h₁ →
      wpAny (model prog w) (A.deeper (envI i L f cdv)) (execs (bd i) (envI i L f cdv)) (fun fl s' => Q (match fl with | .ret v => v | _ => .none) s')
        (fun e s' => wpAny (model prog w) (A.deeper (envI i L f cdv)) (leaving (envI i L f cdv) e) (fun _ s'' => E e s'') (fun e' s'' => E e' s'') s')
        { s with heap := h₁, toks := tk })
    (hco : (sc i).isCoroutine = false := by rfl) (hgen : (sc i).isGenerator = false := by rfl) (hk : (sc i).kind = .function := by rfl) :
    wpAny (model prog w) A (call (.ref f) args) Q E s := by
  obtain ⟨o, doc, pm, an, cdv, ct, ho, hd, hcd⟩ := X
  refine wpAny_call (codeAny_call_def (fd := fdOf i doc pm an cdv ct) (body := bd i) (binds := binds)
    hroom (B _ _ ho) hd (hlim.keeps B) (hcd.keeps B) rfl (BindsTo.of_eq (hb ..)) hcell hloc (fun h₁ hns hk => ?_) hco hgen hk)
  refine h _ cdv h₁ _ ?_ hns hk
  cases q : s.heap.get? s.heap.objs.size with
  | none => rfl
  | some o => exact absurd (Heap.lt_size q) (Nat.lt_irrefl _)

/-- a name that the store does not turn -/
theorem lkn {x y : Str} {v u w : Option Value} (h : w = u) (hne : y ≠ x := by decide) : (if y = x then v else w) = u := (if_neg hne).trans h
theorem lke {x : Str} {v w : Option Value} : (if x = x then v else w) = v := if_pos rfl

theorem itemN {value slice : PySem.Expr} {l : Addr} {vs : List Value} {k : Nat} {u : Tok} {v : Value} {Q : Value → Shared → Prop}
    (hl : s.heap.PlainList l vs.toArray) (hfit : k < 2 ^ 62) (hx : vs[k]? = some v) (h : Q v s)
    (hs : subscripted slice false (.ref l) (.int k u) = operate [.ref l, .int k u] (getItem (.ref l) (.int k u)) := by with_unfolding_all rfl) :
    wpAny (model prog w) A (subscriptTail value slice (.ref l) (.int k u)) Q E s :=
  itemL hl (by omega) (by omega) (by rw [Int.toNat_natCast]; exact hx) h hs

theorem setN (s : Shared) {h : Heap} {tk : Nat} {l : Addr} {vs : List Value} {k : Nat} {t : Tok} {v : Value} {Q : Unit → Shared → Prop} (hl : h.PlainList l vs.toArray)
    (hfit : k < 2 ^ 62) (hn : k < vs.length)
    (c : ∀ h' tk', h'.PlainList l (vs.set k v).toArray → Heap.SameBut l h h' → Q () { s with heap := h', toks := tk' }) :
    wpAny (model prog w) A (setItem (.ref l) (.int k t) v) Q E { s with heap := h, toks := tk } :=
  setL hl (by omega) (by omega) (by omega) (by rw [Int.toNat_natCast]; exact fun h' => c h' tk)

/-- a frame's store keeps all that stood ahead of the frame -/
theorem Ext.sameBut {l L : Addr} {h₁ h h' : Heap} (x : Ext l h₁ h) (hL : h₁.get? L = none) (y : Heap.SameBut L h h') : Ext l h₁ h' := fun b o n e =>
  y.extBut b o (fun q => by rw [q, hL] at e; cases e) (x b o n e)
theorem Ext.sameButL {l : Addr} {h₁ h h' : Heap} (x : Ext l h₁ h) (y : Heap.SameBut l h h') : Ext l h₁ h' := fun b o n e => y.extBut b o n (x b o n e)

theorem ldg {x : Str} {pos : Pos} {v : Value} {mg : Str → Option Value} {Q : Value → Shared → Prop} (hg : s.heap.Ns env.globals mg) (hv : mg x = some v) (h : Q v s)
    (hk : env.scope.kind = .function := by rfl) (hx : env.kindOf x = some .globalImplicit := by rfl) (hd : (x == ("__debug__" : Str)) = false := by decide) :
    wpAny M A (eval (.Name x pos) env) Q E s := Calls.Name_function_global hk hx (Calls.loadGlobal_global hg hv h) hd

theorem ldb {x : Str} {pos : Pos} {v : Value} {mg mb : Str → Option Value} {Q : Value → Shared → Prop} (hg : s.heap.Ns env.globals mg) (hm : mg x = none) (hb : s.heap.Ns env.builtins mb) (hv : mb x = some v) (h : Q v s)
    (hk : env.scope.kind = .function := by rfl) (hx : env.kindOf x = some .globalImplicit := by rfl) (hd : (x == ("__debug__" : Str)) = false := by decide) :
    wpAny M A (eval (.Name x pos) env) Q E s := Calls.Name_function_global hk hx (Calls.loadGlobal_builtin hg hm hb hv h) hd

/-- a call of the text's own def by its name -/
theorem callDef {h₀ : Heap} {i : Nat} {f : Addr} {x : Str} {p pos : Pos} {e : PySem.Expr} {rest : List PySem.Expr} {mg : Str → Option Value} {Q : Value → Shared → Prop} (X : FnAt h₀ f i) (hg : s.heap.Ns env.globals mg) (hv : mg x = some (.ref f))
    (h : wpAny M A (spliced (backTo pos (starEach (e :: rest) env))) (fun vs s₁ => Bs h₀ s₁.heap ∧ wpAny M A (call (.ref f) vs) Q E s₁) E s)
    (hk : env.scope.kind = .function := by rfl) (hx : env.kindOf x = some .globalImplicit := by rfl) (hd : (x == ("__debug__" : Str)) = false := by decide)
    (he : starEach (e :: rest) env = (false, eval e env) :: starEach rest env := by rfl) :
    wpAny M A (eval (.Call (.Name x p) (e :: rest) [] pos) env) Q E s := by
  obtain ⟨o, doc, pm, an, cdv, ct, ho, hdt, hcd⟩ := X
  refine wpAny_Call_NameR (ldg hg hv ?_ hk hx hd)
  exact callWith_def hdt (wpAny_mono h (fun vs s₁ h₁ => ⟨h₁.1 _ _ ho, h₁.2⟩) fun _ _ x => x) he

theorem callLen (s : Shared) {h : Heap} {tk : Nat} {x : Str} {p pos pe : Pos} {e : Str} {l : Addr} {vs : List Value} {mg mb : Str → Option Value} {Q : Value → Shared → Prop} (hg : h.Ns env.globals mg) (hm : mg "len" = none) (hb : h.Ns env.builtins mb) (hv : mb "len" = some (.builtin "len"))
    (hn : h.Ns env.locals m) (he : m e = some (.ref l)) (hl : h.PlainList l vs.toArray) (hsz : vs.length < 2 ^ 62) (c : ∀ t tk', Q (.int vs.length t) { s with heap := h, toks := tk' })
    (hx' : x = "len" := by rfl)
    (hk : env.scope.kind = .function := by rfl) (hx : env.kindOf "len" = some .globalImplicit := by rfl) (hkl : env.kindOf e = some .local := by rfl) (hd : (e == ("__debug__" : Str)) = false := by decide)
    (hst : starEach [.Name e pe] env = (false, eval (.Name e pe) env) :: starEach [] env := by rfl) :
    wpAny (model prog w) A (eval (.Call (.Name x p) [.Name e pe] [] pos) env) Q E { s with heap := h, toks := tk } := by
  subst hx'
  refine wpAny_Call_NameR (ldb hg hm hb hv ?_ hk hx)
  refine PyProof.Rows.callWith_builtin1 (args_cons (ldv hn he (args_nil ?_) hk hkl hd) hst) hst
  refine len_list hl.isList (by simp; omega) ?_
  rw [List.size_toArray]
  exact c _ _

def whileBody : Stmt → List Stmt
  | .While _ b _ _ => b
  | _ => []
def forBody : Stmt → List Stmt
  | .For _ _ b _ _ => b
  | _ => []
end
end Mine

-- part B3
namespace Mine

section
variable {prog : Program} {w : World} {A : Around} {E : Value → Shared → Prop} {env : Env}

/-- a for over an iterator that is walked, by what holds of the heap and of the names between the turns -/
theorem forW (s : Shared) {h : Heap} {tk : Nat} {m : Str → Option Value} {x : Str} {px : Pos} {body : List Stmt} {R : Result → Shared → Prop} {I : Addr} {fp wr : List Addr} {n : Nat} {P : Nat → Value → Prop} {St : Nat → Heap → Prop}
    (W : Walks prog w A I fp wr n P St) (hLf : env.locals ∉ fp) (Inv : Nat → Heap → (Str → Option Value) → Prop)
    (hst : St 0 h) (hn : h.Ns env.locals m) (h0 : Inv 0 h m)
    (step : ∀ i v h₁ m₁ h₂ tk, i < n → P i v → Inv i h₁ m₁ → St i h₁ → h₁.Ns env.locals m₁ →
      (∀ b o, b ≠ env.locals → b ∉ wr → h₁.get? b = some o → h₂.get? b = some o) → St (i + 1) h₂ → h₂.Ns env.locals (fun y => if y = x then some v else m₁ y) →
      wpAny (model prog w) A (execs body env) (fun f s₃ => match f with
        | .next | .cont => ∃ h₃ tk₃ m₃, s₃ = { s with heap := h₃, toks := tk₃ } ∧ (∀ b ∈ fp, ∀ o, h₂.get? b = some o → h₃.get? b = some o) ∧ h₃.Ns env.locals m₃ ∧ Inv (i + 1) h₃ m₃
        | .brk => R (.ok .next) s₃
        | .ret v => R (.ok (.ret v)) s₃) (fun _ _ => False) { s with heap := h₂, toks := tk })
    (done : ∀ h₁ m₁ h₂ tk, Inv n h₁ m₁ → St n h₁ → h₁.Ns env.locals m₁ → (∀ b o, b ∉ wr → h₁.get? b = some o → h₂.get? b = some o) → h₂.Ns env.locals m₁ → R (.ok .next) { s with heap := h₂, toks := tk })
    (hk : env.scope.kind = .function := by rfl) (hl : env.kindOf x = some .local := by rfl) :
    codeAny (model prog w) A (.forLoop (.Name x px) (.ref I) body [] env) R { s with heap := h, toks := tk } := by
  refine codeAny_forLoop (fun k s' => ∃ i h tk m, s' = { s with heap := h, toks := tk } ∧ i ≤ n ∧ k = n - i ∧ St i h ∧ h.Ns env.locals m ∧ Inv i h m) ?_ n ⟨0, h, tk, m, rfl, Nat.zero_le _, rfl, hst, hn, h0⟩
  rintro k s' ⟨i, h, tk, m, rfl, hi, rfl, hst, hn, hI⟩
  have hLw : env.locals ∉ wr := fun q => hLf (W.sub _ q)
  by_cases hlt : i < n
  · refine W.item i _ _ _ hlt hst fun v h₁ tk₁ hP hst₁ hk₁ => ?_
    have hn₁ : h₁.Ns env.locals m := hn.at' fun o e => hk₁ _ o hLw e
    refine wpAny_assign_Name (stv s hn₁ (fun h₂ tk₂ hn₂ hs₂ => ?_) hk hl)
    have hst₂ : St (i + 1) h₂ := W.frame _ _ _ hst₁ fun b hb o e => hs₂.extBut b o (fun q => hLf (q ▸ hb)) e
    refine wpAny_mono (step i v h m h₂ tk₂ hlt hP hI hst hn (fun b o hb hw e => hs₂.extBut b o hb (hk₁ b o hw e)) hst₂ hn₂) (fun f s₃ hf => ?_) fun _ _ x => x.elim
    have fin : (∃ h₃ tk₃ m₃, s₃ = { s with heap := h₃, toks := tk₃ } ∧ (∀ b ∈ fp, ∀ o, h₂.get? b = some o → h₃.get? b = some o) ∧ h₃.Ns env.locals m₃ ∧ Inv (i + 1) h₃ m₃) →
        ∃ m', m' < n - i ∧ ∃ i h tk m, s₃ = { s with heap := h, toks := tk } ∧ i ≤ n ∧ m' = n - i ∧ St i h ∧ h.Ns env.locals m ∧ Inv i h m := by
      rintro ⟨h₃, tk₃, m₃, rfl, hk₃, hn₃, hI₃⟩
      exact ⟨n - (i + 1), by omega, i + 1, h₃, tk₃, m₃, rfl, hlt, rfl, W.frame _ _ _ hst₂ hk₃, hn₃, hI₃⟩
    cases f with
    | next => exact fin hf
    | cont => exact fin hf
    | brk => exact hf
    | ret v => exact hf
  · have hin : i = n := by omega
    subst hin
    refine W.done _ _ _ hst fun h₁ tk₁ hk₁ => ?_
    exact wpAny_execs_nil (done h m h₁ tk₁ hI hst hn hk₁ (hn.at' fun o e => hk₁ _ o hLw e))

/-- range(b) -/
theorem callRange1 {Q : Value → Shared → Prop} (s : Shared) {h : Heap} {tk : Nat} {b : Nat} {t : Tok}
    (c : ∀ r h' tk', h.get? r = none → (∀ a o, h.get? a = some o → h'.get? a = some o) → (∃ t u v, IsRange h' r 0 b 1 t u v) → Q (.ref r) { s with heap := h', toks := tk' }) :
    wpAny (model prog w) A (call (.type "range") [.int b t]) Q E { s with heap := h, toks := tk } :=
  call_range_1 (c _ _ _ (Heap.get?_none_of_le (Nat.le_refl _)) (fun _ _ e => Heap.get?_push_of_some _ e) ⟨_, _, _, IsRange.new ..⟩)
/-- range(a, b) -/
theorem callRange2 {Q : Value → Shared → Prop} (s : Shared) {h : Heap} {tk : Nat} {a b : Int} {t u : Tok}
    (c : ∀ r h' tk', h.get? r = none → (∀ a o, h.get? a = some o → h'.get? a = some o) → (∃ t u v, IsRange h' r a b 1 t u v) → Q (.ref r) { s with heap := h', toks := tk' }) :
    wpAny (model prog w) A (call (.type "range") [.int a t, .int b u]) Q E { s with heap := h, toks := tk } :=
  call_range_2 (c _ _ _ (Heap.get?_none_of_le (Nat.le_refl _)) (fun _ _ e => Heap.get?_push_of_some _ e) ⟨_, _, _, IsRange.new ..⟩)

/-- iter(range(a, b)) -/
theorem iterRange {Q : Value → Shared → Prop} (s : Shared) {h : Heap} {tk : Nat} {r : Addr} {a b : Int} {t u v : Tok} (hr : IsRange h r a b 1 t u v)
    (ha : -(2 ^ 62) ≤ a) (ha' : a < 2 ^ 62) (hb : -(2 ^ 62) ≤ b) (hb' : b < 2 ^ 62)
    (c : ∀ I h' tk', h.get? I = none → (∀ a o, h.get? a = some o → h'.get? a = some o) → IsRangeIter h' I (a + ((0 : Nat) : Int) * 1) (((b - a).toNat : Nat) - ((0 : Nat) : Int)) 1 → Q (.ref I) { s with heap := h', toks := tk' }) :
    wpAny (model prog w) A (pyIter (.ref r)) Q E { s with heap := h, toks := tk } := by
  refine wpAny_pyIter_range hr (small_one ha ha' hb hb') (c _ _ _ (Heap.get?_none_of_le (Nat.le_refl _)) (fun _ _ e => Heap.get?_push_of_some _ e) ?_)
  have e : Builtin.Range.rangeSize a b 1 = (((b - a).toNat : Nat) - ((0 : Nat) : Int)) := by rw [rangeSize_one]; split <;> omega
  rw [e, show a + ((0 : Nat) : Int) * 1 = a by omega]
  exact Heap.get?_push_size _ rfl
end
end Mine

-- part B4
namespace Mine

/-- the tuples of h stand in h' -/
def TK (h h' : Heap) : Prop := ∀ b xs n, h.get? b = some { cls := .type "tuple", data := .seq xs n } → h'.get? b = some { cls := .type "tuple", data := .seq xs n }
theorem TK.refl {h : Heap} : TK h h := fun _ _ _ e => e
theorem TK.trans {h h' h'' : Heap} (x : TK h h') (y : TK h' h'') : TK h h'' := fun b xs n e => y b xs n (x b xs n e)
theorem TK.bs {h h' : Heap} (x : Bs h h') : TK h h' := fun b _ _ e => x b _ e
theorem TK.ns {h h' : Heap} {a : Addr} {m : Str → Option Value} (hn : h.Ns a m) (hs : Heap.SameBut a h h') : TK h h' := fun b xs n e => by
  refine hs.extBut b _ (fun q => ?_) e
  obtain ⟨o, es, ep, ho, hd, _⟩ := hn
  rw [q, ho] at e
  cases e
  cases hd
theorem TK.list {h h' : Heap} {l : Addr} {its : Array Value} (hl : h.PlainList l its) (hs : Ext l h h') : TK h h' := fun b xs n e => by
  refine hs b _ (fun q => ?_) e
  obtain ⟨k, hl⟩ := hl
  rw [q, hl] at e
  simp at e
theorem IsT3_tk {h h' : Heap} {v : Value} {t : T3} (x : IsT3 h v t) (y : TK h h') : IsT3 h' v t := by
  obtain ⟨a, n, p, q, r, rfl, ho⟩ := x
  exact ⟨a, n, p, q, r, rfl, y a _ _ ho⟩

section
variable {prog : Program} {w : World} {A : Around} {E : Value → Shared → Prop} {env : Env}

/-- what a comprehension's turn shows -/
def CompTurn (prog : Program) (w : World) (A : Around) (env : Env) (scope : Scope) (cl : List (Str × Addr)) (x : Str) (ifs : List PySem.Expr) (elt : PySem.Expr) (s : Shared) (h : Heap) (wr : List Addr) (n : Nat) (P : Nat → Value → Prop)
    (G : Nat → List Value → Heap → Prop) : Prop :=
  ∀ C i v ys h₃ m₃ tk₃, h.get? C = none → i < n → P i v → G i ys h₃ → h₃.Ns C m₃ → m₃ x = some v → (∀ b o, b ∉ wr → h.get? b = some o → h₃.get? b = some o) →
    wpAny (model prog w) A (forIn ifs true fun c r => if r = true then do let ok ← isTrue c (compEnvC scope cl C env) (eval c (compEnvC scope cl C env)); pure (ForInStep.yield ok) else pure (ForInStep.yield r))
      (fun ok s₄ => ∃ h₄ tk₄, s₄ = { s with heap := h₄, toks := tk₄ } ∧ Bs h₃ h₄ ∧
        if ok = true then wpAny (model prog w) A (eval elt (compEnvC scope cl C env)) (fun y s₅ => ∃ h₅ tk₅, s₅ = { s with heap := h₅, toks := tk₅ } ∧ Bs h₄ h₅ ∧ G (i + 1) (ys ++ [y]) h₅) (fun _ _ => False) s₄
        else G (i + 1) ys h₄) (fun _ _ => False) { s with heap := h₃, toks := tk₃ }

theorem compBlock {elt iter : PySem.Expr} {x : Str} {px : Pos} {ifs : List PySem.Expr} {scope : Scope} {cl : List (Str × Addr)} {pos : Pos} (s : Shared) {h : Heap} {tk : Nat} {I : Addr} {fp wr : List Addr} {n : Nat} {P : Nat → Value → Prop}
    {St : Nat → Heap → Prop} (W : Walks prog w A I fp wr n P St) (hsz : n ≤ sizeLine) (G : Nat → List Value → Heap → Prop) (hG : ∀ i ys h h', G i ys h → TK h h' → G i ys h')
    (hwr : ∀ i h, St i h → ∀ b ∈ wr, ∀ xs k, h.get? b ≠ some { cls := .type "tuple", data := .seq xs k })
    {RR : Value → Addr → Result → Shared → Prop}
    (hcell : ∀ y ∈ scope.names, y.2 ≠ .cell) (hkind : scope.kind = .function) (hx : scope.names.lookup x = some .local) (hst : St 0 h) (hfp : ∀ b ∈ fp, b < h.objs.size) (h0 : G 0 [] h)
    (turn : CompTurn prog w A env scope cl x ifs elt s h wr n P G)
    (hRR : ∀ D C h' tk m' (ys : List Value), h.get? D = none → h.get? C = none → D ≠ C → h'.Ns C m' → h'.PlainList D ys.toArray → G n ys h' →
      (∀ b o, b ∉ wr → h.get? b = some o → h'.get? b = some o) → RR (.ref D) C (.ok .next) { s with heap := h', toks := tk }) :
    wpAny (model prog w) A (newList []) (fun acc s₃ => wpAny (model prog w) A (newFunctionEnv scope env.globals cl [] env.qual none .none (some env)) (fun cenv s₄ =>
      codeAny (model prog w) A (.compStart (.ListComp elt [⟨.Name x px, iter, ifs, 0⟩] scope pos) 0 (.ref I) acc { cenv with scope := relabel scope env }) (RR acc cenv.locals) s₄) E s₃) E { s with heap := h, toks := tk } := by
  refine wpAny_newObj_type (wpAny_newFunctionEnv hcell (by intro y hy; simp at hy) (fun h₁ hns₁ hsb₁ => ?_) hkind)
  dsimp only at hns₁ hsb₁ ⊢
  generalize hH2 : h.push { cls := .type "list", dict := none, data := .seq ([] : List Value).toArray } = H2 at hns₁ hsb₁ ⊢
  have hC : H2.objs.size = h.objs.size + 1 := by rw [← hH2, Heap.size_push]
  generalize hCn : H2.objs.size = C at hns₁ hsb₁ hC ⊢
  generalize hDn : h.objs.size = D at hC hfp hH2 ⊢
  have hDC : D ≠ C := by omega
  have hDf : D ∉ fp := fun hm => Nat.lt_irrefl _ (hfp _ hm)
  have hCf : C ∉ fp := fun hm => by
    have h1 : @LT.lt Nat _ C D := hfp _ hm
    omega
  have hD0 : h.get? D = none := Heap.get?_none_of_le (Nat.le_of_eq hDn)
  have hC0 : h.get? C = none := Heap.get?_none_of_le (by rw [hDn]; omega)
  have old : ∀ b o, h.get? b = some o → h₁.get? b = some o := fun b o e =>
    hsb₁.extBut b o (fun q => by rw [q, hC0] at e; cases e) (Heap.get?_push_of_some _ (hH2 ▸ Heap.get?_push_of_some _ e))
  have hacc : h₁.PlainList D #[] := ⟨_, hsb₁.extBut _ _ hDC (Heap.get?_push_of_some _ (hH2 ▸ hDn ▸ Heap.get?_push_size _ rfl))⟩
  have hst₁ : St 0 h₁ := W.frame _ _ _ hst fun b _ o e => old b o e
  have hDw : D ∉ wr := fun q => hDf (W.sub _ q)
  have hCw : C ∉ wr := fun q => hCf (W.sub _ q)
  have loop : ∀ tk, codeAny (model prog w) A (.compLoop (.ListComp elt [⟨.Name x px, iter, ifs, 0⟩] scope pos) 0 (.ref I) (.ref D) (compEnvC scope cl C env))
        (RR (.ref D) C) { s with heap := h₁, toks := tk } := by
    intro tk
    refine codeAny_compLoop_tests (fun k s' => ∃ i h' tk m ys, s' = { s with heap := h', toks := tk } ∧ i ≤ n ∧ k = n + 1 - i ∧ ys.length ≤ i ∧ St i h' ∧ h'.Ns C m ∧ h'.PlainList D (List.toArray ys) ∧ G i ys h' ∧
      (∀ b o, b ∉ wr → h.get? b = some o → h'.get? b = some o)) ?_ (n + 1)
      ⟨0, h₁, tk, _, [], rfl, Nat.zero_le _, rfl, Nat.le_refl _, hst₁, hns₁, hacc, hG _ _ _ _ h0 (TK.bs old), fun b o _ e => old b o e⟩
    rintro k s' ⟨i, h', tk, m, ys, rfl, hi, rfl, hys, hst, hn, hl, hg, hk⟩
    by_cases hlt : i < n
    · refine W.item i _ _ _ hlt hst fun v h₂ tk₂ hP hst₂ hk₂ => ?_
      have hn₂ : h₂.Ns C m := hn.at' fun o e => hk₂ _ o hCw e
      have hl₂ : h₂.PlainList D ys.toArray := hl.at fun o e => hk₂ _ o hDw e
      have htk₂ : TK h' h₂ := fun b xs k e => hk₂ b _ (fun q => hwr _ _ hst b q xs k e) e
      refine wpAny_assign_Name (stv s (env := compEnvC scope cl C env) hn₂ (fun h₃ tk₃ hn₃ hs₃ => ?_) hkind (lookup_relabel_local hx))
      have hs₃' : Heap.SameBut C h₂ h₃ := hs₃
      have hl₃ : h₃.PlainList D ys.toArray := hl₂.extBut hs₃'.extBut hDC
      have hst₃ : St (i + 1) h₃ := W.frame _ _ _ hst₂ fun b hb o e => hs₃'.extBut b o (fun q => hCf (q ▸ hb)) e
      have hk₃ : ∀ b o, b ∉ wr → h.get? b = some o → h₃.get? b = some o := fun b o hb e => hs₃'.extBut b o (fun q => by rw [q, hC0] at e; cases e) (hk₂ b o hb (hk b o hb e))
      have hg₃ : G i ys h₃ := hG _ _ _ _ hg (htk₂.trans (TK.ns hn₂ hs₃'))
      refine wpAny_mono (turn C i v ys h₃ _ tk₃ hC0 hlt hP hg₃ hn₃ lke hk₃) (fun ok s₄ hok => ?_) fun _ _ x => x.elim
      obtain ⟨h₄, tk₄, rfl, hb₄, hrest⟩ := hok
      cases ok with
      | false =>
        rw [if_neg (by simp)] at hrest ⊢
        exact ⟨n + 1 - (i + 1), by omega, i + 1, h₄, tk₄, _, ys, rfl, hlt, rfl, by omega, W.frame _ _ _ hst₃ fun b _ o e => hb₄ b o e, hn₃.keeps hb₄, hl₃.at fun o e => hb₄ _ o e, hrest, fun b o hb e => hb₄ b o (hk₃ b o hb e)⟩
      | true =>
        rw [if_pos rfl] at hrest ⊢
        refine wpAny_mono hrest (fun y s₅ hy => ?_) fun _ _ x => x.elim
        obtain ⟨h₅, tk₅, rfl, hb₅, hg₅⟩ := hy
        have hl₅ : h₅.PlainList D ys.toArray := hl₃.at fun o e => hb₅ _ o (hb₄ _ o e)
        refine wpAny_list_append_plain (hsz := by rw [List.size_toArray]; omega) hl₅ fun h₆ hl₆ hs₆ => ?_
        refine ⟨n + 1 - (i + 1), by omega, i + 1, h₆, tk₅, _, ys ++ [y], rfl, hlt, rfl, by simp; omega, W.frame _ _ _ hst₃ fun b hb o e => hs₆.extBut b o (fun q => hDf (q ▸ hb)) (hb₅ b o (hb₄ b o e)),
          ((hn₃.keeps hb₄).keeps hb₅).sameBut hs₆ hDC.symm, ?_, hG _ _ _ _ hg₅ (TK.list hl₅ fun b o hb e => hs₆.extBut b o hb e), fun b o hb e => hs₆.extBut b o (fun q => by rw [q, hD0] at e; cases e) (hb₅ b o (hb₄ b o (hk₃ b o hb e)))⟩
        rw [List.push_toArray] at hl₆; exact hl₆
    · have hin : i = n := by omega
      subst hin
      refine W.done _ _ _ hst fun h₂ tk₂ hk₂ => ?_
      exact hRR D C h₂ tk₂ m ys hD0 hC0 hDC (hn.at' fun o e => hk₂ _ o hCw e) (hl.at fun o e => hk₂ _ o hDw e) (hG _ _ _ _ hg fun b xs k e => hk₂ b _ (fun q => hwr _ _ hst b q xs k e) e) fun b o hb e => hk₂ b o hb (hk b o hb e)
  exact codeAny_compStart_list (loop _) (W.self 0 _ _ _ hst₁ (loop _))

/-- what stands behind the source of a comprehension -/
def CompReady (prog : Program) (w : World) (A : Around) (env : Env) (scope : Scope) (cl : List (Str × Addr)) (x : Str) (ifs : List PySem.Expr) (elt : PySem.Expr) (s : Shared) (K : Addr → List Value → Nat → Heap → Nat → Heap → List Addr → Prop) (it : Value) (s₂ : Shared) : Prop :=
  ∃ h tk I fp wr n P St, ∃ G : Nat → List Value → Heap → Prop, s₂ = { s with heap := h, toks := tk } ∧ it = .ref I ∧ Walks prog w A I fp wr n P St ∧ n ≤ sizeLine ∧ (∀ i ys h h', G i ys h → TK h h' → G i ys h') ∧
    (∀ i h, St i h → ∀ b ∈ wr, ∀ xs k, h.get? b ≠ some { cls := .type "tuple", data := .seq xs k }) ∧ St 0 h ∧ (∀ b ∈ fp, b < h.objs.size) ∧ G 0 [] h ∧
    CompTurn prog w A env scope cl x ifs elt s h wr n P G ∧
    (∀ D h' tk (ys : List Value), h.get? D = none → h'.PlainList D ys.toArray → G n ys h' → (∀ b o, b ∉ wr → h.get? b = some o → h'.get? b = some o) → K D ys n h tk h' wr)

theorem listComp {s₀ : Shared} (s : Shared) {elt iter : PySem.Expr} {x : Str} {px : Pos} {ifs : List PySem.Expr} {scope : Scope} {cl : List (Str × Addr)} {pos : Pos} {Q : Value → Shared → Prop}
    (hclos : closureFor scope env = pure cl) (hcell : ∀ y ∈ scope.names, y.2 ≠ .cell)
    (hnames : ∀ y ∈ scope.names, y.2 = .local → scope.names.lookup y.1 = some .local)
    (h : wpAny (model prog w) A (eval iter env) (fun xv s₁ => wpAny (model prog w) A (pyIter xv) (CompReady prog w A env scope cl x ifs elt s (fun D _ _ _ tk h' _ => Q (.ref D) { s with heap := h', toks := tk })) E s₁) E s₀)
    (hkind : scope.kind = .function := by rfl) (hx : scope.names.lookup x = some .local := by rfl)
    (hs : ∀ x, foldedSetIterable iter env x = pure x := by intro _; rfl) :
    wpAny (model prog w) A (eval (.ListComp elt [⟨.Name x px, iter, ifs, 0⟩] scope pos) env) Q E s₀ := by
  rw [eval_ListComp]
  refine wpAny_comprehension_free (use := none) rfl hs hclos hkind hnames (wpAny_mono h (fun xv s₁ h₁ => wpAny_mono h₁ (fun it s₂ h₂ => ?_) fun _ _ e => e) fun _ _ e => e)
  obtain ⟨h, tk, I, fp, wr, n, P, St, G, rfl, rfl, W, hsz, hG, hwr, hst, hfp, h0, turn, hK⟩ := h₂
  refine compBlock s (RR := fun acc C => compPost (model prog w) A E none Q acc C) W hsz G hG hwr hcell hkind hx hst hfp h0 turn ?_
  intro D C h' tk' m' ys hD hC hDC hn hl hg hk
  exact ⟨m', hn, fun h'' hs'' => hK D h'' tk' ys hD (hl.extBut hs''.extBut hDC) (hG _ _ _ _ hg (TK.ns hn hs'')) fun b o hbf e => hs''.extBut b o (by rintro rfl; rw [hC] at e; cases e) (hk b o hbf e)⟩

theorem assignComp {s₀ : Shared} (s : Shared) {elt iter : PySem.Expr} {x y : Str} {px py : Pos} {ifs : List PySem.Expr} {scope : Scope} {cl : List (Str × Addr)} {pos spos : Pos} {Q : Flow → Shared → Prop}
    (hclos : closureFor scope env = pure cl) (hcell : ∀ y ∈ scope.names, y.2 ≠ .cell)
    (hnames : ∀ y ∈ scope.names, y.2 = .local → scope.names.lookup y.1 = some .local)
    (h : wpAny (model prog w) A (eval iter env) (fun xv s₁ => wpAny (model prog w) A (pyIter xv) (CompReady prog w A env scope cl x ifs elt s (fun D ys _ h _ h' wr => ∃ m, env.locals ∉ wr ∧ h.Ns env.locals m ∧
        ∀ h'' tk', h''.PlainList D ys.toArray → h''.Ns env.locals (fun z => if z = y then some (.ref D) else m z) → (∀ b o, b ≠ env.locals → b ∉ wr → h.get? b = some o → h''.get? b = some o) → TK h' h'' → Q .next { s with heap := h'', toks := tk' })) E s₁) E s₀)
    (hsw : swapsWith (.ListComp elt [⟨.Name x px, iter, ifs, 0⟩] scope pos) (some (.Name y py)) spos.line env = pure true := by rfl)
    (hkind : scope.kind = .function := by rfl) (hx : scope.names.lookup x = some .local := by rfl)
    (hk : env.scope.kind = .function := by rfl) (hl : env.kindOf y = some .local := by rfl)
    (hs : ∀ x, foldedSetIterable iter env x = pure x := by intro _; rfl) :
    wpAny (model prog w) A (exec (.Assign [.Name y py] (.ListComp elt [⟨.Name x px, iter, ifs, 0⟩] scope pos) spos) env) Q E s₀ := by
  rw [exec_Assign_Name_used _ _ _ _ hsw]
  refine wpAny_bind (wpAny_standAt (wpAny_bind ?_))
  show wpAny _ A (do let _ ← comprehension (.ListComp elt [⟨.Name x px, iter, ifs, 0⟩] scope pos) scope env _ (newList []) false (eval iter env) (some (assign (.Name y py) env))) _ _ s₀
  refine wpAny_bind (wpAny_mono (wpAny_comprehension_free (use := some (assign (.Name y py) env)) (Q := fun _ s' => Q .next s') rfl hs hclos hkind hnames
    (wpAny_mono h (fun xv s₁ h₁ => wpAny_mono h₁ (fun it s₂ h₂ => ?_) fun _ _ e => e) fun _ _ e => e)) (fun _ s' hq => wpAny_pure (wpAny_pure hq)) fun _ _ e => e)
  obtain ⟨h, tk, I, fp, wr, n, P, St, G, rfl, rfl, W, hsz, hG, hwr, hst, hfp, h0, turn, hK⟩ := h₂
  refine compBlock s (RR := fun acc C => compPost (model prog w) A E (some (assign (.Name y py) env)) (fun _ s' => Q .next s') acc C) W hsz G hG hwr hcell hkind hx hst hfp h0 turn ?_
  intro D C h' tk' m' ys hD hC hDC hnC hlD hg hk'
  obtain ⟨m, hLw, hn, hQ⟩ := hK D h' tk' ys hD hlD hg hk'
  have hLC : env.locals ≠ C := by rintro rfl; obtain ⟨o, _, _, ho, _⟩ := hn; rw [hC] at ho; cases ho
  have hLD : env.locals ≠ D := by rintro rfl; obtain ⟨o, _, _, ho, _⟩ := hn; rw [hD] at ho; cases ho
  show wpAny _ A (assign (.Name y py) env (.ref D)) _ _ _
  have hn' : h'.Ns env.locals m := hn.at' fun o e => hk' _ o hLw e
  refine wpAny_assign_Name (stv s hn' (fun h₂ tk₂ hn₂ hs₂ => ?_) hk hl)
  have hnC₂ : h₂.Ns C m' := hnC.sameBut hs₂ (Ne.symm hLC)
  refine ⟨m', hnC₂, fun h₃ hs₃ => ?_⟩
  exact hQ h₃ tk₂ ((hlD.extBut hs₂.extBut (Ne.symm hLD)).extBut hs₃.extBut hDC) (hn₂.sameBut hs₃ hLC)
    (fun b o hbL hbf e => hs₃.extBut b o (by rintro rfl; rw [hC] at e; cases e) (hs₂.extBut b o hbL (hk' b o hbf e))) ((TK.ns hn' hs₂).trans (TK.ns hnC₂ hs₃))
end
end Mine
namespace Mine
section
variable {M : Model} {prog : Program} {w : World} {A : Around} {E : Value → Shared → Prop} {s : Shared} {env : Env}

abbrev envC (i : Nat) (L f : Addr) (cdv : Value) : Env :=
  { scope := sc i, locals := L, globals := mainGlobals, cells := cellsFrom (L + 1) (sc i).names [], qual := nm i ++ ".<locals>.", func := some f, code := cdv, frame := some L, builtins := builtinsNs }

theorem enterC {h₀ : Heap} {i : Nat} {f : Addr} {args : List Value} {binds : List (Str × Value)} {Q : Value → Shared → Prop} (X : FnAt h₀ f i) (B : Bs h₀ s.heap) (hlim : h₀.NoLimit) (hroom : A.depth < recursionLimit)
    (hb : ∀ doc pm an cdv ct, bindArgs (fdOf i doc pm an cdv ct) ⟨args, []⟩ = pure binds)
    (hkind : ∀ x ∈ binds, (sc i).names.lookup x.1 = some .local ∨ ((sc i).names.lookup x.1 = some .cell ∧ ((cellsFrom (s.heap.objs.size + 1) (sc i).names []).lookup x.1).isSome = true))
    (h : ∀ L cdv h₁ tk, s.heap.get? L = none → h₁.Ns L (bindL (envC i L f cdv).kindOf binds fun _ => none) → Bs s.heap h₁ →
      (∀ n c, (cellsFrom (L + 1) (sc i).names []).lookup n = some c → h₁.IsCell c (bindC (envC i L f cdv).kindOf binds (fun _ => none) n) ∧ s.heap.get? c = none) →
      wpAny (model prog w) (A.deeper (envC i L f cdv)) (execs (bd i) (envC i L f cdv)) (fun fl s' => Q (match fl with | .ret v => v | _ => .none) s')
        (fun e s' => wpAny (model prog w) (A.deeper (envC i L f cdv)) (leaving (envC i L f cdv) e) (fun _ s'' => E e s'') (fun e' s'' => E e' s'') s')
        { s with heap := h₁, toks := tk })
    (hco : (sc i).isCoroutine = false := by rfl) (hgen : (sc i).isGenerator = false := by rfl) (hk : (sc i).kind = .function := by rfl) :
    wpAny (model prog w) A (call (.ref f) args) Q E s := by
  obtain ⟨o, doc, pm, an, cdv, ct, ho, hd, hcd⟩ := X
  refine wpAny_call (codeAny_call_cells (fd := fdOf i doc pm an cdv ct) (body := bd i) (binds := binds)
    hroom (B _ _ ho) hd (hlim.keeps B) (hcd.keeps B) rfl (hb ..) rfl hkind (fun s₁ x => ?_) hco hgen hk)
  obtain ⟨⟨⟨h₁, tk, rfl⟩, hns, hkeep, habove⟩, hcell, hapart, hab⟩ := x
  refine h _ cdv h₁ tk (Heap.get?_none_of_le (Nat.le_refl _)) hns hkeep (fun n c hc => ⟨hcell n c hc, ?_⟩)
  exact Heap.get?_none_of_le (Nat.le_trans habove (Nat.le_of_lt (hab n c (mem_of_lookup hc))))

theorem ldc {x : Str} {pos : Pos} {c : Addr} {v : Value} {Q : Value → Shared → Prop} (hv : s.heap.IsCell c (some v)) (h : Q v s)
    (hk : env.scope.kind = .function := by rfl) (hl : env.kindOf x = some .cell := by rfl) (hc : env.cells.lookup x = some c := by rfl)
    (hd : (x == ("__debug__" : Str)) = false := by decide) : wpAny M A (eval (.Name x pos) env) Q E s :=
  wpAny_Name (wpAny_loadName_cell hk hl hc hv h) hd

theorem stc (s : Shared) {h : Heap} {tk : Nat} {x : Str} {c : Addr} {v₀ : Option Value} {v : Value} {Q : Unit → Shared → Prop} (hv : h.IsCell c v₀)
    (k : ∀ h' tk', h'.IsCell c (some v) → Heap.SameBut c h h' → Q () { s with heap := h', toks := tk' })
    (hk : env.scope.kind = .function := by rfl) (hl : env.kindOf x = some .cell := by rfl) (hc : env.cells.lookup x = some c := by rfl) : wpAny M A (storeName env x v) Q E { s with heap := h, toks := tk } :=
  wpAny_storeName_cell hk hl hc hv (fun h' n b => k h' _ n b)

theorem TK.cell {h h' : Heap} {c : Addr} {v : Option Value} (hc : h.IsCell c v) (hs : Heap.SameBut c h h') : TK h h' := fun b xs n e => by
  refine hs.extBut b _ (fun q => ?_) e
  obtain ⟨o, ho, hd⟩ := hc
  rw [q, ho] at e
  cases e
  cases hd
theorem IsCell_ne_ns {h : Heap} {c L : Addr} {v : Option Value} {m : Str → Option Value} (hc : h.IsCell c v) (hn : h.Ns L m) : c ≠ L := by
  rintro rfl
  obtain ⟨o, ho, hd⟩ := hc
  obtain ⟨o', es, ep, ho', hd', _⟩ := hn
  rw [ho] at ho'
  cases ho'
  rw [hd] at hd'
  cases hd'
theorem IsCell_ne_list {h : Heap} {c l : Addr} {v : Option Value} {its : Array Value} (hc : h.IsCell c v) (hl : h.PlainList l its) : c ≠ l := by
  rintro rfl
  obtain ⟨o, ho, hd⟩ := hc
  obtain ⟨n, ho'⟩ := hl
  rw [ho] at ho'
  cases ho'
  cases hd

/-- a for whose target is a cell -/
theorem forWC (s : Shared) {h : Heap} {tk : Nat} {v₀ : Option Value} {c : Addr} {x : Str} {px : Pos} {body : List Stmt} {R : Result → Shared → Prop} {I : Addr} {fp wr : List Addr} {n : Nat} {P : Nat → Value → Prop} {St : Nat → Heap → Prop}
    (W : Walks prog w A I fp wr n P St) (hcf : c ∉ fp) (Inv : Nat → Heap → Prop)
    (hst : St 0 h) (hc₀ : h.IsCell c v₀) (h0 : Inv 0 h)
    (step : ∀ i v h₁ h₂ tk, i < n → P i v → Inv i h₁ → St i h₁ → (∃ v₁, h₁.IsCell c v₁) →
      (∀ b o, b ≠ c → b ∉ wr → h₁.get? b = some o → h₂.get? b = some o) → St (i + 1) h₂ → h₂.IsCell c (some v) →
      wpAny (model prog w) A (execs body env) (fun f s₃ => match f with
        | .next | .cont => ∃ h₃ tk₃ v₃, s₃ = { s with heap := h₃, toks := tk₃ } ∧ (∀ b ∈ fp, ∀ o, h₂.get? b = some o → h₃.get? b = some o) ∧ h₃.IsCell c v₃ ∧ Inv (i + 1) h₃
        | .brk => R (.ok .next) s₃
        | .ret v => R (.ok (.ret v)) s₃) (fun _ _ => False) { s with heap := h₂, toks := tk })
    (done : ∀ h₁ h₂ tk, Inv n h₁ → St n h₁ → (∃ v₁, h₁.IsCell c v₁) → (∀ b o, b ∉ wr → h₁.get? b = some o → h₂.get? b = some o) → R (.ok .next) { s with heap := h₂, toks := tk })
    (hk : env.scope.kind = .function := by rfl) (hl : env.kindOf x = some .cell := by rfl) (hc : env.cells.lookup x = some c := by rfl) :
    codeAny (model prog w) A (.forLoop (.Name x px) (.ref I) body [] env) R { s with heap := h, toks := tk } := by
  refine codeAny_forLoop (fun k s' => ∃ i h tk v, s' = { s with heap := h, toks := tk } ∧ i ≤ n ∧ k = n - i ∧ St i h ∧ h.IsCell c v ∧ Inv i h) ?_ n ⟨0, h, tk, v₀, rfl, Nat.zero_le _, rfl, hst, hc₀, h0⟩
  rintro k s' ⟨i, h, tk, v₁, rfl, hi, rfl, hst, hcv, hI⟩
  have hcw : c ∉ wr := fun q => hcf (W.sub _ q)
  have cellAt : ∀ {h h' : Heap} {v : Option Value}, h.IsCell c v → (∀ o, h.get? c = some o → h'.get? c = some o) → h'.IsCell c v := fun ⟨o, ho, hd⟩ k => ⟨o, k o ho, hd⟩
  by_cases hlt : i < n
  · refine W.item i _ _ _ hlt hst fun v h₁ tk₁ hP hst₁ hk₁ => ?_
    have hc₁ : h₁.IsCell c v₁ := cellAt hcv fun o e => hk₁ _ o hcw e
    refine wpAny_assign_Name (stc s hc₁ (fun h₂ tk₂ hc₂ hs₂ => ?_) hk hl hc)
    have hst₂ : St (i + 1) h₂ := W.frame _ _ _ hst₁ fun b hb o e => hs₂.extBut b o (fun q => hcf (q ▸ hb)) e
    refine wpAny_mono (step i v h h₂ tk₂ hlt hP hI hst ⟨_, hcv⟩ (fun b o hb hw e => hs₂.extBut b o hb (hk₁ b o hw e)) hst₂ hc₂) (fun f s₃ hf => ?_) fun _ _ x => x.elim
    have fin : (∃ h₃ tk₃ v₃, s₃ = { s with heap := h₃, toks := tk₃ } ∧ (∀ b ∈ fp, ∀ o, h₂.get? b = some o → h₃.get? b = some o) ∧ h₃.IsCell c v₃ ∧ Inv (i + 1) h₃) →
        ∃ m', m' < n - i ∧ ∃ i h tk v, s₃ = { s with heap := h, toks := tk } ∧ i ≤ n ∧ m' = n - i ∧ St i h ∧ h.IsCell c v ∧ Inv i h := by
      rintro ⟨h₃, tk₃, v₃, rfl, hk₃, hc₃, hI₃⟩
      exact ⟨n - (i + 1), by omega, i + 1, h₃, tk₃, v₃, rfl, hlt, rfl, W.frame _ _ _ hst₂ hk₃, hc₃, hI₃⟩
    cases f with
    | next => exact fin hf
    | cont => exact fin hf
    | brk => exact hf
    | ret v => exact hf
  · have hin : i = n := by omega
    subst hin
    refine W.done _ _ _ hst fun h₁ tk₁ hk₁ => ?_
    exact wpAny_execs_nil (done h h₁ tk₁ hI hst ⟨_, hcv⟩ hk₁)
end
end Mine

-- part C1
namespace Mine

def t0 : T3 := (0, 0, 0)

/-- _siftdown's loop: the new one goes up from pos, not beyond st -/
def sdF (st : Nat) (new : T3) (pos : Nat) (ts : List T3) : List T3 :=
  if st < pos then
    if tlt new (ts.getD ((pos - 1) / 2) t0) then sdF st new ((pos - 1) / 2) (ts.set pos (ts.getD ((pos - 1) / 2) t0)) else ts.set pos new
  else ts.set pos new
termination_by pos
decreasing_by omega

/-- the values vs are, by R, the triples ts -/
def T3s (R : Value → T3 → Prop) (vs : List Value) (ts : List T3) : Prop :=
  vs.length = ts.length ∧ ∀ i v, vs[i]? = some v → R v (ts.getD i t0)

theorem T3s.get {R : Value → T3 → Prop} {vs : List Value} {ts : List T3} (x : T3s R vs ts) {i : Nat} (hi : i < ts.length) : ∃ v, vs[i]? = some v ∧ R v (ts.getD i t0) := by
  have hi' : i < vs.length := by rw [x.1]; exact hi
  exact ⟨vs[i], List.getElem?_eq_getElem hi', x.2 i _ (List.getElem?_eq_getElem hi')⟩

theorem T3s.set {R : Value → T3 → Prop} {vs : List Value} {ts : List T3} (x : T3s R vs ts) {i : Nat} {v : Value} {t : T3} (hv : R v t) : T3s R (vs.set i v) (ts.set i t) := by
  refine ⟨by simp [x.1], fun j u hj => ?_⟩
  by_cases e : i = j
  · subst e
    have hlt : i < vs.length := by
      rcases Nat.lt_or_ge i vs.length with h' | h'
      · exact h'
      · rw [List.getElem?_eq_none (by simpa using h')] at hj; cases hj
    rw [List.getElem?_set_self hlt] at hj
    cases hj
    have : (ts.set i t).getD i t0 = t := by
      rw [List.getD_eq_getElem?_getD, List.getElem?_set_self (by rw [← x.1]; exact hlt)]; rfl
    rw [this]; exact hv
  · rw [List.getElem?_set_ne e] at hj
    have : (ts.set i t).getD j t0 = ts.getD j t0 := by
      rw [List.getD_eq_getElem?_getD, List.getElem?_set_ne e, ← List.getD_eq_getElem?_getD]
    rw [this]; exact x.2 j u hj

theorem IsT3.ext {l : Addr} {h h' : Heap} {v : Value} {t : T3} {its : Array Value} (x : IsT3 h v t) (hl : h.PlainList l its) (y : Ext l h h') : IsT3 h' v t := by
  obtain ⟨a, n, p, q, r, rfl, ho⟩ := x
  refine ⟨a, n, p, q, r, rfl, y a _ (fun e => ?_) ho⟩
  subst e
  obtain ⟨k, hl⟩ := hl
  rw [hl] at ho
  simp at ho

theorem IsT3.bs {h h' : Heap} {v : Value} {t : T3} (x : IsT3 h v t) (y : Bs h h') : IsT3 h' v t := by
  obtain ⟨a, n, p, q, r, rfl, ho⟩ := x
  exact ⟨a, n, p, q, r, rfl, y a _ ho⟩

theorem T3s.imp {R R' : Value → T3 → Prop} {vs : List Value} {ts : List T3} (x : T3s R vs ts) (y : ∀ v t, R v t → R' v t) : T3s R' vs ts :=
  ⟨x.1, fun i v hv => y _ _ (x.2 i v hv)⟩

section
variable {prog : Program} {w : World} {A : Around} {E : Value → Shared → Prop} {s : Shared} {h₀ : Heap} {F : Fns} {mg mb : Str → Option Value}
set_option maxHeartbeats 4000000 in
theorem siftdown_spec (P : PW h₀ F mg mb) (B : Bs h₀ s.heap) {R : Value → T3 → Prop} (hR : ∀ v t, R v t → IsT3 s.heap v t) {l : Addr} {vs : List Value} {ts : List T3} {st pos : Nat} {t1 t2 : Tok} {Q : Value → Shared → Prop}
    (hroom : A.depth < recursionLimit) (hu : A.units + 8 < cLine) (hl : s.heap.PlainList l vs.toArray) (ht : T3s R vs ts)
    (hsp : st ≤ pos) (hp : pos < ts.length) (hsz : ts.length < 2 ^ 62)
    (k : ∀ h' tk vs', Ext l s.heap h' → h'.PlainList l vs'.toArray → T3s R vs' (sdF st (ts.getD pos t0) pos ts) → Q .none { s with heap := h', toks := tk }) :
    wpAny (model prog w) A (call (.ref F.sd) [.ref l, .int st t1, .int pos t2]) Q E s := by
  refine enter (binds := [("heap", .ref l), ("startpos", .int st t1), ("pos", .int pos t2)]) P.fsd B P.nolimit hroom (fun _ _ _ _ _ => rfl) (by decide) (locs rfl) (fun L cdv h₁ tk hL hns hk => ?_)
  have hl₁ : h₁.PlainList l vs.toArray := hl.at fun o e => hk _ _ e
  obtain ⟨v0, hv0, hv0t⟩ := ht.get hp
  -- newitem = heap[pos]
  refine wpAny_execs_cons (wpAny_Assign_Name (Subscript_ (ldv hns rfl (ldv hns rfl (itemN hl₁ (by omega) hv0 (stv s hns (fun h₂ _ hns₂ hs₂ => ?_)))))))
  -- behind the loop: heap[pos] = newitem
  have fin : ∀ s', (∃ h tk m vs' ts' tp, ∃ p : Nat, s' = { s with heap := h, toks := tk } ∧ h.Ns L m ∧ Ext l s.heap h ∧ h.PlainList l vs'.toArray ∧ T3s R vs' ts' ∧
      m "heap" = some (.ref l) ∧ m "pos" = some (.int p tp) ∧ m "newitem" = some v0 ∧ p < ts'.length ∧ ts'.length = ts.length ∧ ts'.set p (ts.getD pos t0) = sdF st (ts.getD pos t0) pos ts) →
      wpAny (model prog w) (A.deeper (envI 4 L F.sd cdv)) (execs [(bd 4).getD 2 (.Pass default)] (envI 4 L F.sd cdv)) (fun fl s' => Q (match fl with | .ret v => v | _ => .none) s')
        (fun e s' => wpAny (model prog w) (A.deeper (envI 4 L F.sd cdv)) (leaving (envI 4 L F.sd cdv) e) (fun _ s'' => E e s'') (fun e' s'' => E e' s'') s') s' := by
    rintro s' ⟨h, tk, m, vs', ts', tp, p, rfl, hn, hx, hl', ht', m1, m2, m3, hp', hlen, hres⟩
    refine wpAny_execs_cons (wpAny_Assign_Subscript (ldv hn m3 (ldv hn m1 (ldv hn m2 (setN s hl' (by omega) (by rw [ht'.1]; omega) (fun h' _ hl'' hs' => ?_))))))
    refine wpAny_execs_nil (k h' _ _ (hx.sameButL hs') hl'' ?_)
    rw [← hres]
    exact ht'.set hv0t
  -- the loop
  refine wpAny_execs_cons (wpAny_While ?_)
  refine codeAny_whileLoop (fun n s' => ∃ h tk m vs' ts' tp, ∃ p : Nat, s' = { s with heap := h, toks := tk } ∧ h.Ns L m ∧ Ext l s.heap h ∧ h.PlainList l vs'.toArray ∧ T3s R vs' ts' ∧
      m "heap" = some (.ref l) ∧ m "pos" = some (.int p tp) ∧ m "newitem" = some v0 ∧ m "startpos" = some (.int st t1) ∧ p < ts'.length ∧ ts'.length = ts.length ∧
      sdF st (ts.getD pos t0) p ts' = sdF st (ts.getD pos t0) pos ts ∧ n = p) ?_ pos
    ⟨h₂, _, _, vs, ts, t2, pos, rfl, hns₂, (Ext.bs hk).sameBut hL hs₂, hl₁.extBut hs₂.extBut (Heap_Ns_ne hns hl₁), ht, rfl, rfl, rfl, rfl, hp, rfl, rfl, rfl⟩
  rintro n s' ⟨h, tk, m, vs', ts', tp, p, rfl, hn, hx, hl', ht', m1, m2, m3, m4, hp', hlen, hres, hnp⟩
  refine wpAny_isTrue_Compare1 (ldv hn m2 (ldv hn m4 (gt_int (wpAny_truthy_bool ?_))))
  rw [sdF] at hres
  by_cases hlt : st < p
  · rw [if_pos hlt] at hres
    rw [decide_eq_true (by omega), if_pos rfl]
    have hpp : (p - 1) / 2 < ts'.length := by omega
    obtain ⟨v1, hv1, hv1t⟩ := ht'.get hpp
    have e1 : Int.fdiv (↑p - 1) (2 ^ Int.toNat 1) = (((p - 1) / 2 : Nat) : Int) := by
      have : (2 : Int) ^ Int.toNat 1 = 2 := by decide
      rw [this, Int.fdiv_eq_ediv_of_nonneg _ (by omega)]; omega
    -- parentpos = pos - 1 >> 1
    refine wpAny_execs_cons (wpAny_Assign_Name (wpAny_BinOp (wpAny_BinOp (ldv hn m2 (wpAny_Constant_int (sub_int (wpAny_Constant_int (rshift_int (by omega) ?_))))))))
    rw [e1]
    refine stv s hn (fun h₃ _ hn₃ hs₃ => ?_)
    have hx₃ := hx.sameBut hL hs₃
    have hl₃ : h₃.PlainList l vs'.toArray := hl'.extBut hs₃.extBut (Heap_Ns_ne hn hl')
    -- parent = heap[parentpos]
    refine wpAny_execs_cons (wpAny_Assign_Name (Subscript_ (ldv hn₃ (lkn m1) (ldv hn₃ lke (itemN hl₃ (by omega) hv1 (stv s hn₃ (fun h₄ _ hn₄ hs₄ => ?_)))))))
    have hx₄ := hx₃.sameBut hL hs₄
    have hl₄ : h₄.PlainList l vs'.toArray := hl₃.extBut hs₄.extBut (Heap_Ns_ne hn₃ hl₃)
    -- if newitem < parent
    refine wpAny_execs_cons (wpAny_If (wpAny_isTrue_Compare1 (ldv hn₄ (lkn (lkn m3)) (ldv hn₄ lke (lt_T3 ((hR _ _ hv0t).ext hl hx₄) ((hR _ _ hv1t).ext hl hx₄) ?_ (wpAny_truthy_bool ?_))))))
    · show A.units + 3 < cLine; omega
    cases hc : tlt (ts.getD pos t0) (ts'.getD ((p - 1) / 2) t0) with
    | true =>
      rw [hc, if_pos rfl] at hres
      rw [if_pos rfl]
      -- heap[pos] = parent; pos = parentpos; continue
      refine wpAny_execs_cons (wpAny_Assign_Subscript (ldv hn₄ lke (ldv hn₄ (lkn (lkn m1)) (ldv hn₄ (lkn (lkn m2)) (setN s hl₄ (by omega) (by rw [ht'.1]; omega) (fun h₅ _ hl₅ hs₅ => ?_))))))
      have hn₅ := hn₄.sameBut hs₅ (Heap_Ns_ne hn₄ hl₄).symm
      refine wpAny_execs_cons (wpAny_Assign_Name (ldv hn₅ (lkn lke) (stv s hn₅ (fun h₆ _ hn₆ hs₆ => ?_))))
      refine wpAny_execs_cons (wpAny_Continue ?_)
      exact ⟨(p - 1) / 2, by omega, h₆, _, _, _, _, _, _, rfl, hn₆, (hx₄.sameButL hs₅).sameBut hL hs₆, hl₅.extBut hs₆.extBut (Heap_Ns_ne hn₅ hl₅), ht'.set hv1t, lkn (lkn (lkn m1)), lke, lkn (lkn (lkn m3)), lkn (lkn (lkn m4)), by simpa using hpp, by simpa using hlen, hres, rfl⟩
    | false =>
      rw [hc, if_neg (by simp)] at hres
      rw [if_neg (by simp)]
      refine wpAny_execs_nil (wpAny_execs_cons (wpAny_Break ?_))
      exact fin _ ⟨h₄, _, _, vs', ts', tp, p, rfl, hn₄, hx₄, hl₄, ht', lkn (lkn m1), lkn (lkn m2), lkn (lkn m3), hp', hlen, hres⟩
  · rw [if_neg hlt] at hres
    rw [decide_eq_false (by omega), if_neg (by simp)]
    refine wpAny_execs_nil ?_
    exact fin _ ⟨h, _, m, vs', ts', tp, p, rfl, hn, hx, hl', ht', m1, m2, m3, hp', hlen, hres⟩
end
end Mine

-- part C2
namespace Mine

/-- the child that _siftup takes -/
def chF (ts : List T3) (pos : Nat) : Nat :=
  if 2 * pos + 1 + 1 < ts.length then (if tlt (ts.getD (2 * pos + 1) t0) (ts.getD (2 * pos + 1 + 1) t0) then 2 * pos + 1 else 2 * pos + 1 + 1) else 2 * pos + 1
theorem chF_gt (ts : List T3) (pos : Nat) : pos < chF ts pos := by unfold chF; split <;> (try split) <;> omega
theorem chF_lt {ts : List T3} {pos : Nat} (h : 2 * pos + 1 < ts.length) : chF ts pos < ts.length := by unfold chF; split <;> (try split) <;> omega

/-- _siftup's loop: the hole goes down to a leaf -/
def suF (pos : Nat) (ts : List T3) : List T3 × Nat :=
  if 2 * pos + 1 < ts.length then suF (chF ts pos) (ts.set pos (ts.getD (chF ts pos) t0)) else (ts, pos)
termination_by ts.length - pos
decreasing_by
  have := chF_gt ts pos
  simp only [List.length_set]
  omega

/-- _siftup -/
def siftupF (pos : Nat) (ts : List T3) : List T3 :=
  sdF pos (ts.getD pos t0) (suF pos ts).2 ((suF pos ts).1.set (suF pos ts).2 (ts.getD pos t0))

section
variable {prog : Program} {w : World} {A : Around} {E : Value → Shared → Prop} {s : Shared} {h₀ : Heap} {F : Fns} {mg mb : Str → Option Value}
set_option maxHeartbeats 4000000 in
theorem siftup_spec (P : PW h₀ F mg mb) (B : Bs h₀ s.heap) {R : Value → T3 → Prop} (hR : ∀ v t, R v t → IsT3 s.heap v t) {l : Addr} {vs : List Value} {ts : List T3} {pos : Nat} {t2 : Tok} {Q : Value → Shared → Prop}
    (hroom : A.depth + 1 < recursionLimit) (hu : A.units + 16 < cLine) (hl0 : h₀.get? l = none) (hl : s.heap.PlainList l vs.toArray) (ht : T3s R vs ts)
    (hp : pos < ts.length) (hsz : ts.length < 2 ^ 60)
    (k : ∀ h' tk vs', Ext l s.heap h' → h'.PlainList l vs'.toArray → T3s R vs' (siftupF pos ts) → Q .none { s with heap := h', toks := tk }) :
    wpAny (model prog w) A (call (.ref F.su) [.ref l, .int pos t2]) Q E s := by
  refine enter (binds := [("heap", .ref l), ("pos", .int pos t2)]) P.fsu B P.nolimit (by omega) (fun _ _ _ _ _ => rfl) (by decide) (locs rfl) (fun L cdv h₁ tk hL hns hk => ?_)
  have hl₁ : h₁.PlainList l vs.toArray := hl.at fun o e => hk _ _ e
  have B₁ : Bs h₀ h₁ := fun b o e => hk b o (B b o e)
  obtain ⟨v0, hv0, hv0t⟩ := ht.get hp
  -- endpos = len(heap)
  refine wpAny_execs_cons (wpAny_Assign_Name (callLen s (P.g.keeps B₁) P.glen (P.b.keeps B₁) P.blen hns rfl hl₁ (by rw [ht.1]; omega) (fun te _ => stv s hns (fun h₂ _ hn₂ hs₂ => ?_))))
  -- startpos = pos
  refine wpAny_execs_cons (wpAny_Assign_Name (ldv hn₂ (lkn rfl) (stv s hn₂ (fun h₃ _ hn₃ hs₃ => ?_))))
  have hl₃ : h₃.PlainList l vs.toArray := (hl₁.extBut hs₂.extBut (Heap_Ns_ne hns hl₁)).extBut hs₃.extBut (Heap_Ns_ne hn₂ (hl₁.extBut hs₂.extBut (Heap_Ns_ne hns hl₁)))
  have hx₃ : Ext l s.heap h₃ := ((Ext.bs hk).sameBut hL hs₂).sameBut hL hs₃
  -- newitem = heap[pos]
  refine wpAny_execs_cons (wpAny_Assign_Name (Subscript_ (ldv hn₃ (lkn (lkn rfl)) (ldv hn₃ (lkn (lkn rfl)) (itemN hl₃ (by omega) hv0 (stv s hn₃ (fun h₄ _ hn₄ hs₄ => ?_)))))))
  have hl₄ : h₄.PlainList l vs.toArray := hl₃.extBut hs₄.extBut (Heap_Ns_ne hn₃ hl₃)
  have hx₄ := hx₃.sameBut hL hs₄
  -- childpos = 2 * pos + 1
  refine wpAny_execs_cons (wpAny_Assign_Name (wpAny_BinOp (wpAny_BinOp (wpAny_Constant_int (ldv hn₄ (lkn (lkn (lkn rfl))) (mul_int (wpAny_Constant_int (add_int ?_))))))))
  rw [show (2 * (pos : Int) + 1) = ((2 * pos + 1 : Nat) : Int) by omega]
  refine stv s hn₄ (fun h₅ _ hn₅ hs₅ => ?_)
  have hl₅ : h₅.PlainList l vs.toArray := hl₄.extBut hs₅.extBut (Heap_Ns_ne hn₄ hl₄)
  have hx₅ := hx₄.sameBut hL hs₅
  -- behind the loop
  have fin : ∀ s', (∃ h tk m vs' ts' tp, ∃ p : Nat, s' = { s with heap := h, toks := tk } ∧ h.Ns L m ∧ Ext l s.heap h ∧ h.PlainList l vs'.toArray ∧ T3s R vs' ts' ∧
      m "heap" = some (.ref l) ∧ m "pos" = some (.int p tp) ∧ m "newitem" = some v0 ∧ m "startpos" = some (.int pos t2) ∧ pos ≤ p ∧ p < ts'.length ∧ ts'.length = ts.length ∧ (ts', p) = suF pos ts) →
      wpAny (model prog w) (A.deeper (envI 5 L F.su cdv)) (execs ((bd 5).drop 5) (envI 5 L F.su cdv)) (fun fl s' => Q (match fl with | .ret v => v | _ => .none) s')
        (fun e s' => wpAny (model prog w) (A.deeper (envI 5 L F.su cdv)) (leaving (envI 5 L F.su cdv) e) (fun _ s'' => E e s'') (fun e' s'' => E e' s'') s') s' := by
    rintro s' ⟨h, tk, m, vs', ts', tp, p, rfl, hn, hx, hl', ht', m1, m2, m3, m4, hpp, hp', hlen, hres⟩
    -- heap[pos] = newitem
    refine wpAny_execs_cons (wpAny_Assign_Subscript (ldv hn m3 (ldv hn m1 (ldv hn m2 (setN s hl' (by omega) (by rw [ht'.1]; omega) (fun h' _ hl'' hs' => ?_))))))
    have hx' := hx.sameButL hs'
    have hn' := hn.sameBut hs' (Heap_Ns_ne hn hl').symm
    have B' : Bs h₀ h' := B.ext hl0 hx'
    -- _siftdown(heap, startpos, pos)
    refine wpAny_execs_cons (wpAny_Expr (callDef P.fsd (P.g.keeps B') P.gsd (args_cons (ldv hn' m1 (args_cons (ldv hn' m4 (args_cons (ldv hn' m2 (args_nil ⟨B', ?_⟩)))))))))
    refine siftdown_spec (R := R) (ts := ts'.set p (ts.getD pos t0)) P B' (fun v t r => (hR v t r).ext hl hx') (by show A.depth + 1 < _; omega) (by show A.units + 3 + 8 < _; omega) hl'' (ht'.set hv0t) hpp (by simpa using hp') (by simp; omega) (fun h'' tk'' vs'' hx'' hl3 ht3 => ?_)
    refine wpAny_execs_nil (k h'' _ vs'' (hx'.trans hx'') hl3 ?_)
    have e1 : (ts'.set p (ts.getD pos t0)).getD p t0 = ts.getD pos t0 := by
      rw [List.getD_eq_getElem?_getD, List.getElem?_set_self hp']; rfl
    rw [e1] at ht3
    unfold siftupF
    rw [← hres]
    exact ht3
  -- the loop
  refine wpAny_execs_cons (wpAny_While ?_)
  refine codeAny_whileLoop (fun n s' => ∃ h tk m vs' ts' tp tc, ∃ p : Nat, s' = { s with heap := h, toks := tk } ∧ h.Ns L m ∧ Ext l s.heap h ∧ h.PlainList l vs'.toArray ∧ T3s R vs' ts' ∧
      m "heap" = some (.ref l) ∧ m "pos" = some (.int p tp) ∧ m "newitem" = some v0 ∧ m "startpos" = some (.int pos t2) ∧ m "childpos" = some (.int ((2 * p + 1 : Nat) : Int) tc) ∧ m "endpos" = some (.int vs.length te) ∧
      pos ≤ p ∧ p < ts'.length ∧ ts'.length = ts.length ∧ suF p ts' = suF pos ts ∧ n = ts.length - p) ?_ (ts.length - pos)
    ⟨h₅, _, _, vs, ts, t2, _, pos, rfl, hn₅, hx₅, hl₅, ht, lkn (lkn (lkn (lkn rfl))), lkn (lkn (lkn (lkn rfl))), lkn lke, lkn (lkn lke), lke, lkn (lkn (lkn lke)), Nat.le_refl _, hp, rfl, rfl, rfl⟩
  rintro n s' ⟨h, tk, m, vs', ts', tp, tc, p, rfl, hn, hx, hl', ht', m1, m2, m3, m4, m5, m6, hpp, hp', hlen, hres, hnp⟩
  refine wpAny_isTrue_Compare1 (ldv hn m5 (ldv hn m6 (lt_int (wpAny_truthy_bool ?_))))
  rw [suF] at hres
  have hlv : vs.length = ts.length := ht.1
  by_cases hlt : 2 * p + 1 < ts'.length
  · rw [if_pos hlt] at hres
    rw [decide_eq_true (by omega), if_pos rfl]
    obtain ⟨v1, hv1, hv1t⟩ := ht'.get hlt
    -- heap[pos] = heap[childpos]; pos = childpos; childpos = 2 * pos + 1
    have rest : ∀ h tk m tc, h.Ns L m → Ext l s.heap h → h.PlainList l vs'.toArray →
        m "heap" = some (.ref l) → m "pos" = some (.int p tp) → m "newitem" = some v0 → m "startpos" = some (.int pos t2) → m "childpos" = some (.int (chF ts' p : Nat) tc) → m "endpos" = some (.int vs.length te) →
        wpAny (model prog w) (A.deeper (envI 5 L F.su cdv)) (execs ((whileBody ((bd 5).getD 4 (.Pass default))).drop 2) (envI 5 L F.su cdv)) (fun f s₃ => match f with
          | .next | .cont => ∃ m, m < n ∧ ∃ h tk m_1 vs' ts' tp tc, ∃ p : Nat, s₃ = { s with heap := h, toks := tk } ∧ h.Ns L m_1 ∧ Ext l s.heap h ∧ h.PlainList l vs'.toArray ∧ T3s R vs' ts' ∧
            m_1 "heap" = some (.ref l) ∧ m_1 "pos" = some (.int p tp) ∧ m_1 "newitem" = some v0 ∧ m_1 "startpos" = some (.int pos t2) ∧ m_1 "childpos" = some (.int ((2 * p + 1 : Nat) : Int) tc) ∧ m_1 "endpos" = some (.int vs.length te) ∧
            pos ≤ p ∧ p < ts'.length ∧ ts'.length = ts.length ∧ suF p ts' = suF pos ts ∧ m = ts.length - p
          | _ => False) (fun _ _ => False) { s with heap := h, toks := tk } := by
      clear hn hx hl' m1 m2 m3 m4 m5 m6
      intro h tk m tc hn hx hl' m1 m2 m3 m4 m5 m6
      have hc : chF ts' p < ts'.length := chF_lt hlt
      have hcg : p < chF ts' p := chF_gt ts' p
      obtain ⟨v2, hv2, hv2t⟩ := ht'.get hc
      refine wpAny_execs_cons (wpAny_Assign_Subscript (Subscript_ (ldv hn m1 (ldv hn m5 (itemN hl' (by omega) hv2 (ldv hn m1 (ldv hn m2 (setN s hl' (by omega) (by rw [ht'.1]; omega) (fun h₆ _ hl₆ hs₆ => ?_)))))))))
      have hn₆ := hn.sameBut hs₆ (Heap_Ns_ne hn hl').symm
      refine wpAny_execs_cons (wpAny_Assign_Name (ldv hn₆ m5 (stv s hn₆ (fun h₇ _ hn₇ hs₇ => ?_))))
      have hl₇ : h₇.PlainList l _ := hl₆.extBut hs₇.extBut (Heap_Ns_ne hn₆ hl₆)
      refine wpAny_execs_cons (wpAny_Assign_Name (wpAny_BinOp (wpAny_BinOp (wpAny_Constant_int (ldv hn₇ lke (mul_int (wpAny_Constant_int (add_int ?_))))))))
      rw [show (2 * ((chF ts' p : Nat) : Int) + 1) = ((2 * chF ts' p + 1 : Nat) : Int) by omega]
      refine stv s hn₇ (fun h₈ _ hn₈ hs₈ => ?_)
      refine wpAny_execs_nil ⟨ts.length - chF ts' p, by omega, h₈, _, _, _, _, _, _, chF ts' p, rfl, hn₈, ((hx.sameButL hs₆).sameBut hL hs₇).sameBut hL hs₈, hl₇.extBut hs₈.extBut (Heap_Ns_ne hn₇ hl₇), ht'.set hv2t,
        lkn (lkn m1), lkn lke, lkn (lkn m3), lkn (lkn m4), lke, lkn (lkn m6), by omega, by simpa using hc, by simpa using hlen, hres, rfl⟩
    -- rightpos = childpos + 1
    refine wpAny_execs_cons (wpAny_Assign_Name (wpAny_BinOp (ldv hn m5 (wpAny_Constant_int (add_int ?_)))))
    rw [show ((2 * p + 1 : Nat) : Int) + 1 = ((2 * p + 1 + 1 : Nat) : Int) by omega]
    refine stv s hn (fun h₆ _ hn₆ hs₆ => ?_)
    have hx₆ := hx.sameBut hL hs₆
    have hl₆ : h₆.PlainList l vs'.toArray := hl'.extBut hs₆.extBut (Heap_Ns_ne hn hl')
    -- if rightpos < endpos and not heap[childpos] < heap[rightpos]
    refine wpAny_execs_cons (wpAny_If (isTrue_and (wpAny_isTrue_Compare1 (ldv hn₆ lke (ldv hn₆ (lkn m6) (lt_int (wpAny_truthy_bool ?_)))))))
    by_cases hr : 2 * p + 1 + 1 < ts'.length
    · rw [decide_eq_true (by omega), if_pos rfl]
      obtain ⟨v2, hv2, hv2t⟩ := ht'.get hr
      refine isTrue_and (isTrue_not (wpAny_isTrue_Compare1 (Subscript_ (ldv hn₆ (lkn m1) (ldv hn₆ (lkn m5) (itemN hl₆ (by omega) hv1 (Subscript_ (ldv hn₆ (lkn m1) (ldv hn₆ lke (itemN hl₆ (by omega) hv2
        (lt_T3 ((hR _ _ hv1t).ext hl hx₆) ((hR _ _ hv2t).ext hl hx₆) (by show A.units + 3 < _; omega) (wpAny_truthy_bool ?_))))))))))))
      cases hc : tlt (ts'.getD (2 * p + 1) t0) (ts'.getD (2 * p + 1 + 1) t0) with
      | true =>
        have ec : chF ts' p = 2 * p + 1 := by unfold chF; rw [if_pos hr, hc, if_pos rfl]
        rw [Bool.not_true, if_neg (by simp), if_neg (by simp)]
        refine wpAny_execs_nil (wpAny_mono (rest h₆ _ _ tc hn₆ hx₆ hl₆ (lkn m1) (lkn m2) (lkn m3) (lkn m4) (by rw [ec]; exact lkn m5) (lkn m6)) (fun f s₃ hf => ?_) fun _ _ x => x.elim)
        cases f <;> first | exact hf | exact hf.elim
      | false =>
        have ec : chF ts' p = 2 * p + 1 + 1 := by unfold chF; rw [if_pos hr, hc, if_neg (by simp)]
        rw [Bool.not_false, if_pos rfl]
        refine isTrue_and_nil ?_
        rw [if_pos rfl]
        refine wpAny_execs_cons (wpAny_Assign_Name (ldv hn₆ lke (stv s hn₆ (fun h₇ _ hn₇ hs₇ => ?_))))
        refine wpAny_execs_nil (wpAny_mono (rest h₇ _ _ _ hn₇ (hx₆.sameBut hL hs₇) (hl₆.extBut hs₇.extBut (Heap_Ns_ne hn₆ hl₆)) (lkn (lkn m1)) (lkn (lkn m2)) (lkn (lkn m3)) (lkn (lkn m4)) (by rw [ec]; exact lke) (lkn (lkn m6))) (fun f s₃ hf => ?_) fun _ _ x => x.elim)
        cases f <;> first | exact hf | exact hf.elim
    · have ec : chF ts' p = 2 * p + 1 := by unfold chF; rw [if_neg hr]
      rw [decide_eq_false (by omega), if_neg (by simp), if_neg (by simp)]
      refine wpAny_execs_nil (wpAny_mono (rest h₆ _ _ tc hn₆ hx₆ hl₆ (lkn m1) (lkn m2) (lkn m3) (lkn m4) (by rw [ec]; exact lkn m5) (lkn m6)) (fun f s₃ hf => ?_) fun _ _ x => x.elim)
      cases f <;> first | exact hf | exact hf.elim
  · rw [if_neg hlt] at hres
    rw [decide_eq_false (by omega), if_neg (by simp)]
    refine wpAny_execs_nil ?_
    exact fin _ ⟨h, _, m, vs', ts', tp, p, rfl, hn, hx, hl', ht', m1, m2, m3, m4, hpp, hp', hlen, hres⟩
end
end Mine

-- part C3
namespace Mine

/-- nothing is less than its parent -/
def IsHeap (ts : List T3) : Prop := ∀ i, 1 ≤ i → i < ts.length → tlt (ts.getD i t0) (ts.getD ((i - 1) / 2) t0) = false

section
variable {prog : Program} {w : World} {A : Around} {E : Value → Shared → Prop} {s : Shared} {h₀ : Heap} {F : Fns} {mg mb : Str → Option Value}
set_option maxHeartbeats 4000000 in
theorem sound_spec (P : PW h₀ F mg mb) (B : Bs h₀ s.heap) {l : Addr} {vs : List Value} {ts : List T3} {Q : Value → Shared → Prop}
    (hh : A.handled = none) (hroom : A.depth < recursionLimit) (hu : A.units + 16 < cLine) (hl : s.heap.PlainList l vs.toArray) (ht : T3s (IsT3 s.heap) vs ts)
    (hsz : ts.length < 2 ^ 60) (hs : IsHeap ts)
    (k : ∀ h' tk, Bs s.heap h' → Q (.bool true) { s with heap := h', toks := tk }) :
    wpAny (model prog w) A (call (.ref F.snd) [.ref l]) Q E s := by
  refine enter (binds := [("heap", .ref l)]) P.fsnd B P.nolimit (by omega) (fun _ _ _ _ _ => rfl) (by decide) (locs rfl) (fun L cdv h₁ tk hL hns hk => ?_)
  have hl₁ : h₁.PlainList l vs.toArray := hl.at fun o e => hk _ _ e
  have B₁ : Bs h₀ h₁ := fun b o e => hk b o (B b o e)
  have hlen : vs.length = ts.length := ht.1
  -- for place in range(1, len(heap))
  refine wpAny_execs_cons (wpAny_For (wpAny_Call_NameR (ldb (P.g.keeps B₁) P.grange (P.b.keeps B₁) P.brange ?_)))
  refine PyProof.Rows.callWith_type1 (args_cons (wpAny_Constant_int (args_cons ?_)))
  refine callLen s (P.g.keeps B₁) P.glen (P.b.keeps B₁) P.blen hns rfl hl₁ (by omega) (fun te _ => args_nil ?_)
  refine callRange2 s (fun r h₂ _ hr hk₂ hR => ?_)
  obtain ⟨_, _, _, hR⟩ := hR
  refine iterRange s hR (by omega) (by omega) (by omega) (by omega) (fun I h₃ _ hI hk₃ hit => ?_)
  have hk13 : ∀ b o, h₁.get? b = some o → h₃.get? b = some o := fun b o e => hk₃ b o (hk₂ b o e)
  have hIL : I ≠ L := fun q => by
    obtain ⟨o, _, _, e, _⟩ := hns.keeps hk₂
    rw [← q, hI] at e; cases e
  have W := Walks.range (prog := prog) (w := w) (A := A.deeper (envI 8 L F.snd cdv)) (show A.handled = none from hh) I 1 1 (((vs.length : Int) - 1).toNat)
  refine forW s W (by simpa using hIL.symm) (fun _ h m => Bs s.heap h ∧ m "heap" = some (.ref l)) hit (hns.keeps hk13) ⟨fun b o e => hk13 b o (hk b o e), rfl⟩ ?_ ?_
  · rintro i v h₄ m h₅ tk₅ hi ⟨t, rfl⟩ ⟨hb, hm⟩ hst hn₄ hk₅ hst₅ hn₅
    have hb₅ : Bs s.heap h₅ := fun b o e => hk₅ b o (fun q => by rw [q] at e; simp only [hL] at e; cases e) (fun q => by
      have q := List.mem_singleton.mp q
      have e' := hk₂ b o (hk b o e)
      rw [q, hI] at e'; cases e') (hb b o e)
    have hl₅ : h₅.PlainList l vs.toArray := hl.at fun o e => hb₅ _ _ e
    have hi' : i + 1 < ts.length := by omega
    obtain ⟨v1, hv1, hv1t⟩ := ht.get hi'
    obtain ⟨v2, hv2, hv2t⟩ := ht.get (show i / 2 < ts.length by omega)
    have e1 : (1 : Int) + ↑i * 1 = ((i + 1 : Nat) : Int) := by omega
    have e2 : Int.fdiv ((1 : Int) + ↑i * 1 - 1) 2 = ((i / 2 : Nat) : Int) := by
      rw [Int.fdiv_eq_ediv_of_nonneg _ (by omega)]; omega
    refine wpAny_execs_cons (wpAny_If (wpAny_isTrue_Compare1 (Subscript_ (ldv hn₅ (lkn hm) (ldv hn₅ lke ?_)))))
    rw [e1]
    refine itemN hl₅ (by omega) hv1 (Subscript_ (ldv hn₅ (lkn hm) (wpAny_BinOp (wpAny_BinOp (ldv hn₅ lke (wpAny_Constant_int (sub_int (wpAny_Constant_int (floordiv_int (by omega) ?_)))))))))
    rw [e2]
    refine itemN hl₅ (by omega) hv2 (lt_T3 (hv1t.bs hb₅) (hv2t.bs hb₅) (by show A.units + 3 < _; omega) (wpAny_truthy_bool ?_))
    have := hs (i + 1) (by omega) hi'
    rw [show (i + 1 - 1) / 2 = i / 2 by omega] at this
    rw [this, if_neg (by simp)]
    exact wpAny_execs_nil (wpAny_execs_nil ⟨h₅, _, _, rfl, fun _ _ _ e => e, hn₅, hb₅, lkn hm⟩)
  · rintro h₄ m h₅ tk₅ ⟨hb, hm⟩ _ hn₄ hk₅ hn₅
    refine wpAny_execs_cons (wpAny_Return_some (wpAny_Constant_bool (k h₅ _ (fun b o e => hk₅ b o (fun q => ?_) (hb b o e)))))
    have q := List.mem_singleton.mp q
    have e' := hk₂ b o (hk b o e)
    rw [q, hI] at e'; cases e'

set_option maxHeartbeats 4000000 in
theorem replace_spec (P : PW h₀ F mg mb) (B : Bs h₀ s.heap) {R : Value → T3 → Prop} (hR : ∀ v t, R v t → IsT3 s.heap v t) {l : Addr} {vs : List Value} {ts : List T3} {vi : Value} {ti : T3} {Q : Value → Shared → Prop}
    (hroom : A.depth + 2 < recursionLimit) (hu : A.units + 32 < cLine) (hl0 : h₀.get? l = none) (hl : s.heap.PlainList l vs.toArray) (ht : T3s R vs ts) (hi : R vi ti)
    (hp : 0 < ts.length) (hsz : ts.length < 2 ^ 60)
    (k : ∀ v h' tk vs', R v (ts.getD 0 t0) → Ext l s.heap h' → h'.PlainList l vs'.toArray → T3s R vs' (siftupF 0 (ts.set 0 ti)) → Q v { s with heap := h', toks := tk }) :
    wpAny (model prog w) A (call (.ref F.rep) [.ref l, vi]) Q E s := by
  refine enter (binds := [("heap", .ref l), ("item", vi)]) P.frep B P.nolimit (by omega) (fun _ _ _ _ _ => rfl) (by decide) (locs rfl) (fun L cdv h₁ tk hL hns hk => ?_)
  have hl₁ : h₁.PlainList l vs.toArray := hl.at fun o e => hk _ _ e
  obtain ⟨v0, hv0, hv0t⟩ := ht.get hp
  -- returnitem = heap[0]
  refine wpAny_execs_cons (wpAny_Assign_Name (Subscript_ (ldv hns rfl (wpAny_Constant_int (itemN (k := 0) hl₁ (by omega) hv0 (stv s hns (fun h₂ _ hn₂ hs₂ => ?_)))))))
  have hx₂ : Ext l s.heap h₂ := (Ext.bs hk).sameBut hL hs₂
  have hl₂ : h₂.PlainList l vs.toArray := hl₁.extBut hs₂.extBut (Heap_Ns_ne hns hl₁)
  -- heap[0] = item
  refine wpAny_execs_cons (wpAny_Assign_Subscript (ldv hn₂ (lkn rfl) (ldv hn₂ (lkn rfl) (wpAny_Constant_int (setN s (k := 0) hl₂ (by omega) (by rw [ht.1]; omega) (fun h₃ _ hl₃ hs₃ => ?_))))))
  have hx₃ := hx₂.sameButL hs₃
  have hn₃ := hn₂.sameBut hs₃ (Heap_Ns_ne hn₂ hl₂).symm
  have B₃ : Bs h₀ h₃ := B.ext hl0 hx₃
  -- _siftup(heap, 0)
  refine wpAny_execs_cons (wpAny_Expr (callDef P.fsu (P.g.keeps B₃) P.gsu (args_cons (ldv hn₃ (lkn rfl) (args_cons (wpAny_Constant_int (args_nil ⟨B₃, ?_⟩)))))))
  refine siftup_spec (R := R) (pos := 0) (ts := ts.set 0 ti) P B₃ (fun v t r => (hR v t r).ext hl hx₃) (by show A.depth + 1 + 1 < _; omega) (by show A.units + 3 + 16 < _; omega) hl0 hl₃ (ht.set hi) (by simpa using hp) (by simpa using hsz) (fun h₄ _ vs₄ hx₄ hl₄ ht₄ => ?_)
  have hn₄ := hn₃.at' fun o e => hx₄ _ o (Heap_Ns_ne hn₃ hl₃).symm e
  -- return returnitem
  refine wpAny_execs_cons (wpAny_Return_some (ldv hn₄ lke (k v0 h₄ _ vs₄ hv0t (hx₃.trans hx₄) hl₄ ht₄)))

set_option maxHeartbeats 4000000 in
theorem popL {l : Addr} {vs : List Value} {v : Value} {h : Heap} {tk : Nat} (s : Shared) {Q : Value → Shared → Prop} (hl : h.PlainList l (vs ++ [v]).toArray) (hsz : vs.length < 2 ^ 20)
    (c : ∀ h' tk', h'.PlainList l vs.toArray → Heap.SameBut l h h' → Q v { s with heap := h', toks := tk' }) :
    wpAny (model prog w) A (call (.builtin "list.pop") [.ref l]) Q E { s with heap := h, toks := tk } := by
  obtain ⟨n, ho⟩ := hl
  have hz' : (vs ++ [v]).toArray.size ≤ sizeLine := by rw [List.size_toArray, sizeLine_eq, List.length_append, List.length_singleton]; omega
  have hk : (vs ++ [v]).toArray.size - 1 = vs.length := by rw [List.size_toArray, List.length_append]; rfl
  have hy : (vs ++ [v]).toArray[(vs ++ [v]).toArray.size - 1]? = some v := by rw [hk]; simp
  refine call_meets PySem.F.slot_list_pop ⟨_, ho, rfl⟩ PySem.F.entry_list_pop (PySem.F.args_list_pop_1 _) (PySem.MeetsSeq.list_pop_last l _ n v hy hz') ⟨ho, c _ _ ⟨n + 1, ?_⟩ (Heap.SameBut.update ..)⟩
  have q := PySem.IsL.update ho (fun xs => xs.eraseIdxIfInBounds ((vs ++ [v]).toArray.size - 1))
  have e : (vs ++ [v]).toArray.eraseIdxIfInBounds ((vs ++ [v]).toArray.size - 1) = vs.toArray := by
    rw [hk, kl_erase, List.append_nil]
  rw [e, if_neg (by simp)] at q
  exact q

set_option maxHeartbeats 4000000 in
theorem pop_spec (P : PW h₀ F mg mb) (B : Bs h₀ s.heap) {R : Value → T3 → Prop} (hR : ∀ v t, R v t → IsT3 s.heap v t) {l : Addr} {vs : List Value} {ts : List T3} {vi : Value} {ti : T3} {Q : Value → Shared → Prop}
    (hroom : A.depth + 2 < recursionLimit) (hu : A.units + 32 < cLine) (hl0 : h₀.get? l = none) (hl : s.heap.PlainList l (vs ++ [vi]).toArray) (ht : T3s R vs ts) (hi : R vi ti)
    (hsz : ts.length < 2 ^ 20)
    (k : ∀ v h' tk vs', R v ((ts ++ [ti]).getD 0 t0) → Ext l s.heap h' → h'.PlainList l vs'.toArray → T3s R vs' (if ts = [] then [] else siftupF 0 (ts.set 0 ti)) → Q v { s with heap := h', toks := tk }) :
    wpAny (model prog w) A (call (.ref F.pop) [.ref l]) Q E s := by
  refine enter (binds := [("heap", .ref l)]) P.fpop B P.nolimit (by omega) (fun _ _ _ _ _ => rfl) (by decide) (locs rfl) (fun L cdv h₁ tk hL hns hk => ?_)
  have hl₁ : h₁.PlainList l (vs ++ [vi]).toArray := hl.at fun o e => hk _ _ e
  have hlen : vs.length = ts.length := ht.1
  -- lastelt = heap.pop()
  refine wpAny_execs_cons (wpAny_Assign_Name (MethodCall_ (ldv hns rfl ?_)))
  refine getMethod_builtin hl₁.isList.typeIs PySem.F.plainAttrs_list PySem.F.slot_list_pop PySem.F.type_list_pop (fun a e => by cases e; obtain ⟨n, ho⟩ := hl₁; exact ⟨_, ho, rfl⟩) ?_
  refine callWith_method0 (popL s hl₁ (by omega) (fun h₂ _ hl₂ hs₂ => ?_))
  have hn₂ := hns.sameBut hs₂ (Heap_Ns_ne hns hl₁).symm
  have hx₂ : Ext l s.heap h₂ := (Ext.bs hk).sameButL hs₂
  refine stv s hn₂ (fun h₃ _ hn₃ hs₃ => ?_)
  have hl₃ : h₃.PlainList l vs.toArray := hl₂.extBut hs₃.extBut (Heap_Ns_ne hn₂ hl₂)
  have hx₃ := hx₂.sameBut hL hs₃
  -- if heap
  refine wpAny_execs_cons (wpAny_If (isTrue_plain (ldv hn₃ (lkn rfl) (wpAny_truthy_list hl₃.isList (by simp; omega) ?_))))
  cases vs with
  | nil =>
    have e0 : ts = [] := List.length_eq_zero_iff.mp (by rw [← hlen]; rfl)
    subst e0
    rw [if_neg (by simp)]
    refine wpAny_execs_nil (wpAny_execs_cons (wpAny_Return_some (ldv hn₃ lke (k vi h₃ _ [] hi hx₃ hl₃ ?_))))
    rw [if_pos rfl]; exact ht
  | cons v0 vr =>
    cases ts with
    | nil => simp at hlen
    | cons t1 tr =>
      have hv0t : R v0 t1 := ht.2 0 v0 rfl
      rw [if_pos (by simp)]
      -- returnitem = heap[0]
      refine wpAny_execs_cons (wpAny_Assign_Name (Subscript_ (ldv hn₃ (lkn rfl) (wpAny_Constant_int (itemN (k := 0) hl₃ (by omega) rfl (stv s hn₃ (fun h₄ _ hn₄ hs₄ => ?_)))))))
      have hx₄ := hx₃.sameBut hL hs₄
      have hl₄ : h₄.PlainList l (v0 :: vr).toArray := hl₃.extBut hs₄.extBut (Heap_Ns_ne hn₃ hl₃)
      -- heap[0] = lastelt
      refine wpAny_execs_cons (wpAny_Assign_Subscript (ldv hn₄ (lkn lke) (ldv hn₄ (lkn (lkn rfl)) (wpAny_Constant_int (setN s (k := 0) hl₄ (by omega) (by simp) (fun h₅ _ hl₅ hs₅ => ?_))))))
      have hx₅ := hx₄.sameButL hs₅
      have hn₅ := hn₄.sameBut hs₅ (Heap_Ns_ne hn₄ hl₄).symm
      have B₅ : Bs h₀ h₅ := B.ext hl0 hx₅
      -- _siftup(heap, 0)
      refine wpAny_execs_cons (wpAny_Expr (callDef P.fsu (P.g.keeps B₅) P.gsu (args_cons (ldv hn₅ (lkn (lkn rfl)) (args_cons (wpAny_Constant_int (args_nil ⟨B₅, ?_⟩)))))))
      refine siftup_spec (R := R) (pos := 0) (ts := (t1 :: tr).set 0 ti) P B₅ (fun v t r => (hR v t r).ext hl hx₅) (by show A.depth + 1 + 1 < _; omega) (by show A.units + 3 + 16 < _; omega) hl0 hl₅ (ht.set hi) (by simp) (by simp at hsz ⊢; omega) (fun h₆ _ vs₆ hx₆ hl₆ ht₆ => ?_)
      have hn₆ := hn₅.at' fun o e => hx₆ _ o (Heap_Ns_ne hn₅ hl₅).symm e
      refine wpAny_execs_cons (wpAny_Return_some (ldv hn₆ lke (k v0 h₆ _ vs₆ hv0t (hx₅.trans hx₆) hl₆ ?_)))
      rw [if_neg (by simp)]; exact ht₆
end
end Mine

-- part C4
namespace Mine
section
variable {prog : Program} {w : World} {A : Around} {E : Value → Shared → Prop} {s : Shared}
def revSmall (a b c : Int) : Bool := Builtin.Range.rangeFitsLong a && Builtin.Range.rangeFitsLong b && Builtin.Range.rangeFitsLong c &&
  Builtin.Range.rangeFitsLong (-c) && Builtin.Range.rangeFitsLong (a - c) && Builtin.Range.rangeFitsLong (Builtin.Range.rangeSize a b c)

theorem meets_range_reversed (r : Addr) (a b c : Int) (t u v : Tok) (hc0 : revSmall a b c = true) :
    Meets (Builtin.«range.__reversed__» ⟨[.ref r], []⟩) (fun _ R s => s.heap.get? r = some { cls := .type "range", dict := none, data := .fields #[.int a t, .int b u, .int c v], slots := #[] } ∧
      R (.ok (.ret (Value.ref s.heap.objs.size))) { s with heap := s.heap.push { cls := Value.type "range_iterator", data := Data.fields #[rawInt (a + (Builtin.Range.rangeSize a b c - 1) * c), rawInt (Builtin.Range.rangeSize a b c), rawInt (-c)] } }) :=
  .of_wp fun prog w A R s h => by
    obtain ⟨hp, g, d, tk, os⟩ := s
    obtain ⟨hl, h⟩ := h
    unfold revSmall at hc0
    have hc1 : ¬ (!(Builtin.Range.rangeFitsLong a && Builtin.Range.rangeFitsLong b && Builtin.Range.rangeFitsLong c &&
      Builtin.Range.rangeFitsLong (-c) && Builtin.Range.rangeFitsLong (a - c) && Builtin.Range.rangeFitsLong (Builtin.Range.rangeSize a b c))) = true := by rw [hc0]; simp
    wp_walk
    simp only [hc0, if_true]
    exact ⟨_, rfl, h⟩

theorem revSmall_ok (k : Nat) (hk : k < 2 ^ 60) : revSmall 0 k 1 = true := by
  unfold revSmall
  have e : Builtin.Range.rangeSize 0 k 1 = k := by rw [rangeSize_one]; split <;> omega
  rw [e]
  simp only [Builtin.Range.rangeFitsLong, Bool.and_eq_true, decide_eq_true_eq]
  omega

theorem sub_rangeiter_reversed : isSubtype (.type "range_iterator") (.type "reversed") = pure false := by rw [isSubtype_type]; kernel_rfl

set_option maxHeartbeats 1000000 in
theorem code_reversed_range {r : Addr} {k : Nat} {t u v : Tok} {Q₁ : Value → Shared → Prop} (hr : IsRange s.heap r 0 k 1 t u v) (hk : k < 2 ^ 60)
    (h : Q₁ (.ref s.heap.objs.size) { s with heap := s.heap.push { cls := .type "range_iterator", data := .fields #[rawInt ((k : Int) - 1), rawInt k, rawInt (-1)] } }) :
    codeAny (model prog w) A (.call (.builtin "reversed.__new__") ⟨[.type "reversed", .ref r], []⟩) (wants Q₁ E) s := by
  have hT : s.TypeIs (.ref r) "range" := ⟨_, hr, rfl⟩
  refine codeAny_of_tree ?_
  show wpAny _ A.in1 (do checkBuiltinCall "reversed.__new__" ⟨[.type "reversed", .ref r], []⟩; again (.builtin "reversed.__new__" ⟨[.type "reversed", .ref r], []⟩)) _ _ s
  refine wpAny_bind (wpAny_of_eq (PySem.F.newCall_reversed_1 _) (wpAny_pure ⟨plainId_quiet PySem.F.plain_reversed_new _, codeAny_builtin PySem.F.entry_reversed_new ?_⟩))
  rw [Around.under_plainId PySem.F.plain_reversed_new _]
  unfold Builtin.«reversed.__new__»
  refine wpAny_bind (wpAny_of_eq (newClass_reversed _) ?_)
  dsimp only
  refine wpAny_bind (wpAny_of_eq (a := ()) (by first | rfl | kernel_rfl) ?_)
  refine wpAny_bind (wpAny_of_eq (a := ()) (by first | rfl | kernel_rfl) ?_)
  try dsimp only
  refine wpAny_bind (wpAny_specialOf hT PySem.F.slot_range_reversed.lookup ?_)
  try dsimp only
  refine wpAny_bind (wpAny_of_eq (PySem.F.slot_range_reversed.bind _) ?_)
  try dsimp only
  first
  | rw [if_neg (show ¬ ((Value.builtin "range.__reversed__" == Value.none) = true) from Bool.false_ne_true)]
  | (show wpAny _ _ (if (Value.builtin "range.__reversed__" == Value.none) = true then _ else _) _ _ _; rw [if_neg (show ¬ ((Value.builtin "range.__reversed__" == Value.none) = true) from Bool.false_ne_true)])
  refine wpAny_bind (wpAny_rule ?_)
  have e : Builtin.Range.rangeSize 0 k 1 = k := by rw [rangeSize_one]; split <;> omega
  refine wpAny_bind (m := runValue (.call (.builtin "range.__reversed__") ⟨[.ref r], []⟩)) (show wpAny _ _ (call (.builtin "range.__reversed__") [.ref r]) _ _ _ from
    call_meets PySem.F.slot_range_reversed hT PySem.F.entry_range_reversed (PySem.F.args_range_reversed_1 _) (meets_range_reversed r 0 k 1 t u v (revSmall_ok k hk)) ⟨hr, ?_⟩)
  rw [e, show (0 : Int) + ((k : Int) - 1) * 1 = (k : Int) - 1 by omega]
  first
  | exact wpAny_pure h
  | exact wpAny_bind (wpAny_pure (wpAny_pure h))

theorem call_reversed_range {r : Addr} {k : Nat} {t u v : Tok} {Q : Value → Shared → Prop} (hr : IsRange s.heap r 0 k 1 t u v) (hk : k < 2 ^ 60)
    (h : Q (.ref s.heap.objs.size) { s with heap := s.heap.push { cls := .type "range_iterator", data := .fields #[rawInt ((k : Int) - 1), rawInt k, rawInt (-1)] } }) :
    wpAny (model prog w) A (call (.type "reversed") [.ref r]) Q E s := by
  refine callType_other (U := "range_iterator") (Q₁ := fun obj s₁ => obj = .ref s.heap.objs.size ∧ s₁ = { s with heap := s.heap.push { cls := .type "range_iterator", data := .fields #[rawInt ((k : Int) - 1), rawInt k, rawInt (-1)] } }) (by decide +kernel) PySem.F.create_reversed ⟨_, _, PySem.F.mro_reversed⟩ PySem.F.made_reversed sub_rangeiter_reversed (PySem.F.typeCall_reversed_1 _) (code_reversed_range hr hk ⟨rfl, rfl⟩) ?_
  rintro obj s₁ ⟨rfl, rfl⟩
  exact ⟨⟨_, Heap.get?_push_size _ rfl, rfl⟩, h⟩

theorem callRev (s : Shared) {h : Heap} {tk : Nat} {r : Addr} {k : Nat} {t u v : Tok} {Q : Value → Shared → Prop} (hr : IsRange h r 0 k 1 t u v) (hk : k < 2 ^ 60)
    (c : ∀ I h' tk', h.get? I = none → (∀ a o, h.get? a = some o → h'.get? a = some o) → IsRangeIter h' I ((k : Int) - 1 + ((0 : Nat) : Int) * (-1)) (((k : Nat) : Int) - ((0 : Nat) : Int)) (-1) → Q (.ref I) { s with heap := h', toks := tk' }) :
    wpAny (model prog w) A (call (.type "reversed") [.ref r]) Q E { s with heap := h, toks := tk } := by
  refine call_reversed_range hr hk (c _ _ _ (Heap.get?_none_of_le (Nat.le_refl _)) (fun _ _ e => Heap.get?_push_of_some _ e) ?_)
  rw [show (k : Int) - 1 + ((0 : Nat) : Int) * (-1) = (k : Int) - 1 by omega, show ((k : Nat) : Int) - ((0 : Nat) : Int) = k by omega]
  exact Heap.get?_push_size _ rfl
end

theorem sdF_length (st : Nat) (new : T3) (pos : Nat) (ts : List T3) : (sdF st new pos ts).length = ts.length := by
  fun_induction sdF st new pos ts <;> simp_all
theorem suF_length (pos : Nat) (ts : List T3) : (suF pos ts).1.length = ts.length := by
  fun_induction suF pos ts <;> simp_all
theorem siftupF_length (pos : Nat) (ts : List T3) : (siftupF pos ts).length = ts.length := by
  unfold siftupF; rw [sdF_length, List.length_set, suF_length]

/-- heapify's loop -/
def ifyF : Nat → List T3 → List T3
  | 0, ts => ts
  | k + 1, ts => ifyF k (siftupF k ts)

section
variable {prog : Program} {w : World} {A : Around} {E : Value → Shared → Prop} {s : Shared} {h₀ : Heap} {F : Fns} {mg mb : Str → Option Value}
set_option maxHeartbeats 4000000 in
theorem heapify_spec (P : PW h₀ F mg mb) (B : Bs h₀ s.heap) {R : Value → T3 → Prop} (hR : ∀ v t, R v t → IsT3 s.heap v t) {l : Addr} {vs : List Value} {ts : List T3} {Q : Value → Shared → Prop}
    (hh : A.handled = none) (hroom : A.depth + 2 < recursionLimit) (hu : A.units + 32 < cLine) (hl0 : h₀.get? l = none) (hl : s.heap.PlainList l vs.toArray) (ht : T3s R vs ts)
    (hsz : ts.length < 2 ^ 50)
    (k : ∀ h' tk vs', Ext l s.heap h' → h'.PlainList l vs'.toArray → T3s R vs' (ifyF (ts.length / 2) ts) → Q .none { s with heap := h', toks := tk }) :
    wpAny (model prog w) A (call (.ref F.ify) [.ref l]) Q E s := by
  refine enter (binds := [("x", .ref l)]) P.fify B P.nolimit (by omega) (fun _ _ _ _ _ => rfl) (by decide) (locs rfl) (fun L cdv h₁ tk hL hns hk => ?_)
  have hl₁ : h₁.PlainList l vs.toArray := hl.at fun o e => hk _ _ e
  have B₁ : Bs h₀ h₁ := fun b o e => hk b o (B b o e)
  have hlen : vs.length = ts.length := ht.1
  -- n = len(x)
  refine wpAny_execs_cons (wpAny_Assign_Name (callLen s (P.g.keeps B₁) P.glen (P.b.keeps B₁) P.blen hns rfl hl₁ (by omega) (fun te _ => stv s hns (fun h₂ _ hn₂ hs₂ => ?_))))
  have hx₂ : Ext l s.heap h₂ := (Ext.bs hk).sameBut hL hs₂
  have hl₂ : h₂.PlainList l vs.toArray := hl₁.extBut hs₂.extBut (Heap_Ns_ne hns hl₁)
  have B₂ : Bs h₀ h₂ := B.ext hl0 hx₂
  have e1 : Int.fdiv (vs.length : Int) 2 = ((ts.length / 2 : Nat) : Int) := by
    rw [Int.fdiv_eq_ediv_of_nonneg _ (by omega)]; omega
  -- for i in reversed(range(n // 2))
  refine wpAny_execs_cons (wpAny_For (wpAny_Call_NameR (ldb (P.g.keeps B₂) P.grev (P.b.keeps B₂) P.brev ?_)))
  refine PyProof.Rows.callWith_type1 (args_cons (wpAny_Call_NameR (ldb (P.g.keeps B₂) P.grange (P.b.keeps B₂) P.brange ?_)))
  refine PyProof.Rows.callWith_type1 (args_cons (wpAny_BinOp (ldv hn₂ lke (wpAny_Constant_int (floordiv_int (by omega) ?_)))))
  rw [e1]
  refine args_nil (callRange1 s (fun r h₃ _ hr hk₃ hR₃ => ?_))
  obtain ⟨_, _, _, hR₃⟩ := hR₃
  refine args_nil (callRev s hR₃ (by omega) (fun I h₄ _ hI hk₄ hit => wpAny_pyIter_rangeiter hit ?_))
  have hk24 : ∀ b o, h₂.get? b = some o → h₄.get? b = some o := fun b o e => hk₄ b o (hk₃ b o e)
  have hIL : I ≠ L := fun q => by
    obtain ⟨o, _, _, e, _⟩ := hn₂.keeps hk₃
    rw [← q, hI] at e; cases e
  have hIs : ∀ b o, b ≠ l → s.heap.get? b = some o → b ≠ I := fun b o hb e q => by
    have := hk₃ b o (hx₂ b o hb e)
    rw [q, hI] at this; cases this
  have hIl : I ≠ l := fun q => by
    obtain ⟨o, ho⟩ := hl₂
    have := hk₃ _ _ ho
    rw [← q, hI] at this; cases this
  have W := Walks.range (prog := prog) (w := w) (A := A.deeper (envI 3 L F.ify cdv)) (show A.handled = none from hh) I ((((ts.length / 2 : Nat) : Int)) - 1) (-1) (ts.length / 2)
  refine forW s W (by simpa using hIL.symm) (fun i h m => ∃ vs' ts', Ext l s.heap h ∧ h.PlainList l vs'.toArray ∧ T3s R vs' ts' ∧ m "x" = some (.ref l) ∧ ts'.length = ts.length ∧ ifyF (ts.length / 2 - i) ts' = ifyF (ts.length / 2) ts)
    hit (hn₂.keeps hk24) ⟨vs, ts, fun b o hb e => hk24 b o (hx₂ b o hb e), hl₂.at fun o e => hk24 _ o e, ht, lkn rfl, rfl, rfl⟩ ?_ ?_
  · rintro i v h₅ m h₆ tk₆ hi ⟨t, rfl⟩ ⟨vs', ts', hx₅, hl₅, ht₅, hm, hlen₅, hres⟩ hst hn₅ hk₆ hst₆ hn₆
    have hx₆ : Ext l s.heap h₆ := fun b o hb e => hk₆ b o (fun q => by rw [q] at e; simp only [hL] at e; cases e) (by simpa using hIs b o hb e) (hx₅ b o hb e)
    have hl₆ : h₆.PlainList l vs'.toArray := hl₅.at fun o e => hk₆ _ o (Heap_Ns_ne hn₅ hl₅) (by simpa using hIl.symm) e
    have B₆ : Bs h₀ h₆ := B.ext hl0 hx₆
    have e2 : ((ts.length / 2 : Nat) : Int) - 1 + (i : Int) * (-1) = ((ts.length / 2 - 1 - i : Nat) : Int) := by omega
    refine wpAny_execs_cons (wpAny_Expr (callDef P.fsu (P.g.keeps B₆) P.gsu (args_cons (ldv hn₆ (lkn hm) (args_cons (ldv hn₆ lke (args_nil ⟨B₆, ?_⟩)))))))
    rw [e2]
    refine siftup_spec (R := R) (pos := ts.length / 2 - 1 - i) (ts := ts') P B₆ (fun v t r => (hR v t r).ext hl hx₆) (by show A.depth + 1 + 1 < _; omega) (by show A.units + 3 + 16 < _; omega) hl0 hl₆ ht₅ (by omega) (by omega) (fun h₇ _ vs₇ hx₇ hl₇ ht₇ => ?_)
    refine wpAny_execs_nil ⟨h₇, _, _, rfl, fun b hb o e => hx₇ b o (by rw [List.mem_singleton.mp hb]; exact hIl) e, hn₆.at' fun o e => hx₇ _ o (Heap_Ns_ne hn₆ hl₆).symm e, vs₇, _, hx₆.trans hx₇, hl₇, ht₇, lkn hm, ?_, ?_⟩
    · rw [siftupF_length, hlen₅]
    · rw [← hres, show ts.length / 2 - i = (ts.length / 2 - 1 - i) + 1 by omega]
      rw [show ts.length / 2 - (i + 1) = ts.length / 2 - 1 - i by omega]
      rfl
  · rintro h₅ m h₆ tk₆ ⟨vs', ts', hx₅, hl₅, ht₅, hm, hlen₅, hres⟩ _ hn₅ hk₆ hn₆
    refine wpAny_execs_nil (k h₆ _ vs' (fun b o hb e => hk₆ b o (by simpa using hIs b o hb e) (hx₅ b o hb e)) (hl₅.at fun o e => hk₆ _ o (by simpa using hIl.symm) e) ?_)
    rw [← hres, Nat.sub_self]
    exact ht₅
end
end Mine

-- part C5
namespace Mine

/-- _law_number -/
def numF (c : Int) : Int := if c % 2 = 0 then c / 2 else c / 2 % 5

section
variable {prog : Program} {w : World} {A : Around} {E : Value → Shared → Prop} {s : Shared} {h₀ : Heap} {F : Fns} {mg mb : Str → Option Value}
set_option maxHeartbeats 4000000 in
theorem number_spec (P : PW h₀ F mg mb) (B : Bs h₀ s.heap) {c : Int} {t : Tok} {Q : Value → Shared → Prop} (hroom : A.depth < recursionLimit)
    (k : ∀ t h' tk, Bs s.heap h' → Q (.int (numF c) t) { s with heap := h', toks := tk }) :
    wpAny (model prog w) A (call (.ref F.num) [.int c t]) Q E s := by
  refine enter (binds := [("cell", .int c t)]) P.fnum B P.nolimit (by omega) (fun _ _ _ _ _ => rfl) (by decide) (locs rfl) (fun L cdv h₁ tk hL hns hk => ?_)
  have e1 : Int.fmod c 2 = c % 2 := Int.fmod_eq_emod_of_nonneg c (by decide)
  have e2 : Int.fdiv c 2 = c / 2 := Int.fdiv_eq_ediv_of_nonneg c (by decide)
  have e3 : Int.fmod (c / 2) 5 = c / 2 % 5 := Int.fmod_eq_emod_of_nonneg _ (by decide)
  refine wpAny_execs_cons (wpAny_If (wpAny_isTrue_Compare1 (wpAny_BinOp (ldv hns rfl (wpAny_Constant_int (mod_int' (by decide) (wpAny_Constant_int (eq_int (wpAny_truthy_bool ?_)))))))))
  rw [e1]
  by_cases hc : c % 2 = 0
  · rw [hc]
    refine wpAny_execs_cons (wpAny_Return_some (wpAny_BinOp (ldv hns rfl (wpAny_Constant_int (floordiv_int (by decide) ?_)))))
    rw [e2]
    have := k
    unfold numF at this
    rw [if_pos hc] at this
    exact this _ h₁ _ hk
  · rw [if_neg (by simpa using hc)]
    refine wpAny_execs_nil (wpAny_execs_cons (wpAny_Return_some (wpAny_BinOp (wpAny_BinOp (ldv hns rfl (wpAny_Constant_int (floordiv_int (by decide) (wpAny_Constant_int (mod_int' (by decide) ?_)))))))))
    rw [e2, e3]
    have := k
    unfold numF at this
    rw [if_neg hc] at this
    exact this _ h₁ _ hk
end

/-- how many of the run's numbers are greater than the one at p -/
def gtC (ns : List Int) (run : List Nat) (p : Nat) : Nat := (run.filter (fun o => decide (ns.getD p 0 < ns.getD o 0))).length
abbrev RunSt := List (List Nat) × List Nat × List Nat
/-- a turn of _law_runs -/
def runStep (ns : List Int) (k : Nat) (st : RunSt) (p : Nat) : RunSt :=
  let c := gtC ns st.2.1 p + st.2.2.length < k
  let run := if c then st.2.1 ++ [p] else st.2.1
  let wait := if c then st.2.2 else st.2.2 ++ [p]
  if wait.length = k then (st.1 ++ [run], wait, []) else (st.1, run, wait)
def runsSt (ns : List Int) (k : Nat) : Nat → RunSt
  | 0 => ([], List.range (min k ns.length), [])
  | i + 1 => runStep ns k (runsSt ns k i) (k + i)
/-- _law_runs -/
def runsF (ns : List Int) (k : Nat) : List (List Nat) :=
  let st := runsSt ns k (ns.length - k)
  if st.2.2 = [] then st.1 ++ [st.2.1] else (st.1 ++ [st.2.1]) ++ [st.2.2]

/-- the list at l holds the places ps -/
def NatL (h : Heap) (l : Addr) (ps : List Nat) : Prop := ∃ vs, h.PlainList l (List.toArray vs) ∧ IntsAre vs (ps.map Int.ofNat)
/-- the lists at as hold the runs rs -/
def InnerL (h : Heap) (as : List Addr) (rs : List (List Nat)) : Prop := as.length = rs.length ∧ ∀ (j : Nat) a r, as[j]? = some a → rs[j]? = some r → NatL h a r

theorem NatL.at {h h' : Heap} {l : Addr} {ps : List Nat} (x : NatL h l ps) (k : ∀ o, h.get? l = some o → h'.get? l = some o) : NatL h' l ps := let ⟨vs, hl, hi⟩ := x; ⟨vs, hl.at k, hi⟩
theorem InnerL.at {h h' : Heap} {as : List Addr} {rs : List (List Nat)} (x : InnerL h as rs) (k : ∀ a ∈ as, ∀ o, h.get? a = some o → h'.get? a = some o) : InnerL h' as rs :=
  ⟨x.1, fun j a r ha hr => (x.2 j a r ha hr).at (k a (List.mem_of_getElem? ha))⟩
theorem InnerL.snoc {h : Heap} {as : List Addr} {rs : List (List Nat)} {a : Addr} {r : List Nat} (x : InnerL h as rs) (y : NatL h a r) : InnerL h (as ++ [a]) (rs ++ [r]) := by
  refine ⟨by simp [x.1], fun j b q hb hq => ?_⟩
  rcases Nat.lt_trichotomy j as.length with hj | hj | hj
  · rw [List.getElem?_append_left hj] at hb
    rw [List.getElem?_append_left (by rw [← x.1]; exact hj)] at hq
    exact x.2 j b q hb hq
  · subst hj
    rw [List.getElem?_append_right (Nat.le_refl _)] at hb
    rw [x.1, List.getElem?_append_right (Nat.le_refl _)] at hq
    simp at hb hq
    subst hb hq
    exact y
  · rw [List.getElem?_eq_none (by simp; omega)] at hb
    cases hb

section
variable {M : Model} {prog : Program} {w : World} {A : Around} {E : Value → Shared → Prop} {s : Shared} {h₀ : Heap} {F : Fns} {mg mb : Str → Option Value} {env : Env}

/-- l.append(v) -/
theorem appendL (s : Shared) {h : Heap} {tk : Nat} {l : Addr} {vs : List Value} {v : Value} {Q : Value → Shared → Prop} (hl : h.PlainList l vs.toArray) (hsz : vs.length < 2 ^ 20)
    (c : ∀ h' tk', h'.PlainList l (vs ++ [v]).toArray → Heap.SameBut l h h' → Q .none { s with heap := h', toks := tk' }) :
    wpAny (model prog w) A (call (.builtin "list.append") [.ref l, v]) Q E { s with heap := h, toks := tk } := by
  refine wpAny_list_append_plain (hsz := by rw [List.size_toArray, sizeLine_eq]; omega) hl fun h' hl' hs' => c h' tk ?_ hs'
  rw [List.push_toArray] at hl'; exact hl'

/-- o.append(e) as a statement -/
theorem stmtAppend {s₀ : Shared} {pl : Sem Bool} {o e : PySem.Expr} {apos pos spos : Pos} {Q : Flow → Shared → Prop}
    (h : wpAny (model prog w) A (eval o env) (fun ov s₁ => ∃ l its, ov = .ref l ∧ s₁.heap.PlainList l its ∧ wpAny (model prog w) A (eval e env) (fun v s₂ => wpAny (model prog w) A (call (.builtin "list.append") [.ref l, v]) (fun r s₃ => r = .none ∧ Q .next s₃) E s₂) E s₁) E s₀)
    (he : eval (.Call (.Attribute o "append" apos) [e] [] pos) env = (do
      let ov ← eval o env
      standAt apos.atName
      let (f, first) ← holding [ov] (getMethod ov "append" pl)
      callWith pos f first (backTo pos (starEach [e] env)) []) := by rfl)
    (hi : interactive env = false := by rfl) (hs : swapsWith (.Call (.Attribute o "append" apos) [e] [] pos) none spos.line env = pure false := by rfl)
    (hst : starEach [e] env = (false, eval e env) :: starEach [] env := by rfl) :
    wpAny (model prog w) A (exec (.Expr (.Call (.Attribute o "append" apos) [e] [] pos) spos) env) Q E s₀ := by
  refine wpAny_Expr (MethodCall_ (wpAny_mono h (fun ov s₁ h₁ => ?_) fun _ _ x => x) he) hi hs
  obtain ⟨l, its, rfl, hl, h₁⟩ := h₁
  refine getMethod_builtin hl.isList.typeIs PySem.F.plainAttrs_list PySem.F.slot_list_append PySem.F.type_list_append (fun a e => by cases e; obtain ⟨n, ho⟩ := hl; exact ⟨_, ho, rfl⟩) ?_
  refine callWith_method1 (args_cons (wpAny_mono h₁ (fun v s₂ h₂ => args_nil (wpAny_mono h₂ (fun r s₃ h₃ => ?_) fun _ _ x => x)) fun _ _ x => x) hst) hst
  obtain ⟨rfl, h₃⟩ := h₃
  exact h₃

/-- min(a, b) of two ints, by the names -/
theorem callMin (s : Shared) {h : Heap} {tk : Nat} {a b : Int} {t u : Tok} {Q : Value → Shared → Prop} (hh : A.handled = none)
    (c : ∀ t' h' tk', Bs h h' → Q (.int (min a b) t') { s with heap := h', toks := tk' }) :
    wpAny (model prog w) A (call (.builtin "min") [.int a t, .int b u]) Q E { s with heap := h, toks := tk } := by
  refine min_two_ints hh fun h' tk' hk => ?_
  by_cases hlt : b < a
  · rw [if_pos hlt]
    have := c u h' tk' hk
    rw [show min a b = b by omega] at this
    exact this
  · rw [if_neg hlt]
    have := c t h' tk' hk
    rw [show min a b = a by omega] at this
    exact this

/-- list(range(n)) -/
theorem callListRange (s : Shared) {h : Heap} {tk : Nat} {r : Addr} {n : Nat} {t u v : Tok} {Q : Value → Shared → Prop} (hh : A.handled = none) (hr : IsRange h r 0 n 1 t u v) (hn : n < 2 ^ 20)
    (c : ∀ D h' tk', Bs h h' → h.get? D = none → NatL h' D (List.range n) → Q (.ref D) { s with heap := h', toks := tk' }) :
    wpAny (model prog w) A (call (.type "list") [.ref r]) Q E { s with heap := h, toks := tk } := by
  refine call_list_range hh hr (small_one (by omega) (by omega) (by omega) (by omega)) (n := n) (by rw [rangeSize_one]; split <;> omega) (by omega) fun h' tk' acc c' hk hS hacc => ?_
  refine c _ h' tk' hk (Heap.get?_none_of_le (Nat.le_refl _)) ⟨acc.toList, ⟨c', by simpa using hS⟩, ?_⟩
  have hlen : acc.toList.length = n := by simpa using hacc.1
  have key : ∀ (l : List Value) (k : Nat), (∀ (j : Nat) v, l[j]? = some v → ∃ t, v = .int (((k + j : Nat) : Int)) t) → IntsAre l ((List.range' k l.length).map Int.ofNat) := by
    intro l
    induction l with
    | nil => intro k _; exact .nil
    | cons v l ih =>
      intro k hv
      obtain ⟨t, rfl⟩ := hv 0 v rfl
      refine .cons _ _ (ih (k + 1) fun j u hj => ?_)
      obtain ⟨t', e⟩ := hv (j + 1) u (by simpa using hj)
      exact ⟨t', by rw [e]; congr 2; omega⟩
  have := key acc.toList 0 (fun j v hv => by
    obtain ⟨t, e⟩ := hacc.2 j v (by simpa using hv)
    exact ⟨t, by rw [e]; congr 1; omega⟩)
  rw [hlen, ← List.range_eq_range'] at this
  exact this

theorem callLenE {s₀ : Shared} (s : Shared) {x : Str} {p pos : Pos} {e : PySem.Expr} {mg mb : Str → Option Value} {Q : Value → Shared → Prop} (hg : s₀.heap.Ns env.globals mg) (hm : mg "len" = none) (hb : s₀.heap.Ns env.builtins mb) (hv : mb "len" = some (.builtin "len"))
    (h : wpAny (model prog w) A (eval e env) (fun v s₁ => ∃ h tk l vs, s₁ = { s with heap := h, toks := tk } ∧ v = .ref l ∧ h.PlainList l (List.toArray vs) ∧ vs.length < 2 ^ 62 ∧ ∀ t tk', Q (.int vs.length t) { s with heap := h, toks := tk' }) E s₀)
    (hx' : x = "len" := by rfl)
    (hk : env.scope.kind = .function := by rfl) (hx : env.kindOf "len" = some .globalImplicit := by rfl)
    (he : starEach [e] env = (false, eval e env) :: starEach [] env := by rfl) :
    wpAny (model prog w) A (eval (.Call (.Name x p) [e] [] pos) env) Q E s₀ := by
  subst hx'
  refine wpAny_Call_NameR (ldb hg hm hb hv ?_ hk hx)
  refine PyProof.Rows.callWith_builtin1 (args_cons (wpAny_mono h (fun v s₁ h₁ => args_nil ?_) fun _ _ x => x) he) he
  obtain ⟨h, tk, l, vs, rfl, rfl, hl, hsz, hq⟩ := h₁
  refine len_list hl.isList (by simp; omega) ?_
  rw [List.size_toArray]
  exact hq _ _

/-- a new list of nothing -/
theorem newNil (s : Shared) {h : Heap} {tk : Nat} {pos : Pos} {Q : Value → Shared → Prop}
    (c : ∀ D h' tk', Bs h h' → h.get? D = none → h'.PlainList D ([] : List Value).toArray → Q (.ref D) { s with heap := h', toks := tk' }) :
    wpAny (model prog w) A (eval (.List [] pos) env) Q E { s with heap := h, toks := tk } := by
  refine List_ (Calls.spliced_nil ?_)
  exact wpAny_newObj_type (c _ _ _ (fun _ _ e => Heap.get?_push_of_some _ e) (Heap.get?_none_of_le (Nat.le_refl _)) ⟨0, Heap.get?_push_size _ rfl⟩) (by show (0 : Nat) ≤ _; exact Nat.zero_le _)
end
end Mine

-- part C6
namespace Mine


section
variable {M : Model} {prog : Program} {w : World} {A : Around} {E : Value → Shared → Prop} {s : Shared}
theorem iterList (s : Shared) {h : Heap} {tk : Nat} {l : Addr} {its : Array Value} {Q : Value → Shared → Prop} (hl : h.IsList l its)
    (c : ∀ I h' tk', h.get? I = none → Bs h h' → h'.IsListIter I l 0 → I < h'.objs.size → Q (.ref I) { s with heap := h', toks := tk' }) :
    wpAny (model prog w) A (pyIter (.ref l)) Q E { s with heap := h, toks := tk } :=
  wpAny_pyIter_list hl (c _ _ _ (Heap.get?_none_of_le (Nat.le_refl _)) (fun _ _ e => Heap.get?_push_of_some _ e) ⟨_, Heap.get?_push_size _ rfl, rfl, rfl⟩ (by rw [Heap.size_push]; exact Nat.lt_succ_self _))

theorem oneTest {c : PySem.Expr} {cenv : Env} {Q : Bool → Shared → Prop} (h : wpAny M A (isTrue c cenv (eval c cenv)) Q E s) :
    wpAny M A (forIn [c] true fun c r => if r = true then do let ok ← isTrue c cenv (eval c cenv); pure (ForInStep.yield ok) else pure (ForInStep.yield r)) Q E s := by
  rw [List.forIn_cons]
  refine wpAny_bind ?_
  rw [if_pos rfl]
  refine wpAny_bind (wpAny_mono h (fun ok s' h' => ?_) fun _ _ x => x)
  exact wpAny_pure (wpAny_pure h')

theorem listIter_not_tuple {h : Heap} {I l : Addr} {i : Nat} (x : h.IsListIter I l i) (xs : Array Value) (k : Nat) : h.get? I ≠ some { cls := .type "tuple", data := .seq xs k } := by
  intro e
  obtain ⟨o, ho, hc, _⟩ := x
  rw [e] at ho
  cases ho
  simp at hc
end

/-- the state of _law_runs between its statements -/
structure RSt (hb : Heap) (L lr : Addr) (kv : Value) (h : Heap) (m : Str → Option Value) (aR aN aW : Addr) (as : List Addr) (st : RunSt) : Prop where
  ns : h.Ns L m
  bs : Bs hb h
  cell : h.IsCell (L + 1) (some (.ref lr))
  m1 : m "runs" = some (.ref aR)
  m2 : m "run" = some (.ref aN)
  m3 : m "wait" = some (.ref aW)
  m4 : m "room" = some kv
  hR : h.PlainList aR (as.map Value.ref).toArray
  hI : InnerL h as st.1
  hN : NatL h aN st.2.1
  hW : NatL h aW st.2.2
  n1 : hb.get? aR = none
  n2 : hb.get? aN = none
  n3 : hb.get? aW = none
  d1 : aR ≠ aN
  d2 : aR ≠ aW
  d3 : aN ≠ aW
  d4 : ∀ a ∈ as, a ≠ aR ∧ a ≠ aN ∧ a ≠ aW
  n4 : ∀ a ∈ as, hb.get? a = none

theorem RSt.keep {hb : Heap} {L lr : Addr} {kv : Value} {h h' : Heap} {m : Str → Option Value} {aR aN aW : Addr} {as : List Addr} {st : RunSt} (x : RSt hb L lr kv h m aR aN aW as st)
    (k : Bs h h') : RSt hb L lr kv h' m aR aN aW as st where
  ns := x.ns.keeps k
  bs := fun b o e => k b o (x.bs b o e)
  cell := x.cell.keeps k
  m1 := x.m1
  m2 := x.m2
  m3 := x.m3
  m4 := x.m4
  hR := x.hR.at fun o e => k _ o e
  hI := x.hI.at fun a _ o e => k _ o e
  hN := x.hN.at fun o e => k _ o e
  hW := x.hW.at fun o e => k _ o e
  n1 := x.n1
  n2 := x.n2
  n3 := x.n3
  d1 := x.d1
  d2 := x.d2
  d3 := x.d3
  d4 := x.d4
  n4 := x.n4

/-- things that the state does not tell of are changed -/
theorem RSt.other {hb : Heap} {L lr : Addr} {kv : Value} {h h' : Heap} {m : Str → Option Value} {aR aN aW : Addr} {as : List Addr} {st : RunSt} (x : RSt hb L lr kv h m aR aN aW as st)
    {X : List Addr} (k : ∀ b o, b ∉ X → h.get? b = some o → h'.get? b = some o) (hX : ∀ y ∈ X, hb.get? y = none ∧ y ≠ L ∧ y ≠ L + 1 ∧ ∀ its, ¬ h.PlainList y its) : RSt hb L lr kv h' m aR aN aW as st := by
  have nl : ∀ {a its}, h.PlainList a its → a ∉ X := fun {a its} hp q => (hX a q).2.2.2 its hp
  obtain ⟨vN, hvN, _⟩ := id x.hN
  obtain ⟨vW, hvW, _⟩ := id x.hW
  exact {
    ns := x.ns.at' fun o e => k _ o (fun q => (hX _ q).2.1 rfl) e
    bs := fun b o e => k b o (fun q => by rw [(hX b q).1] at e; cases e) (x.bs b o e)
    cell := let ⟨o, ho, hd⟩ := x.cell; ⟨o, k _ o (fun q => (hX _ q).2.2.1 rfl) ho, hd⟩
    m1 := x.m1
    m2 := x.m2
    m3 := x.m3
    m4 := x.m4
    hR := x.hR.at fun o e => k _ o (nl x.hR) e
    hI := ⟨x.hI.1, fun j a r ha hr => by
      have := x.hI.2 j a r ha hr
      obtain ⟨vs, hvs, _⟩ := id this
      exact this.at fun o e => k _ o (nl hvs) e⟩
    hN := x.hN.at fun o e => k _ o (nl hvN) e
    hW := x.hW.at fun o e => k _ o (nl hvW) e
    n1 := x.n1
    n2 := x.n2
    n3 := x.n3
    d1 := x.d1
    d2 := x.d2
    d3 := x.d3
    d4 := x.d4
    n4 := x.n4 }

/-- a name of the frame is stored that the state does not tell of -/
theorem RSt.name {hb : Heap} {L lr : Addr} {kv : Value} {h h' : Heap} {m m' : Str → Option Value} {aR aN aW : Addr} {as : List Addr} {st : RunSt} (x : RSt hb L lr kv h m aR aN aW as st)
    (hL : hb.get? L = none) (hn : h'.Ns L m') (k : Heap.SameBut L h h') (e1 : m' "runs" = m "runs") (e2 : m' "run" = m "run") (e3 : m' "wait" = m "wait") (e4 : m' "room" = m "room") : RSt hb L lr kv h' m' aR aN aW as st := by
  have nl : ∀ {a its}, h.PlainList a its → a ≠ L := fun {a its} hp => Heap_Ns_ne x.ns hp
  obtain ⟨vN, hvN, _⟩ := id x.hN
  obtain ⟨vW, hvW, _⟩ := id x.hW
  exact {
    ns := hn
    bs := fun b o e => k.extBut b o (fun q => by rw [q, hL] at e; cases e) (x.bs b o e)
    cell := x.cell.sameBut k (IsCell_ne_ns x.cell x.ns)
    m1 := e1.trans x.m1
    m2 := e2.trans x.m2
    m3 := e3.trans x.m3
    m4 := e4.trans x.m4
    hR := x.hR.at fun o e => k.extBut _ o (nl x.hR) e
    hI := ⟨x.hI.1, fun j a r ha hr => by
      have := x.hI.2 j a r ha hr
      obtain ⟨vs, hvs, _⟩ := id this
      exact this.at fun o e => k.extBut _ o (nl hvs) e⟩
    hN := x.hN.at fun o e => k.extBut _ o (nl hvN) e
    hW := x.hW.at fun o e => k.extBut _ o (nl hvW) e
    n1 := x.n1
    n2 := x.n2
    n3 := x.n3
    d1 := x.d1
    d2 := x.d2
    d3 := x.d3
    d4 := x.d4
    n4 := x.n4 }

/-- run grows -/
theorem RSt.growN {hb : Heap} {L lr : Addr} {kv : Value} {h h' : Heap} {m : Str → Option Value} {aR aN aW : Addr} {as : List Addr} {st : RunSt} (x : RSt hb L lr kv h m aR aN aW as st)
    {run : List Nat} (k : Heap.SameBut aN h h') (hN : NatL h' aN run) : RSt hb L lr kv h' m aR aN aW as (st.1, run, st.2.2) := by
  obtain ⟨vN, hvN, _⟩ := id x.hN
  exact {
    ns := x.ns.sameBut k (Heap_Ns_ne x.ns hvN).symm
    bs := fun b o e => k.extBut b o (fun q => by rw [q, x.n2] at e; cases e) (x.bs b o e)
    cell := x.cell.sameBut k (IsCell_ne_list x.cell hvN)
    m1 := x.m1
    m2 := x.m2
    m3 := x.m3
    m4 := x.m4
    hR := x.hR.at fun o e => k.extBut _ o x.d1 e
    hI := x.hI.at fun a ha o e => k.extBut _ o (x.d4 a ha).2.1 e
    hN := hN
    hW := x.hW.at fun o e => k.extBut _ o x.d3.symm e
    n1 := x.n1
    n2 := x.n2
    n3 := x.n3
    d1 := x.d1
    d2 := x.d2
    d3 := x.d3
    d4 := x.d4
    n4 := x.n4 }
theorem RSt.growW {hb : Heap} {L lr : Addr} {kv : Value} {h h' : Heap} {m : Str → Option Value} {aR aN aW : Addr} {as : List Addr} {st : RunSt} (x : RSt hb L lr kv h m aR aN aW as st)
    {wait : List Nat} (k : Heap.SameBut aW h h') (hW : NatL h' aW wait) : RSt hb L lr kv h' m aR aN aW as (st.1, st.2.1, wait) := by
  obtain ⟨vW, hvW, _⟩ := id x.hW
  exact {
    ns := x.ns.sameBut k (Heap_Ns_ne x.ns hvW).symm
    bs := fun b o e => k.extBut b o (fun q => by rw [q, x.n3] at e; cases e) (x.bs b o e)
    cell := x.cell.sameBut k (IsCell_ne_list x.cell hvW)
    m1 := x.m1
    m2 := x.m2
    m3 := x.m3
    m4 := x.m4
    hR := x.hR.at fun o e => k.extBut _ o x.d2 e
    hI := x.hI.at fun a ha o e => k.extBut _ o (x.d4 a ha).2.2 e
    hN := x.hN.at fun o e => k.extBut _ o x.d3 e
    hW := hW
    n1 := x.n1
    n2 := x.n2
    n3 := x.n3
    d1 := x.d1
    d2 := x.d2
    d3 := x.d3
    d4 := x.d4
    n4 := x.n4 }
/-- runs.append(run); run = wait; wait = [] -/
theorem RSt.turn {hb : Heap} {L lr : Addr} {kv : Value} {h h' h₂ h₃ h₄ : Heap} {m m₂ m₄ : Str → Option Value} {aR aN aW aW' : Addr} {as : List Addr} {st : RunSt} (x : RSt hb L lr kv h m aR aN aW as st)
    (hL : hb.get? L = none) (k : Heap.SameBut aR h h') (hR : h'.PlainList aR ((as ++ [aN]).map Value.ref).toArray)
    (hn₂ : h₂.Ns L m₂) (k₂ : Heap.SameBut L h' h₂) (k₃ : Bs h₂ h₃) (hf : h₂.get? aW' = none) (hW' : h₃.PlainList aW' ([] : List Value).toArray)
    (hn₄ : h₄.Ns L m₄) (k₄ : Heap.SameBut L h₃ h₄) (e1 : m₄ "runs" = m "runs") (e2 : m₄ "run" = m "wait") (e3 : m₄ "wait" = some (.ref aW')) (e4 : m₄ "room" = m "room") :
    RSt hb L lr kv h₄ m₄ aR aW aW' (as ++ [aN]) (st.1 ++ [st.2.1], st.2.2, []) := by
  obtain ⟨vN, hvN, _⟩ := id x.hN
  obtain ⟨vW, hvW, _⟩ := id x.hW
  have nl : ∀ {a its}, h.PlainList a its → a ≠ L := fun {a its} hp => Heap_Ns_ne x.ns hp
  have up : ∀ b o, b ≠ aR → b ≠ L → h.get? b = some o → h₄.get? b = some o := fun b o h1 h2 e => k₄.extBut b o h2 (k₃ b o (k₂.extBut b o h2 (k.extBut b o h1 e)))
  have bs' : ∀ b o, hb.get? b = some o → h₂.get? b = some o := fun b o e =>
    k₂.extBut b o (fun q => by rw [q, hL] at e; cases e) (k.extBut b o (fun q => by rw [q, x.n1] at e; cases e) (x.bs b o e))
  have old : ∀ {a its}, h.PlainList a its → a ≠ aR → a ≠ aW' := fun {a its} hp hne q => by
    obtain ⟨n, hp⟩ := id hp
    have := k₂.extBut _ _ (nl ⟨n, hp⟩) (k.extBut _ _ hne hp)
    rw [q, hf] at this; cases this
  have hRW' : aR ≠ aW' := fun q => by
    obtain ⟨n, hp⟩ := id hR
    have := k₂.extBut _ _ (nl x.hR) hp
    rw [q, hf] at this; cases this
  have inner : ∀ a ∈ as, ∃ its, h.PlainList a its := fun a ha => by
    obtain ⟨j, hj⟩ := List.mem_iff_getElem?.mp ha
    have hlt : j < st.1.length := by
      rw [← x.hI.1]
      rcases Nat.lt_or_ge j as.length with h' | h'
      · exact h'
      · rw [List.getElem?_eq_none h'] at hj; cases hj
    obtain ⟨vs, hvs, _⟩ := x.hI.2 j a _ hj (List.getElem?_eq_getElem hlt)
    exact ⟨_, hvs⟩
  exact {
    ns := hn₄
    bs := fun b o e => k₄.extBut b o (fun q => by rw [q, hL] at e; cases e) (k₃ b o (bs' b o e))
    cell := let ⟨o, ho, hd⟩ := x.cell; ⟨o, up _ o (IsCell_ne_list x.cell x.hR) (IsCell_ne_ns x.cell x.ns) ho, hd⟩
    m1 := e1.trans x.m1
    m2 := e2.trans x.m3
    m3 := e3
    m4 := e4.trans x.m4
    hR := hR.at fun o e => k₄.extBut _ o (nl x.hR) (k₃ _ o (k₂.extBut _ o (nl x.hR) e))
    hI := by
      refine InnerL.snoc ⟨x.hI.1, fun j a r ha hr => ?_⟩ (x.hN.at fun o e => up _ o x.d1.symm (nl hvN) e)
      have := x.hI.2 j a r ha hr
      obtain ⟨vs, hvs, _⟩ := id this
      exact this.at fun o e => up _ o (x.d4 a (List.mem_of_getElem? ha)).1 (nl hvs) e
    hN := x.hW.at fun o e => up _ o x.d2.symm (nl hvW) e
    hW := ⟨[], hW'.at fun o e => k₄.extBut _ o (fun q => by rw [q] at e hW'; exact Heap_Ns_ne (hn₂.keeps k₃) hW' rfl) e, .nil⟩
    n1 := x.n1
    n2 := x.n3
    n3 := by
      cases q : hb.get? aW' with
      | none => rfl
      | some o => have := bs' _ _ q; rw [hf] at this; cases this
    d1 := x.d2
    d2 := hRW'
    d3 := old hvW x.d2.symm
    d4 := fun a ha => by
      rcases List.mem_append.mp ha with ha | ha
      · obtain ⟨its, hp⟩ := inner a ha
        exact ⟨(x.d4 a ha).1, (x.d4 a ha).2.2, old hp (x.d4 a ha).1⟩
      · rw [List.mem_singleton.mp ha]
        exact ⟨x.d1.symm, x.d3, old hvN x.d1.symm⟩
    n4 := fun a ha => by
      rcases List.mem_append.mp ha with ha | ha
      · exact x.n4 a ha
      · rw [List.mem_singleton.mp ha]; exact x.n2 }

/-- sizes and places of _law_runs's lists -/
structure RunsOk (ns : List Int) (k i : Nat) (st : RunSt) : Prop where
  r : st.1.length ≤ i
  a : st.2.1.length ≤ k + i
  b : st.2.2.length ≤ k + i
  c : ∀ o ∈ st.2.1, o < ns.length
  d : ∀ o ∈ st.2.2, o < ns.length
theorem runsOk (ns : List Int) (k : Nat) : ∀ i, i ≤ ns.length - k → RunsOk ns k i (runsSt ns k i)
  | 0, _ => { r := Nat.le_refl _, a := by show (List.range _).length ≤ _; rw [List.length_range]; omega, b := Nat.zero_le _, c := fun o ho => by have : o < min k ns.length := List.mem_range.mp ho; omega, d := fun o ho => (nomatch ho) }
  | i + 1, hi => by
    have x := runsOk ns k i (by omega)
    show RunsOk ns k (i + 1) (runStep ns k (runsSt ns k i) (k + i))
    generalize runsSt ns k i = st at x ⊢
    obtain ⟨r, a, b, c, d⟩ := x
    have hp : k + i < ns.length := by omega
    unfold runStep
    by_cases hc : gtC ns st.2.1 (k + i) + st.2.2.length < k
    · simp only [hc, if_true]
      split
      · exact { r := by simp; omega, a := by show st.2.2.length ≤ _; omega, b := Nat.zero_le _, c := d, d := fun o ho => (nomatch ho) }
      · refine { r := by show st.1.length ≤ _; omega, a := by simp; omega, b := by show st.2.2.length ≤ _; omega, c := fun o ho => ?_, d := d }
        rcases List.mem_append.mp ho with ho | ho
        · exact c o ho
        · rw [List.mem_singleton.mp ho]; exact hp
    · simp only [hc, if_false]
      have dd : ∀ o ∈ st.2.2 ++ [k + i], o < ns.length := fun o ho => by
        rcases List.mem_append.mp ho with ho | ho
        · exact d o ho
        · rw [List.mem_singleton.mp ho]; exact hp
      split
      · exact { r := by simp; omega, a := by simp; omega, b := Nat.zero_le _, c := dd, d := fun o ho => (nomatch ho) }
      · exact { r := by show st.1.length ≤ _; omega, a := by show st.2.1.length ≤ _; omega, b := by simp; omega, c := c, d := dd }

theorem IntsAre_getN {vs : List Value} {ps : List Nat} (x : IntsAre vs (ps.map Int.ofNat)) {i : Nat} {v : Value} (hv : vs[i]? = some v) : ∃ p t, ps[i]? = some p ∧ v = .int (p : Nat) t := by
  have hlt : i < ps.length := by
    have := x.length
    rw [List.length_map] at this
    rw [← this]
    rcases Nat.lt_or_ge i vs.length with h' | h'
    · exact h'
    · rw [List.getElem?_eq_none h'] at hv; cases hv
  obtain ⟨t, e⟩ := x.get i (Int.ofNat ps[i]) (by simp [hlt])
  rw [hv] at e
  cases e
  exact ⟨ps[i], t, List.getElem?_eq_getElem hlt, rfl⟩

section
variable {prog : Program} {w : World} {A : Around} {E : Value → Shared → Prop} {s : Shared} {h₀ : Heap} {F : Fns} {mg mb : Str → Option Value}
set_option maxHeartbeats 4000000 in
theorem runs_spec (P : PW h₀ F mg mb) (B : Bs h₀ s.heap) {lr : Addr} {rvs : List Value} {ns : List Int} {k : Nat} {t : Tok} {Q : Value → Shared → Prop}
    (hh : A.handled = none) (hroom : A.depth + 2 < recursionLimit) (hu : A.units + 32 < cLine) (hl : s.heap.PlainList lr rvs.toArray) (hr : IntsAre rvs ns)
    (hsz : ns.length < 2 ^ 10) (hk1 : 1 ≤ k) (hk2 : k < 2 ^ 10)
    (c : ∀ h' tk aR as, Bs s.heap h' → s.heap.get? aR = none → (∀ a ∈ as, s.heap.get? a = none) → h'.PlainList aR (as.map Value.ref).toArray → InnerL h' as (runsF ns k) → Q (.ref aR) { s with heap := h', toks := tk }) :
    wpAny (model prog w) A (call (.ref F.runs) [.ref lr, .int k t]) Q E s := by
  refine enterC (binds := [("row", .ref lr), ("room", .int k t)]) P.fruns B P.nolimit (by omega) (fun _ _ _ _ _ => rfl) ?_ (fun L cdv h₁ tk hL hns hk hcell => ?_)
  · intro x hx
    simp only [List.mem_cons, List.not_mem_nil, or_false] at hx
    rcases hx with rfl | rfl
    · exact .inr ⟨rfl, rfl⟩
    · exact .inl rfl
  obtain ⟨hcR, hcR0⟩ := hcell "row" (L + 1) rfl
  obtain ⟨hcP, hcP0⟩ := hcell "place" (L + 2) rfl
  have hcR : h₁.IsCell (L + 1) (some (.ref lr)) := hcR
  clear hcell
  have m0 : bindL (envC 9 L F.runs cdv).kindOf [(Str.ofString "row", Value.ref lr), (Str.ofString "room", Value.int (↑k) t)] (fun _ => none) "room" = some (.int k t) := rfl
  generalize bindL (envC 9 L F.runs cdv).kindOf [(Str.ofString "row", Value.ref lr), (Str.ofString "room", Value.int (↑k) t)] (fun _ => none) = m₁ at hns m0
  have B₁ : Bs h₀ h₁ := fun b o e => hk b o (B b o e)
  have hrl : rvs.length = ns.length := hr.length
  -- runs = []
  refine wpAny_execs_cons (wpAny_Assign_Name (newNil s (fun aR h₂ _ hk₂ hfR hR₂ => stv s (hns.keeps hk₂) (fun h₃ _ hn₃ hs₃ => ?_))))
  have hneR : aR ≠ L := Heap_Ns_ne (hns.keeps hk₂) hR₂
  have up₃ : ∀ b o, b ≠ L → h₁.get? b = some o → h₃.get? b = some o := fun b o hb e => hs₃.extBut b o hb (hk₂ b o e)
  have bs₃ : Bs s.heap h₃ := fun b o e => up₃ b o (fun q => by rw [q, hL] at e; cases e) (hk b o e)
  have B₃ : Bs h₀ h₃ := fun b o e => bs₃ b o (B b o e)
  have hc₃ : h₃.IsCell (L + 1) (some (.ref lr)) := let ⟨o, ho, hd⟩ := hcR; ⟨o, up₃ _ o (IsCell_ne_ns hcR hns) ho, hd⟩
  have hp₃ : ∃ v, h₃.IsCell (L + 2) v := let ⟨o, ho, hd⟩ := hcP; ⟨_, o, up₃ _ o (IsCell_ne_ns hcP hns) ho, hd⟩
  have hR₃ : h₃.PlainList aR ([] : List Value).toArray := hR₂.extBut hs₃.extBut hneR
  have hl₃ : h₃.PlainList lr rvs.toArray := hl.at fun o e => bs₃ _ o e
  have nR : s.heap.get? aR = none := by
    cases q : s.heap.get? aR with
    | none => rfl
    | some o => have := hk _ _ q; rw [hfR] at this; cases this
  -- run = list(range(min(room, len(row))))
  refine wpAny_execs_cons (wpAny_Assign_Name (wpAny_Call_NameR (ldb (P.g.keeps B₃) P.glist (P.b.keeps B₃) P.blist ?_)))
  refine PyProof.Rows.callWith_type1 (args_cons (wpAny_Call_NameR (ldb (P.g.keeps B₃) P.grange (P.b.keeps B₃) P.brange ?_)))
  refine PyProof.Rows.callWith_type1 (args_cons (wpAny_Call_NameR (ldb (P.g.keeps B₃) P.gmin (P.b.keeps B₃) P.bmin ?_)))
  refine PyProof.Rows.callWith_builtin1 (args_cons (ldv hn₃ (lkn m0) (args_cons ?_)))
  refine callLenE s (P.g.keeps B₃) P.glen (P.b.keeps B₃) P.blen (ldc hc₃ ⟨h₃, _, lr, rvs, rfl, rfl, hl₃, by omega, fun t' tk' => args_nil ?_⟩)
  refine callMin s (show A.handled = none from hh) (fun t' h₄ _ hk₄ => args_nil ?_)
  rw [show min (k : Int) (rvs.length : Int) = ((min k ns.length : Nat) : Int) by omega]
  refine callRange1 s (fun r h₅ _ hr5 hk₅ hR₅ => args_nil ?_)
  obtain ⟨_, _, _, hR₅⟩ := hR₅
  refine callListRange s (show A.handled = none from hh) hR₅ (by omega) (fun aN h₆ _ hk₆ hfN hN₆ => ?_)
  have k36 : Bs h₃ h₆ := fun b o e => hk₆ b o (hk₅ b o (hk₄ b o e))
  refine stv s (hn₃.keeps k36) (fun h₇ _ hn₇ hs₇ => ?_)
  -- wait = []
  refine wpAny_execs_cons (wpAny_Assign_Name (newNil s (fun aW h₈ _ hk₈ hfW hW₈ => stv s (hn₇.keeps hk₈) (fun h₉ _ hn₉ hs₉ => ?_))))
  have new3 : ∀ {a : Addr}, h₃.get? a = none → s.heap.get? a = none := fun {a} e => by
    cases q : s.heap.get? a with
    | none => rfl
    | some o => have := bs₃ _ _ q; rw [e] at this; cases this
  have fN : h₃.get? aN = none := by
    cases q : h₃.get? aN with
    | none => rfl
    | some o => have := hk₅ _ _ (hk₄ _ _ q); rw [hfN] at this; cases this
  have hneN : aN ≠ L := by
    rintro rfl
    obtain ⟨o, _, _, ho, _⟩ := hn₃
    exact absurd (show h₃.get? (envC 9 aN F.runs cdv).locals = some o from ho) (by rw [show (envC 9 aN F.runs cdv).locals = aN from rfl, fN]; simp)
  have up67 : ∀ b o, b ≠ L → h₆.get? b = some o → h₇.get? b = some o := fun b o hb e => hs₇.extBut b o hb e
  have up39 : ∀ b o, b ≠ L → h₃.get? b = some o → h₉.get? b = some o := fun b o hb e => hs₉.extBut b o hb (hk₈ b o (up67 b o hb (k36 b o e)))
  have up69 : ∀ b o, b ≠ L → h₆.get? b = some o → h₉.get? b = some o := fun b o hb e => hs₉.extBut b o hb (hk₈ b o (up67 b o hb e))
  have hneW : aW ≠ L := Heap_Ns_ne (hn₇.keeps hk₈) hW₈
  have fW : ∀ {a o}, a ≠ L → h₆.get? a = some o → a ≠ aW := fun {a o} hb e q => by
    have := up67 _ _ hb e
    rw [q, hfW] at this; cases this
  have st₀ : ∃ m, RSt s.heap L lr (.int k t) h₉ m aR aN aW [] (runsSt ns k 0) := by
    obtain ⟨nR', hoR⟩ := id hR₃
    obtain ⟨vN, ⟨nN, hoN⟩, hvN⟩ := id hN₆
    refine ⟨_, {
      ns := hn₉
      bs := fun b o e => up39 b o (fun q => by rw [q, hL] at e; cases e) (bs₃ b o e)
      cell := let ⟨o, ho, hd⟩ := hc₃; ⟨o, up39 _ o (IsCell_ne_ns hcR hns) ho, hd⟩
      m1 := lkn (lkn lke)
      m2 := lkn lke
      m3 := lke
      m4 := lkn (lkn (lkn m0))
      hR := hR₃.at fun o e => up39 _ o hneR e
      hI := ⟨rfl, fun j a r ha => by simp at ha⟩
      hN := hN₆.at fun o e => up69 _ o hneN e
      hW := ⟨[], hW₈.at fun o e => hs₉.extBut _ o hneW e, .nil⟩
      n1 := nR
      n2 := new3 fN
      n3 := new3 (by
        cases q : h₃.get? aW with
        | none => rfl
        | some o => have := up67 _ _ hneW (k36 _ _ q); rw [hfW] at this; cases this)
      d1 := fun q => by rw [q, fN] at hoR; cases hoR
      d2 := fW hneR (k36 _ _ hoR)
      d3 := fW hneN hoN
      d4 := fun a ha => (nomatch ha)
      n4 := fun a ha => (nomatch ha) }⟩
  have hp₉ : ∃ v, h₉.IsCell (L + 2) v := let ⟨v, o, ho, hd⟩ := hp₃; ⟨v, o, up39 _ o (IsCell_ne_ns hcP hns) ho, hd⟩
  obtain ⟨m₉, st₀⟩ := st₀
  have B₉ : Bs h₀ h₉ := fun b o e => st₀.bs b o (B b o e)
  have hl₉ : h₉.PlainList lr rvs.toArray := hl.at fun o e => st₀.bs _ o e
  -- for place in range(room, len(row))
  refine wpAny_execs_cons (wpAny_For (wpAny_Call_NameR (ldb (P.g.keeps B₉) P.grange (P.b.keeps B₉) P.brange ?_)))
  refine PyProof.Rows.callWith_type1 (args_cons (ldv st₀.ns st₀.m4 (args_cons ?_)))
  refine callLenE s (P.g.keeps B₉) P.glen (P.b.keeps B₉) P.blen (ldc st₀.cell ⟨h₉, _, lr, rvs, rfl, rfl, hl₉, by omega, fun t' tk' => args_nil ?_⟩)
  refine callRange2 s (fun r ha _ hra hka hRa => ?_)
  obtain ⟨_, _, _, hRa⟩ := hRa
  refine iterRange s hRa (by omega) (by omega) (by omega) (by omega) (fun I hb _ hI hkb hit => ?_)
  have k9b : Bs h₉ hb := fun b o e => hkb b o (hka b o e)
  have hI9 : h₉.get? I = none := by
    cases q : h₉.get? I with
    | none => rfl
    | some o => have := hka _ _ q; rw [hI] at this; cases this
  have hIs : s.heap.get? I = none := by
    cases q : s.heap.get? I with
    | none => rfl
    | some o => have := st₀.bs _ _ q; rw [hI9] at this; cases this
  have hIne : ∀ {a o}, h₉.get? a = some o → a ≠ I := fun {a o} e q => by rw [q, hI9] at e; cases e
  obtain ⟨vP, hp₉⟩ := hp₉
  have hIP : L + 2 ≠ I := by obtain ⟨o, ho, _⟩ := hp₉; exact hIne ho
  have hIL : L ≠ I := by obtain ⟨o, _, _, ho, _⟩ := st₀.ns; exact hIne ho
  have hIR : L + 1 ≠ I := by obtain ⟨o, ho, _⟩ := st₀.cell; exact hIne ho
  have W := Walks.range (prog := prog) (w := w) (A := A.deeper (envC 9 L F.runs cdv)) (show A.handled = none from hh) I k 1 (((rvs.length : Int) - k).toNat)
  have hN : ((rvs.length : Int) - k).toNat = ns.length - k := by omega
  rw [hN] at W hit
  refine forWC s W (by simpa using hIP) (fun i h => ∃ m aR aN aW as, RSt s.heap L lr (.int k t) h m aR aN aW as (runsSt ns k i)) hit (hp₉.keeps k9b) ⟨_, _, _, _, _, st₀.keep k9b⟩ ?_ ?_
  · rintro i v hc hd tkd hi ⟨tp, rfl⟩ ⟨m, aR, aN, aW, as, x⟩ hst ⟨vp, hcp⟩ hkd hstd hcpd
    have ok := runsOk ns k i (by omega)
    have hXd : ∀ y ∈ [L + 2, I], s.heap.get? y = none ∧ y ≠ L ∧ y ≠ L + 1 ∧ ∀ its, ¬ hc.PlainList y its := by
      intro y hy
      rcases List.mem_cons.mp hy with rfl | hy
      · exact ⟨hcP0, neN (by omega), neN (by omega), fun its q => IsCell_ne_list hcp q rfl⟩
      · rw [List.mem_singleton.mp hy]
        refine ⟨hIs, hIL.symm, hIR.symm, fun its q => ?_⟩
        obtain ⟨n, q⟩ := q
        have hst : hc.get? I = _ := hst
        rw [q] at hst
        simp at hst
    have x₂ := x.other (fun b o hb e => hkd b o (fun q => hb (by simp [q])) (fun q => hb (by simp [List.mem_singleton.mp q])) e) hXd
    clear x hXd
    have hpl : (k : Int) + (i : Int) * 1 = ((k + i : Nat) : Int) := by omega
    rw [hpl] at hcpd
    have hl₂ : hd.PlainList lr rvs.toArray := hl.at fun o e => x₂.bs _ o e
    have B₂ : Bs h₀ hd := fun b o e => x₂.bs b o (B b o e)
    obtain ⟨vN, hvN, hiN⟩ := id x₂.hN
    have hNl : vN.length = (runsSt ns k i).2.1.length := by rw [hiN.length, List.length_map]
    obtain ⟨vp, hvp⟩ : ∃ u, rvs[k + i]? = some (.int (ns.getD (k + i) 0) u) := hr.get (k + i) _ (by rw [List.getD_eq_getElem?_getD, List.getElem?_eq_getElem (by omega)]; rfl)
    -- greater = len([one for one in run if row[place] < row[one]])
    refine wpAny_execs_cons (wpAny_Assign_Name (callLenE s (P.g.keeps B₂) P.glen (P.b.keeps B₂) P.blen (listComp s rfl (by decide) (by decide) (ldv x₂.ns x₂.m2 (iterList s hvN.isList (fun I' he _ hI' hke hite hlt => ?_))))))
    have hneI : aN ≠ I' := by obtain ⟨n, ho⟩ := hvN; exact fun q => by rw [q, hI'] at ho; cases ho
    have W' := Walks.list (prog := prog) (w := w) (A := A.deeper (envC 9 L F.runs cdv)) (show A.handled = none from hh) I' aN hneI vN.toArray
    refine ⟨he, _, I', [I', aN], [I'], _, _, _, fun j ys _ => IntsAre ys ((((runsSt ns k i).2.1.take j).filter (fun o => decide (ns.getD (k + i) 0 < ns.getD o 0))).map Int.ofNat), rfl, rfl, W',
      by rw [List.size_toArray, sizeLine_eq]; have := ok.a; omega, fun _ _ _ _ g _ => g, fun j h st b hb xs q => ?_, ⟨hite, hvN.isList.at fun o e => hke _ o e⟩, fun b hb => ?_, .nil, ?_, ?_⟩
    · rw [List.mem_singleton.mp hb]; exact listIter_not_tuple st.1 xs q
    · rcases List.mem_cons.mp hb with rfl | hb
      · exact hlt
      · rw [List.mem_singleton.mp hb]; obtain ⟨n, ho⟩ := hvN; exact Heap.lt_size (hke _ _ ho)
    · -- a turn of the comprehension
      rintro C j v ys hf mf tkf hC hj hP hG hnf hvf hkf
      have hP : vN[j]? = some v := by simpa using hP
      obtain ⟨p, tq, hpj, rfl⟩ := IntsAre_getN hiN hP
      have hp : p < ns.length := ok.c p (List.mem_of_getElem? hpj)
      have upf : ∀ b o, hd.get? b = some o → hf.get? b = some o := fun b o e => hkf b o (fun q => by rw [List.mem_singleton.mp q, hI'] at e; cases e) (hke b o e)
      have hrowf : hf.IsCell (L + 1) (some (.ref lr)) := x₂.cell.keeps upf
      have hplf := hcpd.keeps upf
      have hlf : hf.PlainList lr rvs.toArray := hl₂.at fun o e => upf _ o e
      obtain ⟨u2, hv2⟩ : ∃ u, rvs[p]? = some (.int (ns.getD p 0) u) := hr.get p _ (by rw [List.getD_eq_getElem?_getD, List.getElem?_eq_getElem hp]; rfl)
      have htk : (runsSt ns k i).2.1.take (j + 1) = (runsSt ns k i).2.1.take j ++ [p] := by rw [List.take_add_one, hpj]; rfl
      refine oneTest (wpAny_isTrue_Compare1 (Subscript_ (ldc hrowf (ldc hplf (itemN hlf (by omega) hvp (Subscript_ (ldc hrowf (ldv hnf hvf (itemN hlf (by omega) hv2 (lt_int (wpAny_truthy_bool ⟨hf, _, rfl, fun _ _ e => e, ?_⟩)))))))))))
      by_cases hcmp : ns.getD (k + i) 0 < ns.getD p 0
      · rw [if_pos (decide_eq_true hcmp)]
        refine ldv hnf hvf ⟨hf, _, rfl, fun _ _ e => e, ?_⟩
        dsimp only
        rw [htk, List.filter_append, List.map_append, List.filter_cons, if_pos (decide_eq_true hcmp)]
        exact hG.append (.cons _ _ .nil)
      · rw [if_neg (by simpa using hcmp)]
        dsimp only
        rw [htk, List.filter_append, List.map_append, List.filter_cons, if_neg (by simpa using hcmp)]
        simpa using hG
    · -- behind the comprehension
      intro D hf tkf ys hD hDl hG hkf
      have upf : Bs hd hf := fun b o e => hkf b o (fun q => by rw [List.mem_singleton.mp q, hI'] at e; cases e) (hke b o e)
      rw [List.size_toArray, hNl, List.take_length] at hG
      have hylen : ys.length = gtC ns (runsSt ns k i).2.1 (k + i) := by rw [hG.length, List.length_map]; rfl
      have hyle : ys.length ≤ (runsSt ns k i).2.1.length := by rw [hylen]; exact List.length_filter_le _ _
      have hoka := ok.a
      refine ⟨hf, tkf, D, ys, rfl, rfl, hDl, by omega, fun tg tkg => ?_⟩
      have x₃ := x₂.keep upf
      have hplf := hcpd.keeps upf
      refine stv s x₃.ns (fun hg tkg' hng hsg => ?_)
      have x₄ := x₃.name hL hng hsg (lkn rfl) (lkn rfl) (lkn rfl) (lkn rfl)
      have hcp₄ : hg.IsCell (L + 2) (some (.int ((k + i : Nat) : Int) tp)) := hplf.sameBut hsg (IsCell_ne_ns hplf x₃.ns)
      have hIg : ∀ o, hd.get? I = some o → hg.get? I = some o := fun o e => hsg.extBut _ o hIL.symm (upf _ o e)
      have mg4 : (fun y => if y = Str.ofString "greater" then some (Value.int (ys.length : Int) tg) else m y) "greater" = some (.int (ys.length : Int) tg) := lke
      generalize (fun y => if y = Str.ofString "greater" then some (Value.int (ys.length : Int) tg) else m y) = m₄ at hng x₄ mg4
      clear hng hsg hplf x₃ hG hDl hD hkf upf
      have hokb := ok.b
      obtain ⟨vW, hvW, hiW⟩ := id x₄.hW
      obtain ⟨vN', hvN', hiN'⟩ := id x₄.hN
      have hWl : vW.length = (runsSt ns k i).2.2.length := by rw [hiW.length, List.length_map]
      have hNl' : vN'.length = (runsSt ns k i).2.1.length := by rw [hiN'.length, List.length_map]
      have B₄ : Bs h₀ hg := fun b o e => x₄.bs b o (B b o e)
      -- behind the first if: if len(wait) == room: ..
      have rest : ∀ st h tk, RSt s.heap L lr (.int k t) h m₄ aR aN aW as st → h.IsCell (L + 2) (some (.int ((k + i : Nat) : Int) tp)) → (∀ o, hd.get? I = some o → h.get? I = some o) → st.1 = (runsSt ns k i).1 → st.2.1.length ≤ k + i + 1 → st.2.2.length ≤ k + i + 1 →
          (if st.2.2.length = k then (st.1 ++ [st.2.1], st.2.2, []) else st) = runsSt ns k (i + 1) →
          wpAny (model prog w) (A.deeper (envC 9 L F.runs cdv)) (execs ((forBody ((bd 9).getD 3 (.Pass default))).drop 2) (envC 9 L F.runs cdv)) (fun f s₃ => match f with
            | .next | .cont => ∃ h₃ tk₃ v₃, s₃ = { s with heap := h₃, toks := tk₃ } ∧ (∀ b ∈ [I], ∀ o, hd.get? b = some o → h₃.get? b = some o) ∧ h₃.IsCell (L + 2) v₃ ∧ ∃ m aR aN aW as, RSt s.heap L lr (.int k t) h₃ m aR aN aW as (runsSt ns k (i + 1))
            | _ => False) (fun _ _ => False) { s with heap := h, toks := tk } := by
        intro st h tk y hcy hIy hs1 hsa hsb hres
        obtain ⟨vW, hvW, hiW⟩ := id y.hW
        have hWl : vW.length = st.2.2.length := by rw [hiW.length, List.length_map]
        have By : Bs h₀ h := fun b o e => y.bs b o (B b o e)
        refine wpAny_execs_cons (wpAny_If (wpAny_isTrue_Compare1 (callLen s (P.g.keeps By) P.glen (P.b.keeps By) P.blen y.ns y.m3 hvW (by omega) (fun te _ => ldv y.ns y.m4 (eq_int (wpAny_truthy_bool ?_))))))
        by_cases hwk : st.2.2.length = k
        · rw [if_pos hwk] at hres
          rw [if_pos (by rw [hWl, hwk]; simp)]
          -- runs.append(run)
          refine wpAny_execs_cons (stmtAppend (ldv y.ns y.m1 ⟨aR, _, rfl, y.hR, ldv y.ns y.m2 (appendL s y.hR (by have := y.hI.1; have := ok.r; rw [hs1] at *; rw [List.length_map]; omega) (fun h' _ hR' hs' => ⟨rfl, ?_⟩))⟩))
          have hn' : h'.Ns L m₄ := y.ns.sameBut hs' (Heap_Ns_ne y.ns y.hR).symm
          -- run = wait
          refine wpAny_execs_cons (wpAny_Assign_Name (ldv hn' y.m3 (stv s hn' (fun h₂ _ hn₂ hs₂ => ?_))))
          -- wait = []
          refine wpAny_execs_cons (wpAny_Assign_Name (newNil s (fun aW' h₃ _ hk₃ hfW' hW' => stv s (hn₂.keeps hk₃) (fun h₄ _ hn₄ hs₄ => ?_))))
          refine wpAny_execs_nil (wpAny_execs_nil ?_)
          have upy : ∀ b o, b ≠ aR → b ≠ L → h.get? b = some o → h₄.get? b = some o := fun b o h1 h2 e => hs₄.extBut b o h2 (hk₃ b o (hs₂.extBut b o h2 (hs'.extBut b o h1 e)))
          have z := y.turn hL hs' (by simpa using hR') hn₂ hs₂ hk₃ hfW' hW' hn₄ hs₄ (lkn (lkn rfl)) ((lkn lke).trans y.m3.symm) lke (lkn (lkn rfl))
          rw [hres] at z
          have hcz : h₄.IsCell (L + 2) (some (.int ((k + i : Nat) : Int) tp)) := by
            obtain ⟨o, ho, hd⟩ := id hcy
            exact ⟨o, upy _ o (IsCell_ne_list hcy y.hR) (IsCell_ne_ns hcy y.ns) ho, hd⟩
          refine ⟨h₄, _, _, rfl, fun b hb o e => ?_, hcz, _, aR, aW, aW', as ++ [aN], z⟩
          rw [List.mem_singleton.mp hb] at e ⊢
          refine upy _ _ (fun q => ?_) hIL.symm (hIy o e)
          have e' := hIy _ hstd
          obtain ⟨n, hR⟩ := y.hR
          rw [q, hR] at e'
          simp at e'
        · rw [if_neg hwk] at hres
          rw [if_neg (by rw [hWl]; simp; omega)]
          refine wpAny_execs_nil (wpAny_execs_nil ⟨h, _, _, rfl, fun b hb o e => ?_, hcy, m₄, aR, aN, aW, as, ?_⟩)
          · rw [List.mem_singleton.mp hb] at e ⊢; exact hIy o e
          · rw [← hres]; exact y
      -- if greater < room - len(wait)
      refine wpAny_execs_cons (wpAny_If (wpAny_isTrue_Compare1 (ldv x₄.ns mg4 (wpAny_BinOp (ldv x₄.ns x₄.m4 (callLen s (P.g.keeps B₄) P.glen (P.b.keeps B₄) P.blen x₄.ns x₄.m3 hvW (by omega) (fun te _ => sub_int (lt_int (wpAny_truthy_bool ?_)))))))))
      by_cases hcc : gtC ns (runsSt ns k i).2.1 (k + i) + (runsSt ns k i).2.2.length < k
      · rw [if_pos (by simp; omega)]
        refine wpAny_execs_cons (stmtAppend (ldv x₄.ns x₄.m2 ⟨aN, _, rfl, hvN', ldc hcp₄ (appendL s hvN' (by omega) (fun h' _ hN' hs' => ⟨rfl, ?_⟩))⟩))
        have y := x₄.growN hs' ⟨_, hN', (by rw [List.map_append]; exact hiN'.append (.cons _ _ .nil) : IntsAre _ (((runsSt ns k i).2.1 ++ [k + i]).map Int.ofNat))⟩
        refine wpAny_execs_nil (wpAny_mono (rest _ h' _ y (hcp₄.sameBut hs' (IsCell_ne_list hcp₄ hvN')) (fun o e => hs'.extBut _ o (fun q => ?_) (hIg o e)) rfl (by simp; omega) (by show (runsSt ns k i).2.2.length ≤ _; omega) ?_) (fun f s₃ hf => ?_) fun _ _ x => x.elim)
        · have e' := hIg _ hstd
          obtain ⟨n, hN⟩ := hvN'
          rw [q, hN] at e'
          simp at e'
        · show _ = runStep ns k (runsSt ns k i) (k + i)
          unfold runStep
          simp only [hcc, if_true]
        · cases f <;> first | exact hf | exact hf.elim
      · rw [if_neg (by simp; omega)]
        refine wpAny_execs_cons (stmtAppend (ldv x₄.ns x₄.m3 ⟨aW, _, rfl, hvW, ldc hcp₄ (appendL s hvW (by omega) (fun h' _ hW' hs' => ⟨rfl, ?_⟩))⟩))
        have y := x₄.growW hs' ⟨_, hW', (by rw [List.map_append]; exact hiW.append (.cons _ _ .nil) : IntsAre _ (((runsSt ns k i).2.2 ++ [k + i]).map Int.ofNat))⟩
        refine wpAny_execs_nil (wpAny_mono (rest _ h' _ y (hcp₄.sameBut hs' (IsCell_ne_list hcp₄ hvW)) (fun o e => hs'.extBut _ o (fun q => ?_) (hIg o e)) rfl (by show (runsSt ns k i).2.1.length ≤ _; omega) (by simp; omega) ?_) (fun f s₃ hf => ?_) fun _ _ x => x.elim)
        · have e' := hIg _ hstd
          obtain ⟨n, hN⟩ := hvW
          rw [q, hN] at e'
          simp at e'
        · show _ = runStep ns k (runsSt ns k i) (k + i)
          unfold runStep
          simp only [hcc, if_false]
        · cases f <;> first | exact hf | exact hf.elim
  · rintro hc hd tkd ⟨m, aR, aN, aW, as, x⟩ hstn ⟨vp, hcp⟩ hkd
    have x₂ := x.other (X := [I]) hkd (fun y hy => by
      rw [List.mem_singleton.mp hy]
      refine ⟨hIs, hIL.symm, hIR.symm, fun its q => ?_⟩
      obtain ⟨n, q⟩ := q
      have hst : hc.get? I = _ := hstn
      rw [q] at hst
      simp at hst)
    clear x
    have ok := runsOk ns k (ns.length - k) (Nat.le_refl _)
    have hokr := ok.r
    have hInn := x₂.hI.1
    obtain ⟨vW, hvW, hiW⟩ := id x₂.hW
    obtain ⟨vN, hvN, hiN⟩ := id x₂.hN
    have hWl : vW.length = (runsSt ns k (ns.length - k)).2.2.length := by rw [hiW.length, List.length_map]
    have hokb := ok.b
    -- runs.append(run)
    refine wpAny_execs_cons (stmtAppend (ldv x₂.ns x₂.m1 ⟨aR, _, rfl, x₂.hR, ldv x₂.ns x₂.m2 (appendL s x₂.hR (by rw [List.length_map]; omega) (fun h' _ hR' hs' => ⟨rfl, ?_⟩))⟩))
    have hn' : h'.Ns L m := x₂.ns.sameBut hs' (Heap_Ns_ne x₂.ns x₂.hR).symm
    have bs' : Bs s.heap h' := fun b o e => hs'.extBut b o (fun q => by rw [q, x₂.n1] at e; cases e) (x₂.bs b o e)
    have hR' : h'.PlainList aR ((as ++ [aN]).map Value.ref).toArray := by simpa using hR'
    have hI' : InnerL h' (as ++ [aN]) ((runsSt ns k (ns.length - k)).1 ++ [(runsSt ns k (ns.length - k)).2.1]) :=
      InnerL.snoc (x₂.hI.at fun a ha o e => hs'.extBut _ o (x₂.d4 a ha).1 e) (x₂.hN.at fun o e => hs'.extBut _ o x₂.d1.symm e)
    have hvW' : h'.PlainList aW vW.toArray := hvW.at fun o e => hs'.extBut _ o x₂.d2.symm e
    have n5 : ∀ a ∈ as ++ [aN], s.heap.get? a = none := fun a ha => (List.mem_append.mp ha).elim (x₂.n4 a) fun q => by rw [List.mem_singleton.mp q]; exact x₂.n2
    -- if wait
    refine wpAny_execs_cons (wpAny_If (isTrue_plain (ldv hn' x₂.m3 (wpAny_truthy_list hvW'.isList (by simp; omega) ?_))))
    by_cases hw : (runsSt ns k (ns.length - k)).2.2 = []
    · have hv0 : vW = [] := List.length_eq_zero_iff.mp (by rw [hWl, hw]; rfl)
      subst hv0
      rw [if_neg (by simp)]
      refine wpAny_execs_nil (wpAny_execs_cons (wpAny_Return_some (ldv hn' x₂.m1 (c h' _ aR (as ++ [aN]) bs' x₂.n1 n5 hR' ?_))))
      unfold runsF
      simp only [hw, if_true]
      exact hI'
    · have hv0 : vW ≠ [] := fun q => hw (List.length_eq_zero_iff.mp (by rw [← hWl, q]; rfl))
      rw [if_pos (by cases vW with | nil => exact absurd rfl hv0 | cons a b => simp)]
      -- runs.append(wait)
      refine wpAny_execs_cons (stmtAppend (ldv hn' x₂.m1 ⟨aR, _, rfl, hR', ldv hn' x₂.m3 (appendL s hR' (by simp; omega) (fun h'' _ hR'' hs'' => ⟨rfl, ?_⟩))⟩))
      refine wpAny_execs_nil (wpAny_execs_cons (wpAny_Return_some (ldv (hn'.sameBut hs'' (Heap_Ns_ne hn' hR').symm) x₂.m1 (c h'' _ aR ((as ++ [aN]) ++ [aW]) ?_ x₂.n1 (fun a ha => (List.mem_append.mp ha).elim (n5 a) fun q => by rw [List.mem_singleton.mp q]; exact x₂.n3) (by simpa using hR'') ?_))))
      · exact fun b o e => hs''.extBut b o (fun q => by rw [q, x₂.n1] at e; cases e) (bs' b o e)
      · unfold runsF
        simp only [hw, if_false]
        refine InnerL.snoc (hI'.at fun a ha o e => hs''.extBut _ o ?_ e) (x₂.hW.at fun o e => hs''.extBut _ o x₂.d2.symm (hs'.extBut _ o x₂.d2.symm e))
        rcases List.mem_append.mp ha with ha | ha
        · exact (x₂.d4 a ha).1
        · rw [List.mem_singleton.mp ha]; exact x₂.d1.symm
end
end Mine

-- part S1
namespace Mine

/-- what a tree of comparisons hands back, where lt answers -/
def KT (lt : Nat → Nat → Bool) (N : Nat) {α : Type} : KasT α → (α → Prop) → Prop
  | .ret a, Q => Q a
  | .ask i j k, Q => i < N ∧ j < N ∧ KT lt N (k (lt i j)) Q
section
variable {lt : Nat → Nat → Bool} {N : Nat}
theorem KT.bind {α β : Type} {f : α → KasT β} {Q : β → Prop} : ∀ (t : KasT α), KT lt N t (fun a => KT lt N (f a) Q) → KT lt N (t.bind f) Q
  | .ret _, h => h
  | .ask i j k, h => ⟨h.1, h.2.1, KT.bind (k (lt i j)) h.2.2⟩
theorem KT.mono {α : Type} {Q Q' : α → Prop} (hq : ∀ a, Q a → Q' a) : ∀ (t : KasT α), KT lt N t Q → KT lt N t Q'
  | .ret _, h => hq _ h
  | .ask i j k, h => ⟨h.1, h.2.1, KT.mono hq (k (lt i j)) h.2.2⟩
theorem KT.wp {α : Type} {cmp : Nat → Nat → (Bool → Shared → Prop) → Shared → Prop} {s : Shared} (hc : ∀ i j (C : Bool → Shared → Prop), i < N → j < N → C (lt i j) s → cmp i j C s) {Q : α → Prop} {G : α → Shared → Prop} (hG : ∀ a, Q a → G a s) :
    ∀ (t : KasT α), KT lt N t Q → t.kasWp cmp G s
  | .ret _, h => hG _ h
  | .ask i j k, h => hc i j _ h.1 h.2.1 (KT.wp hc hG (k (lt i j)) h.2.2)

/-- what the tree hands back -/
def kres (lt : Nat → Nat → Bool) {α : Type} : KasT α → α
  | .ret a => a
  | .ask i j k => kres lt (k (lt i j))
theorem KT.res {α : Type} {Q : α → Prop} : ∀ (t : KasT α), KT lt N t Q → KT lt N t (fun a => a = kres lt t ∧ Q a)
  | .ret _, h => ⟨rfl, h⟩
  | .ask i j k, h => ⟨h.1, h.2.1, KT.res (k (lt i j)) h.2.2⟩
theorem KT.at {α : Type} {Q : α → Prop} : ∀ (t : KasT α), KT lt N t Q → Q (kres lt t)
  | .ret _, h => h
  | .ask i j k, h => KT.at (k (lt i j)) h.2.2

/-- a strict order of the places below N -/
structure StrictOn (lt : Nat → Nat → Bool) (N : Nat) : Prop where
  tot : ∀ a b, a < N → b < N → a ≠ b → lt a b = false → lt b a = true
  asym : ∀ a b, lt a b = true → lt b a = false
  trans : ∀ a b c, lt a b = true → lt b c = true → lt a c = true

/-- p holds the places below N, each once -/
def IsP (N : Nat) (p : Array Nat) : Prop := p.toList.Perm (List.range N)
theorem IsP.size {p : Array Nat} (h : IsP N p) : p.size = N := by have := h.length_eq; simpa using this
theorem IsP.below {p : Array Nat} (h : IsP N p) {i : Nat} (hi : i < N) : p.getD i 0 < N := by
  have hs := h.size
  have : p.getD i 0 ∈ p.toList := by simp [Array.getD, hs, hi]
  exact List.mem_range.mp (h.mem_iff.mp this)
theorem IsP.ne {p : Array Nat} (h : IsP N p) {i j : Nat} (hi : i < N) (hj : j < N) (hij : i ≠ j) : p.getD i 0 ≠ p.getD j 0 := by
  have hs := h.size
  have nd : p.toList.Nodup := h.nodup_iff.mpr List.nodup_range
  intro e
  have e' : p.toList[i]'(by simpa [hs]) = p.toList[j]'(by simpa [hs]) := by simpa [Array.getD, hs, hi, hj] using e
  exact hij ((List.getElem_inj nd).mp e')

def Asc (lt : Nat → Nat → Bool) (p : Array Nat) (m : Nat) : Prop := ∀ i j, i < j → j < m → lt (p.getD i 0) (p.getD j 0) = true
def Desc (lt : Nat → Nat → Bool) (p : Array Nat) (m : Nat) : Prop := ∀ i j, i < j → j < m → lt (p.getD j 0) (p.getD i 0) = true

theorem Asc.more (S : StrictOn lt N) {p : Array Nat} {n : Nat} (h1 : 1 ≤ n) (x : Asc lt p n) (e : lt (p.getD (n - 1) 0) (p.getD n 0) = true) : Asc lt p (n + 1) := by
  intro i j hij hj
  by_cases hjn : j = n
  · subst hjn
    by_cases hi : i = j - 1
    · rw [hi]; exact e
    · exact S.trans _ _ _ (x i (j - 1) (by omega) (by omega)) e
  · exact x i j hij (by omega)
theorem Desc.more (S : StrictOn lt N) {p : Array Nat} {n : Nat} (h1 : 1 ≤ n) (x : Desc lt p n) (e : lt (p.getD n 0) (p.getD (n - 1) 0) = true) : Desc lt p (n + 1) := by
  intro i j hij hj
  by_cases hjn : j = n
  · subst hjn
    by_cases hi : i = j - 1
    · rw [hi]; exact e
    · exact S.trans _ _ _ e (x i (j - 1) (by omega) (by omega))
  · exact x i j hij (by omega)

theorem kt_asc (S : StrictOn lt N) {p : Array Nat} (hp : IsP N p) : ∀ f n, 1 ≤ n → n + f ≤ N → Asc lt p n → KT lt N (kas_asc p f n) (fun m => n ≤ m ∧ m ≤ n + f ∧ Asc lt p m ∧ (m = n + f ∨ lt (p.getD m 0) (p.getD (m - 1) 0) = true))
  | 0, n, _, _, x => ⟨Nat.le_refl _, Nat.le_refl _, x, .inl rfl⟩
  | f + 1, n, h1, hn, x => by
    refine ⟨hp.below (by omega), hp.below (by omega), ?_⟩
    dsimp only
    cases hc : lt (p.getD n 0) (p.getD (n - 1) 0) with
    | true => rw [if_pos rfl]; exact ⟨Nat.le_refl _, by omega, x, .inr hc⟩
    | false =>
      rw [if_neg (by simp)]
      have e := S.tot _ _ (hp.below (by omega)) (hp.below (by omega)) (hp.ne (i := n) (j := n - 1) (by omega) (by omega) (by omega)) hc
      exact KT.mono (fun m h => ⟨by omega, by omega, h.2.2.1, h.2.2.2.imp (fun q => by omega) id⟩) _ (kt_asc S hp f (n + 1) (by omega) (by omega) (x.more S h1 e))

theorem kt_desc (S : StrictOn lt N) {p : Array Nat} (hp : IsP N p) : ∀ f n, 1 ≤ n → n + f ≤ N → Desc lt p n → KT lt N (kas_desc f p n 0) (fun r => r.1 = p ∧ r.2.2 = 0 ∧ n ≤ r.2.1 ∧ r.2.1 ≤ n + f ∧ Desc lt p r.2.1)
  | 0, n, _, _, x => ⟨rfl, rfl, Nat.le_refl _, Nat.le_refl _, x⟩
  | f + 1, n, h1, hn, x => by
    refine ⟨hp.below (by omega), hp.below (by omega), ?_⟩
    dsimp only
    cases hc : lt (p.getD n 0) (p.getD (n - 1) 0) with
    | true =>
      rw [if_pos rfl, if_neg (by omega)]
      exact KT.mono (fun m h => ⟨h.1, h.2.1, by omega, by omega, h.2.2.2.2⟩) _ (kt_desc S hp f (n + 1) (by omega) (by omega) (x.more S h1 hc))
    | false =>
      rw [if_neg (by simp)]
      have e := S.tot _ _ (hp.below (by omega)) (hp.below (by omega)) (hp.ne (i := n) (j := n - 1) (by omega) (by omega) (by omega)) hc
      refine ⟨hp.below (by omega), hp.below (by omega), ?_⟩
      dsimp only
      rw [e, if_pos rfl]
      exact ⟨rfl, rfl, Nat.le_refl _, Nat.le_add_right _ _, x⟩

theorem IsP.rev {p : Array Nat} (h : IsP N p) (i j : Nat) : IsP N (kas_rev p i j) := (Array.perm_iff_toList_perm.mp (mirror_perm p i j _)).trans h
theorem IsP.bub {p : Array Nat} (h : IsP N p) (k d : Nat) : IsP N (bubble p k d) := (Array.perm_iff_toList_perm.mp (bubble_perm p k d)).trans h
theorem getD_eq (p : Array Nat) (i : Nat) : p.getD i 0 = (p[i]?).getD 0 := by
  simp [Array.getD_eq_getD_getElem?]
theorem rev_getD {p : Array Nat} {n : Nat} (hn : n ≤ p.size) (i : Nat) : (kas_rev p 0 n).getD i 0 = if i < n then p.getD (n - 1 - i) 0 else p.getD i 0 := by
  rw [getD_eq, kas_rev, getElem?_mirror_all hn]
  by_cases hi : i < n
  · rw [if_pos ⟨Nat.zero_le _, hi⟩, if_pos hi, getD_eq, Nat.zero_add]
  · rw [if_neg (fun q => hi q.2), if_neg hi, getD_eq]
theorem rev_asc {p : Array Nat} {n : Nat} (hn : n ≤ p.size) (x : Desc lt p n) : Asc lt (kas_rev p 0 n) n := by
  intro i j hij hj
  rw [rev_getD hn, rev_getD hn, if_pos (by omega), if_pos hj]
  exact x _ _ (by omega) (by omega)

theorem kt_count (S : StrictOn lt N) {p : Array Nat} (hp : IsP N p) (h1 : 1 ≤ N) : KT lt N (kas_count N p) (fun r => IsP N r.2 ∧ 1 ≤ r.1 ∧ r.1 ≤ N ∧ Asc lt r.2 r.1) := by
  unfold kas_count
  refine KT.bind _ (KT.mono (fun n h => ?_) _ (kt_asc S hp (N - 1) 1 (Nat.le_refl _) (by omega) (fun i j hij hj => by omega)))
  obtain ⟨hn1, hn2, ha, hst⟩ := h
  by_cases hN : n = N
  · rw [if_pos (by simpa using hN)]
    exact ⟨hp, hn1, by omega, ha⟩
  · rw [if_neg (by simpa using hN)]
    by_cases hn : n > 1
    · rw [if_pos hn]
      refine ⟨hp.below (by omega), hp.below (by omega), ?_⟩
      dsimp only
      rw [ha 0 (n - 1) (by omega) (by omega), if_pos rfl]
      exact ⟨hp, hn1, by omega, ha⟩
    · rw [if_neg hn]
      have en : n = 1 := by omega
      subst en
      -- the second lies below the first
      unfold kas_descPart
      have hc : lt (p.getD 1 0) (p.getD 0 0) = true := hst.resolve_left (by omega)
      have hd2 : Desc lt p (1 + 1) := Desc.more S (n := 1) (Nat.le_refl _) (fun i j hij hj => by omega) hc
      refine KT.bind _ (KT.mono (fun r h => ?_) _ (kt_desc S hp (N - (1 + 1)) (1 + 1) (by omega) (by omega) hd2))
      obtain ⟨e1, e2, h3, h4, h5⟩ := h
      rw [if_neg (by omega), e1]
      unfold kas_tail3
      have hs := hp.size
      refine KT.bind _ (KT.mono (fun m h => ?_) _ (kt_asc S (hp.rev 0 r.2.1) (N - r.2.1) r.2.1 (by omega) (by omega) (rev_asc (by omega) h5)))
      exact ⟨hp.rev 0 r.2.1, by show 1 ≤ m; omega, by show m ≤ N; omega, h.2.2.1⟩

theorem kt_place (S : StrictOn lt N) {p : Array Nat} (hp : IsP N p) {k : Nat} (hk : k < N) (x : Asc lt p k) : ∀ f l r, l ≤ r → r ≤ k → r - l ≤ f → (∀ i, i < l → lt (p.getD i 0) (p.getD k 0) = true) → (∀ i, r ≤ i → i < k → lt (p.getD k 0) (p.getD i 0) = true) →
    KT lt N (kas_place p k f l r) (fun l => l ≤ k ∧ (∀ i, i < l → lt (p.getD i 0) (p.getD k 0) = true) ∧ (∀ i, l ≤ i → i < k → lt (p.getD k 0) (p.getD i 0) = true))
  | 0, l, r, hlr, hr, hf, ha, hb => ⟨by omega, ha, fun i h1 h2 => hb i (by omega) h2⟩
  | f + 1, l, r, hlr, hr, hf, ha, hb => by
    unfold kas_place
    by_cases h : l ≥ r
    · rw [if_pos h]
      exact ⟨by omega, ha, fun i h1 h2 => hb i (by omega) h2⟩
    · rw [if_neg h]
      refine ⟨hp.below hk, hp.below (by omega), ?_⟩
      dsimp only
      cases hc : lt (p.getD k 0) (p.getD ((l + r) / 2) 0) with
      | true =>
        rw [if_pos rfl]
        refine kt_place S hp hk x f l _ (by omega) (by omega) (by omega) ha fun i h1 h2 => ?_
        by_cases e : i = (l + r) / 2
        · rw [e]; exact hc
        · exact S.trans _ _ _ hc (x _ _ (by omega) h2)
      | false =>
        rw [if_neg (by simp)]
        have e1 := S.tot _ _ (hp.below hk) (hp.below (by omega)) (hp.ne (i := k) (j := (l + r) / 2) hk (by omega) (by omega)) hc
        refine kt_place S hp hk x f _ r (by omega) hr (by omega) (fun i h1 => ?_) hb
        by_cases e : i = (l + r) / 2
        · rw [e]; exact e1
        · exact S.trans _ _ _ (x i _ (by omega) (by omega)) e1

theorem bub_getD {p : Array Nat} {k l : Nat} (hk : k < p.size) (hl : l ≤ k) (i : Nat) : (bubble p k (k - l)).getD i 0 = if i = l then p.getD k 0 else if l < i ∧ i ≤ k then p.getD (i - 1) 0 else p.getD i 0 := by
  rw [getD_eq, getElem?_bubble hk (k - l) (by omega), show k - (k - l) = l by omega]
  by_cases h1 : i = l
  · rw [if_pos h1, if_pos h1, getD_eq]
  · rw [if_neg h1, if_neg h1]
    by_cases h2 : l < i ∧ i ≤ k
    · rw [if_pos h2, if_pos h2, getD_eq]
    · rw [if_neg h2, if_neg h2, getD_eq]

theorem kt_bin (S : StrictOn lt N) : ∀ f (p : Array Nat) k, IsP N p → 1 ≤ k → k + f = N → Asc lt p k → KT lt N (kas_bin f p k) (fun p => IsP N p ∧ Asc lt p N)
  | 0, p, k, hp, _, hk, x => ⟨hp, by have : k = N := by omega
                                     rw [← this]; exact x⟩
  | f + 1, p, k, hp, h1, hk, x => by
    unfold kas_bin
    refine KT.bind _ (KT.mono (fun l h => ?_) _ (kt_place S hp (by omega) x k 0 k (Nat.zero_le _) (Nat.le_refl _) (by omega) (fun i hi => by omega) (fun i h1 h2 => by omega)))
    obtain ⟨hl, ha, hb⟩ := h
    have hs := hp.size
    refine kt_bin S f _ (k + 1) (hp.bub k (k - l)) (by omega) (by omega) fun i j hij hj => ?_
    rw [bub_getD (by omega) hl, bub_getD (by omega) hl]
    by_cases hil : i = l
    · rw [if_pos hil, if_neg (by omega), if_pos (by omega)]
      exact hb _ (by omega) (by omega)
    · rw [if_neg hil]
      by_cases hi2 : l < i ∧ i ≤ k
      · rw [if_pos hi2, if_neg (by omega), if_pos (by omega)]
        exact x _ _ (by omega) (by omega)
      · rw [if_neg hi2]
        by_cases hjl : j = l
        · rw [if_pos hjl]; exact ha _ (by omega)
        · rw [if_neg hjl]
          by_cases hj2 : l < j ∧ j ≤ k
          · rw [if_pos hj2]
            by_cases e : i = j - 1
            · omega
            · exact x _ _ (by omega) (by omega)
          · rw [if_neg hj2]; exact x _ _ hij (by omega)

theorem kt_sort (S : StrictOn lt N) (h1 : 1 ≤ N) : KT lt N (kas_sort N) (fun p => IsP N p ∧ Asc lt p N) := by
  unfold kas_sort
  refine KT.bind _ (KT.mono (fun r h => ?_) _ (kt_count S (p := List.toArray (List.range N)) (by unfold IsP; exact List.Perm.refl _) h1))
  obtain ⟨hp, hr1, hr2, ha⟩ := h
  by_cases hlt : r.1 < N
  · rw [if_pos hlt]
    have : max r.1 1 = r.1 := by omega
    rw [this]
    exact kt_bin S _ _ _ hp hr1 (by omega) ha
  · rw [if_neg hlt]
    have : r.1 = N := by omega
    exact ⟨hp, by rw [← this]; exact ha⟩
end
end Mine

-- part S2
namespace Mine
section
variable {prog : Program} {w : World} {A : Around} {E : Value → Shared → Prop} {s : Shared} {vs us : List Value}

theorem zip_snd {α : Type} : ∀ l : List α, (l.zip l).map (fun x => x.2) = l
  | [] => rfl
  | a :: l => by simp [zip_snd l]

/-- list.sort() of a list at a, where the comparisons turn nothing -/
theorem listSortRaw {a : Addr} {n : Nat} {P : PySem.Fin → Shared → Prop} (ho : s.heap.get? a = some (seqObj "list" vs.toArray n)) (h64 : vs.length < 64)
    (h1 : vs.length < 2 → us = vs)
    (hk : 2 ≤ vs.length → ∀ h', Ext a s.heap h' → wpAny (model prog w) A (keyKind' vs.toArray) (fun κ s' => (kas_sort vs.length).kasWp (kas_ask prog w A κ vs) (fun p s'' => s'' = { s with heap := h' } ∧ (p.toList.map fun i => vs.getD i Value.none) = us) s') (fun _ _ => False) { s with heap := h' })
    (c : ∀ h' , Ext a s.heap h' → h'.PlainList a us.toArray → P (.done (.ret .none)) { s with heap := h' }) :
    wpAny (model prog w) A (Builtin.«list.sort» ⟨[.ref a], []⟩) P E s := by
  have s1 := Heap.SameBut.update s.heap a (Obj.mapSeq fun _ => (#[] : Array Value))
  obtain ⟨e1, ho1⟩ : ∃ e1, (s.heap.update a (Obj.mapSeq fun _ => (#[] : Array Value))).get? a = some (seqObj "list" #[] e1) := ⟨_, get?_update_seq ho fun _ => #[]⟩
  have x3 : Ext a s.heap (((s.heap.update a (Obj.mapSeq fun _ => (#[] : Array Value))).push (seqObj "tuple" vs.toArray 0)).push (seqObj "list" #[] 0)) := fun b o hb e =>
    Heap.get?_push_of_some _ (Heap.get?_push_of_some _ (s1.extBut b o hb e))
  have ho3 : (((s.heap.update a (Obj.mapSeq fun _ => (#[] : Array Value))).push (seqObj "tuple" vs.toArray 0)).push (seqObj "list" #[] 0)).get? a = some (seqObj "list" #[] e1) := Heap.get?_push_of_some _ (Heap.get?_push_of_some _ ho1)
  rw [list_sort_plain]
  refine wpAny_bind (listItems_at ho rfl ?_)
  refine wpAny_bind (listUpdate_at ho rfl ?_ (by rw [List.size_toArray, sizeLine_eq]; omega) (Nat.zero_le _))
  refine wpAny_bind (seqEpoch_at ho1 rfl ?_)
  refine wpAny_bind (wpAny_newTuple ?_ (by show vs.length ≤ _; rw [sizeLine_eq]; omega))
  refine wpAny_bind (wpAny_newList ?_ (Nat.zero_le _))
  refine wpAny_holding ?_
  show wpAny (model prog w) A _ P E { s with heap := ((s.heap.update a (Obj.mapSeq fun _ => (#[] : Array Value))).push (seqObj "tuple" vs.toArray 0)).push (seqObj "list" #[] 0) }
  generalize ((s.heap.update a (Obj.mapSeq fun _ => (#[] : Array Value))).push (seqObj "tuple" vs.toArray 0)).push (seqObj "list" #[] 0) = H at x3 ho3 ⊢
  dsimp only
  -- the end
  have fin : ∀ st : SortSt, (arrOf st).map (·.2) = us.toArray → us.length < 64 → failedOf st = none → wpAny (model prog w) A (do
      let sorted := (arrOf st).map (·.2)
      let touched := (← seqEpoch a) != e1
      Builtin.List.listUpdate (.ref a) fun _ => sorted
      if let some e := failedOf st then rule "list.sort.comparison-raised"; throw e
      if touched then rule "list.sort.modified"; raiseError "ValueError" "list modified during sort"
      ret .none) P E { s with heap := H } := by
    intro st hout hz hf
    dsimp only
    rw [hout]
    refine wpAny_bind (seqEpoch_at ho3 rfl ?_)
    refine wpAny_bind (listUpdate_at ho3 rfl ?_ (Nat.zero_le _) (by rw [List.size_toArray, sizeLine_eq]; omega))
    rw [hf]
    simp only [bne_self_eq_false, Bool.false_eq_true, if_false]
    have s2 := Heap.SameBut.update H a (Obj.mapSeq fun _ => us.toArray)
    refine wpAny_pure (c _ (fun b o hb e => s2.extBut b o hb (x3 b o hb e)) ⟨_, get?_update_seq ho3 fun _ => us.toArray⟩)
  by_cases h2 : vs.length < 2
  · have e := h1 h2
    subst e
    have hn2 : us.toArray.size < 2 := by rw [List.size_toArray]; omega
    rw [if_pos hn2, if_pos hn2]
    refine wpAny_bind (wpAny_pure ?_)
    refine wpAny_bind (wpAny_pure ?_)
    exact fin _ (by apply Array.toList_inj.mp; simp [zip_snd]) (by omega) rfl
  · have hn2 : ¬ vs.toArray.size < 2 := by rw [List.size_toArray]; omega
    rw [if_neg hn2, if_neg hn2]
    refine wpAny_bind (wpAny_mono (hk (by omega) H x3) (fun κ s0 hk0 => ?_) fun _ _ x => x.elim)
    refine wpAny_bind (wpAny_mono (kat_run (Q := fun st' s' => s' = { s with heap := H } ∧ (arrOf st').map (·.2) = us.toArray ∧ us.length < 64 ∧ failedOf st' = none) rfl (by omega) h64 (fun p' st' s' a1 a2 a3 a4 => ?_) hk0) (fun r s' hr => ?_) fun _ _ e => e)
    · refine ⟨a4.1, ?_, ?_, a3⟩
      · rw [kat_snds rfl a2, a4.2]
      · rw [← a4.2, List.length_map, Array.length_toList, a1]; exact h64
    · obtain ⟨⟨⟩, st'⟩ := r
      obtain ⟨rfl, hout, hz, hf⟩ := hr
      exact fin st' hout hz hf

theorem sortedRaw {l : Addr} {Q : Value → Shared → Prop} (hl : s.heap.IsList l vs.toArray) (h64 : vs.length < 64) (h1 : vs.length < 2 → us = vs)
    (hk : 2 ≤ vs.length → ∀ h', Bs s.heap h' → wpAny (model prog w) A.in1.in1 (keyKind' vs.toArray) (fun κ s' => (kas_sort vs.length).kasWp (kas_ask prog w A.in1.in1 κ vs) (fun p s'' => s'' = { s with heap := h' } ∧ (p.toList.map fun i => vs.getD i Value.none) = us) s') (fun _ _ => False) { s with heap := h' })
    (c : ∀ D h', s.heap.get? D = none → Bs s.heap h' → h'.PlainList D us.toArray → Q (.ref D) { s with heap := h' }) :
    wpAny (model prog w) A (call (.builtin "sorted") [.ref l]) Q E s := by
  refine Calls.call_function_entry kind_sorted plain_sorted entry_sorted (args_sorted1 _) ?_
  unfold Builtin.«sorted»
  refine wpAny_bind (m := checkCount "sorted" 1 1 _) (wpAny_pure ?_)
  refine wpAny_bind (collect_list hl ?_ (by rw [sizeLine_eq]; omega))
  refine wpAny_bind (wpAny_newList ?_ (by rw [sizeLine_eq]; omega))
  have hsz : ((s.heap.push (seqObj "list" #[] 0)).update s.heap.objs.size (Obj.mapSeq (· ++ vs.toArray))).objs.size = s.heap.objs.size + 1 := by
    rw [Heap.size_update, size_push']
  have hoL : (((s.heap.push (seqObj "list" #[] 0)).update s.heap.objs.size (Obj.mapSeq (· ++ vs.toArray))).push (seqObj "list" vs.toArray 0)).get? (s.heap.objs.size + 1) = some (seqObj "list" vs.toArray 0) := by
    rw [← hsz]; exact Heap.get?_push_size _ rfl
  have keep : Bs s.heap (((s.heap.push (seqObj "list" #[] 0)).update s.heap.objs.size (Obj.mapSeq (· ++ vs.toArray))).push (seqObj "list" vs.toArray 0)) := fun b o q => by
    have hlt : b < s.heap.objs.size := Heap.lt_size q
    rw [Heap.get?_push_ne _ _ _ (by rw [hsz]; exact Nat.ne_of_lt (Nat.lt_succ_of_lt hlt)), Heap.get?_update_ne _ _ _ _ (Nat.ne_of_lt hlt), Heap.get?_push_ne _ _ _ (Nat.ne_of_lt hlt)]
    exact q
  show wpAny _ _ _ _ _ { s with heap := ((s.heap.push (seqObj "list" #[] 0)).update s.heap.objs.size (Obj.mapSeq (· ++ vs.toArray))).push (seqObj "list" vs.toArray 0) }
  rw [hsz]
  generalize ((s.heap.push (seqObj "list" #[] 0)).update s.heap.objs.size (Obj.mapSeq (· ++ vs.toArray))).push (seqObj "list" vs.toArray 0) = H at hoL keep ⊢
  have hD : s.heap.get? (s.heap.objs.size + 1) = none := Heap.get?_none_of_le (Nat.le_succ _)
  generalize s.heap.objs.size + 1 = D at hoL hD ⊢
  have keepE : ∀ {h'}, Ext D H h' → Bs s.heap h' := fun {h'} x b o e => x b o (fun q => by rw [q, hD] at e; cases e) (keep b o e)
  refine wpAny_bind (wpAny_holding (wpAny_call_entry slot_list_sort ⟨_, hoL, rfl⟩ entry_list_sort ?body (args_list_sort _)))
  case body =>
    refine listSortRaw (us := us) (s := { s with heap := H }) hoL h64 h1 (fun h2 h' hx => hk h2 h' (keepE hx)) (fun h' hx hl' => ⟨_, rfl, wpAny_pure ⟨_, rfl, c D h' hD (keepE hx) hl'⟩⟩)
end

abbrev T2 := Int × Nat
def plt (a b : T2) : Bool := if a.1 = b.1 then decide (a.2 < b.2) else decide (a.1 < b.1)
/-- v is, in h, a tuple of the two ints of q -/
def IsT2 (h : Heap) (v : Value) (q : T2) : Prop := ∃ a n x y, v = .ref a ∧ h.get? a = some { cls := .type "tuple", data := .seq #[.int q.1 x, .int (q.2 : Nat) y] n }
theorem IsT2.tk {h h' : Heap} {v : Value} {q : T2} (x : IsT2 h v q) (y : TK h h') : IsT2 h' v q := by
  obtain ⟨a, n, p, r, rfl, ho⟩ := x
  exact ⟨a, n, p, r, rfl, y a _ _ ho⟩
/-- values and what they are, place by place -/
def Are {β : Type} (R : Value → β → Prop) : List Value → List β → Prop
  | [], [] => True
  | v :: vs, b :: bs => R v b ∧ Are R vs bs
  | _, _ => False
theorem Are.length {β : Type} {R : Value → β → Prop} : ∀ {vs : List Value} {bs : List β}, Are R vs bs → vs.length = bs.length
  | [], [], _ => rfl
  | _ :: _, _ :: _, h => by rw [List.length_cons, List.length_cons, Are.length h.2]
  | [], _ :: _, h => h.elim
  | _ :: _, [], h => h.elim
theorem Are.get {β : Type} {R : Value → β → Prop} : ∀ {vs : List Value} {bs : List β}, Are R vs bs → ∀ {i : Nat} {b : β}, bs[i]? = some b → ∃ v, vs[i]? = some v ∧ R v b
  | [], [], _, i, b, h => by simp at h
  | v :: vs, c :: bs, h, 0, b, e => by cases e; exact ⟨v, rfl, h.1⟩
  | v :: vs, c :: bs, h, i + 1, b, e => h.2.get (i := i) (by simpa using e)
  | [], _ :: _, h, _, _, _ => h.elim
  | _ :: _, [], h, _, _, _ => h.elim
theorem Are.get' {β : Type} {R : Value → β → Prop} : ∀ {vs : List Value} {bs : List β}, Are R vs bs → ∀ {i : Nat} {v : Value}, vs[i]? = some v → ∃ b, bs[i]? = some b ∧ R v b
  | [], [], _, i, b, h => by simp at h
  | v :: vs, c :: bs, h, 0, b, e => by cases e; exact ⟨c, rfl, h.1⟩
  | v :: vs, c :: bs, h, i + 1, b, e => h.2.get' (i := i) (by simpa using e)
  | [], _ :: _, h, _, _, _ => h.elim
  | _ :: _, [], h, _, _, _ => h.elim
theorem Are.imp {β : Type} {R R' : Value → β → Prop} (k : ∀ v b, R v b → R' v b) : ∀ {vs : List Value} {bs : List β}, Are R vs bs → Are R' vs bs
  | [], [], _ => trivial
  | _ :: _, _ :: _, h => ⟨k _ _ h.1, Are.imp k h.2⟩
  | [], _ :: _, h => h.elim
  | _ :: _, [], h => h.elim
theorem Are.append {β : Type} {R : Value → β → Prop} : ∀ {vs ws : List Value} {bs cs : List β}, Are R vs bs → Are R ws cs → Are R (vs ++ ws) (bs ++ cs)
  | [], _, [], _, _, k => k
  | _ :: _, _, _ :: _, _, h, k => ⟨h.1, Are.append h.2 k⟩
  | [], _, _ :: _, _, h, _ => h.elim
  | _ :: _, _, [], _, h, _ => h.elim
theorem Are.pick {β : Type} {R : Value → β → Prop} {vs : List Value} {bs : List β} {d : β} (x : Are R vs bs) : ∀ {p : List Nat}, (∀ i ∈ p, i < bs.length) → Are R (p.map fun i => vs.getD i Value.none) (p.map fun i => bs.getD i d)
  | [], _ => trivial
  | i :: p, h => by
    refine ⟨?_, Are.pick x fun j hj => h j (.tail _ hj)⟩
    have hi := h i (.head _)
    obtain ⟨v, hv, hr⟩ := x.get (i := i) (List.getElem?_eq_getElem hi)
    show R (vs.getD i Value.none) (bs.getD i d)
    rw [List.getD_eq_getElem?_getD, hv, List.getD_eq_getElem?_getD, List.getElem?_eq_getElem hi]
    exact hr

theorem plt_iff {a b : T2} : plt a b = true ↔ (a.1 < b.1 ∨ (a.1 = b.1 ∧ a.2 < b.2)) := by
  unfold plt
  by_cases h : a.1 = b.1
  · rw [if_pos h, decide_eq_true_iff]; omega
  · rw [if_neg h, decide_eq_true_iff]; omega
theorem plt_asym {a b : T2} (h : plt a b = true) : plt b a = false := by
  cases k : plt b a with
  | false => rfl
  | true => rw [plt_iff] at h k; omega
theorem plt_trans {a b c : T2} (h : plt a b = true) (k : plt b c = true) : plt a c = true := by
  rw [plt_iff] at *; omega
theorem plt_tot {a b : T2} (hne : a ≠ b) (h : plt a b = false) : plt b a = true := by
  rw [plt_iff]
  have h' : ¬ plt a b = true := by rw [h]; simp
  rw [plt_iff] at h'
  have : ¬ (a.1 = b.1 ∧ a.2 = b.2) := fun q => hne (Prod.ext q.1 q.2)
  omega

section
variable {prog : Program} {w : World} {A : Around} {E : Value → Shared → Prop} {s : Shared} {vs us : List Value}
theorem katTups {h : Heap} : ∀ {vs : List Value} {ps : List T2}, Are (IsT2 h) vs ps → ∃ fs, KatTups h vs fs ∧ fs.length = ps.length ∧ ∀ v ∈ fs, ∃ i t, v = Value.int i t
  | [], [], _ => ⟨[], trivial, rfl, fun _ h => (nomatch h)⟩
  | v :: vs, p :: ps, h => by
    obtain ⟨fs, hf, hl, hi⟩ := katTups h.2
    obtain ⟨a, n, x, y, rfl, ho⟩ := h.1
    refine ⟨.int p.1 x :: fs, KatTups.cons ho rfl rfl rfl hf, by simp [hl], fun v hv => ?_⟩
    rcases List.mem_cons.mp hv with rfl | hv
    · exact ⟨_, _, rfl⟩
    · exact hi v hv
  | [], _ :: _, h => h.elim
  | _ :: _, [], h => h.elim

theorem keyLt_T2 {va vb : Value} {p q : T2} {C : Bool → Shared → Prop} (ha : IsT2 s.heap va p) (hb : IsT2 s.heap vb q) (h : C (plt p q) s) :
    wpAny (model prog w) A (keyLt' (tuples' true) va vb) C E s := by
  obtain ⟨a, n, x, y, rfl, ha⟩ := ha
  obtain ⟨b, n', x', y', rfl, hb⟩ := hb
  refine kat_lt ha rfl hb rfl (kat_cons (SeqAt.EqAt.int_int _ _ _ _ prog w _ _ ?_))
  by_cases e1 : p.1 = q.1
  · rw [show (p.1 == q.1) = true by simpa using e1]
    refine kat_yes (kat_cons (SeqAt.EqAt.int_int _ _ _ _ prog w _ _ ?_))
    by_cases e2 : p.2 = q.2
    · rw [show ((p.2 : Int) == (q.2 : Int)) = true by simp [e2]]
      refine kat_yes (kat_nil ?_)
      have : plt p q = decide (#[Value.int p.1 x, .int (p.2 : Nat) y].size < #[Value.int q.1 x', .int (q.2 : Nat) y'].size) := by unfold plt; rw [if_pos e1, e2]; simp
      rw [← this]; exact h
    · rw [show ((p.2 : Int) == (q.2 : Int)) = false by rw [beq_eq_false_iff_ne]; omega]
      refine kat_no (kat_one _ _ (lt_int ?_))
      have : plt p q = decide ((p.2 : Int) < (q.2 : Int)) := by unfold plt; rw [if_pos e1]; simp
      show C _ s
      rw [← this]; exact h
  · rw [show (p.1 == q.1) = false by simpa using e1]
    refine kat_no (oneLt_int ?_)
    have : plt p q = decide (p.1 < q.1) := by unfold plt; rw [if_neg e1]
    rw [← this]; exact h

theorem sortedPairs {ps : List T2} {l : Addr} {Q : Value → Shared → Prop} (hl : s.heap.PlainList l vs.toArray) (hps : Are (IsT2 s.heap) vs ps) (hnd : ps.Nodup) (h64 : ps.length < 64)
    (c : ∀ D h' us qs, s.heap.get? D = none → Bs s.heap h' → h'.PlainList D (List.toArray us) → Are (IsT2 s.heap) us qs → qs.Perm ps → qs.Pairwise (fun a b => plt a b = true) → Q (.ref D) { s with heap := h' }) :
    wpAny (model prog w) A (call (.builtin "sorted") [.ref l]) Q E s := by
  have hlen := hps.length
  by_cases h2 : vs.length < 2
  · refine sortedRaw (us := vs) hl.isList (by omega) (fun _ => rfl) (fun h => by omega) (fun D h' hD hb hD' => c D h' vs ps hD hb hD' hps (List.Perm.refl _) ?_)
    match ps, hlen with
    | [], _ => exact .nil
    | [a], _ => exact List.pairwise_singleton _ _
    | _ :: _ :: _, e => simp at e; omega
  · have S : StrictOn (fun i j => plt (ps.getD i (0, 0)) (ps.getD j (0, 0))) vs.length := by
      refine ⟨fun a b ha hb hab h => plt_tot (fun e => ?_) h, fun a b h => plt_asym h, fun a b c h k => plt_trans h k⟩
      rw [List.getD_eq_getElem?_getD, List.getD_eq_getElem?_getD, List.getElem?_eq_getElem (by omega), List.getElem?_eq_getElem (by omega)] at e
      exact hab ((List.getElem_inj hnd).mp e)
    have K := kt_sort S (by omega)
    have hat := KT.at _ K
    have hres := KT.res _ K
    generalize kres (fun i j => plt (ps.getD i (0, 0)) (ps.getD j (0, 0))) (kas_sort vs.length) = p at hat hres
    obtain ⟨hp, ha⟩ := hat
    have hpl : ∀ i ∈ p.toList, i < ps.length := fun i hi => by have := List.mem_range.mp (hp.mem_iff.mp hi); omega
    refine sortedRaw (us := p.toList.map fun i => vs.getD i Value.none) hl.isList (by omega) (fun h => absurd h h2) (fun _ h' hb => ?_) (fun D h' hD hb hD' => c D h' _ (p.toList.map fun i => ps.getD i (0, 0)) hD hb hD' (hps.pick hpl) ?_ ?_)
    · have hps' : Are (IsT2 h') vs ps := hps.imp fun v b x => x.tk (TK.bs hb)
      obtain ⟨fs, hf, hfl, hfi⟩ := katTups hps'
      refine kat_kind (T := .type "int") hf (by omega) (fun v hv => ?_) (by decide) ?_
      · obtain ⟨i, t, rfl⟩ := hfi v hv
        exact Looks.of_pure rfl
      · refine KT.wp (fun i j C hi hj hC => ?_) (fun a ha => ?_) _ hres
        · obtain ⟨v1, hv1, hq1⟩ := hps'.get (i := i) (List.getElem?_eq_getElem (by omega))
          obtain ⟨v2, hv2, hq2⟩ := hps'.get (i := j) (List.getElem?_eq_getElem (by omega))
          unfold kas_ask
          rw [List.getD_eq_getElem?_getD, hv1, List.getD_eq_getElem?_getD, hv2]
          refine keyLt_T2 hq1 hq2 ?_
          rw [List.getD_eq_getElem?_getD, List.getD_eq_getElem?_getD, List.getElem?_eq_getElem (by omega), List.getElem?_eq_getElem (by omega)] at hC
          exact hC
        · exact ⟨rfl, by rw [ha.1]⟩
    · have e : ps = (List.range ps.length).map fun i => ps.getD i (0, 0) := by
        apply List.ext_getElem? 
        intro i
        rw [List.getElem?_map]
        by_cases hi : i < ps.length
        · rw [List.getElem?_eq_getElem hi, List.getElem?_range hi]
          show some ps[i] = some (ps.getD i (0, 0))
          rw [List.getD_eq_getElem?_getD, List.getElem?_eq_getElem hi]; rfl
        · rw [List.getElem?_eq_none (by omega), List.getElem?_eq_none (by simp; omega)]; rfl
      have hperm := hp.map (fun i => ps.getD i (0, 0))
      rw [hlen] at hperm
      rw [← e] at hperm
      exact hperm
    · rw [List.pairwise_iff_getElem]
      intro i j hi hj hij
      simp only [List.length_map, Array.length_toList] at hi hj
      have hs := hp.size
      have := ha i j hij (by omega)
      simp only [List.getElem_map, Array.getElem_toList]
      simpa [Array.getD, hi, hj] using this
end
end Mine

-- part C7
namespace Mine

section
variable {prog : Program} {w : World} {A : Around} {E : Value → Shared → Prop} {env : Env}

/-- for x, y in D, a list of pairs of ints -/
theorem forP (s : Shared) {h : Heap} {tk : Nat} {m : Str → Option Value} {x y : Str} {px py pt : Pos} {k0 : Nat} {body : List Stmt} {R : Result → Shared → Prop} {I D : Addr} {us : List Value} {qs : List T2} (hh : A.handled = none)
    (hit : h.IsListIter I D 0) (hD : h.PlainList D us.toArray) (hq : Are (IsT2 h) us qs) (Inv : Nat → Heap → (Str → Option Value) → Prop)
    (hn : h.Ns env.locals m) (h0 : Inv 0 h m)
    (step : ∀ i q h₁ m₁ h₂ tk tx ty, qs[i]? = some q → Inv i h₁ m₁ → h₁.Ns env.locals m₁ → h₁.IsListIter I D i →
      (∀ b o, b ≠ env.locals → b ≠ I → h₁.get? b = some o → h₂.get? b = some o) → TK h₁ h₂ → h₂.IsListIter I D (i + 1) → h₂.PlainList D us.toArray →
      h₂.Ns env.locals (fun z => if z = y then some (.int (q.2 : Nat) ty) else if z = x then some (.int q.1 tx) else m₁ z) →
      wpAny (model prog w) A (execs body env) (fun f s₃ => match f with
        | .next | .cont => ∃ h₃ tk₃ m₃, s₃ = { s with heap := h₃, toks := tk₃ } ∧ (∀ b, b = I ∨ b = D → ∀ o, h₂.get? b = some o → h₃.get? b = some o) ∧ TK h₂ h₃ ∧ h₃.Ns env.locals m₃ ∧ Inv (i + 1) h₃ m₃
        | .brk => R (.ok .next) s₃
        | .ret v => R (.ok (.ret v)) s₃) (fun _ _ => False) { s with heap := h₂, toks := tk })
    (done : ∀ h₁ m₁ h₂ tk, Inv qs.length h₁ m₁ → h₁.Ns env.locals m₁ → h₁.IsListIter I D qs.length → (∀ b o, b ≠ I → h₁.get? b = some o → h₂.get? b = some o) → h₂.Ns env.locals m₁ → R (.ok .next) { s with heap := h₂, toks := tk })
    (hk : env.scope.kind = .function := by rfl) (hlx : env.kindOf x = some .local := by rfl) (hly : env.kindOf y = some .local := by rfl) :
    codeAny (model prog w) A (.forLoop (.Tuple [.Name x px, .Name y py] k0 pt) (.ref I) body [] env) R { s with heap := h, toks := tk } := by
  have hlen := hq.length
  have ineL : ∀ {h : Heap} {i : Nat} {m : Str → Option Value}, h.IsListIter I D i → h.Ns env.locals m → I ≠ env.locals := fun {h i m} a b e => by
    obtain ⟨o, ho, hc, hd⟩ := a
    obtain ⟨o', es, ep, ho', hd', _⟩ := b
    rw [e, ho'] at ho; cases ho; rw [hd'] at hd; cases hd
  refine codeAny_forLoop_any (fun k s' => ∃ i h tk m, s' = { s with heap := h, toks := tk } ∧ i ≤ qs.length ∧ k = qs.length - i ∧ h.IsListIter I D i ∧ h.PlainList D us.toArray ∧ Are (IsT2 h) us qs ∧ h.Ns env.locals m ∧ Inv i h m) ?_ qs.length
    ⟨0, h, tk, m, rfl, Nat.zero_le _, rfl, hit, hD, hq, hn, h0⟩
  rintro k s' ⟨i, h, tk, m, rfl, hi, rfl, hit, hD, hq, hn, hI⟩
  have hDL : D ≠ env.locals := Heap_Ns_ne hn hD
  have hIL := ineL hit hn
  have hDI : D ≠ I := by
    intro e
    obtain ⟨o, ho, hc, hd⟩ := hit
    obtain ⟨n, ho'⟩ := hD
    rw [← e, ho'] at ho; cases ho; simp at hc
  by_cases hlt : i < qs.length
  · obtain ⟨v, hv, hqv⟩ := hq.get (i := i) (List.getElem?_eq_getElem hlt)
    refine wpAny_pyNext_list_item hit hD.isList (x := v) (by simpa using hv) fun h₁ hit₁ hs₁ => ?_
    have hD₁ : h₁.PlainList D us.toArray := hD.extBut hs₁.extBut hDI
    have hn₁ : h₁.Ns env.locals m := hn.sameBut hs₁ hIL.symm
    have tk₁ : TK h h₁ := fun b xs n e => hs₁.extBut b _ (fun q => listIter_not_tuple hit xs n (q ▸ e)) e
    obtain ⟨a, n, tx, ty, rfl, ho⟩ := hqv.tk tk₁
    refine wpAny_letOwnedTupleGo_listiter hit₁ ?_
    refine wpAny_assign_Tuple hh (items := #[.int (qs[i]).1 tx, .int ((qs[i]).2 : Nat) ty]) ⟨_, ho, rfl, n, rfl⟩ rfl rfl (fun h₂ he₂ => ?_)
    have k12 : Bs h₁ h₂ := fun b o e => he₂ b o (Nat.ne_of_lt (Heap.lt_size e)) e
    refine wpAny_assignInOrder_more (wpAny_assign_Name (stv s (hn₁.keeps k12) (fun h₃ tk₃ hn₃ hs₃ => ?_) hk hlx))
    refine wpAny_assignInOrder_more (wpAny_assign_Name (stv s hn₃ (fun h₄ tk₄ hn₄ hs₄ => ?_) hk hly))
    refine wpAny_assignInOrder_none ?_
    have k24 : ∀ b o, b ≠ env.locals → h₂.get? b = some o → h₄.get? b = some o := fun b o hb e => hs₄.extBut b o hb (hs₃.extBut b o hb e)
    have t24 : TK h₂ h₄ := (TK.ns (hn₁.keeps k12) hs₃).trans (TK.ns hn₃ hs₄)
    have tk₄' : TK h h₄ := (tk₁.trans (TK.bs k12)).trans t24
    have hit₄ : h₄.IsListIter I D (i + 1) := hit₁.at fun o e => k24 _ o hIL (k12 _ o e)
    have hD₄ : h₄.PlainList D us.toArray := hD₁.at fun o e => k24 _ o hDL (k12 _ o e)
    refine wpAny_mono (step i qs[i] h m h₄ tk₄ tx ty (List.getElem?_eq_getElem hlt) hI hn hit (fun b o hb hw e => k24 b o hb (k12 b o (hs₁.extBut b o hw e))) tk₄' hit₄ hD₄ hn₄) (fun f s₃ hf => ?_) fun _ _ x => x.elim
    have fin : (∃ h₃ tk₃ m₃, s₃ = { s with heap := h₃, toks := tk₃ } ∧ (∀ b, b = I ∨ b = D → ∀ o, h₄.get? b = some o → h₃.get? b = some o) ∧ TK h₄ h₃ ∧ h₃.Ns env.locals m₃ ∧ Inv (i + 1) h₃ m₃) →
        ∃ m', m' < qs.length - i ∧ ∃ i h tk m, s₃ = { s with heap := h, toks := tk } ∧ i ≤ qs.length ∧ m' = qs.length - i ∧ h.IsListIter I D i ∧ h.PlainList D us.toArray ∧ Are (IsT2 h) us qs ∧ h.Ns env.locals m ∧ Inv i h m := by
      rintro ⟨h₃, tk₃, m₃, rfl, hk₃, ht₃, hn₃, hI₃⟩
      exact ⟨qs.length - (i + 1), by omega, i + 1, h₃, tk₃, m₃, rfl, hlt, rfl, hit₄.at fun o e => hk₃ _ (.inl rfl) o e, hD₄.at fun o e => hk₃ _ (.inr rfl) o e, hq.imp fun v b x => x.tk (tk₄'.trans ht₃), hn₃, hI₃⟩
    cases f with
    | next => exact fin hf
    | cont => exact fin hf
    | brk => exact hf
    | ret v => exact hf
  · have hin : i = qs.length := by omega
    subst hin
    refine wpAny_pyNext_list_end hh hit hD.isList (by simp [hlen]) fun h₁ he₁ => ?_
    exact wpAny_execs_nil (done h m h₁ _ hI hn hit (fun b o hb e => he₁ b o hb e) (hn.at' fun o e => he₁ _ o hIL.symm e))

/-- a new tuple of three ints -/
theorem newT3 (s : Shared) {h : Heap} {tk : Nat} {t : T3} {x y z : Tok} {Q : Value → Shared → Prop}
    (c : ∀ v h' tk', Bs h h' → IsT3 h' v t → Q v { s with heap := h', toks := tk' }) :
    wpAny (model prog w) A (newTuple [.int t.1 x, .int t.2.1 y, .int t.2.2 z]) Q E { s with heap := h, toks := tk } :=
  wpAny_newObj_type (c _ _ _ (fun _ _ e => Heap.get?_push_of_some _ e) ⟨_, 0, x, y, z, rfl, Heap.get?_push_size _ rfl⟩) (by show (3 : Nat) ≤ _; rw [sizeLine_eq]; omega)
theorem newT2 (s : Shared) {h : Heap} {tk : Nat} {q : T2} {x y : Tok} {Q : Value → Shared → Prop}
    (c : ∀ v h' tk', Bs h h' → IsT2 h' v q → Q v { s with heap := h', toks := tk' }) :
    wpAny (model prog w) A (newTuple [.int q.1 x, .int (q.2 : Nat) y]) Q E { s with heap := h, toks := tk } :=
  wpAny_newObj_type (c _ _ _ (fun _ _ e => Heap.get?_push_of_some _ e) ⟨_, 0, x, y, rfl, Heap.get?_push_size _ rfl⟩) (by show (2 : Nat) ≤ _; rw [sizeLine_eq]; omega)
end

/-- the triples of the runs from the j-th on -/
def tripsFrom (ns : List Int) : Nat → List (List Nat) → List T3
  | _, [] => []
  | j, r :: rs => r.map (fun (o : Nat) => ((j : Int), ns.getD o 0, (o : Int))) ++ tripsFrom ns (j + 1) rs
theorem tripsFrom_append (ns : List Int) : ∀ (a b : List (List Nat)) (j : Nat), tripsFrom ns j (a ++ b) = tripsFrom ns j a ++ tripsFrom ns (j + a.length) b
  | [], b, j => rfl
  | r :: a, b, j => by
    show _ ++ tripsFrom ns (j + 1) (a ++ b) = (_ ++ tripsFrom ns (j + 1) a) ++ _
    rw [tripsFrom_append ns a b (j + 1), List.append_assoc, List.length_cons, show j + 1 + a.length = j + (a.length + 1) by omega]
theorem tripsFrom_lt (ns : List Int) : ∀ (a : List (List Nat)) (j : Nat) (t : T3), t ∈ tripsFrom ns j a → t.1 < ((j + a.length : Nat) : Int)
  | [], j, t, h => (nomatch h)
  | r :: a, j, t, h => by
    rcases List.mem_append.mp h with h | h
    · obtain ⟨o, _, rfl⟩ := List.mem_map.mp h
      show (j : Int) < _
      simp only [List.length_cons]; omega
    · have := tripsFrom_lt ns a (j + 1) t h
      simp only [List.length_cons]; omega

/-- the runs' places are the row's, each once -/
theorem runs_perm (ns : List Int) (k : Nat) : ∀ i, i ≤ ns.length - k → ((runsSt ns k i).1.flatten ++ (runsSt ns k i).2.1 ++ (runsSt ns k i).2.2).Perm (List.range (min k ns.length + i))
  | 0, _ => by show ([] ++ List.range (min k ns.length) ++ []).Perm _; simp
  | i + 1, hi => by
    have x := runs_perm ns k i (by omega)
    show ((runStep ns k (runsSt ns k i) (k + i)).1.flatten ++ (runStep ns k (runsSt ns k i) (k + i)).2.1 ++ (runStep ns k (runsSt ns k i) (k + i)).2.2).Perm _
    generalize runsSt ns k i = st at x ⊢
    obtain ⟨rs, run, wait⟩ := st
    have hm : min k ns.length = k := by omega
    rw [hm] at x ⊢
    rw [show k + (i + 1) = (k + i) + 1 by omega, List.range_succ]
    have y : (rs.flatten ++ run ++ wait ++ [k + i]).Perm (List.range (k + i) ++ [k + i]) := x.append_right _
    refine List.Perm.trans ?_ y
    unfold runStep
    dsimp only
    by_cases hc : gtC ns run (k + i) + wait.length < k
    · simp only [hc, if_true]
      have z : (rs.flatten ++ (run ++ [k + i]) ++ wait).Perm (rs.flatten ++ run ++ wait ++ [k + i]) := by
        simp only [List.append_assoc]
        exact (List.perm_append_comm.append_left _).append_left _
      split
      · simpa [List.flatten_append] using z
      · exact z
    · simp only [hc, if_false]
      split
      · simp [List.flatten_append]
      · simp

theorem runsF_perm (ns : List Int) (k : Nat) : (runsF ns k).flatten.Perm (List.range ns.length) := by
  have x := runs_perm ns k (ns.length - k) (Nat.le_refl _)
  rw [show min k ns.length + (ns.length - k) = ns.length by omega] at x
  unfold runsF
  dsimp only
  split <;> rename_i h
  · rw [h] at x; simpa [List.flatten_append] using x
  · simpa [List.flatten_append] using x
theorem mem_flatten_nodup {rs : List (List Nat)} {r : List Nat} (h : rs.flatten.Nodup) (hr : r ∈ rs) : r.Nodup := List.Pairwise.sublist (List.sublist_flatten_of_mem hr) h
theorem runsF_ok (ns : List Int) (k : Nat) {r : List Nat} (hr : r ∈ runsF ns k) : r.Nodup ∧ r.length ≤ ns.length ∧ ∀ o ∈ r, o < ns.length := by
  have x := runsF_perm ns k
  have nd : (runsF ns k).flatten.Nodup := x.nodup_iff.mpr List.nodup_range
  refine ⟨mem_flatten_nodup nd hr, ?_, fun o ho => ?_⟩
  · have : r.Sublist (runsF ns k).flatten := List.sublist_flatten_of_mem hr
    have h1 := this.length_le
    have h2 := x.length_eq
    rw [List.length_range] at h2
    omega
  · exact List.mem_range.mp (x.mem_iff.mp (List.mem_flatten.mpr ⟨r, hr, ho⟩))

theorem tlt_iff {a b : T3} : tlt a b = true ↔ (a.1 < b.1 ∨ (a.1 = b.1 ∧ (a.2.1 < b.2.1 ∨ (a.2.1 = b.2.1 ∧ a.2.2 < b.2.2)))) := by
  unfold tlt
  by_cases h1 : a.1 = b.1
  · rw [if_pos h1]
    by_cases h2 : a.2.1 = b.2.1
    · rw [if_pos h2, decide_eq_true_iff]; omega
    · rw [if_neg h2, decide_eq_true_iff]; omega
  · rw [if_neg h1, decide_eq_true_iff]; omega
def addRun (i : Nat) (q : T2) : T3 := ((i : Int), q.1, (q.2 : Int))
theorem tlt_addRun {i : Nat} {a b : T2} (h : plt a b = true) : tlt (addRun i a) (addRun i b) = true := by
  rw [plt_iff] at h
  rw [tlt_iff]
  show (i : Int) < (i : Int) ∨ ((i : Int) = (i : Int) ∧ (a.1 < b.1 ∨ (a.1 = b.1 ∧ (a.2 : Int) < (b.2 : Int))))
  omega
theorem due_step {ns : List Int} {rs : List (List Nat)} {i : Nat} {r : List Nat} {ts : List T3} {qs : List T2} (hi : rs[i]? = some r) (hp : ts.Perm (tripsFrom ns 0 (rs.take i))) (hw : ts.Pairwise (fun a b => tlt a b = true))
    (hq : qs.Perm (r.map fun o => (ns.getD o 0, o))) (hqw : qs.Pairwise (fun a b => plt a b = true)) :
    (ts ++ qs.map (addRun i)).Perm (tripsFrom ns 0 (rs.take (i + 1))) ∧ (ts ++ qs.map (addRun i)).Pairwise (fun a b => tlt a b = true) := by
  have hlt : i < rs.length := by
    rcases Nat.lt_or_ge i rs.length with h' | h'
    · exact h'
    · rw [List.getElem?_eq_none h'] at hi; cases hi
  have htl : (rs.take i).length = i := by rw [List.length_take]; omega
  constructor
  · rw [List.take_add_one, hi]
    show List.Perm _ (tripsFrom ns 0 (rs.take i ++ [r]))
    rw [tripsFrom_append, htl, Nat.zero_add]
    refine hp.append ?_
    have := hq.map (addRun i)
    rw [List.map_map] at this
    show List.Perm _ (_ ++ [])
    rw [List.append_nil]
    exact this
  · rw [List.pairwise_append]
    refine ⟨hw, ?_, fun a ha b hb => ?_⟩
    · rw [List.pairwise_map]
      exact hqw.imp tlt_addRun
    · have h1 := tripsFrom_lt ns _ 0 a (hp.mem_iff.mp ha)
      rw [htl, Nat.zero_add] at h1
      obtain ⟨q, _, rfl⟩ := List.mem_map.mp hb
      rw [tlt_iff]
      exact .inl h1

/-- the state of _law_due between its statements -/
structure DSt (hb : Heap) (L lr aD aR : Addr) (as : List Addr) (rs : List (List Nat)) (h : Heap) (m : Str → Option Value) (dvs : List Value) (ts : List T3) : Prop where
  ns : h.Ns L m
  bs : Bs hb h
  cell : h.IsCell (L + 1) (some (.ref lr))
  m1 : m "due" = some (.ref aD)
  m2 : m "runs" = some (.ref aR)
  hR : h.PlainList aR (as.map Value.ref).toArray
  hI : InnerL h as rs
  hD : h.PlainList aD dvs.toArray
  hT : T3s (IsT3 h) dvs ts

structure DFix (hb : Heap) (L aD aR : Addr) (as : List Addr) : Prop where
  nL : hb.get? L = none
  nD : hb.get? aD = none
  d1 : aD ≠ aR
  d2 : aD ∉ as

theorem InnerL.list {h : Heap} {as : List Addr} {rs : List (List Nat)} (x : InnerL h as rs) {a : Addr} (ha : a ∈ as) : ∃ vs, h.PlainList a (List.toArray vs) := by
  obtain ⟨j, hj⟩ := List.mem_iff_getElem?.mp ha
  have hlt : j < rs.length := by
    rw [← x.1]
    rcases Nat.lt_or_ge j as.length with h' | h'
    · exact h'
    · rw [List.getElem?_eq_none h'] at hj; cases hj
  obtain ⟨vs, hvs, _⟩ := x.2 j a _ hj (List.getElem?_eq_getElem hlt)
  exact ⟨vs, hvs⟩

section
variable {hb : Heap} {L lr aD aR : Addr} {as : List Addr} {rs : List (List Nat)} {h h' : Heap} {m m' : Str → Option Value} {dvs : List Value} {ts : List T3}
theorem DSt.keep (x : DSt hb L lr aD aR as rs h m dvs ts) (k : Bs h h') : DSt hb L lr aD aR as rs h' m dvs ts where
  ns := x.ns.keeps k
  bs := fun b o e => k b o (x.bs b o e)
  cell := x.cell.keeps k
  m1 := x.m1
  m2 := x.m2
  hR := x.hR.at fun o e => k _ o e
  hI := x.hI.at fun _ _ o e => k _ o e
  hD := x.hD.at fun o e => k _ o e
  hT := x.hT.imp fun _ _ y => IsT3_tk y (TK.bs k)
/-- the frame's names and things that the state does not tell of are changed -/
theorem DSt.other (x : DSt hb L lr aD aR as rs h m dvs ts) (f : DFix hb L aD aR as) {X : List Addr} (k : ∀ b o, b ≠ L → b ∉ X → h.get? b = some o → h'.get? b = some o) (tk : TK h h') (hn : h'.Ns L m') (e1 : m' "due" = m "due") (e2 : m' "runs" = m "runs")
    (hX : ∀ y ∈ X, hb.get? y = none ∧ y ≠ L + 1 ∧ ∀ its, ¬ h.PlainList y its) : DSt hb L lr aD aR as rs h' m' dvs ts := by
  have up : ∀ {a its}, h.PlainList a its → ∀ o, h.get? a = some o → h'.get? a = some o := fun {a its} hp o e => k _ o (Heap_Ns_ne x.ns hp) (fun q => (hX a q).2.2 its hp) e
  exact {
    ns := hn
    bs := fun b o e => k b o (fun q => by rw [q, f.nL] at e; cases e) (fun q => by rw [(hX b q).1] at e; cases e) (x.bs b o e)
    cell := let ⟨o, ho, hd⟩ := x.cell; ⟨o, k _ o (IsCell_ne_ns x.cell x.ns) (fun q => (hX _ q).2.1 rfl) ho, hd⟩
    m1 := e1.trans x.m1
    m2 := e2.trans x.m2
    hR := x.hR.at (up x.hR)
    hI := x.hI.at fun a ha => let ⟨_, hp⟩ := x.hI.list ha; up hp
    hD := x.hD.at (up x.hD)
    hT := x.hT.imp fun _ _ y => IsT3_tk y tk }
/-- due grows -/
theorem DSt.grow (x : DSt hb L lr aD aR as rs h m dvs ts) (f : DFix hb L aD aR as) (k : Heap.SameBut aD h h') {dvs' : List Value} {ts' : List T3} (hD : h'.PlainList aD dvs'.toArray) (hT : T3s (IsT3 h') dvs' ts') : DSt hb L lr aD aR as rs h' m dvs' ts' where
  ns := x.ns.sameBut k (Heap_Ns_ne x.ns x.hD).symm
  bs := fun b o e => k.extBut b o (fun q => by rw [q, f.nD] at e; cases e) (x.bs b o e)
  cell := x.cell.sameBut k (IsCell_ne_list x.cell x.hD)
  m1 := x.m1
  m2 := x.m2
  hR := x.hR.at fun o e => k.extBut _ o f.d1.symm e
  hI := x.hI.at fun a ha o e => k.extBut _ o (fun q => f.d2 (q ▸ ha)) e
  hD := hD
  hT := hT
theorem T3s.snoc {R : Value → T3 → Prop} {vs : List Value} {ts : List T3} {v : Value} {t : T3} (x : T3s R vs ts) (y : R v t) : T3s R (vs ++ [v]) (ts ++ [t]) := by
  refine ⟨by simp [x.1], fun i u hu => ?_⟩
  rcases Nat.lt_trichotomy i vs.length with hi | hi | hi
  · rw [List.getElem?_append_left hi] at hu
    rw [List.getD_eq_getElem?_getD, List.getElem?_append_left (by rw [← x.1]; exact hi), ← List.getD_eq_getElem?_getD]
    exact x.2 i u hu
  · subst hi
    rw [List.getElem?_append_right (Nat.le_refl _)] at hu
    rw [List.getD_eq_getElem?_getD, x.1, List.getElem?_append_right (Nat.le_refl _)]
    simp at hu ⊢
    rw [← hu]; exact y
  · rw [List.getElem?_eq_none (by simp; omega)] at hu
    cases hu
end

section
variable {prog : Program} {w : World} {A : Around} {E : Value → Shared → Prop} {s : Shared} {h₀ : Heap} {F : Fns} {mg mb : Str → Option Value}
set_option maxHeartbeats 4000000 in
theorem due_spec (P : PW h₀ F mg mb) (B : Bs h₀ s.heap) {lr : Addr} {rvs : List Value} {ns : List Int} {k : Nat} {t : Tok} {Q : Value → Shared → Prop}
    (hh : A.handled = none) (hroom : A.depth + 4 < recursionLimit) (hu : A.units + 64 < cLine) (hl : s.heap.PlainList lr rvs.toArray) (hr : IntsAre rvs ns)
    (hsz : ns.length < 64) (hk1 : 1 ≤ k) (hk2 : k < 64)
    (c : ∀ h' tk aD dvs ts, Bs s.heap h' → h'.PlainList aD (List.toArray dvs) → T3s (IsT3 h') dvs ts → ts.Perm (tripsFrom ns 0 (runsF ns k)) → ts.Pairwise (fun a b => tlt a b = true) → Q (.ref aD) { s with heap := h', toks := tk }) :
    wpAny (model prog w) A (call (.ref F.due) [.ref lr, .int k t]) Q E s := by
  refine enterC (binds := [("row", .ref lr), ("room", .int k t)]) P.fdue B P.nolimit (by omega) (fun _ _ _ _ _ => rfl) ?_ (fun L cdv h₁ tk hL hns hk hcell => ?_)
  · intro x hx
    simp only [List.mem_cons, List.not_mem_nil, or_false] at hx
    rcases hx with rfl | rfl
    · exact .inr ⟨rfl, rfl⟩
    · exact .inl rfl
  obtain ⟨hcR, hcR0⟩ := hcell "row" (L + 1) rfl
  have hcR : h₁.IsCell (L + 1) (some (.ref lr)) := hcR
  clear hcell
  have m0 : bindL (envC 10 L F.due cdv).kindOf [(Str.ofString "row", Value.ref lr), (Str.ofString "room", Value.int (↑k) t)] (fun _ => none) "room" = some (.int k t) := rfl
  generalize bindL (envC 10 L F.due cdv).kindOf [(Str.ofString "row", Value.ref lr), (Str.ofString "room", Value.int (↑k) t)] (fun _ => none) = m₁ at hns m0
  have hrl : rvs.length = ns.length := hr.length
  -- due = []
  refine wpAny_execs_cons (wpAny_Assign_Name (newNil s (fun aD h₂ _ hk₂ hfD hD₂ => stv s (hns.keeps hk₂) (fun h₃ _ hn₃ hs₃ => ?_))))
  have hneD : aD ≠ L := Heap_Ns_ne (hns.keeps hk₂) hD₂
  have up₃ : ∀ b o, b ≠ L → h₁.get? b = some o → h₃.get? b = some o := fun b o hb e => hs₃.extBut b o hb (hk₂ b o e)
  have bs₃ : Bs s.heap h₃ := fun b o e => up₃ b o (fun q => by rw [q, hL] at e; cases e) (hk b o e)
  have B₃ : Bs h₀ h₃ := fun b o e => bs₃ b o (B b o e)
  have hc₃ : h₃.IsCell (L + 1) (some (.ref lr)) := let ⟨o, ho, hd⟩ := hcR; ⟨o, up₃ _ o (IsCell_ne_ns hcR hns) ho, hd⟩
  have hD₃ : h₃.PlainList aD ([] : List Value).toArray := hD₂.extBut hs₃.extBut hneD
  have hl₃ : h₃.PlainList lr rvs.toArray := hl.at fun o e => bs₃ _ o e
  have nD : s.heap.get? aD = none := by
    cases q : s.heap.get? aD with
    | none => rfl
    | some o => have := hk _ _ q; rw [hfD] at this; cases this
  -- runs = _law_runs(row, room)
  refine wpAny_execs_cons (wpAny_Assign_Name (callDef P.fruns (P.g.keeps B₃) P.gruns (args_cons (ldc hc₃ (args_cons (ldv hn₃ (lkn m0) (args_nil ⟨B₃, ?_⟩)))))))
  refine runs_spec P B₃ (show A.handled = none from hh) (by show A.depth + 1 + 2 < _; omega) (by show A.units + 3 + 32 < _; omega) hl₃ hr (by omega) hk1 (by omega) (fun h₄ tk₄ aR as hk₄ hfR hfa hR₄ hI₄ => ?_)
  have fx : DFix s.heap L aD aR as := by
    obtain ⟨n, ho⟩ := id hD₃
    exact ⟨hL, nD, (fun q => by rw [q] at ho; exact absurd (hfR.symm.trans ho) (by simp)), (fun q => absurd ((hfa _ q).symm.trans ho) (by simp))⟩
  refine stv s (hn₃.keeps hk₄) (fun h₅ _ hn₅ hs₅ => ?_)
  have st₀ : ∃ m, DSt s.heap L lr aD aR as (runsF ns k) h₅ m [] [] := by
    have up : ∀ b o, b ≠ L → h₄.get? b = some o → h₅.get? b = some o := fun b o hb e => hs₅.extBut b o hb e
    have nl : ∀ {a its}, h₄.PlainList a its → a ≠ L := fun {a its} hp => Heap_Ns_ne (hn₃.keeps hk₄) hp
    have hD₄ : h₄.PlainList aD ([] : List Value).toArray := hD₃.at fun o e => hk₄ _ o e
    exact ⟨_, {
      ns := hn₅
      bs := fun b o e => up b o (fun q => by rw [q, hL] at e; cases e) (hk₄ b o (bs₃ b o e))
      cell := let ⟨o, ho, hd⟩ := hc₃; ⟨o, up _ o (IsCell_ne_ns hcR hns) (hk₄ _ o ho), hd⟩
      m1 := lkn lke
      m2 := lke
      hR := hR₄.at fun o e => up _ o (nl hR₄) e
      hI := hI₄.at fun a ha o e => let ⟨_, hp⟩ := hI₄.list ha; up _ o (nl hp) e
      hD := hD₄.at fun o e => up _ o (nl hD₄) e
      hT := ⟨rfl, fun i v hv => by simp at hv⟩ }⟩
  obtain ⟨m₅, st₀⟩ := st₀
  have hrs : (runsF ns k).length ≤ ns.length + 2 := by
    have ok := runsOk ns k (ns.length - k) (Nat.le_refl _)
    have := ok.r
    unfold runsF
    dsimp only
    split <;> simp <;> omega
  have has : as.length = (runsF ns k).length := st₀.hI.1
  have B₅ : Bs h₀ h₅ := fun b o e => st₀.bs b o (B b o e)
  -- for run in range(len(runs))
  refine wpAny_execs_cons (wpAny_For (wpAny_Call_NameR (ldb (P.g.keeps B₅) P.grange (P.b.keeps B₅) P.brange ?_)))
  refine PyProof.Rows.callWith_type1 (args_cons ?_)
  refine callLen s (P.g.keeps B₅) P.glen (P.b.keeps B₅) P.blen st₀.ns st₀.m2 st₀.hR (by rw [List.length_map]; omega) (fun te _ => args_nil ?_)
  rw [List.length_map, has]
  refine callRange1 s (fun r ha _ hra hka hRa => ?_)
  obtain ⟨_, _, _, hRa⟩ := hRa
  refine iterRange s hRa (by omega) (by omega) (by omega) (by omega) (fun I hb _ hI hkb hit => ?_)
  rw [show (((runsF ns k).length : Int) - 0).toNat = (runsF ns k).length by omega] at hit
  have k5b : Bs h₅ hb := fun b o e => hkb b o (hka b o e)
  have hI5 : h₅.get? I = none := by
    cases q : h₅.get? I with
    | none => rfl
    | some o => have := hka _ _ q; rw [hI] at this; cases this
  have hIs : s.heap.get? I = none := by
    cases q : s.heap.get? I with
    | none => rfl
    | some o => have := st₀.bs _ _ q; rw [hI5] at this; cases this
  have hIne : ∀ {a o}, h₅.get? a = some o → a ≠ I := fun {a o} e q => by rw [q, hI5] at e; cases e
  have hIL : L ≠ I := by obtain ⟨o, _, _, ho, _⟩ := st₀.ns; exact hIne ho
  have hIR : L + 1 ≠ I := by obtain ⟨o, ho, _⟩ := st₀.cell; exact hIne ho
  have W := Walks.range (prog := prog) (w := w) (A := A.deeper (envC 10 L F.due cdv)) (show A.handled = none from hh) I 0 1 (runsF ns k).length
  refine forW s W (by simpa using hIL) (fun i h m => ∃ dvs ts, DSt s.heap L lr aD aR as (runsF ns k) h m dvs ts ∧ ts.length ≤ 64 * i ∧ ts.Perm (tripsFrom ns 0 ((runsF ns k).take i)) ∧ ts.Pairwise (fun a b => tlt a b = true)) hit (st₀.ns.keeps k5b) ⟨[], [], st₀.keep k5b, Nat.zero_le _, List.Perm.refl _, .nil⟩ ?_ ?_
  · rintro i v hc m hd tkd hi ⟨tp, rfl⟩ ⟨dvs, ts, x, hdl, hperm, hpw⟩ hst hnc hkd hstd hnd
    have hIc : ∀ its, ¬ hc.PlainList I its := fun its q => by
      obtain ⟨n, q⟩ := q
      have hst : hc.get? I = _ := hst
      rw [q] at hst
      simp at hst
    have tkcd : TK hc hd := fun b xs n e => hkd b _ (fun q => by
        obtain ⟨o, es, ep, ho, hd', _⟩ := hnc
        rw [q] at e
        rw [e] at ho; cases ho; cases hd') (fun q => by
        rw [List.mem_singleton.mp q] at e
        have hst : hc.get? I = _ := hst
        rw [e] at hst
        simp at hst) e
    have x₁ := x.other fx (X := [I]) hkd tkcd hnd (lkn rfl) (lkn rfl) (fun y hy => by
      rw [List.mem_singleton.mp hy]; exact ⟨hIs, hIR.symm, hIc⟩)
    have e0 : (0 : Int) + (i : Int) * 1 = ((i : Nat) : Int) := by omega
    have mrun : (fun y => if y = Str.ofString "run" then some (Value.int ((0 : Int) + (i : Int) * 1) tp) else m y) "run" = some (.int ((i : Nat) : Int) tp) := by rw [e0]; exact lke
    generalize (fun y => if y = Str.ofString "run" then some (Value.int ((0 : Int) + (i : Int) * 1) tp) else m y) = m₁' at hnd x₁ mrun
    clear x
    have hlt : i < (runsF ns k).length := hi
    obtain ⟨r, hri⟩ : ∃ r, (runsF ns k)[i]? = some r := ⟨_, List.getElem?_eq_getElem hlt⟩
    obtain ⟨a, hai⟩ : ∃ a, as[i]? = some a := ⟨_, List.getElem?_eq_getElem (by omega)⟩
    obtain ⟨hrnd, hrl', hrb⟩ := runsF_ok ns k (List.mem_of_getElem? hri)
    obtain ⟨vr, hvr, hir⟩ := x₁.hI.2 i a r hai hri
    have hvl : vr.length = r.length := by rw [hir.length, List.length_map]
    have B₁ : Bs h₀ hd := fun b o e => x₁.bs b o (B b o e)
    have hld : hd.PlainList lr rvs.toArray := hl.at fun o e => x₁.bs _ o e
    -- for number, place in sorted([(row[one], one) for one in runs[run]])
    refine wpAny_execs_cons (wpAny_For (wpAny_Call_NameR (ldb (P.g.keeps B₁) P.gsorted (P.b.keeps B₁) P.bsorted ?_)))
    refine PyProof.Rows.callWith_builtin1 (args_cons (listComp s rfl (by decide) (by decide) (Subscript_ (ldv x₁.ns x₁.m2 (ldv x₁.ns mrun (itemN x₁.hR (by omega) (by rw [List.getElem?_map, hai]; rfl) (iterList s hvr.isList (fun I' he _ hI' hke hite hlt' => ?_))))))))
    have hneI : a ≠ I' := by obtain ⟨n, ho⟩ := hvr; exact fun q => by rw [q, hI'] at ho; cases ho
    have W' := Walks.list (prog := prog) (w := w) (A := A.deeper (envC 10 L F.due cdv)) (show A.handled = none from hh) I' a hneI vr.toArray
    refine ⟨he, _, I', [I', a], [I'], _, _, _, fun j ys h => Are (IsT2 h) ys ((r.take j).map (fun o => (ns.getD o 0, o))), rfl, rfl, W',
      by rw [List.size_toArray, sizeLine_eq]; omega, fun _ _ _ _ g tk => g.imp fun _ _ y => y.tk tk, fun j h st b hb xs q => ?_, ⟨hite, hvr.isList.at fun o e => hke _ o e⟩, fun b hb => ?_, trivial, ?_, ?_⟩
    · rw [List.mem_singleton.mp hb]; exact listIter_not_tuple st.1 xs q
    · rcases List.mem_cons.mp hb with rfl | hb
      · exact hlt'
      · rw [List.mem_singleton.mp hb]; obtain ⟨n, ho⟩ := hvr; exact Heap.lt_size (hke _ _ ho)
    · -- a turn of the comprehension
      rintro C j v ys hf mf tkf hC hj hP hG hnf hvf hkf
      have hP : vr[j]? = some v := by simpa using hP
      obtain ⟨p, tq, hpj, rfl⟩ := IntsAre_getN hir hP
      have hp : p < ns.length := hrb p (List.mem_of_getElem? hpj)
      have upf : ∀ b o, hd.get? b = some o → hf.get? b = some o := fun b o e => hkf b o (fun q => by rw [List.mem_singleton.mp q, hI'] at e; cases e) (hke b o e)
      have hrowf : hf.IsCell (L + 1) (some (.ref lr)) := x₁.cell.keeps upf
      have hlf : hf.PlainList lr rvs.toArray := hld.at fun o e => upf _ o e
      obtain ⟨u2, hv2⟩ : ∃ u, rvs[p]? = some (.int (ns.getD p 0) u) := hr.get p _ (by rw [List.getD_eq_getElem?_getD, List.getElem?_eq_getElem hp]; rfl)
      rw [List.forIn_nil]
      refine wpAny_pure ⟨hf, _, rfl, fun _ _ e => e, ?_⟩
      rw [if_pos rfl]
      refine Tuple_ (args_cons (Subscript_ (ldc hrowf (ldv hnf hvf (itemN hlf (by omega) hv2 (args_cons (ldv hnf hvf (args_nil (newT2 s (q := (ns.getD p 0, p)) (fun v' hg tkg hkg hvt => ?_)))))))))) 
      refine ⟨hg, tkg, rfl, hkg, ?_⟩
      dsimp only
      rw [List.take_add_one, hpj, List.map_append]
      exact (hG.imp fun _ _ y => y.tk (TK.bs hkg)).append ⟨hvt, trivial⟩
    · -- behind the comprehension
      intro D hf tkf ys hD hDl hG hkf
      have upf : Bs hd hf := fun b o e => hkf b o (fun q => by rw [List.mem_singleton.mp q, hI'] at e; cases e) (hke b o e)
      rw [List.size_toArray, hvl, List.take_length] at hG
      refine args_nil (sortedPairs (s := { s with heap := hf, toks := tkf }) hDl hG ?_ (by rw [List.length_map]; omega) (fun D' hg us qs hD' hkg hus hqs hqp hqw => ?_))
      · exact List.Pairwise.map _ (fun a b hab e => hab (congrArg Prod.snd e)) hrnd
      have hus' : Are (IsT2 hg) us qs := hqs.imp fun _ _ y => y.tk (TK.bs hkg)
      refine iterList s hus.isList (fun J hj tkj hJ hkj hitj hltj => ?_)
      have kdj : Bs hd hj := fun b o e => hkj b o (hkg b o (upf b o e))
      have x₂ := x₁.keep kdj
      have hIJ : I ≠ J := fun q => by
        have hst : hd.get? I = _ := hstd
        have := hkg _ _ (upf _ _ hst)
        rw [q, hJ] at this; cases this
      have hJs : s.heap.get? J = none := by
        cases q : s.heap.get? J with
        | none => rfl
        | some o => have := hkg _ _ (upf _ _ (x₁.bs _ _ q)); rw [hJ] at this; cases this
      have hD'ne : ∀ {a its}, hd.PlainList a its → a ≠ D' := fun {a its} hp q => by
        obtain ⟨n, hp⟩ := hp
        have := upf _ _ hp
        rw [q] at this
        exact absurd (hD'.symm.trans this) (by simp)
      refine forP s (show A.handled = none from hh) hitj (hus.at fun o e => hkj _ o e) (hus'.imp fun _ _ y => y.tk (TK.bs hkj))
        (fun j h m => ∃ dvs', DSt s.heap L lr aD aR as (runsF ns k) h m dvs' (ts ++ (qs.take j).map (addRun i)) ∧ m "run" = some (.int ((i : Nat) : Int) tp) ∧ ∀ o, hd.get? I = some o → h.get? I = some o)
        x₂.ns ⟨dvs, by simpa using x₂, mrun, fun o e => kdj _ o e⟩ ?_ ?_
      · rintro j q hl₁ ml₁ hl₂ tkl tx ty hqj ⟨dvs', y, mr, hIy⟩ hnl hitl₁ hkl htl hitl hDl' hnl₂
        have hJR : J ≠ L + 1 := fun e => by
          obtain ⟨o, ho, _⟩ := x₁.cell
          have := hkg _ _ (upf _ _ ho)
          rw [← e, hJ] at this; cases this
        have y₂ := y.other fx (X := [J]) (fun b o hb hX e => hkl b o hb (by simpa using hX) e) htl hnl₂ (lkn (lkn rfl)) (lkn (lkn rfl)) (fun z hz => by
          rw [List.mem_singleton.mp hz]
          refine ⟨hJs, hJR, fun its q => ?_⟩
          obtain ⟨o, ho, hc, _⟩ := hitl₁
          obtain ⟨n, q⟩ := q
          rw [q] at ho; cases ho; simp at hc)
        have mr₂ : (fun z => if z = Str.ofString "place" then some (Value.int (q.2 : Nat) ty) else if z = Str.ofString "number" then some (Value.int q.1 tx) else ml₁ z) "run" = some (.int ((i : Nat) : Int) tp) := lkn (lkn mr)
        have hqlt : j < qs.length := by
          rcases Nat.lt_or_ge j qs.length with h' | h'
          · exact h'
          · rw [List.getElem?_eq_none h'] at hqj; cases hqj
        have hqlen : qs.length = r.length := by rw [hqp.length_eq, List.length_map]
        have hJL : J ≠ L := fun e => by
          obtain ⟨o, ho, hc, hd'⟩ := hitl₁
          obtain ⟨o', es, ep, ho', hd'', _⟩ := hnl
          rw [e] at ho
          rw [show (envC 10 L F.due cdv).locals = L from rfl, ho] at ho'
          cases ho'; rw [hd'] at hd''; cases hd''
        have hIl₂ : ∀ o, hd.get? I = some o → hl₂.get? I = some o := fun o e => hkl _ o hIL.symm hIJ (hIy o e)
        refine wpAny_execs_cons (stmtAppend (ldv y₂.ns y₂.m1 ⟨aD, _, rfl, y₂.hD, ?_⟩))
        refine Tuple_ (args_cons (ldv y₂.ns mr₂ (args_cons (ldv y₂.ns (lkn lke) (args_cons (ldv y₂.ns lke (args_nil ?_)))))))
        refine newT3 s (t := addRun i q) (fun v hm tkm hkm hvt => ?_)
        have y₃ := y₂.keep hkm
        have hdl' : dvs'.length < 2 ^ 20 := by
          have := y₃.hT.1
          rw [this, List.length_append, List.length_map, List.length_take]
          omega
        refine appendL s y₃.hD hdl' (fun hp tkp hDp hsp => ⟨rfl, ?_⟩)
        have tkmp : TK hm hp := TK.list y₃.hD fun b o hb e => hsp.extBut b o hb e
        have y₄ := y₃.grow fx hsp hDp ((y₃.hT.snoc hvt).imp fun _ _ z => IsT3_tk z tkmp)
        refine wpAny_execs_nil ⟨hp, _, _, rfl, fun b hb o e => ?_, (TK.bs hkm).trans tkmp, y₄.ns, dvs' ++ [v], ?_, mr₂, fun o e => ?_⟩
        · refine hsp.extBut b o (fun e' => ?_) (hkm b o e)
          rcases hb with rfl | rfl
          · obtain ⟨o', ho, hc, _⟩ := hitl
            obtain ⟨n, q⟩ := y₂.hD
            rw [e', q] at ho; cases ho; simp at hc
          · exact hD'ne x₁.hD e'.symm
        · rw [List.take_add_one, hqj, List.map_append, ← List.append_assoc]
          exact y₄
        · refine hsp.extBut _ o (fun e' => ?_) (hkm _ o (hIl₂ o e))
          have hst : hd.get? I = _ := hstd
          have hst' := hIl₂ _ hst
          obtain ⟨n, q⟩ := y₂.hD
          rw [e', q] at hst'; simp at hst'
      · rintro hl₁ ml₁ hl₂ tkl ⟨dvs', y, mr, hIy⟩ hnl hitl₁ hkl hnl₂
        have hJR : J ≠ L + 1 := fun e => by
          obtain ⟨o, ho, _⟩ := x₁.cell
          have := hkg _ _ (upf _ _ ho)
          rw [← e, hJ] at this; cases this
        have htl : TK hl₁ hl₂ := fun b xs n e => hkl b _ (fun q => listIter_not_tuple hitl₁ xs n (q ▸ e)) e
        have y₂ := y.other fx (X := [J]) (fun b o hb hX e => hkl b o (by simpa using hX) e) htl hnl₂ rfl rfl (fun z hz => by
          rw [List.mem_singleton.mp hz]
          refine ⟨hJs, hJR, fun its q => ?_⟩
          obtain ⟨o, ho, hc, _⟩ := hitl₁
          obtain ⟨n, q⟩ := q
          rw [q] at ho; cases ho; simp at hc)
        rw [List.take_length] at y₂
        obtain ⟨s1, s2⟩ := due_step hri hperm hpw hqp hqw
        have hqlen : qs.length = r.length := by rw [hqp.length_eq, List.length_map]
        refine wpAny_execs_nil ⟨hl₂, _, ml₁, rfl, fun b hb o e => ?_, hnl₂, dvs', _, y₂, ?_, s1, s2⟩
        · rw [List.mem_singleton.mp hb] at e ⊢
          exact hkl _ o hIJ (hIy o e)
        · rw [List.length_append, List.length_map]; omega
  · rintro hc m hd tkd ⟨dvs, ts, x, hdl, hperm, hpw⟩ hst hnc hkd hnd
    rw [List.take_length] at hperm
    have htl : TK hc hd := fun b xs n e => hkd b _ (fun q => by
      rw [List.mem_singleton.mp q] at e
      have hst : hc.get? I = _ := hst
      rw [e] at hst
      simp at hst) e
    have x₂ := x.other fx (X := [I]) (fun b o hb hX e => hkd b o hX e) htl hnd rfl rfl (fun z hz => by
      rw [List.mem_singleton.mp hz]
      refine ⟨hIs, hIR.symm, fun its q => ?_⟩
      obtain ⟨n, q⟩ := q
      have hst : hc.get? I = _ := hst
      rw [q] at hst
      simp at hst)
    exact wpAny_execs_cons (wpAny_Return_some (ldv x₂.ns x₂.m1 (c hd _ aD dvs ts x₂.bs x₂.hD x₂.hT hperm hpw)))
end
end Mine

-- part D1
namespace Mine

theorem tlt_asym {a b : T3} (h : tlt a b = true) : tlt b a = false := by
  cases k : tlt b a with
  | false => rfl
  | true => rw [tlt_iff] at h k; omega
theorem tlt_trans {a b c : T3} (h : tlt a b = true) (k : tlt b c = true) : tlt a c = true := by
  rw [tlt_iff] at *; omega
theorem tge_iff {a b : T3} : tlt a b = false ↔ ¬ (a.1 < b.1 ∨ (a.1 = b.1 ∧ (a.2.1 < b.2.1 ∨ (a.2.1 = b.2.1 ∧ a.2.2 < b.2.2)))) := by
  rw [← tlt_iff]; simp
theorem tge_trans {a b c : T3} (h : tlt a b = false) (k : tlt b c = false) : tlt a c = false := by
  rw [tge_iff] at *; omega
theorem tlt_of_lt_ge {a b c : T3} (h : tlt a b = true) (k : tlt c b = false) : tlt c a = false := by
  rw [tge_iff] at *; rw [tlt_iff] at h; omega
theorem tlt_tot {a b : T3} (hne : a ≠ b) (h : tlt a b = false) : tlt b a = true := by
  rw [tlt_iff]
  rw [tge_iff] at h
  have : ¬ (a.1 = b.1 ∧ a.2.1 = b.2.1 ∧ a.2.2 = b.2.2) := fun q => hne (Prod.ext q.1 (Prod.ext q.2.1 q.2.2))
  omega

theorem getD_set_self {ts : List T3} {i : Nat} {t : T3} (h : i < ts.length) : (ts.set i t).getD i t0 = t := by
  rw [List.getD_eq_getElem?_getD, List.getElem?_set_self h]; rfl
theorem getD_set_ne {ts : List T3} {i j : Nat} {t : T3} (h : i ≠ j) : (ts.set i t).getD j t0 = ts.getD j t0 := by
  rw [List.getD_eq_getElem?_getD, List.getElem?_set_ne h, ← List.getD_eq_getElem?_getD]

theorem set_perm {ts us : List T3} (hl : ts.length = us.length) (h : ∀ a, ts.count a = us.count a) : ts.Perm us := List.perm_iff_count.mpr h

/-- the hole goes from i to j -/
theorem hole_perm {ts : List T3} {i j : Nat} {t : T3} (hi : i < ts.length) (hj : j < ts.length) (hij : i ≠ j) : ((ts.set i (ts.getD j t0)).set j t).Perm (ts.set i t) := by
  refine List.perm_iff_count.mpr fun a => ?_
  have e1 : (ts.set i (ts.getD j t0))[j]'(by simpa using hj) = ts[j] := by rw [List.getElem_set_ne hij]
  have e2 : ts.getD j t0 = ts[j] := by rw [List.getD_eq_getElem?_getD, List.getElem?_eq_getElem hj]; rfl
  rw [List.count_set (by simpa using hj), List.count_set hi, List.count_set hi, e1, e2]
  have hpos : (if (ts[j] == a) = true then 1 else 0) ≤ List.count a ts := by
    split <;> rename_i h
    · have : ts[j] = a := by simpa using h
      rw [← this]
      exact List.one_le_count_iff.mpr (List.getElem_mem hj)
    · exact Nat.zero_le _
  have hpos2 : (if (ts[i] == a) = true then 1 else 0) ≤ List.count a ts := by
    split <;> rename_i h
    · have : ts[i] = a := by simpa using h
      rw [← this]
      exact List.one_le_count_iff.mpr (List.getElem_mem hi)
    · exact Nat.zero_le _
  omega

theorem sdF_perm (st : Nat) (new : T3) (pos : Nat) (ts : List T3) (h : pos < ts.length) : (sdF st new pos ts).Perm (ts.set pos new) := by
  fun_induction sdF st new pos ts with
  | case1 pos ts hlt hc ih =>
    exact (ih (by simp; omega)).trans (hole_perm h (by omega) (by omega))
  | case2 pos ts hlt hc => exact List.Perm.refl _
  | case3 pos ts hlt => exact List.Perm.refl _
theorem suF_perm (new : T3) (pos : Nat) (ts : List T3) (h : pos < ts.length) : (suF pos ts).2 < ts.length ∧ ((suF pos ts).1.set (suF pos ts).2 new).Perm (ts.set pos new) := by
  fun_induction suF pos ts with
  | case1 pos ts hlt ih =>
    have hc := chF_lt hlt
    have hg := chF_gt ts pos
    obtain ⟨h1, h2⟩ := ih (by simpa using hc)
    exact ⟨by simpa using h1, h2.trans (hole_perm h hc (by omega))⟩
  | case2 pos ts hlt => exact ⟨h, List.Perm.refl _⟩
theorem siftupF_perm (pos : Nat) (ts : List T3) (h : pos < ts.length) : (siftupF pos ts).Perm ts := by
  unfold siftupF
  obtain ⟨h1, h2⟩ := suF_perm (ts.getD pos t0) pos ts h
  refine (sdF_perm _ _ _ _ (by rw [List.length_set, suF_length]; exact h1)).trans ?_
  rw [List.set_set]
  refine h2.trans ?_
  have : ts.set pos (ts.getD pos t0) = ts := by
    rw [List.getD_eq_getElem?_getD, List.getElem?_eq_getElem h]
    exact List.set_getElem_self h
  rw [this]

/-- nothing below the k-th is less than its parent -/
def HF (ts : List T3) (k : Nat) : Prop := ∀ i, 1 ≤ i → i < ts.length → k ≤ (i - 1) / 2 → tlt (ts.getD i t0) (ts.getD ((i - 1) / 2) t0) = false
/-- c lies in the tree below st -/
inductive Dsc (st : Nat) : Nat → Prop
  | self : Dsc st st
  | step {p c : Nat} : Dsc st p → 1 ≤ c → (c - 1) / 2 = p → Dsc st c
theorem Dsc.le {st p : Nat} (h : Dsc st p) : st ≤ p := by
  induction h with
  | self => exact Nat.le_refl _
  | step _ h1 h2 ih => omega
theorem Dsc.up {st p : Nat} (h : Dsc st p) (hlt : st < p) : Dsc st ((p - 1) / 2) := by
  cases h with
  | self => omega
  | step h' _ h2 => rw [h2]; exact h'

theorem ch_spec {ts : List T3} {pos : Nat} (h : 2 * pos + 1 < ts.length) : (chF ts pos - 1) / 2 = pos ∧ ∀ d, 1 ≤ d → d < ts.length → (d - 1) / 2 = pos → d ≠ chF ts pos → tlt (ts.getD d t0) (ts.getD (chF ts pos) t0) = false := by
  unfold chF
  by_cases h2 : 2 * pos + 1 + 1 < ts.length
  · rw [if_pos h2]
    cases hc : tlt (ts.getD (2 * pos + 1) t0) (ts.getD (2 * pos + 1 + 1) t0) with
    | true =>
      rw [if_pos rfl]
      refine ⟨by omega, fun d h1 h3 h4 h5 => ?_⟩
      have : d = 2 * pos + 1 + 1 := by omega
      rw [this]; exact tlt_asym hc
    | false =>
      rw [if_neg (by simp)]
      refine ⟨by omega, fun d h1 h3 h4 h5 => ?_⟩
      have : d = 2 * pos + 1 := by omega
      rw [this]; exact hc
  · rw [if_neg h2]
    exact ⟨by omega, fun d h1 h3 h4 h5 => by omega⟩

/-- the hole on its way down -/
structure Inv1 (st pos : Nat) (ts : List T3) : Prop where
  d : Dsc st pos
  a : ∀ i, 1 ≤ i → i < ts.length → st ≤ (i - 1) / 2 → i ≠ pos → (i - 1) / 2 ≠ pos → tlt (ts.getD i t0) (ts.getD ((i - 1) / 2) t0) = false
  g : ∀ i, 1 ≤ i → i < ts.length → (i - 1) / 2 = pos → 1 ≤ pos → st ≤ (pos - 1) / 2 → tlt (ts.getD i t0) (ts.getD ((pos - 1) / 2) t0) = false
theorem suF_inv {st : Nat} (pos : Nat) (ts : List T3) (x : Inv1 st pos ts) : Inv1 st (suF pos ts).2 (suF pos ts).1 ∧ ¬ (2 * (suF pos ts).2 + 1 < ts.length) := by
  fun_induction suF pos ts with
  | case1 pos ts hlt ih =>
    have hc := chF_lt hlt
    have hg := chF_gt ts pos
    obtain ⟨hp, hs⟩ := ch_spec hlt
    generalize chF ts pos = c at *
    have hst := x.d.le
    have y : Inv1 st c (ts.set pos (ts.getD c t0)) := by
      refine ⟨.step x.d (by omega) hp, fun i h1 h2 h3 h4 h5 => ?_, fun i h1 h2 h3 h4 h5 => ?_⟩
      · rw [List.length_set] at h2
        by_cases e1 : i = pos
        · subst e1
          rw [getD_set_self (by omega), getD_set_ne (by omega)]
          exact x.g c (by omega) hc hp h1 h3
        · by_cases e2 : (i - 1) / 2 = pos
          · rw [getD_set_ne (Ne.symm e1), e2, getD_set_self (by omega)]
            exact hs i h1 h2 e2 h4
          · rw [getD_set_ne (Ne.symm e1), getD_set_ne (Ne.symm e2)]
            exact x.a i h1 h2 h3 e1 e2
      · rw [List.length_set] at h2
        rw [hp, getD_set_ne (by omega), getD_set_self (by omega)]
        have := x.a i h1 h2 (by omega) (by omega) (by omega)
        rw [h3] at this
        exact this
    obtain ⟨r1, r2⟩ := ih y
    exact ⟨r1, by simpa using r2⟩
  | case2 pos ts hlt => exact ⟨x, hlt⟩

/-- the new one on its way up -/
structure Inv2 (st : Nat) (new : T3) (pos : Nat) (ts : List T3) : Prop where
  d : Dsc st pos
  l : pos < ts.length
  a : ∀ i, 1 ≤ i → i < ts.length → st ≤ (i - 1) / 2 → i ≠ pos → (i - 1) / 2 ≠ pos → tlt (ts.getD i t0) (ts.getD ((i - 1) / 2) t0) = false
  b : ∀ i, 1 ≤ i → i < ts.length → (i - 1) / 2 = pos → tlt (ts.getD i t0) new = false
  g : ∀ i, 1 ≤ i → i < ts.length → (i - 1) / 2 = pos → 1 ≤ pos → st ≤ (pos - 1) / 2 → tlt (ts.getD i t0) (ts.getD ((pos - 1) / 2) t0) = false
theorem sd_end {st : Nat} {new : T3} {pos : Nat} {ts : List T3} (x : Inv2 st new pos ts) (h : st < pos → tlt new (ts.getD ((pos - 1) / 2) t0) = false) : HF (ts.set pos new) st := by
  intro i h1 h2 h3
  rw [List.length_set] at h2
  by_cases e1 : i = pos
  · subst e1
    rw [getD_set_self h2, getD_set_ne (by omega)]
    exact h (by omega)
  · by_cases e2 : (i - 1) / 2 = pos
    · rw [getD_set_ne (Ne.symm e1), e2, getD_set_self x.l]
      exact x.b i h1 h2 e2
    · rw [getD_set_ne (Ne.symm e1), getD_set_ne (Ne.symm e2)]
      exact x.a i h1 h2 h3 e1 e2
theorem sdF_inv {st : Nat} {new : T3} (pos : Nat) (ts : List T3) (x : Inv2 st new pos ts) : HF (sdF st new pos ts) st := by
  fun_induction sdF st new pos ts with
  | case1 pos ts hlt hc ih =>
    have hl := x.l
    have hup := x.d.up hlt
    have hle := hup.le
    refine ih { d := hup, l := by simp; omega, a := fun i h1 h2 h3 h4 h5 => ?_, b := fun i h1 h2 h3 => ?_, g := fun i h1 h2 h3 h4 h5 => ?_ }
    · rw [List.length_set] at h2
      by_cases e1 : i = pos
      · subst e1; exact absurd rfl h5
      · by_cases e2 : (i - 1) / 2 = pos
        · rw [getD_set_ne (Ne.symm e1), e2, getD_set_self hl]
          exact x.g i h1 h2 e2 (by omega) hle
        · rw [getD_set_ne (Ne.symm e1), getD_set_ne (Ne.symm e2)]
          exact x.a i h1 h2 h3 e1 e2
    · rw [List.length_set] at h2
      by_cases e1 : i = pos
      · subst e1
        rw [getD_set_self hl]
        exact tlt_asym hc
      · rw [getD_set_ne (Ne.symm e1)]
        have := x.a i h1 h2 (by omega) e1 (by omega)
        rw [h3] at this
        exact tlt_of_lt_ge hc this
    · rw [List.length_set] at h2
      have hpp : tlt (ts.getD ((pos - 1) / 2) t0) (ts.getD (((pos - 1) / 2 - 1) / 2) t0) = false := x.a _ h4 (by omega) h5 (by omega) (by omega)
      by_cases e1 : i = pos
      · subst e1
        rw [getD_set_self hl, getD_set_ne (by omega)]
        exact hpp
      · rw [getD_set_ne (Ne.symm e1), getD_set_ne (by omega)]
        have := x.a i h1 h2 (by omega) e1 (by omega)
        rw [h3] at this
        exact tge_trans this hpp
  | case2 pos ts hlt hc => exact sd_end x fun _ => by simpa using hc
  | case3 pos ts hlt => exact sd_end x fun h => absurd h hlt

theorem siftupF_heap {pos : Nat} {ts : List T3} (h : pos < ts.length) (x : HF ts (pos + 1)) : HF (siftupF pos ts) pos := by
  unfold siftupF
  have i1 : Inv1 pos pos ts := ⟨.self, fun i h1 h2 h3 h4 h5 => x i h1 h2 (by omega), fun i h1 h2 h3 h4 h5 => by omega⟩
  obtain ⟨y, hleaf⟩ := suF_inv pos ts i1
  obtain ⟨h1, _⟩ := suF_perm (ts.getD pos t0) pos ts h
  have hl := suF_length pos ts
  generalize suF pos ts = r at *
  obtain ⟨us, p⟩ := r
  dsimp only at *
  refine sdF_inv _ _ { d := y.d, l := by simp; omega, a := fun i h1 h2 h3 h4 h5 => ?_, b := fun i h1 h2 h3 => ?_, g := fun i h1 h2 h3 h4 h5 => ?_ }
  · rw [List.length_set] at h2
    rw [getD_set_ne (Ne.symm h4), getD_set_ne (Ne.symm h5)]
    exact y.a i h1 h2 h3 h4 h5
  · rw [List.length_set] at h2; omega
  · rw [List.length_set] at h2; omega

theorem isHeap_iff {ts : List T3} : IsHeap ts ↔ HF ts 0 := ⟨fun h i h1 h2 _ => h i h1 h2, fun h i h1 h2 => h i h1 h2 (Nat.zero_le _)⟩

theorem ifyF_heap : ∀ (k : Nat) (ts : List T3), k ≤ ts.length → HF ts k → IsHeap (ifyF k ts) ∧ (ifyF k ts).Perm ts
  | 0, ts, _, h => ⟨isHeap_iff.mpr h, List.Perm.refl _⟩
  | k + 1, ts, hk, h => by
    obtain ⟨h1, h2⟩ := ifyF_heap k (siftupF k ts) (by rw [siftupF_length]; omega) (siftupF_heap (by omega) h)
    exact ⟨h1, h2.trans (siftupF_perm k ts (by omega))⟩
/-- heapify makes a heap of the same triples -/
theorem heapify_ok (ts : List T3) : IsHeap (ifyF (ts.length / 2) ts) ∧ (ifyF (ts.length / 2) ts).Perm ts :=
  ifyF_heap _ ts (by omega) fun i h1 h2 h3 => by omega
/-- a heap's top replaced and sifted is a heap -/
theorem replace_ok {ts : List T3} {t : T3} (h0 : 0 < ts.length) (h : IsHeap ts) : IsHeap (siftupF 0 (ts.set 0 t)) ∧ (siftupF 0 (ts.set 0 t)).Perm (ts.set 0 t) := by
  refine ⟨isHeap_iff.mpr (siftupF_heap (by simpa using h0) fun i h1 h2 h3 => ?_), siftupF_perm _ _ (by simpa using h0)⟩
  rw [List.length_set] at h2
  rw [getD_set_ne (by omega), getD_set_ne (by omega)]
  exact h i h1 h2
/-- nothing in a heap is less than its top -/
theorem heap_min {ts : List T3} (h : IsHeap ts) : ∀ i, i < ts.length → tlt (ts.getD i t0) (ts.getD 0 t0) = false := by
  intro i
  induction i using Nat.strongRecOn with
  | ind i ih =>
    intro hi
    by_cases e : i = 0
    · subst e
      cases k : tlt (ts.getD 0 t0) (ts.getD 0 t0) with
      | false => rfl
      | true => exact absurd (tlt_asym k) (by rw [k]; simp)
    · exact tge_trans (h i (by omega) hi) (ih _ (by omega) (by omega))
theorem heap_prefix {ts : List T3} {t : T3} (h : IsHeap (ts ++ [t])) : IsHeap ts := by
  intro i h1 h2
  have := h i h1 (by simp; omega)
  rw [List.getD_eq_getElem?_getD, List.getD_eq_getElem?_getD, List.getElem?_append_left h2, List.getElem?_append_left (by omega), ← List.getD_eq_getElem?_getD, ← List.getD_eq_getElem?_getD] at this
  exact this
end Mine

-- part D2
namespace Mine

def trip (ns : List Int) (j : Nat) (o : Nat) : T3 := ((j : Int), ns.getD o 0, (o : Int))
theorem trips_two (ns : List Int) (rs : List (List Nat)) (a b : List Nat) : tripsFrom ns 0 (rs ++ [a, b]) = tripsFrom ns 0 rs ++ (a.map (trip ns rs.length) ++ b.map (trip ns (rs.length + 1))) := by
  rw [tripsFrom_append, Nat.zero_add]
  show _ ++ (_ ++ (_ ++ [])) = _
  rw [List.append_nil]
  rfl
theorem trips_one (ns : List Int) (rs : List (List Nat)) (a : List Nat) : tripsFrom ns 0 (rs ++ [a]) = tripsFrom ns 0 rs ++ a.map (trip ns rs.length) := by
  rw [tripsFrom_append, Nat.zero_add]
  show _ ++ (_ ++ []) = _
  rw [List.append_nil]
  rfl
theorem trips_places (ns : List Int) : ∀ (rs : List (List Nat)) (j : Nat), (tripsFrom ns j rs).map (fun t => t.2.2) = rs.flatten.map Int.ofNat
  | [], _ => rfl
  | r :: rs, j => by
    show List.map (fun t => t.2.2) (r.map (fun (o : Nat) => ((j : Int), ns.getD o 0, (o : Int))) ++ tripsFrom ns (j + 1) rs) = _
    rw [List.map_append, trips_places ns rs (j + 1), List.flatten_cons, List.map_append, List.map_map]
    rfl

/-- the new triple -/
def nextT (ns : List Int) (top : T3) (p : Nat) : T3 := (if ns.getD p 0 < top.2.1 then top.1 + 1 else top.1, ns.getD p 0, (p : Int))

/-- replacement selection between two turns -/
structure RSI (ns : List Int) (k : Nat) (st : RunSt) (c h : List T3) : Prop where
  p1 : (c ++ h).Perm (tripsFrom ns 0 (st.1 ++ [st.2.1, st.2.2]))
  p2 : c.Pairwise (fun a b => tlt a b = true)
  p3 : ∀ a ∈ c, ∀ b ∈ h, tlt a b = true
  p4 : ∀ b ∈ h, (st.1.length : Int) ≤ b.1
  p5 : st.2.2.length < k
  p6 : h.length = min k ns.length

theorem countP_zero {α : Type} {p : α → Bool} {l : List α} (h : ∀ a ∈ l, p a = false) : l.countP p = 0 := by
  rw [List.countP_eq_zero]
  intro a ha
  rw [h a ha]; simp
theorem countP_all {α : Type} {p : α → Bool} {l : List α} (h : ∀ a ∈ l, p a = true) : l.countP p = l.length := List.countP_eq_length.mpr h

theorem countP_two {α : Type} {p q : α → Bool} : ∀ {l : List α}, (∀ a ∈ l, p a = !q a) → l.countP p + l.countP q = l.length
  | [], _ => rfl
  | a :: l, h => by
    have ih := countP_two (p := p) (q := q) (l := l) fun b hb => h b (.tail _ hb)
    have ha := h a (.head _)
    rw [List.countP_cons, List.countP_cons, List.length_cons, ha]
    cases q a <;> simp <;> omega

theorem rsi_step {ns : List Int} {k i : Nat} {c rest h' : List T3} {top : T3} (hi : k + i < ns.length) (x : RSI ns k (runsSt ns k i) c (top :: rest)) (hmin : ∀ b ∈ rest, tlt b top = false)
    (hp : h'.Perm (nextT ns top (k + i) :: rest)) : RSI ns k (runStep ns k (runsSt ns k i) (k + i)) (c ++ [top]) h' := by
  have hrp := runs_perm ns k i (by omega)
  have hkm : min k ns.length = k := by omega
  generalize runsSt ns k i = st at x hrp ⊢
  obtain ⟨rs, run, wait⟩ := st
  obtain ⟨p1, p2, p3, p4, p5, p6⟩ := x
  dsimp only at *
  rw [hkm] at hrp p6
  rw [trips_two] at p1
  -- places lie below k + i, each once
  have places : ((c ++ top :: rest).map (fun t => t.2.2)).Perm ((List.range (k + i)).map Int.ofNat) := by
    refine (p1.map _).trans ?_
    rw [← trips_two, trips_places]
    refine List.Perm.map _ ?_
    simpa [List.append_assoc] using hrp
  have place_lt : ∀ t ∈ c ++ top :: rest, t.2.2 < ((k + i : Nat) : Int) := fun t ht => by
    have : t.2.2 ∈ (c ++ top :: rest).map (fun t => t.2.2) := List.mem_map.mpr ⟨t, ht, rfl⟩
    obtain ⟨o, ho, e⟩ := List.mem_map.mp (places.mem_iff.mp this)
    rw [← e]
    have := List.mem_range.mp ho
    show ((o : Nat) : Int) < _
    omega
  have nd : (c ++ top :: rest).Nodup := by
    have : ((c ++ top :: rest).map (fun t => t.2.2)).Nodup := places.nodup_iff.mpr (List.Pairwise.map _ (fun a b hab e => hab (Int.ofNat.inj e)) List.nodup_range)
    exact List.Pairwise.of_map _ (fun a b hab e => hab (congrArg (fun t => t.2.2) e)) this
  have toplt : ∀ b ∈ rest, tlt top b = true := fun b hb => tlt_tot (fun e => by
    have : (top :: rest).Nodup := (List.pairwise_append.mp nd).2.1
    exact (List.pairwise_cons.mp this).1 b hb e.symm) (hmin b hb)
  -- what the runs' triples are
  have memT : ∀ t ∈ c ++ top :: rest, t.1 ≤ (rs.length : Int) + 1 := fun t ht => by
    rcases List.mem_append.mp (p1.mem_iff.mp ht) with h | h
    · have := tripsFrom_lt ns rs 0 t h; omega
    · rcases List.mem_append.mp h with h | h
      · obtain ⟨o, _, rfl⟩ := List.mem_map.mp h; show (rs.length : Int) ≤ _; omega
      · obtain ⟨o, _, rfl⟩ := List.mem_map.mp h; show ((rs.length + 1 : Nat) : Int) ≤ _; omega
  have cnt : ∀ q : T3 → Bool, c.countP q + (top :: rest).countP q = (tripsFrom ns 0 rs).countP q + ((run.map (trip ns rs.length)).countP q + (wait.map (trip ns (rs.length + 1))).countP q) := fun q => by
    rw [← List.countP_append, ← List.countP_append, ← List.countP_append]; exact p1.countP_eq q
  have rsl : ∀ t ∈ tripsFrom ns 0 rs, t.1 < (rs.length : Int) := fun t h => by have := tripsFrom_lt ns rs 0 t h; omega
  -- the top is of the open run
  have htop : top.1 = (rs.length : Int) := by
    have h1 := p4 top (.head _)
    have h2 := memT top (List.mem_append.mpr (.inr (.head _)))
    rcases Int.lt_or_eq_of_le h1 with h3 | h3
    · exfalso
      have e := cnt (fun t => decide ((rs.length : Int) < t.1))
      rw [countP_zero (l := tripsFrom ns 0 rs) (fun t ht => by have := rsl t ht; simp; omega), countP_zero (l := run.map _) (fun t ht => by obtain ⟨o, _, rfl⟩ := List.mem_map.mp ht; simp [trip])] at e
      rw [countP_all (l := top :: rest) (fun t ht => by
        rcases List.mem_cons.mp ht with rfl | ht
        · simpa using h3
        · have := hmin t ht; rw [tge_iff] at this; simp; omega)] at e
      have := List.countP_le_length (p := fun t : T3 => decide ((rs.length : Int) < t.1)) (l := wait.map (trip ns (rs.length + 1)))
      rw [List.length_map] at this
      omega
    · exact h3.symm
  have cle : ∀ a ∈ c, a.1 ≤ (rs.length : Int) := fun a ha => by have := p3 a ha top (.head _); rw [tlt_iff] at this; omega
  -- how many of the open run, of the next one, are in the heap
  have n1 : (top :: rest).countP (fun t => decide (t.1 = (rs.length : Int) + 1)) = wait.length := by
    have e := cnt (fun t => decide (t.1 = (rs.length : Int) + 1))
    rw [countP_zero (l := tripsFrom ns 0 rs) (fun t ht => by have := rsl t ht; simp; omega), countP_zero (l := run.map _) (fun t ht => by obtain ⟨o, _, rfl⟩ := List.mem_map.mp ht; simp [trip]; omega),
      countP_all (l := wait.map _) (fun t ht => by obtain ⟨o, _, rfl⟩ := List.mem_map.mp ht; simp [trip]), countP_zero (l := c) (fun t ht => by have := cle t ht; simp; omega), List.length_map] at e
    omega
  have n0 : (top :: rest).countP (fun t => decide (t.1 = (rs.length : Int))) + wait.length = k := by
    rw [← p6, ← n1]
    exact countP_two fun t ht => by
      have h1 := p4 t ht
      have h2 := memT t (List.mem_append.mpr (.inr ht))
      by_cases e : t.1 = (rs.length : Int)
      · simp [e]; omega
      · have : t.1 = (rs.length : Int) + 1 := by omega
        simp [this]; omega
  have hgt : c.countP (fun t => decide (t.1 = (rs.length : Int) ∧ ns.getD (k + i) 0 < t.2.1)) + (top :: rest).countP (fun t => decide (t.1 = (rs.length : Int) ∧ ns.getD (k + i) 0 < t.2.1)) = gtC ns run (k + i) := by
    rw [cnt, countP_zero (l := tripsFrom ns 0 rs) (fun t ht => by have := rsl t ht; simp; omega), countP_zero (l := wait.map _) (fun t ht => by obtain ⟨o, _, rfl⟩ := List.mem_map.mp ht; simp [trip]; omega),
      List.countP_map, gtC, ← List.countP_eq_length_filter, Nat.zero_add, Nat.add_zero]
    refine List.countP_congr fun o _ => ?_
    simp [trip]
  -- the test of _law_runs is the heap's
  have test : (gtC ns run (k + i) + wait.length < k) ↔ ¬ ns.getD (k + i) 0 < top.2.1 := by
    constructor
    · intro hlt hc
      have : (top :: rest).countP (fun t => decide (t.1 = (rs.length : Int))) ≤ (top :: rest).countP (fun t => decide (t.1 = (rs.length : Int) ∧ ns.getD (k + i) 0 < t.2.1)) := by
        refine List.countP_mono_left fun t ht he => ?_
        have he : t.1 = (rs.length : Int) := by simpa using he
        refine decide_eq_true ⟨he, ?_⟩
        rcases List.mem_cons.mp ht with rfl | ht
        · exact hc
        · have := hmin t ht; rw [tge_iff] at this; omega
      omega
    · intro hc
      rw [countP_zero (l := c) (fun t ht => by
        refine decide_eq_false fun q => ?_
        have := p3 t ht top (.head _)
        rw [tlt_iff] at this; omega), List.countP_cons, if_neg (by rw [decide_eq_true_iff]; exact fun q => hc q.2), Nat.zero_add, Nat.add_zero] at hgt
      rw [List.countP_cons, if_pos (decide_eq_true htop)] at n0
      have : rest.countP (fun t => decide (t.1 = (rs.length : Int) ∧ ns.getD (k + i) 0 < t.2.1)) ≤ rest.countP (fun t => decide (t.1 = (rs.length : Int))) :=
        List.countP_mono_left fun t ht he => by
          have := of_decide_eq_true he
          exact decide_eq_true this.1
      omega
  have topnew : tlt top (nextT ns top (k + i)) = true := by
    have := place_lt top (List.mem_append.mpr (.inr (.head _)))
    rw [tlt_iff]
    unfold nextT
    by_cases hc : ns.getD (k + i) 0 < top.2.1
    · rw [if_pos hc]; exact .inl (by show top.1 < top.1 + 1; omega)
    · rw [if_neg hc]; refine .inr ⟨rfl, ?_⟩
      show top.2.1 < ns.getD (k + i) 0 ∨ (top.2.1 = ns.getD (k + i) 0 ∧ top.2.2 < ((k + i : Nat) : Int))
      omega
  -- what does not hang on the case
  have q2 : (c ++ [top]).Pairwise (fun a b => tlt a b = true) := by
    rw [List.pairwise_append]
    exact ⟨p2, List.pairwise_singleton _ _, fun a ha b hb => by rw [List.mem_singleton.mp hb]; exact p3 a ha top (.head _)⟩
  have memh : ∀ b ∈ h', b = nextT ns top (k + i) ∨ b ∈ rest := fun b hb => List.mem_cons.mp (hp.mem_iff.mp hb)
  have q3 : ∀ a ∈ c ++ [top], ∀ b ∈ h', tlt a b = true := fun a ha b hb => by
    have hab : ∀ b ∈ rest, tlt a b = true := fun b hb => by
      rcases List.mem_append.mp ha with ha | ha
      · exact p3 a ha b (.tail _ hb)
      · rw [List.mem_singleton.mp ha]; exact toplt b hb
    rcases memh b hb with rfl | hb
    · rcases List.mem_append.mp ha with ha | ha
      · exact tlt_trans (p3 a ha top (.head _)) topnew
      · rw [List.mem_singleton.mp ha]; exact topnew
    · exact hab b hb
  have q6 : h'.length = min k ns.length := by rw [hp.length_eq, hkm, ← p6]; rfl
  have q1 : (c ++ [top] ++ h').Perm ((c ++ top :: rest) ++ [nextT ns top (k + i)]) := by
    refine (hp.append_left _).trans ?_
    rw [List.append_assoc, List.append_assoc]
    refine List.Perm.append_left _ ?_
    show (top :: nextT ns top (k + i) :: rest).Perm (top :: (rest ++ [nextT ns top (k + i)]))
    exact List.Perm.cons _ (List.perm_append_singleton _ _).symm
  have q1' := q1.trans (p1.append_right [nextT ns top (k + i)])
  clear q1
  unfold runStep
  dsimp only
  by_cases hc : ns.getD (k + i) 0 < top.2.1
  · -- it waits
    have hnt : ¬ (gtC ns run (k + i) + wait.length < k) := fun q => test.mp q hc
    have enew : nextT ns top (k + i) = trip ns (rs.length + 1) (k + i) := by
      unfold nextT trip; rw [if_pos hc, htop]; rfl
    rw [enew] at q1' memh hp
    simp only [hnt, if_false]
    have r1 : (c ++ [top] ++ h').Perm (tripsFrom ns 0 rs ++ (run.map (trip ns rs.length) ++ (wait ++ [k + i]).map (trip ns (rs.length + 1)))) := by
      refine q1'.trans ?_
      rw [List.map_append, List.append_assoc, List.append_assoc]
      exact List.Perm.refl _
    split <;> rename_i hfull
    · -- the next run begins
      rw [List.length_append, List.length_singleton] at hfull
      refine ⟨?_, q2, q3, fun b hb => ?_, by show 0 < k; omega, q6⟩
      · dsimp only
        rw [trips_two]
        rw [trips_one]
        simpa [List.append_assoc] using r1
      · show ((rs ++ [run]).length : Int) ≤ b.1
        rw [List.length_append, List.length_singleton]
        rcases memh b hb with rfl | hb
        · exact Int.le_refl _
        · -- only the top was of the open run
          rw [List.countP_cons, if_pos (decide_eq_true htop)] at n0
          have h0 : rest.countP (fun t => decide (t.1 = (rs.length : Int))) = 0 := by omega
          have := (List.countP_eq_zero.mp h0) b hb
          have h1 := p4 b (.tail _ hb)
          simp at this
          omega
    · refine ⟨?_, q2, q3, fun b hb => ?_, ?_, q6⟩
      · dsimp only
        rw [trips_two]; exact r1
      · show (rs.length : Int) ≤ b.1
        rcases memh b hb with rfl | hb
        · show (rs.length : Int) ≤ ((rs.length + 1 : Nat) : Int); omega
        · exact p4 b (.tail _ hb)
      · dsimp only
        rw [List.length_append, List.length_singleton] at hfull ⊢
        omega
  · -- it joins the open run
    have ht := test.mpr hc
    have enew : nextT ns top (k + i) = trip ns rs.length (k + i) := by
      unfold nextT trip; rw [if_neg hc, htop]
    rw [enew] at q1' memh hp
    simp only [ht, if_true]
    rw [if_neg (by omega)]
    refine ⟨?_, q2, q3, fun b hb => ?_, p5, q6⟩
    · dsimp only
      rw [trips_two, List.map_append]
      refine q1'.trans ?_
      simp only [List.append_assoc, List.map_cons, List.map_nil]
      exact (List.perm_append_comm.append_left _).append_left _
    · show (rs.length : Int) ≤ b.1
      rcases memh b hb with rfl | hb
      · exact Int.le_refl _
      · exact p4 b (.tail _ hb)
end Mine

-- part D3
namespace Mine

theorem uniq {α : Type} {R : α → α → Prop} (asym : ∀ a b, R a b → ¬ R b a) : ∀ {l m : List α}, l.Perm m → l.Pairwise R → m.Pairwise R → l = m
  | [], m, h, _, _ => h.symm.eq_nil.symm
  | a :: l, [], h, _, _ => absurd h.eq_nil (by simp)
  | a :: l, b :: m, h, hl, hm => by
    rw [List.pairwise_cons] at hl hm
    have hab : a = b := by
      rcases List.mem_cons.mp (h.mem_iff.mp (List.mem_cons_self (a := a) (l := l))) with e | e
      · exact e
      · rcases List.mem_cons.mp (h.mem_iff.mpr (List.mem_cons_self (a := b) (l := m))) with e' | e'
        · exact e'.symm
        · exact absurd (hm.1 a e) (asym _ _ (hl.1 b e'))
    subst hab
    rw [uniq asym (List.perm_cons a |>.mp h) hl.2 hm.2]

def simInit (ns : List Int) (k : Nat) : List T3 := (List.range (min k ns.length)).map (trip ns 0)
/-- heap and what came, behind i turns of the law's first loop -/
def simSt (ns : List Int) (k : Nat) : Nat → List T3 × List T3
  | 0 => (ifyF ((simInit ns k).length / 2) (simInit ns k), [])
  | i + 1 => (siftupF 0 ((simSt ns k i).1.set 0 (nextT ns ((simSt ns k i).1.getD 0 t0) (k + i))), (simSt ns k i).2 ++ [(simSt ns k i).1.getD 0 t0])

theorem sim_ok {ns : List Int} {k : Nat} (hk : 1 ≤ k) (hn : 1 ≤ ns.length) : ∀ i, i ≤ ns.length - k → IsHeap (simSt ns k i).1 ∧ RSI ns k (runsSt ns k i) (simSt ns k i).2 (simSt ns k i).1
  | 0, _ => by
    obtain ⟨h1, h2⟩ := heapify_ok (simInit ns k)
    refine ⟨h1, ?_⟩
    show RSI ns k ([], List.range (min k ns.length), []) [] (ifyF ((simInit ns k).length / 2) (simInit ns k))
    refine ⟨?_, .nil, fun a ha => (nomatch ha), fun b hb => ?_, by show 0 < k; omega, ?_⟩
    · rw [trips_two]
      simpa [simInit, tripsFrom] using h2
    · obtain ⟨o, _, rfl⟩ := List.mem_map.mp (h2.mem_iff.mp hb)
      exact Int.le_refl _
    · rw [h2.length_eq, simInit, List.length_map, List.length_range]
  | i + 1, hi => by
    obtain ⟨h1, x⟩ := sim_ok hk hn i (by omega)
    have hl := x.p6
    show IsHeap (siftupF 0 ((simSt ns k i).1.set 0 (nextT ns ((simSt ns k i).1.getD 0 t0) (k + i)))) ∧ RSI ns k (runStep ns k (runsSt ns k i) (k + i)) ((simSt ns k i).2 ++ [(simSt ns k i).1.getD 0 t0]) (siftupF 0 ((simSt ns k i).1.set 0 (nextT ns ((simSt ns k i).1.getD 0 t0) (k + i))))
    generalize simSt ns k i = st at h1 x hl ⊢
    obtain ⟨h, c⟩ := st
    dsimp only at *
    cases h with
    | nil => simp at hl; omega
    | cons top rest =>
      obtain ⟨r1, r2⟩ := replace_ok (t := nextT ns top (k + i)) (by simp) h1
      refine ⟨r1, rsi_step (by omega) x (fun b hb => ?_) r2⟩
      obtain ⟨j, hj⟩ := List.mem_iff_getElem?.mp hb
      have hlt : j < rest.length := by
        rcases Nat.lt_or_ge j rest.length with h' | h'
        · exact h'
        · rw [List.getElem?_eq_none h'] at hj; cases hj
      have := heap_min h1 (j + 1) (by simp; omega)
      rw [List.getD_eq_getElem?_getD, List.getElem?_cons_succ, hj] at this
      exact this

/-- heappop's heap -/
def popF (h : List T3) : List T3 := if h.dropLast = [] then [] else siftupF 0 (h.dropLast.set 0 (h.getLastD t0))
def popSt (h c : List T3) : Nat → List T3 × List T3
  | 0 => (h, c)
  | j + 1 => (popF (popSt h c j).1, (popSt h c j).2 ++ [(popSt h c j).1.getD 0 t0])

structure PopOk (h c : List T3) (j : Nat) (st : List T3 × List T3) : Prop where
  heap : IsHeap st.1
  len : st.1.length = h.length - j
  perm : (st.2 ++ st.1).Perm (c ++ h)
  pw : st.2.Pairwise (fun a b => tlt a b = true)
  lt : ∀ a ∈ st.2, ∀ b ∈ st.1, tlt a b = true

theorem popF_cons {us : List T3} {u : T3} (h : IsHeap (us ++ [u])) : IsHeap (popF (us ++ [u])) ∧ (((us ++ [u]).getD 0 t0) :: popF (us ++ [u])).Perm (us ++ [u]) := by
  unfold popF
  have e1 : (us ++ [u]).dropLast = us := List.dropLast_concat
  have e2 : (us ++ [u]).getLastD t0 = u := List.getLastD_concat ..
  rw [e1, e2]
  cases us with
  | nil => rw [if_pos rfl]; exact ⟨fun i h1 h2 => by simp at h2, List.Perm.refl _⟩
  | cons a r =>
    rw [if_neg (by simp)]
    obtain ⟨r1, r2⟩ := replace_ok (t := u) (by simp) (heap_prefix h)
    refine ⟨r1, ?_⟩
    show (a :: siftupF 0 ((a :: r).set 0 u)).Perm (a :: (r ++ [u]))
    refine List.Perm.cons _ (r2.trans ?_)
    exact (List.perm_append_singleton _ _).symm

theorem pop_ok {h c : List T3} (hh : IsHeap h) (hnd : (c ++ h).Nodup) (hp : c.Pairwise (fun a b => tlt a b = true)) (hl : ∀ a ∈ c, ∀ b ∈ h, tlt a b = true) : ∀ j, j ≤ h.length → PopOk h c j (popSt h c j)
  | 0, _ => ⟨hh, rfl, List.Perm.refl _, hp, hl⟩
  | j + 1, hj => by
    have x := pop_ok hh hnd hp hl j (by omega)
    show PopOk h c (j + 1) (popF (popSt h c j).1, (popSt h c j).2 ++ [(popSt h c j).1.getD 0 t0])
    generalize popSt h c j = st at x ⊢
    obtain ⟨g, d⟩ := st
    obtain ⟨x1, x2, x3, x4, x5⟩ := x
    dsimp only at *
    have hne : g ≠ [] := fun e => by rw [e] at x2; simp at x2; omega
    obtain ⟨us, u, rfl⟩ : ∃ us u, g = us ++ [u] := ⟨g.dropLast, g.getLast hne, (List.dropLast_concat_getLast hne).symm⟩
    obtain ⟨r1, r2⟩ := popF_cons x1
    have ndg : (us ++ [u]).Nodup := (List.pairwise_append.mp (x3.nodup_iff.mpr hnd)).2.1
    have hmin : ∀ b ∈ us ++ [u], tlt b ((us ++ [u]).getD 0 t0) = false := fun b hb => by
      obtain ⟨i, hi⟩ := List.mem_iff_getElem?.mp hb
      have hlt : i < (us ++ [u]).length := by
        rcases Nat.lt_or_ge i (us ++ [u]).length with h' | h'
        · exact h'
        · rw [List.getElem?_eq_none h'] at hi; cases hi
      have := heap_min x1 i hlt
      rw [List.getD_eq_getElem?_getD, hi] at this
      exact this
    have topin : (us ++ [u]).getD 0 t0 ∈ us ++ [u] := by
      rw [List.getD_eq_getElem?_getD, List.getElem?_eq_getElem (by simp)]
      exact List.getElem_mem _
    generalize (us ++ [u]).getD 0 t0 = top at *
    have ndp : (top :: popF (us ++ [u])).Nodup := r2.nodup_iff.mpr ndg
    have toplt : ∀ b ∈ popF (us ++ [u]), tlt top b = true := fun b hb => tlt_tot (fun e => (List.pairwise_cons.mp ndp).1 b hb e.symm) (hmin b (r2.mem_iff.mp (.tail _ hb)))
    refine ⟨r1, ?_, ?_, ?_, fun a ha b hb => ?_⟩
    · have := r2.length_eq
      dsimp only
      rw [List.length_cons] at this
      omega
    · refine List.Perm.trans ?_ x3
      dsimp only
      rw [List.append_assoc]
      exact r2.append_left d
    · rw [List.pairwise_append]
      exact ⟨x4, List.pairwise_singleton _ _, fun a ha b hb => by rw [List.mem_singleton.mp hb]; exact x5 a ha top topin⟩
    · rcases List.mem_append.mp ha with ha | ha
      · exact x5 a ha b (r2.mem_iff.mp (.tail _ hb))
      · rw [List.mem_singleton.mp ha]; exact toplt b hb

/-- what came in the end -/
def cameF (ns : List Int) (k : Nat) : List T3 := (popSt (simSt ns k (ns.length - k)).1 (simSt ns k (ns.length - k)).2 (simSt ns k (ns.length - k)).1.length).2

theorem trips_nodup {ns : List Int} {rs : List (List Nat)} (h : rs.flatten.Nodup) : (tripsFrom ns 0 rs).Nodup := by
  have : ((tripsFrom ns 0 rs).map (fun t => t.2.2)).Nodup := by
    rw [trips_places]
    exact List.Pairwise.map _ (fun a b hab e => hab (Int.ofNat.inj e)) h
  exact List.Pairwise.of_map _ (fun a b hab e => hab (congrArg (fun t => t.2.2) e)) this

theorem sim_nodup {ns : List Int} {k : Nat} (hk : 1 ≤ k) (hn : 1 ≤ ns.length) {i : Nat} (hi : i ≤ ns.length - k) : ((simSt ns k i).2 ++ (simSt ns k i).1).Nodup := by
  obtain ⟨_, x⟩ := sim_ok hk hn i hi
  refine x.p1.nodup_iff.mpr (trips_nodup ?_)
  have := (runs_perm ns k i hi).nodup_iff.mpr List.nodup_range
  simpa [List.append_assoc] using this

theorem came_ok {ns : List Int} {k : Nat} (hk : 1 ≤ k) (hn : 1 ≤ ns.length) : (cameF ns k).Perm (tripsFrom ns 0 (runsF ns k)) ∧ (cameF ns k).Pairwise (fun a b => tlt a b = true) := by
  obtain ⟨h1, x⟩ := sim_ok hk hn (ns.length - k) (Nat.le_refl _)
  have y := pop_ok h1 (sim_nodup hk hn (Nat.le_refl _)) x.p2 x.p3 _ (Nat.le_refl _)
  refine ⟨?_, y.pw⟩
  have h0 := y.len
  rw [Nat.sub_self] at h0
  have e := List.length_eq_zero_iff.mp h0
  have hp := y.perm
  rw [e, List.append_nil] at hp
  refine hp.trans (x.p1.trans ?_)
  unfold runsF
  dsimp only
  generalize runsSt ns k (ns.length - k) = st
  obtain ⟨rs, run, wait⟩ := st
  dsimp only
  rw [trips_two]
  by_cases hw : wait = []
  · rw [if_pos hw, hw, trips_one]
    simp
  · rw [if_neg hw, List.append_assoc]
    show List.Perm _ (tripsFrom ns 0 (rs ++ [run, wait]))
    rw [trips_two]

/-- the law's heart: what came is what is due -/
theorem came_due {ns : List Int} {k : Nat} (hk : 1 ≤ k) (hn : 1 ≤ ns.length) {ts : List T3} (h1 : ts.Perm (tripsFrom ns 0 (runsF ns k))) (h2 : ts.Pairwise (fun a b => tlt a b = true)) : cameF ns k = ts := by
  obtain ⟨a, b⟩ := came_ok hk hn
  exact uniq (fun x y h k => by rw [tlt_asym h] at k; cases k) (a.trans h1.symm) b h2
end Mine

-- part C8
namespace Mine

section
variable {M : Model} {prog : Program} {w : World} {A : Around} {E : Value → Shared → Prop} {s : Shared} {h₀ : Heap} {F : Fns} {mg mb : Str → Option Value} {env : Env}

theorem ifExp {test body orelse : PySem.Expr} {pos : Pos} {Q : Value → Shared → Prop} (h : wpAny M A (isTrue test env (eval test env)) (fun b s₁ => if b then wpAny M A (eval body env) Q E s₁ else wpAny M A (eval orelse env) Q E s₁) E s) :
    wpAny M A (eval (.IfExp test body orelse pos) env) Q E s := by
  show wpAny M A (do if ← isTrue test env (eval test env) then eval body env else eval orelse env) Q E s
  refine wpAny_bind (wpAny_mono h (fun b s₁ h₁ => ?_) fun _ _ x => x)
  cases b <;> exact h₁

/-- [e1, .., en], its items ints -/
theorem listDisp (s : Shared) {h : Heap} {tk : Nat} {elts : List PySem.Expr} {pos : Pos} {Q : Value → Shared → Prop}
    (h1 : wpAny (model prog w) A (spliced (backTo pos (starEach elts env))) (fun vs s₁ => ∃ tk', s₁ = { s with heap := h, toks := tk' } ∧ vs.length < 2 ^ 20 ∧
      ∀ D h' tk'', Bs h h' → h.get? D = none → h'.PlainList D vs.toArray → Q (.ref D) { s with heap := h', toks := tk'' }) E { s with heap := h, toks := tk }) :
    wpAny (model prog w) A (eval (.List elts pos) env) Q E { s with heap := h, toks := tk } := by
  refine List_ (wpAny_mono h1 (fun vs s₁ hv => ?_) fun _ _ x => x)
  obtain ⟨tk', rfl, hl, c⟩ := hv
  exact wpAny_newObj_type (c _ _ _ (fun _ _ e => Heap.get?_push_of_some _ e) (Heap.get?_none_of_le (Nat.le_refl _)) ⟨0, Heap.get?_push_size _ rfl⟩) (by show vs.toArray.size ≤ _; rw [List.size_toArray, sizeLine_eq]; omega)

theorem slice_len (items : Array Value) (a b : Nat) : ∃ l : List Value, slicePick items (some (a : Int)) (some (b : Int)) none = l.toArray ∧ l.length ≤ b - a ∧ ∀ v ∈ l, v ∈ items.toList := by
  rw [slicePick_plain]
  refine ⟨_, rfl, ?_, fun v hv => List.mem_of_mem_drop (List.mem_of_mem_take hv)⟩
  simp only [Option.elim, clipAt_nat, List.length_take, List.length_drop]
  omega

def AllInts (l : List Value) : Prop := ∀ v ∈ l, ∃ i t, v = Value.int i t
theorem AllInts.are : ∀ {l : List Value}, AllInts l → ∃ ns, IntsAre l ns
  | [], _ => ⟨[], .nil⟩
  | v :: l, h => by
    obtain ⟨i, t, rfl⟩ := h v (.head _)
    obtain ⟨ns, hn⟩ := AllInts.are (l := l) fun u hu => h u (.tail _ hu)
    exact ⟨i :: ns, .cons i t hn⟩


/-- two triples that are the same are not unlike -/
theorem ne_T3 {va vb : Value} {t : T3} {Q : Value → Shared → Prop} (ha : IsT3 s.heap va t) (hb : IsT3 s.heap vb t) (hu : A.units < cLine) (h : Q (.bool false) s) : wpAny (model prog w) A (compareOp .NotEq va vb) Q E s := by
  obtain ⟨a, n, x, y, z, rfl, ha⟩ := ha
  obtain ⟨b, n2, x', y', z', rfl, hb⟩ := hb
  refine SeqAt.RcNeAt.tuples (e := fun _ => true) (items := #[.int t.1 x, .int t.2.1 y, .int t.2.2 z]) (items2 := #[.int t.1 x', .int t.2.1 y', .int t.2.2 z']) ⟨_, ha, rfl, n, rfl⟩ ⟨_, hb, rfl, n2, rfl⟩ hu (fun j h1 h2 => ?_) prog w E Q ?_
  · match j, h1 with
    | 0, _ => have := SeqAt.EqAt.int_int (A := A.in1) (s := s) t.1 x t.1 x'; rw [beq_self_eq_true] at this; exact this
    | 1, _ => have := SeqAt.EqAt.int_int (A := A.in1) (s := s) t.2.1 y t.2.1 y'; rw [beq_self_eq_true] at this; exact this
    | 2, _ => have := SeqAt.EqAt.int_int (A := A.in1) (s := s) t.2.2 z t.2.2 z'; rw [beq_self_eq_true] at this; exact this
  · exact h

/-- the first, the second of a triple -/
theorem item0_T3 {value slice : PySem.Expr} {v : Value} {t : T3} {u : Tok} {Q : Value → Shared → Prop} (hv : IsT3 s.heap v t) (h : ∀ x, Q (.int t.1 x) s)
    (hs : ∀ a, v = .ref a → subscripted slice false (.ref a) (.int 0 u) = operate [.ref a, .int 0 u] (getItem (.ref a) (.int 0 u)) := by intro _ _; with_unfolding_all rfl) :
    wpAny (model prog w) A (subscriptTail value slice v (.int 0 u)) Q E s := by
  obtain ⟨a, n, x, y, z, rfl, ha⟩ := hv
  have ht : IsTup s.heap a [Value.int t.1 x, .int t.2.1 y, .int t.2.2 z].toArray := ⟨_, ha, rfl, n, rfl⟩
  exact item_tupleT ht (by decide) (by decide) rfl rfl (h x) (hs a rfl)
theorem item1_T3 {value slice : PySem.Expr} {v : Value} {t : T3} {u : Tok} {Q : Value → Shared → Prop} (hv : IsT3 s.heap v t) (h : ∀ x, Q (.int t.2.1 x) s)
    (hs : ∀ a, v = .ref a → subscripted slice false (.ref a) (.int 1 u) = operate [.ref a, .int 1 u] (getItem (.ref a) (.int 1 u)) := by intro _ _; with_unfolding_all rfl) :
    wpAny (model prog w) A (subscriptTail value slice v (.int 1 u)) Q E s := by
  obtain ⟨a, n, x, y, z, rfl, ha⟩ := hv
  have ht : IsTup s.heap a [Value.int t.1 x, .int t.2.1 y, .int t.2.2 z].toArray := ⟨_, ha, rfl, n, rfl⟩
  exact item_tupleT ht (by decide) (by decide) rfl rfl (h y) (hs a rfl)
end

/-- the law's frame: room, row -/
structure LSt (h₀ : Heap) (L lr : Addr) (rvs : List Value) (kv : Value) (h : Heap) (m : Str → Option Value) : Prop where
  ns : h.Ns L m
  bs : Bs h₀ h
  cell : h.IsCell (L + 1) (some (.ref lr))
  hr : h.PlainList lr rvs.toArray
  m4 : m "room" = some kv
/-- what stays -/
structure LFix (h₀ : Heap) (L lr : Addr) : Prop where
  nL : h₀.get? L = none
  nr : h₀.get? lr = none

section
variable {h₀ : Heap} {L lr lh lc : Addr} {rvs : List Value} {kv : Value} {h h' : Heap} {m m' : Str → Option Value} {hvs cvs : List Value} {hts cts : List T3}
theorem LSt.keep (x : LSt h₀ L lr rvs kv h m) (k : Bs h h') : LSt h₀ L lr rvs kv h' m := ⟨x.ns.keeps k, fun b o e => k b o (x.bs b o e), x.cell.keeps k, x.hr.at fun o e => k _ o e, x.m4⟩
theorem LSt.other (x : LSt h₀ L lr rvs kv h m) (f : LFix h₀ L lr) {X : List Addr} (k : ∀ b o, b ≠ L → b ∉ X → h.get? b = some o → h'.get? b = some o) (hn : h'.Ns L m') (e4 : m' "room" = m "room")
    (hX : ∀ y ∈ X, h₀.get? y = none ∧ y ≠ L + 1 ∧ y ≠ lr) : LSt h₀ L lr rvs kv h' m' where
  ns := hn
  bs := fun b o e => k b o (fun q => by rw [q, f.nL] at e; cases e) (fun q => by rw [(hX b q).1] at e; cases e) (x.bs b o e)
  cell := let ⟨o, ho, hd⟩ := x.cell; ⟨o, k _ o (IsCell_ne_ns x.cell x.ns) (fun q => (hX _ q).2.1 rfl) ho, hd⟩
  hr := x.hr.at fun o e => k _ o (Heap_Ns_ne x.ns x.hr) (fun q => (hX _ q).2.2 rfl) e
  m4 := e4.trans x.m4

/-- with the heap -/
structure LSH (h₀ : Heap) (L lr lh : Addr) (rvs : List Value) (kv : Value) (h : Heap) (m : Str → Option Value) (hvs : List Value) (hts : List T3) : Prop where
  b : LSt h₀ L lr rvs kv h m
  m5 : m "heap" = some (.ref lh)
  hl : h.PlainList lh hvs.toArray
  ht : T3s (IsT3 h) hvs hts
structure HFix (h₀ : Heap) (L lr lh : Addr) : Prop extends LFix h₀ L lr where
  nh : h₀.get? lh = none
  dr : lh ≠ lr
theorem LSH.keep (x : LSH h₀ L lr lh rvs kv h m hvs hts) (k : Bs h h') : LSH h₀ L lr lh rvs kv h' m hvs hts := ⟨x.b.keep k, x.m5, x.hl.at fun o e => k _ o e, x.ht.imp fun _ _ y => IsT3_tk y (TK.bs k)⟩
theorem LSH.other (x : LSH h₀ L lr lh rvs kv h m hvs hts) (f : HFix h₀ L lr lh) {X : List Addr} (k : ∀ b o, b ≠ L → b ∉ X → h.get? b = some o → h'.get? b = some o) (tk : TK h h') (hn : h'.Ns L m') (e4 : m' "room" = m "room") (e5 : m' "heap" = m "heap")
    (hX : ∀ y ∈ X, h₀.get? y = none ∧ y ≠ L + 1 ∧ y ≠ lr ∧ y ≠ lh) : LSH h₀ L lr lh rvs kv h' m' hvs hts where
  b := x.b.other f.toLFix k hn e4 fun y hy => ⟨(hX y hy).1, (hX y hy).2.1, (hX y hy).2.2.1⟩
  m5 := e5.trans x.m5
  hl := x.hl.at fun o e => k _ o (Heap_Ns_ne x.b.ns x.hl) (fun q => (hX _ q).2.2.2 rfl) e
  ht := x.ht.imp fun _ _ y => IsT3_tk y tk
/-- a call has turned the heap -/
theorem LSH.turned (x : LSH h₀ L lr lh rvs kv h m hvs hts) (f : HFix h₀ L lr lh) {hvs' : List Value} {hts' : List T3} (k : Ext lh h h') (hl : h'.PlainList lh hvs'.toArray) (ht : T3s (IsT3 h) hvs' hts') : LSH h₀ L lr lh rvs kv h' m hvs' hts' where
  b := ⟨x.b.ns.at' fun o e => k _ o (Heap_Ns_ne x.b.ns x.hl).symm e, x.b.bs.ext f.nh k, (let ⟨o, ho, hd⟩ := x.b.cell; ⟨o, k _ o (IsCell_ne_list x.b.cell x.hl) ho, hd⟩), x.b.hr.at fun o e => k _ o f.dr.symm e, x.b.m4⟩
  m5 := x.m5
  hl := hl
  ht := ht.imp fun _ _ y => IsT3_tk y (TK.list x.hl k)

/-- with what came -/
structure LSC (h₀ : Heap) (L lr lh lc : Addr) (rvs : List Value) (kv : Value) (h : Heap) (m : Str → Option Value) (hvs : List Value) (hts : List T3) (cvs : List Value) (cts : List T3) : Prop where
  b : LSH h₀ L lr lh rvs kv h m hvs hts
  m6 : m "came" = some (.ref lc)
  hl : h.PlainList lc cvs.toArray
  ht : T3s (IsT3 h) cvs cts
structure CFix (h₀ : Heap) (L lr lh lc : Addr) : Prop extends HFix h₀ L lr lh where
  nc : h₀.get? lc = none
  cr : lc ≠ lr
  ch : lc ≠ lh
theorem LSC.keep (x : LSC h₀ L lr lh lc rvs kv h m hvs hts cvs cts) (k : Bs h h') : LSC h₀ L lr lh lc rvs kv h' m hvs hts cvs cts := ⟨x.b.keep k, x.m6, x.hl.at fun o e => k _ o e, x.ht.imp fun _ _ y => IsT3_tk y (TK.bs k)⟩
theorem LSC.other (x : LSC h₀ L lr lh lc rvs kv h m hvs hts cvs cts) (f : CFix h₀ L lr lh lc) {X : List Addr} (k : ∀ b o, b ≠ L → b ∉ X → h.get? b = some o → h'.get? b = some o) (tk : TK h h') (hn : h'.Ns L m') (e4 : m' "room" = m "room") (e5 : m' "heap" = m "heap") (e6 : m' "came" = m "came")
    (hX : ∀ y ∈ X, h₀.get? y = none ∧ y ≠ L + 1 ∧ y ≠ lr ∧ y ≠ lh ∧ y ≠ lc) : LSC h₀ L lr lh lc rvs kv h' m' hvs hts cvs cts where
  b := x.b.other f.toHFix k tk hn e4 e5 fun y hy => ⟨(hX y hy).1, (hX y hy).2.1, (hX y hy).2.2.1, (hX y hy).2.2.2.1⟩
  m6 := e6.trans x.m6
  hl := x.hl.at fun o e => k _ o (Heap_Ns_ne x.b.b.ns x.hl) (fun q => (hX _ q).2.2.2.2 rfl) e
  ht := x.ht.imp fun _ _ y => IsT3_tk y tk
theorem LSC.name (x : LSC h₀ L lr lh lc rvs kv h m hvs hts cvs cts) (f : CFix h₀ L lr lh lc) (hn : h'.Ns L m') (k : Heap.SameBut L h h') (e4 : m' "room" = m "room") (e5 : m' "heap" = m "heap") (e6 : m' "came" = m "came") : LSC h₀ L lr lh lc rvs kv h' m' hvs hts cvs cts :=
  x.other f (X := []) (fun b o hb _ e => k.extBut b o hb e) (TK.ns x.b.b.ns k) hn e4 e5 e6 fun _ hy => (nomatch hy)
theorem LSC.turned (x : LSC h₀ L lr lh lc rvs kv h m hvs hts cvs cts) (f : CFix h₀ L lr lh lc) {hvs' : List Value} {hts' : List T3} (k : Ext lh h h') (hl : h'.PlainList lh hvs'.toArray) (ht : T3s (IsT3 h) hvs' hts') : LSC h₀ L lr lh lc rvs kv h' m hvs' hts' cvs cts where
  b := x.b.turned f.toHFix k hl ht
  m6 := x.m6
  hl := x.hl.at fun o e => k _ o f.ch e
  ht := x.ht.imp fun _ _ y => IsT3_tk y (TK.list x.b.hl k)
theorem LSC.grow (x : LSC h₀ L lr lh lc rvs kv h m hvs hts cvs cts) (f : CFix h₀ L lr lh lc) {v : Value} {t : T3} (k : Heap.SameBut lc h h') (hl : h'.PlainList lc (cvs ++ [v]).toArray) (hv : IsT3 h v t) : LSC h₀ L lr lh lc rvs kv h' m hvs hts (cvs ++ [v]) (cts ++ [t]) := by
  have tk : TK h h' := TK.list x.hl fun b o hb e => k.extBut b o hb e
  exact {
    b := {
      b := ⟨x.b.b.ns.sameBut k (Heap_Ns_ne x.b.b.ns x.hl).symm, x.b.b.bs.ext f.nc fun b o hb e => k.extBut b o hb e, x.b.b.cell.sameBut k (IsCell_ne_list x.b.b.cell x.hl), x.b.b.hr.at fun o e => k.extBut _ o f.cr.symm e, x.b.b.m4⟩
      m5 := x.b.m5
      hl := x.b.hl.at fun o e => k.extBut _ o f.ch.symm e
      ht := x.b.ht.imp fun _ _ y => IsT3_tk y tk }
    m6 := x.m6
    hl := hl
    ht := (x.ht.snoc hv).imp fun _ _ y => IsT3_tk y tk }
end

section
variable {M : Model} {prog : Program} {w : World} {A : Around} {E : Value → Shared → Prop} {s : Shared} {h₀ : Heap} {F : Fns} {mg mb : Str → Option Value} {env : Env}
set_option maxHeartbeats 4000000 in
theorem law_body (P : PW h₀ F mg mb) {L fa ls : Addr} {cdv : Value} {h₁ : Heap} {tk : Nat} {m₁ : Str → Option Value} {svs : List Value} {sns : List Int} {Q : Flow → Shared → Prop}
    (hL : h₀.get? L = none)
    (hns : h₁.Ns L m₁) (hms : m₁ "script" = some (.ref ls)) (hcell : h₁.IsCell (L + 1) none) (hb : Bs h₀ h₁) (hs : h₀.IsList ls svs.toArray) (hsi : IntsAre svs sns) (hsz : svs.length ≤ 63)
    (rest : ∀ (k : Nat) t h₂ tk₂ m₂, 1 ≤ k → k ≤ 12 → h₂.Ns L m₂ → m₂ "script" = some (.ref ls) → m₂ "room" = some (.int k t) → h₂.IsCell (L + 1) none → Bs h₀ h₂ →
      wpAny (model prog w) A (execs ((bd 11).drop 1) (envC 11 L fa cdv)) Q E { s with heap := h₂, toks := tk₂ }) :
    wpAny (model prog w) A (execs (bd 11) (envC 11 L fa cdv)) Q E { s with heap := h₁, toks := tk } := by
  have hs₁ : h₁.IsList ls svs.toArray := hs.at fun o e => hb _ o e
  -- room = script[0] % 12 + 1 if script else 2
  refine wpAny_execs_cons (wpAny_Assign_Name (ifExp (isTrue_plain (ldv hns hms (wpAny_truthy_list hs₁ (by simp; omega) ?_)))))
  cases hv : svs with
  | nil =>
    rw [if_neg (by simp)]
    refine wpAny_Constant_int (stv s hns (fun h₂ _ hn₂ hs₂ => ?_))
    exact rest 2 _ h₂ _ _ (by omega) (by omega) hn₂ (lkn hms) lke (hcell.sameBut hs₂ (IsCell_ne_ns hcell hns)) (fun b o e => hs₂.extBut b o (fun q => by rw [q] at e; exact absurd (hL.symm.trans e) (by simp)) (hb b o e))
  | cons v0 vr =>
    rw [hv] at hsi hs₁
    cases hsi with
    | cons n0 t0 hr0 =>
      rw [if_pos (by simp)]
      refine wpAny_BinOp (wpAny_BinOp (Subscript_ (ldv hns hms (wpAny_Constant_int ?_))))
      refine tail_any hs₁.typeIs slot_list_getitem.lookup (wpAny_getItem_list (x := .int n0 t0) hs₁ (by omega) (by omega) (by simp) (wpAny_Constant_int (mod_int' (by decide) (wpAny_Constant_int (add_int ?_))))) (by with_unfolding_all rfl)
      have e1 : Int.fmod n0 12 + 1 = ((n0 % 12 + 1).toNat : Int) := by
        rw [Int.fmod_eq_emod_of_nonneg n0 (by decide)]; omega
      rw [e1]
      refine stv s hns (fun h₂ _ hn₂ hs₂ => ?_)
      exact rest _ _ h₂ _ _ (by omega) (by omega) hn₂ (lkn hms) lke (hcell.sameBut hs₂ (IsCell_ne_ns hcell hns)) (fun b o e => hs₂.extBut b o (fun q => by rw [q] at e; exact absurd (hL.symm.trans e) (by simp)) (hb b o e))
end
end Mine

-- part C9
namespace Mine
section
variable {prog : Program} {w : World} {A : Around} {E : Value → Shared → Prop} {s : Shared} {h₀ : Heap} {F : Fns} {mg mb : Str → Option Value}

/-- a range iterator is none of these -/
theorem rangeIter_ne {h : Heap} {I : Addr} {a b c : Int} (hit : IsRangeIter h I a b c) : (∀ {l its}, h.PlainList l its → l ≠ I) ∧ (∀ {L m}, h.Ns L m → L ≠ I) ∧ (∀ {c v}, h.IsCell c v → c ≠ I) ∧ ∀ xs n, h.get? I ≠ some { cls := .type "tuple", data := .seq xs n } := by
  have hit : h.get? I = _ := hit
  refine ⟨fun {l its} hl q => ?_, fun {L m} hn q => ?_, fun {c v} hc q => ?_, fun xs n e => ?_⟩
  · obtain ⟨n, ho⟩ := hl; rw [q, hit] at ho; simp at ho
  · obtain ⟨o, es, ep, ho, hd, _⟩ := hn; rw [q, hit] at ho; cases ho; simp at hd
  · obtain ⟨o, ho, hd⟩ := hc; rw [q, hit] at ho; cases ho; simp at hd
  · rw [hit] at e; simp at e

set_option maxHeartbeats 4000000 in
theorem law_loop (P : PW h₀ F mg mb) {L fa lr lh lc : Addr} {cdv : Value} {rvs : List Value} {ns : List Int} {k : Nat} {t : Tok} {Q : Flow → Shared → Prop}
    (hh : A.handled = none) (hroom : A.depth + 8 < recursionLimit) (hu : A.units + 128 < cLine) (f : CFix h₀ L lr lh lc) (hri : IntsAre rvs ns) (hk1 : 1 ≤ k) (hk2 : k ≤ 12) (hn1 : 7 ≤ ns.length) (hn2 : ns.length ≤ 47)
    (next : ∀ h tk m hvs cvs, LSC h₀ L lr lh lc rvs (.int k t) h m hvs (simSt ns k (ns.length - k)).1 cvs (simSt ns k (ns.length - k)).2 → wpAny (model prog w) A (execs ((bd 11).drop 6) (envC 11 L fa cdv)) Q E { s with heap := h, toks := tk })
    {h : Heap} {tk : Nat} {m : Str → Option Value} {hvs cvs : List Value} (x : LSC h₀ L lr lh lc rvs (.int k t) h m hvs (simSt ns k 0).1 cvs (simSt ns k 0).2) :
    wpAny (model prog w) A (execs ((bd 11).drop 5) (envC 11 L fa cdv)) Q E { s with heap := h, toks := tk } := by
  have hrl : rvs.length = ns.length := hri.length
  have B₀ : Bs h₀ h := x.b.b.bs
  -- for place in range(room, len(row))
  refine wpAny_execs_cons (wpAny_For (wpAny_Call_NameR (ldb (P.g.keeps B₀) P.grange (P.b.keeps B₀) P.brange ?_)))
  refine PyProof.Rows.callWith_type1 (args_cons (ldv x.b.b.ns x.b.b.m4 (args_cons ?_)))
  refine callLenE s (P.g.keeps B₀) P.glen (P.b.keeps B₀) P.blen (ldc x.b.b.cell ⟨h, _, lr, rvs, rfl, rfl, x.b.b.hr, by omega, fun t' tk' => args_nil ?_⟩)
  refine callRange2 s (fun r ha _ hra hka hRa => ?_)
  obtain ⟨_, _, _, hRa⟩ := hRa
  refine iterRange s hRa (by omega) (by omega) (by omega) (by omega) (fun I hb _ hI hkb hit => ?_)
  have kab : Bs h hb := fun b o e => hkb b o (hka b o e)
  have hI0 : h₀.get? I = none := by
    cases q : h₀.get? I with
    | none => rfl
    | some o => have := hka _ _ (x.b.b.bs _ _ q); rw [hI] at this; cases this
  obtain ⟨i1, i2, i3, i4⟩ := rangeIter_ne hit
  have xb := x.keep kab
  have hIL : L ≠ I := i2 xb.b.b.ns
  have hX : ∀ y ∈ [I], h₀.get? y = none ∧ y ≠ L + 1 ∧ y ≠ lr ∧ y ≠ lh ∧ y ≠ lc := fun y hy => by
    rw [List.mem_singleton.mp hy]
    exact ⟨hI0, (i3 xb.b.b.cell).symm, (i1 xb.b.b.hr).symm, (i1 xb.b.hl).symm, (i1 xb.hl).symm⟩
  have W := Walks.range (prog := prog) (w := w) (A := A) hh I k 1 (((rvs.length : Int) - k).toNat)
  have hN : ((rvs.length : Int) - k).toNat = ns.length - k := by omega
  rw [hN] at W hit
  refine forW s W (by simpa using hIL) (fun i h m => ∃ hvs cvs, LSC h₀ L lr lh lc rvs (.int k t) h m hvs (simSt ns k i).1 cvs (simSt ns k i).2 ∧ (simSt ns k i).2.length = i) hit xb.b.b.ns ⟨hvs, cvs, xb, rfl⟩ ?_ ?_
  · rintro i v hc mc hd tkd hi ⟨tp, rfl⟩ ⟨hvs, cvs, y, hcl⟩ hst hnc hkd hstd hnd
    obtain ⟨j1, j2, j3, j4⟩ := rangeIter_ne hst
    have y₁ := y.other f hkd (fun b xs n e => hkd b _ (fun q => by
        obtain ⟨o, es, ep, ho, hd', _⟩ := hnc
        rw [q] at e
        rw [e] at ho; cases ho; cases hd') (fun q => by rw [List.mem_singleton.mp q] at e; exact j4 xs n e) e) hnd (lkn rfl) (lkn rfl) (lkn rfl) hX
    have epl : (k : Int) + (i : Int) * 1 = ((k + i : Nat) : Int) := by omega
    have mpl : (fun z => if z = Str.ofString "place" then some (Value.int ((k : Int) + (i : Int) * 1) tp) else mc z) "place" = some (.int ((k + i : Nat) : Int) tp) := by rw [epl]; exact lke
    generalize (fun z => if z = Str.ofString "place" then some (Value.int ((k : Int) + (i : Int) * 1) tp) else mc z) = m₁ at hnd y₁ mpl
    clear y
    obtain ⟨hheap, hrsi⟩ := sim_ok (ns := ns) (k := k) hk1 (by omega) i (by omega)
    have hlen := hrsi.p6
    have hmin : min k ns.length = k := by omega
    rw [hmin] at hlen
    have hhl : hvs.length = k := by rw [y₁.b.ht.1, hlen]
    obtain ⟨v0, hv0, hv0t⟩ := y₁.b.ht.get (i := 0) (by omega)
    obtain ⟨up, hup⟩ : ∃ u, rvs[k + i]? = some (.int (ns.getD (k + i) 0) u) := hri.get (k + i) _ (by rw [List.getD_eq_getElem?_getD, List.getElem?_eq_getElem (by omega)]; rfl)
    -- top = heap[0]
    refine wpAny_execs_cons (wpAny_Assign_Name (Subscript_ (ldv y₁.b.b.ns y₁.b.m5 (wpAny_Constant_int (itemN (k := 0) y₁.b.hl (by omega) hv0 (stv s y₁.b.b.ns (fun h₂ _ hn₂ hs₂ => ?_)))))))
    have y₂ := y₁.name f hn₂ hs₂ (lkn rfl) (lkn rfl) (lkn rfl)
    have t₂ : TK hd h₂ := TK.ns y₁.b.b.ns hs₂
    have hv2 := IsT3_tk hv0t t₂
    -- run = top[0]
    refine wpAny_execs_cons (wpAny_Assign_Name (Subscript_ (ldv hn₂ lke (wpAny_Constant_int (item0_T3 hv2 (fun xr => stv s hn₂ (fun h₃ _ hn₃ hs₃ => ?_)))))))
    have y₃ := y₂.name f hn₃ hs₃ (lkn rfl) (lkn rfl) (lkn rfl)
    have hv3 := IsT3_tk hv2 (TK.ns hn₂ hs₃)
    -- if row[place] < top[1]: run += 1
    have rest : ∀ h₄ tk₄ m₄ xr', LSC h₀ L lr lh lc rvs (.int k t) h₄ m₄ hvs (simSt ns k i).1 cvs (simSt ns k i).2 → IsT3 h₄ v0 ((simSt ns k i).1.getD 0 t0) → m₄ "place" = some (.int ((k + i : Nat) : Int) tp) → m₄ "top" = some v0 →
        m₄ "run" = some (.int (nextT ns ((simSt ns k i).1.getD 0 t0) (k + i)).1 xr') → (∀ o, hd.get? I = some o → h₄.get? I = some o) →
        wpAny (model prog w) A (execs ((forBody ((bd 11).getD 5 (.Pass default))).drop 3) (envC 11 L fa cdv)) (fun fl s₃ => match fl with
          | .next | .cont => ∃ h₃ tk₃ m₃, s₃ = { s with heap := h₃, toks := tk₃ } ∧ (∀ b ∈ [I], ∀ o, hd.get? b = some o → h₃.get? b = some o) ∧ h₃.Ns L m₃ ∧ ∃ hvs cvs, LSC h₀ L lr lh lc rvs (.int k t) h₃ m₃ hvs (simSt ns k (i + 1)).1 cvs (simSt ns k (i + 1)).2 ∧ (simSt ns k (i + 1)).2.length = i + 1
          | _ => False) (fun _ _ => False) { s with heap := h₄, toks := tk₄ } := by
      intro h₄ tk₄ m₄ xr' z hv4 mp mt mr hI4
      have B₄ : Bs h₀ h₄ := z.b.b.bs
      -- heapreplace(heap, (run, row[place], place)) != top or not _law_sound(heap)
      refine wpAny_execs_cons (wpAny_If (isTrue_or (wpAny_isTrue_Compare1 (callDef P.frep (P.g.keeps B₄) P.grep (args_cons (ldv z.b.b.ns z.b.m5 (args_cons ?_)))))))
      refine Tuple_ (args_cons (ldv z.b.b.ns mr (args_cons (Subscript_ (ldc z.b.b.cell (ldv z.b.b.ns mp (itemN z.b.b.hr (by omega) hup (args_cons (ldv z.b.b.ns mp (args_nil ?_)))))))))) 
      refine newT3 s (t := nextT ns ((simSt ns k i).1.getD 0 t0) (k + i)) (fun vn h₅ _ hk₅ hvn => ?_)
      have z₅ := z.keep hk₅
      refine args_nil ⟨z₅.b.b.bs, ?_⟩
      obtain ⟨r1, r2⟩ := replace_ok (t := nextT ns ((simSt ns k i).1.getD 0 t0) (k + i)) (by omega) hheap
      refine replace_spec (R := IsT3 h₅) P z₅.b.b.bs (fun _ _ r => r) (by omega) (by omega) f.nh z₅.b.hl z₅.b.ht hvn (by omega) (by omega) (fun v' h₆ _ hvs₆ hv6 hx₆ hl₆ ht₆ => ?_)
      have z₆ := z₅.turned f hx₆ hl₆ ht₆
      have t₆ : TK h₅ h₆ := TK.list z₅.b.hl hx₆
      refine ldv z₆.b.b.ns mt (ne_T3 (IsT3_tk hv6 t₆) (IsT3_tk (hv4.bs hk₅) t₆) (by omega) (wpAny_truthy_bool ?_))
      rw [if_neg (by simp)]
      refine isTrue_or (isTrue_not (isTrue_plain (callDef P.fsnd (P.g.keeps z₆.b.b.bs) P.gsnd (args_cons (ldv z₆.b.b.ns z₆.b.m5 (args_nil ⟨z₆.b.b.bs, ?_⟩))))))
      refine sound_spec P z₆.b.b.bs hh (by omega) (by omega) z₆.b.hl z₆.b.ht (by rw [siftupF_length, List.length_set]; omega) r1 (fun h₇ _ hk₇ => wpAny_truthy_bool ?_)
      have z₇ := z₆.keep hk₇
      rw [Bool.not_true, if_neg (by simp)]
      refine isTrue_or_nil ?_
      rw [if_neg (by simp)]
      -- came.append(top)
      have hv7 : IsT3 h₇ v0 ((simSt ns k i).1.getD 0 t0) := IsT3_tk (IsT3_tk (hv4.bs hk₅) t₆) (TK.bs hk₇)
      refine wpAny_execs_nil (wpAny_execs_cons (stmtAppend (ldv z₇.b.b.ns z₇.m6 ⟨lc, _, rfl, z₇.hl, ldv z₇.b.b.ns mt (appendL s z₇.hl (by rw [z₇.ht.1, hcl]; omega) (fun h₈ _ hl₈ hs₈ => ⟨rfl, ?_⟩))⟩)))
      have z₈ := z₇.grow f hs₈ hl₈ hv7
      refine wpAny_execs_nil ⟨h₈, _, m₄, rfl, fun b hb o e => ?_, z₈.b.b.ns, hvs₆, cvs ++ [v0], z₈, by show ((simSt ns k i).2 ++ [_]).length = _; simp [hcl]⟩
      rw [List.mem_singleton.mp hb] at e ⊢
      have hI4' := hI4 o e
      have n1 : I ≠ lh := (hX I (.head _)).2.2.2.1
      have n2 : I ≠ lc := (hX I (.head _)).2.2.2.2
      exact hs₈.extBut _ o n2 (hk₇ _ o (hx₆ _ o n1 (hk₅ _ o hI4')))
    refine wpAny_execs_cons (wpAny_If (wpAny_isTrue_Compare1 (Subscript_ (ldc y₃.b.b.cell (ldv hn₃ (lkn (lkn mpl)) (itemN y₃.b.b.hr (by omega) hup (Subscript_ (ldv hn₃ (lkn lke) (wpAny_Constant_int (item1_T3 hv3 (fun xr' => lt_int (wpAny_truthy_bool ?_)))))))))))) 
    have hI3 : ∀ o, hd.get? I = some o → h₃.get? I = some o := fun o e => hs₃.extBut _ o hIL.symm (hs₂.extBut _ o hIL.symm e)
    by_cases hc : ns.getD (k + i) 0 < ((simSt ns k i).1.getD 0 t0).2.1
    · rw [if_pos (decide_eq_true hc)]
      refine wpAny_execs_cons (wpAny_AugAssign_Name (wpAny_loadName_local rfl rfl hn₃ lke (wpAny_Constant_int (iadd_int (stv s hn₃ (fun h₄ _ hn₄ hs₄ => ?_))))))
      have y₄ := y₃.name f hn₄ hs₄ (lkn rfl) (lkn rfl) (lkn rfl)
      have er : (nextT ns ((simSt ns k i).1.getD 0 t0) (k + i)).1 = ((simSt ns k i).1.getD 0 t0).1 + 1 := by unfold nextT; rw [if_pos hc]
      refine wpAny_execs_nil (wpAny_mono (rest h₄ _ _ _ y₄ (IsT3_tk hv3 (TK.ns hn₃ hs₄)) (lkn (lkn (lkn mpl))) (lkn (lkn lke)) (by rw [er]; exact lke) (fun o e => hs₄.extBut _ o hIL.symm (hI3 o e))) (fun fl s₃ hf => ?_) fun _ _ x => x.elim)
      cases fl <;> first | exact hf | exact hf.elim
    · rw [if_neg (by rw [decide_eq_true_iff]; exact hc)]
      have er : (nextT ns ((simSt ns k i).1.getD 0 t0) (k + i)).1 = ((simSt ns k i).1.getD 0 t0).1 := by unfold nextT; rw [if_neg hc]
      refine wpAny_execs_nil (wpAny_mono (rest h₃ _ _ _ y₃ hv3 (lkn (lkn mpl)) (lkn lke) (by rw [er]; exact lke) hI3) (fun fl s₃ hf => ?_) fun _ _ x => x.elim)
      cases fl <;> first | exact hf | exact hf.elim
  · rintro hc mc hd tkd ⟨hvs, cvs, y, hcl⟩ hst hnc hkd hnd
    obtain ⟨j1, j2, j3, j4⟩ := rangeIter_ne hst
    have y₁ := y.other f (fun b o hb hw e => hkd b o hw e) (fun b xs n e => hkd b _ (fun q => by rw [List.mem_singleton.mp q] at e; exact j4 xs n e) e) hnd rfl rfl rfl hX
    exact next hd _ _ hvs cvs y₁

set_option maxHeartbeats 4000000 in
theorem law_pops (P : PW h₀ F mg mb) {L fa lr lh lc : Addr} {cdv : Value} {rvs : List Value} {ns : List Int} {k : Nat} {t : Tok} {Q : Flow → Shared → Prop}
    (hh : A.handled = none) (hroom : A.depth + 8 < recursionLimit) (hu : A.units + 128 < cLine) (f : CFix h₀ L lr lh lc) (hk1 : 1 ≤ k) (hk2 : k ≤ 12) (hn1 : 7 ≤ ns.length) (hn2 : ns.length ≤ 47)
    (next : ∀ h tk m cvs, LSC h₀ L lr lh lc rvs (.int k t) h m [] [] cvs (cameF ns k) → wpAny (model prog w) A (execs ((bd 11).drop 7) (envC 11 L fa cdv)) Q E { s with heap := h, toks := tk })
    {h : Heap} {tk : Nat} {m : Str → Option Value} {hvs cvs : List Value} (x : LSC h₀ L lr lh lc rvs (.int k t) h m hvs (simSt ns k (ns.length - k)).1 cvs (simSt ns k (ns.length - k)).2) :
    wpAny (model prog w) A (execs ((bd 11).drop 6) (envC 11 L fa cdv)) Q E { s with heap := h, toks := tk } := by
  have B₀ : Bs h₀ h := x.b.b.bs
  obtain ⟨h1, rsi⟩ := sim_ok (ns := ns) (k := k) hk1 (by omega) (ns.length - k) (Nat.le_refl _)
  have nd := sim_nodup (ns := ns) (k := k) hk1 (by omega) (Nat.le_refl _)
  have pok := pop_ok h1 nd rsi.p2 rsi.p3
  have hlen : (simSt ns k (ns.length - k)).1.length ≤ 12 := by rw [rsi.p6]; omega
  have hclen : (simSt ns k (ns.length - k)).2.length ≤ 47 := by
    have := (rsi.p1.length_eq)
    have h2 := (runs_perm ns k (ns.length - k) (Nat.le_refl _)).length_eq
    rw [List.length_range] at h2
    have h3 : (tripsFrom ns 0 ((runsSt ns k (ns.length - k)).1 ++ [(runsSt ns k (ns.length - k)).2.1, (runsSt ns k (ns.length - k)).2.2])).length = ((runsSt ns k (ns.length - k)).1 ++ [(runsSt ns k (ns.length - k)).2.1, (runsSt ns k (ns.length - k)).2.2]).flatten.length := by
      have := congrArg List.length (trips_places ns ((runsSt ns k (ns.length - k)).1 ++ [(runsSt ns k (ns.length - k)).2.1, (runsSt ns k (ns.length - k)).2.2]) 0)
      rw [List.length_map, List.length_map] at this
      exact this
    rw [h3, List.flatten_append, List.length_append] at this
    simp at this h2
    omega
  have hdef : cameF ns k = (popSt (simSt ns k (ns.length - k)).1 (simSt ns k (ns.length - k)).2 (simSt ns k (ns.length - k)).1.length).2 := rfl
  generalize simSt ns k (ns.length - k) = st at *
  obtain ⟨H, C⟩ := st
  dsimp only at *
  -- for _ in range(len(heap))
  refine wpAny_execs_cons (wpAny_For (wpAny_Call_NameR (ldb (P.g.keeps B₀) P.grange (P.b.keeps B₀) P.brange ?_)))
  refine PyProof.Rows.callWith_type1 (args_cons ?_)
  refine callLen s (P.g.keeps B₀) P.glen (P.b.keeps B₀) P.blen x.b.b.ns x.b.m5 x.b.hl (by rw [x.b.ht.1]; omega) (fun te _ => args_nil ?_)
  rw [x.b.ht.1]
  refine callRange1 s (fun r ha _ hra hka hRa => ?_)
  obtain ⟨_, _, _, hRa⟩ := hRa
  refine iterRange s hRa (by omega) (by omega) (by omega) (by omega) (fun I hb _ hI hkb hit => ?_)
  rw [show ((H.length : Int) - 0).toNat = H.length by omega] at hit
  have kab : Bs h hb := fun b o e => hkb b o (hka b o e)
  have hI0 : h₀.get? I = none := by
    cases q : h₀.get? I with
    | none => rfl
    | some o => have := hka _ _ (x.b.b.bs _ _ q); rw [hI] at this; cases this
  obtain ⟨i1, i2, i3, i4⟩ := rangeIter_ne hit
  have xb := x.keep kab
  have hIL : L ≠ I := i2 xb.b.b.ns
  have hX : ∀ y ∈ [I], h₀.get? y = none ∧ y ≠ L + 1 ∧ y ≠ lr ∧ y ≠ lh ∧ y ≠ lc := fun y hy => by
    rw [List.mem_singleton.mp hy]
    exact ⟨hI0, (i3 xb.b.b.cell).symm, (i1 xb.b.b.hr).symm, (i1 xb.b.hl).symm, (i1 xb.hl).symm⟩
  have W := Walks.range (prog := prog) (w := w) (A := A) hh I 0 1 H.length
  refine forW s W (by simpa using hIL) (fun i h m => ∃ hvs cvs, LSC h₀ L lr lh lc rvs (.int k t) h m hvs (popSt H C i).1 cvs (popSt H C i).2 ∧ (popSt H C i).2.length = C.length + i) hit xb.b.b.ns ⟨hvs, cvs, xb, rfl⟩ ?_ ?_
  · rintro i v hc mc hd tkd hi ⟨tp, rfl⟩ ⟨hvs, cvs, y, hcl⟩ hst hnc hkd hstd hnd
    obtain ⟨j1, j2, j3, j4⟩ := rangeIter_ne hst
    have y₁ := y.other f hkd (fun b xs n e => hkd b _ (fun q => by
        obtain ⟨o, es, ep, ho, hd', _⟩ := hnc
        rw [q] at e
        rw [e] at ho; cases ho; cases hd') (fun q => by rw [List.mem_singleton.mp q] at e; exact j4 xs n e) e) hnd (lkn rfl) (lkn rfl) (lkn rfl) hX
    clear y
    have hi : i < H.length := hi
    have ok := pok i (by omega)
    have ok' := pok (i + 1) (by omega)
    have hl1 := ok.len
    have hne : (popSt H C i).1 ≠ [] := fun e => by rw [e] at hl1; simp at hl1; omega
    obtain ⟨us, u, hus⟩ : ∃ us u, (popSt H C i).1 = us ++ [u] := ⟨_, _, (List.dropLast_concat_getLast hne).symm⟩
    have hpop : (popSt H C (i + 1)).1 = if us = [] then [] else siftupF 0 (us.set 0 u) := by
      show popF (popSt H C i).1 = _
      rw [hus]; unfold popF
      rw [List.dropLast_concat, List.getLastD_concat]
    have hcame : (popSt H C (i + 1)).2 = (popSt H C i).2 ++ [(us ++ [u]).getD 0 t0] := by
      show (popSt H C i).2 ++ [(popSt H C i).1.getD 0 t0] = _
      rw [hus]
    have ht1 := y₁.b.ht
    rw [hus] at ht1
    -- the values
    have hvne : hvs ≠ [] := fun e => by have := ht1.1; rw [e] at this; simp at this
    obtain ⟨vus, vu, rfl⟩ : ∃ vus vu, hvs = vus ++ [vu] := ⟨_, _, (List.dropLast_concat_getLast hvne).symm⟩
    have hvl : vus.length = us.length := by have := ht1.1; simp at this; exact this
    have htus : T3s (IsT3 hd) vus us := ⟨hvl, fun j v hv => by
      have hj : j < vus.length := by
        rcases Nat.lt_or_ge j vus.length with h' | h'
        · exact h'
        · rw [List.getElem?_eq_none h'] at hv; cases hv
      have := ht1.2 j v (by rw [List.getElem?_append_left hj]; exact hv)
      rw [List.getD_eq_getElem?_getD, List.getElem?_append_left (by omega), ← List.getD_eq_getElem?_getD] at this
      exact this⟩
    have htu : IsT3 hd vu u := by
      have := ht1.2 vus.length vu (by rw [List.getElem?_append_right (Nat.le_refl _)]; simp)
      rw [List.getD_eq_getElem?_getD, hvl, List.getElem?_append_right (Nat.le_refl _)] at this
      simpa using this
    have husl : us.length < 12 := by rw [hus] at hl1; simp at hl1; omega
    -- came.append(heappop(heap))
    refine wpAny_execs_cons (stmtAppend (ldv y₁.b.b.ns y₁.m6 ⟨lc, _, rfl, y₁.hl, callDef P.fpop (P.g.keeps y₁.b.b.bs) P.gpop (args_cons (ldv y₁.b.b.ns y₁.b.m5 (args_nil ⟨y₁.b.b.bs, ?_⟩)))⟩))
    refine pop_spec (R := IsT3 hd) P y₁.b.b.bs (fun _ _ r => r) (by omega) (by omega) f.nh y₁.b.hl htus htu (by omega) (fun v' h₂ _ hvs₂ hv2 hx₂ hl₂ ht₂ => ?_)
    have y₂ := y₁.turned f hx₂ hl₂ ht₂
    rw [← hpop] at y₂
    have hv2' := IsT3_tk hv2 (TK.list y₁.b.hl hx₂)
    refine appendL s y₂.hl (by rw [y₂.ht.1, hcl]; omega) (fun h₃ _ hl₃ hs₃ => ⟨rfl, ?_⟩)
    have y₃ := y₂.grow f hs₃ hl₃ hv2'
    rw [← hcame] at y₃
    -- if not _law_sound(heap)
    refine wpAny_execs_cons (wpAny_If (isTrue_not (isTrue_plain (callDef P.fsnd (P.g.keeps y₃.b.b.bs) P.gsnd (args_cons (ldv y₃.b.b.ns y₃.b.m5 (args_nil ⟨y₃.b.b.bs, ?_⟩)))))))
    refine sound_spec P y₃.b.b.bs hh (by omega) (by omega) y₃.b.hl y₃.b.ht (by rw [ok'.len]; omega) ok'.heap (fun h₄ _ hk₄ => wpAny_truthy_bool ?_)
    have y₄ := y₃.keep hk₄
    rw [Bool.not_true, if_neg (by simp)]
    refine wpAny_execs_nil (wpAny_execs_nil ⟨h₄, _, _, rfl, fun b hb o e => ?_, y₄.b.b.ns, hvs₂, cvs ++ [v'], y₄, by rw [hcame, List.length_append, hcl]; simp; omega⟩)
    rw [List.mem_singleton.mp hb] at e ⊢
    have n1 : I ≠ lh := (hX I (.head _)).2.2.2.1
    have n2 : I ≠ lc := (hX I (.head _)).2.2.2.2
    exact hk₄ _ o (hs₃.extBut _ o n2 (hx₂ _ o n1 e))
  · rintro hc mc hd tkd ⟨hvs, cvs, y, hcl⟩ hst hnc hkd hnd
    obtain ⟨j1, j2, j3, j4⟩ := rangeIter_ne hst
    have y₁ := y.other f (fun b o hb hw e => hkd b o hw e) (fun b xs n e => hkd b _ (fun q => by rw [List.mem_singleton.mp q] at e; exact j4 xs n e) e) hnd rfl rfl rfl hX
    have ok := pok H.length (Nat.le_refl _)
    have e0 : (popSt H C H.length).1 = [] := List.length_eq_zero_iff.mp (by rw [ok.len]; omega)
    rw [e0, ← hdef] at y₁
    have ev : hvs = [] := List.length_eq_zero_iff.mp y₁.b.ht.1
    subst ev
    exact next hd _ _ cvs y₁
end
end Mine

-- part E1
namespace Mine
section
variable {prog : Program} {w : World} {A : Around} {E : Value → Shared → Prop} {s : Shared} {h₀ : Heap} {F : Fns} {mg mb : Str → Option Value}

theorem IntsAre_mem {vs : List Value} {ns : List Int} (h : IntsAre vs ns) : AllInts vs := by
  induction h with
  | nil => exact fun v hv => (nomatch hv)
  | cons n t _ ih =>
    intro v hv
    rcases List.mem_cons.mp hv with rfl | hv
    · exact ⟨n, t, rfl⟩
    · exact ih v hv

theorem tailSlice (s : Shared) {h : Heap} {tk : Nat} {value slice : PySem.Expr} {ls sl : Addr} {svs : List Value} {a b : Nat} {u v : Tok} {Q : Value → Shared → Prop} (hl : h.IsList ls svs.toArray) (hsl : h.IsSliceOf sl (.int a u) (.int b v) .none)
    (hsz : svs.length < 2 ^ 20) (c : ∀ D h' tk' l, Bs h h' → h'.PlainList D (List.toArray l) → l.length ≤ b - a → (∀ v ∈ l, v ∈ svs) → Q (.ref D) { s with heap := h', toks := tk' })
    (hs : subscripted slice false (.ref ls) (.ref sl) = operate [.ref sl, .ref ls] (getItem (.ref ls) (.ref sl)) := by with_unfolding_all rfl) :
    wpAny (model prog w) A (subscriptTail value slice (.ref ls) (.ref sl)) Q E { s with heap := h, toks := tk } := by
  obtain ⟨l, hsl', hsll, hslm⟩ := slice_len svs.toArray a b
  refine tail_any hl.typeIs slot_list_getitem.lookup (wpAny_getItem_list_slice hl hsl (.int _ _) (.int _ _) .none (by simp) ?_ (by rw [List.size_toArray, sizeLine_eq]; omega)) hs
  rw [hsl']
  exact c _ _ _ l (fun b o e => Heap.get?_push_of_some _ e) ⟨0, Heap.get?_push_size _ rfl⟩ hsll (by simpa using hslm)

theorem sliceE (s : Shared) {env : Env} {h : Heap} {tk : Nat} {e : PySem.Expr} {p1 p2 p3 p4 : Pos} {k1 k2 : Nat} {ls : Addr} {svs : List Value} {a b : Nat} {Q : Value → Shared → Prop}
    (he : ∀ Q' : Value → Shared → Prop, Q' (.ref ls) { s with heap := h, toks := tk } → wpAny (model prog w) A (eval e env) Q' E { s with heap := h, toks := tk }) (hl : h.IsList ls svs.toArray)
    (hsz : svs.length < 2 ^ 20) (c : ∀ D h' tk' l, Bs h h' → h'.PlainList D (List.toArray l) → l.length ≤ b - a → (∀ v ∈ l, v ∈ svs) → Q (.ref D) { s with heap := h', toks := tk' })
    :
    wpAny (model prog w) A (eval (.Subscript e (.Slice (some (.Constant (.int a) k1 p1)) (some (.Constant (.int b) k2 p2)) none p3) p4) env) Q E { s with heap := h, toks := tk } := by
  refine Subscript_ (he _ (wpAny_Slice (evalPart_some_step (wpAny_Constant_int (evalPart_some_step (wpAny_Constant_int (evalPart_none_step ?_)))))))
  exact tailSlice s (a := a) (b := b) (hl.at fun _ e => Heap.get?_push_of_some _ e) ⟨_, Heap.get?_push_size _ rfl, rfl, rfl⟩ hsz (fun D h' tk' l hb => c D h' tk' l (fun b o e => hb b o (Heap.get?_push_of_some _ e)))

theorem addL (s : Shared) {h : Heap} {tk : Nat} {a b : Addr} {us vs : List Value} {Q : Value → Shared → Prop} (ha : h.PlainList a us.toArray) (hb : h.PlainList b vs.toArray) (hsz : us.length + vs.length < 2 ^ 20)
    (c : ∀ D h' tk', Bs h h' → h'.PlainList D (us ++ vs).toArray → Q (.ref D) { s with heap := h', toks := tk' }) : wpAny (model prog w) A (binaryOp .Add (.ref a) (.ref b)) Q E { s with heap := h, toks := tk } := by
  obtain ⟨n, ha⟩ := ha
  obtain ⟨m, hb⟩ := hb
  refine PySem.P.add_list ha hb (c _ _ _ (fun b o e => Heap.get?_push_of_some _ e) ⟨0, ?_⟩) (by rw [List.size_toArray, List.size_toArray, sizeLine_eq]; omega)
  rw [← List.append_toArray]
  exact Heap.get?_push_size _ rfl

set_option maxHeartbeats 4000000 in
theorem law_row (P : PW h₀ F mg mb) {L fa ls : Addr} {cdv : Value} {k : Nat} {t : Tok} {svs : List Value} {sns : List Int} {Q : Flow → Shared → Prop}
    (hh : A.handled = none) (hroom : A.depth + 8 < recursionLimit) (hL : h₀.get? L = none) (hc0 : h₀.get? (L + 1) = none)
    (hs : h₀.IsList ls svs.toArray) (hsi : IntsAre svs sns) (hsz : svs.length ≤ 63)
    (next : ∀ h tk m lr rvs ns, LFix h₀ L lr → IntsAre rvs ns → 7 ≤ ns.length → ns.length ≤ 47 → LSt h₀ L lr rvs (.int k t) h m → wpAny (model prog w) A (execs ((bd 11).drop 2) (envC 11 L fa cdv)) Q E { s with heap := h, toks := tk })
    {h : Heap} {tk : Nat} {m : Str → Option Value} (hns : h.Ns L m) (hms : m "script" = some (.ref ls)) (hmr : m "room" = some (.int k t)) (hcell : h.IsCell (L + 1) none) (hb : Bs h₀ h) :
    wpAny (model prog w) A (execs ((bd 11).drop 1) (envC 11 L fa cdv)) Q E { s with heap := h, toks := tk } := by
  have hs₁ : h.IsList ls svs.toArray := hs.at fun o e => hb _ o e
  have hai := IntsAre_mem hsi
  refine wpAny_execs_cons (wpAny_Assign_Name (listComp s rfl (by decide) (by decide) (wpAny_BinOp (sliceE (a := 1) (b := 41) s (fun Q' hq => ldv hns hms hq) hs₁ (by omega) (fun D₁ h₁ _ l hk₁ hl₁ hll hlm => ?_)))))
  refine listDisp s (args_cons (wpAny_Constant_int (args_cons (wpAny_Constant_int (args_cons (wpAny_Constant_int (args_cons (wpAny_Constant_int (args_cons (wpAny_Constant_int (args_cons (wpAny_Constant_int (args_cons (wpAny_Constant_int (args_nil ⟨_, rfl, by simp, fun D₂ h₂ _ hk₂ hf₂ hl₂ => ?_⟩)))))))))))))))
  have hD₁ := hl₁.at (h' := h₂) fun o e => hk₂ _ o e
  refine addL s hD₁ hl₂ (by simp; omega) (fun D h₃ _ hk₃ hl₃ => ?_)
  generalize hV : l ++ _ = V at hl₃
  have hVl : V.length = l.length + 7 := by rw [← hV]; simp
  have hVi : AllInts V := by
    rw [← hV]
    intro v hv
    rcases List.mem_append.mp hv with hv | hv
    · exact hai v (hlm v hv)
    · simp only [List.mem_cons, List.not_mem_nil, or_false] at hv
      rcases hv with rfl | rfl | rfl | rfl | rfl | rfl | rfl <;> exact ⟨_, _, rfl⟩
  refine iterList s hl₃.isList (fun I he _ hI hke hite hlt => ?_)
  have khe : Bs h he := fun b o e => hke b o (hk₃ b o (hk₂ b o (hk₁ b o e)))
  have hIh : ∀ b o, h.get? b = some o → b ≠ I := fun b o e q => by
    have := hk₃ b o (hk₂ b o (hk₁ b o e))
    rw [q, hI] at this; cases this
  have hneI : D ≠ I := by obtain ⟨n, ho⟩ := hl₃; exact fun q => by rw [q, hI] at ho; cases ho
  have W' := Walks.list (prog := prog) (w := w) (A := A) hh I D hneI V.toArray
  refine ⟨he, _, I, [I, D], [I], _, _, _, fun j ys h => ys.length = j ∧ AllInts ys, rfl, rfl, W',
      by rw [List.size_toArray, sizeLine_eq]; omega, fun _ _ _ _ g tk => g, fun j h st b hb xs q => ?_, ⟨hite, hl₃.isList.at fun o e => hke _ o e⟩, fun b hb => ?_, ⟨rfl, fun v hv => (nomatch hv)⟩, ?_, ?_⟩
  · rw [List.mem_singleton.mp hb]; exact listIter_not_tuple st.1 xs q
  · rcases List.mem_cons.mp hb with rfl | hb
    · exact hlt
    · rw [List.mem_singleton.mp hb]; obtain ⟨n, ho⟩ := hl₃; exact Heap.lt_size (hke _ _ ho)
  · rintro C j v ys hf mf tkf hC hj hP hG hnf hvf hkf
    have hP : V[j]? = some v := by simpa using hP
    obtain ⟨c, tc, rfl⟩ := hVi v (List.mem_of_getElem? hP)
    have upf : Bs h hf := fun b o e => hkf b o (fun q => hIh b o e (List.mem_singleton.mp q)) (khe b o e)
    have Bf : Bs h₀ hf := fun b o e => upf b o (hb b o e)
    rw [List.forIn_nil]
    refine wpAny_pure ⟨hf, _, rfl, fun _ _ e => e, ?_⟩
    rw [if_pos rfl]
    refine callDef P.fnum (P.g.keeps Bf) P.gnum (args_cons (ldv hnf hvf (args_nil ⟨Bf, ?_⟩)))
    refine number_spec P Bf (by omega) (fun t' hg tkg hkg => ⟨hg, tkg, rfl, hkg, by simp [hG.1], fun u hu => ?_⟩)
    rcases List.mem_append.mp hu with hu | hu
    · exact hG.2 u hu
    · rw [List.mem_singleton.mp hu]; exact ⟨_, _, rfl⟩
  · intro lr hf tkf ys hD hDl hG hkf
    have upf : Bs h hf := fun b o e => hkf b o (fun q => hIh b o e (List.mem_singleton.mp q)) (khe b o e)
    have Bf : Bs h₀ hf := fun b o e => upf b o (hb b o e)
    obtain ⟨ns, hns'⟩ := hG.2.are
    have hyl := hns'.length
    rw [List.size_toArray] at hG
    have hcf := hcell.keeps upf
    refine stc s hcf (fun hg tkg hcg hsg => next hg tkg m lr ys ns ⟨hL, ?_⟩ hns' (by omega) (by omega) ⟨(hns.keeps upf).sameBut hsg (IsCell_ne_ns hcell hns).symm, fun b o e => hsg.extBut b o (fun q => by rw [q, hc0] at e; cases e) (Bf b o e), hcg, hDl.extBut hsg.extBut (IsCell_ne_list hcf hDl).symm, hmr⟩)
    cases q : h₀.get? lr with
    | none => rfl
    | some o => have := khe _ _ (hb _ _ q); rw [hD] at this; cases this
end
end Mine

-- part E2
namespace Mine
section
variable {prog : Program} {w : World} {A : Around} {E : Value → Shared → Prop} {s : Shared} {h₀ : Heap} {F : Fns} {mg mb : Str → Option Value}

set_option maxHeartbeats 4000000 in
theorem law_heap (P : PW h₀ F mg mb) {L fa lr : Addr} {cdv : Value} {k : Nat} {t : Tok} {rvs : List Value} {ns : List Int} {Q : Flow → Shared → Prop}
    (hh : A.handled = none) (f : LFix h₀ L lr) (hri : IntsAre rvs ns) (hk1 : 1 ≤ k) (hk2 : k ≤ 12) (hn1 : 7 ≤ ns.length) (hn2 : ns.length ≤ 47)
    (next : ∀ h tk m lh hvs, HFix h₀ L lr lh → LSH h₀ L lr lh rvs (.int k t) h m hvs (simInit ns k) → wpAny (model prog w) A (execs ((bd 11).drop 3) (envC 11 L fa cdv)) Q E { s with heap := h, toks := tk })
    {h : Heap} {tk : Nat} {m : Str → Option Value} (x : LSt h₀ L lr rvs (.int k t) h m) :
    wpAny (model prog w) A (execs ((bd 11).drop 2) (envC 11 L fa cdv)) Q E { s with heap := h, toks := tk } := by
  have B₀ : Bs h₀ h := x.bs
  have hrl : rvs.length = ns.length := hri.length
  refine wpAny_execs_cons (assignComp s rfl (by decide) (by decide) (wpAny_Call_NameR (ldb (P.g.keeps B₀) P.grange (P.b.keeps B₀) P.brange ?_)))
  refine PyProof.Rows.callWith_type1 (args_cons (wpAny_Call_NameR (ldb (P.g.keeps B₀) P.gmin (P.b.keeps B₀) P.bmin ?_)))
  refine PyProof.Rows.callWith_builtin1 (args_cons (ldv x.ns x.m4 (args_cons ?_)))
  refine callLenE s (P.g.keeps B₀) P.glen (P.b.keeps B₀) P.blen (ldc x.cell ⟨h, _, lr, rvs, rfl, rfl, x.hr, by omega, fun t' tk' => args_nil ?_⟩)
  refine callMin s hh (fun tm hm _ hkm => args_nil ?_)
  rw [show min (k : Int) (rvs.length : Int) = ((min k ns.length : Nat) : Int) by omega]
  refine callRange1 s (fun r ha _ hra hka hRa => ?_)
  obtain ⟨_, _, _, hRa⟩ := hRa
  refine iterRange s hRa (by omega) (by omega) (by omega) (by omega) (fun I he _ hI hkb hit => ?_)
  have khe : Bs h he := fun b o e => hkb b o (hka b o (hkm b o e))
  have hIh : ∀ b o, h.get? b = some o → b ≠ I := fun b o e q => by
    have := hka b o (hkm b o e)
    rw [q, hI] at this; cases this
  rw [show (((min k ns.length : Nat) : Int) - 0).toNat = min k ns.length by omega] at hit
  have W' := Walks.range (prog := prog) (w := w) (A := A) hh I 0 1 (min k ns.length)
  have hLI : L ≠ I := (rangeIter_ne hit).2.1 (x.ns.keeps khe)
  refine ⟨he, _, I, [I], [I], _, _, _, fun j ys h => T3s (IsT3 h) ys ((List.range j).map (trip ns 0)), rfl, rfl, W',
      by rw [sizeLine_eq]; omega, fun _ _ _ _ g tk => g.imp fun _ _ y => IsT3_tk y tk, fun j h st b hb xs q => ?_, hit, fun b hb => ?_, ⟨rfl, fun i v hv => by simp at hv⟩, ?_, ?_⟩
  · rw [List.mem_singleton.mp hb]; exact (rangeIter_ne st).2.2.2 xs q
  · rw [List.mem_singleton.mp hb]; exact Heap.lt_size hit
  · rintro C j v ys hf mf tkf hC hj ⟨tp, rfl⟩ hG hnf hvf hkf
    have upf : Bs h hf := fun b o e => hkf b o (fun q => hIh b o e (List.mem_singleton.mp q)) (khe b o e)
    have hj : j < min k ns.length := hj
    rw [show (0 : Int) + (j : Int) * 1 = (j : Int) by omega] at hvf
    have hrowf : hf.IsCell (L + 1) (some (.ref lr)) := x.cell.keeps upf
    have hlf : hf.PlainList lr rvs.toArray := x.hr.at fun o e => upf _ o e
    obtain ⟨u2, hv2⟩ : ∃ u, rvs[j]? = some (.int (ns.getD j 0) u) := hri.get j _ (by rw [List.getD_eq_getElem?_getD, List.getElem?_eq_getElem (by omega)]; rfl)
    rw [List.forIn_nil]
    refine wpAny_pure ⟨hf, _, rfl, fun _ _ e => e, ?_⟩
    rw [if_pos rfl]
    refine Tuple_ (args_cons (wpAny_Constant_int (args_cons (Subscript_ (ldc hrowf (ldv hnf hvf (itemN hlf (by omega) hv2 (args_cons (ldv hnf hvf (args_nil (newT3 s (t := trip ns 0 j) (fun v' hg tkg hkg hvt => ?_))))))))))))
    refine ⟨hg, tkg, rfl, hkg, ?_⟩
    dsimp only
    rw [List.range_succ, List.map_append]
    exact (hG.imp fun _ _ y => IsT3_tk y (TK.bs hkg)).snoc hvt
  · intro lh hf tkf ys hD hDl hG hkf
    refine ⟨m, by simpa using hLI, x.ns.keeps khe, fun hg tkg hlg hng hkg htk => ?_⟩
    have hk' : ∀ b o, b ≠ L → h.get? b = some o → hg.get? b = some o := fun b o hb e => hkg b o hb (fun q => hIh b o e (List.mem_singleton.mp q)) (khe b o e)
    have hlh : h.get? lh = none := by
      cases q : h.get? lh with
      | none => rfl
      | some o => have := khe _ _ q; rw [hD] at this; cases this
    refine next hg tkg _ lh ys ⟨f, ?_, ?_⟩ ⟨x.other f (X := []) (fun b o hb _ e => hk' b o hb e) hng (lkn rfl) (fun y hy => (nomatch hy)), lke, hlg, hG.imp fun _ _ y => IsT3_tk y htk⟩
    · cases q : h₀.get? lh with
      | none => rfl
      | some o => have := B₀ _ _ q; rw [hlh] at this; cases this
    · obtain ⟨n, ho⟩ := x.hr
      exact fun q => by rw [q, ho] at hlh; cases hlh

set_option maxHeartbeats 4000000 in
theorem law_ify (P : PW h₀ F mg mb) {L fa lr lh : Addr} {cdv : Value} {k : Nat} {t : Tok} {rvs : List Value} {ns : List Int} {Q : Flow → Shared → Prop}
    (hh : A.handled = none) (hroom : A.depth + 8 < recursionLimit) (hu : A.units + 128 < cLine) (f : HFix h₀ L lr lh) (hk2 : k ≤ 12)
    (next : ∀ h tk m lc hvs, CFix h₀ L lr lh lc → LSC h₀ L lr lh lc rvs (.int k t) h m hvs (simSt ns k 0).1 [] (simSt ns k 0).2 → wpAny (model prog w) A (execs ((bd 11).drop 5) (envC 11 L fa cdv)) Q E { s with heap := h, toks := tk })
    {h : Heap} {tk : Nat} {m : Str → Option Value} {hvs : List Value} (x : LSH h₀ L lr lh rvs (.int k t) h m hvs (simInit ns k)) :
    wpAny (model prog w) A (execs ((bd 11).drop 3) (envC 11 L fa cdv)) Q E { s with heap := h, toks := tk } := by
  have B₀ : Bs h₀ h := x.b.bs
  have hlen : (simInit ns k).length ≤ 12 := by rw [simInit, List.length_map, List.length_range]; omega
  obtain ⟨o1, o2⟩ := heapify_ok (simInit ns k)
  refine wpAny_execs_cons (wpAny_If (isTrue_or (wpAny_isTrue_Compare1 (callDef P.fify (P.g.keeps B₀) P.gify (args_cons (ldv x.b.ns x.m5 (args_nil ⟨B₀, ?_⟩)))))))
  refine heapify_spec (R := IsT3 h) P B₀ (fun _ _ r => r) hh (by omega) (by omega) f.nh x.hl x.ht (by omega) (fun h₁ _ hvs₁ hx₁ hl₁ ht₁ => ?_)
  have x₁ := x.turned f hx₁ hl₁ ht₁
  refine wpAny_Constant_none (wpAny_isNot_self rfl (wpAny_truthy_bool ?_))
  rw [if_neg (by simp)]
  refine isTrue_or (isTrue_not (isTrue_plain (callDef P.fsnd (P.g.keeps x₁.b.bs) P.gsnd (args_cons (ldv x₁.b.ns x₁.m5 (args_nil ⟨x₁.b.bs, ?_⟩))))))
  refine sound_spec P x₁.b.bs hh (by omega) (by omega) x₁.hl x₁.ht (by rw [o2.length_eq]; omega) o1 (fun h₂ _ hk₂ => wpAny_truthy_bool ?_)
  have x₂ := x₁.keep hk₂
  rw [Bool.not_true, if_neg (by simp)]
  refine isTrue_or_nil ?_
  rw [if_neg (by simp)]
  -- came = []
  refine wpAny_execs_nil (wpAny_execs_cons (wpAny_Assign_Name (newNil s (fun lc h₃ _ hk₃ hf₃ hl₃ => stv s (x₂.b.ns.keeps hk₃) (fun h₄ _ hn₄ hs₄ => ?_)))))
  have x₃ := x₂.keep hk₃
  have x₄ := x₃.other f (X := []) (fun b o hb _ e => hs₄.extBut b o hb e) (TK.ns x₃.b.ns hs₄) hn₄ (lkn rfl) (lkn rfl) (fun _ hy => (nomatch hy))
  have nc : h₀.get? lc = none := by
    cases q : h₀.get? lc with
    | none => rfl
    | some o => have := x₂.b.bs _ _ q; rw [hf₃] at this; cases this
  refine next h₄ _ _ lc hvs₁ ⟨f, nc, ?_, ?_⟩ ⟨x₄, lke, hl₃.extBut hs₄.extBut (Heap_Ns_ne x₃.b.ns hl₃), ⟨rfl, fun i v hv => by simp at hv⟩⟩
  · obtain ⟨n, ho⟩ := x₂.b.hr; exact fun q => by rw [← q, hf₃] at ho; cases ho
  · obtain ⟨n, ho⟩ := x₂.hl; exact fun q => by rw [← q, hf₃] at ho; cases ho
end
end Mine

-- part E3
namespace Mine
section
variable {prog : Program} {w : World} {A : Around} {E : Value → Shared → Prop} {s : Shared} {h₀ : Heap} {F : Fns} {mg mb : Str → Option Value}

/-- a frame is left by an exception that a builtin made -/
theorem leavesNew {M : Model} {base h : Heap} {env : Env} {outer : List Env} {L e : Addr} {cls : String} {Q : Unit → Shared → Prop}
    (hfr : A.frames = some (env :: outer)) (hf : env.frame = some L) (hkb : base.StaysIn h) (hl : h.FunFrames base (env :: outer)) (hx : Heap.NewExc h s.heap e cls)
    (hQ : ∀ h' a0, Heap.FlyingW base outer e (.type cls) a0 h' → s.heap.UpToSlots h' → Q () { s with heap := h' }) : wpAny M A (leaving env (.ref e)) Q E s := by
  obtain ⟨ob, tp, he, hcls, hd⟩ := hx.there
  have hen : base.get? e = none := by
    cases hq : base.get? e with
    | none => rfl
    | some o' => have := hkb e o' hq; rw [hx.new] at this; cases this
  refine wpAny_leaving_firstW (a0 := tp) hfr (hl.of_keeps fun b o hb _ => ⟨o, hx.keeps b o hb, rfl⟩) hf he (fun b o hb => hx.keeps b o (hkb b o hb)) hen hd rfl rfl fun h' hL => ?_
  obtain ⟨k1, ⟨_, _, k2⟩, k3, k4⟩ := hL
  exact hQ h' tp ⟨k1, hen, k2, by rw [← hcls]; exact k3⟩ k4

/-- heappop of an empty heap raises an IndexError -/
theorem pop_empty (P : PW h₀ F mg mb) (B : Bs h₀ s.heap) {l L : Addr} {env : Env} {m : Str → Option Value} {Q : Value → Shared → Prop} (hh : A.handled = none) (hroom : A.depth + 2 < recursionLimit)
    (hl : s.heap.PlainList l ([] : List Value).toArray) (hfr : A.frames = some [env]) (hf : env.frame = some L) (hns : s.heap.Ns L m) (hkd : env.scope.kind ≠ .module)
    (k : ∀ h' tk e a0 base, Heap.FlyingW base [env] e (.type "IndexError") a0 h' → (∀ b o, b ≠ L → s.heap.get? b = some o → base.get? b = some o) → h'.Ns L m → E (.ref e) { s with heap := h', toks := tk }) :
    wpAny (model prog w) A (call (.ref F.pop) [.ref l]) Q E s := by
  refine enter (binds := [("heap", .ref l)]) P.fpop B P.nolimit (by omega) (fun _ _ _ _ _ => rfl) (by decide) (locs rfl) (fun L₁ cdv h₁ tk hL hns₁ hk => ?_)
  have hl₁ : h₁.PlainList l ([] : List Value).toArray := hl.at fun o e => hk _ _ e
  -- lastelt = heap.pop()
  refine wpAny_execs_cons (wpAny_Assign_Name (MethodCall_ (ldv hns₁ rfl ?_)))
  refine getMethod_builtin hl₁.isList.typeIs PySem.F.plainAttrs_list PySem.F.slot_list_pop PySem.F.type_list_pop (fun a e => by cases e; obtain ⟨n, ho⟩ := hl₁; exact ⟨_, ho, rfl⟩) ?_
  obtain ⟨n, ho⟩ := hl₁
  refine callWith_method0 (call_meets PySem.F.slot_list_pop ⟨_, ho, rfl⟩ PySem.F.entry_list_pop (PySem.F.args_list_pop_1 _) (PySem.AutoSeq1.list_pop_list_0 l _ n rfl) ⟨ho, hh, fun h₂ tk₂ e hx => ?_⟩)
  have hns' : h₁.Ns L m := hns.keeps hk
  have hneL : L ≠ L₁ := by
    rintro rfl
    obtain ⟨o, _, _, ho', _⟩ := hns
    rw [hL] at ho'; cases ho'
  show wpAny _ _ (leaving (envI 1 L₁ F.pop cdv) (.ref e)) _ _ _
  refine leavesNew (base := hideAll h₁ [L₁, L]) (h := h₁) (Around.frames_deeper hfr) rfl (fun b o e => of_hideAll _ e) (.cons (fun q => by have q' : ScopeKind.function = ScopeKind.module := q; cases q') rfl hns₁ (hideAll_none _ (.head _)) (.cons hkd hf hns' (hideAll_none _ (.tail _ (.head _))) trivial)) hx (fun h₃ a0 hfl hsm => ?_)
  refine k h₃ tk₂ e a0 _ hfl (fun b o hb e' => hideAll_get _ (hk b o e') ?_) (hsm.ns (hns'.keeps hx.keeps))
  intro hm
  rcases List.mem_cons.mp hm with rfl | hm
  · rw [hL] at e'; cases e'
  · exact hb (List.mem_singleton.mp hm)

set_option maxHeartbeats 4000000 in
theorem law_try (P : PW h₀ F mg mb) {L fa lr lh lc : Addr} {cdv : Value} {rvs : List Value} {kv : Value} {cts : List T3} {Q : Flow → Shared → Prop}
    (hh : A.handled = none) (hroom : A.depth + 8 < recursionLimit) (f : CFix h₀ L lr lh lc) (hfr : A.frames = some [envC 11 L fa cdv])
    (next : ∀ h tk m cvs, LSC h₀ L lr lh lc rvs kv h m [] [] cvs cts → m "refused" = some (.bool true) → wpAny (model prog w) A (execs ((bd 11).drop 9) (envC 11 L fa cdv)) Q (fun _ _ => False) { s with heap := h, toks := tk })
    {h : Heap} {tk : Nat} {m : Str → Option Value} {cvs : List Value} (x : LSC h₀ L lr lh lc rvs kv h m [] [] cvs cts) :
    wpAny (model prog w) A (execs ((bd 11).drop 7) (envC 11 L fa cdv)) Q (fun _ _ => False) { s with heap := h, toks := tk } := by
  -- refused = False
  refine wpAny_execs_cons (wpAny_Assign_Name (wpAny_Constant_bool (stv s x.b.b.ns (fun h₁ _ hn₁ hs₁ => ?_))))
  have x₁ := x.name f hn₁ hs₁ (lkn rfl) (lkn rfl) (lkn rfl)
  generalize (fun y => if y = Str.ofString "refused" then some (Value.bool false) else m y) = m₁ at hn₁ x₁
  -- try: heappop(heap)
  refine wpAny_execs_cons (wpAny_Try_except (wpAny_execs_cons (wpAny_Expr (callDef P.fpop (P.g.keeps x₁.b.b.bs) P.gpop (args_cons (ldv x₁.b.b.ns x₁.b.m5 (args_nil ⟨x₁.b.b.bs, ?_⟩)))))))
  refine pop_empty P x₁.b.b.bs hh (by omega) x₁.b.hl hfr rfl x₁.b.b.ns (fun q => by have q' : ScopeKind.function = ScopeKind.module := q; cases q') (fun h₂ tk₂ e a0 base hfl hbase hn₂ => ?_)
  refine wpAny_looks_onW hfr rfl hfl fun h₃ hheld₃ hsm₃ => ?_
  refine wpAny_landsW hheld₃ fun h₄ hfl₄ hsm₄ => ?_
  have B₄ : Bs h₀ h₄ := fun b o q => hfl₄.1 b o (hbase b o (fun z => by rw [z, f.nL] at q; cases q) (x₁.b.b.bs b o q))
  refine wpAny_handleBy_builtin (X := "IndexError") (T := "IndexError") (b := true) PySem.F.isExc_IndexError PySem.F.notTuple_IndexError (by rw [isSubtype_type]; kernel_rfl)
    (ldb (P.g.keeps B₄) P.gidx (P.b.keeps B₄) P.bidx ⟨rfl, hfl₄.there, ?_⟩)
  rw [if_pos rfl]
  refine lands_againW hfl₄ fun h₅ hfl₅ hsm₅ => ?_
  have hn₅ : h₅.Ns L m₁ := hsm₅.ns (hsm₄.ns (hsm₃.ns hn₂))
  have hk₅ : ∀ b o, b ≠ L → h₁.get? b = some o → h₅.get? b = some o := fun b o hb q => hfl₅.1 b o (hbase b o hb q)
  refine wpAny_passesOwnAt PassesOwnAt.never (wpAny_execs_cons (wpAny_Assign_Name (wpAny_Constant_bool (stv s hn₅ (fun h₆ _ hn₆ hs₆ => wpAny_execs_nil ?_)))))
  have x₅ := x₁.other f (X := []) (fun b o hb _ q => hk₅ b o hb q) (fun b xs n q => hk₅ b _ (fun z => by
    obtain ⟨o, es, ep, ho, hd, _⟩ := x₁.b.b.ns
    rw [z, ho] at q; cases q; cases hd) q) hn₅ rfl rfl rfl (fun _ hy => (nomatch hy))
  have x₆ := x₅.name f hn₆ hs₆ (lkn rfl) (lkn rfl) (lkn rfl)
  exact next h₆ _ _ cvs x₆ lke
end
end Mine

-- part E4
namespace Mine
section
variable {prog : Program} {w : World} {A : Around} {E : Value → Shared → Prop} {s : Shared} {h₀ : Heap} {F : Fns} {mg mb : Str → Option Value}

/-- two like triples are equal, the same object or not -/
theorem eqAt_T3 {va vb : Value} {t : T3} (ha : IsT3 s.heap va t) (hb : IsT3 s.heap vb t) (hu : A.units < cLine) : SeqAt.EqAt A s va vb true := by
  obtain ⟨a, n, x, y, z, rfl, ha⟩ := ha
  obtain ⟨b, n2, x', y', z', rfl, hb⟩ := hb
  by_cases e : a = b
  · subst e; exact SeqAt.EqAt.same _
  · refine SeqAt.EqAt.of_refs e ?_
    have := SeqAt.RcAt.tuples (A := A) (s := s) (e := fun _ => true) (items := #[.int t.1 x, .int t.2.1 y, .int t.2.2 z]) (items2 := #[.int t.1 x', .int t.2.1 y', .int t.2.2 z']) ⟨_, ha, rfl, n, rfl⟩ ⟨_, hb, rfl, n2, rfl⟩ hu (fun j h1 h2 => by
      match j, h1 with
      | 0, _ => have := SeqAt.EqAt.int_int (A := A.in1) (s := s) t.1 x t.1 x'; rw [beq_self_eq_true] at this; exact this
      | 1, _ => have := SeqAt.EqAt.int_int (A := A.in1) (s := s) t.2.1 y t.2.1 y'; rw [beq_self_eq_true] at this; exact this
      | 2, _ => have := SeqAt.EqAt.int_int (A := A.in1) (s := s) t.2.2 z t.2.2 z'; rw [beq_self_eq_true] at this; exact this)
    exact this

/-- two lists of the same triples are equal -/
theorem eq_T3s {la lb : Addr} {us vs : List Value} {ts : List T3} {Q : Value → Shared → Prop} (ha : s.heap.PlainList la us.toArray) (hb : s.heap.PlainList lb vs.toArray) (ua : T3s (IsT3 s.heap) us ts) (vb : T3s (IsT3 s.heap) vs ts) (hu : A.units + 8 < cLine)
    (h : Q (.bool true) s) : wpAny (model prog w) A (compareOp .Eq (.ref la) (.ref lb)) Q E s := by
  refine SeqAt.eq_listAt (e := fun _ => true) ha.isList hb.isList (by simp [ua.1, vb.1]) (by omega) (fun j h1 h2 => ?_) (by rw [show (List.range us.toArray.size).all (fun _ => true) = true from List.all_eq_true.mpr fun _ _ => rfl]; exact h)
  simp only [List.size_toArray] at h1 h2
  refine eqAt_T3 (t := ts.getD j t0) (ua.2 j _ (by simp [List.getElem?_eq_getElem h1])) (vb.2 j _ (by simp [List.getElem?_eq_getElem h2])) ?_
  show A.units + 1 < cLine
  omega

set_option maxHeartbeats 4000000 in
theorem law_ret (P : PW h₀ F mg mb) {L fa lr lh lc : Addr} {cdv : Value} {rvs : List Value} {ns : List Int} {k : Nat} {t : Tok} {Q : Flow → Shared → Prop}
    (hh : A.handled = none) (hroom : A.depth + 8 < recursionLimit) (hu : A.units + 128 < cLine) (hri : IntsAre rvs ns) (hk1 : 1 ≤ k) (hk2 : k ≤ 12) (hn1 : 7 ≤ ns.length) (hn2 : ns.length ≤ 47)
    (c : ∀ h' tk, Bs h₀ h' → Q (.ret (.bool true)) { s with heap := h', toks := tk })
    {h : Heap} {tk : Nat} {m : Str → Option Value} {cvs : List Value} (x : LSC h₀ L lr lh lc rvs (.int k t) h m [] [] cvs (cameF ns k)) (hmr : m "refused" = some (.bool true)) :
    wpAny (model prog w) A (execs ((bd 11).drop 9) (envC 11 L fa cdv)) Q E { s with heap := h, toks := tk } := by
  refine wpAny_execs_cons (wpAny_Return_some (BoolOp_and (wpAny_Compare1 (ldv x.b.b.ns x.m6 (callDef P.fdue (P.g.keeps x.b.b.bs) P.gdue (args_cons (ldc x.b.b.cell (args_cons (ldv x.b.b.ns x.b.b.m4 (args_nil ⟨x.b.b.bs, ?_⟩))))))))))
  refine due_spec P x.b.b.bs hh (by omega) (by omega) x.b.b.hr hri (by omega) hk1 (by omega) (fun h₁ _ aD dvs ts hk₁ hD hT hp hw => ?_)
  have hc := came_due (ns := ns) (k := k) hk1 (by omega) hp hw
  subst hc
  have x₁ := x.keep hk₁
  refine eq_T3s x₁.hl hD x₁.ht hT (by omega) (wpAny_truthy_bool ?_)
  rw [if_pos rfl]
  refine BoolOp_and (ldv x₁.b.b.ns hmr (wpAny_truthy_bool ?_))
  rw [if_pos rfl]
  refine BoolOp_one (wpAny_Compare1 (ldv x₁.b.b.ns x₁.b.m5 (newNil s (fun D h₂ _ hk₂ _ hl₂ => ?_))))
  have x₂ := x₁.keep hk₂
  exact eq_T3s (ts := []) x₂.b.hl hl₂ x₂.b.ht ⟨rfl, fun i v hv => by simp at hv⟩ (by omega) (c h₂ _ x₂.b.b.bs)

/-- the whole of the law's suite -/
theorem law_whole (P : PW h₀ F mg mb) {L fa ls : Addr} {cdv : Value} {h₁ : Heap} {tk : Nat} {m₁ : Str → Option Value} {svs : List Value} {sns : List Int} {Q : Flow → Shared → Prop}
    (hh : A.handled = none) (hroom : A.depth + 8 < recursionLimit) (hu : A.units + 128 < cLine) (hfr : A.frames = some [envC 11 L fa cdv]) (hL : h₀.get? L = none) (hc0 : h₀.get? (L + 1) = none)
    (hns : h₁.Ns L m₁) (hms : m₁ "script" = some (.ref ls)) (hcell : h₁.IsCell (L + 1) none) (hb : Bs h₀ h₁) (hs : h₀.IsList ls svs.toArray) (hsi : IntsAre svs sns) (hsz : svs.length ≤ 63)
    (c : ∀ h' tk, Bs h₀ h' → Q (.ret (.bool true)) { s with heap := h', toks := tk }) :
    wpAny (model prog w) A (execs (bd 11) (envC 11 L fa cdv)) Q (fun _ _ => False) { s with heap := h₁, toks := tk } := by
  refine law_body P hL hns hms hcell hb hs hsi hsz (fun k t h₂ tk₂ m₂ hk1 hk2 hn₂ hms₂ hmr₂ hcell₂ hb₂ => ?_)
  refine law_row P hh hroom hL hc0 hs hsi hsz (fun h₃ tk₃ m₃ lr rvs ns f₃ hri hn1 hn2 x₃ => ?_) hn₂ hms₂ hmr₂ hcell₂ hb₂
  refine law_heap P hh f₃ hri hk1 hk2 hn1 hn2 (fun h₄ tk₄ m₄ lh hvs f₄ x₄ => ?_) x₃
  refine law_ify P hh hroom hu f₄ hk2 (fun h₅ tk₅ m₅ lc hvs f₅ x₅ => ?_) x₄
  refine law_loop P hh hroom hu f₅ hri hk1 hk2 hn1 hn2 (fun h₆ tk₆ m₆ hvs cvs x₆ => ?_) x₅
  refine law_pops P hh hroom hu f₅ hk1 hk2 hn1 hn2 (fun h₇ tk₇ m₇ cvs x₇ => ?_) x₆
  refine law_try P hh hroom f₅ hfr (fun h₈ tk₈ m₈ cvs x₈ hm₈ => ?_) x₇
  exact law_ret P hh hroom hu hri hk1 hk2 hn1 hn2 c x₈ hm₈
end
end Mine

-- part J1
namespace Mine
section
variable {h : Heap} {mg mb : Str → Option Value} {p : Program} {loose : List Str} {mean : ExcName → Option Value}

def psn (i : Nat) : Pos := match fdef i with | .FunctionDef _ _ _ _ _ _ _ _ _ pos => pos | _ => default

theorem fnAt_of (T : Top p loose mean mg mb h) (i : Nat) (hm : (⟨nm i, prm i, bd i, sc i, psn i⟩ : DefRec) ∈ recsOf p) : ∃ a, mg (nm i) = some (.ref a) ∧ FnAt h a i := by
  obtain ⟨a, o, pm, cd, doc, h1, h2, h3, h4⟩ := T.fn _ hm
  exact ⟨a, h1, o, doc, pm, none, cd, _, h2, h3, h4⟩

theorem pw_of (T : Top p loose mean mg mb h) (hm : ∀ i ∈ [1, 2, 3, 4, 5, 7, 8, 9, 10], (⟨nm i, prm i, bd i, sc i, psn i⟩ : DefRec) ∈ recsOf p)
    (hf : ∀ x ∈ (["len", "range", "reversed", "list", "min", "sorted", "IndexError"] : List Str), mg x = none) : ∃ F, PW h F mg mb := by
  obtain ⟨pop, gpop, fpop⟩ := fnAt_of T 1 (hm 1 (by decide))
  obtain ⟨rep, grep, frep⟩ := fnAt_of T 2 (hm 2 (by decide))
  obtain ⟨ify, gify, fify⟩ := fnAt_of T 3 (hm 3 (by decide))
  obtain ⟨sd, gsd, fsd⟩ := fnAt_of T 4 (hm 4 (by decide))
  obtain ⟨su, gsu, fsu⟩ := fnAt_of T 5 (hm 5 (by decide))
  obtain ⟨num, gnum, fnum⟩ := fnAt_of T 7 (hm 7 (by decide))
  obtain ⟨snd, gsnd, fsnd⟩ := fnAt_of T 8 (hm 8 (by decide))
  obtain ⟨runs, gruns, fruns⟩ := fnAt_of T 9 (hm 9 (by decide))
  obtain ⟨due, gdue, fdue⟩ := fnAt_of T 10 (hm 10 (by decide))
  exact ⟨⟨pop, rep, ify, sd, su, num, snd, runs, due⟩, {
    g := T.g
    b := T.b
    nolimit := T.nolimit
    fpop := fpop
    frep := frep
    fify := fify
    fsd := fsd
    fsu := fsu
    fnum := fnum
    fsnd := fsnd
    fruns := fruns
    fdue := fdue
    gpop := gpop
    grep := grep
    gify := gify
    gsd := gsd
    gsu := gsu
    gnum := gnum
    gsnd := gsnd
    gruns := gruns
    gdue := gdue
    glen := hf _ (by decide)
    blen := (T.builtins _ (by decide)).trans (by boot_fast)
    grange := hf _ (by decide)
    brange := (T.builtins _ (by decide)).trans (by boot_fast)
    grev := hf _ (by decide)
    brev := (T.builtins _ (by decide)).trans (by boot_fast)
    glist := hf _ (by decide)
    blist := (T.builtins _ (by decide)).trans (by boot_fast)
    gmin := hf _ (by decide)
    bmin := (T.builtins _ (by decide)).trans (by boot_fast)
    gsorted := hf _ (by decide)
    bsorted := (T.builtins _ (by decide)).trans (by boot_fast)
    gidx := hf _ (by decide)
    bidx := (T.builtins _ (by decide)).trans (by boot_fast) }⟩
end
end Mine

-- part J2
namespace Mine
section
variable {mg mb : Str → Option Value} {p : Program} {loose : List Str} {mean : ExcName → Option Value}

theorem law_join {prog : Program} {w : World} {s : Shared} (T : Top p loose mean mg mb s.heap) (hm : ∀ i ∈ [1, 2, 3, 4, 5, 7, 8, 9, 10], (⟨nm i, prm i, bd i, sc i, psn i⟩ : DefRec) ∈ recsOf p)
    (hf : ∀ x ∈ (["len", "range", "reversed", "list", "min", "sorted", "IndexError"] : List Str), mg x = none)
    {fa ls : Addr} {cdv : Value} {h₁ : Heap} {tk : Nat} {m : Str → Option Value} {oc : Obj} {svs : List Value} {sns : List Int} {Q : Flow → Shared → Prop} {E : Value → Shared → Prop}
    (X : Fr s.heap s.heap.objs.size h₁ m) (hms : m "script" = some (.ref ls)) (N : News s.heap s.heap.objs.size h₁ [(s.heap.objs.size + 1, oc)]) (hoc : oc.data = .cell none)
    (hL : s.heap.IsList ls svs.toArray) (hI : IntsAre svs sns) (hlen : ¬ (63 : Int) < sns.length)
    (c : ∀ h' tk', Bs s.heap h' → Q (.ret (.bool true)) { s with heap := h', toks := tk' }) :
    wpAny (model prog w) (callerA.deeper (envC 11 s.heap.objs.size fa cdv)) (execs (bd 11) (envC 11 s.heap.objs.size fa cdv)) Q E { s with heap := h₁, toks := tk } := by
  obtain ⟨F, P⟩ := pw_of T hm hf
  have e := hI.length
  have hN := N _ (.head _)
  refine wpAny_mono (law_whole P rfl ?_ ?_ rfl (Heap.get?_none_of_le (Nat.le_refl _)) hN.2.2 X.ns hms ⟨oc, hN.1, hoc⟩ X.keep hL hI (by omega) c) (fun _ _ q => q) (fun _ _ q => q.elim)
  · show (callerA.deeper (envC 11 s.heap.objs.size fa cdv)).depth + 8 < recursionLimit
    exact Nat.le_of_ble_eq_true rfl
  · show (callerA.deeper (envC 11 s.heap.objs.size fa cdv)).units + 128 < cLine
    exact Nat.le_of_ble_eq_true rfl
end
end Mine

set_option maxHeartbeats 8000000 in
theorem PySem.Challenge.cw_du0009_01_holds : PySem.Challenge.rw_du0009_01.Holds := by
  w_on
  o_law
  k_head
  case hw => w_witness2
  k_go0
  rename Top _ _ _ _ _ _ => T
  rename Fr _ _ _ _ => X
  rename News _ _ _ _ => N
  rename Heap.IsList _ _ _ => hL
  rename IntsAre _ _ => hI
  rename _ = #[] => hg
  rename ¬ (_ < _) => hlen
  rename _ = Data.cell _ => hoc
  refine Mine.law_join T ?joinM ?joinF X rfl N hoc hL hI hlen ?joinC
  case joinM =>
    intro i hi
    simp only [List.mem_cons, List.not_mem_nil, or_false] at hi
    rcases hi with rfl | rfl | rfl | rfl | rfl | rfl | rfl | rfl | rfl
    · exact List.mem_of_getElem? (i := 0) rfl
    · exact List.mem_of_getElem? (i := 1) rfl
    · exact List.mem_of_getElem? (i := 2) rfl
    · exact List.mem_of_getElem? (i := 3) rfl
    · exact List.mem_of_getElem? (i := 4) rfl
    · exact List.mem_of_getElem? (i := 5) rfl
    · exact List.mem_of_getElem? (i := 6) rfl
    · exact List.mem_of_getElem? (i := 7) rfl
    · exact List.mem_of_getElem? (i := 8) rfl
  case joinF =>
    intro x hx
    simp only [List.mem_cons, List.not_mem_nil, or_false] at hx
    rcases hx with rfl | rfl | rfl | rfl | rfl | rfl | rfl <;> exact T.free _ (by decide +kernel) (by decide +kernel) (by decide +kernel) (by decide +kernel) (by decide +kernel)
  case joinC =>
    intro h' tk' k'
    refine ⟨.inl ⟨_, _, _, rfl, fun _ => rfl, .bool true, ?joinP, unshared_nil⟩, k', rfl, hg⟩
    case joinP => wrow_post
