import PyProof.Rows.All
import Wide.All
import OpenK.AllK
import Wide.FinOn
import Lean
import PySem.Challenge.RW_rt0069_01
open PySem PySem.W PySem.Calls PyProof.Rows
set_option Elab.async false
set_option maxRecDepth 100000
set_option maxHeartbeats 4000000
set_option compiler.extract_closed false
namespace Mine
def qv : Program := view PySem.Challenge.pw_rt0069_01 [0, 2, 3, 5, 7, 9, 10, 12, 14, 16, 17, 18, 19, 20, 21, 23, 24, 25, 26, 27, 28, 29, 30, 31, 32, 33]
set_option maxRecDepth 100000
set_option maxHeartbeats 8000000
theorem said1 : namesResolve (PySem.Challenge.rw_rt0069_01).row.prog = true := by kernel_rfl
theorem said2 : looksOpen (PySem.Challenge.rw_rt0069_01).row.prog = true := by
  unfold looksOpen
  repeat' (with_reducible refine look_both ?_ ?_)
  all_goals first | with_reducible exact said1 | kernel_rfl
theorem said_row : (PySem.Challenge.rw_rt0069_01).row.wellSaid = true := by
  unfold OpenRow.wellSaid OpenRow.partSaid
  repeat' (with_reducible refine look_both ?_ ?_)
  all_goals first | with_reducible exact said2 | kernel_rfl
theorem said_law : (PySem.Challenge.rw_rt0069_01).wellSaid = true := by
  unfold OpenLaw.wellSaid
  repeat' (with_reducible refine look_both ?_ ?_)
  all_goals first | with_reducible exact said_row | kernel_rfl
local macro_rules | `(tactic| o_law) => `(tactic| refine holds_law said_law fun said => ?_)
local macro_rules | `(tactic| o_head $H) => `(tactic| (refine holds_open (q := qv) (loose := []) (Xt := fun s => xlAt qv [] s && recOk (RowW.records (PySem.Challenge.rw_rt0069_01).row.toRowW) s) (XP := XL qv []) (Yf := Hook.obs $H) (Ya := Hook.val $H) (YP := Hook.says $H) (N := 3374) ?hl (Hook.of $H) (Hook.keeps $H) (fun s e => xl_of s (Bool.and_eq_true_iff.mp e).1) XL.keeps (by rfl) (by rfl) (by rfl) (fun s e => recFacts_of (Bool.and_eq_true_iff.mp e).2) (by rfl) said_row (by decide +kernel) ⟨rfl, rfl, rfl, rfl, rfl, by decide +kernel⟩ ?hw ?hc; (case hl => (intro w; kernel_rfl))))
open_top hd for PySem.Challenge.rw_rt0069_01
set_option maxHeartbeats 4000000
theorem part_off_00 : True := by w_top off; trivial

def Ret (s : Shared) (P : Value → Heap → Prop) (r : Result) (s' : Shared) : Prop :=
  ∃ v h' tk, r = .ok (.ret v) ∧ s' = { s with heap := h', toks := tk } ∧ (∀ b o, s.heap.get? b = some o → h'.get? b = some o) ∧ P v h'

structure Cx (w : World) (mean : ExcName → Option Value) (mg mb : Str → Option Value) (h : Heap) : Prop where
  X : (hd.heap_1 w.params).In h
  T : Top qv (looseW qv []) mean mg mb h

theorem Cx.keeps {w : World} {mean mg mb} {h h' : Heap} (c : Cx w mean mg mb h) (k : ∀ b o, h.get? b = some o → h'.get? b = some o) : Cx w mean mg mb h' :=
  ⟨c.X.keeps k, c.T.keeps k⟩

structure Rm (A : Around) (d : Nat) : Prop where
  depth : A.depth + d < 900
  units : A.units + 10 * d < 9000
  handled : A.handled = none

theorem Rm.le {A : Around} {d e : Nat} (h : Rm A d) (l : e ≤ d) : Rm A e := ⟨by have := h.depth; omega, by have := h.units; omega, h.handled⟩
theorem Rm.in1 {A : Around} {d : Nat} (h : Rm A (d + 1)) : Rm A.in1 d := ⟨by have := h.depth; show A.depth + d < 900; omega, by have := h.units; show A.units + 1 + 10 * d < 9000; omega, h.handled⟩
theorem enter_plain {prog : Program} {w : World} {A : Around} {R : Result → Shared → Prop} {s : Shared} {mean : ExcName → Option Value} {mg mb : Str → Option Value}
    {name qual : Str} {params : Arguments} {body : List Stmt} {scope : Scope} {dV kV doc pm cdv ct oc : Value} {an od : Option Addr} {osl : Array (Option Value)} {f : Addr} {args : Args} {binds : List (Str × Value)} {d : Nat}
    (c : Cx w mean mg mb s.heap) (hA : Rm A (d + 1))
    (ho : (hd.heap_1 w.params).lookup f = some ⟨oc, od, .func (fnOf name qual params body scope dV kV doc pm an cdv ct), osl⟩) (hcd : codeIn (hd.heap_1 w.params) cdv qual = true)
    (hbind : BindsTo s (fnOf name qual params body scope dV kV doc pm an cdv ct) args binds) (hloc : ∀ y ∈ binds, scope.names.lookup y.1 = some .local)
    (h : ∀ L h₁ dp fr gd un, Fr s.heap L h₁ (fun y => binds.reverse.lookup y) → News s.heap L h₁ [] → (hd.heap_1 w.params).In s.heap → Top qv (looseW qv []) mean mg mb s.heap → Rm ((Around.mk none dp fr gd un).deeper (envOf qual scope L f cdv)) d → 
      wpAny (model prog w) ((Around.mk none dp fr gd un).deeper (envOf qual scope L f cdv)) (execs body (envOf qual scope L f cdv))
        (fun fl s' => R (.ok (.ret (match fl with | .ret v => v | _ => .none))) s')
        (fun _ _ => False)
        { s with heap := h₁, toks := s.toks + binds.length })
    (hco : scope.isCoroutine = false) (hgen : scope.isGenerator = false) (hk : scope.kind = .function)
    (hcell : ∀ x ∈ scope.names, x.2 ≠ .cell) : codeAny (model prog w) A (.call (.ref f) args) R s := by
  obtain ⟨hdl, dp, fr, gd, un⟩ := A
  have e : hdl = none := hA.handled
  subst e
  refine codeAny_call_def (fd := fnOf name qual params body scope dV kV doc pm an cdv ct) (body := body) (binds := binds) (Nat.lt_of_le_of_lt (Nat.le_add_right _ _) (Nat.lt_trans hA.depth (by decide))) (c.X _ _ ho) rfl c.T.nolimit (codeRec_of c.X hcd) rfl hbind hcell hloc (fun h₁ hns hk₁ => ?_) hco hgen hk
  refine wpAny_mono (h _ h₁ dp fr gd un ⟨hns, hk₁, Nat.le_refl _⟩ .nil c.X c.T ⟨?_, ?_, ?_⟩) (fun _ _ x => x) (fun _ _ x => x.elim)
  · have := hA.depth; show dp + 1 + d < 900; simp only at this; omega
  · have := hA.units; show un + 3 + 10 * d < 9000; simp only at this; omega
  · rfl
theorem entry_issubclass_nested : entryFor table "issubclass.nested" = some Builtin.«issubclass.nested» := entryFor_of_tree (by kernel_rfl)
theorem entry_issubclass : entryFor table "issubclass" = some Builtin.«issubclass» := entryFor_of_tree (by kernel_rfl)
theorem kind_issubclass : builtinKind "issubclass" = none := by decide +kernel
theorem plain_issubclass : plainId "issubclass" = true := by decide +kernel
theorem args_issubclass (a b : Value) : argsOk "issubclass" ⟨[a, b], []⟩ := by unfold argsOk; kernel_rfl
theorem kind_issubclass_nested : builtinKind "issubclass.nested" = none := by decide +kernel
theorem plain_issubclass_nested : plainId "issubclass.nested" = true := by decide +kernel
theorem args_issubclass_nested (a b c : Value) : argsOk "issubclass.nested" ⟨[a, b, c], []⟩ := by unfold argsOk; kernel_rfl
theorem issub_body {prog : Program} {w : World} {A : Around} {E : Value → Shared → Prop} {Q} {s : Shared} {k : Tok} {i : Int}
    (h : Q (.done (.ret (.bool true))) s) : wpAny (model prog w) A (Builtin.«issubclass.nested» ⟨[.type "str", .type "str", .int i k], []⟩) Q E s := by
  have hs := F.sub_str_str
  have hm := F.isi_meta_str
  unfold Builtin.«issubclass.nested»
  refine wpAny_bind (wpAny_of_eq hm ?_)
  refine wpAny_ite_true rfl ?_
  repeat (any_goals (first | assumption | wp_step))
theorem issub_str {prog : Program} {w : World} {A : Around} {E : Value → Shared → Prop} {s : Shared} {tp : Addr} {Q : Value → Shared → Prop}
    (ht : s.heap.get? tp = some {cls := .type "tuple", data := .seq #[.type "str", .type "bytes"]}) (h : Q (.bool true) s) :
    wpAny (model prog w) A (call (.builtin "issubclass") [.type "str", .ref tp]) Q E s := by
  refine call_function_any kind_issubclass plain_issubclass entry_issubclass (args_issubclass _ _) ?_
  unfold Builtin.«issubclass»
  refine wpAny_bind (wpAny_pure (wpAny_pure ?_))
  refine ⟨Code.quiet_builtin _ (by decide +kernel), codeAny_builtin entry_issubclass_nested ?_⟩
  rw [Around.under_plainId (id := "issubclass.nested") (by decide +kernel) _]
  unfold Builtin.«issubclass.nested»
  have hT : s.TypeIs (.ref tp) "tuple" := ⟨_, ht, rfl⟩
  have f1 := F.isi_sub_tuple
  refine wpAny_bind (wpAny_typeOf hT ?_)
  refine wpAny_ite_false (by decide) ?_
  repeat wp_step
  refine codeAny_call_builtin plain_issubclass_nested entry_issubclass_nested ?_
  simp only [checkBuiltinCall, kind_issubclass_nested]
  have ha : ∀ k : Value, argsOk "issubclass.nested" ⟨[.type "str", .type "str", k], []⟩ := fun k => args_issubclass_nested _ _ _
  unfold argsOk at ha
  cases hsig : Manifest.signature? "issubclass.nested" with
  | none =>
    refine wpAny_pure (issub_body ?_)
    repeat wp_step
    exact h
  | some sig =>
    rw [hsig] at ha
    refine wpAny_of_eq (ha _) (issub_body ?_)
    repeat wp_step
    exact h

/-- a call by its contract -/
theorem use_ret {prog : Program} {w : World} {A : Around} {E : Value → Shared → Prop} {s : Shared} {h₀ : Heap} {L : Addr} {m : Str → Option Value} {news : List (Addr × Obj)} {f : Value} {args : List Value} {kw : List (Str × Value)}
    {P : Value → Heap → Prop} {Q : Value → Shared → Prop}
    (F : Fr h₀ L s.heap m) (N : News h₀ L s.heap news)
    (c : codeAny (model prog w) A (.call f ⟨args, kw⟩) (Ret s P) s)
    (k : ∀ v h' tk, Fr h₀ L h' m → News h₀ L h' news → (∀ b o, s.heap.get? b = some o → h'.get? b = some o) → P v h' → Q v { s with heap := h', toks := tk }) :
    wpAny (model prog w) A (call f args kw) Q E s := by
  refine wpAny_call (codeAny_mono c fun r s' hr => ?_)
  obtain ⟨v, h', tk, rfl, rfl, kp, hP⟩ := hr
  refine k v h' tk ⟨?_, fun b o e => kp b o (F.keep b o e), F.above⟩ (fun p hp => ⟨kp _ _ (N p hp).1, (N p hp).2⟩) kp hP
  exact F.ns.keeps kp
theorem Cx.fr {w : World} {mean mg mb} {h₀ h : Heap} {L : Addr} {m} (X : (hd.heap_1 w.params).In h₀) (T : Top qv (looseW qv []) mean mg mb h₀) (F : Fr h₀ L h m) : Cx w mean mg mb h := Cx.keeps ⟨X, T⟩ F.keep
abbrev NoE : Value → Shared → Prop := fun _ _ => False

/-- how a turn of a loop ends -/
def TPost (h₀ : Heap) (L : Addr) (K : (Str → Option Value) → List (Addr × Obj) → Prop) (s : Shared) (Q : Flow → Shared → Prop) (f : Flow) (s₃ : Shared) : Prop :=
  match f with
  | .next | .cont => ∃ h' tk m' news', s₃ = { s with heap := h', toks := tk } ∧ Fr h₀ L h' m' ∧ News h₀ L h' news' ∧ K m' news'
  | .brk => Q .next s₃
  | .ret v => Q (.ret v) s₃

theorem my_while {prog : Program} {w : World} {A : Around} {E : Value → Shared → Prop} {s : Shared} {env : Env} {h₀ : Heap} {test : PySem.Expr} {body orelse : List Stmt} {pos : Pos} {Q : Flow → Shared → Prop} {m : Str → Option Value} {news : List (Addr × Obj)} {n : Nat}
    (J : Nat → (Str → Option Value) → List (Addr × Obj) → Prop)
    (F : Fr h₀ env.locals s.heap m) (N : News h₀ env.locals s.heap news) (hJ : J n m news)
    (turn : ∀ n m news h tk, J n m news → Fr h₀ env.locals h m → News h₀ env.locals h news →
      wpAny (model prog w) A (isTrue test env (eval test env)) (fun b s₂ => if b then wpAny (model prog w) A (execs body env) (TPost h₀ env.locals (fun m' news' => ∃ k, k < n ∧ J k m' news') s Q) NoE s₂
        else wpAny (model prog w) A (execs orelse env) Q NoE s₂) NoE { s with heap := h, toks := tk }) :
    wpAny (model prog w) A (exec (.While test body orelse pos) env) Q E s := by
  refine wpAny_While (codeAny_whileLoop (fun n s' => ∃ h tk m news, s' = { s with heap := h, toks := tk } ∧ Fr h₀ env.locals h m ∧ News h₀ env.locals h news ∧ J n m news) ?_ n ⟨s.heap, s.toks, m, news, rfl, F, N, hJ⟩)
  rintro n _ ⟨h, tk, m, news, rfl, F, N, hJ⟩
  refine wpAny_mono (turn n m news h tk hJ F N) (fun b s₂ hb => ?_) fun _ _ x => x.elim
  cases b with
  | false => exact wpAny_mono hb (fun _ _ x => x) fun _ _ x => x.elim
  | true =>
    refine wpAny_mono hb (fun f s₃ hf => ?_) fun _ _ x => x.elim
    cases f with
    | next => obtain ⟨h', tk', m', news', rfl, F', N', k, hk, hJ'⟩ := hf; exact ⟨k, hk, h', tk', m', news', rfl, F', N', hJ'⟩
    | cont => obtain ⟨h', tk', m', news', rfl, F', N', k, hk, hJ'⟩ := hf; exact ⟨k, hk, h', tk', m', news', rfl, F', N', hJ'⟩
    | brk => exact hf
    | ret v => exact hf

/-- a for, by what holds of the frame and the ledger; own: what the iterator rests on -/
theorem my_for {prog : Program} {w : World} {A : Around} {E : Value → Shared → Prop} {s : Shared} {env : Env} {h₀ : Heap} {x : Str} {px : Pos} {I : Addr} {fp wr : List Addr} {n : Nat} {P : Nat → Value → Prop} {St : Nat → Heap → Prop}
    {body orelse : List Stmt} {Q : Flow → Shared → Prop} {m : Str → Option Value} {news : List (Addr × Obj)}
    (J : Nat → (Str → Option Value) → List (Addr × Obj) → Prop)
    (W : Walks prog w A I fp wr n P St) (hx : env.kindOf x = some .local)
    (hp : (env.scope.kind == .class || (env.scope.kind == .module && env.locals != env.globals)) = false)
    (hLf : env.locals ∉ fp) (hwr : ∀ b ∈ wr, h₀.get? b = none)
    (hst : St 0 s.heap) (F : Fr h₀ env.locals s.heap m) (N : News h₀ env.locals s.heap news) (hnw : ∀ p ∈ news, p.1 ∉ wr) (hJ : J 0 m news)
    (turn : ∀ i v m₁ news₁ h tk own, i < n → P i v → J i m₁ news₁ → Fr h₀ env.locals h (fun y => if y = x then some v else m₁ y) → News h₀ env.locals h (news₁ ++ own) →
      (∀ p ∈ own, p.1 ∈ fp) → (∀ b ∈ fp, ∀ o, h₀.get? b = none → h.get? b = some o → (b, o) ∈ own) → (∀ p ∈ news₁, p.1 ∉ wr) → St (i + 1) h →
      wpAny (model prog w) A (execs body env) (TPost h₀ env.locals (fun m' news' => ∃ news₂, news' = news₂ ++ own ∧ (∀ p ∈ news₂, p.1 ∉ wr) ∧ J (i + 1) m' news₂) s Q) NoE { s with heap := h, toks := tk })
    (done : ∀ m₁ news₁ h tk, J n m₁ news₁ → Fr h₀ env.locals h m₁ → News h₀ env.locals h news₁ → wpAny (model prog w) A (execs orelse env) Q NoE { s with heap := h, toks := tk })
    : codeAny (model prog w) A (.forLoop (.Name x px) (.ref I) body orelse env) (fun r s' => match r with | .ok f => Q f s' | .error e => E e s') s := by
  have hLw : env.locals ∉ wr := fun h => hLf (W.sub _ h)
  have old : ∀ b o, h₀.get? b = some o → b ∉ wr := fun b o e hb => by rw [hwr b hb] at e; cases e
  refine codeAny_forLoop
    (fun k s' => ∃ h' tk m' news' i, s' = { s with heap := h', toks := tk } ∧ St i h' ∧ Fr h₀ env.locals h' m' ∧ News h₀ env.locals h' news' ∧ (∀ p ∈ news', p.1 ∉ wr) ∧ J i m' news' ∧ i ≤ n ∧ k = n + 1 - i) ?_ (n + 1)
    ⟨s.heap, s.toks, m, news, 0, rfl, hst, F, N, hnw, hJ, Nat.zero_le _, rfl⟩
  rintro k s' ⟨h', tk, m', news', i, rfl, hst', F', N', hnw', hJ, hi, rfl⟩
  have next : ∀ h₁ : Heap, (∀ b o, b ∉ wr → h'.get? b = some o → h₁.get? b = some o) → Fr h₀ env.locals h₁ m' ∧ News h₀ env.locals h₁ news' := fun h₁ hk₁ =>
    ⟨⟨F'.ns.at' fun o e => hk₁ _ o hLw e, fun b o e => hk₁ b o (old b o e) (F'.keep b o e), F'.above⟩, fun p hp => ⟨hk₁ _ _ (hnw' p hp) (N' p hp).1, (N' p hp).2⟩⟩
  by_cases hlt : i < n
  · refine W.item i _ _ _ hlt hst' fun v h₁ tk₁ hP hst₁ hk₁ => ?_
    obtain ⟨F₁, N₁⟩ := next h₁ hk₁
    refine wpAny_assign_Name (wpAny_storeName_local hx F₁.ns (fun h₂ hn₂ hs₂ => ?_) hp)
    have F₂ := F₁.set hn₂ hs₂
    have own := ownOf h₀ fp h₂
    refine wpAny_mono (turn i v m' news' h₂ (tk₁ + 1) (ownOf h₀ fp h₂) hlt hP hJ F₂ ((N₁.set hs₂).append (news_ownOf hLf)) (fun p hp => ?_) (fun b hb o hn ho => mem_ownOf hb hn ho) hnw' (W.frame _ _ _ hst₁ fun b hb o e => hs₂.extBut b o (fun q => hLf (q ▸ hb)) e)) (fun f s₃ h₃ => ?_) fun _ _ e => e.elim
    · obtain ⟨b, hb, e⟩ := List.mem_filterMap.mp hp
      cases hn : h₀.get? b with
      | some x => simp [hn] at e
      | none =>
        cases ho : h₂.get? b with
        | none => simp [hn, ho] at e
        | some o =>
          have : p = (b, o) := by simpa [hn, ho] using e.symm
          rw [this]; exact hb
    · have key : ∀ h₃' tk₃ m₂ news₃, Fr h₀ env.locals h₃' m₂ → News h₀ env.locals h₃' news₃ → (∃ news₂, news₃ = news₂ ++ ownOf h₀ fp h₂ ∧ (∀ p ∈ news₂, p.1 ∉ wr) ∧ J (i + 1) m₂ news₂) →
          ∃ k, k < n + 1 - i ∧ ∃ h' tk m' news' i, ({ s with heap := h₃', toks := tk₃ } : Shared) = { s with heap := h', toks := tk } ∧ St i h' ∧ Fr h₀ env.locals h' m' ∧ News h₀ env.locals h' news' ∧ (∀ p ∈ news', p.1 ∉ wr) ∧ J i m' news' ∧ i ≤ n ∧ k = n + 1 - i := by
        rintro h₃' tk₃ m₂ news₃ F₃ N₃ ⟨news₂, rfl, hw₂, hJ₃⟩
        refine ⟨n + 1 - (i + 1), by omega, h₃', tk₃, m₂, news₂, i + 1, rfl, ?_, F₃, (fun p hp => N₃ p (List.mem_append_left _ hp)), hw₂, hJ₃, hlt, rfl⟩
        refine W.frame _ _ _ hst₁ fun b hb o e => ?_
        have e₂ : h₂.get? b = some o := (hs₂.2 b fun q => hLf (q ▸ hb)).trans e
        cases hn : h₀.get? b with
        | some o₀ =>
          have : o₀ = o := by have := F₂.keep b o₀ hn; rw [e₂] at this; exact (Option.some.inj this).symm
          exact this ▸ F₃.keep b o₀ hn
        | none => exact (N₃ _ (List.mem_append_right _ (mem_ownOf hb hn e₂))).1
      cases f with
      | next => obtain ⟨h', tk', m', news', rfl, F', N', hJ'⟩ := h₃; exact key _ _ _ _ F' N' hJ'
      | cont => obtain ⟨h', tk', m', news', rfl, F', N', hJ'⟩ := h₃; exact key _ _ _ _ F' N' hJ'
      | brk => exact h₃
      | ret v => exact h₃
  · have hin : i = n := by omega
    subst hin
    refine W.done _ _ _ hst' fun h₁ tk₁ hk₁ => ?_
    obtain ⟨F₁, N₁⟩ := next h₁ hk₁
    exact wpAny_mono (done m' news' h₁ tk₁ hJ F₁ N₁) (fun _ _ x => x) fun _ _ x => x.elim
abbrev lst (vs : List Value) (n : Nat) : Obj := { cls := .type "list", data := .seq vs.toArray n }
def Has (m : Str → Option Value) : List (Str × Value) → Prop
  | [] => True
  | (x, v) :: r => m x = some v ∧ Has m r
def put (m : Str → Option Value) : List (Str × Value) → Str → Option Value
  | [] => m
  | (x, v) :: r => fun y => if y = x then some v else put m r y
theorem put_eq {m : Str → Option Value} : ∀ {l : List (Str × Value)}, Has m l → put m l = m
  | [], _ => rfl
  | (x, v) :: r, h => by
    funext y
    show (if y = x then some v else put m r y) = m y
    rw [put_eq h.2]
    by_cases e : y = x
    · rw [if_pos e, e, h.1]
    · rw [if_neg e]
theorem frPut {h₀ h : Heap} {L : Addr} {m : Str → Option Value} (l : List (Str × Value)) (F : Fr h₀ L h m) (H : Has m l) : Fr h₀ L h (put m l) := (put_eq H).symm ▸ F
def Stop (p : Prop) : Prop := p
theorem stop {p : Prop} (h : Stop p) : p := h
theorem unstop {p : Prop} (h : p) : Stop p := h
theorem lstAt {h₀ h : Heap} {L p : Addr} {news : List (Addr × Obj)} {vs : Array Value} {n : Nat} (N : News h₀ L h news) (hm : (p, W.listOf vs n) ∈ news) : h.IsList p vs := ⟨_, N.get hm, rfl, _, rfl⟩
theorem ntl {h₀ h : Heap} {L : Addr} {p : Addr × Obj} {news : List (Addr × Obj)} (N : News h₀ L h (p :: news)) : News h₀ L h news := fun q hq => N q (.tail _ hq)
theorem sub_drop2 {h₀ h : Heap} {L : Addr} {p q : Addr × Obj} {news : List (Addr × Obj)} (N : News h₀ L h (p :: q :: news)) : News h₀ L h (p :: news) := fun r hr => by
  rcases List.mem_cons.mp hr with rfl | hr
  · exact N _ (.head _)
  · exact N _ (.tail _ (.tail _ hr))
theorem nhd {h₀ h : Heap} {L : Addr} {p : Addr × Obj} {news : List (Addr × Obj)} (N : News h₀ L h (p :: news)) : News h₀ L h [p] := fun q hq => by
  rw [List.mem_singleton.mp hq]; exact N _ (.head _)
local macro_rules | `(tactic| walk_at "callWith") => `(tactic| ((with_reducible show wpAny _ _ (callWith _ (Value.builtin _) [_] _ _) _ _ _); refine callWith_method1 ?_))
local macro_rules | `(tactic| walk_at "exec While Compare cons nil") => `(tactic| refine stop ?_)
local macro_rules | `(tactic| walk_at "call builtin:issubclass") => `(tactic| (k_here; refine issub_str (News.get (by k_asm) (by k_mem)) ?_))
local macro_rules | `(tactic| walk_at "m_enter") => `(tactic| ((case cc => assumption); (case hA => assumption); (case ho => k_is); (case hcd => k_is); (case hb => exact BindsTo.of_eq rfl); (case hl => exact locs rfl); (case c2 => exact rfl); (case c3 => exact rfl); (case c4 => exact rfl); (case c5 => decide)))
local macro_rules | `(tactic| k_all) => `(tactic| assumption)
local macro_rules | `(tactic| walk_at "m_enter2") => `(tactic| ((case cc => assumption); (case hA => assumption); (case ho => k_is); (case hcd => k_is); (case c2 => exact rfl); (case c3 => exact rfl); (case c4 => exact rfl); (try (case c5 => decide))))
local macro_rules | `(tactic| walk_at "m_cx") => `(tactic| exact Cx.fr (by k_asm) (by k_asm) (by k_asm))
local macro_rules | `(tactic| walk_at "m_rm") => `(tactic| exact Rm.le (by assumption) (by decide))
local macro_rules | `(tactic| walk_at "m_cc") => `(tactic| ((case uF => k_asm); (case uN => k_asm); (case uc => walk_at "m_cx"); (case ur => walk_at "m_rm")))
local macro_rules | `(tactic| walk_at "m_st") => `(tactic| (k_here; refine stop ?_))
local macro_rules | `(tactic| walk_at "m_step") => `(tactic| (all_goals (first | (k_unfold; (try dsimp only)) | (k_end; kc_close) | walk1 | (dsimp only; walk1) | (leave1; walk_say "STEP leave1"; (try dsimp only)) | skip)))
local macro_rules | `(tactic| walk_at "m_go") => `(tactic| ((try dsimp only); (try k_fold); k_steps))
theorem part_off_01 : True := by w_top off; trivial
theorem c_get_sep {prog : Program} {w : World} {mean mg mb} {A : Around} {s : Shared} {x : Str} {t : Tok} (c : Cx w mean mg mb s.heap) (hA : Rm A (0+1)) :
    codeAny (model prog w) A (.call (.ref 157) ⟨[.str x t], []⟩) (Ret s fun v _ => ∃ t, v = .str (Str.ofString "/") t) s := by
  refine' enter_plain (binds := [(Str.ofString "path", .str x t)]) ?cc ?hA ?ho ?hcd ?hb ?hl ?_ ?c2 ?c3 ?c4 ?c5
  walk_at "m_enter"
  intro L h₁ dp fr gd un F N X T R
  walk_at "m_go"
  exact ⟨_, _, _, rfl, rfl, Fr.keep (by assumption), _, rfl⟩
theorem c_fspath {prog : Program} {w : World} {mean mg mb} {A : Around} {s : Shared} {x : Str} {t : Tok} (c : Cx w mean mg mb s.heap) (hA : Rm A (0+1)) :
    codeAny (model prog w) A (.call (.ref 143) ⟨[.str x t], []⟩) (Ret s fun v _ => v = .str x t) s := by
  refine' enter_plain (binds := [(Str.ofString "path", .str x t)]) ?cc ?hA ?ho ?hcd ?hb ?hl ?_ ?c2 ?c3 ?c4 ?c5
  walk_at "m_enter"
  intro L h₁ dp fr gd un F N X T R
  walk_at "m_go"
  exact ⟨_, _, _, rfl, rfl, Fr.keep (by assumption), rfl⟩
local macro_rules | `(tactic| walk_at "call ref") => `(tactic| (k_here; (with_reducible show wpAny _ _ (call (Value.ref 143) [Value.str _ _]) _ _ _); refine' use_ret ?uF ?uN (c_fspath ?uc ?ur) ?_; walk_at "m_cc"; intro v h' tk' F' N' kp' hv; subst hv; clear kp'; (try dsimp only); (try k_fold)))
local macro_rules | `(tactic| walk_at "call ref") => `(tactic| (k_here; (with_reducible show wpAny _ _ (call (Value.ref 157) [Value.str _ _]) _ _ _); refine' use_ret ?uF ?uN (c_get_sep ?uc ?ur) ?_; walk_at "m_cc"; intro v h' tk' F' N' kp' hv; obtain ⟨t', hv⟩ := hv; subst hv; clear kp'; (try dsimp only); (try k_fold)))
theorem part_off_02 : True := by w_top off; trivial
def menu : List Str := [Str.ofString ".", Str.ofString "a", Str.ofString "b", Str.ofString "..", Str.ofString "ab", Str.ofString "b/"]
def pcs : Nat → Nat → List Str
  | 0, _ => []
  | k + 1, f => if f = 0 then [] else menu.getD (f % 6) Str.empty :: pcs k (f / 6)
theorem sp_step {k g : Nat} {dn T : List Str} (hg : g < 6 ^ k) (hd : dn ++ pcs k g = T) (hk : dn.length + k = 4) (hp : 0 < (g : Int)) :
    ∃ k', k' < k ∧ g / 6 < 6 ^ k' ∧ (dn ++ [menu.getD (g % 6) Str.empty]) ++ pcs k' (g / 6) = T ∧ (dn ++ [menu.getD (g % 6) Str.empty]).length + k' = 4 ∧ (g : Int).fdiv 6 = ((g / 6 : Nat) : Int) := by
  cases k with
  | zero => simp at hg; omega
  | succ k =>
    refine ⟨k, Nat.lt_succ_self _, ?_, ?_, ?_, ?_⟩
    · rw [Nat.pow_succ] at hg; omega
    · have e : pcs (k + 1) g = menu.getD (g % 6) Str.empty :: pcs k (g / 6) := by rw [pcs, if_neg (by omega)]
      rw [← hd, e]; simp
    · simp; omega
    · rw [Int.fdiv_eq_ediv_of_nonneg _ (by decide)]; norm_cast
theorem pcs_small : ∀ (k f : Nat), ((pcs k f).map (·.length)).sum ≤ 2 * k ∧ (pcs k f).length ≤ k
  | 0, _ => ⟨Nat.le_refl _, Nat.le_refl _⟩
  | k + 1, f => by
    have ih := pcs_small k (f / 6)
    unfold pcs
    split
    · simp
    · have : (menu.getD (f % 6) Str.empty).length ≤ 2 := by
        have h6 : f % 6 < 6 := Nat.mod_lt _ (by decide)
        have : ∀ j, j < 6 → (menu.getD j Str.empty).length ≤ 2 := by decide +kernel
        exact this _ h6
      simp only [List.map_cons, List.sum_cons, List.length_cons]
      omega
theorem pcs_zero : ∀ k, pcs k 0 = []
  | 0 => rfl
  | k + 1 => by unfold pcs; simp
def spelled (f : Nat) : Str := Txt.join (Str.ofString "/") (pcs 4 f)
theorem c_spelled {prog : Program} {w : World} {mean mg mb} {A : Around} {s : Shared} {f : Nat} {t : Tok} (hf2 : f < 1296) (c : Cx w mean mg mb s.heap) (hA : Rm A (0+1)) :
    codeAny (model prog w) A (.call (.ref 197) ⟨[.int (f : Int) t], []⟩) (Ret s fun v _ => ∃ t, v = .str (spelled f) t) s := by
  refine' enter_plain (binds := [(Str.ofString "figures", .int (f : Int) t)]) ?cc ?hA ?ho ?hcd ?hb ?hl ?_ ?c2 ?c3 ?c4 ?c5
  walk_at "m_enter"
  intro L h₁ dp fr gd un F N X T R
  walk_at "m_go"
  (with_reducible rename Fr _ _ _ _ => F)
  (with_reducible rename News _ _ _ _ => N)
  refine unstop (my_while (n := 4) (fun k m news => ∃ (g : Nat) (t : Tok) (p : Addr) (vs : Array Value) (n : Nat) (dn : List Str), g < 6 ^ k ∧ dn ++ pcs k g = pcs 4 f ∧ StrsAre vs.toList dn ∧ dn.length + k = 4 ∧
     Has m [(Str.ofString "figures", .int (g : Int) t), (Str.ofString "pieces", .ref p)] ∧ news = [(p, W.listOf vs n)]) F N ?_ ?_)
  · exact ⟨f, t, _, #[], _, [], hf2, rfl, .nil, rfl, ⟨rfl, rfl, trivial⟩, rfl⟩
  · clear F N
    rintro k m _ h tk ⟨g, tg, p, vs, n, dn, hg, hd, hvs, hk, hm, rfl⟩ F N
    replace F := frPut _ F hm
    have hl := hvs.length
    rw [Array.length_toList] at hl
    k_with "table" => skip
    walk_at "m_go"
    · obtain ⟨k', h1, h2, h3, h4, h5⟩ := sp_step hg hd hk (by assumption)
      (with_reducible rename News _ _ _ _ => N)
      (with_reducible rename Fr _ _ _ _ => F)
      have e6 : ((g : Int).fmod 6).toNat = g % 6 := by rw [Int.fmod_eq_emod_of_nonneg _ (by decide)]; omega
      dsimp only
      refine ⟨_, _, _, _, rfl, F, ntl N, k', h1, g / 6, ?tk, p, _, _, _, h2, h3, ?q1, h4, ⟨?q2, ?q3, trivial⟩, rfl⟩
      case q1 =>
        rw [Array.toList_push, ← e6]
        exact StrsAre.append' hvs (.cons _ _ .nil)
      case q2 => exact congrArg (fun i => some (Value.int i _)) h5
      case q3 => rfl
    · have h0 : g = 0 := by omega
      (with_reducible rename News _ _ _ _ => N)
      (with_reducible rename Fr _ _ _ _ => F)
      subst h0
      rw [pcs_zero, List.append_nil] at hd
      subst hd
      have hs := pcs_small 4 f
      refine join_list (lstAt N (.head _)) hvs (by have := hs.1; have := hs.2; have e1 : (Str.ofString "/").length = 1 := by decide +kernel
                                                   rw [e1]; omega) fun t' k' => ?_
      exact ⟨_, _, _, rfl, rfl, F.keep, _, rfl⟩
theorem part_off_03 : True := by w_top off; trivial
/-- how a turn leaves the ledger: the iterator's part as it was -/
def LK (own : List (Addr × Obj)) (I : Addr) (J : (Str → Option Value) → List (Addr × Obj) → Prop) (m' : Str → Option Value) (news' : List (Addr × Obj)) : Prop := ∃ news₂, news' = news₂ ++ own ∧ (∀ p ∈ news₂, p.1 ≠ I) ∧ J m' news₂
theorem notMem2 {a b c : Addr} (h1 : a ≠ b) (h2 : a ≠ c) : a ∉ [b, c] := fun h => by
  rcases List.mem_cons.mp h with e | h
  · exact h1 e
  · exact h2 (List.mem_singleton.mp h)
/-- for x in a list: the list stands; own: the iterator (and the list, where it is not the base's) -/
theorem my_for_list {prog : Program} {w : World} {A : Around} {E E' : Value → Shared → Prop} {s : Shared} {env : Env} {h₀ : Heap} {x : Str} {px : Pos} {l : Addr} {vs : Array Value}
    {body orelse : List Stmt} {Q : Flow → Shared → Prop} {m : Str → Option Value} {news : List (Addr × Obj)}
    (J : Addr → Nat → (Str → Option Value) → List (Addr × Obj) → Prop)
    (hh : A.handled = none) (hl : s.heap.IsList l vs) (hlL : l ≠ env.locals) (F : Fr h₀ env.locals s.heap m) (N : News h₀ env.locals s.heap news) (hJ : J l 0 m news)
    (hx : env.kindOf x = some .local) (hp : (env.scope.kind == .class || (env.scope.kind == .module && env.locals != env.globals)) = false)
    (turn : ∀ I oI i v m₁ news₁ h tk own, vs[i]? = some v → J l i m₁ news₁ → Fr h₀ env.locals h (fun y => if y = x then some v else m₁ y) → News h₀ env.locals h (news₁ ++ own) →
      (∀ p ∈ own, p.1 = I ∨ p.1 = l) → (I, oI) ∈ own → (∀ p ∈ news₁, p.1 ≠ I) → (∀ p ∈ news, p.1 < I) → l < I →
      wpAny (model prog w) A (execs body env) (TPost h₀ env.locals (LK own I (J l (i + 1))) s Q) NoE { s with heap := h, toks := tk })
    (done : ∀ m₁ news₁ h tk, J l vs.size m₁ news₁ → Fr h₀ env.locals h m₁ → News h₀ env.locals h news₁ → wpAny (model prog w) A (execs orelse env) Q NoE { s with heap := h, toks := tk }) :
    wpAny (model prog w) A (pyIter (.ref l)) (fun it s₂ => codeAny (model prog w) A (.forLoop (.Name x px) it body orelse env) (fun r s' => match r with | .ok f => Q f s' | .error e => E' e s') s₂) E s := by
  obtain ⟨ol, hol, _⟩ := id hl
  have hne : l ≠ s.heap.objs.size := Nat.ne_of_lt (Heap.lt_size hol)
  have hLs : env.locals ≠ s.heap.objs.size := Nat.ne_of_lt F.ns.lt
  refine wpAny_pyIter_list hl ?_
  have W := Walks.list (prog := prog) (w := w) hh s.heap.objs.size l hne vs
  refine my_for (J l) W hx hp (notMem2 hLs (Ne.symm hlL)) ?_ ⟨⟨_, Heap.get?_push_size _ rfl, rfl, rfl⟩, hl.at fun o e => Heap.get?_push_of_some _ e⟩ (F.push _) (fun p hp => ⟨Heap.get?_push_of_some _ (N p hp).1, (N p hp).2⟩) ?_ hJ ?_ done
  · intro b hb
    rw [List.mem_singleton.mp hb]
    cases hq : h₀.get? s.heap.objs.size with
    | none => rfl
    | some o' => exact absurd (Heap.lt_size (F.keep _ _ hq)) (Nat.lt_irrefl _)
  · intro p hp hI
    exact absurd (Heap.lt_size (N p hp).1) ((List.mem_singleton.mp hI) ▸ Nat.lt_irrefl _)
  · intro i v m₁ news₁ h tk own hi hP hJ₁ F₁ N₁ hfp hin hw hst
    have hI₀ : h₀.get? s.heap.objs.size = none := by
      cases hq : h₀.get? s.heap.objs.size with
      | none => rfl
      | some o' => exact absurd (Heap.lt_size (F.keep _ _ hq)) (Nat.lt_irrefl _)
    obtain ⟨oI, hoI, _⟩ := hst.1
    refine wpAny_mono (turn s.heap.objs.size oI i v m₁ news₁ h tk own hP hJ₁ F₁ N₁ (fun p hp => ?_) (hin _ (.head _) _ hI₀ hoI) (fun p hp e => hw p hp (by rw [e]; exact .head _)) (fun p hp => Heap.lt_size (N p hp).1) (Heap.lt_size hol)) (fun f s₂ hf => ?_) fun _ _ x => x
    · rcases List.mem_cons.mp (hfp p hp) with e | e
      · exact .inl e
      · exact .inr (List.mem_singleton.mp e)
    · have key : ∀ m' news', (∃ news₂, news' = news₂ ++ own ∧ (∀ p ∈ news₂, p.1 ≠ s.heap.objs.size) ∧ J l (i + 1) m' news₂) → ∃ news₂, news' = news₂ ++ own ∧ (∀ p ∈ news₂, p.1 ∉ [s.heap.objs.size]) ∧ J l (i + 1) m' news₂ := by
        rintro m' news' ⟨n₂, h1, h2, h3⟩
        exact ⟨n₂, h1, fun p hp hm => h2 p hp (List.mem_singleton.mp hm), h3⟩
      cases f with
      | next => obtain ⟨h', tk', m', news', rfl, F', N', hJ'⟩ := hf; exact ⟨h', tk', m', news', rfl, F', N', key _ _ hJ'⟩
      | cont => obtain ⟨h', tk', m', news', rfl, F', N', hJ'⟩ := hf; exact ⟨h', tk', m', news', rfl, F', N', key _ _ hJ'⟩
      | brk => exact hf
      | ret v => exact hf
theorem my_for_tup {prog : Program} {w : World} {A : Around} {E E' : Value → Shared → Prop} {s : Shared} {env : Env} {h₀ : Heap} {x : Str} {px : Pos} {l : Addr} {vs : Array Value}
    {body orelse : List Stmt} {Q : Flow → Shared → Prop} {m : Str → Option Value} {news : List (Addr × Obj)}
    (J : Addr → Nat → (Str → Option Value) → List (Addr × Obj) → Prop)
    (hh : A.handled = none) (hl : s.heap.IsTuple l vs) (hlL : l ≠ env.locals) (F : Fr h₀ env.locals s.heap m) (N : News h₀ env.locals s.heap news) (hJ : J l 0 m news)
    (hx : env.kindOf x = some .local) (hp : (env.scope.kind == .class || (env.scope.kind == .module && env.locals != env.globals)) = false)
    (turn : ∀ I oI i v m₁ news₁ h tk own, vs[i]? = some v → J l i m₁ news₁ → Fr h₀ env.locals h (fun y => if y = x then some v else m₁ y) → News h₀ env.locals h (news₁ ++ own) →
      (∀ p ∈ own, p.1 = I ∨ p.1 = l) → (I, oI) ∈ own → (∀ p ∈ news₁, p.1 ≠ I) → (∀ p ∈ news, p.1 < I) → l < I →
      wpAny (model prog w) A (execs body env) (TPost h₀ env.locals (LK own I (J l (i + 1))) s Q) NoE { s with heap := h, toks := tk })
    (done : ∀ m₁ news₁ h tk, J l vs.size m₁ news₁ → Fr h₀ env.locals h m₁ → News h₀ env.locals h news₁ → wpAny (model prog w) A (execs orelse env) Q NoE { s with heap := h, toks := tk }) :
    wpAny (model prog w) A (pyIter (.ref l)) (fun it s₂ => codeAny (model prog w) A (.forLoop (.Name x px) it body orelse env) (fun r s' => match r with | .ok f => Q f s' | .error e => E' e s') s₂) E s := by
  obtain ⟨ol, hol, _⟩ := id hl
  have hne : l ≠ s.heap.objs.size := Nat.ne_of_lt (Heap.lt_size hol)
  have hLs : env.locals ≠ s.heap.objs.size := Nat.ne_of_lt F.ns.lt
  refine wpAny_pyIter_tuple hl ?_
  have W := Walks.tuple (prog := prog) (w := w) hh s.heap.objs.size l hne vs
  refine my_for (J l) W hx hp (notMem2 hLs (Ne.symm hlL)) ?_ ⟨⟨_, Heap.get?_push_size _ rfl, rfl, rfl⟩, hl.at fun o e => Heap.get?_push_of_some _ e⟩ (F.push _) (fun p hp => ⟨Heap.get?_push_of_some _ (N p hp).1, (N p hp).2⟩) ?_ hJ ?_ done
  · intro b hb
    rw [List.mem_singleton.mp hb]
    cases hq : h₀.get? s.heap.objs.size with
    | none => rfl
    | some o' => exact absurd (Heap.lt_size (F.keep _ _ hq)) (Nat.lt_irrefl _)
  · intro p hp hI
    exact absurd (Heap.lt_size (N p hp).1) ((List.mem_singleton.mp hI) ▸ Nat.lt_irrefl _)
  · intro i v m₁ news₁ h tk own hi hP hJ₁ F₁ N₁ hfp hin hw hst
    have hI₀ : h₀.get? s.heap.objs.size = none := by
      cases hq : h₀.get? s.heap.objs.size with
      | none => rfl
      | some o' => exact absurd (Heap.lt_size (F.keep _ _ hq)) (Nat.lt_irrefl _)
    obtain ⟨oI, hoI, _⟩ := hst.1
    refine wpAny_mono (turn s.heap.objs.size oI i v m₁ news₁ h tk own hP hJ₁ F₁ N₁ (fun p hp => ?_) (hin _ (.head _) _ hI₀ hoI) (fun p hp e => hw p hp (by rw [e]; exact .head _)) (fun p hp => Heap.lt_size (N p hp).1) (Heap.lt_size hol)) (fun f s₂ hf => ?_) fun _ _ x => x
    · rcases List.mem_cons.mp (hfp p hp) with e | e
      · exact .inl e
      · exact .inr (List.mem_singleton.mp e)
    · have key : ∀ m' news', (∃ news₂, news' = news₂ ++ own ∧ (∀ p ∈ news₂, p.1 ≠ s.heap.objs.size) ∧ J l (i + 1) m' news₂) → ∃ news₂, news' = news₂ ++ own ∧ (∀ p ∈ news₂, p.1 ∉ [s.heap.objs.size]) ∧ J l (i + 1) m' news₂ := by
        rintro m' news' ⟨n₂, h1, h2, h3⟩
        exact ⟨n₂, h1, fun p hp hm => h2 p hp (List.mem_singleton.mp hm), h3⟩
      cases f with
      | next => obtain ⟨h', tk', m', news', rfl, F', N', hJ'⟩ := hf; exact ⟨h', tk', m', news', rfl, F', N', key _ _ hJ'⟩
      | cont => obtain ⟨h', tk', m', news', rfl, F', N', hJ'⟩ := hf; exact ⟨h', tk', m', news', rfl, F', N', key _ _ hJ'⟩
      | brk => exact hf
      | ret v => exact hf
local macro_rules | `(tactic| walk_at "exec For Name Name cons nil") => `(tactic| (k_here; k_dflt (refine wpAny_For ?_)))
local macro_rules | `(tactic| walk_at "exec For Name Call cons nil") => `(tactic| (k_here; k_dflt (refine wpAny_For ?_)))
local macro_rules | `(tactic| walk_at "pyIter ref") => `(tactic| refine stop ?_)
theorem part_off_04 : True := by w_top off; trivial
abbrev slash : Str := Str.ofString "/"
def nmStep (ns : List Str) (p : Str) : List Str := if p = Str.ofString ".." then ns.dropLast else if p ≠ Str.ofString "" ∧ p ≠ Str.ofString "." then ns ++ [p] else ns
def lawNames (x : Str) : List Str := (Txt.split x slash).foldl nmStep []
theorem nm_len : ∀ (ps ns : List Str), (ps.foldl nmStep ns).length ≤ ns.length + ps.length
  | [], ns => Nat.le_refl _
  | p :: ps, ns => by
    have ih := nm_len ps (nmStep ns p)
    have h : (nmStep ns p).length ≤ ns.length + 1 := by
      unfold nmStep
      split
      · simp; omega
      · split <;> simp
    simp only [List.foldl_cons, List.length_cons]
    omega
theorem nm_mem : ∀ (ps ns : List Str) (y : Str), y ∈ ps.foldl nmStep ns → y ∈ ns ∨ (y ∈ ps ∧ y ≠ Str.ofString ".." ∧ y ≠ Str.ofString "" ∧ y ≠ Str.ofString ".")
  | [], ns, y, h => .inl h
  | p :: ps, ns, y, h => by
    rcases nm_mem ps (nmStep ns p) y h with h | h
    · unfold nmStep at h
      split at h
      · exact .inl (List.dropLast_subset _ h)
      · rename_i h1
        split at h
        · rename_i h2
          rcases List.mem_append.mp h with h | h
          · exact .inl h
          · rw [List.mem_singleton.mp h]
            exact .inr ⟨.head _, h1, h2.1, h2.2⟩
        · exact .inl h
    · exact .inr ⟨.tail _ h.1, h.2⟩
theorem nm_sum2 {x : Str} (hx : x.length ≤ 1000) (hp : ∀ y ∈ Txt.split x (Str.ofString "/"), y.length ≤ 1000) (hl : (Txt.split x (Str.ofString "/")).length ≤ x.length + 1) :
    (((Txt.split x (Str.ofString "/")).foldl nmStep []).map (·.length)).sum + ((Txt.split x (Str.ofString "/")).foldl nmStep []).length * (Str.ofString "/").length ≤ 2000000 := by
  have h1 := nm_len (Txt.split x (Str.ofString "/")) []
  have h2 := StrLaws.sumLen_le (B := 1000) ((Txt.split x (Str.ofString "/")).foldl nmStep []) fun y hy => by
    rcases nm_mem _ _ _ hy with h | h
    · cases h
    · exact hp y h.1
  have e : (Str.ofString "/").length = 1 := by decide +kernel
  rw [e]
  simp only [List.length_nil] at h1
  have h3 : ((Txt.split x (Str.ofString "/")).foldl nmStep []).length * 1000 ≤ 1001 * 1000 := Nat.mul_le_mul_right _ (by omega)
  omega
theorem slash_len : slash.length = 1 := by decide +kernel
theorem join_ge : ∀ ps : List Str, ps.length ≤ (Str.join slash ps).length + 1
  | [] => Nat.zero_le _
  | [p] => by simp
  | p :: q :: r => by
    have ih := join_ge (q :: r)
    show _ ≤ (p ++ slash ++ Str.join slash (q :: r)).length + 1
    rw [Str.length_append, Str.length_append, slash_len]
    simp only [List.length_cons] at ih ⊢
    omega
theorem split_len (x : Str) : (Txt.split x slash).length ≤ x.length + 1 := by
  have h := join_ge (Txt.split x slash)
  rw [StrLaws.join_split] at h
  exact h
theorem strs_butLast {vs : Array Value} {ss : List Str} (h : StrsAre vs.toList ss) : StrsAre (slicePick vs none (some (-1)) none).toList ss.dropLast := by
  have e := slicePick_butLast vs 1 (Nat.le_refl _)
  have e' : (-(1 : Nat) : Int) = -1 := rfl
  rw [e'] at e
  rw [e, List.dropLast_eq_take, ← h.length, Array.length_toList]
  exact h.take' _
theorem c_names {prog : Program} {w : World} {mean mg mb} {A : Around} {s : Shared} {x : Str} {t : Tok} (hx : x.length ≤ 1000) (c : Cx w mean mg mb s.heap) (hA : Rm A (0+1)) :
    codeAny (model prog w) A (.call (.ref 204) ⟨[.str x t], []⟩) (Ret s fun v h' => ∃ a vs n, v = .ref a ∧ s.heap.get? a = none ∧ h'.get? a = some (W.listOf vs n) ∧ StrsAre vs.toList (lawNames x)) s := by
  refine' enter_plain (binds := [(Str.ofString "path", .str x t)]) ?cc ?hA ?ho ?hcd ?hb ?hl ?_ ?c2 ?c3 ?c4 ?c5
  walk_at "m_enter"
  intro L h₁ dp fr gd un F N X T R
  walk_at "m_go"
  (with_reducible rename Fr _ _ _ _ => F)
  (with_reducible rename News _ _ _ _ => N)
  (rename List.map _ _ = Txt.split _ _ => hsp)
  (rename StrsAre _ _ => hss)
  (with_reducible rename Heap.IsList _ _ _ => hl)
  rw [hsp] at hss
  (have hsl := split_len x)
  dsimp only at F N hl ⊢
  rename_i hh
  refine unstop (my_for_list (fun l i m news => ∃ (p : Addr) (vs : Array Value) (n : Nat), m (Str.ofString "names") = some (.ref p) ∧ news = [(p, W.listOf vs n)] ∧ p ≠ l ∧ StrsAre vs.toList (((Txt.split x slash).take i).foldl nmStep []))
    R.handled hl ?k1 F (ntl N) ?k2 rfl rfl ?turn ?done)
  case k1 => exact (N _ (.head _)).2.1
  case k2 => exact ⟨_, _, _, rfl, rfl, Nat.ne_of_lt (Heap.lt_size (News.get (by assumption) (List.Mem.head _))), .nil⟩
  case turn =>
    clear F N
    rintro I oI i v m₁ _ h tk own hv ⟨p, vs, n, hm, rfl, hpl, hvs⟩ F N hown hIo hI hlo hlI
    obtain ⟨y, ty, rfl, hy⟩ := hss.item i v (by simpa using hv)
    replace F := frPut [(Str.ofString "piece", .str y ty), (Str.ofString "names", .ref p)] F ⟨rfl, hm, trivial⟩
    have hoff : ∀ q ∈ own, q.1 ≠ p := fun q hq e => (hown q hq).elim (fun e' => hI _ (.head _) (e ▸ e')) fun e' => hpl (e ▸ e')
    have hIh : I < h.objs.size := Heap.lt_size (N _ (List.mem_append_right _ hIo)).1
    have hn : (((Txt.split x slash).take i).foldl nmStep []).length ≤ 1001 := by
      have := nm_len ((Txt.split x slash).take i) []
      simp only [List.length_take, List.length_nil] at this
      omega
    have hvl : vs.size ≤ 1001 := by have := hvs.length; rw [Array.length_toList] at this; omega
    have hyl : y.length ≤ 1000 := Nat.le_trans (hh y (by rw [hsp]; exact List.mem_of_getElem? hy)) hx
    have hnext : ((Txt.split x slash).take (i + 1)).foldl nmStep [] = nmStep (((Txt.split x slash).take i).foldl nmStep []) y := by
      rw [List.take_add_one, hy]; simp
    rw [hnext]
    simp only [List.cons_append, List.nil_append] at N
    walk_at "m_go"
    all_goals (with_reducible rename Fr _ _ _ _ => F)
    all_goals (with_reducible rename News _ _ _ _ => N)
    · rename (y == _) = _ => c1
      have e1 : nmStep (((Txt.split x slash).take i).foldl nmStep []) y = (((Txt.split x slash).take i).foldl nmStep []).dropLast := by
        unfold nmStep; rw [if_pos (eq_of_beq c1)]
      rw [e1]
      dsimp only at F N ⊢
      try simp only [Heap.size_push] at F N
      refine ⟨_, _, _, _, rfl, F, sub_drop2 N, [_], rfl, ?q0, _, _, _, rfl, rfl, ?q1, strs_butLast hvs⟩
      case q0 => intro q hq; rw [List.mem_singleton.mp hq]; exact Nat.ne_of_gt (Nat.lt_succ_of_lt hIh)
      case q1 => exact Nat.ne_of_gt (Nat.lt_succ_of_lt (Nat.lt_trans hlI hIh))
    · rename (y == _) = _ => c1
      rename (y != Str.ofString "") = _ => c2
      rename (y != _) = _ => c3
      have e1 : nmStep (((Txt.split x slash).take i).foldl nmStep []) y = ((Txt.split x slash).take i).foldl nmStep [] ++ [y] := by
        unfold nmStep; rw [if_neg (ne_of_beq_false c1), if_pos ⟨bne_iff_ne.mp c2, bne_iff_ne.mp c3⟩]
      rw [e1]
      dsimp only at F N ⊢
      refine ⟨_, _, _, _, rfl, F, N, [_], rfl, ?q0, _, _, _, ?q3, rfl, hpl, ?q2⟩
      case q0 => intro q hq; rw [List.mem_singleton.mp hq]; exact (hI (p, W.listOf vs n) (.head _) : p ≠ I)
      case q2 => rw [Array.toList_push]; exact hvs.append' (.cons _ _ .nil)
      case q3 => rfl
    · rename (y == _) = _ => c1
      rename (y != _) = false => c3
      have e1 : nmStep (((Txt.split x slash).take i).foldl nmStep []) y = ((Txt.split x slash).take i).foldl nmStep [] := by
        unfold nmStep; rw [if_neg (ne_of_beq_false c1), if_neg (fun h => (bne_iff_ne.mpr h.2).symm.trans c3 |> Bool.noConfusion)]
      rw [e1]
      dsimp only at F N ⊢
      refine ⟨_, _, _, _, rfl, F, N, [_], rfl, hI, _, _, _, ?q3, rfl, hpl, hvs⟩
      case q3 => rfl
    · rename (y == _) = _ => c1
      rename (y != _) = false => c3
      have e1 : nmStep (((Txt.split x slash).take i).foldl nmStep []) y = ((Txt.split x slash).take i).foldl nmStep [] := by
        unfold nmStep; rw [if_neg (ne_of_beq_false c1), if_neg (fun h => (bne_iff_ne.mpr h.1).symm.trans c3 |> Bool.noConfusion)]
      rw [e1]
      dsimp only at F N ⊢
      refine ⟨_, _, _, _, rfl, F, N, [_], rfl, hI, _, _, _, ?q3, rfl, hpl, hvs⟩
      case q3 => rfl
  case done =>
    clear F N
    rintro m₁ _ h tk ⟨p, vs, n, hm, rfl, hpl, hvs⟩ F N
    replace F := frPut [(Str.ofString "names", .ref p)] F ⟨hm, trivial⟩
    rw [List.size_toArray, hss.length, List.take_length] at hvs
    walk_at "m_go"
    exact ⟨_, _, _, rfl, rfl, F.keep, _, _, _, rfl, (N _ (.head _)).2.2, N.get (.head _), hvs⟩
theorem item_str_last {prog : Program} {w : World} {A : Around} {E : Value → Shared → Prop} {s : Shared} {value slice : PySem.Expr} {p : Addr} {u : Tok} {vs : Array Value} {ss : List Str} {Q : Value → Shared → Prop}
    (hl : s.heap.IsList p vs) (hs : StrsAre vs.toList ss) (hne : vs.isEmpty = false) (h : ∀ y t, ss.getLast? = some y → Q (.str y t) s)
    (he : subscripted slice false (.ref p) (.int (-1) u) = operate [.ref p, .int (-1) u] (getItem (.ref p) (.int (-1) u)) := by with_unfolding_all rfl) :
    wpAny (model prog w) A (subscriptTail value slice (.ref p) (.int (-1) u)) Q E s := by
  have hsz := size_pos_of_not_empty hne
  have hlen := hs.length
  rw [Array.length_toList] at hlen
  obtain ⟨y, hy⟩ : ∃ y, ss.getLast? = some y := by
    cases hq : ss.getLast? with
    | some y => exact ⟨y, rfl⟩
    | none => rw [List.getLast?_eq_none_iff] at hq; rw [hq] at hlen; simp only [List.length_nil] at hlen; omega
  obtain ⟨t, ht⟩ := hs.get (ss.length - 1) y (by rw [← List.getLast?_eq_getElem?]; exact hy)
  have e1 : (-1 + (vs.size : Int)).toNat = ss.length - 1 := by omega
  exact tail_any hl.typeIs slot_list_getitem.lookup (wpAny_getItem_list_neg hl (by decide) (by omega) (by decide) (by rw [e1]; simpa using ht) (h y t hy)) he
theorem kl_last_some : ∀ {l : List Value}, l ≠ [] → ∃ y, kl_last l = some (l.dropLast, y) ∧ l.getLast? = some y
  | [], h => absurd rfl h
  | [x], _ => ⟨x, rfl, rfl⟩
  | x :: z :: r, _ => by
    obtain ⟨y, h1, h2⟩ := kl_last_some (l := z :: r) (by simp)
    refine ⟨y, ?_, ?_⟩
    · unfold kl_last; rw [h1]; rfl
    · rw [← h2, List.getLast?_cons_cons]
theorem strs_dropLast {vs : List Value} {ss : List Str} (h : StrsAre vs ss) : StrsAre vs.dropLast ss.dropLast := by
  rw [List.dropLast_eq_take, List.dropLast_eq_take, h.length]
  exact h.take' _
theorem strs_last {vs : List Value} {ss : List Str} {v : Value} (h : StrsAre vs ss) (hv : vs.getLast? = some v) : ∃ y t, v = .str y t ∧ ss.getLast? = some y := by
  rw [List.getLast?_eq_getElem?] at hv
  obtain ⟨y, t, e, hy⟩ := h.item _ _ hv
  exact ⟨y, t, e, by rw [List.getLast?_eq_getElem?, ← h.length]; exact hy⟩
theorem pop_str {prog : Program} {w : World} {A : Around} {E : Value → Shared → Prop} {s : Shared} {h₀ : Heap} {L D : Addr} {m : Str → Option Value} {news news' : List (Addr × Obj)} {n : Nat} {vs : Array Value} {ss : List Str} {Q : Value → Shared → Prop}
    (F : Fr h₀ L s.heap m) (N : News h₀ L s.heap news) (U : Upd D (W.listOf vs n) (W.listOf vs.toList.dropLast.toArray (n + 1)) news news') (hs : StrsAre vs.toList ss) (hne : vs.isEmpty = false) (hz : vs.size ≤ 16000000)
    (h : ∀ h' y t, Fr h₀ L h' m → News h₀ L h' news' → ss.getLast? = some y → StrsAre vs.toList.dropLast ss.dropLast → Q (.str y t) { s with heap := h' }) :
    wpAny (model prog w) A (call (.builtin "list.pop") [.ref D]) Q E s := by
  have hp := size_pos_of_not_empty hne
  obtain ⟨v, h1, h2⟩ := kl_last_some (l := vs.toList) (by intro e; rw [← Array.length_toList, e] at hp; simp at hp)
  obtain ⟨y, t, rfl, h3⟩ := strs_last hs h2
  exact kl_pop F N h1 U (by rw [Array.length_toList, sizeLine_eq]; omega) fun h' F' N' => h h' y t F' N' h3 (strs_dropLast hs)
local macro_rules | `(tactic| walk_at "call builtin:list.pop") => `(tactic| (k_here; (with_reducible show wpAny _ _ (call (Value.builtin _) [Value.ref _]) _ _ _); k_dflt (refine' pop_str ?pF ?pN ?pU ?ps ?pe ?pz ?_; (case pF => k_asm); (case pN => k_asm); (case pU => k_upd); (case ps => assumption); (case pe => assumption); (case pz => omega)); intro h' y' t' F' N' hy' hs'; (try dsimp only [List.nil_append, List.cons_append] at N')))
local macro_rules | `(tactic| walk_at "truthy ref") => `(tactic| (k_here; k_dflt (refine wpAny_truthy_list (News.isList (by k_asm) (by k_mem)) (by first | omega | (simp only [Array.size_push]; omega) | decide) ?_)))
local macro_rules | `(tactic| walk_at "subscriptTail Name UnaryOp ref int") => `(tactic| (k_here; k_dflt (refine item_str_last (News.isList (by k_asm) (by k_mem)) (by assumption) (by assumption) ?_; intro y' t' hy')))
local macro_rules | `(tactic| walk_at "call builtin:str.join") => `(tactic| (k_here; refine join_list (News.isList (by k_asm) (by k_mem)) (by assumption) (by assumption) ?_; intro t' k'; (try dsimp only); (try k_fold)))
theorem part_off_05 : True := by w_top off; trivial
abbrev tupO (vs : List Value) : Obj := { cls := .type "tuple", data := .seq vs.toArray }
theorem c_splitroot {prog : Program} {w : World} {mean mg mb} {A : Around} {s : Shared} {x : Str} {t : Tok} (hx : x.length ≤ 1000) (h1 : Txt.slice x none (some 1) = slash) (h2 : Txt.slice x (some 1) (some 2) ≠ slash) (c : Cx w mean mg mb s.heap) (hA : Rm A (1+1)) :
    codeAny (model prog w) A (.call (.ref 171) ⟨[.str x t], []⟩) (Ret s fun v h' => ∃ a t1 t2 t3, v = .ref a ∧ s.heap.get? a = none ∧
      h'.get? a = some (tupO [.str (Str.ofString "") t1, .str slash t2, .str (Txt.slice x (some 1) none) t3])) s := by
  refine' enter_plain (binds := [(Str.ofString "p", .str x t)]) ?cc ?hA ?ho ?hcd ?hb ?hl ?_ ?c2 ?c3 ?c4 ?c5
  walk_at "m_enter"
  intro L h₁ dp fr gd un F N X T R
  walk_at "m_go"
  · rename (_ != _) = true => cc
    exact absurd h1 (bne_iff_ne.mp cc)
  · (with_reducible rename Fr _ _ _ _ => F)
    (with_reducible rename News _ _ _ _ => N)
    exact ⟨_, _, _, rfl, rfl, F.keep, _, _, _, _, rfl, (N _ (.head _)).2.2, N.get (.head _)⟩
  all_goals
    exfalso
    rename (Txt.slice x (some 1) (some 2) != _) = false => cc
    exact absurd (bne_iff_ne.mpr h2) (by rw [cc]; exact Bool.false_ne_true)
abbrev hdP (x : Str) : Str := Txt.slice x none (some (Txt.rfind x slash + 1))
def dirP (x : Str) : Str := if ((hdP x).length : Int) ≠ 0 ∧ hdP x ≠ Txt.mul slash (hdP x).length then Txt.rstripChars (hdP x) slash else hdP x
theorem dirP_t {x : Str} (h1 : ((hdP x).length : Int) ≠ 0) (h2 : (hdP x != Txt.mul slash (hdP x).length) = true) : Txt.rstripChars (hdP x) slash = dirP x := (if_pos ⟨h1, bne_iff_ne.mp h2⟩).symm
theorem dirP_f {x : Str} (h2 : (hdP x != Txt.mul slash (hdP x).length) = false) : hdP x = dirP x := (if_neg fun hq => by rw [bne_iff_ne.mpr hq.2] at h2; cases h2).symm
theorem dirP_z {x : Str} (h1 : ((hdP x).length : Int) = 0) : hdP x = dirP x := (if_neg fun hq => hq.1 h1).symm
theorem c_dirname {prog : Program} {w : World} {mean mg mb} {A : Around} {s : Shared} {x : Str} {t : Tok} (hx : x.length ≤ 1000) (c : Cx w mean mg mb s.heap) (hA : Rm A (1+1)) :
    codeAny (model prog w) A (.call (.ref 178) ⟨[.str x t], []⟩) (Ret s fun v _ => ∃ t, v = .str (dirP x) t) s := by
  refine' enter_plain (binds := [(Str.ofString "p", .str x t)]) ?cc ?hA ?ho ?hcd ?hb ?hl ?_ ?c2 ?c3 ?c4 ?c5
  walk_at "m_enter"
  intro L h₁ dp fr gd un F N X T R
  walk_at "m_go"
  all_goals (with_reducible rename Fr _ _ _ _ => F)
  · exact ⟨_, _, _, rfl, rfl, F.keep, _, congrArg (fun z => Value.str z _) (dirP_t (by assumption) (by assumption))⟩
  · exact ⟨_, _, _, rfl, rfl, F.keep, _, congrArg (fun z => Value.str z _) (dirP_f (by assumption))⟩
  · exact ⟨_, _, _, rfl, rfl, F.keep, _, congrArg (fun z => Value.str z _) (dirP_z (by omega))⟩
theorem nadd {h₀ h h' : Heap} {L a : Addr} {m : Str → Option Value} {o : Obj} {news : List (Addr × Obj)} (F : Fr h₀ L h m) (N : News h₀ L h' news) (hn : h.get? a = none) (ho : h'.get? a = some o) : News h₀ L h' ((a, o) :: news) := fun p hp => by
  rcases List.mem_cons.mp hp with rfl | hp
  · refine ⟨ho, fun e => ?_, ?_⟩
    · obtain ⟨oL, _, _, hL, _⟩ := F.ns
      rw [show a = L from e, hL] at hn; cases hn
    · cases hq : h₀.get? a with
      | none => rfl
      | some o' => rw [F.keep _ _ hq] at hn; cases hn
  · exact N p hp
local macro_rules | `(tactic| walk_at "call ref") => `(tactic| (k_here; (with_reducible show wpAny _ _ (call (Value.ref 171) [Value.str _ _]) _ _ _); refine' use_ret ?uF ?uN (c_splitroot ?ux ?u1 ?u2 ?uc ?ur) ?_; walk_at "m_cc"; (case ux => first | assumption | omega); (case u1 => assumption); (case u2 => assumption); intro v h' tk' F' N' kp' hv; obtain ⟨a', t1', t2', t3', hv, hf', ho'⟩ := hv; subst hv; replace N' := nadd (by assumption) N' hf' ho'; clear kp' hf' ho'; (try dsimp only); (try k_fold)))
local macro_rules | `(tactic| walk_at "call ref") => `(tactic| (k_here; (with_reducible show wpAny _ _ (call (Value.ref 178) [Value.str _ _]) _ _ _); refine' use_ret ?uF ?uN (c_dirname ?ux ?uc ?ur) ?_; walk_at "m_cc"; (case ux => first | assumption | omega); intro v h' tk' F' N' kp' hv; obtain ⟨t', hv⟩ := hv; subst hv; clear kp'; (try dsimp only); (try k_fold)))
theorem part_off_06 : True := by w_top off; trivial
theorem bne_false_eq {x y : Str} (h : (x != y) = false) : x = y := by
  cases hq : x == y with
  | true => exact eq_of_beq hq
  | false => unfold bne at h; rw [hq] at h; cases h
theorem c_normpath {prog : Program} {w : World} {mean mg mb} {A : Around} {s : Shared} {x : Str} {t : Tok} (hx : x.length ≤ 1000) (hx0 : (x.length : Int) ≠ 0) (h1 : Txt.slice x none (some 1) = slash) (h2 : Txt.slice x (some 1) (some 2) ≠ slash) (c : Cx w mean mg mb s.heap) (hA : Rm A (2+1)) :
    codeAny (model prog w) A (.call (.ref 185) ⟨[.str x t], []⟩) (Ret s fun v _ => ∃ t, v = .str (slash ++ Txt.join slash (lawNames (Txt.slice x (some 1) none))) t) s := by
  refine' enter_plain (binds := [(Str.ofString "path", .str x t)]) ?cc ?hA ?ho ?hcd ?hb ?hl ?_ ?c2 ?c3 ?c4 ?c5
  walk_at "m_enter"
  intro L h₁ dp fr gd un F N X T R
  walk_at "m_go"
  · (with_reducible rename Fr _ _ _ _ => F)
    (with_reducible rename News _ _ _ _ => N)
    (rename List.map _ _ = Txt.split _ _ => hsp)
    (rename StrsAre _ _ => hss)
    (with_reducible rename Heap.IsList _ _ _ => hl)
    rw [hsp] at hss
    (rename ∀ (a : Str), a ∈ List.map _ _ → _ => hh)
    (rename _ < _ ∧ _ < _ => hpD)
    have hyl0 : (Txt.slice x (some 1) none).length ≤ x.length := Txt.slice_le _ _ _
    generalize hgy : Txt.slice x (some 1) none = z at *
    have hsl := split_len z
    have hlD := News.isList N (.tail _ (.head _))
    refine unstop (my_for_list (fun l i m news => ∃ (p : Addr) (vs : Array Value) (n : Nat) (t1 t2 t3 t4 : Tok), Has m [(Str.ofString "new_comps", .ref p), (Str.ofString "dotdot", .str (Str.ofString "..") t1), (Str.ofString "dot", .str (Str.ofString ".") t2), (Str.ofString "initial_slashes", .str slash t3), (Str.ofString "sep", .str slash t4)] ∧ news = [(p, W.listOf vs n)] ∧ p ≠ l ∧ StrsAre vs.toList (((Txt.split z slash).take i).foldl nmStep []) ∧ (∀ y ∈ ((Txt.split z slash).take i).foldl nmStep [], y ≠ Str.ofString ".."))
      rfl hlD ?k1 F (nhd N) ?k2 rfl rfl ?turn ?done)
    case k1 => exact (N _ (.tail _ (.head _))).2.1
    case k2 => exact ⟨_, _, _, _, _, _, _, ⟨rfl, rfl, rfl, rfl, rfl, trivial⟩, rfl, Ne.symm (Nat.ne_of_lt hpD.1), .nil, fun _ h => nomatch h⟩
    case turn =>
      clear F N
      rintro I oI i v m₁ _ h tk own hv ⟨p, vs, n, t1, t2, t3, t4, hm, rfl, hpl, hvs, hdd⟩ F N hown hIo hI hlo hlI
      obtain ⟨y, ty, rfl, hy⟩ := hss.item i v (by simpa using hv)
      replace F := frPut [(Str.ofString "comp", .str y ty), (Str.ofString "new_comps", .ref p), (Str.ofString "dotdot", .str (Str.ofString "..") t1), (Str.ofString "dot", .str (Str.ofString ".") t2), (Str.ofString "initial_slashes", .str slash t3), (Str.ofString "sep", .str slash t4)] F ⟨rfl, hm⟩
      have hoff : ∀ q ∈ own, q.1 ≠ p := fun q hq e => (hown q hq).elim (fun e' => hI _ (.head _) (e ▸ e')) fun e' => hpl (e ▸ e')
      have hn : (((Txt.split z slash).take i).foldl nmStep []).length ≤ 1001 := by
        have := nm_len ((Txt.split z slash).take i) []
        simp only [List.length_take, List.length_nil] at this
        omega
      have hvl : vs.size ≤ 1001 := by have := hvs.length; rw [Array.length_toList] at this; omega
      have hyl : y.length ≤ 1000 := Nat.le_trans (hh y (by rw [hsp]; exact List.mem_of_getElem? hy)) (by omega)
      have hnext : ((Txt.split z slash).take (i + 1)).foldl nmStep [] = nmStep (((Txt.split z slash).take i).foldl nmStep []) y := by
        rw [List.take_add_one, hy]; simp
      rw [hnext]
      simp only [List.cons_append, List.nil_append] at N
      have hyy : y.length = 0 → y = Str.ofString "" := fun e => by
        have e2 : y.cps = #[] := Array.eq_empty_of_size_eq_zero e
        exact Str.ext' (e2.trans (by decide +kernel))
      have hye : y = Str.ofString "" → (y.length : Int) = 0 := fun e => by rw [e]; decide +kernel
      walk_at "m_go"
      all_goals (with_reducible rename Fr _ _ _ _ => F)
      all_goals (with_reducible rename News _ _ _ _ => N)
      · rename (y == _) = true => c1
        have e1 : nmStep (((Txt.split z slash).take i).foldl nmStep []) y = ((Txt.split z slash).take i).foldl nmStep [] := by
          rw [eq_of_beq c1]; unfold nmStep; rw [if_neg (by decide +kernel), if_neg (by decide +kernel)]
        rw [e1]
        dsimp only at F N ⊢
        exact ⟨_, _, _, _, rfl, F, N, [_], rfl, hI, _, _, _, _, _, _, _, ⟨rfl, rfl, rfl, rfl, rfl, trivial⟩, rfl, hpl, hvs, hdd⟩
      · rename (y == _) = false => c1
        rename (y != _) = true => c2
        have e1 : nmStep (((Txt.split z slash).take i).foldl nmStep []) y = ((Txt.split z slash).take i).foldl nmStep [] ++ [y] := by
          unfold nmStep; rw [if_neg (bne_iff_ne.mp c2), if_pos ⟨fun e => absurd (hye e) (by assumption), ne_of_beq_false c1⟩]
        rw [e1]
        dsimp only at F N ⊢
        refine ⟨_, _, _, _, rfl, F, N, [_], rfl, ?q0, _, _, _, _, _, _, _, ⟨rfl, rfl, rfl, rfl, rfl, trivial⟩, rfl, hpl, ?q2, ?q3⟩
        case q0 => intro q hq; rw [List.mem_singleton.mp hq]; exact (hI (p, W.listOf vs n) (.head _) : p ≠ I)
        case q2 => rw [Array.toList_push]; exact hvs.append' (.cons _ _ .nil)
        case q3 =>
          intro q hq
          rcases List.mem_append.mp hq with h | h
          · exact hdd q h
          · rw [List.mem_singleton.mp h]; exact bne_iff_ne.mp c2
      · rename (y != _) = false => c2
        rename vs.isEmpty = true => c3
        have e0 : ((Txt.split z slash).take i).foldl nmStep [] = [] := by
          have h1 := hvs.length
          rw [Array.isEmpty_iff.mp c3] at h1
          exact List.eq_nil_of_length_eq_zero h1.symm
        have e1 : nmStep (((Txt.split z slash).take i).foldl nmStep []) y = ((Txt.split z slash).take i).foldl nmStep [] := by
          rw [e0, bne_false_eq c2]; decide +kernel
        rw [e1]
        dsimp only at F N ⊢
        exact ⟨_, _, _, _, rfl, F, N, [_], rfl, hI, _, _, _, _, _, _, _, ⟨rfl, rfl, rfl, rfl, rfl, trivial⟩, rfl, hpl, hvs, hdd⟩
      · exfalso
        rename List.getLast? _ = some _ => hg
        rename (_ == Str.ofString "..") = true => c4
        exact hdd _ (List.mem_of_getLast? hg) (eq_of_beq c4)
      · rename (y != _) = false => c2
        rename StrsAre (List.dropLast _) _ => hd2
        have e1 : nmStep (((Txt.split z slash).take i).foldl nmStep []) y = (((Txt.split z slash).take i).foldl nmStep []).dropLast := by
          rw [bne_false_eq c2]; unfold nmStep; rw [if_pos rfl]
        rw [e1]
        dsimp only at F N ⊢
        refine ⟨_, _, _, _, rfl, F, N, [_], rfl, ?q0, _, _, _, _, _, _, _, ⟨rfl, rfl, rfl, rfl, rfl, trivial⟩, rfl, hpl, ?q2, ?q3⟩
        case q0 => intro q hq; rw [List.mem_singleton.mp hq]; exact (hI (p, W.listOf vs n) (.head _) : p ≠ I)
        case q2 => exact hd2
        case q3 => exact fun q hq => hdd q (List.dropLast_subset _ hq)
      · have c1 := hyy (by omega)
        have e1 : nmStep (((Txt.split z slash).take i).foldl nmStep []) y = ((Txt.split z slash).take i).foldl nmStep [] := by
          rw [c1]; unfold nmStep; rw [if_neg (by decide +kernel), if_neg (by decide +kernel)]
        rw [e1]
        dsimp only at F N ⊢
        exact ⟨_, _, _, _, rfl, F, N, [_], rfl, hI, _, _, _, _, _, _, _, ⟨rfl, rfl, rfl, rfl, rfl, trivial⟩, rfl, hpl, hvs, hdd⟩
    case done =>
      clear F N
      rintro m₁ _ h tk ⟨p, vs, n, t1, t2, t3, t4, hm, rfl, hpl, hvs, hdd⟩ F N
      replace F := frPut _ F hm
      rw [List.size_toArray, hss.length, List.take_length] at hvs hdd
      have hjs2 := nm_sum2 (x := z) (by omega) (fun y hy => Nat.le_trans (hh y (by rw [hsp]; exact hy)) (by omega)) hsl
      have hjs := Nat.le_trans hjs2 (show 2000000 ≤ 16777216 by decide)
      have hz : (Txt.join (Str.ofString "/") (List.foldl nmStep [] (Txt.split z (Str.ofString "/")))).length ≤ 2000000 := by
        have := StrLaws.join_length_le (Str.ofString "/") (List.foldl nmStep [] (Txt.split z (Str.ofString "/")))
        rw [← StrLaws.glued_eq_join] at this
        exact Nat.le_trans this hjs2
      walk_at "m_go"
      (with_reducible rename Fr _ _ _ _ => F)
      subst hgy
      exact ⟨_, _, _, rfl, rfl, F.keep, _, rfl⟩
  · omega
local macro_rules | `(tactic| walk_at "call ref") => `(tactic| (k_here; (with_reducible show wpAny _ _ (call (Value.ref 185) [Value.str _ _]) _ _ _); refine' use_ret ?uF ?uN (c_normpath ?ux ?u0 ?u1 ?u2 ?uc ?ur) ?_; walk_at "m_cc"; (case ux => first | assumption | omega); (case u0 => first | assumption | omega); (case u1 => assumption); (case u2 => assumption); intro v h' tk' F' N' kp' hv; obtain ⟨t', hv⟩ := hv; subst hv; clear kp'; (try dsimp only); (try k_fold)))
theorem part_off_07 : True := by w_top off; trivial
theorem wp_peek1 {α : Type} {K : Frag} {M : Model} {A : Around} {E : Value → Shared → Prop} {Q : α → Shared → Prop} {s : Shared} {o : Obj} {r : Addr → α} (X : K.In s.heap)
    (q : Q (r s.heap.objs.size) { s with heap := s.heap.push o }) :
    ∀ (t : Sem α) (g : Addr → Option α), peek1 K ⟨M.prog, M.w.params⟩ t = some (o, g) → (∀ D, g D = some (r D)) → wpAny M A t Q E s := by
  intro t
  induction t with
  | rule _ k ih => intro g e hg Γ p hΓ; exact ih () g e hg Γ p hΓ
  | point _ k ih => intro g e hg Γ p hΓ; exact ih () g e hg Γ p hΓ
  | ask k ih => intro g e hg Γ p hΓ; exact ih _ g e hg Γ p hΓ
  | load a _ k ih =>
    intro g e hg Γ p hΓ
    simp only [peek1] at e
    split at e
    · rename_i ob ho; exact ⟨ob, X _ _ ho, ih ob g e hg Γ p hΓ⟩
    · cases e
  | alloc ob k _ =>
    intro g e hg
    have e : some (ob, fun D => peek K ⟨M.prog, M.w.params⟩ (k D)) = some (o, g) := e
    obtain ⟨e1, e2⟩ := Prod.mk.inj (Option.some.inj e)
    subst e1
    subst e2
    have X' : K.In (s.heap.push ob) := X.keeps fun b x hb => Heap.get?_push_of_some _ hb
    show wpAny M A (alloc ob >>= k) Q E s
    refine wpAny_bind (wpAny_alloc ?_)
    exact (Looks.of_peek (M := M) (h := s.heap.push ob) X' (hg s.heap.objs.size)).here (s := { s with heap := s.heap.push ob }) q
  | _ => intro g e; cases e

theorem enter_rest {prog : Program} {w : World} {A : Around} {R : Result → Shared → Prop} {s : Shared} {mean : ExcName → Option Value} {mg mb : Str → Option Value}
    {name qual : Str} {params : Arguments} {body : List Stmt} {scope : Scope} {dV kV doc pm cdv ct oc : Value} {an od : Option Addr} {osl : Array (Option Value)} {f : Addr} {args : Args} {binds : Addr → List (Str × Value)} {vs : List Value} {g₁ : Addr → Option (List (Str × Value))} {d : Nat}
    (c : Cx w mean mg mb s.heap) (hA : Rm A (d + 1))
    (ho : (hd.heap_1 w.params).lookup f = some ⟨oc, od, .func (fnOf name qual params body scope dV kV doc pm an cdv ct), osl⟩) (hcd : codeIn (hd.heap_1 w.params) cdv qual = true)
    (hp : peek1 (hd.heap_1 w.params) ⟨prog, w.params⟩ (bindArgs (fnOf name qual params body scope dV kV doc pm an cdv ct) args) = some (({ cls := .type "tuple", data := .seq vs.toArray } : Obj), g₁))
    (hg : ∀ D, g₁ D = some (binds D)) (hloc : ∀ D, ∀ y ∈ binds D, scope.names.lookup y.1 = some .local)
    (h : ∀ D L h₁ dp fr gd un, D < L → Fr s.heap L h₁ (fun y => (binds D).reverse.lookup y) → News s.heap L h₁ [(D, ({ cls := .type "tuple", data := .seq vs.toArray } : Obj))] → (hd.heap_1 w.params).In s.heap → Top qv (looseW qv []) mean mg mb s.heap → Rm ((Around.mk none dp fr gd un).deeper (envOf qual scope L f cdv)) d → 
      wpAny (model prog w) ((Around.mk none dp fr gd un).deeper (envOf qual scope L f cdv)) (execs body (envOf qual scope L f cdv))
        (fun fl s' => R (.ok (.ret (match fl with | .ret v => v | _ => .none))) s')
        (fun _ _ => False)
        { s with heap := h₁, toks := s.toks + (binds D).length })
    (hco : scope.isCoroutine = false) (hgen : scope.isGenerator = false) (hk : scope.kind = .function)
    (hcell : ∀ x ∈ scope.names, x.2 ≠ .cell) : codeAny (model prog w) A (.call (.ref f) args) R s := by
  obtain ⟨hdl, dp, fr, gd, un⟩ := A
  have e : hdl = none := hA.handled
  subst e
  refine codeAny_call_function (fd := fnOf name qual params body scope dV kV doc pm an cdv ct) (body := body) (Nat.lt_of_le_of_lt (Nat.le_add_right _ _) (Nat.lt_trans hA.depth (by decide))) (c.X _ _ ho) rfl hco hgen rfl (codeRec_of c.X hcd) ?_
  refine wp_peek1 (o := ({ cls := .type "tuple", data := .seq vs.toArray } : Obj)) c.X (r := binds) ?_ _ g₁ hp hg
  refine wpAny_newFunctionEnv hcell (hloc _) (fun h₁ hns hsb => ⟨((c.T.nolimit).keeps fun b o e => Heap.get?_push_of_some _ e).fresh _ hsb, codeAny_func ?_⟩) hk
  dsimp only at hns hsb
  have hk₁ : ∀ b o, (s.heap.push ({ cls := .type "tuple", data := .seq vs.toArray } : Obj)).get? b = some o → h₁.get? b = some o := fun b o e => hsb.extBut b o (Nat.ne_of_lt (Heap.lt_size e)) (Heap.get?_push_of_some _ e)
  have hsz : (s.heap.push ({ cls := .type "tuple", data := .seq vs.toArray } : Obj)).objs.size = s.heap.objs.size + 1 := Heap.size_push ..
  refine wpAny_mono (h s.heap.objs.size _ h₁ dp fr gd un ?_ ⟨hns, fun b o e => hk₁ b o (Heap.get?_push_of_some _ e), ?_⟩ ?_ c.X c.T ⟨?_, ?_, ?_⟩) (fun _ _ x => x) (fun _ _ x => x.elim)
  · rw [hsz]; exact Nat.lt_succ_self _
  · rw [hsz]; exact Nat.le_succ _
  · intro p hp
    rw [List.mem_singleton.mp hp]
    refine ⟨hk₁ _ _ (Heap.get?_push_size _ rfl), ?_, ?_⟩
    · show s.heap.objs.size ≠ _; rw [hsz]; exact Nat.ne_of_lt (Nat.lt_succ_self _)
    · cases q : s.heap.get? s.heap.objs.size with
      | none => rfl
      | some o => exact absurd (Heap.lt_size q) (Nat.lt_irrefl _)
  · have := hA.depth; show dp + 1 + d < 900; simp only at this; omega
  · have := hA.units; show un + 3 + 10 * d < 9000; simp only at this; omega
  · rfl

theorem enter_cells {prog : Program} {w : World} {A : Around} {R : Result → Shared → Prop} {s : Shared} {mean : ExcName → Option Value} {mg mb : Str → Option Value}
    {name qual : Str} {params : Arguments} {body : List Stmt} {scope : Scope} {dV kV doc pm cdv ct oc : Value} {an od : Option Addr} {osl : Array (Option Value)} {f : Addr} {args : Args} {binds : List (Str × Value)} {d : Nat}
    (c : Cx w mean mg mb s.heap) (hA : Rm A (d + 1))
    (ho : (hd.heap_1 w.params).lookup f = some ⟨oc, od, .func (fnOf name qual params body scope dV kV doc pm an cdv ct), osl⟩) (hcd : codeIn (hd.heap_1 w.params) cdv qual = true)
    (hbind : BindsTo s (fnOf name qual params body scope dV kV doc pm an cdv ct) args binds)
    (hkind : (binds.all fun y => scope.names.lookup y.1 == some .local || scope.names.lookup y.1 == some .cell) = true) (hnd : ((cellsFrom 0 scope.names []).map (·.1)).Nodup)
    (h : ∀ L h₁ tk cells dp fr gd un, Fr s.heap L h₁ (bindL (envOfC qual scope L f cdv).kindOf binds fun _ => none) → News s.heap L h₁ cells →
      CellsAre (bindC (envOfC qual scope L f cdv).kindOf binds fun _ => none) (cellsFrom (L + 1) scope.names []) cells →
      (hd.heap_1 w.params).In s.heap → Top qv (looseW qv []) mean mg mb s.heap → Rm ((Around.mk none dp fr gd un).deeper (envOfC qual scope L f cdv)) d → 
      wpAny (model prog w) ((Around.mk none dp fr gd un).deeper (envOfC qual scope L f cdv)) (execs body (envOfC qual scope L f cdv))
        (fun fl s' => R (.ok (.ret (match fl with | .ret v => v | _ => .none))) s')
        (fun _ _ => False)
        { s with heap := h₁, toks := tk })
    (hco : scope.isCoroutine = false) (hgen : scope.isGenerator = false) (hk : scope.kind = .function) : codeAny (model prog w) A (.call (.ref f) args) R s := by
  obtain ⟨hdl, dp, fr, gd, un⟩ := A
  have e : hdl = none := hA.handled
  subst e
  refine codeAny_call_function (fd := fnOf name qual params body scope dV kV doc pm an cdv ct) (body := body) (Nat.lt_of_le_of_lt (Nat.le_add_right _ _) (Nat.lt_trans hA.depth (by decide))) (c.X _ _ ho) rfl hco hgen rfl (codeRec_of c.X hcd) (hbind _ _ _ _ ?_)
  refine wpAny_newFunctionEnv_cells hk (kindsX hkind _) fun env' he s' x => ?_
  subst he
  refine ⟨c.T.nolimit.keeps x.toInCall.keep, codeAny_func ?_⟩
  obtain ⟨h₁, tk, rfl, _⟩ := x.done
  have hk₁ := x.toInCall.keep
  obtain ⟨cells, NC, Y⟩ := Cl.news (h₀ := s.heap) (Nat.le_refl _) fun n c hm => ⟨x.cell n c (lookup_of_mem_nodup (cellsFrom_names scope.names 0 (s.heap.objs.size + 1) [] [] rfl ▸ hnd) hm), x.above n c hm⟩
  refine wpAny_mono (h _ h₁ tk cells dp fr gd un ⟨x.toInCall.ns, hk₁, Nat.le_refl _⟩ NC Y c.X c.T ⟨?_, ?_, ?_⟩) (fun _ _ x => x) (fun _ _ x => x.elim)
  · have := hA.depth; show dp + 1 + d < 900; simp only at this; omega
  · have := hA.units; show un + 3 + 10 * d < 9000; simp only at this; omega
  · rfl
theorem part_off_08 : True := by w_top off; trivial
theorem c_join {prog : Program} {w : World} {mean mg mb} {A : Around} {s : Shared} {x : Str} {t tp : Tok} (hx : x.length ≤ 1000) (hx1 : Txt.startswith x slash = false) (c : Cx w mean mg mb s.heap) (hA : Rm A (2+1)) :
    codeAny (model prog w) A (.call (.ref 164) ⟨[.str slash tp, .str x t], []⟩) (Ret s fun v _ => ∃ t, v = .str (slash ++ x) t) s := by
  refine' enter_rest (binds := fun D => [(Str.ofString "a", .str slash tp), (Str.ofString "p", .ref D)]) (vs := [.str x t]) ?cc ?hA ?ho ?hcd ?hp ?hg ?hl ?_ ?c2 ?c3 ?c4 ?c5
  walk_at "m_enter2"
  case hp => exact rfl
  case hg => exact fun _ => rfl
  case hl => exact fun _ => locs rfl
  intro D L h₁ dp fr gd un l1 F N X T R
  walk_at "m_go"
  (with_reducible rename Fr _ _ _ _ => F)
  (with_reducible rename News _ _ _ _ => N)
  try dsimp only at F N ⊢
  have hsl := slash_len
  refine unstop (my_for_tup (fun l i m news => (i = 0 ∧ ∃ t1 t2, Has m [(Str.ofString "path", .str slash t1), (Str.ofString "sep", .str slash t2)]) ∨ (i = 1 ∧ ∃ t1, Has m [(Str.ofString "path", .str (slash ++ x) t1)]))
    rfl (vs := #[.str x t]) ⟨_, N.get (.head _), rfl, _, rfl⟩ ?k1 F .nil ?k2 rfl rfl ?turn ?done)
  case k1 => exact (N _ (.head _)).2.1
  case k2 => exact .inl ⟨rfl, _, _, rfl, rfl, trivial⟩
  case turn =>
    clear F N
    rintro I oI i v m₁ news₁ h tk own hv (⟨rfl, t1, t2, hm⟩ | ⟨rfl, t1, hm⟩) F N hown hIo hI hlo hlI
    · obtain rfl : Value.str x t = v := by simpa using hv
      replace F := frPut [(Str.ofString "b", .str x t), (Str.ofString "path", .str slash t1), (Str.ofString "sep", .str slash t2)] F ⟨rfl, hm⟩
      have h1 : (Str.length slash : Int) ≠ 0 := by rw [slash_len]; decide
      walk_at "m_go"
      (with_reducible rename Fr _ _ _ _ => F)
      (with_reducible rename News _ _ _ _ => N)
      try dsimp only at F N ⊢
      exact ⟨_, _, _, own, rfl, F, (fun p hp => N p (List.mem_append_right _ hp)), [], rfl, (fun _ h => nomatch h), .inr ⟨by first | trivial | rfl, _, ⟨rfl, trivial⟩⟩⟩
    · simp at hv
  case done =>
    clear F N
    rintro m₁ news₁ h tk (⟨e, t1, t2, hm⟩ | ⟨e, t1, hm⟩) F N
    · simp at e
    · replace F := frPut _ F hm
      walk_at "m_go"
      exact ⟨_, _, _, rfl, rfl, F.keep, _, rfl⟩
local macro_rules | `(tactic| walk_at "call ref") => `(tactic| (k_here; (with_reducible show wpAny _ _ (call (Value.ref 164) [Value.str _ _, Value.str _ _]) _ _ _); refine' use_ret ?uF ?uN (c_join ?ux ?u1 ?uc ?ur) ?_; walk_at "m_cc"; (case ux => first | assumption | omega); (case u1 => assumption); intro v h' tk' F' N' kp' hv; obtain ⟨t', hv⟩ := hv; subst hv; clear kp'; (try dsimp only); (try k_fold)))
theorem part_off_09 : True := by w_top off; trivial
theorem enter_k {prog : Program} {w : World} {A : Around} {R : Result → Shared → Prop} {s : Shared} {mean : ExcName → Option Value} {mg mb : Str → Option Value} {h₀ : Heap} {L : Addr} {m : Str → Option Value} {news : List (Addr × Obj)}
    {name qual : Str} {params : Arguments} {body : List Stmt} {scope : Scope} {dV kV doc pm cdv ct oc : Value} {an od : Option Addr} {osl : Array (Option Value)} {f : Addr} {args : Args} {binds : List (Str × Value)} {d : Nat}
    (F : Fr h₀ L s.heap m) (N : News h₀ L s.heap news) (X : (hd.heap_1 w.params).In h₀) (T : Top qv (looseW qv []) mean mg mb h₀) (hA : Rm A (d + 1))
    (ho : (hd.heap_1 w.params).lookup f = some ⟨oc, od, .func (fnOf name qual params body scope dV kV doc pm an cdv ct), osl⟩) (hcd : codeIn (hd.heap_1 w.params) cdv qual = true)
    (hbind : BindsTo s (fnOf name qual params body scope dV kV doc pm an cdv ct) args binds) (hloc : ∀ y ∈ binds, scope.names.lookup y.1 = some .local)
    (h : ∀ g L' h₁ dp fr gd un, Fr h₀ L g m → Fr g L' h₁ (fun y => binds.reverse.lookup y) → News g L' h₁ news → (hd.heap_1 w.params).In g → Top qv (looseW qv []) mean mg mb g → Rm ((Around.mk none dp fr gd un).deeper (envOf qual scope L' f cdv)) d → 
      wpAny (model prog w) ((Around.mk none dp fr gd un).deeper (envOf qual scope L' f cdv)) (execs body (envOf qual scope L' f cdv))
        (fun fl s' => LeaveK h₀ L m g R (match fl with | .ret v => v | _ => .none) s')
        (fun _ _ => False)
        { s with heap := h₁, toks := s.toks + binds.length })
    (hco : scope.isCoroutine = false) (hgen : scope.isGenerator = false) (hk : scope.kind = .function)
    (hcell : ∀ x ∈ scope.names, x.2 ≠ .cell) : codeAny (model prog w) A (.call (.ref f) args) R s := by
  obtain ⟨hdl, dp, fr, gd, un⟩ := A
  have e : hdl = none := hA.handled
  subst e
  have XS := X.keeps F.keep
  refine codeAny_call_def (fd := fnOf name qual params body scope dV kV doc pm an cdv ct) (body := body) (binds := binds) (Nat.lt_of_le_of_lt (Nat.le_add_right _ _) (Nat.lt_trans hA.depth (by decide))) (XS _ _ ho) rfl (T.nolimit.keeps F.keep) (codeRec_of XS hcd) rfl hbind hcell hloc (fun h₁ hns hk₁ => ?_) hco hgen hk
  have nm : ∀ b o, h₀.get? b = some o → b ∉ news.map (·.1) := fun b o e q => by
    obtain ⟨p, hp, rfl⟩ := List.mem_map.mp q
    rw [(N p hp).2.2] at e; cases e
  have st : h₀.StaysIn (hideAll s.heap (news.map (·.1))) := fun b o e => hideAll_get _ (F.keep b o e) (nm b o e)
  obtain ⟨oL, es, ep, hL, hLd, hLk, hLf⟩ := F.ns
  have nL : L ∉ news.map (·.1) := fun q => by
    obtain ⟨p, hp, e⟩ := List.mem_map.mp q
    exact (N p hp).2.1 e
  have hLg := hideAll_get (news.map (·.1)) hL nL
  refine wpAny_mono (h (hideAll s.heap (news.map (·.1))) s.heap.objs.size h₁ dp fr gd un ⟨⟨oL, es, ep, hLg, hLd, hLk, hLf⟩, (fun b o e => st b o e), F.above⟩ ⟨hns, fun b o e => hk₁ b o (of_hideAll _ e), Nat.le_of_eq (hideAll_size _ _)⟩
    (fun p hp => ⟨hk₁ _ _ (N p hp).1, Nat.ne_of_lt (Heap.lt_size (N p hp).1), hideAll_none _ (List.mem_map_of_mem hp)⟩) (X.keeps fun b o e => st b o e) (T.keeps fun b o e => st b o e) ⟨?_, ?_, ?_⟩) (fun fl s' hl => ?_) fun _ _ y => y.elim
  · have := hA.depth; show dp + 1 + d < 900; simp only at this; omega
  · have := hA.units; show un + 3 + 10 * d < 9000; simp only at this; omega
  · rfl
  obtain ⟨L', m', news', F', N', k⟩ := hl
  refine k ⟨⟨oL, es, ep, F'.keep L oL hLg, hLd, hLk, hLf⟩, fun b o e => F'.keep b o (st b o e), F.above⟩ fun p hp => ⟨(N' p hp).1, fun q => ?_, ?_⟩
  · have := (N' p hp).2.2; rw [q, hLg] at this; cases this
  · cases q : h₀.get? p.1 with
    | none => rfl
    | some o => have := (N' p hp).2.2; rw [st _ _ q] at this; cases this
theorem Rm.make {A : Around} {d : Nat} {pos : List Value} {kw : List (Str × Value)} {C : Addr} (h : Rm A (d + 1)) : Rm (A.under (.builtin "type.__call__" ⟨.ref C :: pos, kw⟩)) d := by
  obtain ⟨hd, dp, fr, gd, un⟩ := A
  obtain ⟨h1, h2, h3⟩ := h
  simp only at h1 h2 h3
  subst h3
  refine ⟨?_, ?_, rfl⟩
  · show dp + 1 + d < 900; omega
  · show un + 1 + 10 * d < 9000; omega
abbrev recD (P : Params) (t1 t2 t3 t4 : Tok) (us ru dv rv : Value) : List DictEntry :=
  [⟨PyData.keyHash P (Str.ofString "useragents"), .str (Str.ofString "useragents") t1, us⟩, ⟨PyData.keyHash P (Str.ofString "rulelines"), .str (Str.ofString "rulelines") t2, ru⟩,
   ⟨PyData.keyHash P (Str.ofString "delay"), .str (Str.ofString "delay") t3, dv⟩, ⟨PyData.keyHash P (Str.ofString "req_rate"), .str (Str.ofString "req_rate") t4, rv⟩]
theorem nperm4 {h₀ h : Heap} {L : Addr} {a b c d : Addr × Obj} {r : List (Addr × Obj)} (N : News h₀ L h (a :: b :: c :: d :: r)) : News h₀ L h (c :: d :: b :: a :: r) := fun p hp => N p (by
  rcases List.mem_cons.mp hp with rfl | hp
  · exact .tail _ (.tail _ (.head _))
  · rcases List.mem_cons.mp hp with rfl | hp
    · exact .tail _ (.tail _ (.tail _ (.head _)))
    · rcases List.mem_cons.mp hp with rfl | hp
      · exact .tail _ (.head _)
      · rcases List.mem_cons.mp hp with rfl | hp
        · exact .head _
        · exact .tail _ (.tail _ (.tail _ (.tail _ hp))))
theorem c_entry {prog : Program} {w : World} {A : Around} {E : Value → Shared → Prop} {s : Shared} {mean : ExcName → Option Value} {mg mb : Str → Option Value} {h₀ : Heap} {L : Addr} {m : Str → Option Value} {news : List (Addr × Obj)} {Q : Value → Shared → Prop}
    (F : Fr h₀ L s.heap m) (N : News h₀ L s.heap news) (X : (hd.heap_1 w.params).In h₀) (T : Top qv (looseW qv []) mean mg mb h₀) (hA : Rm A 2)
    (k : ∀ x dx us ru t1 t2 t3 t4 h' tk, Fr h₀ L h' m → News h₀ L h' ((x, instObj 59 dx) :: (dx, dictOf (recD w.params t1 t2 t3 t4 (.ref us) (.ref ru)   .none .none) 4) :: (us, W.listOf #[] 0) :: (ru, W.listOf #[] 0) :: news) →
      dx ≠ x ∧ us ≠ x ∧ ru ≠ x ∧ us ≠ dx ∧ ru ≠ dx ∧ ru ≠ us ∧ (∀ p ∈ news, p.1 < dx ∧ p.1 < x ∧ p.1 < us ∧ p.1 < ru) → Q (.ref x) { s with heap := h', toks := tk }) :
    wpAny (model prog w) A (call (.ref 59) []) Q E s := by
  refine' call_cls F X N ?k4 ?k5 ?k6 ?_
  case k4 => k_is
  case k5 => k_is
  case k6 => k_is
  intro x dx h' F' N' l1 l2
  refine' enter_k (binds := [(Str.ofString "self", .ref x)]) (d := 0) F' N' X T (Rm.make hA) ?ho ?hcd ?hb ?hl ?_ ?c2 ?c3 ?c4 ?c5
  case ho => k_is
  case hcd => k_is
  case hb => exact BindsTo.of_eq rfl
  case hl => exact locs rfl
  case c2 => exact rfl
  case c3 => exact rfl
  case c4 => exact rfl
  case c5 => decide
  intro g L' h₁ dp fr gd un FG F1 N1 X1 T1 R1
  have l3 : ∀ p ∈ news, p.1 ≠ dx := fun p hp => Nat.ne_of_lt (l1 p hp)
  have l4 : ∀ p ∈ news, p.1 ≠ x := fun p hp => Nat.ne_of_lt (Nat.lt_trans (l1 p hp) l2)
  replace l2 := ltN l2
  walk_at "m_go"
  (with_reducible rename Fr h₀ L _ _ => F2)
  (with_reducible rename News h₀ L _ _ => N2)
  rename _ < _ ∧ _ < _ ∧ _ < _ ∧ AllLt _ _ => q2
  rename _ < _ ∧ _ < _ ∧ AllLt _ _ => q1
  obtain ⟨a1, a2, a3⟩ := q1
  obtain ⟨b1, b2, b3, b4⟩ := q2
  refine k x dx _ _ _ _ _ _ _ _ F2 (nperm4 N2) ⟨Nat.ne_of_lt l2, Nat.ne_of_gt a1, Nat.ne_of_gt b2, Nat.ne_of_gt a2, Nat.ne_of_gt b3, Nat.ne_of_gt b1, fun p hp => ?_⟩
  have h1 := l1 p hp
  have h1 : @LT.lt Nat _ p.1 dx := h1
  exact ⟨h1, Nat.lt_trans h1 l2, Nat.lt_trans h1 a2, Nat.lt_trans h1 b3⟩
local macro_rules | `(tactic| walk_at "call ref") => `(tactic| (k_here; (with_reducible show wpAny _ _ (call (Value.ref 59) _) _ _ _); k_dflt refine' c_entry ?uF ?uN ?uX ?uT ?ur ?_; (case uF => k_asm); (case uN => k_asm); (case uX => k_asm); (case uT => k_asm); (case ur => walk_at "m_rm"); intro x' dx' us' ru' t1' t2' t3' t4' h' tk' F' N' ap'; (obtain ⟨p1', p2', p3', p4', p5', p6', p7'⟩ := ap'); (replace p1' := neN p1'); (replace p2' := neN p2'); (replace p3' := neN p3'); (replace p4' := neN p4'); (replace p5' := neN p5'); (replace p6' := neN p6'); (try dsimp only); (try k_fold)))
theorem part_off_10 : True := by w_top off; trivial
structure RowD where
  ag : List Str
  ru : List Int
  dl : Option Int
  rt : Option Int
def OptIs (v : Value) : Option Int → Prop
  | none => v = .none
  | some i => ∃ t, v = .int i t
def IsStrsL (h : Heap) (a : Addr) (ss : List Str) : Prop := ∃ vs n, h.get? a = some (W.listOf vs n) ∧ StrsAre vs.toList ss
def IsIntsL (h : Heap) (a : Addr) (ns : List Int) : Prop := ∃ vs n, h.get? a = some (W.listOf vs n) ∧ IntsAre vs.toList ns
def RowParts (h : Heap) (ag ru dv rv : Value) (r : RowD) : Prop := ∃ g u, ag = .ref g ∧ ru = .ref u ∧ IsStrsL h g r.ag ∧ IsIntsL h u r.ru ∧ OptIs dv r.dl ∧ OptIs rv r.rt
def IsRow (h : Heap) (a : Addr) (r : RowD) : Prop := ∃ ag ru dv rv n, h.get? a = some (W.listOf #[ag, ru, dv, rv] n) ∧ RowParts h ag ru dv rv r
def IsRec (P : Params) (h : Heap) (a : Addr) (r : RowD) : Prop := ∃ dx t1 t2 t3 t4 n ag ru dv rv, h.get? a = some (instObj 59 dx) ∧ h.get? dx = some (dictOf (recD P t1 t2 t3 t4 ag ru dv rv) n) ∧ RowParts h ag ru dv rv r
section
variable {h h' : Heap} (k : ∀ b o, h.get? b = some o → h'.get? b = some o)
include k
theorem IsStrsL.keeps {a : Addr} {ss : List Str} (x : IsStrsL h a ss) : IsStrsL h' a ss := let ⟨vs, n, e, r⟩ := x; ⟨vs, n, k _ _ e, r⟩
theorem IsIntsL.keeps {a : Addr} {ss : List Int} (x : IsIntsL h a ss) : IsIntsL h' a ss := let ⟨vs, n, e, r⟩ := x; ⟨vs, n, k _ _ e, r⟩
theorem RowParts.keeps {ag ru dv rv : Value} {r : RowD} (x : RowParts h ag ru dv rv r) : RowParts h' ag ru dv rv r :=
  let ⟨g, u, e1, e2, a, b, c, d⟩ := x; ⟨g, u, e1, e2, a.keeps k, b.keeps k, c, d⟩
theorem IsRow.keeps {a : Addr} {r : RowD} (x : IsRow h a r) : IsRow h' a r := let ⟨ag, ru, dv, rv, n, e, p⟩ := x; ⟨ag, ru, dv, rv, n, k _ _ e, p.keeps k⟩
theorem IsRec.keeps {P : Params} {a : Addr} {r : RowD} (x : IsRec P h a r) : IsRec P h' a r :=
  let ⟨dx, t1, t2, t3, t4, n, ag, ru, dv, rv, e, e2, p⟩ := x; ⟨dx, t1, t2, t3, t4, n, ag, ru, dv, rv, k _ _ e, k _ _ e2, p.keeps k⟩
end
theorem instBase {h₀ h : Heap} {L x C dx : Addr} {m : Str → Option Value} {od : Obj} (F : Fr h₀ L h m) (h1 : h₀.get? x = some (instObj C dx)) (h2 : h₀.get? dx = some od) : InstAt h x (instObj C dx) C (some od) := ⟨F.keep _ _ h1, rfl, rfl, F.keep _ _ h2⟩
theorem lstBase {h₀ h : Heap} {L a : Addr} {m : Str → Option Value} {vs : Array Value} {n : Nat} (F : Fr h₀ L h m) (h1 : h₀.get? a = some (W.listOf vs n)) : h.IsList a vs := ⟨_, F.keep _ _ h1, rfl, _, rfl⟩
def nthV : List Value → Nat → Option Value
  | [], _ => none
  | x :: _, 0 => some x
  | _ :: r, n + 1 => nthV r n
theorem nthV_eq : ∀ (l : List Value) (n : Nat), nthV l n = l[n]?
  | [], _ => rfl
  | _ :: _, 0 => rfl
  | _ :: r, n + 1 => nthV_eq r n
theorem item_base {prog : Program} {w : World} {A : Around} {E : Value → Shared → Prop} {s : Shared} {h₀ : Heap} {L a : Addr} {m : Str → Option Value} {value slice : PySem.Expr} {k : Int} {u : Tok} {vs : Array Value} {n : Nat} {v : Value} {Q : Value → Shared → Prop}
    (F : Fr h₀ L s.heap m) (h1 : h₀.get? a = some (W.listOf vs n)) (h0 : 0 ≤ k) (hhi : k < 2 ^ 63) (hx : nthV vs.toList k.toNat = some v) (h : Q v s)
    (he : subscripted slice false (.ref a) (.int k u) = operate [.ref a, .int k u] (getItem (.ref a) (.int k u)) := by with_unfolding_all rfl) :
    wpAny (model prog w) A (subscriptTail value slice (.ref a) (.int k u)) Q E s :=
  tail_any (lstBase F h1).typeIs slot_list_getitem.lookup (wpAny_getItem_list (lstBase F h1) h0 hhi (by rw [nthV_eq] at hx; simpa using hx) h) he
theorem door_small {a b : Nat} {c : Bool} (h : a + b ≤ 100000) : ¬ (c && Builtin.List.listTooLong (a + b)) = true := by
  have : Builtin.List.listTooLong (a + b) = false := by
    unfold Builtin.List.listTooLong
    simp only [sizeLine_eq, decide_eq_false_iff_not]
    omega
  rw [this]; simp
theorem extend_base {prog : Program} {w : World} {A : Around} {E : Value → Shared → Prop} {s : Shared} {h₀ : Heap} {L D b : Addr} {m : Str → Option Value} {news news' : List (Addr × Obj)} {its its2 : Array Value} {n n2 : Nat} {Q : Value → Shared → Prop}
    (F : Fr h₀ L s.heap m) (N : News h₀ L s.heap news) (hb : h₀.get? b = some (W.listOf its2 n2))
    (U : Upd D (W.listOf its n) (W.listOf (its ++ its2) (if (its ++ its2).size == its.size then n else n + 1)) news news') (hz : its.size + its2.size ≤ 100000)
    (h : ∀ h', Fr h₀ L h' m → News h₀ L h' news' → Q .none { s with heap := h' }) : wpAny (model prog w) A (call (.builtin "list.extend") [.ref D, .ref b]) Q E s := by
  obtain ⟨pre, post, rfl, rfl, a, c⟩ := U.split
  have z := N (D, W.listOf its n) (List.mem_append.mpr (.inr (.head _)))
  refine call_meets PySem.F.slot_list_extend ⟨_, z.1, rfl⟩ PySem.F.entry_list_extend (PySem.F.args_list_extend_2 _ _) (PySem.AutoSeq1.list_extend_list_list_0 D its n b its2 n2 (door_small hz) (by rw [sizeLine_eq]; omega) (by rw [sizeLine_eq]; omega)) ⟨z.1, F.keep _ _ hb, h _ (F.change (Heap.SameBut.update ..) z.2.1 z.2.2) ?_⟩
  exact news_set N a c (Heap.SameBut.update ..) (PySem.IsL.update z.1 (fun x => x ++ its2))
theorem optHanded {v : Value} : ∀ {o : Option Int}, OptIs v o → handedIn v = true
  | none, h => by rw [show v = .none from h]; rfl
  | some _, ⟨_, h⟩ => by rw [h]; rfl
local macro_rules | `(tactic| k_inst) => `(tactic| exact instBase (by k_asm) (by assumption) (by assumption))
local macro_rules | `(tactic| k_handed) => `(tactic| assumption)
local macro_rules | `(tactic| walk_at "subscriptTail Name Constant ref int") => `(tactic| (k_here; k_dflt (refine' item_base ?bF ?b1 ?b2 ?b3 ?b4 ?_; (case bF => k_asm); (case b1 => assumption); (case b2 => decide); (case b3 => decide); (case b4 => rfl); k_whole)))
local macro_rules | `(tactic| walk_at "call builtin:list.extend") => `(tactic| (k_here; (with_reducible show wpAny _ _ (call (Value.builtin _) [Value.ref _, Value.ref _]) _ _ _); k_dflt (refine' extend_base ?bF ?bN ?b1 ?bU ?bz ?_; (case bF => k_asm); (case bN => k_asm); (case b1 => assumption); (case bU => k_upd); (case bz => first | omega | (simp; omega))); intro h' F' N'))
theorem part_off_11 : True := by w_top off; trivial
section
variable {prog : Program} {w : World} {A : Around} {E : Value → Shared → Prop} {s : Shared}
def StrSet (prog : Program) (w : World) (h : Heap) (D : Addr) (ss : List Str) : Prop := ∃ S c, h.SetOf (strKind prog w) D S c ∧ (∀ k, S k = decide (k ∈ ss)) ∧ c ≤ ss.length
theorem StrSet.at {h h' : Heap} {D : Addr} {ss : List Str} (x : StrSet prog w h D ss) (e : ∀ o, h.get? D = some o → h'.get? D = some o) : StrSet prog w h' D ss := by
  obtain ⟨S, c, ⟨o, es, ep, t, ho, r⟩, h2, h3⟩ := x
  exact ⟨S, c, ⟨o, es, ep, t, e _ ho, r⟩, h2, h3⟩
theorem set_loop {R : Result → Shared → Prop} {I D l : Addr} {vs : Array Value} {ss : List Str} (hh : A.handled = none) (hlI : l ≠ I) (hDI : D ≠ I) (hDl : D ≠ l) (hs : StrsAre vs.toList ss) (hb : ss.length + 1 < 4096) :
    ∀ (k i : Nat) (s : Shared), ss.length - i = k → i ≤ ss.length → s.heap.IsListIter I l i → s.heap.IsList l vs → StrSet prog w s.heap D (ss.take i) →
      (∀ h' tk, (∀ b o, b ≠ D → b ≠ I → s.heap.get? b = some o → h'.get? b = some o) → StrSet prog w h' D ss → R (.ok (.ret .none)) { s with heap := h', toks := tk }) →
      codeAny (model prog w) A (.builtin "set.update.loop" ⟨[.ref D, .ref I], []⟩) R s := by
  intro k
  induction k with
  | zero =>
    intro i s hk hi hit hl hS hR
    have hin : i = ss.length := by omega
    subst hin
    refine codeAny_builtin PyProof.Rows.F.entry_set_update_loop ?_
    rw [Around.under_plainId PyProof.Rows.F.plain_set_update_loop _]
    show wpAny _ A.in1 (pyNext (.ref I) >>= _) _ _ s
    have hend : vs[ss.length]? = none := by rw [Array.getElem?_eq_none_iff, ← hs.length, Array.length_toList]; exact Nat.le_refl _
    refine wpAny_bind (wpAny_pyNext_list_end (by exact hh) hit hl hend fun h' he => ?_)
    show wpAny _ A.in1 (ret Value.none) _ _ _
    rw [List.take_length] at hS
    exact wpAny_pure (hR h' s.toks (fun b o hbD hbI e => he b o hbI e) (hS.at fun o e => he D o hDI e))
  | succ k ih =>
    intro i s hk hi hit hl hS hR
    have hlt : i < ss.length := by omega
    obtain ⟨t, ht⟩ := hs.get i ss[i] (List.getElem?_eq_getElem hlt)
    refine codeAny_builtin PyProof.Rows.F.entry_set_update_loop ?_
    rw [Around.under_plainId PyProof.Rows.F.plain_set_update_loop _]
    show wpAny _ A.in1 (pyNext (.ref I) >>= _) _ _ s
    refine wpAny_bind (wpAny_pyNext_list_item hit hl (x := .str ss[i] t) (by simpa using ht) fun h' hit' hsb => ?_)
    show wpAny _ A.in1 (holding [Value.str ss[i] t] (setAdd D (.str ss[i] t)) >>= _) _ _ _
    refine wpAny_bind (wpAny_holding ?_)
    unfold setAdd
    refine wpAny_holding ?_
    refine wpAny_bind ((strKind prog w).pyHash (k := ss[i]) (strKind_is _ _ _ _) ?_)
    obtain ⟨S, c, hS1, hS2, hc⟩ := hS.at (h' := h') fun o e => hsb.extBut D o hDI e
    have hcl : c ≤ i := Nat.le_trans hc (by rw [List.length_take]; omega)
    refine wpAny_setAddHashed_of (knd := strKind prog w) (s := { s with heap := h', toks := s.toks + 1 }) (strKind_is _ _ _ _) rfl hS1 (by unfold scanBound; omega) fun h₂ hsb₂ hS3 => ?_
    have hS' : StrSet prog w h₂ D (ss.take (i + 1)) := by
      refine ⟨_, _, hS3, fun q => ?_, ?_⟩
      · rw [hS2, List.take_add_one, List.getElem?_eq_getElem hlt]
        simp only [Option.toList_some, List.mem_append, List.mem_singleton, Bool.decide_or]
      · rw [List.length_take]; split <;> omega
    refine wpAny_pure ⟨plainId_quiet PyProof.Rows.F.plain_set_update_loop _, ih (i + 1) _ (by omega) hlt (hit'.extBut hsb₂.extBut (Ne.symm hDI)) ((hl.extBut hsb.extBut hlI).extBut hsb₂.extBut (Ne.symm hDl)) hS' fun h₃ tk hk₃ hS₃ => ?_⟩
    exact hR h₃ tk (fun b o hbD hbI e => hk₃ b o hbD hbI (hsb₂.extBut b o hbD (hsb.extBut b o hbI e))) hS₃
set_option maxHeartbeats 3200000 in
theorem set_strs {l : Addr} {vs : Array Value} {ss : List Str} {Q : Value → Shared → Prop} (hh : A.handled = none) (hl : s.heap.IsList l vs) (hs : StrsAre vs.toList ss) (hb : ss.length + 1 < 4096)
    (h : ∀ (h' : Heap) (tk : Nat), StrSet prog w h' s.heap.objs.size ss → (∀ b o, s.heap.get? b = some o → h'.get? b = some o) → Q (.ref s.heap.objs.size) { s with heap := h', toks := tk }) :
    wpAny (model prog w) A (call (.type "set") [.ref l]) Q E s := by
  obtain ⟨c, tl, hmro⟩ := PySem.F.called_set.mro
  have hmade := PySem.F.called_set.made
  have hsub := PySem.F.called_set.sub
  refine wpAny_call (codeAny_of_tree ?_)
  show wpAny _ _ (callAny (.type "set") _) _ _ _
  refine wpAny_pure ⟨Code.quiet_builtin _ (by decide +kernel), codeAny_builtin PySem.F.entry_type_call ?_⟩
  rw [Around.under_plain (weight_type_call_type "set" [.ref l] []) rfl]
  have h1 := PySem.F.called_set.notType
  have h2 := PySem.F.called_set.canCreate
  have hct := PySem.F.typeCall_set_1 (.ref l)
  repeat (any_goals (first | assumption | wp_step))
  refine codeAny_mono (PySem.code_set_new_1 (.ref l) (E := E) (Q₁ := fun obj s₁ => ∃ led : Bool, obj = .ref s.heap.objs.size ∧ s₁ = { s with heap := s.heap.push { cls := .type "set", dict := none, data := .set #[] 0 (.fresh 0 0 led) } }) fun led => ⟨led, rfl, rfl⟩) fun r s₁ hr => ?_
  rcases r with e | fl
  · exact hr
  rcases fl with _ | _ | _ | obj
  · exact hr.elim
  · exact hr.elim
  · exact hr.elim
  obtain ⟨led, rfl, rfl⟩ := hr
  generalize hH : s.heap.push { cls := .type "set", dict := none, data := .set #[] 0 (.fresh 0 0 led) } = H
  have hsz : H.objs.size = s.heap.objs.size + 1 := by rw [← hH, Heap.size_push]
  have hS : H.get? s.heap.objs.size = some { cls := .type "set", dict := none, data := .set #[] 0 (.fresh 0 0 led) } := by rw [← hH]; exact Heap.get?_push_size _ rfl
  have hup : ∀ b o, s.heap.get? b = some o → H.get? b = some o := fun b o e => by rw [← hH]; exact Heap.get?_push_of_some _ e
  have hT : Shared.TypeIs { s with heap := H } (.ref s.heap.objs.size) "set" := ⟨_, hS, rfl⟩
  have hli := PySem.F.called_set.init.lookup
  have hbi := PySem.F.called_set.init.bind (.ref s.heap.objs.size)
  clear hH
  repeat (any_goals (first | assumption | wp_step))
  refine codeAny_mono (codeAny_call_builtin (R := wants (fun r s₂ => r = .none ∧ ∃ h' tk, s₂ = { s with heap := h', toks := tk } ∧ StrSet prog w h' s.heap.objs.size ss ∧ (∀ b o, s.heap.get? b = some o → h'.get? b = some o)) E)
    PySem.F.called_set.init.plain PySem.F.entry_set_init (PySem.check_set_init_1 hT ?_)) fun r₂ s₂ hr₂ => ?_
  · have hl1 := hl.at (h' := H) fun o e => hup l o e
    obtain ⟨ol, hol, hcl, nl, hdl⟩ := id hl1
    obtain ⟨ocls, odict, odata, oslots⟩ := ol
    simp only at hcl hdl
    subst hcl
    subst hdl
    have hsls := PySem.F.sub_list_set
    have hslf := PySem.F.sub_list_frozenset
    have hne : (Value.type "list" == Value.type "dict") = false := by decide
    unfold Builtin.«set.__init__» noKeywords Builtin.Frozenset.updateFrom
    generalize hPI : pyIter = PI
    wp_walk
    subst hPI
    refine wpAny_pyIter_list hl1 ?_
    refine wpAny_bind (wpAny_runValue ?_)
    have hlS : l < s.heap.objs.size := by obtain ⟨o, ho, _⟩ := hl; exact Heap.lt_size ho
    refine set_loop (by simp [hh]) (by rw [hsz]; exact Nat.ne_of_lt (Nat.lt_succ_of_lt hlS)) (by rw [hsz]; exact Nat.ne_of_lt (Nat.lt_succ_self _)) (Nat.ne_of_gt hlS) hs hb (ss.length - 0) 0 _ rfl (Nat.zero_le _)
      ⟨_, Heap.get?_push_size _ rfl, rfl, rfl⟩ (hl1.push _) ?_ fun h' tk hk' hS' => ?_
    · refine ⟨_, _, (PyProof.Rows.setObjOf_fresh (knd := strKind prog w) led).setOf (Heap.get?_push_of_some _ hS) (by unfold scanBound; omega), fun q => ?_, Nat.zero_le _⟩
      simp
    · show wpAny _ _ _ _ _ _
      refine wpAny_pure ?_
      show wpAny _ _ (ret Value.none) _ _ _
      refine wpAny_pure ⟨rfl, h', tk, rfl, hS', fun b o e => ?_⟩
      have hb := Heap.lt_size e
      exact hk' b o (Nat.ne_of_lt hb) (by rw [hsz]; exact Nat.ne_of_lt (Nat.lt_succ_of_lt hb)) (Heap.get?_push_of_some _ (hup b o e))
  · rcases r₂ with e | fl₂
    · exact hr₂
    rcases fl₂ with _ | _ | _ | r
    · exact hr₂.elim
    · exact hr₂.elim
    · exact hr₂.elim
    obtain ⟨rfl, h', tk, rfl, hS', hk'⟩ := hr₂
    repeat (any_goals (first | assumption | wp_step))
    exact h _ _ hS' hk'
end
theorem part_off_12 : True := by w_top off; trivial
theorem mro_filter : mroOf (.type "filter") = pure [.type "filter", .type "object"] := by rw [mroOf_type]; kernel_rfl
theorem lookup_filter_new : typeLookup (.type "filter") "__new__" = pure (some (.builtin "filter.__new__")) := by rw [typeLookup_type, builtinLookup_eq_fast]; kernel_rfl
theorem slot_filter_init : Slot "filter" "__init__" "object.__init__" :=
  .of (owner := "object") (n := "__init__") (by rw [typeLookup_type, builtinLookup_eq_fast]; kernel_rfl) (by decide +kernel) (by decide +kernel) (by decide +kernel)
    (by first | exact .inl (by decide +kernel) | exact .inr (by decide +kernel)) (by rw [isSubtype_type]; kernel_rfl)
theorem slot_filter_next : Slot "filter" "__next__" "filter.__next__" :=
  .of (owner := "filter") (n := "__next__") (by rw [typeLookup_type, builtinLookup_eq_fast]; kernel_rfl) (by decide +kernel) (by decide +kernel) (by decide +kernel)
    (by first | exact .inl (by decide +kernel) | exact .inr (by decide +kernel)) (by rw [isSubtype_type]; kernel_rfl)
theorem slot_filter_iter : Slot "filter" "__iter__" "filter.__iter__" :=
  .of (owner := "filter") (n := "__iter__") (by rw [typeLookup_type, builtinLookup_eq_fast]; kernel_rfl) (by decide +kernel) (by decide +kernel) (by decide +kernel)
    (by first | exact .inl (by decide +kernel) | exact .inr (by decide +kernel)) (by rw [isSubtype_type]; kernel_rfl)
theorem called_filter : TypeCalled "filter" "filter.__new__" "object.__init__" :=
  ⟨by decide +kernel, by decide +kernel, ⟨_, _, mro_filter⟩, madeBy_type mro_filter lookup_filter_new (by decide +kernel), by decide +kernel, by rw [isSubtype_type]; kernel_rfl, slot_filter_init⟩
theorem sub_filter : isSubtype (.type "filter") (.type "filter") = pure true := by rw [isSubtype_type]; kernel_rfl
theorem typeCall_filter_2 (a b : Value) : checkTypeCall "filter" ⟨[a, b], []⟩ = pure () := by kernel_rfl
theorem newCall_filter_2 (a b : Value) : checkBuiltinCall "filter.__new__" ⟨[.type "filter", a, b], []⟩ = pure () := by kernel_rfl
theorem entry_filter_new : entryFor table "filter.__new__" = some Builtin.«filter.__new__» := entryFor_of_tree (by kernel_rfl)
theorem entry_filter_next : entryFor table "filter.__next__" = some Builtin.«filter.__next__» := entryFor_of_tree (by kernel_rfl)
theorem entry_filter_iter : entryFor table "filter.__iter__" = some Builtin.«dict_keyiterator.__iter__» :=
  entryFor_alias (id' := "dict_keyiterator.__iter__") (by kernel_rfl) (by first | rfl | decide +kernel | (unfold String.splitOn; simp +decide [String.splitOnAux])) (by decide +kernel) (by kernel_rfl)
theorem owner_filter : Manifest.owners.lookup (String.ofList ['r', 'e', 't', 'l', 'i', 'f'].reverse) = some Manifest.sig_filter := by kernel_rfl
theorem args_filter_next_1 (a : Value) : argsOk "filter.__next__" ⟨[a], []⟩ := by
  unfold argsOk; rw [signature?_of (id := "filter.__next__") (n := ['_', '_', 't', 'x', 'e', 'n', '_', '_']) (o := ['r', 'e', 't', 'l', 'i', 'f']) (by kernel_rfl) owner_filter]; kernel_rfl
theorem args_filter_iter_1 (a : Value) : argsOk "filter.__iter__" ⟨[a], []⟩ := by
  unfold argsOk; rw [signature?_of (id := "filter.__iter__") (n := ['_', '_', 'r', 'e', 't', 'i', '_', '_']) (o := ['r', 'e', 't', 'l', 'i', 'f']) (by kernel_rfl) owner_filter]; kernel_rfl
theorem filter_no_len : typeLookup (.type "filter") "__len__" = pure none := by rw [typeLookup_type, builtinLookup_eq_fast]; kernel_rfl
theorem filter_no_hint : typeLookup (.type "filter") "__length_hint__" = pure none := by rw [typeLookup_type, builtinLookup_eq_fast]; kernel_rfl
open AutoSeq1 (wpAny_loadPart')
theorem meets_filter_new (f : Value) (l : Addr) (items : Array Value) (n : Nat) :
    Meets (Builtin.«filter.__new__» ⟨[.type "filter", f, .ref l], []⟩) (fun _ R s => s.heap.get? l = some { cls := .type "list", dict := none, data := .seq items n, slots := #[] } ∧
      R (.ok (.ret (.ref (s.heap.push { cls := .type "list_iterator", data := .fields #[.ref l, .int 0 0] }).objs.size)))
        { s with heap := (s.heap.push { cls := .type "list_iterator", data := .fields #[.ref l, .int 0 0] }).push { cls := .type "filter", data := .fields #[f, .ref s.heap.objs.size] } }) :=
  .of_wp fun prog w A R s h => by
    obtain ⟨hp, g, d, tk, os⟩ := s; obtain ⟨hl, h⟩ := h
    have hsub := sub_filter
    have hL : Heap.IsList (Shared.heap ⟨hp, g, d, tk, os⟩) l items := ⟨_, hl, rfl, n, rfl⟩
    wp_walk using wpAny_loadPart' hl, wpAny_pyIter_list hL
    all_goals exact ⟨_, rfl, h⟩
section
variable {prog : Program} {w : World} {A : Around} {E : Value → Shared → Prop} {s : Shared}
abbrev IsFil (h : Heap) (e it : Addr) (f : Value) : Prop := h.get? e = some { cls := .type "filter", dict := none, data := .fields #[f, .ref it], slots := #[] }
theorem call_filter_2 {l : Addr} {f : Value} {items : Array Value} {n : Nat} {Q : Value → Shared → Prop}
    (hl : s.heap.get? l = some { cls := .type "list", dict := none, data := .seq items n, slots := #[] })
    (h : ∀ h', IsFil h' (s.heap.objs.size + 1) s.heap.objs.size f → h'.IsListIter s.heap.objs.size l 0 → h'.objs.size = s.heap.objs.size + 2 →
      (∀ b o, s.heap.get? b = some o → h'.get? b = some o) → Q (.ref (s.heap.objs.size + 1)) { s with heap := h' }) :
    wpAny (model prog w) A (call (.type "filter") [f, .ref l]) Q E s := by
  refine callType_new called_filter (by decide) (typeCall_filter_2 _ _) (newCall_filter_2 _ _) (fun obj => ?_) entry_filter_new
    (meets_filter_new f l items n) ⟨hl, ?_⟩
  · unfold argsOk; kernel_rfl
  have hz : (s.heap.push { cls := .type "list_iterator", data := .fields #[.ref l, .int 0 0] }).objs.size = s.heap.objs.size + 1 := Heap.size_push ..
  show _ ∧ _
  rw [hz]
  have he : IsFil ((s.heap.push { cls := .type "list_iterator", data := .fields #[.ref l, .int 0 0] }).push
      { cls := .type "filter", data := .fields #[f, .ref s.heap.objs.size] }) (s.heap.objs.size + 1) s.heap.objs.size f := by
    have := Heap.get?_push_size (s.heap.push { cls := .type "list_iterator", data := .fields #[.ref l, .int 0 0] })
      (o := { cls := .type "filter", data := .fields #[f, .ref s.heap.objs.size] }) rfl
    rw [hz] at this; exact this
  refine ⟨⟨_, he, rfl⟩, h _ he ⟨_, Heap.get?_push_of_some _ (Heap.get?_push_size _ rfl), rfl, rfl⟩ (by rw [Heap.size_push, hz]) fun b o x => Heap.get?_push_of_some _ (Heap.get?_push_of_some _ x)⟩
end
theorem entry_set_getattribute : entryFor table "set.__getattribute__" = some Builtin.«object.__getattribute__» :=
  entryFor_alias (id' := "object.__getattribute__") (by kernel_rfl) (by decide +kernel) (by decide +kernel) (by kernel_rfl)
abbrev bndSet (a : Addr) : Obj := { cls := .type "builtin_function_or_method", data := .fields #[.builtin "set.__contains__", .ref a] }
theorem type_set_contains : typeOf (.builtin "set.__contains__") = pure (.type "method_descriptor") := by show builtinType _ = _; rw [builtinType_eq_fast]; kernel_rfl
theorem slot_md_get : Slot "method_descriptor" "__get__" "method_descriptor.__get__" :=
  .of (owner := "method_descriptor") (n := "__get__") (by rw [typeLookup_type, builtinLookup_eq_fast]; kernel_rfl) (by decide +kernel) (by decide +kernel) (by decide +kernel)
    (by first | exact .inl (by decide +kernel) | exact .inr (by decide +kernel)) (by rw [isSubtype_type]; kernel_rfl)
theorem entry_md_get : entryFor table "method_descriptor.__get__" = some Builtin.«method_descriptor.__get__» := entryFor_of_tree (by kernel_rfl)
theorem args_md_get (a b c : Value) : argsOk "method_descriptor.__get__" ⟨[a, b, c], []⟩ := by unfold argsOk; kernel_rfl
theorem md_no_set : typeLookup (.type "method_descriptor") "__set__" = pure none := by rw [typeLookup_type, builtinLookup_eq_fast]; kernel_rfl
theorem md_no_delete : typeLookup (.type "method_descriptor") "__delete__" = pure none := by rw [typeLookup_type, builtinLookup_eq_fast]; kernel_rfl
theorem sub_set_set : isSubtype (.type "set") (.type "set") = pure true := by rw [isSubtype_type]; kernel_rfl
theorem told_no : Manifest.toldItsClass.contains "set.__contains__" = false := by decide +kernel
theorem owner_sc : (kfb_private% "ownerAndName") "set.__contains__" = ("set", "__contains__") := by first | decide +kernel | kernel_rfl
theorem meets_md_get (a : Addr) (o : Obj) (hc : o.cls = .type "set") :
    Meets (Builtin.«method_descriptor.__get__» ⟨[.builtin "set.__contains__", .ref a, .type "set"], []⟩) (fun _ R s => s.heap.get? a = some o ∧ R (.ok (.ret (.ref s.heap.objs.size))) { s with heap := s.heap.push (bndSet a) }) :=
  Meets.of_wp fun prog w A R s hs => by
    obtain ⟨hx, hs⟩ := hs
    have hT : s.TypeIs (.ref a) "set" := ⟨_, hx, hc⟩
    have h1 := told_no
    have h3 := sub_set_set
    unfold Builtin.«method_descriptor.__get__»
    refine wpAny_bind (wpAny_of_eq (a := (.builtin "set.__contains__", some (.ref a), some (.type "set"))) (by first | rfl | kernel_rfl) ?_)
    dsimp only
    rw [if_neg (by rw [told_no]; exact Bool.false_ne_true)]
    show wpAny _ _ ((kfb_private% "checkInstance") (.builtin "set.__contains__") (.ref a) >>= fun _ => (do ret (← newFields "builtin_function_or_method" [.builtin "set.__contains__", .ref a]))) _ _ s
    refine wpAny_bind ?_
    show wpAny _ _ ((kfb_private% "nameAndClass") (.builtin "set.__contains__") >>= fun p => _) _ _ s
    refine wpAny_bind (wpAny_of_eq (a := (Str.ofString "__contains__", .type "set")) (by first | kernel_rfl | rfl) ?_)
    dsimp only
    refine wpAny_bind (wpAny_isInstance (T := "set") (b := true) hT sub_set_set ?_)
    refine wpAny_ite_false (by rfl) ?_
    refine wpAny_pure ?_
    exact wpAny_bind (wpAny_newObj_type (wpAny_pure ⟨_, rfl, hs⟩))
theorem meets_getattribute_contains (a : Addr) (o : Obj) (es : Array (Int × Value)) (n : Nat) (t : SetTable) (hc : o.cls = .type "set") (hd : o.dict = none) (hda : o.data = .set es n t) (u : Tok) :
    Meets (Builtin.«object.__getattribute__» ⟨[.ref a, .str (Str.ofString "__contains__") u], []⟩) (fun _ R s => s.heap.get? a = some o ∧ R (.ok (.ret (.ref s.heap.objs.size))) { s with heap := s.heap.push (bndSet a) }) :=
  Meets.of_wp fun prog w A R s hs => by
    obtain ⟨c, dct, dat, sl⟩ := o
    simp only at hc hd hda
    subst hc hd hda
    obtain ⟨hp, g, d, tk, os⟩ := s
    obtain ⟨hx, hs⟩ := hs
    have hT : (⟨hp, g, d, tk, os⟩ : Shared).TypeIs (.ref a) "set" := ⟨_, hx, rfl⟩
    have h1 := F.slot_set_contains.lookup
    have h2 := type_set_contains
    have h3 := slot_md_get.lookup
    have h4 := md_no_set
    have h5 := md_no_delete
    unfold Builtin.«object.__getattribute__»
    repeat (any_goals (first | assumption | ((with_reducible show wpAny _ _ (call (Value.builtin "method_descriptor.__get__") _ _) _ _ _); refine call_meets slot_md_get (by exact type_set_contains) entry_md_get (args_md_get _ _ _) (meets_md_get a _ rfl) ⟨hx, ?_⟩) | wp_step))
    exact wpAny_pure ⟨_, rfl, hs⟩
theorem getAttr_contains {prog : Program} {w : World} {A : Around} {E : Value → Shared → Prop} {s : Shared} {a : Addr} {ss : List Str} {Q : Value → Shared → Prop} (hs : StrSet prog w s.heap a ss)
    (h : Q (.ref s.heap.objs.size) { s with heap := s.heap.push (bndSet a), toks := s.toks + 1 }) :
    wpAny (model prog w) A (getAttr (.ref a) (Str.ofString "__contains__") true) Q E s := by
  obtain ⟨S, c, ⟨o, es, ep, t, ho, hex, hdat, _⟩, h2, h3⟩ := hs
  obtain ⟨hc, hd, hsl⟩ := hex
  obtain ⟨c, dct, dat, sl⟩ := o
  simp only at hc hdat hd
  subst hc hdat hd
  obtain ⟨hp, g, d, tk, os⟩ := s
  have hT : ∀ tk', (⟨hp, g, d, tk', os⟩ : Shared).TypeIs (.ref a) "set" := fun _ => ⟨_, ho, rfl⟩
  have f3 := F.slot_set_getattribute.lookup
  have f4 := F.slot_set_getattribute.bind (.ref a)
  unfold getAttr getAttrBy
  repeat (any_goals (first | assumption | exact hT _ | ((with_reducible show wpAny _ _ (call (Value.builtin "set.__getattribute__") _ _) _ _ _); refine call_meets F.slot_set_getattribute (hT _) entry_set_getattribute (F.args_set_getattribute_2 _ _) (meets_getattribute_contains a _ es ep t rfl rfl rfl _) ⟨ho, ?_⟩) | wp_step))
  show wpAny _ _ (handedOut (.ref _)) Q E _
  unfold handedOut
  have hn : (hp.push (bndSet a)).get? hp.objs.size = some (bndSet a) := Heap.get?_push_size _ rfl
  repeat (any_goals (first | assumption | wp_step))
  all_goals trace_state
abbrev sigSC : Manifest.Signature := ⟨.oneArg, "set.__contains__", "__contains__", .self, [⟨"object", .posOnly, true⟩]⟩
theorem sig_sc : Manifest.signature? "set.__contains__" = some sigSC := by
  rw [signature?_of (id := "set.__contains__") (n := ['_', '_', 's', 'n', 'i', 'a', 't', 'n', 'o', 'c', '_', '_']) (o := ['t', 'e', 's']) (by kernel_rfl) F.owner_set]; kernel_rfl
theorem kind_sc : builtinKind "set.__contains__" = some .method := by decide +kernel
theorem last_sc : Bind.lastOf "set.__contains__" = "__contains__" := by first | decide +kernel | kernel_rfl
theorem last_set : Bind.lastOf "set" = "set" := by first | decide +kernel | kernel_rfl
theorem noVar_sc : Manifest.varargsMethods.contains "set.__contains__" = false := by decide +kernel
theorem sub_set_module : isSubtype (.type "set") (.type "module") = pure false := by rw [isSubtype_type]; kernel_rfl
theorem chk_sc (a b : Value) : Bind.checkArgs "set.__contains__" { sigSC with full := s!"{Bind.lastOf "set"}.{Bind.lastOf "set.__contains__"}" } ⟨[a, b], []⟩ = pure () := by kernel_rfl
theorem quiet_sc {as : Args} : (Code.builtin "set.__contains__" as).quiet = true := Code.quiet_builtin _ (by decide +kernel)
section
variable {prog : Program} {w : World} {A : Around} {E : Value → Shared → Prop} {s : Shared}
theorem check_sc {D : Addr} {ss : List Str} {y : Value} {Q : Unit → Shared → Prop} (hS : StrSet prog w s.heap D ss) (h : Q () s) :
    wpAny (model prog w) A (checkBoundCall "set.__contains__" ⟨[.ref D, y], []⟩) Q E s := by
  obtain ⟨S, c, ⟨o, es, ep, t, ho, hex, hdat, _⟩, h2, h3⟩ := hS
  have hT : s.TypeIs (.ref D) "set" := ⟨_, ho, hex.1⟩
  unfold checkBoundCall
  rw [sig_sc, kind_sc]
  dsimp only
  refine wpAny_ite_false (by decide) ?_
  refine wpAny_bind (wpAny_isInstance (T := "set") (b := false) hT sub_set_module ?_)
  refine wpAny_ite_false (by rw [noVar_sc]; decide) ?_
  have hd : (wpAny (model prog w) A (isType (.ref D)) (fun b s' => b = false ∧ s' = s) E s) := by
    unfold isType
    refine wpAny_bind (wpAny_load ho ?_)
    rw [hdat]
    exact wpAny_pure ⟨rfl, rfl⟩
  refine wpAny_bind (wpAny_mono hd ?_ fun _ _ x => x)
  rintro b s' ⟨rfl, rfl⟩
  refine wpAny_ite_false (by decide) ?_
  refine wpAny_bind (wpAny_typeOf hT ?_)
  dsimp only
  exact wpAny_of_eq (chk_sc _ _) h
theorem call_bnd {W D : Addr} {ss : List Str} {y : Str} {t : Tok} {Q : Value → Shared → Prop} (hW : s.heap.get? W = some (bndSet D)) (hS : StrSet prog w s.heap D ss)
    (h : Q (.bool (decide (y ∈ ss))) { s with toks := s.toks + 1 }) : wpAny (model prog w) A (call (.ref W) [.str y t]) Q E s := by
  refine wpAny_call (codeAny_of_tree ?_)
  show wpAny _ A.in1 (callAny (.ref W) ⟨[.str y t], []⟩) _ _ s
  simp only [callAny]
  refine wpAny_bind (wpAny_load hW ?_)
  simp only [show (Value.type "builtin_function_or_method" == Value.type "method" || Value.type "builtin_function_or_method" == Value.type "builtin_function_or_method" || Value.type "builtin_function_or_method" == Value.type "method-wrapper") = true by decide, if_true]
  refine wpAny_ite_true (by rfl) ?_
  refine wpAny_bind (check_sc hS ?_)
  refine wpAny_bind (wpAny_pure (wpAny_pure ⟨quiet_sc, codeAny_builtin entry_set_contains ?_⟩))
  rw [Around.under_plainId (id := "set.__contains__") (by decide +kernel) _]
  obtain ⟨S, c, hS, h2, h3⟩ := hS
  unfold Builtin.«frozenset.__contains__» Builtin.Frozenset.oneOther
  simp only [List.isEmpty_nil, bind_assoc]
  unfold Builtin.Frozenset.addrOf Builtin.Frozenset.withSetAsKey setContains
  refine wpAny_bind (wpAny_pure ?_)
  try dsimp only
  refine wpAny_bind (wpAny_pure ?_)
  try dsimp only
  refine wpAny_bind (wpAny_tryCatch ?_)
  refine wpAny_holding ?_
  refine wpAny_bind ((strKind prog w).pyHash (k := y) (strKind_is _ _ _ _) ?_)
  refine wpAny_bind (wpAny_setFind_of (knd := strKind prog w) (s := { s with toks := s.toks + 1 }) (strKind_is _ _ _ _) rfl hS fun r hr => ?_)
  refine wpAny_pure ?_
  show wpAny _ _ (ret (Value.bool r.isSome)) _ _ _
  rw [hr, h2]
  exact wpAny_pure h
end
section
variable {prog : Program} {w : World} {A : Around} {E : Value → Shared → Prop} {s : Shared}
theorem cs_item {it l : Addr} {i : Nat} {items} {x : Value} {Q : Option Value → Shared → Prop} (hit : s.heap.IsListIter it l i)
    (hl : s.heap.IsList l items) (hx : items[i]? = some x) (hQ : ∀ h', h'.IsListIter it l (i + 1) → Heap.SameBut it s.heap h' → Q (some x) { s with heap := h' }) :
    wpAny (model prog w) A (callSpecial? (.ref it) "__next__") Q E s := by
  obtain ⟨o, ho, hc, hd⟩ := id hit
  obtain ⟨ol, hol, _, nl, hdl⟩ := hl
  refine wpAny_callSpecial?_slot (name := Str.ofString "__next__") hit.typeIs slot_listiter_next (wpAny_call_entry slot_listiter_next hit.typeIs entry_listiter_next ?_ (args_listiter_next _))
  show wpAny _ _ (field (.ref it) 0 >>= _) _ _ s
  refine wpAny_bind (wpAny_field ho hd (x := .ref l) rfl ?_)
  show wpAny _ _ (if (Value.ref l == Value.none) = true then _ else _) _ _ s
  rw [if_neg (show ¬ ((Value.ref l == Value.none) = true) from Bool.false_ne_true)]
  show wpAny _ _ (field (.ref it) 1 >>= _) _ _ s
  refine wpAny_bind (wpAny_field ho hd (x := .int i 0) rfl ?_)
  show wpAny _ _ (seqItems? (.ref l) >>= _) _ _ s
  refine wpAny_bind (wpAny_seqItems hol hdl ?_)
  simp only [Int.toNat_natCast, hx]
  refine wpAny_bind (wpAny_setField ho hd (by simp) (wpAny_pure ⟨x, rfl, hQ _ ?_ (Heap.SameBut.update ..)⟩))
  exact ⟨_, Heap.get?_update_self _ ho (Obj.isFreed_of_fields (Obj.data_mapFields hd _)), (Obj.cls_mapFields ..).trans hc, by rw [Obj.data_mapFields hd]; simp [rawInt]⟩
theorem cs_end {it l : Addr} {i : Nat} {items} {Q : Option Value → Shared → Prop} (hh : A.handled = none)
    (hit : s.heap.IsListIter it l i) (hl : s.heap.IsList l items) (hx : items[i]? = none)
    (hE : ∀ h' e, Heap.ExtBut it s.heap h' → (∃ o, h'.get? e = some o ∧ o.cls = .type "StopIteration") → E (.ref e) { s with heap := h' }) :
    wpAny (model prog w) A (callSpecial? (.ref it) "__next__") Q E s := by
  obtain ⟨o, ho, hc, hd⟩ := id hit
  obtain ⟨ol, hol, _, nl, hdl⟩ := hl
  refine wpAny_callSpecial?_slot (name := Str.ofString "__next__") hit.typeIs slot_listiter_next (wpAny_call_entry slot_listiter_next hit.typeIs entry_listiter_next ?_ (args_listiter_next _))
  show wpAny _ _ (field (.ref it) 0 >>= _) _ _ s
  refine wpAny_bind (wpAny_field ho hd (x := .ref l) rfl ?_)
  show wpAny _ _ (if (Value.ref l == Value.none) = true then _ else _) _ _ s
  rw [if_neg (show ¬ ((Value.ref l == Value.none) = true) from Bool.false_ne_true)]
  show wpAny _ _ (field (.ref it) 1 >>= _) _ _ s
  refine wpAny_bind (wpAny_field ho hd (x := .int i 0) rfl ?_)
  show wpAny _ _ (seqItems? (.ref l) >>= _) _ _ s
  refine wpAny_bind (wpAny_seqItems hol hdl ?_)
  simp only [Int.toNat_natCast, hx]
  refine wpAny_bind (wpAny_rule (wpAny_bind (wpAny_setField ho hd (by simp) ?_)))
  show wpAny _ _ (newExc (.type "StopIteration") [] >>= _) _ _ _
  refine wpAny_bind ?_
  simp only [newExc, newTuple]
  refine wpAny_bind (wpAny_newObj_type ?_ (by size_fits))
  refine wpAny_bind (m := firstArgMember _ _) (wpAny_of_eq (a := Value.none) (by first | rfl | (simp only [firstArgMember]; rfl)) ?_)
  refine wpAny_newObj_type ?_ (by size_fits)
  simp only [raiseNew]
  refine wpAny_bind (wpAny_handled ?_)
  first | rw [show A.in1.handled = none from hh] | rw [hh]
  refine wpAny_bind (wpAny_pure (wpAny_throw ?_))
  exact hE _ _ (((Heap.SameBut.update ..).extBut.push _).push _) ⟨_, Heap.get?_push_size _ rfl, rfl⟩
theorem plain_filter_next : plainId "filter.__next__" = true := by decide +kernel
structure FilSt (prog : Program) (w : World) (h : Heap) (e it l W D : Addr) (vs : Array Value) (ss2 : List Str) : Prop where
  fil : IsFil h e it (.ref W)
  lst : h.IsList l vs
  bnd : h.get? W = some (bndSet D)
  set : StrSet prog w h D ss2
theorem FilSt.keep {h h' : Heap} {e it l W D : Addr} {vs : Array Value} {ss2 : List Str} (x : FilSt prog w h e it l W D vs ss2) (k : ∀ b ∈ [e, l, W, D], ∀ o, h.get? b = some o → h'.get? b = some o) : FilSt prog w h' e it l W D vs ss2 := by
  obtain ⟨a, ⟨o, ho, b⟩, c, d⟩ := x
  exact ⟨k _ (by simp) _ a, ⟨o, k _ (by simp) _ ho, b⟩, k _ (by simp) _ c, d.at fun o e => k _ (by simp) _ e⟩
theorem filter_next_tree {R : Result → Shared → Prop} {e it l W D : Addr} {vs : Array Value} {ss ss2 : List Str} (hne : it ∉ [e, l, W, D]) (hss : StrsAre vs.toList ss) :
    ∀ (k i : Nat) (A : Around) (s : Shared), A.handled = none → ss.length - i = k → i ≤ ss.length → s.heap.IsListIter it l i → FilSt prog w s.heap e it l W D vs ss2 →
      (∀ y r, (ss.drop i).filter (fun y => decide (y ∈ ss2)) = y :: r → ∀ h' j t tk, (∀ b o, b ≠ it → s.heap.get? b = some o → h'.get? b = some o) → h'.IsListIter it l j → j ≤ ss.length → (ss.drop j).filter (fun y => decide (y ∈ ss2)) = r →
        R (.ok (.ret (.str y t))) { s with heap := h', toks := tk }) →
      ((ss.drop i).filter (fun y => decide (y ∈ ss2)) = [] → ∀ h' x tk, (∀ b o, b ≠ it → s.heap.get? b = some o → h'.get? b = some o) → (∃ o, h'.get? x = some o ∧ o.cls = .type "StopIteration") → R (.error (.ref x)) { s with heap := h', toks := tk }) →
      wpAny (model prog w) A.in1 (Builtin.«filter.__next__» ⟨[.ref e], []⟩) (fun fin s' => match fin with | .done f => R (.ok f) s' | .again c' => c'.quiet = true ∧ codeAny (model prog w) A c' R s') (fun x s' => R (.error x) s') s := by
  intro k
  induction k with
  | zero =>
    intro i A s hh hk hi hit hF hitem hend
    have hin : i = ss.length := by omega
    subst hin
    show wpAny _ _ (field (.ref e) 0 >>= _) _ _ s
    refine wpAny_bind (wpAny_field hF.fil rfl (x := .ref W) rfl ?_)
    show wpAny _ _ (field (.ref e) 1 >>= _) _ _ s
    refine wpAny_bind (wpAny_field hF.fil rfl (x := .ref it) rfl ?_)
    refine wpAny_bind (cs_end (A := A.in1) hh hit hF.lst (by rw [Array.getElem?_eq_none_iff, ← hss.length, Array.length_toList]; exact Nat.le_refl _) fun h' x hx ho => ?_)
    exact hend (by rw [List.drop_length]; rfl) h' x _ (fun b o hb e => hx b o hb e) ho
  | succ k ih =>
    intro i A s hh hk hi hit hF hitem hend
    have hlt : i < ss.length := by omega
    obtain ⟨t, ht⟩ := hss.get i ss[i] (List.getElem?_eq_getElem hlt)
    have hdr : ss.drop i = ss[i] :: ss.drop (i + 1) := List.drop_eq_getElem_cons hlt
    show wpAny _ _ (field (.ref e) 0 >>= _) _ _ s
    refine wpAny_bind (wpAny_field hF.fil rfl (x := .ref W) rfl ?_)
    show wpAny _ _ (field (.ref e) 1 >>= _) _ _ s
    refine wpAny_bind (wpAny_field hF.fil rfl (x := .ref it) rfl ?_)
    refine wpAny_bind (cs_item hit hF.lst (x := .str ss[i] t) (by simpa using ht) fun h' hit' hsb => ?_)
    dsimp only
    have hF' : FilSt prog w h' e it l W D vs ss2 := hF.keep fun b hb o ho => hsb.extBut b o (fun q => hne (q ▸ hb)) ho
    refine wpAny_bind (wpAny_holding ?_)
    refine wpAny_ite_false (by rfl) ?_
    refine wpAny_bind (call_bnd (s := { s with heap := h' }) hF'.bnd hF'.set ?_)
    refine wpAny_holding (wpAny_truthy_bool ?_)
    by_cases hm : ss[i] ∈ ss2
    · rw [decide_eq_true hm]
      refine wpAny_ite_true rfl (wpAny_pure ?_)
      exact hitem ss[i] ((ss.drop (i + 1)).filter fun y => decide (y ∈ ss2)) (by rw [hdr, List.filter_cons, if_pos (decide_eq_true hm)]) h' (i + 1) t _ (fun b o hb e => hsb.extBut b o hb e) hit' hlt rfl
    · rw [decide_eq_false hm]
      refine wpAny_ite_false (by decide) (wpAny_pure ⟨plainId_quiet plain_filter_next _, codeAny_builtin entry_filter_next ?_⟩)
      rw [Around.under_plainId plain_filter_next _]
      have hfe : (ss.drop i).filter (fun y => decide (y ∈ ss2)) = (ss.drop (i + 1)).filter (fun y => decide (y ∈ ss2)) := by rw [hdr, List.filter_cons, if_neg (by rw [decide_eq_false hm]; exact Bool.false_ne_true)]
      refine ih (i + 1) A _ hh (by omega) hlt hit' hF' (fun y r hy h₂ j t₂ tk₂ k₂ hj1 hj2 hj3 => ?_) fun hy h₂ x tk₂ k₂ hx => ?_
      · exact hitem y r (by rw [hfe]; exact hy) h₂ j t₂ tk₂ (fun b o hb e => k₂ b o hb (hsb.extBut b o hb e)) hj1 hj2 hj3
      · exact hend (by rw [hfe]; exact hy) h₂ x tk₂ (fun b o hb e => k₂ b o hb (hsb.extBut b o hb e)) hx
theorem filter_call {R : Result → Shared → Prop} {e it l W D : Addr} {vs : Array Value} {ss ss2 : List Str} {i : Nat} (hh : A.handled = none) (hne : it ∉ [e, l, W, D]) (hss : StrsAre vs.toList ss) (hi : i ≤ ss.length) (hit : s.heap.IsListIter it l i) (hF : FilSt prog w s.heap e it l W D vs ss2)
    (h1 : ∀ y r, (ss.drop i).filter (fun y => decide (y ∈ ss2)) = y :: r → ∀ h' j t tk, (∀ b o, b ≠ it → s.heap.get? b = some o → h'.get? b = some o) → h'.IsListIter it l j → j ≤ ss.length → (ss.drop j).filter (fun y => decide (y ∈ ss2)) = r →
        R (.ok (.ret (.str y t))) { s with heap := h', toks := tk })
    (h2 : (ss.drop i).filter (fun y => decide (y ∈ ss2)) = [] → ∀ h' x tk, (∀ b o, b ≠ it → s.heap.get? b = some o → h'.get? b = some o) → (∃ o, h'.get? x = some o ∧ o.cls = .type "StopIteration") → R (.error (.ref x)) { s with heap := h', toks := tk }) :
    codeAny (model prog w) A (.call (.builtin "filter.__next__") ⟨[.ref e], []⟩) R s := by
  have hT : s.TypeIs (.ref e) "filter" := ⟨_, hF.fil, rfl⟩
  exact codeAny_call_builtin slot_filter_next.plain entry_filter_next (slot_filter_next.check _ _ _ _ _ _ _ _ hT (args_filter_next_1 _) (filter_next_tree hne hss (ss.length - i) i A s hh rfl hi hit hF h1 h2))
theorem Walks.filter {e it l W D : Addr} {vs : Array Value} {ss ss2 : List Str} (hh : A.handled = none) (hne : it ∉ [e, l, W, D]) (hss : StrsAre vs.toList ss) :
    Walks prog w A e [e, it, l, W, D] [it] (ss.filter fun y => decide (y ∈ ss2)).length (fun i v => ∃ y t, (ss.filter fun y => decide (y ∈ ss2))[i]? = some y ∧ v = .str y t)
      (fun i h => FilSt prog w h e it l W D vs ss2 ∧ ∃ j, h.IsListIter it l j ∧ j ≤ ss.length ∧ (ss.drop j).filter (fun y => decide (y ∈ ss2)) = (ss.filter fun y => decide (y ∈ ss2)).drop i) where
  sub := fun b hb => by rw [List.mem_singleton.mp hb]; simp
  frame := fun i h h' ⟨hF, j, hj1, hj2, hj3⟩ hk => ⟨hF.keep fun b hb o ho => hk b (by simp only [List.mem_cons, List.not_mem_nil, or_false] at hb ⊢; rcases hb with q | q | q | q <;> simp [q]) o ho, j, ⟨_, hk it (by simp) _ hj1.choose_spec.1, hj1.choose_spec.2⟩, hj2, hj3⟩
  item := fun i s Q E hi ⟨hF, j, hj1, hj2, hj3⟩ hQ => by
    have hT : s.TypeIs (.ref e) "filter" := ⟨_, hF.fil, rfl⟩
    unfold pyNext
    refine wpAny_bind (wpAny_attempt (wpAny_callSpecial?_slot (name := Str.ofString "__next__") hT slot_filter_next (wpAny_call (filter_call (by exact hh) hne hss hj2 hj1 hF (fun y r hy h' j' t tk k' h1 h2 h3 => ?_) fun hy => ?_))))
    · have hd : (ss.filter fun y => decide (y ∈ ss2)).drop i = (ss.filter fun y => decide (y ∈ ss2))[i] :: (ss.filter fun y => decide (y ∈ ss2)).drop (i + 1) := List.drop_eq_getElem_cons hi
      rw [hj3, hd] at hy
      obtain ⟨e1, e2⟩ := List.cons.inj hy
      refine wpAny_pure (hQ _ _ _ ⟨y, t, ?_, rfl⟩ ⟨hF.keep fun b hb o ho => k' b o (fun q => hne (q ▸ hb)) ho, j', h1, h2, h3.trans e2.symm⟩ fun b o hb e => k' b o (fun q => hb (List.mem_singleton.mpr q)) e)
      rw [← e1]; exact List.getElem?_eq_getElem hi
    · rw [hj3] at hy
      have := congrArg List.length hy
      rw [List.length_drop, List.length_nil] at this
      omega
  done := fun s Q E ⟨hF, j, hj1, hj2, hj3⟩ hQ => by
    have hT : s.TypeIs (.ref e) "filter" := ⟨_, hF.fil, rfl⟩
    unfold pyNext
    refine wpAny_bind (wpAny_attempt (wpAny_callSpecial?_slot (name := Str.ofString "__next__") hT slot_filter_next (wpAny_call (filter_call (by exact hh) hne hss hj2 hj1 hF (fun y r hy => ?_) fun hy h' x tk k' hx => ?_))))
    · rw [hj3, List.drop_length] at hy; cases hy
    · obtain ⟨o, ho, hc⟩ := hx
      refine wpAny_bind (wpAny_isInstance (T := "StopIteration") (b := true) ⟨o, ho, hc⟩ isSubtype_stop ?_)
      exact wpAny_pure (hQ _ _ fun b o hb e => k' b o (fun q => hb (List.mem_singleton.mpr q)) e)
  self := fun i s Q E ⟨hF, _⟩ hQ => by
    have hT : s.TypeIs (.ref e) "filter" := ⟨_, hF.fil, rfl⟩
    refine wpAny_pyIter_slot hT slot_filter_iter (wpAny_call_entry slot_filter_iter hT entry_filter_iter ?_ (args_filter_iter_1 _))
    show wpAny _ _ (ret (.ref e)) _ _ s
    exact wpAny_pure ⟨_, rfl, "filter", _, hT, slot_filter_next.lookup, hQ⟩
end
section
variable {prog : Program} {w : World} {A : Around} {E : Value → Shared → Prop} {s : Shared} {R : Result → Shared → Prop}
variable {I : Addr} {fp wr : List Addr} {n : Nat} {P : Nat → Value → Prop} {St : Nat → Heap → Prop}
theorem extend_fil (W : Walks prog w A.in1 I fp wr n P St) (hT : ∀ i (s : Shared), St i s.heap → s.TypeIs (.ref I) "filter") (S : Addr) (res : Value) (c₀ : Nat) (hst : St 0 s.heap) (hSf : S ∉ fp) (hI : I ∈ fp)
    (hS : s.heap.get? S = some { cls := .type "list", data := .seq #[] c₀ })
    (hR : ∀ h' tk acc' c', (∀ b o, b ∉ S :: wr → s.heap.get? b = some o → h'.get? b = some o) → h'.get? S = some { cls := .type "list", dict := none, data := .seq acc' c', slots := #[] } → ItemsOf P acc' n → R (.ok (.ret res)) { s with heap := h', toks := tk }) (hn : n ≤ sizeLine) :
    wpAny (model prog w) A.in1 (Builtin.List.listExtendWith (.ref S) (.ref I) res)
      (fun fin s' => match fin with | .done f => R (.ok f) s' | .again c' => c'.quiet = true ∧ codeAny (model prog w) A c' R s') (fun e s' => R (.error e) s') s := by
  have hSI : S ≠ I := fun e => hSf (e ▸ hI)
  unfold Builtin.List.listExtendWith
  refine wpAny_bind (wpAny_typeOf (hT 0 _ hst) ?_)
  have h1 : Builtin.List.listSameRef (.ref S) (.ref I) = false := by simp [Builtin.List.listSameRef, hSI]
  have h2 : (Value.type "filter" == Value.type "list") = false := by decide
  have h3 : (Value.type "filter" == Value.type "tuple") = false := by decide
  simp only [h1, h2, h3, Bool.or_false, Bool.false_eq_true, if_false]
  refine wpAny_bind (W.self 0 _ _ _ hst ?_)
  refine wpAny_bind (wpAny_holding ?_)
  unfold Builtin.List.listLengthHint
  refine wpAny_bind (wpAny_specialOf (hT 0 _ hst) filter_no_len ?_)
  show wpAny _ A.in1 (specialOf (Value.ref I) (Str.ofString "__length_hint__") >>= _) _ _ _
  refine wpAny_bind (wpAny_specialOf (hT 0 _ hst) filter_no_hint ?_)
  refine wpAny_pure ?_
  show wpAny _ A.in1 (rule "list.extend.makes-room" >>= fun _ => Builtin.List.listTouch (.ref S) >>= fun _ =>
    again (.builtin "list.extend.loop" ⟨[.ref S, .ref I, res], []⟩)) _ _ _
  refine wpAny_bind (wpAny_rule ?_)
  refine wpAny_bind ?_
  show wpAny _ A.in1 (updateSeq S (·.push .none) >>= fun _ => updateSeq S (·.pop)) _ _ _
  refine wpAny_bind (wpAny_updateSeq hS rfl ?_)
  have hS₂ := Heap.get?_update_self (Obj.mapSeq (·.push Value.none)) hS rfl
  refine wpAny_updateSeq (hz := by seq_fits) hS₂ rfl ?_
  have hS₃ := Heap.get?_update_self (Obj.mapSeq (·.pop)) hS₂ rfl
  have oth : ∀ b o, b ≠ S → s.heap.get? b = some o → ((s.heap.update S (Obj.mapSeq (·.push Value.none))).update S (Obj.mapSeq (·.pop))).get? b = some o :=
    fun b o hb e => (Heap.get?_update_other _ _ (Ne.symm hb)).trans ((Heap.get?_update_other _ _ (Ne.symm hb)).trans e)
  refine wpAny_pure ⟨plainId_quiet PySem.F.plain_extend_loop _, codeAny_extend_loopS W.toS hn _ hSf _ n 0 _ _ _ rfl (Nat.zero_le _)
    (W.frame 0 _ _ hst fun b hb o e => oth b o (fun h => hSf (h ▸ hb)) e) hS₃ (ItemsOf.nil P) fun s' acc' c' hm hS' hacc => ?_⟩
  rw [Moved.eq_with hm]
  exact hR s'.heap s'.toks acc' c' (fun b o hb e => hm.heap b o hb (oth b o (fun q => hb (q ▸ List.mem_cons_self)) e)) hS' hacc
theorem init_fil (W : Walks prog w A.in1 I fp wr n P St) (hT : ∀ i (s : Shared), St i s.heap → s.TypeIs (.ref I) "filter") (S : Addr) (hst : St 0 s.heap) (hSf : S ∉ fp) (hI : I ∈ fp)
    (hS : s.heap.get? S = some { cls := .type "list", data := .seq #[] })
    (hR : ∀ h' tk acc' c', (∀ b o, b ∉ S :: wr → s.heap.get? b = some o → h'.get? b = some o) → h'.get? S = some { cls := .type "list", dict := none, data := .seq acc' c', slots := #[] } → ItemsOf P acc' n → R (.ok (.ret .none)) { s with heap := h', toks := tk }) (hn : n ≤ sizeLine) :
    wpAny (model prog w) A.in1 (Builtin.«list.__init__» ⟨[.ref S, .ref I], []⟩)
      (fun fin s' => match fin with | .done f => R (.ok f) s' | .again c' => c'.quiet = true ∧ codeAny (model prog w) A c' R s') (fun e s' => R (.error e) s') s := by
  show wpAny _ A.in1 (do let old ← Builtin.List.listItems (.ref S); Builtin.List.listUpdate (.ref S) (fun _ => #[]); letGo old.toList.reverse; Builtin.List.listExtendWith (.ref S) (.ref I) .none) _ _ s
  refine wpAny_bind ?_
  unfold Builtin.List.listItems
  refine wpAny_bind (wpAny_seqItems hS rfl (wpAny_pure ?_))
  show wpAny _ A.in1 (updateSeq S (fun _ => #[]) >>= fun _ => letGo (#[] : Array Value).toList.reverse >>= fun _ => Builtin.List.listExtendWith (.ref S) (.ref I) .none) _ _ s
  refine wpAny_bind (wpAny_updateSeq hS rfl ?_)
  have hS₂ := Heap.get?_update_self (Obj.mapSeq (fun _ => (#[] : Array Value))) hS rfl
  have oth : ∀ b o, b ≠ S → s.heap.get? b = some o → (s.heap.update S (Obj.mapSeq (fun _ => (#[] : Array Value)))).get? b = some o :=
    fun b o hb e => (Heap.get?_update_other _ _ (Ne.symm hb)).trans e
  refine wpAny_bind (wpAny_letGo ?_)
  refine extend_fil W hT S .none _ (W.frame 0 _ _ hst fun b hb o e => oth b o (fun h => hSf (h ▸ hb)) e) hSf hI hS₂ (fun h' tk acc' c' hm hS' hacc => ?_) hn
  exact hR h' tk acc' c' (fun b o hb e => hm b o hb (oth b o (fun q => hb (q ▸ List.mem_cons_self)) e)) hS' hacc
theorem list_fil {Q : Value → Shared → Prop} (W : Walks prog w A.in1.in1 I fp wr n P St) (hT : ∀ i (s : Shared), St i s.heap → s.TypeIs (.ref I) "filter") (hst : St 0 s.heap) (hfp : ∀ b ∈ fp, b < s.heap.objs.size) (hI : I ∈ fp) (hn : n ≤ sizeLine)
    (hQ : ∀ h' tk acc' c', (∀ b o, b ∉ wr → s.heap.get? b = some o → h'.get? b = some o) → h'.get? s.heap.objs.size = some { cls := .type "list", dict := none, data := .seq acc' c', slots := #[] } → ItemsOf P acc' n → Q (.ref s.heap.objs.size) { s with heap := h', toks := tk }) :
    wpAny (model prog w) A (call (.type "list") [.ref I]) Q E s := by
  have hSf : s.heap.objs.size ∉ fp := fun hm => Nat.lt_irrefl _ (hfp _ hm)
  refine callType_codes (Q₁ := fun obj s₁ => obj = .ref s.heap.objs.size ∧ s₁ = { s with heap := s.heap.push { cls := .type "list", data := .seq #[] } }) PySem.F.called_list (PySem.F.typeCall_list_1 _) PySem.F.entry_list_init
    (code_list_new _ ⟨rfl, rfl⟩) fun obj s₁ h₁ => ?_
  obtain ⟨rfl, rfl⟩ := h₁
  have hS : (s.heap.push { cls := .type "list", data := .seq #[] }).get? s.heap.objs.size = some { cls := .type "list", data := .seq #[] } := Heap.get?_push_size _ rfl
  refine ⟨⟨_, hS, rfl⟩, PySem.F.args_list_init_2 _ _, init_fil (A := A.in1) W hT _ (W.frame 0 _ _ hst fun b _ o e => Heap.get?_push_of_some _ e) hSf hI hS (fun h' tk acc' c' hm hS' hacc => ?_) hn⟩
  exact ⟨rfl, hQ h' tk acc' c' (fun b o hb e => hm b o (by
    rw [List.mem_cons]; rintro (q | q)
    · rw [q] at e; exact absurd (Heap.lt_size e) (Nat.lt_irrefl _)
    · exact hb q) (Heap.get?_push_of_some _ e)) hS' hacc⟩
theorem items_strs {ss : List Str} {acc : Array Value} (h : ItemsOf (fun i v => ∃ y t, ss[i]? = some y ∧ v = Value.str y t) acc ss.length) : StrsAre acc.toList ss := by
  obtain ⟨h1, h2⟩ := h
  have key : ∀ (vs : List Value) (ss : List Str), vs.length = ss.length → (∀ (j : Nat) (v : Value), vs[j]? = some v → ∃ y t, ss[j]? = some y ∧ v = Value.str y t) → StrsAre vs ss := by
    intro vs
    induction vs with
    | nil => intro ss hl _; rw [List.eq_nil_of_length_eq_zero hl.symm]; exact .nil
    | cons v r ih =>
      intro ss hl hh
      obtain ⟨y, t, e1, rfl⟩ := hh 0 v rfl
      cases ss with
      | nil => cases e1
      | cons y' r' =>
        obtain rfl : y' = y := Option.some.inj e1
        exact .cons _ _ (ih r' (Nat.succ.inj hl) fun j v hv => hh (j + 1) v hv)
  exact key _ _ (by rw [Array.length_toList]; exact h1) fun j v hv => h2 j v (by rw [← Array.getElem?_toList]; exact hv)
/-- list(filter(set.__contains__, l)) -/
theorem list_filter {l W D : Addr} {vs : Array Value} {n : Nat} {ss ss2 : List Str} {Q : Value → Shared → Prop} (hh : A.handled = none)
    (hl : s.heap.get? l = some (PySem.W.listOf vs n)) (hW : s.heap.get? W = some (bndSet D)) (hS : StrSet prog w s.heap D ss2) (hss : StrsAre vs.toList ss) (hn : ss.length ≤ 100000)
    (h : ∀ (h' : Heap) (tk : Nat) a acc c, (∀ b o, s.heap.get? b = some o → h'.get? b = some o) → s.heap.get? a = none → h'.get? a = some (PySem.W.listOf acc c) → StrsAre acc.toList (ss.filter fun y => decide (y ∈ ss2)) → Q (.ref a) { s with heap := h', toks := tk }) :
    wpAny (model prog w) A (call (.type "filter") [.ref W, .ref l] >>= fun v => call (.type "list") [v]) Q E s := by
  refine wpAny_bind (call_filter_2 hl fun h₁ hfil hit hz hk => ?_)
  have hlW : W < s.heap.objs.size := Heap.lt_size hW
  have hll : l < s.heap.objs.size := Heap.lt_size hl
  have hD : D < s.heap.objs.size := by obtain ⟨S, c, ⟨o, _, _, _, ho, _⟩, _⟩ := hS; exact Heap.lt_size ho
  have hne : s.heap.objs.size ∉ [s.heap.objs.size + 1, l, W, D] := by
    simp only [List.mem_cons, List.not_mem_nil, or_false, not_or]
    exact ⟨Nat.ne_of_lt (Nat.lt_succ_self _), Nat.ne_of_gt hll, Nat.ne_of_gt hlW, Nat.ne_of_gt hD⟩
  refine list_fil (Walks.filter (A := A.in1.in1) (by exact hh) hne hss) (fun i s ⟨hF, _⟩ => ⟨_, hF.fil, rfl⟩)
    ⟨⟨hfil, ⟨_, hk _ _ hl, rfl, _, rfl⟩, hk _ _ hW, hS.at fun o e => hk _ _ e⟩, 0, hit, Nat.zero_le _, rfl⟩ (fun b hb => ?_) (.head _) ?_ fun h' tk acc' c' hk' ha hacc => ?_
  · rw [hz]
    simp only [List.mem_cons, List.not_mem_nil, or_false] at hb
    rcases hb with q | q | q | q | q <;> rw [q]
    · exact Nat.lt_succ_self _
    · exact Nat.lt_succ_of_lt (Nat.lt_succ_self _)
    · exact Nat.lt_succ_of_lt (Nat.lt_succ_of_lt hll)
    · exact Nat.lt_succ_of_lt (Nat.lt_succ_of_lt hlW)
    · exact Nat.lt_succ_of_lt (Nat.lt_succ_of_lt hD)
  · have := List.length_filter_le (fun y => decide (y ∈ ss2)) ss
    rw [sizeLine_eq]; omega
  · refine h h' tk _ acc' c' (fun b o e => hk' b o ?_ (hk b o e)) ?_ ha (items_strs hacc)
    · intro q; rw [List.mem_singleton.mp q] at e; exact absurd (Heap.lt_size e) (Nat.lt_irrefl _)
    · show s.heap.get? h₁.objs.size = none
      cases hq : s.heap.get? h₁.objs.size with
      | none => rfl
      | some o => have := Heap.lt_size hq; rw [hz] at this; exact absurd (Nat.lt_trans (Nat.lt_succ_of_lt (Nat.lt_succ_self _)) this) (Nat.lt_irrefl _)
end
theorem part_off_13 : True := by w_top off; trivial
theorem c_told {prog : Program} {w : World} {mean mg mb} {A : Around} {s : Shared} {x dx : Addr} {t1 t2 t3 t4 : Tok} {n : Nat} {ag ru : Addr} {dv rv : Value}
    (h1 : s.heap.get? x = some (instObj 59 dx)) (h2 : s.heap.get? dx = some (dictOf (recD w.params t1 t2 t3 t4 (.ref ag) (.ref ru) dv rv) n)) (hdv : handedIn dv = true) (hrv : handedIn rv = true) (c : Cx w mean mg mb s.heap) (hA : Rm A (0+1)) :
    codeAny (model prog w) A (.call (.ref 232) ⟨[.ref x], []⟩) (Ret s fun v h' => ∃ a, v = .ref a ∧ s.heap.get? a = none ∧ h'.get? a = some (W.listOf #[.ref ag, .ref ru, dv, rv] 0)) s := by
  refine' enter_plain (binds := [(Str.ofString "record", .ref x)]) ?cc ?hA ?ho ?hcd ?hb ?hl ?_ ?c2 ?c3 ?c4 ?c5
  walk_at "m_enter"
  intro L h₁ dp fr gd un F N X T R
  walk_at "m_go"
  (with_reducible rename Fr _ _ _ _ => F)
  (with_reducible rename News _ _ _ _ => N)
  exact ⟨_, _, _, rfl, rfl, F.keep, _, rfl, (N _ (.head _)).2.2, N.get (.head _)⟩
theorem part_off_14 : True := by w_top off; trivial
section
variable {prog : Program} {w : World} {A : Around} {E : Value → Shared → Prop} {s : Shared} {h₀ : Heap} {L : Addr} {m : Str → Option Value} {news : List (Addr × Obj)} {Q : Value → Shared → Prop}
def SetO (prog : Program) (w : World) (D : Addr) (o : Obj) (ss : List Str) : Prop := ∀ h : Heap, h.get? D = some o → StrSet prog w h D ss
theorem set_led {l : Addr} {vs : Array Value} {n : Nat} {ss : List Str} (F : Fr h₀ L s.heap m) (N : News h₀ L s.heap news) (hh : A.handled = none) (hl : h₀.get? l = some (W.listOf vs n)) (hs : StrsAre vs.toList ss) (hb : ss.length + 1 < 4096)
    (k : ∀ D o h' tk, SetO prog w D o ss → Fr h₀ L h' m → News h₀ L h' ((D, o) :: news) → (∀ p ∈ news, p.1 < D) → Q (.ref D) { s with heap := h', toks := tk }) :
    wpAny (model prog w) A (call (.type "set") [.ref l]) Q E s := by
  refine set_strs hh ⟨_, F.keep _ _ hl, rfl, _, rfl⟩ hs hb fun h' tk hS hk => ?_
  obtain ⟨S, c, ⟨o, es, ep, t, ho, r⟩, h2, h3⟩ := hS
  have hnone : s.heap.get? s.heap.objs.size = none := by
    cases q : s.heap.get? s.heap.objs.size with
    | none => rfl
    | some o => exact absurd (Heap.lt_size q) (Nat.lt_irrefl _)
  exact k _ o h' tk (fun h e => ⟨S, c, ⟨o, es, ep, t, e, r⟩, h2, h3⟩) (F.keeps hk) (nadd F (N.keeps hk) hnone ho) fun p hp => Heap.lt_size (N p hp).1
theorem getAttr_led {D : Addr} {o : Obj} {ss : List Str} (F : Fr h₀ L s.heap m) (N : News h₀ L s.heap news) (hm : (D, o) ∈ news) (hS : SetO prog w D o ss)
    (k : ∀ W h' tk, Fr h₀ L h' m → News h₀ L h' ((W, bndSet D) :: news) → (∀ p ∈ news, p.1 < W) → Q (.ref W) { s with heap := h', toks := tk }) :
    wpAny (model prog w) A (getAttr (.ref D) (Str.ofString "__contains__") true) Q E s :=
  getAttr_contains (hS _ (N.get hm)) (k _ _ _ (F.push _) (News.push F N _) fun p hp => Heap.lt_size (N p hp).1)
theorem filter_led {l W : Addr} {vs : Array Value} {n : Nat} (F : Fr h₀ L s.heap m) (N : News h₀ L s.heap news) (hl : h₀.get? l = some (PySem.W.listOf vs n))
    (k : ∀ e it h', Fr h₀ L h' m → News h₀ L h' ((e, { cls := .type "filter", dict := none, data := .fields #[.ref W, .ref it], slots := #[] }) :: (it, { cls := .type "list_iterator", data := .fields #[.ref l, .int 0 0] }) :: news) → it < e → (∀ p ∈ news, p.1 < it) → Q (.ref e) { s with heap := h' }) :
    wpAny (model prog w) A (call (.type "filter") [.ref W, .ref l]) Q E s := by
  refine callType_new called_filter (by decide) (typeCall_filter_2 _ _) (newCall_filter_2 _ _) (fun obj => ?_) entry_filter_new
    (meets_filter_new (.ref W) l vs n) ⟨F.keep _ _ hl, ?_⟩
  · unfold argsOk; kernel_rfl
  have hz : (s.heap.push { cls := .type "list_iterator", data := .fields #[.ref l, .int 0 0] }).objs.size = s.heap.objs.size + 1 := Heap.size_push ..
  show _ ∧ _
  refine ⟨⟨_, Heap.get?_push_size _ rfl, rfl⟩, k _ _ _ ((F.push _).push _) (News.push (F.push _) (News.push F N _) _) ?_ fun p hp => Heap.lt_size (N p hp).1⟩
  rw [hz]; exact Nat.lt_succ_self _
theorem list_led {e it l W D : Addr} {o : Obj} {vs : Array Value} {n : Nat} {ss ss2 : List Str} (F : Fr h₀ L s.heap m)
    (N : News h₀ L s.heap ((e, { cls := .type "filter", dict := none, data := .fields #[.ref W, .ref it], slots := #[] }) :: (it, { cls := .type "list_iterator", data := .fields #[.ref l, .int 0 0] }) :: (W, bndSet D) :: (D, o) :: news))
    (hh : A.handled = none) (hl : h₀.get? l = some (PySem.W.listOf vs n)) (hS : SetO prog w D o ss2) (hss : StrsAre vs.toList ss) (hn : ss.length ≤ 100000)
    (l1 : it < e) (l2 : ∀ p ∈ (W, bndSet D) :: (D, o) :: news, p.1 < it)
    (k : ∀ a acc c h' tk, StrsAre acc.toList (ss.filter fun y => decide (y ∈ ss2)) → Fr h₀ L h' m → News h₀ L h' ((a, PySem.W.listOf acc c) :: news) → (∀ p ∈ news, p.1 < a) → Q (.ref a) { s with heap := h', toks := tk }) :
    wpAny (model prog w) A (call (.type "list") [.ref e]) Q E s := by
  have hE := N.get (.head _)
  have hI := N.get (.tail _ (.head _))
  have hW := N.get (.tail _ (.tail _ (.head _)))
  have hD := N.get (.tail _ (.tail _ (.tail _ (.head _))))
  have hll := F.keep _ _ hl
  have lI := (N _ (.tail _ (.head _))).2
  have hlI : l ≠ it := fun q => by have := lI.2; simp only at this; rw [← q, hl] at this; cases this
  have hne : it ∉ [e, l, W, D] := by
    simp only [List.mem_cons, List.not_mem_nil, or_false, not_or]
    exact ⟨Nat.ne_of_lt l1, hlI.symm, Nat.ne_of_gt (l2 _ (.head _)), Nat.ne_of_gt (l2 _ (.tail _ (.head _)))⟩
  refine list_fil (Walks.filter (A := A.in1.in1) (by exact hh) hne hss) (fun i s ⟨hF, _⟩ => ⟨_, hF.fil, rfl⟩)
    ⟨⟨hE, ⟨_, hll, rfl, _, rfl⟩, hW, hS _ hD⟩, 0, ⟨_, hI, rfl, rfl⟩, Nat.zero_le _, rfl⟩ (fun b hb => ?_) (.head _) ?_ fun h' tk acc' c' hk' ha hacc => ?_
  · simp only [List.mem_cons, List.not_mem_nil, or_false] at hb
    rcases hb with q | q | q | q | q <;> rw [q]
    · exact Heap.lt_size hE
    · exact Heap.lt_size hI
    · exact Heap.lt_size hll
    · exact Heap.lt_size hW
    · exact Heap.lt_size hD
  · have := List.length_filter_le (fun y => decide (y ∈ ss2)) ss
    rw [sizeLine_eq]; omega
  · have hk2 : ∀ b o, b ≠ it → s.heap.get? b = some o → h'.get? b = some o := fun b o hb ho => hk' b o (fun q => hb (List.mem_singleton.mp q)) ho
    have hnone : s.heap.get? s.heap.objs.size = none := by
      cases q : s.heap.get? s.heap.objs.size with
      | none => rfl
      | some o => exact absurd (Heap.lt_size q) (Nat.lt_irrefl _)
    have F' : Fr h₀ L h' m := ⟨F.ns.at' fun o ho => hk2 _ _ lI.1.symm ho, fun b o ho => hk2 _ _ (fun q => by rw [q] at ho; have := lI.2; simp only at this; rw [ho] at this; cases this) (F.keep _ _ ho), F.above⟩
    have N' : News h₀ L h' news := fun p hp => by
      have := N p (.tail _ (.tail _ (.tail _ (.tail _ hp))))
      exact ⟨hk2 _ _ (Nat.ne_of_lt (l2 p (.tail _ (.tail _ hp)))) this.1, this.2⟩
    exact k _ acc' c' h' tk (items_strs hacc) F' (nadd F N' hnone ha) fun p hp => Heap.lt_size (N p (.tail _ (.tail _ (.tail _ (.tail _ hp))))).1
end
local macro_rules | `(tactic| walk_at "call type:set") => `(tactic| (k_here; (with_reducible show wpAny _ _ (call (Value.type "set") [Value.ref _]) _ _ _); k_dflt (refine' set_led ?sF ?sN rfl ?s1 ?s2 ?s3 ?_; (case sF => k_asm); (case sN => k_asm); (case s1 => assumption); (case s2 => assumption); (case s3 => omega)); intro D' o' h' tk' hS' F' N' lD'; k_lt lD'))
local macro_rules | `(tactic| walk_at "getAttr ref") => `(tactic| (k_here; (with_reducible show wpAny _ _ (getAttr (Value.ref _) (Str.ofString "__contains__") true) _ _ _); k_dflt (refine' getAttr_led ?sF ?sN ?s1 ?s2 ?_; (case sF => k_asm); (case sN => k_asm); (case s1 => exact List.Mem.head _); (case s2 => assumption)); intro W' h' tk' F' N' lW'; k_lt lW'))
local macro_rules | `(tactic| walk_at "call type:filter") => `(tactic| (k_here; (with_reducible show wpAny _ _ (call (Value.type "filter") [Value.ref _, Value.ref _]) _ _ _); k_dflt (refine' filter_led ?sF ?sN ?s1 ?_; (case sF => k_asm); (case sN => k_asm); (case s1 => assumption)); intro e' it' h' F' N' lE' lI'))
local macro_rules | `(tactic| walk_at "call type:list") => `(tactic| (k_here; (with_reducible show wpAny _ _ (call (Value.type "list") [Value.ref _]) _ _ _); k_dflt (refine' list_led ?sF ?sN rfl ?s1 ?s2 ?s3 ?s4 ?s5 ?s6 ?_; (case sF => k_asm); (case sN => k_asm); (case s1 => assumption); (case s2 => assumption); (case s3 => assumption); (case s4 => omega); (case s5 => assumption); (case s6 => assumption)); intro a' acc' c' h' tk' hs' F' N' lA'; k_lt lA'; have hl' := StrsAre.length hs'))
theorem part_off_15 : True := by w_top off; trivial
def orO : Option Int → Option Int → Option Int
  | some i, _ => some i
  | none, o => o
def mergeR (a b : RowD) : RowD := ⟨a.ag.filter fun y => decide (y ∈ b.ag), a.ru ++ b.ru, orO b.dl a.dl, orO b.rt a.rt⟩
theorem add_base {prog : Program} {w : World} {A : Around} {E : Value → Shared → Prop} {s : Shared} {h₀ : Heap} {L : Addr} {m : Str → Option Value} {news : List (Addr × Obj)} {a b : Addr} {vs ws : Array Value} {n1 n2 : Nat} {ns ms : List Int} {Q : Value → Shared → Prop} (F : Fr h₀ L s.heap m) (N : News h₀ L s.heap news)
    (ha : h₀.get? a = some (W.listOf vs n1)) (hb : h₀.get? b = some (W.listOf ws n2)) (hv : IntsAre vs.toList ns) (hw : IntsAre ws.toList ms) (hz : ns.length + ms.length ≤ 100000)
    (h : ∀ D us h', IntsAre us (ns ++ ms) → Fr h₀ L h' m → News h₀ L h' ((D, lst us 0) :: news) → (∀ q ∈ news, q.1 < D) → Q (.ref D) { s with heap := h' }) : wpAny (model prog w) A (binaryOp .Add (.ref a) (.ref b)) Q E s := by
  refine add_lists_ints (vs := vs.toList) (ws := ws.toList) F N (by simpa using lstBase F ha) (by simpa using lstBase F hb) hv hw (hsz := by rw [sizeLine_eq]; omega) fun h' F' N' hi => h _ _ h' hi F' N' fun q hq => Heap.lt_size (N q hq).1
theorem is_opt {M : Model} {A : Around} {E : Value → Shared → Prop} {s : Shared} {Q : Value → Shared → Prop} {v : Value} {o : Option Int} (hv : OptIs v o) (h1 : v = .none → o = none → Q (.bool true) s) (h2 : ∀ i t, v = .int i t → o = some i → Q (.bool false) s) : wpAny M A (compareOp .Is v .none) Q E s := by
  cases o with
  | none => obtain rfl : v = .none := hv; exact is_none_none (h1 rfl rfl)
  | some i => obtain ⟨t, rfl⟩ := hv; exact is_int_none (h2 i t rfl rfl)
def Sup (h : Heap) (tl : List (Addr × Obj)) : Prop := ∀ p ∈ tl, h.get? p.1 = some p.2
def Fresh (h h' : Heap) (own : List (Addr × Obj)) : Prop := ∀ p ∈ own, h.get? p.1 = none ∧ h'.get? p.1 = some p.2
def RecBy (P : Params) (tl : List (Addr × Obj)) (x : Addr) (r : RowD) : Prop := ∀ h, Sup h tl → IsRec P h x r
theorem Sup.left {h : Heap} {a b : List (Addr × Obj)} (x : Sup h (a ++ b)) : Sup h a := fun p hp => x p (List.mem_append_left _ hp)
theorem Sup.right {h : Heap} {a b : List (Addr × Obj)} (x : Sup h (a ++ b)) : Sup h b := fun p hp => x p (List.mem_append_right _ hp)
theorem Sup.both {h : Heap} {a b : List (Addr × Obj)} (x : Sup h a) (y : Sup h b) : Sup h (a ++ b) := fun p hp => (List.mem_append.mp hp).elim (x p) (y p)
theorem Sup.base {h₀ h : Heap} {L : Addr} {m : Str → Option Value} {tl : List (Addr × Obj)} (F : Fr h₀ L h m) (x : Sup h₀ tl) : Sup h tl := fun p hp => F.keep _ _ (x p hp)
theorem Sup.news {h₀ h : Heap} {L : Addr} {a : List (Addr × Obj)} (N : News h₀ L h a) : Sup h a := fun p hp => (N p hp).1
theorem nadds {h₀ h h' : Heap} {L : Addr} {m : Str → Option Value} {own news : List (Addr × Obj)} (F : Fr h₀ L h m) (N : News h₀ L h' news) (x : Fresh h h' own) : News h₀ L h' (own ++ news) := fun p hp => by
  rcases List.mem_append.mp hp with hp | hp
  · obtain ⟨hn, ho⟩ := x p hp
    refine ⟨ho, fun e => ?_, ?_⟩
    · obtain ⟨oL, _, _, hL, _⟩ := F.ns
      rw [show p.1 = L from e, hL] at hn; cases hn
    · cases hq : h₀.get? p.1 with
      | none => rfl
      | some o' => rw [F.keep _ _ hq] at hn; cases hn
  · exact N p hp
theorem Fresh.of {h₀ h : Heap} {L : Addr} {a : List (Addr × Obj)} (N : News h₀ L h a) : Fresh h₀ h a := fun p hp => ⟨(N p hp).2.2, (N p hp).1⟩
local macro_rules | `(tactic| walk_at "binaryOp Add ref ref") => `(tactic| (k_here; k_dflt (refine' add_base ?bF ?bN ?b1 ?b2 ?b3 ?b4 ?b5 ?_; (case bF => k_asm); (case bN => k_asm); (case b1 => assumption); (case b2 => assumption); (case b3 => assumption); (case b4 => assumption); (case b5 => omega)); intro D' us' h' hi' F' N' lD'; k_lt lD'))
local macro_rules | `(tactic| walk_at "compareOp") => `(tactic| (k_here; (with_reducible show wpAny _ _ (compareOp CmpOp.Is _ Value.none) _ _ _); k_dflt (refine' is_opt ?io (fun e1 e2 => ?_) (fun i' t' e1 e2 => ?_); (case io => assumption)); (all_goals subst e1)))
theorem part_off_16 : True := by w_top off; trivial
theorem c_merge {prog : Program} {w : World} {mean mg mb} {A : Around} {s : Shared} {x1 x2 : Addr} {r1 r2 : RowD} (q1 : IsRec w.params s.heap x1 r1) (q2 : IsRec w.params s.heap x2 r2)
    (z1 : r1.ag.length ≤ 1000) (z2 : r2.ag.length ≤ 1000) (z3 : r1.ru.length ≤ 1000) (z4 : r2.ru.length ≤ 1000) (c : Cx w mean mg mb s.heap) (hA : Rm A (3+1)) :
    codeAny (model prog w) A (.call (.ref 70) ⟨[.ref x1, .ref x2], []⟩) (Ret s fun v h' => ∃ x own, v = .ref x ∧ Fresh s.heap h' own ∧ RecBy w.params own x (mergeR r1 r2)) s := by
  obtain ⟨dx1, a1, a2, a3, a4, n1, _, _, dv1, rv1, h1, h2, g1, u1, rfl, rfl, ⟨avs1, m1, h3, hs1⟩, ⟨rvs1, m2, h4, hi1⟩, hd1, ht1⟩ := q1
  obtain ⟨dx2, b1, b2, b3, b4, n2, _, _, dv2, rv2, k1, k2, g2, u2, rfl, rfl, ⟨avs2, m3, k3, hs2⟩, ⟨rvs2, m4, k4, hi2⟩, hd2, ht2⟩ := q2
  have y1 := hs1.length
  have y2 := hi1.length
  have y3 := hs2.length
  have y4 := hi2.length
  have hh1 := optHanded hd1
  have hh2 := optHanded ht1
  have hh3 := optHanded hd2
  have hh4 := optHanded ht2
  rw [Array.length_toList] at y1 y2 y3 y4
  refine' enter_plain (binds := [(Str.ofString "e1", .ref x1), (Str.ofString "e2", .ref x2)]) ?cc ?hA ?ho ?hcd ?hb ?hl ?_ ?c2 ?c3 ?c4 ?c5
  walk_at "m_enter"
  intro L h₁ dp fr gd un F N X T R
  walk_at "m_go"
  all_goals (with_reducible rename Fr _ _ _ _ => F)
  all_goals (with_reducible rename News _ _ _ _ => N)
  all_goals rename StrsAre _ (List.filter _ _) => hs
  all_goals rename IntsAre _ (_ ++ _) => hi
  all_goals rename r2.dl = _ => d1
  all_goals rename r2.rt = _ => d2
  all_goals refine ⟨_, _, _, rfl, rfl, F.keep, _, _, rfl, Fresh.of N, fun h hS => ⟨_, _, _, _, _, 4, _, _, _, _, hS _ (.tail _ (.tail _ (.head _))), hS _ (.tail _ (.tail _ (.tail _ (.head _)))), _, _, rfl, rfl, ⟨_, _, hS _ (.tail _ (.head _)), hs⟩, ⟨_, _, hS _ (.head _), hi⟩, ?_, ?_⟩⟩
  all_goals first | (show OptIs _ (orO r2.dl r1.dl); rw [d1]) | (show OptIs _ (orO r2.rt r1.rt); rw [d2])
  all_goals first | exact hd1 | exact ht1 | exact ⟨_, rfl⟩
local macro_rules | `(tactic| walk_at "call ref") => `(tactic| (k_here; (with_reducible show wpAny _ _ (call (Value.ref 70) [Value.ref _, Value.ref _]) _ _ _); refine' use_ret ?uF ?uN (c_merge ?q1 ?q2 ?z1 ?z2 ?z3 ?z4 ?uc ?ur) ?_; walk_at "m_cc"; (case q1 => assumption); (case q2 => assumption); (case z1 => assumption); (case z2 => assumption); (case z3 => assumption); (case z4 => assumption); intro v h' tk' F' N' kp' hv; obtain ⟨x', own', hv, hf', hr'⟩ := hv; subst hv; replace N' := nadds (by assumption) N' hf'; (try dsimp only); (try k_fold)))
theorem part_off_17 : True := by w_top off; trivial
def RowBy (_ : Params) (tl : List (Addr × Obj)) (x : Addr) (r : RowD) : Prop := ∀ h, Sup h tl → IsRow h x r
def TabBy (prog : Program) (w : World) (RB : Params → List (Addr × Obj) → Addr → RowD → Prop) (tl : List (Addr × Obj)) (d : Addr) (tbl : List (Str × RowD)) : Prop :=
  ∃ kvs ep, (∀ h, Sup h tl → h.DictAt (strKind prog w) d kvs ep) ∧ kvs.length = tbl.length ∧ ∀ (i : Nat) k r, tbl[i]? = some (k, r) → ∃ a, kvs[i]? = some (k, Value.ref a) ∧ RB w.params tl a r
section
variable {prog : Program} {w : World} {A : Around} {E : Value → Shared → Prop} {s : Shared} {RB : Params → List (Addr × Obj) → Addr → RowD → Prop} {tl : List (Addr × Obj)} {d : Addr} {tbl : List (Str × RowD)}
theorem tab_item {value slice : PySem.Expr} {k : Str} {t : Tok} {r : RowD} {Q : Value → Shared → Prop} (T : TabBy prog w RB tl d tbl) (hs : Sup s.heap tl) (hk : (k, r) ∈ tbl)
    (h : ∀ a, RB w.params tl a r → Q (.ref a) { s with toks := s.toks + 1 })
    (he : subscripted slice false (.ref d) (.str k t) = operate [.ref d, .str k t] (getItem (.ref d) (.str k t)) := by with_unfolding_all rfl) :
    wpAny (model prog w) A (subscriptTail value slice (.ref d) (.str k t)) Q E s := by
  obtain ⟨kvs, ep, hd, hl, hr⟩ := T
  obtain ⟨i, hi⟩ := List.mem_iff_getElem?.mp hk
  obtain ⟨a, ha, hb⟩ := hr i k r hi
  have hd := hd _ hs
  exact tail_any hd.dictOf.typeIs PySem.F.slot_dict_getitem.lookup (wpAny_getItem_of (knd := strKind prog w) (strKind_is _ _ _ _) hd.dictOf.mapOf (valueAt_of_get hd.nodup ha) (h a hb)) he
theorem tab_keys (T : TabBy prog w RB tl d tbl) : ∃ kvs ep, (∀ h, Sup h tl → h.DictAt (strKind prog w) d kvs ep) ∧ kvs.map (·.1) = tbl.map (·.1) := by
  obtain ⟨kvs, ep, hd, hl, hr⟩ := T
  refine ⟨kvs, ep, hd, List.ext_getElem? fun i => ?_⟩
  rw [List.getElem?_map, List.getElem?_map]
  cases hq : tbl[i]? with
  | none => rw [List.getElem?_eq_none (by rw [hl]; exact List.getElem?_eq_none_iff.mp hq)]; rfl
  | some p => obtain ⟨a, ha, _⟩ := hr i p.1 p.2 hq; rw [ha]; rfl
theorem valueAt_isSome {K : Type} [DecidableEq K] {kvs : List (K × Value)} {k : K} : (valueAt kvs k).isSome = decide (k ∈ kvs.map (·.1)) := by
  unfold valueAt
  induction kvs with
  | nil => rfl
  | cons p r ih =>
    rw [List.find?_cons]
    by_cases h : p.1 = k
    · simp [h]
    · have h' : ¬ k = p.1 := fun e => h e.symm
      simp [h, h', ih]
theorem tab_notin {k : Str} {t : Tok} {Q : Value → Shared → Prop} (T : TabBy prog w RB tl d tbl) (hs : Sup s.heap tl) (lo : (d == sysModules) = false) (hk : k ∈ tbl.map (·.1)) (h : Q (.bool false) { s with toks := s.toks + 1 }) :
    wpAny (model prog w) A (compareOp .NotIn (.str k t) (.ref d)) Q E s := by
  obtain ⟨kvs, ep, hd, hm⟩ := tab_keys T
  refine wpAny_notIn_of (knd := strKind prog w) (strKind_is _ _ _ _) lo (hd _ hs).dictOf.mapOf ?_
  rw [valueAt_isSome, hm, decide_eq_true hk]
  exact h
end
def plc (ns : List Str) : Str := slash ++ Txt.join slash ns
def wds : List Str := [Str.ofString "a", Str.ofString "b", Str.ofString "ab"]
def Ok (ns : List Str) : Prop := ns.length ≤ 4 ∧ ∀ y ∈ ns, y ∈ wds
theorem Ok.take {ns : List Str} (h : Ok ns) (j : Nat) : Ok (ns.take j) := ⟨Nat.le_trans (by rw [List.length_take]; exact Nat.min_le_right _ _) h.1, fun y hy => h.2 y (List.mem_of_mem_take hy)⟩
theorem Ok.dropLast {ns : List Str} (h : Ok ns) : Ok ns.dropLast := by rw [List.dropLast_eq_take]; exact h.take _
theorem Ok.len {ns : List Str} (h : Ok ns) : ∀ y ∈ ns, y.length ≤ 2 ∧ 0 < y.length := fun y hy => by
  have := h.2 y hy
  simp only [wds, List.mem_cons, List.not_mem_nil, or_false] at this
  rcases this with rfl | rfl | rfl <;> decide +kernel
def isNm (y : Str) : Bool := decide ((y.length : Int) ≠ 0) && (y != Str.ofString ".")
/-- all places of at most k names -/
def seqs : Nat → List (List Str)
  | 0 => [[]]
  | k + 1 => [] :: (seqs k).flatMap fun r => wds.map (· :: r)
theorem mem_seqs : ∀ (k : Nat) (ns : List Str), ns.length ≤ k → (∀ y ∈ ns, y ∈ wds) → ns ∈ seqs k
  | 0, [], _, _ => .head _
  | 0, _ :: _, h, _ => absurd h (Nat.not_succ_le_zero _)
  | k + 1, [], _, _ => .head _
  | k + 1, y :: r, h, w => by
    refine .tail _ (List.mem_flatMap.mpr ⟨r, mem_seqs k r (by simpa using h) fun z hz => w z (.tail _ hz), List.mem_map.mpr ⟨y, w y (.head _), rfl⟩⟩)
def plcOk (ns : List Str) : Bool := decide ((plc ns).length ≤ 1000) && (dirP (plc ns) == plc ns.dropLast) && PyData.strOk (plc ns) && ((Txt.split (plc ns) slash).filter isNm == ns) && Txt.startswith (plc ns) slash
theorem all_ok : (seqs 4).all plcOk = true := by decide +kernel
theorem plc_ok {ns : List Str} (h : Ok ns) : plcOk ns = true := List.all_eq_true.mp all_ok ns (mem_seqs 4 ns h.1 h.2)
theorem plc_facts {ns : List Str} (h : Ok ns) : (plc ns).length ≤ 1000 ∧ dirP (plc ns) = plc ns.dropLast ∧ PyData.strOk (plc ns) = true ∧ (Txt.split (plc ns) slash).filter isNm = ns ∧ Txt.startswith (plc ns) slash = true := by
  have := plc_ok h
  simp only [plcOk, Bool.and_eq_true, decide_eq_true_eq, beq_iff_eq] at this
  exact ⟨this.1.1.1.1, this.1.1.1.2, this.1.1.2, this.1.2, this.2⟩
theorem plc_len {ns : List Str} (h : Ok ns) : (plc ns).length ≤ 1000 := (plc_facts h).1
theorem dirP_plc {ns : List Str} (h : Ok ns) : dirP (plc ns) = plc ns.dropLast := (plc_facts h).2.1
theorem plc_names {ns : List Str} (h : Ok ns) : (Txt.split (plc ns) slash).filter isNm = ns := (plc_facts h).2.2.2.1
theorem plc_sw {ns : List Str} (h : Ok ns) : Txt.startswith (plc ns) slash = true := (plc_facts h).2.2.2.2
theorem plc_inj {a b : List Str} (ha : Ok a) (hb : Ok b) (h : plc a = plc b) : a = b := by rw [← plc_names ha, ← plc_names hb, h]
theorem plc_ne {ns : List Str} (h : Ok ns) (hne : ns ≠ []) : plc ns.dropLast ≠ plc ns := fun e => by
  have := congrArg List.length (plc_inj h.dropLast h e)
  rw [List.length_dropLast] at this
  have : 0 < ns.length := List.length_pos_iff.mpr hne
  omega
theorem plc_take {ns : List Str} (h : Ok ns) {a b : Nat} (ha : a ≤ ns.length) (hb : b ≤ ns.length) (e : plc (ns.take a) = plc (ns.take b)) : a = b := by
  have := congrArg List.length (plc_inj (h.take a) (h.take b) e)
  rw [List.length_take, List.length_take] at this
  omega
theorem plc_strOk {ns : List Str} (h : Ok ns) : PyData.strOk (plc ns) = true := (plc_facts h).2.2.1
theorem part_off_18 : True := by w_top off; trivial
theorem readsAll_ints {h : Heap} : ∀ {vs : List Value} {ns : List Int}, IntsAre vs ns → ReadsAll h vs (ns.map PyData.int) []
  | _, _, .nil => .nil
  | _, _, .cons k t r => by simpa using ReadsAll.cons (Reads.int (h := h) k t) (readsAll_ints (h := h) r)
theorem readsAll_strs {h : Heap} : ∀ {vs : List Value} {ss : List Str}, StrsAre vs ss → ReadsAll h vs (ss.map PyData.str) []
  | _, _, .nil => .nil
  | _, _, .cons k t r => by simpa using ReadsAll.cons (Reads.str (h := h) k t) (readsAll_strs (h := h) r)
def StrsOk (ss : List Str) : Prop := ∀ y ∈ ss, PyData.strOk y = true
theorem canLay_strs : ∀ {ss : List Str}, StrsOk ss → PyData.canLayAll0 (ss.map PyData.str) = true
  | [], _ => rfl
  | y :: r, h => by simp [PyData.canLayAll0, PyData.canLay0, canLay_strs (ss := r) fun z hz => h z (.tail _ hz), h y (.head _)]
theorem canLay_ints : ∀ ss : List Int, PyData.canLayAll0 (ss.map PyData.int) = true
  | [] => rfl
  | _ :: r => by simp [PyData.canLayAll0, PyData.canLay0, canLay_ints r]
theorem depth_strs : ∀ ss : List Str, PyData.depthAll (ss.map PyData.str) = 0
  | [] => rfl
  | _ :: r => by simp [PyData.depthAll, PyData.depth, depth_strs r]
theorem depth_ints : ∀ ss : List Int, PyData.depthAll (ss.map PyData.int) = 0
  | [] => rfl
  | _ :: r => by simp [PyData.depthAll, PyData.depth, depth_ints r]
theorem shaped_strs {ss : List Str} (hk : StrsOk ss) : SeqAt.shaped (.list (ss.map PyData.str)) = true := by
  simp [SeqAt.shaped, PyData.canLay0, PyData.depth, canLay_strs hk, depth_strs]
theorem ne_nil {prog : Program} {w : World} {A : Around} {E : Value → Shared → Prop} {s : Shared} {a b : Addr} {vs : Array Value} {ss : List Str} {Q : Value → Shared → Prop} (ha : s.heap.IsList a vs) (hb : s.heap.IsList b #[]) (hs : StrsAre vs.toList ss) (hk : StrsOk ss) (hu : A.units + 64 < cLine)
    (h : Q (.bool (!decide (ss = []))) s) : wpAny (model prog w) A (compareOp .NotEq (.ref a) (.ref b)) Q E s := by
  obtain ⟨o, ho, hc, n, hd⟩ := ha
  obtain ⟨o', ho', hc', n', hd'⟩ := hb
  refine ne_dataH (Reads.list ho hc hd (readsAll_strs hs)) (Reads.list ho' hc' hd' .nil) (shaped_strs hk) (shaped_strs (ss := []) fun _ h => nomatch h) hu ?_
  have e : PyData.eqv (.list (ss.map PyData.str)) (.list []) = decide (ss = []) := by
    cases ss with
    | nil => rfl
    | cons a r => simp [PyData.eqv, PyData.eqvAll]
  rw [e]; exact h
def optD : Option Int → PyData
  | none => .none
  | some i => .int i
def rowD (r : RowD) : PyData := .list [.list (r.ag.map .str), .list (r.ru.map .int), optD r.dl, optD r.rt]
theorem reads_opt {h : Heap} {v : Value} : ∀ {o : Option Int}, OptIs v o → Reads h v (optD o) []
  | none, e => by rw [show v = .none from e]; exact .none
  | some i, ⟨t, e⟩ => by rw [e]; exact .int i t
theorem optD_canLay : ∀ o : Option Int, (optD o).canLay0 = true
  | none => rfl
  | some _ => rfl
theorem optD_depth : ∀ o : Option Int, (optD o).depth = 0
  | none => rfl
  | some _ => rfl
theorem shaped_row {r : RowD} (hk : StrsOk r.ag) : SeqAt.shaped (rowD r) = true := by
  simp [SeqAt.shaped, rowD, PyData.canLay0, PyData.canLayAll0, PyData.depth, PyData.depthAll, canLay_strs hk, canLay_ints, depth_strs, depth_ints, optD_canLay, optD_depth]
theorem reads_parts {h : Heap} {a : Addr} {o : Obj} {ag ru dv rv : Value} {n : Nat} {r : RowD} (ho : h.get? a = some o) (hc : o.cls = .type "list") (hd : o.data = .seq #[ag, ru, dv, rv] n) (p : RowParts h ag ru dv rv r) : ∃ as, Reads h (.ref a) (rowD r) as := by
  obtain ⟨g, u, rfl, rfl, ⟨avs, k1, hg, h1⟩, ⟨rvs, k2, hu, h2⟩, h3, h4⟩ := p
  exact ⟨_, Reads.list ho hc hd (.cons (Reads.list hg rfl rfl (readsAll_strs h1)) (.cons (Reads.list hu rfl rfl (readsAll_ints h2)) (.cons (reads_opt h3) (.cons (reads_opt h4) .nil))))⟩
theorem eqv_strs : ∀ ss : List Str, PyData.eqvAll (ss.map PyData.str) (ss.map PyData.str) = true
  | [] => rfl
  | _ :: r => by simp [PyData.eqv, PyData.eqvAll, eqv_strs r]
theorem eqv_ints : ∀ ss : List Int, PyData.eqvAll (ss.map PyData.int) (ss.map PyData.int) = true
  | [] => rfl
  | _ :: r => by simp [PyData.eqv, PyData.eqvAll, eqv_ints r]
theorem eqv_opt : ∀ o : Option Int, PyData.eqv (optD o) (optD o) = true
  | none => rfl
  | some i => by simp [optD, PyData.eqv]
theorem eqv_row (r : RowD) : PyData.eqv (rowD r) (rowD r) = true := by
  simp [rowD, PyData.eqv, PyData.eqvAll, eqv_strs, eqv_ints, eqv_opt]
/-- two lists that hold the same row are not unequal -/
theorem ne_rows {prog : Program} {w : World} {A : Around} {E : Value → Shared → Prop} {s : Shared} {a b : Addr} {r : RowD} {Q : Value → Shared → Prop} (ha : IsRow s.heap a r) (hb : IsRow s.heap b r) (hk : StrsOk r.ag) (hu : A.units + 64 < cLine)
    (h : Q (.bool false) s) : wpAny (model prog w) A (compareOp .NotEq (.ref a) (.ref b)) Q E s := by
  obtain ⟨ag, ru, dv, rv, n, ho, p⟩ := ha
  obtain ⟨ag', ru', dv', rv', n', ho', p'⟩ := hb
  obtain ⟨as, ra⟩ := reads_parts ho rfl rfl p
  obtain ⟨bs, rb⟩ := reads_parts ho' rfl rfl p'
  refine ne_dataH ra rb (shaped_row hk) (shaped_row hk) hu ?_
  rw [eqv_row]; exact h
theorem Rm.cl {A : Around} {d : Nat} (h : Rm A d) : A.units + 64 < cLine := by have := h.units; show _ < 9900; omega
local macro_rules | `(tactic| walk_at "compareOp NotEq ref ref") => `(tactic| (k_here; (with_reducible show wpAny _ _ (compareOp CmpOp.NotEq (Value.ref _) (Value.ref _)) _ _ _); k_dflt (refine' ne_nil ?ka ?kb ?ks ?kk ?ku ?_; (case ka => exact News.isList (by k_asm) (by k_mem)); (case kb => exact News.isList (by k_asm) (by k_mem)); (case ks => assumption); (case kk => assumption); (case ku => exact Rm.cl (by assumption)))))
theorem part_off_19 : True := by w_top off; trivial
def downR (f : List Str → RowD) (ns : List Str) : RowD := ((List.range ns.length).map fun i => f (ns.take (i + 1))).foldl mergeR (f [])
def upTo (ns : List Str) (n : Nat) : List Str := (List.range n).map fun j => plc (ns.take (ns.length - j))
theorem upTo_succ (ns : List Str) (n : Nat) : upTo ns (n + 1) = upTo ns n ++ [plc (ns.take (ns.length - n))] := by
  unfold upTo; rw [List.range_succ, List.map_append]; rfl
theorem upTo_len (ns : List Str) (n : Nat) : (upTo ns n).length = n := by unfold upTo; simp
theorem take_drop1 (ns : List Str) (i : Nat) : (ns.take (ns.length - i)).dropLast = ns.take (ns.length - (i + 1)) := by
  rw [List.dropLast_eq_take, List.length_take, List.take_take, Nat.min_eq_left (Nat.sub_le _ _)]
  congr 1; omega
theorem strs_ne {vs : Array Value} {ss : List Str} (h : StrsAre vs.toList ss) (hne : ¬ ss = []) : vs.isEmpty = false := by
  rw [Array.isEmpty_eq_false_iff]; intro e; rw [e] at h; exact hne (List.eq_nil_of_length_eq_zero h.length.symm)
theorem downR_succ (f : List Str → RowD) {ns : List Str} {i : Nat} (hi : i < ns.length) : downR f (ns.take (i + 1)) = mergeR (downR f (ns.take i)) (f (ns.take (i + 1))) := by
  have e1 : (ns.take (i + 1)).length = i + 1 := by rw [List.length_take]; omega
  have e2 : (ns.take i).length = i := by rw [List.length_take]; omega
  unfold downR
  rw [e1, e2, List.range_succ, List.map_append, List.foldl_append]
  show mergeR _ (f ((ns.take (i + 1)).take (i + 1))) = _
  rw [List.take_take, Nat.min_self]
  congr 2
  refine List.map_congr_left fun j hj => ?_
  have := List.mem_range.mp hj
  rw [List.take_take, List.take_take, Nat.min_eq_left (by omega), Nat.min_eq_left (by omega)]
theorem downR_zero (f : List Str → RowD) (ns : List Str) : downR f (ns.take 0) = f [] := by
  rw [List.take_zero]; rfl
theorem downR_len {f : List Str → RowD} {ns : List Str} (hf : ∀ j ≤ ns.length, (f (ns.take j)).ag.length ≤ 100 ∧ (f (ns.take j)).ru.length ≤ 100) :
    ∀ i ≤ ns.length, (downR f (ns.take i)).ag.length ≤ 100 ∧ (downR f (ns.take i)).ru.length ≤ 100 * (i + 1)
  | 0, _ => by rw [downR_zero]; have := hf 0 (Nat.zero_le _); rw [List.take_zero] at this; exact ⟨this.1, by omega⟩
  | i + 1, hi => by
    have ih := downR_len hf i (by omega)
    have h2 := hf (i + 1) hi
    rw [downR_succ f (by omega)]
    refine ⟨Nat.le_trans (List.length_filter_le _ _) ih.1, ?_⟩
    show (_ ++ _ : List Int).length ≤ _
    rw [List.length_append]; omega
theorem plc_step {ns : List Str} (h : Ok ns) {i : Nat} (hi : i < ns.length) : plc (ns.take (ns.length - (i + 1))) ≠ plc (ns.take (ns.length - i)) := by
  rw [← take_drop1]
  refine plc_ne (h.take _) fun e => ?_
  have := congrArg List.length e
  rw [List.length_take, List.length_nil] at this
  omega
local macro_rules | `(tactic| walk_at "call ref") => `(tactic| (k_here; (with_reducible show wpAny _ _ (call (Value.ref 178) [Value.str (plc _) _]) _ _ _); refine' use_ret ?uF ?uN (c_dirname (plc_len ?ux) ?uc ?ur) ?_; walk_at "m_cc"; (case ux => assumption); intro v h' tk' F' N' kp' hv; obtain ⟨t', hv⟩ := hv; rw [dirP_plc (by assumption)] at hv; subst hv; clear kp'; (try dsimp only); (try k_fold)))
local macro_rules | `(tactic| walk_at "exec While Compare cons nil") => `(tactic| walk_at "m_st")
local macro_rules | `(tactic| walk_at "subscriptTail Name Call ref str") => `(tactic| walk_at "m_st")
def RecO (w : World) (s : Shared) (tl : List (Addr × Obj)) (r : RowD) : Value → Heap → Prop := fun v h' => ∃ x own, v = .ref x ∧ Fresh s.heap h' own ∧ RecBy w.params (own ++ tl) x r
def DnJ (ns : List Str) (d : Addr) (t : Tok) : Nat → (Str → Option Value) → List (Addr × Obj) → Prop := fun k m news => ∃ (p : Addr) (i : Nat) (t1 : Tok) (vs : Array Value) (n : Nat), k + i = ns.length ∧ StrsAre vs.toList (upTo ns (i + 1)) ∧
     Has m [(Str.ofString "above", .str (plc (ns.take (ns.length - (i + 1)))) t1), (Str.ofString "way", .ref p), (Str.ofString "records", .ref d), (Str.ofString "place", .str (plc ns) t)] ∧ news = [(p, W.listOf vs n)]
def DnJ2 (w : World) (tl : List (Addr × Obj)) (f : List Str → RowD) (ns : List Str) (d : Addr) : Nat → (Str → Option Value) → List (Addr × Obj) → Prop := fun k m news => ∃ (p : Addr) (i : Nat) (x : Addr) (own : List (Addr × Obj)) (vs : Array Value) (n : Nat), k + i = ns.length ∧ StrsAre vs.toList (upTo ns k) ∧
         Has m [(Str.ofString "merged", .ref x), (Str.ofString "way", .ref p), (Str.ofString "records", .ref d)] ∧ news = (p, W.listOf vs n) :: own ∧ (∀ q ∈ own, q.1 ≠ p) ∧ RecBy w.params (own ++ tl) x (downR f (ns.take i))
theorem c_down {prog : Program} {w : World} {mean mg mb} {A : Around} {s : Shared} {d : Addr} {tl : List (Addr × Obj)} {tbl : List (Str × RowD)} {ns : List Str} {t : Tok} {f : List Str → RowD}
    (TT : TabBy prog w RecBy tl d tbl) (hs : Sup s.heap tl) (hok : Ok ns) (ht : ∀ j ≤ ns.length, (plc (ns.take j), f (ns.take j)) ∈ tbl) (hz : ∀ p ∈ tbl, p.2.ag.length ≤ 100 ∧ p.2.ru.length ≤ 100) (c : Cx w mean mg mb s.heap) (hA : Rm A (4+1)) :
    codeAny (model prog w) A (.call (.ref 244) ⟨[.ref d, .str (plc ns) t], []⟩) (Ret s (RecO w s tl (downR f ns))) s := by
  refine' enter_plain (binds := [(Str.ofString "records", .ref d), (Str.ofString "place", .str (plc ns) t)]) ?cc ?hA ?ho ?hcd ?hb ?hl ?_ ?c2 ?c3 ?c4 ?c5
  walk_at "m_enter"
  intro L h₁ dp fr gd un F N X T R
  walk_at "m_go"
  (with_reducible rename Fr _ _ _ _ => F)
  (with_reducible rename News _ _ _ _ => N)
  try dsimp only at F N ⊢
  have hl8 := hok.1
  refine unstop (my_while (n := ns.length) (DnJ ns d t) F N ?_ ?_)
  · refine ⟨_, 0, ?tk, _, _, rfl, ?q1, ⟨?q2, rfl, rfl, rfl, trivial⟩, rfl⟩
    case q1 =>
      have e : upTo ns 1 = [plc ns] := by show [plc (ns.take (ns.length - 0))] = _; rw [Nat.sub_zero, List.take_length]
      rw [e]; exact .cons _ _ .nil
    case q2 =>
      have e : ns.take (ns.length - (0 + 1)) = ns.dropLast := (List.dropLast_eq_take).symm
      rw [e]; rfl
  · clear F N
    rintro k m _ h tk ⟨p, i, t1, vs, n, hk, hvs, hm, rfl⟩ F N
    replace F := frPut _ F hm
    have hl := hvs.length
    rw [Array.length_toList, upTo_len] at hl
    have hne : vs.isEmpty = false := by rw [Array.isEmpty_eq_false_iff]; intro e; rw [e] at hl; simp at hl
    have hok1 := hok.take (ns.length - (i + 1))
    walk_at "m_go"
    all_goals (with_reducible rename Fr _ _ _ _ => F)
    all_goals (with_reducible rename News _ _ _ _ => N)
    all_goals rename List.getLast? _ = some _ => hy
    all_goals (rw [upTo_succ, List.getLast?_concat] at hy; obtain rfl := Option.some.inj hy; clear hy)
    · rename (_ != _) = true => cc
      have hi : i < ns.length := by
        apply Nat.lt_of_not_le; intro hge
        have e1 : ns.length - (i + 1) = ns.length - i := by omega
        rw [e1] at cc
        exact absurd rfl (bne_iff_ne.mp cc)
      have e2 : (ns.take (ns.length - (i + 1))).dropLast = ns.take (ns.length - (i + 1 + 1)) := take_drop1 ns (i + 1)
      rw [e2] at F
      refine ⟨_, _, _, _, rfl, F, N, k - 1, by omega, p, i + 1, _, _, _, by omega, ?q1, ⟨rfl, rfl, rfl, rfl, trivial⟩, rfl⟩
      case q1 => rw [upTo_succ _ (i + 1), Array.toList_push]; exact hvs.append' (.cons _ _ .nil)
    · rename List.getLast? _ = some _ => hy
      rw [upTo_succ, List.getLast?_concat] at hy; obtain rfl := Option.some.inj hy
      rename (_ != _) = false => cc
      have hi : i = ns.length := by
        apply Nat.le_antisymm (by omega)
        apply Nat.le_of_not_lt; intro hlt
        exact plc_step hok hlt (bne_false_eq cc)
      subst hi
      rename StrsAre (List.dropLast _) _ => hd
      rw [upTo_succ, List.dropLast_concat] at hd
      rw [Nat.sub_self, List.take_zero]
      refine unstop (tab_item TT (Sup.base F hs) (by have := ht 0 (Nat.zero_le _); rwa [List.take_zero] at this) fun a ha => ?_)
      walk_at "m_go"
      (with_reducible rename Fr _ _ _ _ => F)
      (with_reducible rename News _ _ _ _ => N)
      try dsimp only at F N
      refine unstop (my_while (n := ns.length) (DnJ2 w tl f ns d) F N ?_ ?_)
      · refine ⟨p, 0, a, [], _, _, rfl, hd, ⟨rfl, rfl, rfl, trivial⟩, rfl, (fun _ h => nomatch h), ?_⟩
        rw [List.take_zero]; exact ha
      · clear F N
        rintro k m _ h tk ⟨p, i, x, own, vs, n, hk, hvs, hm, rfl, hoff, hx⟩ F N
        replace F := frPut _ F hm
        have hl := hvs.length
        rw [Array.length_toList, upTo_len] at hl
        have hks : StrsOk (upTo ns k) := fun y hy => by
          obtain ⟨j, _, rfl⟩ := List.mem_map.mp hy
          exact plc_strOk (hok.take _)
        walk_at "m_go"
        · rename upTo ns k = [] => e0
          have hk0 : k = 0 := by rw [← upTo_len ns k, e0]; rfl
          have hi : i = ns.length := by omega
          rw [hi, List.take_length] at hx
          (with_reducible rename Fr _ _ _ _ => F)
          (with_reducible rename News _ _ _ _ => N)
          exact ⟨_, _, _, rfl, rfl, F.keep, x, own, rfl, Fresh.of (fun q hq => N q (.tail _ (.tail _ hq))), hx⟩
        · rename ¬ upTo ns k = [] => e0
          obtain ⟨k, rfl⟩ : ∃ k', k = k' + 1 := ⟨k - 1, by have := e0; cases k with | zero => exact absurd rfl this | succ k => rfl⟩
          have hne := strs_ne hvs e0
          walk_at "m_go"
          (with_reducible rename Fr _ _ _ _ => F)
          (with_reducible rename News _ _ _ _ => N)
          rename List.getLast? _ = some _ => hy
          rename StrsAre (List.dropLast _) _ => hd
          rw [upTo_succ, List.getLast?_concat] at hy
          obtain rfl := Option.some.inj hy
          clear hy
          rw [upTo_succ, List.dropLast_concat] at hd
          have ei : ns.length - k = i + 1 := by omega
          rw [ei]
          have hil : i + 1 ≤ ns.length := by omega
          have hf : ∀ j ≤ ns.length, (f (ns.take j)).ag.length ≤ 100 ∧ (f (ns.take j)).ru.length ≤ 100 := fun j hj => hz _ (ht j hj)
          have g1 := downR_len hf i (by omega)
          have g2 := hf (i + 1) hil
          have z1 : (downR f (ns.take i)).ag.length ≤ 1000 := by omega
          have z2 : (f (ns.take (i + 1))).ag.length ≤ 1000 := by omega
          have z3 : (downR f (ns.take i)).ru.length ≤ 1000 := by omega
          have z4 : (f (ns.take (i + 1))).ru.length ≤ 1000 := by omega
          have q1 := hx _ (Sup.both (fun q hq => (N q (.tail _ (.tail _ hq))).1) (Sup.base F hs))
          refine unstop (tab_item TT (Sup.base F hs) (ht (i + 1) hil) fun a ha => ?_)
          have q2 := ha _ (Sup.base F hs)
          walk_at "m_go"
          (with_reducible rename Fr _ _ _ _ => F2)
          (with_reducible rename News _ _ _ _ => N2)
          rename Fresh _ _ _ => hfr
          rename RecBy _ _ _ (mergeR _ _) => hrb
          rw [← downR_succ f hil] at hrb
          refine ⟨_, _, _, (p, W.listOf vs.toList.dropLast.toArray (n + 1)) :: _, rfl, F2, ?w1, k, Nat.lt_succ_self _, p, i + 1, _, _, _, _, by omega, hd, ⟨rfl, rfl, rfl, trivial⟩, rfl, ?w2, fun h hS => hrb h (Sup.left hS)⟩
          case w1 =>
            intro q hq
            rcases List.mem_cons.mp hq with rfl | hq
            · exact N2 _ (List.mem_append_right _ (.tail _ (.head _)))
            · exact N2 _ (List.mem_append_left _ hq)
          case w2 =>
            intro q hq e
            have h1 := (hfr q hq).1
            have h2 := (N _ (.tail _ (.head _))).1
            rw [e] at h1
            exact absurd (h1.symm.trans h2) (fun x => nomatch x)
local macro_rules | `(tactic| walk_at "call ref") => `(tactic| (k_here; (with_reducible show wpAny _ _ (call (Value.ref 178) [Value.str (plc _) _]) _ _ _); refine' use_ret ?uF ?uN (c_dirname (plc_len ?ux) ?uc ?ur) ?_; walk_at "m_cc"; (case ux => assumption); intro v h' tk' F' N' kp' hv; obtain ⟨t', hv⟩ := hv; rw [dirP_plc (by assumption)] at hv; subst hv; clear kp'; (try dsimp only); (try k_fold)))
local macro_rules | `(tactic| walk_at "exec While Compare cons nil") => `(tactic| walk_at "m_st")
local macro_rules | `(tactic| walk_at "subscriptTail Name Call ref str") => `(tactic| walk_at "m_st")
theorem part_off_20 : True := by w_top off; trivial
def upR (f : List Str → RowD) (ns : List Str) : Nat → RowD
  | 0 => f ns
  | k + 1 => mergeR (f (ns.take (ns.length - (k + 1)))) (upR f ns k)
theorem upR_len {f : List Str → RowD} {ns : List Str} (hf : ∀ j ≤ ns.length, (f (ns.take j)).ag.length ≤ 100 ∧ (f (ns.take j)).ru.length ≤ 100) :
    ∀ k ≤ ns.length, (upR f ns k).ag.length ≤ 100 ∧ (upR f ns k).ru.length ≤ 100 * (k + 1)
  | 0, _ => by have := hf ns.length (Nat.le_refl _); rw [List.take_length] at this; exact ⟨this.1, by show (f ns).ru.length ≤ _; omega⟩
  | k + 1, hk => by
    have ih := upR_len hf k (by omega)
    have h2 := hf (ns.length - (k + 1)) (Nat.sub_le _ _)
    refine ⟨Nat.le_trans (List.length_filter_le _ _) h2.1, ?_⟩
    show (_ ++ _ : List Int).length ≤ _
    rw [List.length_append]; omega
theorem dirP_take {ns : List Str} {i : Nat} (hi : i ≤ ns.length) : (ns.take i).dropLast = ns.take (i - 1) := by
  rw [List.dropLast_eq_take, List.length_take, List.take_take]
  congr 1; omega
local macro_rules | `(tactic| walk_at "exec While BoolOp cons nil") => `(tactic| walk_at "m_st")
local macro_rules | `(tactic| walk_at "subscriptTail Name Name ref str") => `(tactic| walk_at "m_st")
def UpJ (w : World) (tl : List (Addr × Obj)) (f : List Str → RowD) (ns : List Str) (d : Addr) (c₀ : Nat) : Nat → (Str → Option Value) → List (Addr × Obj) → Prop := fun k m news => ∃ (x : Addr) (own : List (Addr × Obj)) (t1 t2 t3 : Tok), c₀ < k ∧ k ≤ ns.length ∧
     Has m [(Str.ofString "here", .str (plc (ns.take (k - 1))) t1), (Str.ofString "place", .str (plc (ns.take k)) t2), (Str.ofString "merged", .ref x), (Str.ofString "above", .str (plc (ns.take c₀)) t3), (Str.ofString "records", .ref d)] ∧ news = own ∧ RecBy w.params (own ++ tl) x (upR f ns (ns.length - k))
theorem c_up {prog : Program} {w : World} {mean mg mb} {A : Around} {s : Shared} {d : Addr} {tl : List (Addr × Obj)} {tbl : List (Str × RowD)} {ns : List Str} {t ta : Tok} {f : List Str → RowD} {c₀ : Nat}
    (TT : TabBy prog w RecBy tl d tbl) (hs : Sup s.heap tl) (hok : Ok ns) (hc₀ : c₀ < ns.length) (ht : ∀ j ≤ ns.length, (plc (ns.take j), f (ns.take j)) ∈ tbl) (hz : ∀ p ∈ tbl, p.2.ag.length ≤ 100 ∧ p.2.ru.length ≤ 100) (c : Cx w mean mg mb s.heap) (hA : Rm A (4+1)) :
    codeAny (model prog w) A (.call (.ref 251) ⟨[.ref d, .str (plc ns) t, .str (plc (ns.take c₀)) ta], []⟩) (Ret s (RecO w s tl (upR f ns (ns.length - 1 - c₀)))) s := by
  refine' enter_plain (binds := [(Str.ofString "records", .ref d), (Str.ofString "place", .str (plc ns) t), (Str.ofString "above", .str (plc (ns.take c₀)) ta)]) ?cc ?hA ?ho ?hcd ?hb ?hl ?_ ?c2 ?c3 ?c4 ?c5
  walk_at "m_enter"
  intro L h₁ dp fr gd un F N X T R
  have hl8 := hok.1
  walk_at "m_go"
  refine unstop (tab_item TT (Sup.base F hs) (by have := ht ns.length (Nat.le_refl _); rwa [List.take_length] at this) fun a ha => ?_)
  walk_at "m_go"
  (with_reducible rename Fr _ _ _ _ => F)
  (with_reducible rename News _ _ _ _ => N)
  refine unstop (my_while (n := ns.length) (UpJ w tl f ns d c₀) F N ?_ ?_)
  · refine ⟨a, [], ?t1, ?t2, ?t3, hc₀, Nat.le_refl _, ⟨?q2, ?q3, rfl, ?q4, rfl, trivial⟩, rfl, ?q1⟩
    case q1 => rw [Nat.sub_self]; exact ha
    case q2 => rw [← List.dropLast_eq_take]; rfl
    case q3 => rw [List.take_length]; rfl
    case q4 => rfl
  · clear F N
    rintro k m own h tk ⟨x, _, t1, t2, t3, hck, hk, hm, rfl, hx⟩ F N
    replace F := frPut _ F hm
    walk_at "m_go"
    · rename (plc (ns.take (k - 1)) != plc (ns.take c₀)) = true => cc
      have hck2 : c₀ < k - 1 := by
        have : k - 1 ≠ c₀ := fun e => by rw [e] at cc; exact absurd rfl (bne_iff_ne.mp cc)
        omega
      have hok1 := hok.take (k - 1)
      have hf : ∀ j ≤ ns.length, (f (ns.take j)).ag.length ≤ 100 ∧ (f (ns.take j)).ru.length ≤ 100 := fun j hj => hz _ (ht j hj)
      have g1 := upR_len hf (ns.length - k) (by omega)
      have g2 := hf (k - 1) (by omega)
      have z1 : (f (ns.take (k - 1))).ag.length ≤ 1000 := by omega
      have z2 : (upR f ns (ns.length - k)).ag.length ≤ 1000 := by omega
      have z3 : (f (ns.take (k - 1))).ru.length ≤ 1000 := by omega
      have z4 : (upR f ns (ns.length - k)).ru.length ≤ 1000 := by omega
      have q2 := hx _ (Sup.both (fun q hq => (N q hq).1) (Sup.base F hs))
      refine unstop (tab_item TT (Sup.base F hs) (ht (k - 1) (by omega)) fun a ha => ?_)
      have q1 := ha _ (Sup.base F hs)
      walk_at "m_go"
      (with_reducible rename Fr _ _ _ _ => F2)
      (with_reducible rename News _ _ _ _ => N2)
      rename RecBy _ _ _ (mergeR _ _) => hrb
      rw [dirP_take (by omega)] at F2
      have eu : upR f ns (ns.length - (k - 1)) = mergeR (f (ns.take (k - 1))) (upR f ns (ns.length - k)) := by
        have e1 : ns.length - (k - 1) = ns.length - k + 1 := by omega
        rw [e1]
        show mergeR (f (ns.take (ns.length - (ns.length - k + 1)))) _ = _
        have e2 : ns.length - (ns.length - k + 1) = k - 1 := by omega
        rw [e2]
      rw [← eu] at hrb
      exact ⟨_, _, _, _, rfl, F2, (fun q hq => N2 q (List.mem_append_left _ hq)), k - 1, by omega, _, _, _, _, _, hck2, by omega, ⟨rfl, rfl, rfl, rfl, rfl, trivial⟩, rfl, fun h hS => hrb h (Sup.left hS)⟩
    · rename (plc (ns.take (k - 1)) != plc (ns.take k)) = false => cc
      have := plc_take hok (by omega) hk (bne_false_eq cc)
      omega
    · rename (plc (ns.take (k - 1)) != plc (ns.take c₀)) = false => cc
      have := plc_take hok (by omega) (by omega) (bne_false_eq cc)
      have e : ns.length - k = ns.length - 1 - c₀ := by omega
      rw [e] at hx
      (with_reducible rename Fr _ _ _ _ => F2)
      exact ⟨_, _, _, rfl, rfl, F2.keep, x, own, rfl, Fresh.of (fun q hq => N q hq), hx⟩
theorem part_off_21 : True := by w_top off; trivial
theorem mro_map : mroOf (.type "map") = pure [.type "map", .type "object"] := by rw [mroOf_type]; kernel_rfl
theorem lookup_map_new : typeLookup (.type "map") "__new__" = pure (some (.builtin "map.__new__")) := by rw [typeLookup_type, builtinLookup_eq_fast]; kernel_rfl
theorem slot_map_init : Slot "map" "__init__" "object.__init__" :=
  .of (owner := "object") (n := "__init__") (by rw [typeLookup_type, builtinLookup_eq_fast]; kernel_rfl) (by decide +kernel) (by decide +kernel) (by decide +kernel)
    (by first | exact .inl (by decide +kernel) | exact .inr (by decide +kernel)) (by rw [isSubtype_type]; kernel_rfl)
theorem slot_map_next : Slot "map" "__next__" "map.__next__" :=
  .of (owner := "map") (n := "__next__") (by rw [typeLookup_type, builtinLookup_eq_fast]; kernel_rfl) (by decide +kernel) (by decide +kernel) (by decide +kernel)
    (by first | exact .inl (by decide +kernel) | exact .inr (by decide +kernel)) (by rw [isSubtype_type]; kernel_rfl)
theorem slot_map_iter : Slot "map" "__iter__" "map.__iter__" :=
  .of (owner := "map") (n := "__iter__") (by rw [typeLookup_type, builtinLookup_eq_fast]; kernel_rfl) (by decide +kernel) (by decide +kernel) (by decide +kernel)
    (by first | exact .inl (by decide +kernel) | exact .inr (by decide +kernel)) (by rw [isSubtype_type]; kernel_rfl)
theorem called_map : TypeCalled "map" "map.__new__" "object.__init__" :=
  ⟨by decide +kernel, by decide +kernel, ⟨_, _, mro_map⟩, madeBy_type mro_map lookup_map_new (by decide +kernel), by decide +kernel, by rw [isSubtype_type]; kernel_rfl, slot_map_init⟩
theorem sub_map : isSubtype (.type "map") (.type "map") = pure true := by rw [isSubtype_type]; kernel_rfl
theorem typeCall_map_2 (a b : Value) : checkTypeCall "map" ⟨[a, b], []⟩ = pure () := by kernel_rfl
theorem newCall_map_2 (a b : Value) : checkBuiltinCall "map.__new__" ⟨[.type "map", a, b], []⟩ = pure () := by kernel_rfl
theorem entry_map_new : entryFor table "map.__new__" = some Builtin.«map.__new__» := entryFor_of_tree (by kernel_rfl)
theorem entry_map_next : entryFor table "map.__next__" = some Builtin.«map.__next__» := entryFor_of_tree (by kernel_rfl)
theorem entry_map_iter : entryFor table "map.__iter__" = some Builtin.«dict_keyiterator.__iter__» :=
  entryFor_alias (id' := "dict_keyiterator.__iter__") (by kernel_rfl) (by first | rfl | decide +kernel | (unfold String.splitOn; simp +decide [String.splitOnAux])) (by decide +kernel) (by kernel_rfl)
theorem owner_map : Manifest.owners.lookup (String.ofList ['p', 'a', 'm'].reverse) = some Manifest.sig_map := by kernel_rfl
theorem args_map_next_1 (a : Value) : argsOk "map.__next__" ⟨[a], []⟩ := by
  unfold argsOk; rw [signature?_of (id := "map.__next__") (n := ['_', '_', 't', 'x', 'e', 'n', '_', '_']) (o := ['p', 'a', 'm']) (by kernel_rfl) owner_map]; kernel_rfl
theorem args_map_iter_1 (a : Value) : argsOk "map.__iter__" ⟨[a], []⟩ := by
  unfold argsOk; rw [signature?_of (id := "map.__iter__") (n := ['_', '_', 'r', 'e', 't', 'i', '_', '_']) (o := ['p', 'a', 'm']) (by kernel_rfl) owner_map]; kernel_rfl
theorem map_no_len : typeLookup (.type "map") "__len__" = pure none := by rw [typeLookup_type, builtinLookup_eq_fast]; kernel_rfl
theorem map_no_hint : typeLookup (.type "map") "__length_hint__" = pure none := by rw [typeLookup_type, builtinLookup_eq_fast]; kernel_rfl
open AutoSeq1 (wpAny_loadPart')
abbrev tupV (vs : Array Value) : Obj := { cls := .type "tuple", data := .seq vs }
abbrev mapO (T : Addr) (f : Value) : Obj := { cls := .type "map", data := .fields #[Value.ref T, f] }
theorem meets_map_new (f : Value) (l : Addr) (items : Array Value) (n : Nat) :
    Meets (Builtin.«map.__new__» ⟨[.type "map", f, .ref l], []⟩) (fun _ R s => s.heap.get? l = some { cls := .type "list", dict := none, data := .seq items n, slots := #[] } ∧
      R (.ok (.ret (.ref ((s.heap.push { cls := .type "list_iterator", data := .fields #[.ref l, .int 0 0] }).push (tupV #[Value.ref s.heap.objs.size])).objs.size)))
        { s with heap := ((s.heap.push { cls := .type "list_iterator", data := .fields #[.ref l, .int 0 0] }).push (tupV #[Value.ref s.heap.objs.size])).push (mapO (s.heap.push { cls := .type "list_iterator", data := .fields #[.ref l, .int 0 0] }).objs.size f) }) :=
  .of_wp fun prog w A R s h => by
    obtain ⟨hp, g, d, tk, os⟩ := s; obtain ⟨hl, h⟩ := h
    have hsub := sub_map
    have hL : Heap.IsList (Shared.heap ⟨hp, g, d, tk, os⟩) l items := ⟨_, hl, rfl, n, rfl⟩
    wp_walk using wpAny_loadPart' hl, wpAny_pyIter_list hL
    all_goals exact ⟨_, rfl, h⟩
section
variable {prog : Program} {w : World} {A : Around} {E : Value → Shared → Prop} {s : Shared}
/-- map(fspath, l), amid its walk; hb: the heap before it was made -/
structure MapSt (hb h : Heap) (m T it l : Addr) (i : Nat) : Prop where
  old : ∀ b o, hb.get? b = some o → h.get? b = some o
  map : h.get? m = some (mapO T (.ref 143))
  tup : h.get? T = some (tupV #[.ref it])
  itr : h.IsListIter it l i
theorem map_next_tree {mean : ExcName → Option Value} {mg mb : Str → Option Value} {hb : Heap} {m T it l : Addr} {vs : Array Value} {n i : Nat} {R : Result → Shared → Prop} {ss : List Str} (c : Cx w mean mg mb hb) (hR : Rm A 2) (hl : hb.get? l = some (PySem.W.listOf vs n)) (hss : StrsAre vs.toList ss) (hm : MapSt hb s.heap m T it l i) (hne : hb.get? it = none) (hmi : m ≠ it) (hTi : T ≠ it)
    (hitem : ∀ v, vs[i]? = some v → ∀ h' tk, MapSt hb h' m T it l (i + 1) → (∀ b o, b ≠ it → s.heap.get? b = some o → h'.get? b = some o) → R (.ok (.ret v)) { s with heap := h', toks := tk })
    (hend : vs[i]? = none → ∀ h' x tk, (∀ b o, b ≠ it → s.heap.get? b = some o → h'.get? b = some o) → (∃ o, h'.get? x = some o ∧ o.cls = .type "StopIteration") → R (.error (.ref x)) { s with heap := h', toks := tk }) :
    wpAny (model prog w) A.in1 (Builtin.«map.__next__» ⟨[.ref m], []⟩) (fun fin s' => match fin with | .done f => R (.ok f) s' | .again c' => c'.quiet = true ∧ codeAny (model prog w) A c' R s') (fun x s' => R (.error x) s') s := by
  have hlst : s.heap.IsList l vs := ⟨_, hm.old _ _ hl, rfl, _, rfl⟩
  show wpAny _ _ (field (.ref m) 0 >>= _) _ _ s
  refine wpAny_bind (wpAny_field hm.map rfl (x := .ref T) rfl ?_)
  show wpAny _ _ (seqItems? (.ref T) >>= _) _ _ s
  refine wpAny_bind (wpAny_seqItems hm.tup rfl ?_)
  dsimp only
  rw [← Array.forIn_toList]
  simp only [List.forIn_cons, List.forIn_nil, bind_assoc, pure_bind]
  cases hq : vs[i]? with
  | none =>
    refine wpAny_bind (wpAny_holding (wpAny_nextOf_list_end (A := A.in1) hR.handled hm.itr hlst hq fun h' x hx ho => ?_))
    exact hend hq h' x _ (fun b o hb e => hx b o hb e) ho
  | some v =>
    refine wpAny_bind (wpAny_holding (wpAny_nextOf_list_item hm.itr hlst hq fun h' hit hsb => ?_))
    have hm' : h'.get? m = some (mapO T (.ref 143)) := hsb.extBut m _ hmi hm.map
    refine wpAny_bind (wpAny_field (s := { s with heap := h' }) hm' rfl (x := .ref 143) rfl ?_)
    obtain ⟨y, t, rfl, hy⟩ := hss.item i v (by simpa using hq)
    have hold : ∀ b o, hb.get? b = some o → h'.get? b = some o := fun b o e => hsb.extBut b o (fun q => by rw [q, hne] at e; cases e) (hm.old b o e)
    refine wpAny_bind (wpAny_holding ?_)
    refine wpAny_call (codeAny_mono (c_fspath (s := { s with heap := h' }) (c.keeps hold) hR.in1) fun r s' hr => ?_)
    obtain ⟨v', h2, tk2, rfl, rfl, kp, rfl⟩ := hr
    refine wpAny_bind (wpAny_letGo ?_)
    refine wpAny_pure (hitem _ hq h2 tk2 ⟨fun b o e => kp _ _ (hold b o e), kp _ _ hm', kp _ _ (hsb.extBut T _ hTi hm.tup), ?_⟩ fun b o hb e => kp _ _ (hsb.extBut b o hb e))
    obtain ⟨o, ho, hr⟩ := hit
    exact ⟨o, kp _ _ ho, hr⟩
theorem map_call {mean : ExcName → Option Value} {mg mb : Str → Option Value} {hb : Heap} {m T it l : Addr} {vs : Array Value} {n i : Nat} {R : Result → Shared → Prop} {ss : List Str} (c : Cx w mean mg mb hb) (hR : Rm A 2) (hl : hb.get? l = some (PySem.W.listOf vs n)) (hss : StrsAre vs.toList ss) (hm : MapSt hb s.heap m T it l i) (hne : hb.get? it = none) (hmi : m ≠ it) (hTi : T ≠ it)
    (hitem : ∀ v, vs[i]? = some v → ∀ h' tk, MapSt hb h' m T it l (i + 1) → (∀ b o, b ≠ it → s.heap.get? b = some o → h'.get? b = some o) → R (.ok (.ret v)) { s with heap := h', toks := tk })
    (hend : vs[i]? = none → ∀ h' x tk, (∀ b o, b ≠ it → s.heap.get? b = some o → h'.get? b = some o) → (∃ o, h'.get? x = some o ∧ o.cls = .type "StopIteration") → R (.error (.ref x)) { s with heap := h', toks := tk }) :
    codeAny (model prog w) A (.call (.builtin "map.__next__") ⟨[.ref m], []⟩) R s := by
  have hT : s.TypeIs (.ref m) "map" := ⟨_, hm.map, rfl⟩
  exact codeAny_call_builtin slot_map_next.plain entry_map_next (slot_map_next.check _ _ _ _ _ _ _ _ hT (args_map_next_1 _) (map_next_tree c hR hl hss hm hne hmi hTi hitem hend))
theorem Walks.map {mean : ExcName → Option Value} {mg mb : Str → Option Value} {hb : Heap} {m T it l : Addr} {vs : Array Value} {n : Nat} {ss : List Str} (c : Cx w mean mg mb hb) (hR : Rm A 2) (hl : hb.get? l = some (PySem.W.listOf vs n)) (hss : StrsAre vs.toList ss) (hne : hb.get? it = none) (hmi : m ≠ it) (hTi : T ≠ it) :
    Walks prog w A m (m :: T :: it :: List.range hb.objs.size) [it] vs.size (fun i v => vs[i]? = some v) (fun i h => MapSt hb h m T it l i) where
  sub := fun b hb => by rw [List.mem_singleton.mp hb]; simp
  frame := fun i h h' hm hk => ⟨fun b o e => hk b (by simp only [List.mem_cons, List.mem_range]; exact .inr (.inr (.inr (Heap.lt_size e)))) o (hm.old b o e), hk _ (by simp) _ hm.map, hk _ (by simp) _ hm.tup, ⟨_, hk it (by simp) _ hm.itr.choose_spec.1, hm.itr.choose_spec.2⟩⟩
  item := fun i s Q E hi hm hQ => by
    have hT : s.TypeIs (.ref m) "map" := ⟨_, hm.map, rfl⟩
    unfold pyNext
    refine wpAny_bind (wpAny_attempt (wpAny_callSpecial?_slot (name := Str.ofString "__next__") hT slot_map_next (wpAny_call (map_call c hR hl hss hm hne hmi hTi (fun v hv h' tk hm' k' => ?_) fun hy => ?_))))
    · exact wpAny_pure (hQ _ _ _ hv hm' fun b o hb e => k' b o (fun q => hb (List.mem_singleton.mpr q)) e)
    · rw [Array.getElem?_eq_getElem hi] at hy; cases hy
  done := fun s Q E hm hQ => by
    have hT : s.TypeIs (.ref m) "map" := ⟨_, hm.map, rfl⟩
    unfold pyNext
    refine wpAny_bind (wpAny_attempt (wpAny_callSpecial?_slot (name := Str.ofString "__next__") hT slot_map_next (wpAny_call (map_call c hR hl hss hm hne hmi hTi (fun v hv => ?_) fun hy h' x tk k' hx => ?_))))
    · rw [Array.getElem?_eq_none (Nat.le_refl _)] at hv; cases hv
    · obtain ⟨o, ho, hc⟩ := hx
      refine wpAny_bind (wpAny_isInstance (T := "StopIteration") (b := true) ⟨o, ho, hc⟩ isSubtype_stop ?_)
      exact wpAny_pure (hQ _ _ fun b o hb e => k' b o (fun q => hb (List.mem_singleton.mpr q)) e)
  self := fun i s Q E hm hQ => by
    have hT : s.TypeIs (.ref m) "map" := ⟨_, hm.map, rfl⟩
    refine wpAny_pyIter_slot hT slot_map_iter (wpAny_call_entry slot_map_iter hT entry_map_iter ?_ (args_map_iter_1 _))
    show wpAny _ _ (ret (.ref m)) _ _ s
    exact wpAny_pure ⟨_, rfl, "map", _, hT, slot_map_next.lookup, hQ⟩
end
section
variable {prog : Program} {w : World} {A : Around} {E : Value → Shared → Prop} {s : Shared} {I : Addr} {fp wr : List Addr} {G : Array GenState → Array GenState → Prop} {n : Nat} {P : Nat → Value → Prop} {St : Nat → Shared → Prop}
theorem collect_map {Q : List Value → Shared → Prop} (W : WalksS prog w A.in1 I fp wr G n P St) (hT : ∀ i s, St i s → s.TypeIs (.ref I) "map") (hst : St 0 s) (hfp : ∀ b ∈ fp, b < s.heap.objs.size) (hI : I ∈ fp)
    (hQ : ∀ s' acc, Moved wr G s s' → ItemsOf P acc n → Q acc.toList s') (hn : n ≤ sizeLine) : wpAny (model prog w) A (collect (.ref I)) Q E s := by
  have hSf : s.heap.objs.size ∉ fp := fun hm => Nat.lt_irrefl _ (hfp _ hm)
  have hSI : s.heap.objs.size ≠ I := fun e => hSf (e ▸ hI)
  unfold collect
  refine wpAny_bind (wpAny_runValue (codeAny_builtin PySem.F.entry_proto_collect ?_))
  rw [Around.under_plainId PySem.F.plain_proto_collect _]
  show wpAny _ A.in1 (newList [] >>= fun l => again (.builtin "list.__iadd__" ⟨[l, .ref I], []⟩)) _ _ s
  refine wpAny_bind (wpAny_newObj_type ?_)
  refine wpAny_pure ⟨plainId_quiet PySem.F.plain_list_iadd _, codeAny_builtin PySem.F.entry_list_iadd ?_⟩
  rw [Around.under_plainId PySem.F.plain_list_iadd _]
  have hst₁ := W.frame 0 s (s.heap.push { cls := .type "list", data := .seq ([] : List Value).toArray }) s.toks hst (Nat.le_refl _) fun b _ o e => Heap.get?_push_of_some _ e
  show wpAny _ A.in1 (Builtin.List.listExtendWith (.ref s.heap.objs.size) (.ref I) (.ref s.heap.objs.size)) _ _ _
  unfold Builtin.List.listExtendWith
  refine wpAny_bind (wpAny_typeOf (hT 0 _ hst₁) ?_)
  have h1 : Builtin.List.listSameRef (.ref s.heap.objs.size) (.ref I) = false := by simp [Builtin.List.listSameRef, hSI]
  have h2 : (Value.type "map" == Value.type "list") = false := by decide
  have h3 : (Value.type "map" == Value.type "tuple") = false := by decide
  simp only [h1, h2, h3, Bool.or_false, Bool.false_eq_true, if_false]
  refine wpAny_bind (W.self 0 _ _ _ hst₁ ?_)
  refine wpAny_bind (wpAny_holding ?_)
  unfold Builtin.List.listLengthHint
  refine wpAny_bind (wpAny_specialOf (hT 0 _ hst₁) map_no_len ?_)
  show wpAny _ A.in1 (specialOf (Value.ref I) (Str.ofString "__length_hint__") >>= _) _ _ _
  refine wpAny_bind (wpAny_specialOf (hT 0 _ hst₁) map_no_hint ?_)
  refine wpAny_pure ?_
  show wpAny _ A.in1 (rule "list.extend.makes-room" >>= fun _ => Builtin.List.listTouch (.ref s.heap.objs.size) >>= fun _ =>
    again (.builtin "list.extend.loop" ⟨[.ref s.heap.objs.size, .ref I, .ref s.heap.objs.size], []⟩)) _ _ _
  refine wpAny_bind (wpAny_rule ?_)
  have hS₁ : (s.heap.push { cls := .type "list", data := .seq ([] : List Value).toArray }).get? s.heap.objs.size = some { cls := .type "list", data := .seq ([] : List Value).toArray } := Heap.get?_push_size _ rfl
  refine wpAny_bind ?_
  show wpAny _ A.in1 (updateSeq s.heap.objs.size (·.push .none) >>= fun _ => updateSeq s.heap.objs.size (·.pop)) _ _ _
  refine wpAny_bind (wpAny_updateSeq hS₁ rfl ?_)
  have hS₂ := Heap.get?_update_self (Obj.mapSeq (·.push Value.none)) hS₁ rfl
  refine wpAny_updateSeq hS₂ rfl ?_
  have hS₃ := Heap.get?_update_self (Obj.mapSeq (·.pop)) hS₂ rfl
  have oth : ∀ b o, b ≠ s.heap.objs.size → (s.heap.push { cls := .type "list", data := .seq ([] : List Value).toArray }).get? b = some o →
      (((s.heap.push { cls := .type "list", data := .seq ([] : List Value).toArray }).update s.heap.objs.size (Obj.mapSeq (·.push Value.none))).update s.heap.objs.size (Obj.mapSeq (·.pop))).get? b = some o :=
    fun b o hb e => (Heap.get?_update_other _ _ (Ne.symm hb)).trans ((Heap.get?_update_other _ _ (Ne.symm hb)).trans e)
  refine wpAny_pure ⟨plainId_quiet PySem.F.plain_extend_loop _, codeAny_extend_loopS W hn _ hSf _ n 0 _ _ _ rfl (Nat.zero_le _)
    (W.frame 0 ({ s with heap := s.heap.push { cls := .type "list", data := .seq ([] : List Value).toArray } } : Shared) _ s.toks hst₁ (Nat.le_refl _) fun b hb o e => oth b o (fun h => hSf (h ▸ hb)) e) hS₃ (ItemsOf.nil P) fun s' acc' c' hm hS' hacc => ?_⟩
  show wpAny _ A (load s.heap.objs.size >>= _) _ _ s'
  refine wpAny_bind (wpAny_load hS' ?_)
  refine wpAny_pure (hQ s' acc' (Moved.drop_new (o := { cls := .type "list", data := .seq ([] : List Value).toArray }) (tk := s.toks) (Moved.trans W.gtrans ((Moved.refl W.grefl).then_heap (by first | exact Nat.le_refl _ | exact Nat.le_succ _ | omega) fun b o hb e => ?_) hm) (Nat.le_refl _)) hacc)
  exact oth b o (fun q => hb (q ▸ List.mem_cons_self)) e
theorem tuple_new_map {Q₁ : Value → Shared → Prop} (W : WalksS prog w A.in1.in1 I fp wr G n P St) (hT : ∀ i s, St i s → s.TypeIs (.ref I) "map") (hst : St 0 s) (hfp : ∀ b ∈ fp, b < s.heap.objs.size) (hI : I ∈ fp)
    (h : ∀ s' acc, Moved wr G s s' → ItemsOf P acc n → Q₁ (.ref s'.heap.objs.size) { s' with heap := s'.heap.push { cls := .type "tuple", data := .seq acc } }) (hsz : n ≤ sizeLine) :
    codeAny (model prog w) A (.call (.builtin "tuple.__new__") ⟨[.type "tuple", .ref I], []⟩) (wants Q₁ E) s := by
  refine codeAny_of_tree ?_
  show wpAny _ A.in1 (do checkBuiltinCall "tuple.__new__" ⟨[.type "tuple", .ref I], []⟩; again (.builtin "tuple.__new__" ⟨[.type "tuple", .ref I], []⟩)) _ _ s
  refine wpAny_bind (wpAny_of_eq (PySem.F.newCall_tuple_1 _) (wpAny_pure ⟨plainId_quiet PySem.F.plain_tuple_new _, codeAny_builtin PySem.F.entry_tuple_new ?_⟩))
  rw [Around.under_plainId PySem.F.plain_tuple_new _]
  have hsub := sub_tuple_self
  have hinit := init_tuple_lookup
  have hmh := madeHere_tuple
  have hTI := hT 0 s hst
  wp_walk using wpAny_typeOf hTI, collect_map (hn := hsz) W hT hst hfp hI
  intro s' acc hm hacc
  show wpAny _ _ (Builtin.Tuple.tupleExact acc.toList.toArray >>= fun v => ret v) _ _ _
  unfold Builtin.Tuple.tupleExact
  refine wpAny_bind (wpAny_newObj_type ?_ (by show acc.toList.toArray.size ≤ sizeLine; simp only [Array.toArray_toList]; rw [hacc.1]; exact hsz))
  refine wpAny_pure ?_
  have e : acc.toList.toArray = acc := by simp
  rw [e]
  exact h s' acc hm hacc
theorem call_tuple_map {Q : Value → Shared → Prop} (W : WalksS prog w A.in1.in1.in1 I fp wr G n P St) (hT : ∀ i s, St i s → s.TypeIs (.ref I) "map") (hst : St 0 s) (hfp : ∀ b ∈ fp, b < s.heap.objs.size) (hI : I ∈ fp)
    (hQ : ∀ s' acc, Moved wr G s s' → ItemsOf P acc n → Q (.ref s'.heap.objs.size) { s' with heap := s'.heap.push { cls := .type "tuple", data := .seq acc } }) (hsz : n ≤ sizeLine) :
    wpAny (model prog w) A (call (.type "tuple") [.ref I]) Q E s := by
  refine callType_codes (Q₁ := fun obj s₁ => s₁.TypeIs obj "tuple" ∧ Q obj s₁) PySem.F.called_tuple (PySem.F.typeCall_tuple_1 _) PySem.F.entry_object_init
    (tuple_new_map (hsz := hsz) W hT hst hfp hI fun s' acc hm hacc => ⟨⟨_, Heap.get?_push_size _ rfl, rfl⟩, hQ s' acc hm hacc⟩) fun obj s₁ h₁ => ?_
  exact ⟨h₁.1, PySem.F.args_object_init_2 obj _, object_init_meets PySem.F.called_tuple.init.lookup PySem.F.called_tuple.made (by decide) prog w A.in1 _ s₁ ⟨h₁.1, rfl, h₁.2⟩⟩
end
section
variable {prog : Program} {w : World} {A : Around} {E : Value → Shared → Prop} {s : Shared} {h₀ : Heap} {L : Addr} {m : Str → Option Value} {news : List (Addr × Obj)} {Q : Value → Shared → Prop}
abbrev itO (l : Addr) : Obj := { cls := .type "list_iterator", data := .fields #[.ref l, .int 0 0] }
theorem map_led {l : Addr} {vs : Array Value} {n : Nat} (F : Fr h₀ L s.heap m) (N : News h₀ L s.heap news) (hl : h₀.get? l = some (PySem.W.listOf vs n))
    (k : ∀ mp T it h', Fr h₀ L h' m → News h₀ L h' ((mp, mapO T (.ref 143)) :: (T, tupV #[.ref it]) :: (it, itO l) :: news) → it < T → T < mp → (∀ p ∈ news, p.1 < it) → Q (.ref mp) { s with heap := h' }) :
    wpAny (model prog w) A (call (.type "map") [.ref 143, .ref l]) Q E s := by
  refine callType_new called_map (by decide) (typeCall_map_2 _ _) (newCall_map_2 _ _) (fun obj => ?_) entry_map_new
    (meets_map_new (.ref 143) l vs n) ⟨F.keep _ _ hl, ?_⟩
  · unfold argsOk; kernel_rfl
  have hz : (s.heap.push (itO l)).objs.size = s.heap.objs.size + 1 := Heap.size_push ..
  have hz2 : ((s.heap.push (itO l)).push (tupV #[.ref s.heap.objs.size])).objs.size = s.heap.objs.size + 1 + 1 := by rw [Heap.size_push, hz]
  show _ ∧ _
  refine ⟨⟨_, Heap.get?_push_size _ rfl, rfl⟩, k _ _ _ _ (((F.push _).push _).push _) (News.push ((F.push _).push _) (News.push (F.push _) (News.push F N _) _) _) ?_ ?_ fun p hp => Heap.lt_size (N p hp).1⟩
  · rw [hz]; exact Nat.lt_succ_self _
  · rw [hz2, hz]; exact Nat.lt_succ_self _
theorem tuple_led {mean : ExcName → Option Value} {mg mb : Str → Option Value} {mp T it l : Addr} {vs : Array Value} {n : Nat} {ss : List Str} (F : Fr h₀ L s.heap m) (N : News h₀ L s.heap ((mp, mapO T (.ref 143)) :: (T, tupV #[.ref it]) :: (it, itO l) :: news))
    (c : Cx w mean mg mb h₀) (hR : Rm A 5) (hl : h₀.get? l = some (PySem.W.listOf vs n)) (hss : StrsAre vs.toList ss) (hn : ss.length ≤ 100000) (l1 : it < T) (l2 : T < mp) (l3 : ∀ p ∈ news, p.1 < it)
    (k : ∀ D h' tk, Fr h₀ L h' m → News h₀ L h' ((D, tupV vs) :: news) → (∀ p ∈ news, p.1 < D) → Q (.ref D) { s with heap := h', toks := tk }) :
    wpAny (model prog w) A (call (.type "tuple") [.ref mp]) Q E s := by
  have hM := N _ (.head _)
  have hT := N _ (.tail _ (.head _))
  have hI := N _ (.tail _ (.tail _ (.head _)))
  have hvn : vs.size = ss.length := by rw [← Array.length_toList]; exact hss.length
  have W := (Walks.map (prog := prog) (A := A.in1.in1.in1) (hb := h₀) (m := mp) (T := T) (it := it) c hR.in1.in1.in1 hl hss hI.2.2 (Nat.ne_of_gt (Nat.lt_trans l1 l2)) (Nat.ne_of_gt l1)).toS
  refine call_tuple_map W (fun i s st => ⟨_, st.map, rfl⟩) ⟨F.keep, hM.1, hT.1, ⟨_, hI.1, rfl, rfl⟩⟩ (fun b hb => ?_) (.head _) (fun s' acc hm hacc => ?_) (by rw [sizeLine_eq, hvn]; omega)
  · simp only [List.mem_cons, List.mem_range] at hb
    rcases hb with q | q | q | q
    · rw [q]; exact Heap.lt_size hM.1
    · rw [q]; exact Heap.lt_size hT.1
    · rw [q]; exact Heap.lt_size hI.1
    · exact Nat.lt_of_lt_of_le q (Nat.le_trans F.above (Nat.le_of_lt F.ns.lt))
  · rw [Moved.eq_with hm]
    have hk2 : ∀ b o, b ≠ it → s.heap.get? b = some o → s'.heap.get? b = some o := fun b o hb ho => hm.heap b o (fun q => hb (List.mem_singleton.mp q)) ho
    have F' : Fr h₀ L s'.heap m := ⟨F.ns.at' fun o ho => hk2 _ _ hI.2.1.symm ho, fun b o ho => hk2 _ _ (fun q => by rw [q] at ho; have := hI.2.2; simp only at this; rw [ho] at this; cases this) (F.keep _ _ ho), F.above⟩
    have N' : News h₀ L s'.heap news := fun p hp => by
      have := N p (.tail _ (.tail _ (.tail _ hp)))
      exact ⟨hk2 _ _ (Nat.ne_of_lt (l3 p hp)) this.1, this.2⟩
    have ea : acc = vs := by
      refine Array.ext (by rw [hacc.1]) fun i h1 h2 => ?_
      have : vs[i]? = some acc[i] := hacc.2 i acc[i] (Array.getElem?_eq_getElem h1)
      rw [Array.getElem?_eq_getElem h2] at this
      exact (Option.some.inj this).symm
    rw [ea]
    exact k _ _ _ (F'.push _) (News.push F' N' _) fun p hp => Heap.lt_size (N' p hp).1
end
local macro_rules | `(tactic| walk_at "call type:map") => `(tactic| (k_here; (with_reducible show wpAny _ _ (call (Value.type "map") [Value.ref _, Value.ref _]) _ _ _); k_dflt (refine' map_led ?sF ?sN ?s1 ?_; (case sF => k_asm); (case sN => k_asm); (case s1 => assumption)); intro e' T' it' h' F' N' lE' lT' lI'))
local macro_rules | `(tactic| walk_at "call type:tuple") => `(tactic| (k_here; (with_reducible show wpAny _ _ (call (Value.type "tuple") [Value.ref _]) _ _ _); k_dflt (refine' tuple_led ?sF ?sN ⟨?s1, ?s2⟩ ?s3 ?s4 ?s5 ?s6 ?s7 ?s8 ?s9 ?_; (case sF => k_asm); (case sN => k_asm); (case s1 => assumption); (case s2 => assumption); (case s3 => exact Rm.le (by assumption) (by decide)); (case s4 => assumption); (case s5 => assumption); (case s6 => omega); (case s7 => assumption); (case s8 => assumption); (case s9 => assumption)); intro D' h' tk' F' N' lD'; (first | k_lt lD' | replace lD' := allLt_of lD')))
theorem part_off_22 : True := by w_top off; trivial
open PyProof.Rows.LCg in
def CSrc (prog : Program) (w : World) (A : Around) (h₀ : Heap) (L : Addr) (m : Str → Option Value) (K : Shared → (List (Addr × Obj) → Prop) → (Nat → Value → Prop) → Nat → List (Addr × Obj) → Prop) (xv : Value) (s₁ : Shared) : Prop :=
  ∃ (oI : Obj) (fp : List Addr) (n : Nat) (P : Nat → Value → Prop) (St : Nat → Heap → Prop) (S : List (Addr × Obj) → Prop) (news : List (Addr × Obj)), Fr h₀ L s₁.heap m ∧ News h₀ L s₁.heap news ∧
    (∀ (Q : Value → Shared → Prop) (E : Value → Shared → Prop), Q (.ref s₁.heap.objs.size) { s₁ with heap := s₁.heap.push oI } → wpAny (model prog w) A (pyIter xv) Q E s₁) ∧
    Walks prog w A s₁.heap.objs.size fp [s₁.heap.objs.size] n P St ∧ n ≤ sizeLine ∧ (∀ i h, St i h → ∃ o, h.get? s₁.heap.objs.size = some o) ∧
    (∀ i h h' o nw, St i h → h.get? s₁.heap.objs.size = some o → h'.get? s₁.heap.objs.size = some o → (∀ b o, h₀.get? b = some o → h'.get? b = some o) → News h₀ L h' nw → S nw → St i h') ∧
    St 0 (s₁.heap.push oI) ∧ (∀ b ∈ fp, b ≤ s₁.heap.objs.size) ∧ S news ∧ ∀ s₂ : Shared, (∃ h, s₂ = { s₁ with heap := h }) → K s₂ S P n news
section
open PyProof.Rows.LCg
variable {prog : Program} {w : World} {A : Around} {E : Value → Shared → Prop} {s : Shared} {h₀ : Heap} {L : Addr} {m : Str → Option Value} {env : Env}
/-- a comprehension by its block -/
theorem comp_gen {e : PySem.Expr} {g : Comprehension} {gs : List Comprehension} {scope : Scope} {cl : List (Str × Addr)} {pos : Pos} {first : Sem Value} {use : Option (Value → Sem Unit)} {Q : Value → Shared → Prop}
    {K : Shared → (List (Addr × Obj) → Prop) → (Nat → Value → Prop) → Nat → List (Addr × Obj) → Prop} {Fin : Shared → List Value → List (Addr × Obj) → Prop}
    (hcl : clausesOf e = g :: gs) (hs : ∀ x, foldedSetIterable g.iter env x = pure x) (hclos : closureFor scope env = pure cl) (hkind : scope.kind = .function)
    (hnames : ∀ y ∈ scope.names, y.2 = .local → scope.names.lookup y.1 = some .local)
    (h : wpAny (model prog w) A first (CSrc prog w A h₀ L m K) E s)
    (post : ∀ s₂ D C h' tk m' ys news', Fr h₀ L h' m → News h₀ L h' ((D, LCg.lst ys) :: news') → Off1 D news' → h'.Ns C m' → h₀.get? C = none → C ≠ L → C ≠ D → (∀ p ∈ news', p.1 ≠ C) → Fin s₂ ys news' → compPost (model prog w) A E use Q (.ref D) C (.ok .next) { s₂ with heap := h', toks := tk })
    (blk : ∀ (s₂ : Shared) (I : Addr) (fp : List Addr) (n : Nat) (P : Nat → Value → Prop) (St : Nat → Heap → Prop) (S : List (Addr × Obj) → Prop) (news : List (Addr × Obj)) (RR : Value → Addr → Result → Shared → Prop), Walks prog w A I fp [I] n P St → n ≤ sizeLine → (∀ i h, St i h → ∃ o, h.get? I = some o) →
      (∀ i h h' o nw, St i h → h.get? I = some o → h'.get? I = some o → (∀ b o, h₀.get? b = some o → h'.get? b = some o) → News h₀ L h' nw → S nw → St i h') → St 0 s₂.heap → (∀ b ∈ fp, b < s₂.heap.objs.size) → Fr h₀ L s₂.heap m → News h₀ L s₂.heap news → L ≠ I → h₀.get? I = none → (∀ p ∈ news, p.1 ≠ I) → S news → K s₂ S P n news →
      (∀ D C h tk m' ys news', Fr h₀ L h m → News h₀ L h ((D, LCg.lst ys) :: news') → Off1 D news' → h.Ns C m' → h₀.get? C = none → h₀.get? D = none → C ≠ L → D ≠ L → C ≠ D → (∀ p ∈ news', p.1 ≠ C) → Fin s₂ ys news' → RR (.ref D) C (.ok .next) { s₂ with heap := h, toks := tk }) →
      wpAny (model prog w) A (newList []) (fun acc s₃ => wpAny (model prog w) A (newFunctionEnv scope env.globals cl [] env.qual none .none (some env)) (fun cenv s₄ =>
        codeAny (model prog w) A (.compStart e 0 (.ref I) acc { cenv with scope := relabel scope env }) (RR acc cenv.locals) s₄) E s₃) E s₂) :
    wpAny (model prog w) A (comprehension e scope env pos (newList []) false first use) Q E s := by
  refine wpAny_comprehension_free hcl hs hclos hkind hnames (wpAny_mono h (fun xv s₁ h₁ => ?_) fun _ _ e => e)
  obtain ⟨oI, fp, n, P, St, S, news, F, N, hit, W, hsz, hIo, hSt, hst, hfp, hS, R⟩ := h₁
  refine hit _ _ ?_
  have up : ∀ b o, s₁.heap.get? b = some o → (s₁.heap.push oI).get? b = some o := fun b o e => Heap.get?_push_of_some _ e
  refine blk _ _ fp n P St S news _ W hsz hIo hSt hst (fun b hb => ?_) (F.keeps up) (N.grown up) (Nat.ne_of_lt F.ns.lt) (next_is_new F) (fun p hp => Nat.ne_of_lt (Heap.lt_size (N p hp).1)) hS (R _ ⟨_, rfl⟩) ?_
  · show b < (s₁.heap.push _).objs.size
    rw [Heap.size_push]
    exact Nat.lt_succ_of_le (hfp b hb)
  · intro D C h tk m' ys news' F' N' o1 hn hC₀ _ hCL _ hCD offC fin
    exact post _ D C h tk m' ys news' F' N' o1 hn hC₀ hCL hCD offC fin
theorem post_E {Q : Value → Shared → Prop} : ∀ (s₂ : Shared) (D C : Addr) (h' : Heap) (tk : Nat) (m' : Str → Option Value) (ys : List Value) (news' : List (Addr × Obj)), Fr h₀ L h' m → News h₀ L h' ((D, LCg.lst ys) :: news') → Off1 D news' → h'.Ns C m' → h₀.get? C = none → C ≠ L → C ≠ D → (∀ p ∈ news', p.1 ≠ C) → FinE h₀ L m s₂ Q ys news' →
    compPost (model prog w) A E none Q (.ref D) C (.ok .next) { s₂ with heap := h', toks := tk } := by
  intro s₂ D C h' tk m' ys news' F' N' o1 hn hC₀ hCL hCD offC fin
  refine ⟨m', hn, fun h'' hs'' => fin D h'' tk (F'.change hs'' hCL hC₀) (fun p hp => ?_) o1⟩
  refine ⟨hs''.extBut _ _ ?_ (N' p hp).1, (N' p hp).2⟩
  rcases List.mem_cons.mp hp with rfl | hp
  · exact Ne.symm hCD
  · exact offC p hp
theorem post_A {y : Str} {py : Pos} {Q : Flow → Shared → Prop} (hLe : env.locals = L) (hy : env.kindOf y = some .local) (hp : (env.scope.kind == .class || (env.scope.kind == .module && env.locals != env.globals)) = false) :
    ∀ (s₂ : Shared) (D C : Addr) (h' : Heap) (tk : Nat) (m' : Str → Option Value) (ys : List Value) (news' : List (Addr × Obj)), Fr h₀ L h' m → News h₀ L h' ((D, LCg.lst ys) :: news') → Off1 D news' → h'.Ns C m' → h₀.get? C = none → C ≠ L → C ≠ D → (∀ p ∈ news', p.1 ≠ C) → FinA h₀ L m s₂ y Q ys news' →
    compPost (model prog w) A E (some (assign (.Name y py) env)) (fun _ s' => Q .next s') (.ref D) C (.ok .next) { s₂ with heap := h', toks := tk } := by
  intro s₂ D C h' tk m' ys news' F' N' o1 hn hC₀ hCL hCD offC fin
  subst hLe
  show wpAny _ A (assign (.Name y py) env (.ref D)) _ _ _
  refine wpAny_assign_Name (wpAny_storeName_local hy F'.ns (fun h₂ hn₂ hs₂ => ?_) hp)
  have hL₀ : h₀.get? env.locals = none := Heap.get?_none_of_le F'.above
  have F₂ : Fr h₀ env.locals h₂ (fun z => if z = y then some (.ref D) else m z) := ⟨hn₂, fun b o e => hs₂.extBut b o (fun q => by rw [q, hL₀] at e; cases e) (F'.keep b o e), F'.above⟩
  refine ⟨m', hn.sameBut hs₂ hCL, fun h'' hs'' => fin D h'' _ (F₂.change hs'' hCL hC₀) (fun p hp => ?_) o1⟩
  have z : h₂.get? p.1 = some p.2 := hs₂.extBut _ _ (N' p hp).2.1 (N' p hp).1
  refine ⟨hs''.extBut _ _ ?_ z, (N' p hp).2⟩
  rcases List.mem_cons.mp hp with rfl | hp
  · exact Ne.symm hCD
  · exact offC p hp
/-- x = [..]: the comprehension hands its list on by itself -/
theorem assign_gen {elt iter target : PySem.Expr} {ifs : List PySem.Expr} {gs : List Comprehension} {y : Str} {py : Pos} {scope : Scope} {pos spos : Pos} {Q : Flow → Shared → Prop}
    (hsw : swapsWith (.ListComp elt (⟨target, iter, ifs, 0⟩ :: gs) scope pos) (some (.Name y py)) spos.line env = pure true)
    (h : ∀ pos', wpAny (model prog w) A (comprehension (.ListComp elt (⟨target, iter, ifs, 0⟩ :: gs) scope pos) scope env pos' (newList []) false (eval iter env) (some (assign (.Name y py) env))) (fun _ s' => Q .next s') E s) :
    wpAny (model prog w) A (exec (.Assign [.Name y py] (.ListComp elt (⟨target, iter, ifs, 0⟩ :: gs) scope pos) spos) env) Q E s := by
  rw [exec_Assign_Name_used _ _ _ _ hsw]
  refine wpAny_bind (wpAny_standAt (wpAny_bind ?_))
  show wpAny _ A (do let _ ← comprehension (.ListComp elt (⟨target, iter, ifs, 0⟩ :: gs) scope pos) scope env _ (newList []) false (eval iter env) (some (assign (.Name y py) env))) _ _ s
  exact wpAny_bind (wpAny_mono (h _) (fun _ s' hq => wpAny_pure (wpAny_pure hq)) fun _ _ e => e)
theorem ListComp_S {elt iter : PySem.Expr} {x : Str} {px : Pos} {scope : Scope} {cl : List (Str × Addr)} {pos : Pos} {Q : Value → Shared → Prop} (_F₀ : Fr h₀ L s.heap m)
    (hclos : closureFor scope env = pure cl) (hcell : ∀ y ∈ scope.names, y.2 ≠ .cell) (hkind : scope.kind = .function)
    (hnames : ∀ y ∈ scope.names, y.2 = .local → scope.names.lookup y.1 = some .local) (hx : scope.names.lookup x = some .local)
    (h : wpAny (model prog w) A (eval iter env) (CSrc prog w A h₀ L m (fun s₂ S P n news => CompRest prog w A h₀ L m env elt x scope cl s₂ S P (FinE h₀ L m s₂ Q) n 0 [] news)) E s)
    (hs : ∀ x, foldedSetIterable iter env x = pure x := by intro _; rfl) :
    wpAny (model prog w) A (eval (.ListComp elt [⟨.Name x px, iter, [], 0⟩] scope pos) env) Q E s := by
  rw [eval_ListComp]
  exact comp_gen rfl hs hclos hkind hnames h post_E fun s₂ I fp n P St S news RR W hsz hIo hSt hst hfp F N hIL hI₀ off hS k hRR => block_U W hsz hIo hSt hcell hkind hx hst hfp F N hIL hI₀ off hS k hRR
theorem Assign_ListComp_S {elt iter : PySem.Expr} {x y : Str} {px py : Pos} {scope : Scope} {cl : List (Str × Addr)} {pos spos : Pos} {Q : Flow → Shared → Prop} (_F₀ : Fr h₀ L s.heap m) (hLe : env.locals = L)
    (hsw : swapsWith (.ListComp elt [⟨.Name x px, iter, [], 0⟩] scope pos) (some (.Name y py)) spos.line env = pure true)
    (hclos : closureFor scope env = pure cl) (hcell : ∀ z ∈ scope.names, z.2 ≠ .cell) (hkind : scope.kind = .function)
    (hnames : ∀ z ∈ scope.names, z.2 = .local → scope.names.lookup z.1 = some .local) (hx : scope.names.lookup x = some .local)
    (hy : env.kindOf y = some .local) (hp : (env.scope.kind == .class || (env.scope.kind == .module && env.locals != env.globals)) = false)
    (h : wpAny (model prog w) A (eval iter env) (CSrc prog w A h₀ L m (fun s₂ S P n news => CompRest prog w A h₀ L m env elt x scope cl s₂ S P (FinA h₀ L m s₂ y Q) n 0 [] news)) E s)
    (hs : ∀ x, foldedSetIterable iter env x = pure x := by intro _; rfl) :
    wpAny (model prog w) A (exec (.Assign [.Name y py] (.ListComp elt [⟨.Name x px, iter, [], 0⟩] scope pos) spos) env) Q E s := by
  refine assign_gen hsw fun pos' => ?_
  exact comp_gen rfl hs hclos hkind hnames h (post_A hLe hy hp) fun s₂ I fp n P St S news RR W hsz hIo hSt hst hfp F N hIL hI₀ off hS k hRR => block_U W hsz hIo hSt hcell hkind hx hst hfp F N hIL hI₀ off hS k hRR
end
section
open PyProof.Rows.LCg
variable {prog : Program} {w : World} {A : Around} {h₀ : Heap} {L : Addr} {m : Str → Option Value}
def TupAt (h₀ : Heap) (ax : Addr) (its : Array Value) (news : List (Addr × Obj)) : Prop := h₀.IsTuple ax its ∨ (ax, tupV its) ∈ news
theorem TupAt.tup {h : Heap} {ax : Addr} {its : Array Value} {news : List (Addr × Obj)} (x : TupAt h₀ ax its news) (k : ∀ b o, h₀.get? b = some o → h.get? b = some o) (N : News h₀ L h news) : h.IsTuple ax its := by
  rcases x with ⟨o, ho, r⟩ | hm
  · exact ⟨o, k _ _ ho, r⟩
  · exact ⟨_, N.get hm, rfl, _, rfl⟩
theorem CSrc.tup {K : Shared → (List (Addr × Obj) → Prop) → (Nat → Value → Prop) → Nat → List (Addr × Obj) → Prop} {s₁ : Shared} {ax : Addr} {its : Array Value} {news : List (Addr × Obj)} (hh : A.handled = none) (F : Fr h₀ L s₁.heap m) (N : News h₀ L s₁.heap news) (hm : (ax, tupV its) ∈ news) (hsz : its.size ≤ sizeLine)
    (k : ∀ h, K { s₁ with heap := h } (TupAt h₀ ax its) (fun i v => its[i]? = some v) its.size news) : CSrc prog w A h₀ L m K (.ref ax) s₁ := by
  have ht : s₁.heap.IsTuple ax its := ⟨_, N.get hm, rfl, _, rfl⟩
  have hlt : ax < s₁.heap.objs.size := Heap.lt_size (N.get hm)
  refine ⟨_, _, its.size, _, _, TupAt h₀ ax its, news, F, N, fun Q E q => wpAny_pyIter_tuple ht q, Walks.tuple hh s₁.heap.objs.size ax (Nat.ne_of_lt hlt) its, hsz, fun i h st => ?_, fun i h h' o nw st e1 e2 k' N' S' => ?_, ⟨⟨_, Heap.get?_push_size _ rfl, rfl, rfl⟩, ?_⟩, fun b hb => ?_, .inr hm, fun s₂ ⟨h, e⟩ => e ▸ k h⟩
  · obtain ⟨o, e, _⟩ := st.1; exact ⟨o, e⟩
  · obtain ⟨⟨o', e', r⟩, _⟩ := st
    rw [e1] at e'
    obtain rfl := Option.some.inj e'
    exact ⟨⟨o, e2, r⟩, S'.tup k' N'⟩
  · exact ⟨_, Heap.get?_push_of_some _ (N.get hm), rfl, _, rfl⟩
  · rcases List.mem_cons.mp hb with rfl | hb
    · exact Nat.le_refl _
    · rw [List.mem_singleton.mp hb]; exact Nat.le_of_lt hlt
theorem CSrc.lst {K : Shared → (List (Addr × Obj) → Prop) → (Nat → Value → Prop) → Nat → List (Addr × Obj) → Prop} {s₁ : Shared} {ax : Addr} {its : Array Value} {news : List (Addr × Obj)} (hh : A.handled = none) (F : Fr h₀ L s₁.heap m) (N : News h₀ L s₁.heap news) (hm : SrcAt h₀ ax its news) (hsz : its.size ≤ sizeLine)
    (k : ∀ h, K { s₁ with heap := h } (SrcAt h₀ ax its) (fun i v => its[i]? = some v) its.size news) : CSrc prog w A h₀ L m K (.ref ax) s₁ := by
  have ht := hm.list F.keep N
  have hlt : ax < s₁.heap.objs.size := by obtain ⟨_, e, _⟩ := ht; exact Heap.lt_size e
  refine ⟨_, _, its.size, _, _, SrcAt h₀ ax its, news, F, N, fun Q E q => wpAny_pyIter_list ht q, Walks.list hh s₁.heap.objs.size ax (Nat.ne_of_lt hlt) its, hsz, fun i h st => ?_, list_st, ⟨⟨_, Heap.get?_push_size _ rfl, rfl, rfl⟩, ht.push _⟩, fun b hb => ?_, hm, fun s₂ ⟨h, e⟩ => e ▸ k h⟩
  · obtain ⟨o, e, _⟩ := st.1; exact ⟨o, e⟩
  · rcases List.mem_cons.mp hb with rfl | hb
    · exact Nat.le_refl _
    · rw [List.mem_singleton.mp hb]; exact Nat.le_of_lt hlt
end
section
open PyProof.Rows.LCg
variable {prog : Program} {w : World} {A : Around} {E : Value → Shared → Prop} {s : Shared} {h₀ : Heap} {L : Addr} {m : Str → Option Value} {env : Env}
theorem ListComp_ST {ct elt iter : PySem.Expr} {x : Str} {px : Pos} {scope : Scope} {cl : List (Str × Addr)} {pos : Pos} {Q : Value → Shared → Prop} (_F₀ : Fr h₀ L s.heap m)
    (hclos : closureFor scope env = pure cl) (hcell : ∀ y ∈ scope.names, y.2 ≠ .cell) (hkind : scope.kind = .function)
    (hnames : ∀ y ∈ scope.names, y.2 = .local → scope.names.lookup y.1 = some .local) (hx : scope.names.lookup x = some .local)
    (h : wpAny (model prog w) A (eval iter env) (CSrc prog w A h₀ L m (fun s₂ S P n news => LCt.CompRestT prog w A h₀ L m env ct elt x scope cl s₂ S P (FinE h₀ L m s₂ Q) n 0 [] news)) E s)
    (hs : ∀ x, foldedSetIterable iter env x = pure x := by intro _; rfl) :
    wpAny (model prog w) A (eval (.ListComp elt [⟨.Name x px, iter, [ct], 0⟩] scope pos) env) Q E s := by
  rw [eval_ListComp]
  exact comp_gen rfl hs hclos hkind hnames h post_E fun s₂ I fp n P St S news RR W hsz hIo hSt hst hfp F N hIL hI₀ off hS k hRR => LCt.block_T W hsz hIo hSt hcell hkind hx hst hfp F N hIL hI₀ off hS k hRR
end
theorem part_off_23 : True := by w_top off; trivial
section
open PyProof.Rows.LCg
theorem cend_push {h₀ h1 h' : Heap} {L I C D : Addr} {m : Str → Option Value} {s₁ : Shared} {oI oC oD o : Obj} {S : List (Addr × Obj) → Prop} {rest : Value → List (Addr × Obj) → Prop} {tk : Nat} {news : List (Addr × Obj)}
    (F : Fr h₀ L h' m) (N1 : News h₀ L h1 ((I, oI) :: (C, oC) :: (D, oD) :: news)) (N2 : News h₀ L h' ((h1.objs.size, o) :: (I, oI) :: (C, oC) :: (D, oD) :: news)) (off : Off3 I C D news)
    (hS : S ((h1.objs.size, o) :: news)) (r : rest (.ref h1.objs.size) ((h1.objs.size, o) :: news)) : CompEnd h₀ L m s₁ I oI C oC D oD S rest (.ref h1.objs.size) { s₁ with heap := h', toks := tk } := by
  refine CompEnd.intro F N2 ((h1.objs.size, o) :: news) (fun p hp => ?_) ⟨⟨?_, ?_, ?_⟩, off⟩ hS r
  · simp only [List.mem_cons] at hp ⊢
    rcases hp with h | h | h | h | h
    · exact .inr (.inl h)
    · exact .inr (.inr (.inl h))
    · exact .inr (.inr (.inr (.inl h)))
    · exact .inl h
    · exact .inr (.inr (.inr (.inr h)))
  · exact Nat.ne_of_gt (Heap.lt_size (N1 _ (.head _)).1)
  · exact Nat.ne_of_gt (Heap.lt_size (N1 _ (.tail _ (.head _))).1)
  · exact Nat.ne_of_gt (Heap.lt_size (N1 _ (.tail _ (.tail _ (.head _)))).1)
theorem cend_fin {h₀ h' : Heap} {L I C D D1 : Addr} {m : Str → Option Value} {s₁ : Shared} {oI oC oD o : Obj} {S : List (Addr × Obj) → Prop} {rest : Value → List (Addr × Obj) → Prop} {tk : Nat} {news : List (Addr × Obj)}
    (F : Fr h₀ L h' m) (N : News h₀ L h' ((D1, o) :: (I, oI) :: (C, oC) :: (D, oD) :: news)) (o1 : Off1 D1 ((I, oI) :: (C, oC) :: (D, oD) :: news)) (off : Off3 I C D news)
    (hS : S ((D1, o) :: news)) (r : rest (.ref D1) ((D1, o) :: news)) : CompEnd h₀ L m s₁ I oI C oC D oD S rest (.ref D1) { s₁ with heap := h', toks := tk } := by
  refine CompEnd.intro F N ((D1, o) :: news) (fun p hp => ?_) ⟨⟨Ne.symm o1.1, Ne.symm o1.2.1, Ne.symm o1.2.2.1⟩, off⟩ hS r
  simp only [List.mem_cons] at hp ⊢
  rcases hp with h | h | h | h | h
  · exact .inr (.inl h)
  · exact .inr (.inr (.inl h))
  · exact .inr (.inr (.inr (.inl h)))
  · exact .inl h
  · exact .inr (.inr (.inr (.inr h)))
end
theorem part_off_24 : True := by w_top off; trivial
section
variable {prog : Program} {w : World} {A : Around} {E : Value → Shared → Prop} {s : Shared}
theorem hash_true {Q : Int → Shared → Prop} (h : ∀ tk, Q 1 { s with toks := tk }) : wpAny (model prog w) A (pyHash (.bool true)) Q E s := by
  have hT : s.TypeIs (.bool true) "bool" := rfl
  unfold pyHash
  have hv : [Value.bool true].any Value.onHeap = false := rfl
  refine wpAny_bind ?_
  rw [cRoomFor, if_neg (by rw [hv]; exact Bool.false_ne_true)]; refine wpAny_pure ?_
  refine wpAny_bind (wpAny_specialOf hT F.slot_bool_hash.lookup ?_)
  show wpAny _ _ (if (some (Value.builtin "int.__hash__") == some Value.none) = true then _ else _) Q E s
  rw [if_neg (by rw [beq_builtin_none]; exact Bool.false_ne_true)]
  refine wpAny_bind (wpAny_specialOf hT F.slot_bool_hash.lookup ?_)
  show wpAny _ _ (callSpecialIfBoundUnlessNone? (.bool true) "__hash__" _ >>= _) Q E s
  refine wpAny_bind (wpAny_callSpecialIfBoundUnlessNone?_slot hT F.slot_bool_hash (wpAny_call_entry F.slot_bool_hash hT F.entry_int_hash ?_ (F.args_int_hash_1 _)))
  refine (show wpAny _ _ (do ret (← mkInt 1)) _ _ s from wpAny_ret_mkInt ?_)
  show wpAny _ _ (if (decide (-(2 : Int) ^ 63 ≤ 1) && decide ((1 : Int) < 2 ^ 63)) = true then _ else _) Q E _
  rw [if_pos (by decide)]
  exact wpAny_pure (h _)
theorem eqb_true {Q : Bool → Shared → Prop} (h : Q true s) : wpAny (model prog w) A (eqBool (.bool true) (.bool true)) Q E s := by
  unfold eqBool
  refine wpAny_holding ?_
  show wpAny _ _ (if (Value.bool true == Value.bool true) = true then _ else _) Q E s
  rw [if_pos (by decide)]
  exact wpAny_bind (wpAny_rule (wpAny_pure h))
def setT (led : Bool) (ep : Nat) : Obj := { cls := .type "set", dict := none, data := .set #[(1, .bool true)] ep { SetTable.fresh 0 0 led with place := #[1] } }
theorem layT (led : Bool) : layNew (.fresh 0 0 led) #[] 1 (.bool true) = (#[(1, .bool true)], { SetTable.fresh 0 0 led with place := #[1] }, false, false) := by
  cases led <;> kernel_rfl
theorem setT_put (led : Bool) : Obj.putSet #[(1, .bool true)] { SetTable.fresh 0 0 led with place := #[1] } { cls := .type "set", dict := none, data := .set #[] 0 (.fresh 0 0 led) } = setT led 1 := by
  rfl
theorem add_true0 {S : Addr} {led : Bool} {Q : Value → Shared → Prop} (ho : s.heap.get? S = some { cls := .type "set", dict := none, data := .set #[] 0 (.fresh 0 0 led) })
    (h : ∀ h' tk, Heap.SameBut S s.heap h' → h'.get? S = some (setT led 1) → Q .none { s with heap := h', toks := tk }) : wpAny (model prog w) A (call (.builtin "set.add") [.ref S, .bool true]) Q E s := by
  have hT : s.TypeIs (.ref S) "set" := ⟨_, ho, rfl⟩
  refine wpAny_call_entry F.slot_set_add hT F.entry_set_add ?_ (F.args_set_add_2 _ _)
  unfold Builtin.«set.add» Builtin.Frozenset.oneOther
  simp only [List.isEmpty_nil, bind_assoc]
  unfold Builtin.Frozenset.addrOf setAdd
  refine wpAny_bind (wpAny_pure ?_)
  try dsimp only
  refine wpAny_bind (wpAny_pure ?_)
  try dsimp only
  refine wpAny_bind ?_
  refine wpAny_holding ?_
  refine wpAny_bind (hash_true fun tk => ?_)
  unfold setAddHashed setAddHashedIn
  refine wpAny_holding (wpAny_bind (wpAny_setState_of (s := { s with toks := tk }) ho rfl (by cases led <;> rfl) ?_))
  try dsimp only
  rw [if_pos (show byScan (Value.bool true) #[] = true by decide +kernel)]
  unfold setAddByScan
  refine wpAny_bind ?_
  refine wpAny_bind (wpAny_rule ?_)
  refine wpAny_bind (show wpAny _ _ (pure ScanMet.absent) _ _ _ from wpAny_pure ?_)
  try dsimp only
  refine wpAny_bind (wpAny_pure ?_)
  rw [layT]
  try dsimp only
  rw [if_pos (show (SetTable.fresh 0 0 led).plain = true from rfl)]
  refine wpAny_bind ?_
  rw [hashByValue_scannable 8 rfl]
  refine wpAny_pure ?_
  rw [if_pos (show plainKind (Value.bool true) = true from rfl)]
  refine wpAny_bind (wpAny_storeSet_of (s := { s with toks := tk }) ho rfl ?_ (by decide))
  rw [if_neg (by cases led <;> decide +kernel)]
  refine wpAny_pure ?_
  try dsimp only
  refine wpAny_pure ?_
  show wpAny _ _ (ret Value.none) _ _ _
  exact wpAny_pure ⟨_, rfl, h _ _ (Heap.SameBut.update ..) (Heap.get?_update_self _ ho rfl)⟩
theorem add_true1 {S : Addr} {led : Bool} {ep : Nat} {Q : Value → Shared → Prop} (ho : s.heap.get? S = some (setT led ep))
    (h : ∀ tk, Q .none { s with toks := tk }) : wpAny (model prog w) A (call (.builtin "set.add") [.ref S, .bool true]) Q E s := by
  have hT : s.TypeIs (.ref S) "set" := ⟨_, ho, rfl⟩
  refine wpAny_call_entry F.slot_set_add hT F.entry_set_add ?_ (F.args_set_add_2 _ _)
  unfold Builtin.«set.add» Builtin.Frozenset.oneOther
  simp only [List.isEmpty_nil, bind_assoc]
  unfold Builtin.Frozenset.addrOf setAdd
  refine wpAny_bind (wpAny_pure ?_)
  try dsimp only
  refine wpAny_bind (wpAny_pure ?_)
  try dsimp only
  refine wpAny_bind ?_
  refine wpAny_holding ?_
  refine wpAny_bind (hash_true fun tk => ?_)
  unfold setAddHashed setAddHashedIn
  refine wpAny_holding (wpAny_bind (wpAny_setState_of (s := { s with toks := tk }) ho rfl (by cases led <;> rfl) ?_))
  try dsimp only
  rw [if_pos (show byScan (Value.bool true) #[(1, Value.bool true)] = true by decide +kernel)]
  unfold setAddByScan
  refine wpAny_bind ?_
  refine wpAny_bind (wpAny_rule ?_)
  unfold setScan setScanFrom
  try dsimp only
  rw [if_pos (show ((1 : Int) == 1) = true by decide)]
  unfold setEpoch
  refine wpAny_bind ?_
  refine wpAny_bind (wpAny_bind (wpAny_setState_of (s := { s with toks := tk }) ho rfl (by cases led <;> rfl) (wpAny_pure ?_)))
  refine wpAny_bind (eqb_true ?_)
  try dsimp only
  rw [if_pos (by decide)]
  refine wpAny_pure ?_
  try dsimp only
  refine wpAny_pure ?_
  try dsimp only
  refine wpAny_pure ?_
  show wpAny _ _ (ret Value.none) _ _ _
  exact wpAny_pure ⟨_, rfl, h _⟩
end
theorem part_off_25 : True := by w_top off; trivial
theorem slot_seti_next : Slot "set_iterator" "__next__" "set_iterator.__next__" :=
  .of (owner := "set_iterator") (n := "__next__") (by rw [typeLookup_type, builtinLookup_eq_fast]; kernel_rfl) (by decide +kernel) (by decide +kernel) (by decide +kernel)
    (by first | exact .inl (by decide +kernel) | exact .inr (by decide +kernel)) (by rw [isSubtype_type]; kernel_rfl)
theorem entry_seti_next : entryFor table "set_iterator.__next__" = some Builtin.«set_iterator.__next__» := entryFor_of_tree (by kernel_rfl)
theorem owner_seti : Manifest.owners.lookup (String.ofList ['r','o','t','a','r','e','t','i','_','t','e','s'].reverse) = some Manifest.sig_set_iterator := by kernel_rfl
theorem args_seti_next (a : Value) : argsOk "set_iterator.__next__" ⟨[a], []⟩ := by
  unfold argsOk; rw [signature?_of (id := "set_iterator.__next__") (n := ['_', '_', 't', 'x', 'e', 'n', '_', '_']) (o := ['r','o','t','a','r','e','t','i','_','t','e','s']) (by kernel_rfl) owner_seti]; kernel_rfl
theorem entry_set_iter : entryFor table "set.__iter__" = some Builtin.«frozenset.__iter__» :=
  entryFor_alias (id' := "frozenset.__iter__") (by kernel_rfl) (by first | rfl | decide +kernel | (unfold String.splitOn; simp +decide [String.splitOnAux])) (by decide +kernel) (by kernel_rfl)
theorem args_set_iter (a : Value) : argsOk "set.__iter__" ⟨[a], []⟩ := F.args_set_iter_1 a
section
variable {prog : Program} {w : World} {A : Around} {E : Value → Shared → Prop} {s : Shared}
def byT (w : World) : Bool := w.params.followText "set-order"
abbrev itT (S : Addr) (k i : Int) : Obj := { cls := .type "set_iterator", data := .fields #[.int k 0, .int i 0, .ref S, .int 1 0, .int 1 0] }
theorem iter_setT {S : Addr} {Q : Value → Shared → Prop} (ho : s.heap.get? S = some (setT (!byT w) 1))
    (h : Q (.ref s.heap.objs.size) { s with heap := s.heap.push (itT S 0 0) }) : wpAny (model prog w) A (pyIter (.ref S)) Q E s := by
  have hT : s.TypeIs (.ref S) "set" := ⟨_, ho, rfl⟩
  refine wpAny_pyIter_slot hT F.slot_set_iter (wpAny_call_entry F.slot_set_iter hT entry_set_iter ?_ (args_set_iter _))
  unfold Builtin.«frozenset.__iter__»
  have hst : ∀ {Q : (Array (Int × Value) × Nat × SetTable) → Shared → Prop} {A : Around} {E : Value → Shared → Prop}, Q (#[(1, .bool true)], 1, { SetTable.fresh 0 0 (!byT w) with place := #[1] }) s → wpAny (model prog w) A (setState S) Q E s := fun hq => wpAny_setState_of ho rfl (by cases byT w <;> rfl) hq
  refine wpAny_bind (wpAny_of_eq (a := S) (by rfl) ?_)
  unfold Builtin.Frozenset.sizeOf setDrawn setEpoch setEntries
  refine wpAny_bind (wpAny_bind (wpAny_bind (hst (wpAny_pure (wpAny_pure ?_)))))
  refine wpAny_bind (wpAny_bind (hst ?_))
  unfold setsByText
  refine wpAny_bind (wpAny_bind (wpAny_askSetting (wpAny_pure ?_)))
  refine wpAny_pure ?_
  rw [if_neg (by show ¬ ((!_ && false) = true); simp)]
  refine wpAny_bind (wpAny_pure ?_)
  refine wpAny_bind (wpAny_bind (hst (wpAny_pure ?_)))
  simp only [newFields]
  refine wpAny_bind (wpAny_newObj_type ?_ (by size_fits))
  exact wpAny_pure ⟨_, rfl, "set_iterator", _, ⟨_, Heap.get?_push_size _ rfl, rfl⟩, slot_seti_next.lookup, h⟩
theorem pick1 {α : Type} (f : Nat → Nat) (x : α) : pickOrder f #[x] = #[x] := by
  unfold pickOrder
  show pickOrder.go f 1 0 [x] #[] = #[x]
  unfold pickOrder.go
  rw [show f 0 % [x].length = 0 from Nat.mod_one _]
  show pickOrder.go f 0 1 _ (#[].push x) = #[x]
  unfold pickOrder.go
  rfl
theorem setNextT {S : Addr} {k g : Nat} {Q : Option (Value × Nat) → Shared → Prop} (ho : s.heap.get? S = some (setT (!byT w) 1))
    (h1 : byT w = true → Q ((#[((1 : Int), Value.bool true)][g]?).map fun e => (e.2, k)) s) (h2 : byT w = false → Q (match #[((1 : Int), Value.bool true)][SetTable.below #[1] k]?, (#[1] : Array Nat)[SetTable.below #[1] k]? with | some (_, x), some j => some (x, j + 1) | _, _ => none) s) :
    wpAny (model prog w) A (setNext S k g 1) Q E s := by
  have hst : ∀ {Q : (Array (Int × Value) × Nat × SetTable) → Shared → Prop} {A : Around} {E : Value → Shared → Prop}, Q (#[(1, .bool true)], 1, { SetTable.fresh 0 0 (!byT w) with place := #[1] }) s → wpAny (model prog w) A (setState S) Q E s := fun hq => wpAny_setState_of ho rfl (by cases byT w <;> rfl) hq
  unfold setNext
  refine wpAny_bind (hst ?_)
  dsimp only
  unfold setsByText
  refine wpAny_bind (wpAny_bind (wpAny_askSetting (wpAny_pure ?_)))
  show wpAny _ _ (if byT w = true then _ else _) _ _ _
  cases hb : byT w with
  | true =>
    rw [if_pos rfl]
    rw [if_neg (by decide)]
    unfold setWalk
    refine wpAny_bind (wpAny_bind (hst ?_))
    unfold setsByText
    refine wpAny_bind (wpAny_bind (wpAny_askSetting (wpAny_pure ?_)))
    show wpAny _ _ (if byT w = true then _ else _) _ _ _
    rw [hb, if_pos rfl]
    refine wpAny_bind (wpAny_askSetting (wpAny_pure ?_))
    rw [pick1]
    exact wpAny_pure (h1 hb)
  | false =>
    rw [if_neg (by simp)]
    refine wpAny_ite_false (by rfl) ?_
    refine wpAny_bind (show wpAny _ _ (pure ()) _ _ _ from wpAny_pure ?_)
    exact wpAny_pure (h2 hb)
theorem next_setT {I S : Addr} {Q : Option Value → Shared → Prop} (hI : s.heap.get? I = some (itT S 0 0)) (hne : S ≠ I) (ho : s.heap.get? S = some (setT (!byT w) 1))
    (h : ∀ h' k, h'.get? I = some (itT S k 1) → Heap.SameBut I s.heap h' → (byT w = true ∨ k = 2) → Q (some (.bool true)) { s with heap := h' }) : wpAny (model prog w) A (pyNext (.ref I)) Q E s := by
  have hT : s.TypeIs (.ref I) "set_iterator" := ⟨_, hI, rfl⟩
  unfold pyNext
  refine wpAny_bind (wpAny_attempt (wpAny_callSpecial?_slot (name := Str.ofString "__next__") hT slot_seti_next (wpAny_call_entry slot_seti_next hT entry_seti_next ?_ (args_seti_next _))))
  unfold Builtin.«set_iterator.__next__»
  refine wpAny_bind (wpAny_of_eq (a := (.ref I, [])) (by rfl) ?_)
  dsimp only
  unfold fieldsOf
  dsimp only
  refine wpAny_bind (wpAny_bind (wpAny_load hI (wpAny_pure ?_)))
  dsimp only
  unfold setEntries
  refine wpAny_bind (wpAny_bind (wpAny_setState_of ho rfl (by cases byT w <;> rfl) (wpAny_pure ?_)))
  rw [if_neg (by simp)]
  try dsimp only
  have fin : ∀ (k : Nat) (E' : Value → Shared → Prop), (byT w = true ∨ (k : Int) = 2) → wpAny (model prog w) A.in1 (do
      setField (Value.ref I) 0 (rawInt ↑k)
      setField (Value.ref I) 1 (rawInt (0 + 1))
      ret (.bool true)) (fun fin s' => ∃ v, fin = Fin.done (Flow.ret v) ∧ wpAny (model prog w) A (pure (some v)) Q E s') E' s := fun k E' hk => by
    refine wpAny_bind (wpAny_setField_rec hI (by simp) fun h1 e1 b1 => ?_)
    refine wpAny_bind (wpAny_setField_rec (s := { s with heap := h1 }) e1 (by simp) fun h2 e2 b2 => ?_)
    exact wpAny_pure ⟨_, rfl, wpAny_pure (h h2 k e2 (b1.trans b2) hk)⟩
  refine wpAny_bind (setNextT ho (fun hb => ?_) fun hb => ?_)
  · exact fin 0 _ (.inl hb)
  · exact fin 2 _ (.inr rfl)
theorem next_endT {I S : Addr} {k : Int} {Q : Option Value → Shared → Prop} (hh : A.handled = none) (hI : s.heap.get? I = some (itT S k 1)) (hk : byT w = true ∨ k = 2) (hne : S ≠ I) (ho : s.heap.get? S = some (setT (!byT w) 1))
    (h : ∀ h', Heap.ExtBut I s.heap h' → Q none { s with heap := h' }) : wpAny (model prog w) A (pyNext (.ref I)) Q E s := by
  have hT : s.TypeIs (.ref I) "set_iterator" := ⟨_, hI, rfl⟩
  unfold pyNext
  refine wpAny_bind (wpAny_attempt (wpAny_callSpecial?_slot (name := Str.ofString "__next__") hT slot_seti_next (wpAny_call_entry slot_seti_next hT entry_seti_next ?_ (args_seti_next _))))
  unfold Builtin.«set_iterator.__next__»
  refine wpAny_bind (wpAny_of_eq (a := (.ref I, [])) (by rfl) ?_)
  unfold fieldsOf
  dsimp only
  refine wpAny_bind (wpAny_bind (wpAny_load hI (wpAny_pure ?_)))
  dsimp only
  unfold setEntries
  refine wpAny_bind (wpAny_bind (wpAny_setState_of ho rfl (by cases byT w <;> rfl) (wpAny_pure ?_)))
  rw [if_neg (by simp)]
  try dsimp only
  have fin : wpAny (model prog w) A.in1 (do
      setField (Value.ref I) 2 Value.none
      let e ← newExc (Value.type "StopIteration") []
      raiseNew e) (fun fin s' => ∃ v, fin = Fin.done (Flow.ret v) ∧ wpAny (model prog w) A (pure (some v)) Q E s') (fun e s' => wpAny (model prog w) A (do let x ← isInstance e (Value.type "StopIteration"); if x = true then pure none else throw e) Q E s') s := by
    refine wpAny_bind (wpAny_setField_rec hI (by simp) fun h1 e1 b1 => ?_)
    refine wpAny_bind ?_
    simp only [newExc, newTuple]
    refine wpAny_bind (wpAny_newObj_type ?_ (by size_fits))
    refine wpAny_bind (m := firstArgMember _ _) (wpAny_of_eq (a := Value.none) (by first | rfl | (simp only [firstArgMember]; rfl)) ?_)
    refine wpAny_newObj_type ?_ (by size_fits)
    simp only [raiseNew]
    refine wpAny_bind (wpAny_handled ?_)
    rw [show A.in1.handled = none from hh]
    refine wpAny_bind (wpAny_pure (wpAny_throw ?_))
    refine wpAny_bind (wpAny_isInstance (T := "StopIteration") (b := true) ⟨_, Heap.get?_push_size _ rfl, rfl⟩ isSubtype_stop ?_)
    exact wpAny_pure (h _ ((b1.extBut.push _).push _))
  refine wpAny_bind (setNextT ho (fun hb => ?_) fun hb => ?_)
  · exact fin
  · obtain rfl : k = 2 := hk.resolve_left (by rw [hb]; exact Bool.false_ne_true)
    exact fin
theorem unpack_setT {env : Env} {t : PySem.Expr} {x1} {pos : Pos} {S : Addr} {Q : Unit → Shared → Prop} (hh : A.handled = none) (ho : s.heap.get? S = some (setT (!byT w) 1))
    (hnum : (assignEach [t] env) = [(false, assign t env)])
    (h : ∀ h', (∀ b o, s.heap.get? b = some o → h'.get? b = some o) → wpAny (model prog w) A (assign t env (.bool true)) Q E { s with heap := h' }) : wpAny (model prog w) A (assign (.Tuple [t] x1 pos) env (.ref S)) Q E s := by
  have hT : s.TypeIs (.ref S) "set" := ⟨_, ho, rfl⟩
  have hSn : S ≠ s.heap.objs.size := Nat.ne_of_lt (Heap.lt_size ho)
  rw [arm_assign_Tuple]
  refine wpAny_bind (wpAny_standAt ?_)
  unfold unpack
  rw [hnum]
  refine wpAny_bind (wpAny_holding ?_)
  show wpAny _ _ (unpackItems (.ref S) 1 none) _ _ _
  unfold unpackItems
  refine wpAny_bind ?_
  unfold notIterableAtAll
  refine wpAny_bind (wpAny_specialOf hT F.slot_set_iter.lookup ?_)
  refine wpAny_pure ?_
  simp only [Bool.false_eq_true, if_false]
  refine wpAny_bind (wpAny_holding (iter_setT ho ?_))
  have h1 : ({ s with heap := s.heap.push (itT S 0 0) } : Shared).heap.get? s.heap.objs.size = some (itT S 0 0) := Heap.get?_push_size _ rfl
  refine wpAny_bind (wpAny_holding ?_)
  show wpAny _ _ (pyNext _ >>= _) _ _ _
  refine wpAny_bind (next_setT h1 hSn (Heap.get?_push_of_some _ ho) fun h2 k e2 b2 hk => ?_)
  refine wpAny_bind (wpAny_holding ?_)
  show wpAny _ _ (pure []) _ _ _
  refine wpAny_pure (wpAny_pure ?_)
  rw [if_neg (by simp)]
  have o2 : h2.get? S = some (setT (!byT w) 1) := b2.extBut _ _ hSn (Heap.get?_push_of_some _ ho)
  refine wpAny_bind (wpAny_holding (next_endT (s := { s with heap := h2 }) hh e2 hk hSn o2 fun h3 b3 => ?_))
  simp only [Option.isSome_none, Bool.false_eq_true, if_false]
  refine wpAny_pure ?_
  show wpAny _ _ (holding _ (assign t env (.bool true)) >>= _) _ _ _
  refine wpAny_bind (wpAny_holding (wpAny_mono (h h3 fun b o e => ?_) (fun _ _ x => wpAny_pure x) fun _ _ x => x))
  have hb : b ≠ s.heap.objs.size := Nat.ne_of_lt (Heap.lt_size e)
  exact b3 b o hb (b2.extBut b o hb (Heap.get?_push_of_some _ e))
end
theorem part_off_26 : True := by w_top off; trivial
section
open PyProof.Rows.LCg
variable {prog : Program} {w : World} {A : Around} {E : Value → Shared → Prop} {s : Shared} {h₀ : Heap} {L : Addr} {m : Str → Option Value} {env : Env} {R : Result → Shared → Prop}
theorem setStart {elt target iter ifs rest scope pos it acc env}
    (h0 : codeAny (model prog w) A (.compLoop (.SetComp elt (⟨target, iter, ifs, 0⟩ :: rest) scope pos) 0 it acc env) R s)
    (h : wpAny (model prog w) A (pyIter it) (fun it' s' => codeAny (model prog w) A (.compLoop (.SetComp elt (⟨target, iter, ifs, 0⟩ :: rest) scope pos) 0 it' acc env) R s')
      (notedBy (model prog w) A env fun x s' => R (.error x) s') s) :
    codeAny (model prog w) A (.compStart (.SetComp elt (⟨target, iter, ifs, 0⟩ :: rest) scope pos) 0 it acc env) R s := by
  refine codeAny_of_tree ?_
  show wpAny _ _ ((compStart (.SetComp elt (⟨target, iter, ifs, 0⟩ :: rest) scope pos) 0 it acc env).onRaise (fun x => do noteFrame x env; standAt theWindowsPlace)) _ _ s
  refine wpAny_notedAt ?_
  unfold compStart
  show wpAny _ _ (ask >>= _) _ _ s
  refine wpAny_bind (wpAny_askSetting (wpAny_ite ?_))
  split
  · first
      | exact wpAny_bind (wpAny_pure (wpAny_pure (And.intro rfl h0)))
      | exact wpAny_pure (And.intro rfl h0)
  · refine wpAny_bind (wpAny_rule ?_)
    show wpAny _ _ (standAt iter.pos >>= _) _ _ s
    exact wpAny_bind (wpAny_standAt (wpAny_bind (wpAny_mono h (fun it' s' h' => wpAny_pure (And.intro rfl h')) fun _ _ x => x)))
theorem setTurn (elt target iter : PySem.Expr) (scope : Scope) (pos : Pos) (it acc : Value) (env : Env) :
    compTurn (.SetComp elt [⟨target, iter, [], 0⟩] scope pos) 0 it acc env = (standAt iter.pos >>= fun _ => pyNext it >>= fun r => match r with
      | none => pure (.done .next)
      | some v => letOwnedTupleGo target it v >>= fun _ => assign target env v >>= fun _ =>
        (eval elt env >>= fun x => standAt elt.pos >>= fun _ => call (.builtin "set.add") [acc, x] >>= fun _ => pure ()) >>= fun _ =>
          again (.compLoop (.SetComp elt [⟨target, iter, [], 0⟩] scope pos) 0 it acc env)) := by rfl
theorem setLoop {elt target iter : PySem.Expr} {scope : Scope} {pos : Pos} {it acc : Value} {env : Env} (I : Nat → Shared → Prop)
    (turn : ∀ n s, I n s → wpAny (model prog w) A (pyNext it) (fun r s₁ => match r with
      | none => R (.ok .next) s₁
      | some v => wpAny (model prog w) A (assign target env v) (fun _ s₂ => wpAny (model prog w) A (eval elt env) (fun x s₃ =>
          wpAny (model prog w) A (call (.builtin "set.add") [acc, x]) (fun _ s₄ => ∃ m, m < n ∧ I m s₄) (notedBy (model prog w) A env fun e s' => R (.error e) s') s₃)
          (notedBy (model prog w) A env fun e s' => R (.error e) s') s₂) (notedBy (model prog w) A env fun e s' => R (.error e) s') s₁) (notedBy (model prog w) A env fun e s' => R (.error e) s') s)
    (n : Nat) (h : I n s) (ht : ∀ v, letOwnedTupleGo target it v = pure () := by intro _; rfl) :
    codeAny (model prog w) A (.compLoop (.SetComp elt [⟨target, iter, [], 0⟩] scope pos) 0 it acc env) R s := by
  refine codeAny_loop rfl I (fun n s hI => ?_) n h
  show wpAny _ _ ((compTurn (.SetComp elt [⟨target, iter, [], 0⟩] scope pos) 0 it acc env).onRaise (fun x => do noteFrame x env; theTreesLotGoes x)) _ _ s
  refine wpAny_noted ?_
  rw [setTurn]
  refine wpAny_bind (wpAny_standAt (wpAny_bind (wpAny_mono (turn n s hI) (fun r s₁ h₁ => ?_) fun _ _ h' => h')))
  cases r with
  | none => exact wpAny_pure h₁
  | some v =>
    refine wpAny_bind (wpAny_of_eq (ht v) ?_)
    exact wpAny_bind (wpAny_mono h₁ (fun _ s₂ h₂ => wpAny_bind (wpAny_bind (wpAny_mono h₂ (fun x s₃ h₃ => wpAny_bind (wpAny_standAt (wpAny_bind (wpAny_mono h₃
      (fun _ s₄ h₄ => wpAny_pure (wpAny_pure ⟨rfl, h₄⟩)) fun _ _ h' => h')))) fun _ _ h' => h'))) fun _ _ h' => h')
theorem newSetT {Q : Value → Shared → Prop} (h : Q (.ref s.heap.objs.size) { s with heap := s.heap.push { cls := .type "set", dict := none, data := .set #[] 0 (.fresh 0 0 (!byT w)) } }) :
    wpAny (model prog w) A (newSet (.type "set")) Q E s := by
  unfold newSet setsByText
  refine wpAny_bind (wpAny_bind (wpAny_askSetting (wpAny_pure ?_)))
  dsimp only
  simp only [newObj]
  exact wpAny_bind (wpAny_alloc (wpAny_pure h))
theorem eval_SetComp (elt gens scope pos) : eval (.SetComp elt gens scope pos) env =
    comprehension (.SetComp elt gens scope pos) scope env (firstIterPos gens pos) (newSet (.type "set")) (firstAsync gens) (firstIter gens env) := rfl
abbrev accT (w : World) : Nat → Obj
  | 0 => { cls := .type "set", dict := none, data := .set #[] 0 (.fresh 0 0 (!byT w)) }
  | _ + 1 => setT (!byT w) 1
theorem set_block {elt iter : PySem.Expr} {x : Str} {px : Pos} {scope : Scope} {cl : List (Str × Addr)} {pos : Pos} {s₂ : Shared} {I ax : Addr} {its : Array Value} {news : List (Addr × Obj)} {RR : Value → Addr → Result → Shared → Prop} (hh : A.handled = none)
    (hcell : ∀ y ∈ scope.names, y.2 ≠ .cell) (hkind : scope.kind = .function) (hx : scope.names.lookup x = some .local) (hit : s₂.heap.IsTupleIter I ax 0) (ht : s₂.heap.IsTuple ax its) (hax : ax ≠ I)
    (F : Fr h₀ L s₂.heap m) (N : News h₀ L s₂.heap news) (hIL : L ≠ I) (hI₀ : h₀.get? I = none) (off : ∀ p ∈ news, p.1 ≠ I) (hpos : 0 < its.size)
    (helt : ∀ (i : Nat) (v : Value) C oC D oD m₂ h tk (E' : Value → Shared → Prop), its[i]? = some v → NsObj oC m₂ → m₂ x = some v → Fr h₀ L h m → News h₀ L h ((C, oC) :: (D, oD) :: news) →
        wpAny (model prog w) A (eval elt (compEnvC scope cl C env)) (fun y s' => y = .bool true ∧ ∃ tk', s' = { s₂ with heap := h, toks := tk' }) E' { s₂ with heap := h, toks := tk })
    (hRR : ∀ D C h tk m', Fr h₀ L h m → News h₀ L h ((D, setT (!byT w) 1) :: news) → (∀ p ∈ news, p.1 ≠ D) → h.Ns C m' → h₀.get? C = none → C ≠ L → C ≠ D → (∀ p ∈ news, p.1 ≠ C) → RR (.ref D) C (.ok .next) { s₂ with heap := h, toks := tk }) :
    wpAny (model prog w) A (newSet (.type "set")) (fun acc s₃ => wpAny (model prog w) A (newFunctionEnv scope env.globals cl [] env.qual none .none (some env)) (fun cenv s₄ =>
      codeAny (model prog w) A (.compStart (.SetComp elt [⟨.Name x px, iter, [], 0⟩] scope pos) 0 (.ref I) acc { cenv with scope := relabel scope env }) (RR acc cenv.locals) s₄) E s₃) E s₂ := by
  have W := Walks.tuple (prog := prog) (w := w) hh I ax hax its
  refine newSetT (wpAny_newFunctionEnv hcell (by intro y hy; simp at hy) (fun h₁ hns₁ hsb₁ => ?_) hkind)
  dsimp only at hns₁ hsb₁ ⊢
  generalize hH2 : s₂.heap.push { cls := .type "set", dict := none, data := .set #[] 0 (.fresh 0 0 (!byT w)) } = H2 at hns₁ hsb₁ ⊢
  have hC : H2.objs.size = s₂.heap.objs.size + 1 := by rw [← hH2, Heap.size_push]
  have hDC : s₂.heap.objs.size ≠ H2.objs.size := by rw [hC]; exact Nat.ne_of_lt (Nat.lt_succ_self _)
  have below : ∀ b, b < s₂.heap.objs.size → b ≠ H2.objs.size ∧ b ≠ s₂.heap.objs.size := fun b hb => ⟨by rw [hC]; exact Nat.ne_of_lt (Nat.lt_succ_of_lt hb), Nat.ne_of_lt hb⟩
  have hIlt : I < s₂.heap.objs.size := by obtain ⟨o, e, _⟩ := hit; exact Heap.lt_size e
  have halt : ax < s₂.heap.objs.size := by obtain ⟨o, e, _⟩ := ht; exact Heap.lt_size e
  have old : ∀ b o, s₂.heap.get? b = some o → h₁.get? b = some o := fun b o e => hsb₁.extBut b o (below b (Heap.lt_size e)).1 (Heap.get?_push_of_some _ (hH2 ▸ Heap.get?_push_of_some _ e))
  have hacc : h₁.get? s₂.heap.objs.size = some (accT w 0) := hsb₁.extBut _ _ hDC (Heap.get?_push_of_some _ (hH2 ▸ Heap.get?_push_size _ rfl))
  have fresh : ∀ a, s₂.heap.objs.size ≤ a → s₂.heap.get? a = none := fun a ha => by
    cases e : s₂.heap.get? a with
    | none => rfl
    | some o' => exact absurd (Heap.lt_size e) (Nat.not_lt.mpr ha)
  have fresh₀ : ∀ a, s₂.heap.objs.size ≤ a → h₀.get? a = none := fun a ha => by
    cases e : h₀.get? a with
    | none => rfl
    | some o' => have := F.keep a o' e; rw [fresh a ha] at this; cases this
  have hD₀ : h₀.get? s₂.heap.objs.size = none := fresh₀ _ (Nat.le_refl _)
  have hC₀ : h₀.get? H2.objs.size = none := fresh₀ _ (by rw [hC]; exact Nat.le_succ _)
  have hLlt : L < s₂.heap.objs.size := F.ns.lt
  have hDL : s₂.heap.objs.size ≠ L := Ne.symm (below L hLlt).2
  have hCL : H2.objs.size ≠ L := Ne.symm (below L hLlt).1
  have hCI : I ≠ H2.objs.size := (below I hIlt).1
  have hDI : I ≠ s₂.heap.objs.size := (below I hIlt).2
  have hCa : ax ≠ H2.objs.size := (below ax halt).1
  have hDa : ax ≠ s₂.heap.objs.size := (below ax halt).2
  have offC : ∀ p ∈ news, p.1 ≠ H2.objs.size := fun p hp => (below _ (Heap.lt_size (N p hp).1)).1
  have offD : ∀ p ∈ news, p.1 ≠ s₂.heap.objs.size := fun p hp => (below _ (Heap.lt_size (N p hp).1)).2
  have loop : ∀ s₃ : Shared, s₃ = { s₂ with heap := h₁, toks := s₂.toks + ([] : List (Str × Value)).length } →
      codeAny (model prog w) A (.compLoop (.SetComp elt [⟨.Name x px, iter, [], 0⟩] scope pos) 0 (.ref I) (.ref s₂.heap.objs.size) (compEnvC scope cl H2.objs.size env))
        (RR (.ref s₂.heap.objs.size) H2.objs.size) s₃ := by
    rintro s₃ rfl
    refine setLoop
      (fun k s' => ∃ h' tk i m', s' = { s₂ with heap := h', toks := tk } ∧ i ≤ its.size ∧ k = its.size + 1 - i ∧ (h'.IsTupleIter I ax i ∧ h'.IsTuple ax its) ∧ Fr h₀ L h' m ∧ h'.Ns H2.objs.size m' ∧ News h₀ L h' ((s₂.heap.objs.size, accT w i) :: news)) ?_ (its.size + 1)
      ⟨h₁, _, 0, _, rfl, Nat.zero_le _, rfl, ⟨⟨_, old _ _ hit.choose_spec.1, hit.choose_spec.2⟩, ⟨_, old _ _ ht.choose_spec.1, ht.choose_spec.2⟩⟩, F.keeps old, hns₁, fun p hp => ?_⟩
    · rintro k s' ⟨h', tk, i, m', rfl, hi, rfl, hst', F', hn', N'⟩
      by_cases hlt : i < its.size
      · refine W.item i _ _ _ hlt hst' fun v h₂ tk₂ hPv hst₂ hk₂ => ?_
        refine wpAny_assign_Name (wpAny_storeName_local (lookup_relabel_local hx) (hn'.at' fun o e => hk₂ _ o (by simpa using Ne.symm hCI) e) (fun h₃ hn₃ hs₃ => ?_) (by simp [compEnvC, relabel, hkind]))
        have hst₃ : h₃.IsTupleIter I ax (i + 1) ∧ h₃.IsTuple ax its := W.frame _ _ _ hst₂ fun b hb o e => hs₃.extBut b o (fun q => by
          rcases List.mem_cons.mp hb with rfl | hb
          · exact hCI q
          · rw [List.mem_singleton.mp hb] at q; exact hCa q) e
        obtain ⟨oC, heC, hoC⟩ := ns_obj hn₃
        have F₃ : Fr h₀ L h₃ m := (fr_but F' hk₂ hIL hI₀).change hs₃ hCL hC₀
        have N₂ : News h₀ L h₂ ((s₂.heap.objs.size, accT w i) :: news) := news_but N' hk₂ fun p hp => by
          rcases List.mem_cons.mp hp with rfl | hp
          · exact Ne.symm hDI
          · exact off p hp
        have N₃ : News h₀ L h₃ ((H2.objs.size, oC) :: (s₂.heap.objs.size, accT w i) :: news) := fun p hp => by
          rcases List.mem_cons.mp hp with rfl | hp
          · exact ⟨heC, hCL, hC₀⟩
          · have z := N₂ p hp
            refine ⟨hs₃.extBut _ _ ?_ z.1, z.2⟩
            rcases List.mem_cons.mp hp with rfl | hp
            · exact hDC
            · exact offC p hp
        refine wpAny_mono (helt i v H2.objs.size oC s₂.heap.objs.size _ _ h₃ _ _ hPv hoC (by simp) F₃ N₃) (fun y s₄ h₄ => ?_) fun _ _ e => e
        obtain ⟨rfl, tk₄, rfl⟩ := h₄
        have zC := (N₃ (H2.objs.size, oC) List.mem_cons_self).1
        have zD := (N₃ (s₂.heap.objs.size, accT w i) (List.mem_cons_of_mem _ List.mem_cons_self)).1
        have N₃' : News h₀ L h₃ news := fun p hp => N₃ p (List.mem_cons_of_mem _ (List.mem_cons_of_mem _ hp))
        cases i with
        | zero =>
          refine add_true0 zD fun h₅ tk₅ hs₅ hD₅ => ?_
          refine ⟨its.size + 1 - 1, by omega, h₅, tk₅, 1, _, rfl, hlt, rfl, W.frame _ _ _ hst₃ fun b hb o e => hs₅.extBut b o (fun q => by
            rcases List.mem_cons.mp hb with rfl | hb
            · exact hDI q
            · rw [List.mem_singleton.mp hb] at q; exact hDa q) e, F₃.change hs₅ hDL hD₀, (hoC.ns zC).sameBut hs₅ (Ne.symm hDC), fun p hp => ?_⟩
          rcases List.mem_cons.mp hp with rfl | hp
          · exact ⟨hD₅, hDL, hD₀⟩
          · exact ⟨hs₅.extBut _ _ (offD p hp) (N₃' p hp).1, (N₃' p hp).2⟩
        | succ i =>
          refine add_true1 zD fun tk₅ => ?_
          exact ⟨its.size + 1 - (i + 1 + 1), by omega, h₃, tk₅, i + 1 + 1, _, rfl, hlt, rfl, hst₃, F₃, hoC.ns zC, fun p hp => N₃ p (List.mem_cons_of_mem _ hp)⟩
      · obtain rfl : i = its.size := Nat.le_antisymm hi (Nat.not_lt.mp hlt)
        refine W.done _ _ _ hst' fun h₂ tk₂ hk₂ => ?_
        have e1 : accT w its.size = setT (!byT w) 1 := by cases hq : its.size with | zero => omega | succ n => rfl
        have N₂ := news_but N' hk₂ fun p hp => by
          rcases List.mem_cons.mp hp with rfl | hp
          · exact Ne.symm hDI
          · exact off p hp
        rw [e1] at N₂
        exact hRR _ _ h₂ tk₂ _ (fr_but F' hk₂ hIL hI₀) N₂ offD (hn'.at' fun o e => hk₂ _ o (by simpa using Ne.symm hCI) e) hC₀ hCL (Ne.symm hDC) offC
    · rcases List.mem_cons.mp hp with rfl | hp
      · exact ⟨hacc, hDL, hD₀⟩
      · exact ⟨old _ _ (N p hp).1, (N p hp).2⟩
  exact setStart (loop _ rfl) (W.self 0 _ _ _ ⟨⟨_, old _ _ hit.choose_spec.1, hit.choose_spec.2⟩, ⟨_, old _ _ ht.choose_spec.1, ht.choose_spec.2⟩⟩ (loop _ rfl))
theorem SetComp_T {elt iter : PySem.Expr} {x : Str} {px : Pos} {scope : Scope} {cl : List (Str × Addr)} {pos : Pos} {Q : Value → Shared → Prop} (_F₀ : Fr h₀ L s.heap m) (hh : A.handled = none)
    (hclos : closureFor scope env = pure cl) (hcell : ∀ y ∈ scope.names, y.2 ≠ .cell) (hkind : scope.kind = .function)
    (hnames : ∀ y ∈ scope.names, y.2 = .local → scope.names.lookup y.1 = some .local) (hx : scope.names.lookup x = some .local)
    (h : wpAny (model prog w) A (eval iter env) (fun xv s₁ => ∃ ax its news, xv = .ref ax ∧ Fr h₀ L s₁.heap m ∧ News h₀ L s₁.heap news ∧ (ax, tupV its) ∈ news ∧ 0 < its.size ∧
      (∀ (i : Nat) (v : Value) C oC D oD m₂ h tk (E' : Value → Shared → Prop), its[i]? = some v → NsObj oC m₂ → m₂ x = some v → Fr h₀ L h m → News h₀ L h ((C, oC) :: (D, oD) :: news) →
        wpAny (model prog w) A (eval elt (compEnvC scope cl C env)) (fun y s' => y = .bool true ∧ ∃ tk', s' = { s₁ with heap := h, toks := tk' }) E' { s₁ with heap := h, toks := tk }) ∧
      (∀ D h' tk, Fr h₀ L h' m → News h₀ L h' ((D, setT (!byT w) 1) :: news) → (∀ p ∈ news, p.1 ≠ D) → Q (.ref D) { s₁ with heap := h', toks := tk })) E s)
    (hs : ∀ x, foldedSetIterable iter env x = pure x := by intro _; rfl) :
    wpAny (model prog w) A (eval (.SetComp elt [⟨.Name x px, iter, [], 0⟩] scope pos) env) Q E s := by
  rw [eval_SetComp]
  refine wpAny_comprehension_free (use := none) rfl hs hclos hkind hnames (wpAny_mono h (fun xv s₁ h₁ => ?_) fun _ _ e => e)
  obtain ⟨ax, its, news, rfl, F, N, hm, hpos, helt, hfin⟩ := h₁
  have ht : s₁.heap.IsTuple ax its := ⟨_, N.get hm, rfl, _, rfl⟩
  have hlt : ax < s₁.heap.objs.size := Heap.lt_size (N.get hm)
  refine wpAny_pyIter_tuple ht ?_
  have up : ∀ b o, s₁.heap.get? b = some o → (s₁.heap.push { cls := .type "tuple_iterator", data := .fields #[.ref ax, .int 0 0] }).get? b = some o := fun b o e => Heap.get?_push_of_some _ e
  refine set_block hh hcell hkind hx ⟨_, Heap.get?_push_size _ rfl, rfl, rfl⟩ (ht.push _) (Nat.ne_of_lt hlt) (F.push _) (N.grown up) (Nat.ne_of_lt F.ns.lt) (next_is_new F) (fun p hp => Nat.ne_of_lt (Heap.lt_size (N p hp).1)) hpos helt ?_
  intro D C h tk m' F' N' offD hn hC₀ hCL hCD offC
  refine ⟨m', hn, fun h'' hs'' => hfin D h'' tk (F'.change hs'' hCL hC₀) (fun p hp => ?_) offD⟩
  refine ⟨hs''.extBut _ _ ?_ (N' p hp).1, (N' p hp).2⟩
  rcases List.mem_cons.mp hp with rfl | hp
  · exact Ne.symm hCD
  · exact offC p hp
end
theorem part_off_27 : True := by w_top off; trivial
inductive All2 {α β : Type} (R : α → β → Prop) : List α → List β → Prop
  | nil : All2 R [] []
  | cons {a : α} {b : β} {x : List α} {y : List β} : R a b → All2 R x y → All2 R (a :: x) (b :: y)
theorem All2.snoc {α β : Type} {R : α → β → Prop} {a : α} {b : β} {x : List α} {y : List β} (h : All2 R x y) (k : R a b) : All2 R (x ++ [a]) (y ++ [b]) := by
  induction h with
  | nil => exact .cons k .nil
  | cons h _ ih => exact .cons h ih
theorem All2.length {α β : Type} {R : α → β → Prop} {x : List α} {y : List β} (h : All2 R x y) : y.length = x.length := by
  induction h with
  | nil => rfl
  | cons _ _ ih => simp [ih]
theorem All2.get {α β : Type} {R : α → β → Prop} {x : List α} {y : List β} (h : All2 R x y) : ∀ (i : Nat) (a : α), x[i]? = some a → ∃ b, y[i]? = some b ∧ R a b := by
  induction h with
  | nil => intro i a e; simp at e
  | cons k _ ih =>
    intro i a e
    cases i with
    | zero => simp only [List.getElem?_cons_zero, Option.some.injEq] at e; subst e; exact ⟨_, rfl, k⟩
    | succ i => simpa using ih i a (by simpa using e)
theorem All2.strs {x : List Str} {y : List Value} (h : All2 (fun s v => ∃ t, v = .str s t) x y) : StrsAre y x := by
  induction h with
  | nil => exact .nil
  | cons k _ ih => obtain ⟨t, rfl⟩ := k; exact .cons _ _ ih
theorem All2.ints {x : List Int} {y : List Value} (h : All2 (fun i v => ∃ t, v = .int i t) x y) : IntsAre y x := by
  induction h with
  | nil => exact .nil
  | cons k _ ih => obtain ⟨t, rfl⟩ := k; exact .cons _ _ ih
/-- how an element ends: the ledger as it stood -/
def EltP (h₀ : Heap) (L : Addr) (m : Str → Option Value) (s : Shared) (N : List (Addr × Obj)) (G : Value → Prop) (y : Value) (s' : Shared) : Prop := G y ∧ ∃ h' tk', s' = { s with heap := h', toks := tk' } ∧ Fr h₀ L h' m ∧ News h₀ L h' N
/-- how a test ends -/
def TstP (b : Bool) (K J : Shared → Prop) (ok : Bool) (s' : Shared) : Prop := ok = b ∧ if ok = true then K s' else J s'
theorem TstP.yes {b : Bool} {K J : Shared → Prop} {s' : Shared} (h : b = true) (k : K s') : TstP b K J true s' := ⟨h.symm, by rw [if_pos rfl]; exact k⟩
theorem TstP.no {b : Bool} {K J : Shared → Prop} {s' : Shared} (h : b = false) (k : J s') : TstP b K J false s' := ⟨h.symm, by rw [if_neg Bool.false_ne_true]; exact k⟩
section
open PyProof.Rows.LCg
variable {prog : Program} {w : World} {A : Around} {s : Shared} {h₀ : Heap} {L : Addr} {m : Str → Option Value} {env : Env} {α : Type}
theorem turnsT {ct elt : PySem.Expr} {x : Str} {scope : Scope} {cl : List (Str × Addr)} {S : List (Addr × Obj) → Prop} {P : Nat → Value → Prop} {Fin : List Value → List (Addr × Obj) → Prop} {news : List (Addr × Obj)} {n : Nat}
    (as : List α) (Src G : α → Value → Prop) (f : α → Bool) (hn : n = as.length) (hS : S news) (hsrc : ∀ i v, P i v → ∃ a, as[i]? = some a ∧ Src a v)
    (turn : ∀ a v I oI C oC D ys m₂ h tk (E' : Value → Shared → Prop), a ∈ as → Src a v → NsObj oC m₂ → m₂ x = some v → Fr h₀ L h m → News h₀ L h ((I, oI) :: (C, oC) :: (D, LCg.lst ys) :: news) → Off3 I C D news →
      wpAny (model prog w) A (isTrue ct (compEnvC scope cl C env) (eval ct (compEnvC scope cl C env))) (TstP (f a) (fun s' => wpAny (model prog w) A (eval elt (compEnvC scope cl C env)) (EltP h₀ L m s ((I, oI) :: (C, oC) :: (D, LCg.lst ys) :: news) (G a)) E' s') (EltP h₀ L m s ((I, oI) :: (C, oC) :: (D, LCg.lst ys) :: news) (fun _ => True) Value.none)) E' { s with heap := h, toks := tk })
    (fin : ∀ ys, All2 G (as.filter f) ys → Fin ys news) : LCt.CompRestT prog w A h₀ L m env ct elt x scope cl s S P Fin n 0 [] news := by
  subst hn
  have key : ∀ k i ys, k + i = as.length → All2 G ((as.take i).filter f) ys → LCt.CompRestT prog w A h₀ L m env ct elt x scope cl s S P Fin k i ys news := by
    intro k
    induction k with
    | zero =>
      intro i ys hk hys
      have e : as.take i = as := List.take_of_length_le (by omega)
      rw [e] at hys
      exact fin ys hys
    | succ k ih =>
      intro i ys hk hys
      refine LCt.CompRestT.succ fun v I oI C oC D m₂ h tk E' hP hC hx F N off ne => ?_
      obtain ⟨a, ha, hv⟩ := hsrc i v hP
      have et : as.take (i + 1) = as.take i ++ [a] := by rw [List.take_add_one, ha]; rfl
      refine wpAny_mono (turn a v I oI C oC D ys m₂ h tk E' (List.mem_of_getElem? ha) hv hC hx F N off) (fun ok s' hq => ?_) fun _ _ e => e
      obtain ⟨hok, hq⟩ := hq
      cases ok with
      | true =>
        rw [if_pos rfl] at hq ⊢
        refine wpAny_mono hq (fun y s'' hy => ?_) fun _ _ e => e
        obtain ⟨hG, h', tk', rfl, F', N'⟩ := hy
        exact CompEnd.intro F' N' news (fun p hp => hp) off hS (ih (i + 1) _ (by omega) (by rw [et, List.filter_append, List.filter_cons, ← hok]; exact hys.snoc hG))
      | false =>
        rw [if_neg Bool.false_ne_true] at hq ⊢
        obtain ⟨_, h', tk', rfl, F', N'⟩ := hq
        exact CompEnd.intro F' N' news (fun p hp => hp) off hS (ih (i + 1) _ (by omega) (by rw [et, List.filter_append, List.filter_cons, ← hok]; simpa using hys))
  exact key _ 0 [] (Nat.add_zero _) .nil
theorem turns {elt : PySem.Expr} {x : Str} {scope : Scope} {cl : List (Str × Addr)} {S : List (Addr × Obj) → Prop} {P : Nat → Value → Prop} {Fin : List Value → List (Addr × Obj) → Prop} {news : List (Addr × Obj)} {n : Nat}
    (as : List α) (Src G : α → Value → Prop) (hn : n = as.length) (hS : S news) (hsrc : ∀ i v, P i v → ∃ a, as[i]? = some a ∧ Src a v)
    (turn : ∀ a v I oI C oC D ys m₂ h tk (E' : Value → Shared → Prop), a ∈ as → Src a v → NsObj oC m₂ → m₂ x = some v → Fr h₀ L h m → News h₀ L h ((I, oI) :: (C, oC) :: (D, LCg.lst ys) :: news) → Off3 I C D news →
      wpAny (model prog w) A (eval elt (compEnvC scope cl C env)) (EltP h₀ L m s ((I, oI) :: (C, oC) :: (D, LCg.lst ys) :: news) (G a)) E' { s with heap := h, toks := tk })
    (fin : ∀ ys, All2 G as ys → Fin ys news) : CompRest prog w A h₀ L m env elt x scope cl s S P Fin n 0 [] news := by
  subst hn
  have key : ∀ k i ys, k + i = as.length → All2 G (as.take i) ys → CompRest prog w A h₀ L m env elt x scope cl s S P Fin k i ys news := by
    intro k
    induction k with
    | zero =>
      intro i ys hk hys
      have e : as.take i = as := List.take_of_length_le (by omega)
      rw [e] at hys
      exact fin ys hys
    | succ k ih =>
      intro i ys hk hys
      refine CompRest.succ fun v I oI C oC D m₂ h tk E' hP hC hx F N off ne => ?_
      obtain ⟨a, ha, hv⟩ := hsrc i v hP
      have et : as.take (i + 1) = as.take i ++ [a] := by rw [List.take_add_one, ha]; rfl
      refine wpAny_mono (turn a v I oI C oC D ys m₂ h tk E' (List.mem_of_getElem? ha) hv hC hx F N off) (fun y s'' hy => ?_) fun _ _ e => e
      obtain ⟨hG, h', tk', rfl, F', N'⟩ := hy
      exact CompEnd.intro F' N' news (fun p hp => hp) off hS (ih (i + 1) _ (by omega) (by rw [et]; exact hys.snoc hG))
  exact key _ 0 [] (Nat.add_zero _) .nil
end
theorem part_off_28 : True := by w_top off; trivial
/-- the order of two lists of strs -/
def ltS : List Str → List Str → Bool
  | [], [] => false
  | [], _ :: _ => true
  | _ :: _, [] => false
  | a :: x, b :: y => if a = b then ltS x y else decide (a.cps.toList < b.cps.toList)
theorem strs_at {vs : Array Value} {ss : List Str} (h : StrsAre vs.toList ss) {i : Nat} (hi : i < ss.length) : ∃ t, vs[i]? = some (.str ss[i] t) := by
  obtain ⟨t, ht⟩ := h.get i ss[i] (List.getElem?_eq_getElem hi)
  exact ⟨t, by simpa using ht⟩
theorem strs_end {vs : Array Value} {ss : List Str} (h : StrsAre vs.toList ss) {i : Nat} (hi : ss.length ≤ i) : vs[i]? = none := by
  rw [Array.getElem?_eq_none_iff, ← Array.length_toList, h.length]; exact hi
theorem ltS_nil_left {x : List Str} : ltS [] x = decide (0 < x.length) := by cases x <;> rfl
theorem ltS_nil_right {x : List Str} : ltS x [] = false := by cases x <;> rfl
theorem ltS_drop {x y : List Str} {i : Nat} (hi : i < x.length) (hj : i < y.length) : ltS (x.drop i) (y.drop i) = if x[i] = y[i] then ltS (x.drop (i + 1)) (y.drop (i + 1)) else decide (x[i].cps.toList < y[i].cps.toList) := by
  rw [List.drop_eq_getElem_cons hi, List.drop_eq_getElem_cons hj]; rfl
section
variable {prog : Program} {w : World} {A : Around} {E : Value → Shared → Prop} {s : Shared} {x y : Str} {t u : Tok}
theorem lt_strR {Q : Value → Shared → Prop} (h : Q (.bool (decide (x.cps.toList < y.cps.toList))) s) : wpAny (model prog w) A (richCompare .Lt (.str x t) (.str y u)) Q E s := lt_str h
theorem gt_strR {Q : Value → Shared → Prop} (h : Q (.bool (decide (y.cps.toList < x.cps.toList))) s) : wpAny (model prog w) A (richCompare .Gt (.str x t) (.str y u)) Q E s :=
  wpAny_richCompare_same (op := .Gt) (T := "str") rfl rfl F.slot_str_gt
    (wpAny_call_entry F.slot_str_gt rfl F.entry_str_gt (show wpAny _ _ (ret (.bool (decide (x.cps.toList > y.cps.toList)))) _ _ s from wpAny_pure ⟨_, rfl, by simp, h⟩) (F.args_str_gt_2 _ _))
end
open SeqAt MeetsSeq MeetsSeq2 MeetsSeq3 AutoSeq1 in
theorem lt_loopAt (l b : Addr) (items items2 : Array Value) (n n2 : Nat) (ss ts : List Str) (hs : StrsAre items.toList ss) (ht : StrsAre items2.toList ts) (k : Nat) :
    ∀ i : Nat, ss.length - i = k → i ≤ ss.length → i ≤ ts.length → Meets (Builtin.«list.__eq__.loop» ⟨[.ref l, .ref b, rawInt i, rawInt 0], []⟩)
      (fun A R s => s.heap.get? l = some (W.listOf items n) ∧ s.heap.get? b = some (W.listOf items2 n2) ∧ R (.ok (.ret (.bool (ltS (ss.drop i) (ts.drop i))))) s) := by
  have hsl : items.size = ss.length := by rw [← hs.length, Array.length_toList]
  have htl : items2.size = ts.length := by rw [← ht.length, Array.length_toList]
  induction k with
  | zero =>
    intro i hk hi hj prog w A R s h
    obtain ⟨hp, g, d, tk, os⟩ := s; obtain ⟨hl, hb, h⟩ := h
    have hi0 : ss.length = i := by omega
    wp_walk using wpAny_loadPart' hl, wpAny_loadPart' hb
    have hi1 : items[((i : Nat) : Int).toNat]? = none := strs_end hs (by simp; omega)
    rw [hi1]
    wp_walk using wpAny_loadPart' hl, wpAny_loadPart' hb
    show R (.ok (.ret (.bool (decide (items.size < items2.size))))) _
    have e : ss.drop i = [] := List.drop_eq_nil_of_le (by omega)
    rw [e] at h
    rw [ltS_nil_left, List.length_drop] at h
    refine (congrArg (fun q => R (.ok (.ret (.bool q))) _) ?_).mp h
    exact decide_eq_decide.mpr (by omega)
  | succ k ih =>
    intro i hk hi hj prog w A R s h
    obtain ⟨hp, g, d, tk, os⟩ := s; obtain ⟨hl, hb, h⟩ := h
    have hlt : i < ss.length := by omega
    obtain ⟨t1, ht1⟩ := strs_at hs hlt
    have hi1 : items[((i : Nat) : Int).toNat]? = some (.str ss[i] t1) := by simpa using ht1
    wp_walk using wpAny_loadPart' hl, wpAny_loadPart' hb
    rw [hi1]
    by_cases hj2 : i < ts.length
    · obtain ⟨t2, ht2⟩ := strs_at ht hj2
      have hi2 : items2[((i : Nat) : Int).toNat]? = some (.str ts[i] t2) := by simpa using ht2
      have hc : ((i : Int) + 1) = ((i + 1 : Nat) : Int) := by push_cast; rfl
      rw [hi2]
      refine wpAny_bind (wpAny_eqBool_str ?_)
      rw [ltS_drop hlt hj2] at h
      by_cases he : ss[i] = ts[i]
      · rw [decide_eq_true he]
        rw [if_pos he] at h
        wp_walk
        rw [hc]
        exact ⟨plainId_quiet plain_eq_loop _, codeAny_builtin entry_eq_loop (by
          rw [Around.under_plainId plain_eq_loop _]
          exact ih (i + 1) (by omega) hlt hj2 prog w A R _ ⟨hl, hb, h⟩)⟩
      · rw [decide_eq_false he]
        rw [if_neg he] at h
        wp_walk using wpAny_loadPart' hl, wpAny_loadPart' hb
        rw [hi1, hi2]
        dsimp only
        refine wpAny_bind (lt_strR ?_)
        wp_walk
        exact h
    · have hj3 : ts.length = i := by omega
      have hi2 : items2[((i : Nat) : Int).toNat]? = none := strs_end ht (by simp; omega)
      rw [hi2]
      wp_walk using wpAny_loadPart' hl, wpAny_loadPart' hb
      show R (.ok (.ret (.bool (decide (items.size < items2.size))))) _
      have e : ts.drop i = [] := List.drop_eq_nil_of_le (by omega)
      rw [e] at h
      rw [ltS_nil_right] at h
      refine (congrArg (fun q => R (.ok (.ret (.bool q))) _) ?_).mp h
      exact (decide_eq_false (by omega)).symm
open SeqAt MeetsSeq MeetsSeq2 MeetsSeq3 AutoSeq1 in
theorem gt_loopAt (l b : Addr) (items items2 : Array Value) (n n2 : Nat) (ss ts : List Str) (hs : StrsAre items.toList ss) (ht : StrsAre items2.toList ts) (k : Nat) :
    ∀ i : Nat, ss.length - i = k → i ≤ ss.length → i ≤ ts.length → Meets (Builtin.«list.__eq__.loop» ⟨[.ref l, .ref b, rawInt i, rawInt 4], []⟩)
      (fun A R s => s.heap.get? l = some (W.listOf items n) ∧ s.heap.get? b = some (W.listOf items2 n2) ∧ R (.ok (.ret (.bool (ltS (ts.drop i) (ss.drop i))))) s) := by
  have hsl : items.size = ss.length := by rw [← hs.length, Array.length_toList]
  have htl : items2.size = ts.length := by rw [← ht.length, Array.length_toList]
  induction k with
  | zero =>
    intro i hk hi hj prog w A R s h
    obtain ⟨hp, g, d, tk, os⟩ := s; obtain ⟨hl, hb, h⟩ := h
    have hi0 : ss.length = i := by omega
    wp_walk using wpAny_loadPart' hl, wpAny_loadPart' hb
    have hi1 : items[((i : Nat) : Int).toNat]? = none := strs_end hs (by simp; omega)
    rw [hi1]
    wp_walk using wpAny_loadPart' hl, wpAny_loadPart' hb
    show R (.ok (.ret (.bool (decide (items.size > items2.size))))) _
    have e : ss.drop i = [] := List.drop_eq_nil_of_le (by omega)
    rw [e] at h
    rw [ltS_nil_right] at h
    refine (congrArg (fun q => R (.ok (.ret (.bool q))) _) ?_).mp h
    exact (decide_eq_false (by omega)).symm
  | succ k ih =>
    intro i hk hi hj prog w A R s h
    obtain ⟨hp, g, d, tk, os⟩ := s; obtain ⟨hl, hb, h⟩ := h
    have hlt : i < ss.length := by omega
    obtain ⟨t1, ht1⟩ := strs_at hs hlt
    have hi1 : items[((i : Nat) : Int).toNat]? = some (.str ss[i] t1) := by simpa using ht1
    wp_walk using wpAny_loadPart' hl, wpAny_loadPart' hb
    rw [hi1]
    by_cases hj2 : i < ts.length
    · obtain ⟨t2, ht2⟩ := strs_at ht hj2
      have hi2 : items2[((i : Nat) : Int).toNat]? = some (.str ts[i] t2) := by simpa using ht2
      have hc : ((i : Int) + 1) = ((i + 1 : Nat) : Int) := by push_cast; rfl
      rw [hi2]
      refine wpAny_bind (wpAny_eqBool_str ?_)
      rw [ltS_drop hj2 hlt] at h
      by_cases he : ss[i] = ts[i]
      · rw [decide_eq_true he]
        rw [if_pos he.symm] at h
        wp_walk
        rw [hc]
        exact ⟨plainId_quiet plain_eq_loop _, codeAny_builtin entry_eq_loop (by
          rw [Around.under_plainId plain_eq_loop _]
          exact ih (i + 1) (by omega) hlt hj2 prog w A R _ ⟨hl, hb, h⟩)⟩
      · rw [decide_eq_false he]
        rw [if_neg (fun e => he e.symm)] at h
        wp_walk using wpAny_loadPart' hl, wpAny_loadPart' hb
        rw [hi1, hi2]
        dsimp only
        refine wpAny_bind (gt_strR ?_)
        wp_walk
        exact h
    · have hj3 : ts.length = i := by omega
      have hi2 : items2[((i : Nat) : Int).toNat]? = none := strs_end ht (by simp; omega)
      rw [hi2]
      wp_walk using wpAny_loadPart' hl, wpAny_loadPart' hb
      show R (.ok (.ret (.bool (decide (items.size > items2.size))))) _
      have e : ts.drop i = [] := List.drop_eq_nil_of_le (by omega)
      rw [e] at h
      rw [ltS_nil_left, List.length_drop] at h
      refine (congrArg (fun q => R (.ok (.ret (.bool q))) _) ?_).mp h
      exact decide_eq_decide.mpr (by omega)
section
open SeqAt MeetsSeq MeetsSeq2 MeetsSeq3 AutoSeq1
variable {prog : Program} {w : World} {A : Around} {E : Value → Shared → Prop} {s : Shared}
theorem list_ltAt (l b : Addr) (items items2 : Array Value) (n n2 : Nat) (ss ts : List Str) (hs : StrsAre items.toList ss) (ht : StrsAre items2.toList ts) :
    Meets (Builtin.«list.__lt__» ⟨[.ref l, .ref b], []⟩) (fun _ R s => s.heap.get? l = some (W.listOf items n) ∧ s.heap.get? b = some (W.listOf items2 n2) ∧ R (.ok (.ret (.bool (ltS ss ts)))) s) := by
  intro prog w A R s h
  obtain ⟨hp, g, d, tk, os⟩ := s; obtain ⟨hl, hb, h⟩ := h
  have f3 := AutoSeq1.sub_list_list
  wp_walk using wpAny_loadPart' hl, wpAny_loadPart' hb
  exact ⟨plainId_quiet plain_eq_loop _, codeAny_builtin entry_eq_loop (by
    rw [Around.under_plainId plain_eq_loop _]
    exact lt_loopAt l b items items2 n n2 ss ts hs ht _ 0 rfl (Nat.zero_le _) (Nat.zero_le _) prog w A R _ ⟨hl, hb, by simpa using h⟩)⟩
theorem lt_lists {l b : Addr} {items items2 : Array Value} {n n2 : Nat} {ss ts : List Str} {Q : Value → Shared → Prop} (hl : s.heap.get? l = some (W.listOf items n)) (hb : s.heap.get? b = some (W.listOf items2 n2)) (hu : A.units < cLine)
    (hs : StrsAre items.toList ss) (ht : StrsAre items2.toList ts) (h : Q (.bool (ltS ss ts)) s) : wpAny (model prog w) A (richCompare .Lt (.ref l) (.ref b)) Q E s :=
  richCompare_meets_room (op := .Lt) ⟨_, hl, rfl⟩ ⟨_, hb, rfl⟩ F.slot_list_lt F.entry_list_lt (F.args_list_lt_2 _ _) (list_ltAt l b items items2 n n2 ss ts hs ht)
    ⟨hl, hb, show Value.bool (ltS ss ts) ≠ Value.notImplemented ∧ Q (.bool (ltS ss ts)) s from ⟨(fun x => nomatch x), h⟩⟩ hu
theorem list_gtAt (l b : Addr) (items items2 : Array Value) (n n2 : Nat) (ss ts : List Str) (hs : StrsAre items.toList ss) (ht : StrsAre items2.toList ts) :
    Meets (Builtin.«list.__gt__» ⟨[.ref l, .ref b], []⟩) (fun _ R s => s.heap.get? l = some (W.listOf items n) ∧ s.heap.get? b = some (W.listOf items2 n2) ∧ R (.ok (.ret (.bool (ltS ts ss)))) s) := by
  intro prog w A R s h
  obtain ⟨hp, g, d, tk, os⟩ := s; obtain ⟨hl, hb, h⟩ := h
  have f3 := AutoSeq1.sub_list_list
  wp_walk using wpAny_loadPart' hl, wpAny_loadPart' hb
  exact ⟨plainId_quiet plain_eq_loop _, codeAny_builtin entry_eq_loop (by
    rw [Around.under_plainId plain_eq_loop _]
    exact gt_loopAt l b items items2 n n2 ss ts hs ht _ 0 rfl (Nat.zero_le _) (Nat.zero_le _) prog w A R _ ⟨hl, hb, by simpa using h⟩)⟩
theorem gt_lists {l b : Addr} {items items2 : Array Value} {n n2 : Nat} {ss ts : List Str} {Q : Value → Shared → Prop} (hl : s.heap.get? l = some (W.listOf items n)) (hb : s.heap.get? b = some (W.listOf items2 n2)) (hu : A.units < cLine)
    (hs : StrsAre items.toList ss) (ht : StrsAre items2.toList ts) (h : Q (.bool (ltS ts ss)) s) : wpAny (model prog w) A (richCompare .Gt (.ref l) (.ref b)) Q E s :=
  richCompare_meets_room (op := .Gt) ⟨_, hl, rfl⟩ ⟨_, hb, rfl⟩ F.slot_list_gt F.entry_list_gt (F.args_list_gt_2 _ _) (list_gtAt l b items items2 n n2 ss ts hs ht)
    ⟨hl, hb, show Value.bool (ltS ts ss) ≠ Value.notImplemented ∧ Q (.bool (ltS ts ss)) s from ⟨(fun x => nomatch x), h⟩⟩ hu
theorem min_two {l p q : Addr} {n n1 n2 : Nat} {vs ws : Array Value} {ss ts : List Str} {Q : Value → Shared → Prop} (hh : A.handled = none) (hu : A.units + 64 < cLine) (hl : s.heap.get? l = some (W.listOf #[.ref p, .ref q] n))
    (hp : s.heap.get? p = some (W.listOf vs n1)) (hq : s.heap.get? q = some (W.listOf ws n2)) (hs : StrsAre vs.toList ss) (ht : StrsAre ws.toList ts)
    (h : ∀ h' tk, (∀ b o, s.heap.get? b = some o → h'.get? b = some o) → Q (if ltS ts ss then .ref q else .ref p) { s with heap := h', toks := tk }) : wpAny (model prog w) A (call (.builtin "min") [.ref l]) Q E s := by
  have hname : (toString "min" ++ toString ".loop" : String) = "min.loop" := by decide
  have hIl : s.heap.IsList l #[.ref p, .ref q] := ⟨_, hl, rfl, _, rfl⟩
  have llt := Heap.lt_size hl
  refine call_function_tree F.kind_min F.plain_min F.entry_min (F.args_min1 _) ?_
  show wpAny _ A.in1 (Builtin.Builtins.bindParams "min" ["key", "default"] 0 ⟨[], []⟩ >>= _) _ _ s
  refine wpAny_bind (wpAny_of_eq (show Builtin.Builtins.bindParams "min" ["key", "default"] 0 ⟨[], []⟩ = pure [none, none] from rfl) ?_)
  refine wpAny_bind (wpAny_pure ?_)
  refine wpAny_bind (wpAny_pyIter_list hIl ?_)
  refine wpAny_bind (wpAny_newObj_type ?_)
  rw [hname]
  dsimp only
  generalize hH : (s.heap.push { cls := .type "list_iterator", data := .fields #[.ref l, .int 0 0] }).push { cls := .type "list", data := .seq ([] : List Value).toArray } = H
  have hI1 : (s.heap.push { cls := .type "list_iterator", data := .fields #[.ref l, .int 0 0] }).objs.size = s.heap.objs.size + 1 := Heap.size_push ..
  rw [hI1]
  have up : ∀ b o, s.heap.get? b = some o → H.get? b = some o := fun b o e => by rw [← hH]; exact Heap.get?_push_of_some _ (Heap.get?_push_of_some _ e)
  have hI : H.IsListIter s.heap.objs.size l 0 := ⟨_, by rw [← hH]; exact Heap.get?_push_of_some _ (Heap.get?_push_size _ rfl), rfl, rfl⟩
  have hS : H.get? (s.heap.objs.size + 1) = some { cls := .type "list", dict := none, data := .seq #[] 0, slots := #[] } := by rw [← hH, ← hI1]; exact Heap.get?_push_size _ rfl
  have nIS : s.heap.objs.size ≠ s.heap.objs.size + 1 := Nat.ne_of_lt (Nat.lt_succ_self _)
  clear hH
  have old : ∀ b o, s.heap.get? b = some o → b ≠ s.heap.objs.size ∧ b ≠ s.heap.objs.size + 1 := fun b o e => ⟨Nat.ne_of_lt (Heap.lt_size e), Nat.ne_of_lt (Nat.lt_succ_of_lt (Heap.lt_size e))⟩
  have fin : ∀ (H3 : Heap) (best : Value) (c tk : Nat), H3.IsListIter s.heap.objs.size l 2 → H3.get? (s.heap.objs.size + 1) = some { cls := .type "list", dict := none, data := .seq #[best, best] c, slots := #[] } → (∀ b o, s.heap.get? b = some o → H3.get? b = some o) → (if ltS ts ss then .ref q else .ref p) = best →
      codeAny (model prog w) A (.builtin "min.loop" ⟨[.ref s.heap.objs.size, .none, .ref (s.heap.objs.size + 1)], []⟩) (fun r s' => match r with | .ok (.ret v) => Q v s' | .ok _ => False | .error e => E e s') { s with heap := H3, toks := tk } := by
    intro H3 best c tk hI3 hS3 k3 hbest
    refine codeAny_builtin F.entry_min_loop ?_
    rw [Around.under_plainId F.plain_min_loop _]
    show wpAny _ A.in1 (seqItems? (.ref _) >>= _) _ _ _
    refine wpAny_bind (wpAny_seqItems hS3 rfl ?_)
    show wpAny _ A.in1 (tryCatch (pyNext (.ref _)) _ >>= _) _ _ _
    refine wpAny_bind (wpAny_tryCatch (wpAny_pyNext_list_end (by exact hh) hI3 ⟨_, k3 _ _ hl, rfl, _, rfl⟩ (by rfl) fun h4 e4 => ?_))
    have hS4 := e4 _ _ (Ne.symm nIS) hS3
    show wpAny _ A.in1 (updateSeq _ (fun _ => #[]) >>= _) _ _ _
    refine wpAny_bind ?_
    refine wpAny_updateSeq hS4 rfl (wpAny_bind (wpAny_letGo (wpAny_pure ?_)))
    subst hbest
    exact h _ _ fun b o e => (Heap.get?_update_other _ _ (Ne.symm (old b o e).2)).trans (e4 b o (old b o e).1 (k3 b o e))
  refine wpAny_pure ⟨plainId_quiet F.plain_min_loop _, ?_⟩
  show codeAny _ _ (.builtin "min.loop" ⟨[.ref _, .none, .ref _], []⟩) _ _
  refine codeAny_builtin F.entry_min_loop ?_
  rw [Around.under_plainId F.plain_min_loop _]
  show wpAny _ A.in1 (seqItems? (.ref _) >>= _) _ _ _
  refine wpAny_bind (wpAny_seqItems hS rfl ?_)
  show wpAny _ A.in1 (tryCatch (pyNext (.ref _)) _ >>= _) _ _ _
  refine wpAny_bind (wpAny_tryCatch (wpAny_pyNext_list_item (x := .ref p) hI ⟨_, up _ _ hl, rfl, _, rfl⟩ (by rfl) fun h1 hi1 b1 => ?_))
  have hS1 := b1.extBut _ _ (Ne.symm nIS) hS
  have k1 : ∀ b o, s.heap.get? b = some o → h1.get? b = some o := fun b o e => b1.extBut b o (old b o e).1 (up b o e)
  show wpAny _ A.in1 (updateSeq _ (fun _ => #[_, _]) >>= _) _ _ _
  refine wpAny_bind ?_
  refine wpAny_updateSeq hS1 rfl ?_
  have hS2 := Heap.get?_update_self (Obj.mapSeq fun _ => #[.ref p, .ref p]) hS1 rfl
  have oth : ∀ b o, b ≠ s.heap.objs.size + 1 → h1.get? b = some o → (h1.update (s.heap.objs.size + 1) (Obj.mapSeq fun _ => #[.ref p, .ref p])).get? b = some o := fun b o hb e => (Heap.get?_update_other _ _ (Ne.symm hb)).trans e
  generalize h1.update (s.heap.objs.size + 1) (Obj.mapSeq fun _ => #[.ref p, .ref p]) = h2 at hS2 oth ⊢
  rw [hname]
  refine wpAny_pure ⟨plainId_quiet F.plain_min_loop _, ?_⟩
  refine codeAny_builtin F.entry_min_loop ?_
  rw [Around.under_plainId F.plain_min_loop _]
  show wpAny _ A.in1 (seqItems? (.ref _) >>= _) _ _ _
  refine wpAny_bind (wpAny_seqItems hS2 rfl ?_)
  have hi2 : h2.IsListIter s.heap.objs.size l 1 := ⟨_, oth _ _ nIS hi1.choose_spec.1, hi1.choose_spec.2⟩
  have k2 : ∀ b o, s.heap.get? b = some o → h2.get? b = some o := fun b o e => oth b o (old b o e).2 (k1 b o e)
  show wpAny _ A.in1 (tryCatch (pyNext (.ref _)) _ >>= _) _ _ _
  refine wpAny_bind (wpAny_tryCatch (wpAny_pyNext_list_item (x := .ref q) hi2 ⟨_, k2 _ _ hl, rfl, _, rfl⟩ (by rfl) fun h3 hi3 b3 => ?_))
  have hS3 := b3.extBut _ _ (Ne.symm nIS) hS2
  have k3 : ∀ b o, s.heap.get? b = some o → h3.get? b = some o := fun b o e => b3.extBut b o (old b o e).1 (k2 b o e)
  show wpAny _ A.in1 (tryCatch (holding [_, _] (richCompare .Lt (.ref q) (.ref p) >>= _)) _ >>= _) _ _ _
  refine wpAny_bind (wpAny_tryCatch (wpAny_holding (wpAny_bind (lt_lists (k3 _ _ hq) (k3 _ _ hp) (show A.units + 1 < cLine by omega) ht hs ?_))))
  refine wpAny_bind (wpAny_holding (wpAny_truthy_bool ?_))
  refine wpAny_bind (wpAny_letGo (wpAny_pure ?_))
  cases hb : ltS ts ss with
  | true =>
    simp only [if_true]
    refine wpAny_bind ?_
    refine wpAny_updateSeq hS3 rfl (wpAny_bind (wpAny_letGo ?_))
    rw [hname]
    refine wpAny_pure ⟨plainId_quiet F.plain_min_loop _, fin _ _ _ _ ⟨_, (Heap.get?_update_other _ _ (Ne.symm nIS)).trans hi3.choose_spec.1, hi3.choose_spec.2⟩ (Heap.get?_update_self _ hS3 rfl) (fun b o e => (Heap.get?_update_other _ _ (Ne.symm (old b o e).2)).trans (k3 b o e)) (by rw [hb]; rfl)⟩
  | false =>
    simp only [Bool.false_eq_true, if_false]
    refine wpAny_bind (wpAny_letGo ?_)
    rw [hname]
    exact wpAny_pure ⟨plainId_quiet F.plain_min_loop _, fin _ _ _ _ hi3 hS3 k3 (by rw [hb]; rfl)⟩
theorem max_two {l p q : Addr} {n n1 n2 : Nat} {vs ws : Array Value} {ss ts : List Str} {Q : Value → Shared → Prop} (hh : A.handled = none) (hu : A.units + 64 < cLine) (hl : s.heap.get? l = some (W.listOf #[.ref p, .ref q] n))
    (hp : s.heap.get? p = some (W.listOf vs n1)) (hq : s.heap.get? q = some (W.listOf ws n2)) (hs : StrsAre vs.toList ss) (ht : StrsAre ws.toList ts)
    (h : ∀ h' tk, (∀ b o, s.heap.get? b = some o → h'.get? b = some o) → Q (if ltS ss ts then .ref q else .ref p) { s with heap := h', toks := tk }) : wpAny (model prog w) A (call (.builtin "max") [.ref l]) Q E s := by
  have hname : (toString "max" ++ toString ".loop" : String) = "max.loop" := by decide
  have hIl : s.heap.IsList l #[.ref p, .ref q] := ⟨_, hl, rfl, _, rfl⟩
  have llt := Heap.lt_size hl
  refine call_function_tree F.kind_max F.plain_max F.entry_max (F.args_max1 _) ?_
  show wpAny _ A.in1 (Builtin.Builtins.bindParams "max" ["key", "default"] 0 ⟨[], []⟩ >>= _) _ _ s
  refine wpAny_bind (wpAny_of_eq (show Builtin.Builtins.bindParams "max" ["key", "default"] 0 ⟨[], []⟩ = pure [none, none] from rfl) ?_)
  refine wpAny_bind (wpAny_pure ?_)
  refine wpAny_bind (wpAny_pyIter_list hIl ?_)
  refine wpAny_bind (wpAny_newObj_type ?_)
  rw [hname]
  dsimp only
  generalize hH : (s.heap.push { cls := .type "list_iterator", data := .fields #[.ref l, .int 0 0] }).push { cls := .type "list", data := .seq ([] : List Value).toArray } = H
  have hI1 : (s.heap.push { cls := .type "list_iterator", data := .fields #[.ref l, .int 0 0] }).objs.size = s.heap.objs.size + 1 := Heap.size_push ..
  rw [hI1]
  have up : ∀ b o, s.heap.get? b = some o → H.get? b = some o := fun b o e => by rw [← hH]; exact Heap.get?_push_of_some _ (Heap.get?_push_of_some _ e)
  have hI : H.IsListIter s.heap.objs.size l 0 := ⟨_, by rw [← hH]; exact Heap.get?_push_of_some _ (Heap.get?_push_size _ rfl), rfl, rfl⟩
  have hS : H.get? (s.heap.objs.size + 1) = some { cls := .type "list", dict := none, data := .seq #[] 0, slots := #[] } := by rw [← hH, ← hI1]; exact Heap.get?_push_size _ rfl
  have nIS : s.heap.objs.size ≠ s.heap.objs.size + 1 := Nat.ne_of_lt (Nat.lt_succ_self _)
  clear hH
  have old : ∀ b o, s.heap.get? b = some o → b ≠ s.heap.objs.size ∧ b ≠ s.heap.objs.size + 1 := fun b o e => ⟨Nat.ne_of_lt (Heap.lt_size e), Nat.ne_of_lt (Nat.lt_succ_of_lt (Heap.lt_size e))⟩
  have fin : ∀ (H3 : Heap) (best : Value) (c tk : Nat), H3.IsListIter s.heap.objs.size l 2 → H3.get? (s.heap.objs.size + 1) = some { cls := .type "list", dict := none, data := .seq #[best, best] c, slots := #[] } → (∀ b o, s.heap.get? b = some o → H3.get? b = some o) → (if ltS ss ts then .ref q else .ref p) = best →
      codeAny (model prog w) A (.builtin "max.loop" ⟨[.ref s.heap.objs.size, .none, .ref (s.heap.objs.size + 1)], []⟩) (fun r s' => match r with | .ok (.ret v) => Q v s' | .ok _ => False | .error e => E e s') { s with heap := H3, toks := tk } := by
    intro H3 best c tk hI3 hS3 k3 hbest
    refine codeAny_builtin F.entry_max_loop ?_
    rw [Around.under_plainId F.plain_max_loop _]
    show wpAny _ A.in1 (seqItems? (.ref _) >>= _) _ _ _
    refine wpAny_bind (wpAny_seqItems hS3 rfl ?_)
    show wpAny _ A.in1 (tryCatch (pyNext (.ref _)) _ >>= _) _ _ _
    refine wpAny_bind (wpAny_tryCatch (wpAny_pyNext_list_end (by exact hh) hI3 ⟨_, k3 _ _ hl, rfl, _, rfl⟩ (by rfl) fun h4 e4 => ?_))
    have hS4 := e4 _ _ (Ne.symm nIS) hS3
    show wpAny _ A.in1 (updateSeq _ (fun _ => #[]) >>= _) _ _ _
    refine wpAny_bind ?_
    refine wpAny_updateSeq hS4 rfl (wpAny_bind (wpAny_letGo (wpAny_pure ?_)))
    subst hbest
    exact h _ _ fun b o e => (Heap.get?_update_other _ _ (Ne.symm (old b o e).2)).trans (e4 b o (old b o e).1 (k3 b o e))
  refine wpAny_pure ⟨plainId_quiet F.plain_max_loop _, ?_⟩
  show codeAny _ _ (.builtin "max.loop" ⟨[.ref _, .none, .ref _], []⟩) _ _
  refine codeAny_builtin F.entry_max_loop ?_
  rw [Around.under_plainId F.plain_max_loop _]
  show wpAny _ A.in1 (seqItems? (.ref _) >>= _) _ _ _
  refine wpAny_bind (wpAny_seqItems hS rfl ?_)
  show wpAny _ A.in1 (tryCatch (pyNext (.ref _)) _ >>= _) _ _ _
  refine wpAny_bind (wpAny_tryCatch (wpAny_pyNext_list_item (x := .ref p) hI ⟨_, up _ _ hl, rfl, _, rfl⟩ (by rfl) fun h1 hi1 b1 => ?_))
  have hS1 := b1.extBut _ _ (Ne.symm nIS) hS
  have k1 : ∀ b o, s.heap.get? b = some o → h1.get? b = some o := fun b o e => b1.extBut b o (old b o e).1 (up b o e)
  show wpAny _ A.in1 (updateSeq _ (fun _ => #[_, _]) >>= _) _ _ _
  refine wpAny_bind ?_
  refine wpAny_updateSeq hS1 rfl ?_
  have hS2 := Heap.get?_update_self (Obj.mapSeq fun _ => #[.ref p, .ref p]) hS1 rfl
  have oth : ∀ b o, b ≠ s.heap.objs.size + 1 → h1.get? b = some o → (h1.update (s.heap.objs.size + 1) (Obj.mapSeq fun _ => #[.ref p, .ref p])).get? b = some o := fun b o hb e => (Heap.get?_update_other _ _ (Ne.symm hb)).trans e
  generalize h1.update (s.heap.objs.size + 1) (Obj.mapSeq fun _ => #[.ref p, .ref p]) = h2 at hS2 oth ⊢
  rw [hname]
  refine wpAny_pure ⟨plainId_quiet F.plain_max_loop _, ?_⟩
  refine codeAny_builtin F.entry_max_loop ?_
  rw [Around.under_plainId F.plain_max_loop _]
  show wpAny _ A.in1 (seqItems? (.ref _) >>= _) _ _ _
  refine wpAny_bind (wpAny_seqItems hS2 rfl ?_)
  have hi2 : h2.IsListIter s.heap.objs.size l 1 := ⟨_, oth _ _ nIS hi1.choose_spec.1, hi1.choose_spec.2⟩
  have k2 : ∀ b o, s.heap.get? b = some o → h2.get? b = some o := fun b o e => oth b o (old b o e).2 (k1 b o e)
  show wpAny _ A.in1 (tryCatch (pyNext (.ref _)) _ >>= _) _ _ _
  refine wpAny_bind (wpAny_tryCatch (wpAny_pyNext_list_item (x := .ref q) hi2 ⟨_, k2 _ _ hl, rfl, _, rfl⟩ (by rfl) fun h3 hi3 b3 => ?_))
  have hS3 := b3.extBut _ _ (Ne.symm nIS) hS2
  have k3 : ∀ b o, s.heap.get? b = some o → h3.get? b = some o := fun b o e => b3.extBut b o (old b o e).1 (k2 b o e)
  show wpAny _ A.in1 (tryCatch (holding [_, _] (richCompare .Gt (.ref q) (.ref p) >>= _)) _ >>= _) _ _ _
  refine wpAny_bind (wpAny_tryCatch (wpAny_holding (wpAny_bind (gt_lists (k3 _ _ hq) (k3 _ _ hp) (show A.units + 1 < cLine by omega) ht hs ?_))))
  refine wpAny_bind (wpAny_holding (wpAny_truthy_bool ?_))
  refine wpAny_bind (wpAny_letGo (wpAny_pure ?_))
  cases hb : ltS ss ts with
  | true =>
    simp only [if_true]
    refine wpAny_bind ?_
    refine wpAny_updateSeq hS3 rfl (wpAny_bind (wpAny_letGo ?_))
    rw [hname]
    refine wpAny_pure ⟨plainId_quiet F.plain_max_loop _, fin _ _ _ _ ⟨_, (Heap.get?_update_other _ _ (Ne.symm nIS)).trans hi3.choose_spec.1, hi3.choose_spec.2⟩ (Heap.get?_update_self _ hS3 rfl) (fun b o e => (Heap.get?_update_other _ _ (Ne.symm (old b o e).2)).trans (k3 b o e)) (by rw [hb]; rfl)⟩
  | false =>
    simp only [Bool.false_eq_true, if_false]
    refine wpAny_bind (wpAny_letGo ?_)
    rw [hname]
    exact wpAny_pure ⟨plainId_quiet F.plain_max_loop _, fin _ _ _ _ hi3 hS3 k3 (by rw [hb]; rfl)⟩
end
theorem part_off_29 : True := by w_top off; trivial
theorem my_for_enum {prog : Program} {w : World} {A : Around} {E : Value → Shared → Prop} {s : Shared} {env : Env} {h₀ : Heap} {xi xv : Str} {pi pv pt : Pos} {x1} {e it l : Addr} {its : Array Value}
    {body orelse : List Stmt} {Q : Flow → Shared → Prop} {m : Str → Option Value} {news : List (Addr × Obj)}
    (J : Nat → (Str → Option Value) → Prop) (hh : A.handled = none) (hxi : env.kindOf xi = some .local) (hxv : env.kindOf xv = some .local)
    (hp : (env.scope.kind == .class || (env.scope.kind == .module && env.locals != env.globals)) = false)
    (he : IsEnum s.heap e it 0 .none) (hit : s.heap.IsListIter it l 0) (hl : s.heap.IsList l its) (hei : e ≠ it) (hle : l ≠ e) (hli : l ≠ it) (heL : e ≠ env.locals) (hiL : it ≠ env.locals)
    (he₀ : h₀.get? e = none) (hi₀ : h₀.get? it = none) (F : Fr h₀ env.locals s.heap m) (N : News h₀ env.locals s.heap news) (off : ∀ p ∈ news, p.1 ≠ e ∧ p.1 ≠ it) (hlk : h₀.IsList l its ∨ ∃ n, (l, W.listOf its n) ∈ news) (hJ : J 0 m)
    (turn : ∀ i v tk m₁ h tk' oe oi, its[i]? = some v → J i m₁ → Fr h₀ env.locals h (fun y => if y = xv then some v else if y = xi then some (.int (i : Nat) tk) else m₁ y) → News h₀ env.locals h (news ++ [(e, oe), (it, oi)]) →
      wpAny (model prog w) A (execs body env) (TPost h₀ env.locals (fun m' news' => (∀ p ∈ news ++ [(e, oe), (it, oi)], p ∈ news') ∧ J (i + 1) m') s Q) NoE { s with heap := h, toks := tk' })
    (done : ∀ m₁ h tk, J its.size m₁ → Fr h₀ env.locals h m₁ → News h₀ env.locals h news → wpAny (model prog w) A (execs orelse env) Q NoE { s with heap := h, toks := tk }) :
    codeAny (model prog w) A (.forLoop (.Tuple [.Name xi pi, .Name xv pv] x1 pt) (.ref e) body orelse env) (fun r s' => match r with | .ok f => Q f s' | .error e => E e s') s := by
  have W := WalksT.enumerate (prog := prog) (w := w) hh e it l hei hle hli its
  have old : ∀ b o, h₀.get? b = some o → b ∉ [e, it] := fun b o q hb => by
    rcases List.mem_cons.mp hb with rfl | hb
    · rw [he₀] at q; cases q
    · rw [List.mem_singleton.mp hb, hi₀] at q; cases q
  have hLw : env.locals ∉ [e, it] := notMem2 (Ne.symm heL) (Ne.symm hiL)
  have offw : ∀ p ∈ news, p.1 ∉ [e, it] := fun p hp => notMem2 (off p hp).1 (off p hp).2
  refine codeAny_forLoop_any
    (fun k s' => ∃ h' tk m' i, s' = { s with heap := h', toks := tk } ∧ ((∃ old, IsEnum h' e it (i : Nat) old) ∧ h'.IsListIter it l i ∧ h'.IsList l its) ∧ Fr h₀ env.locals h' m' ∧ News h₀ env.locals h' news ∧ J i m' ∧ i ≤ its.size ∧ k = its.size + 1 - i) ?_ (its.size + 1)
    ⟨s.heap, s.toks, m, 0, rfl, ⟨⟨_, he⟩, hit, hl⟩, F, N, hJ, Nat.zero_le _, rfl⟩
  rintro k s' ⟨h', tk, m', i, rfl, hst', F', N', hJ', hi, rfl⟩
  have next : ∀ h₁ : Heap, (∀ b o, b ∉ [e, it] → h'.get? b = some o → h₁.get? b = some o) → Fr h₀ env.locals h₁ m' ∧ News h₀ env.locals h₁ news := fun h₁ hk₁ =>
    ⟨⟨F'.ns.at' fun o e => hk₁ _ o hLw e, fun b o e => hk₁ b o (old b o e) (F'.keep b o e), F'.above⟩, fun p hp => ⟨hk₁ _ _ (offw p hp) (N' p hp).1, (N' p hp).2⟩⟩
  by_cases hlt : i < its.size
  · refine W.item i _ _ _ hlt hst' fun T vals h₁ tk₁ hP hT hTup hMid hk₁ => ?_
    obtain ⟨tki, v, hv, rfl⟩ := hP
    refine W.go _ _ _ i T _ _ _ hMid fun h₂ hst₂ hk₂ => ?_
    have hTw := W.apart i T h₁ hMid
    have hTup₂ : h₂.IsTuple T #[.int i tki, v] := hTup.at fun o e => hk₂ T o hTw e
    have kk : ∀ b o, b ∉ [e, it] → h'.get? b = some o → h₂.get? b = some o := fun b o hb e => hk₂ b o hb (hk₁ b o hb e)
    obtain ⟨F₂, N₂⟩ := next h₂ kk
    have hTL : T ≠ h₂.objs.size := by obtain ⟨o, ho, _⟩ := hTup₂; exact Nat.ne_of_lt (Heap.lt_size ho)
    refine wpAny_assign_Tuple hh hTup₂ rfl rfl fun h₃ hx₃ => ?_
    replace hx₃ : Heap.ExtBut h₂.objs.size h₂ h₃ := hx₃
    have k₃ : ∀ b o, h₂.get? b = some o → h₃.get? b = some o := fun b o q => hx₃ b o (Nat.ne_of_lt (Heap.lt_size q)) q
    have F₃ := F₂.keeps k₃
    have N₃ := N₂.keeps k₃
    have hst₃ : (∃ old, IsEnum h₃ e it ((i + 1 : Nat) : Int) old) ∧ h₃.IsListIter it l (i + 1) ∧ h₃.IsList l its := by
      obtain ⟨⟨o1, q1⟩, ⟨o2, q2, r2⟩, ⟨o3, q3, r3⟩⟩ := hst₂
      exact ⟨⟨o1, k₃ _ _ q1⟩, ⟨o2, k₃ _ _ q2, r2⟩, ⟨o3, k₃ _ _ q3, r3⟩⟩
    show wpAny _ A (do holding [v] (assign (.Name xi pi) env (.int i tki)); do holding [] (assign (.Name xv pv) env v); pure ()) _ _ _
    refine wpAny_bind (wpAny_holding (wpAny_assign_Name (wpAny_storeName_local hxi F₃.ns (fun h₄ hn₄ hs₄ => ?_) hp)))
    have F₄ := F₃.set hn₄ hs₄
    refine wpAny_bind (wpAny_holding (wpAny_assign_Name (wpAny_storeName_local hxv F₄.ns (fun h₅ hn₅ hs₅ => wpAny_pure ?_) hp)))
    have F₅ := F₄.set hn₅ hs₅
    have N₅ := (N₃.set hs₄).set hs₅
    have ext : ∀ b o, b ≠ env.locals → h₃.get? b = some o → h₅.get? b = some o := fun b o hb q => hs₅.extBut b o hb (hs₄.extBut b o hb q)
    obtain ⟨⟨o1, q1⟩, ⟨o2, q2, r2⟩, hl₃⟩ := hst₃
    obtain ⟨oe, qe⟩ : ∃ o, h₃.get? e = some o := ⟨_, q1⟩
    have he1 := qe.symm.trans q1
    have N₆ : News h₀ env.locals h₅ (news ++ [(e, oe), (it, o2)]) := fun p hp => by
      rcases List.mem_append.mp hp with hp | hp
      · exact N₅ p hp
      · rcases List.mem_cons.mp hp with rfl | hp
        · exact ⟨ext _ _ heL qe, heL, he₀⟩
        · rw [List.mem_singleton.mp hp]; exact ⟨ext _ _ hiL q2, hiL, hi₀⟩
    refine wpAny_mono (turn i v tki m' h₅ _ oe o2 hv hJ' F₅ N₆) (fun f s₃ h₃' => ?_) fun _ _ e => e.elim
    have key : ∀ h' tk' m' news', Fr h₀ env.locals h' m' → News h₀ env.locals h' news' → ((∀ p ∈ news ++ [(e, oe), (it, o2)], p ∈ news') ∧ J (i + 1) m') →
        ∃ k, k < its.size + 1 - i ∧ ∃ h₁ tk m₁ j, ({ s with heap := h', toks := tk' } : Shared) = { s with heap := h₁, toks := tk } ∧ ((∃ old, IsEnum h₁ e it (j : Nat) old) ∧ h₁.IsListIter it l j ∧ h₁.IsList l its) ∧ Fr h₀ env.locals h₁ m₁ ∧ News h₀ env.locals h₁ news ∧ J j m₁ ∧ j ≤ its.size ∧ k = its.size + 1 - j := by
      rintro h' tk' m' news' F' N' ⟨sub, hJ⟩
      refine ⟨its.size + 1 - (i + 1), by omega, h', tk', m', i + 1, rfl, ⟨⟨o1, (N' _ (sub _ (List.mem_append_right _ (.head _)))).1.trans he1⟩, ⟨o2, (N' _ (sub _ (List.mem_append_right _ (.tail _ (.head _))))).1, r2⟩, ?_⟩, F', fun p hp => N' p (sub p (List.mem_append_left _ hp)), hJ, hlt, rfl⟩
      rcases hlk with ⟨o, q, r⟩ | ⟨n, hm⟩
      · exact ⟨o, F'.keep _ _ q, r⟩
      · exact ⟨_, (N' _ (sub _ (List.mem_append_left _ hm))).1, rfl, _, rfl⟩
    cases f with
    | next => obtain ⟨h', tk', m', news', rfl, F', N', hJ'⟩ := h₃'; exact key _ _ _ _ F' N' hJ'
    | cont => obtain ⟨h', tk', m', news', rfl, F', N', hJ'⟩ := h₃'; exact key _ _ _ _ F' N' hJ'
    | brk => exact h₃'
    | ret v => exact h₃'
  · have hin : i = its.size := by omega
    subst hin
    refine W.done _ _ _ hst' fun h₁ tk₁ hk₁ => ?_
    obtain ⟨F₁, N₁⟩ := next h₁ hk₁
    exact wpAny_mono (done m' h₁ tk₁ hJ' F₁ N₁) (fun _ _ x => x) fun _ _ x => x.elim
theorem part_off_30 : True := by w_top off; trivial
def SplitF (l : List (Str × Tok)) (x : Str) : Prop := StrsAre (strValues l) (Txt.split x slash) ∧ (strValues l).toArray.size ≤ sizeLine ∧ ∀ y ∈ Txt.split x slash, y.length ≤ 1000
theorem split_sz {l : List (Str × Tok)} {x : Str} (h : List.map (fun y => y.1) l = Txt.split x slash) (ss : StrsAre (strValues l) (List.map (fun y => y.1) l)) (hh : ∀ y, y ∈ List.map (fun y => y.1) l → y.length ≤ x.length) (hx : x.length ≤ 1000) : SplitF l x := by
  rw [h] at ss hh
  refine ⟨ss, ?_, fun y hy => Nat.le_trans (hh y hy) hx⟩
  rw [List.size_toArray, ss.length, sizeLine_eq]
  exact Nat.le_trans (split_len _) (by omega)
theorem SplitF.src {l : List (Str × Tok)} {x : Str} (h : SplitF l x) (i : Nat) (v : Value) (hv : (strValues l).toArray[i]? = some v) : ∃ y, (Txt.split x slash)[i]? = some y ∧ ∃ t, v = .str y t := by
  obtain ⟨y, t, rfl, hy⟩ := h.1.item i v (by simpa using hv)
  exact ⟨y, hy, t, rfl⟩
theorem isNm_t {y : Str} (h : (y.length : Int) ≠ 0) (h2 : (y != Str.ofString ".") = true) : isNm y = true := by unfold isNm; rw [decide_eq_true h, h2]; rfl
theorem isNm_f {y : Str} (h2 : (y != Str.ofString ".") = false) : isNm y = false := by unfold isNm; rw [h2, Bool.and_false]
theorem isNm_z {y : Str} (h : (y.length : Int) = 0) : isNm y = false := by unfold isNm; rw [decide_eq_false (fun e => e h), Bool.false_and]
def lcp : List Str → List Str → List Str
  | a :: x, b :: y => if a = b then a :: lcp x y else []
  | _, _ => []
theorem ltS_irrefl : ∀ x : List Str, ltS x x = false
  | [] => rfl
  | a :: x => by rw [ltS, if_pos rfl]; exact ltS_irrefl x
theorem ltS_asymm : ∀ x y : List Str, ltS x y = true → ltS y x = false
  | [], [], h => by cases h
  | [], _ :: _, _ => rfl
  | _ :: _, [], h => by cases h
  | a :: x, b :: y, h => by
    unfold ltS at h ⊢
    by_cases e : a = b
    · rw [if_pos e] at h; rw [if_pos e.symm]; exact ltS_asymm x y h
    · rw [if_neg e] at h; rw [if_neg fun q => e q.symm]
      exact decide_eq_false (List.lt_asymm (of_decide_eq_true h))
theorem ltS_total : ∀ x y : List Str, ltS x y = false → ltS y x = false → x = y
  | [], [], _, _ => rfl
  | [], _ :: _, h, _ => by cases h
  | _ :: _, [], _, h => by cases h
  | a :: x, b :: y, h, k => by
    unfold ltS at h k
    by_cases e : a = b
    · rw [if_pos e] at h; rw [if_pos e.symm] at k; rw [e, ltS_total x y h k]
    · rw [if_neg e] at h; rw [if_neg fun q => e q.symm] at k
      refine absurd ?_ e
      have h1 := of_decide_eq_false h
      have h2 := of_decide_eq_false k
      have : a.cps.toList = b.cps.toList := List.le_antisymm (List.not_lt.mp h2) (List.not_lt.mp h1)
      exact Str.ext' (Array.toList_inj.mp this)
theorem lcp_comm : ∀ x y : List Str, lcp x y = lcp y x
  | [], [] => rfl
  | [], _ :: _ => rfl
  | _ :: _, [] => rfl
  | a :: x, b :: y => by
    unfold lcp
    by_cases e : a = b
    · rw [if_pos e, if_pos e.symm, e, lcp_comm x y]
    · rw [if_neg e, if_neg fun q => e q.symm]
theorem pick_mm {p q : Addr} {ss ts : List Str} {ys zs : List Value} (hs : StrsAre ys ss) (ht : StrsAre zs ts) : ∃ P M yP yM xP xM, (if ltS ts ss then Value.ref q else .ref p) = .ref P ∧ (if ltS ss ts then Value.ref q else .ref p) = .ref M ∧
    ((P = p ∧ yP = ys ∧ xP = ss) ∨ (P = q ∧ yP = zs ∧ xP = ts)) ∧ ((M = p ∧ yM = ys ∧ xM = ss) ∨ (M = q ∧ yM = zs ∧ xM = ts)) ∧ ltS xM xP = false ∧ lcp xP xM = lcp ss ts := by
  cases h1 : ltS ts ss with
  | true =>
    have h2 := ltS_asymm _ _ h1
    rw [h2]
    exact ⟨q, p, zs, ys, ts, ss, rfl, rfl, .inr ⟨rfl, rfl, rfl⟩, .inl ⟨rfl, rfl, rfl⟩, h2, lcp_comm _ _⟩
  | false =>
    cases h2 : ltS ss ts with
    | true => exact ⟨p, q, ys, zs, ss, ts, rfl, rfl, .inl ⟨rfl, rfl, rfl⟩, .inr ⟨rfl, rfl, rfl⟩, h1, rfl⟩
    | false =>
      have e := ltS_total _ _ h2 h1
      exact ⟨p, p, ys, ys, ss, ss, rfl, rfl, .inl ⟨rfl, rfl, rfl⟩, .inl ⟨rfl, rfl, rfl⟩, ltS_irrefl _, by rw [← e]⟩
theorem fresh_none {h₀ h : Heap} {L a : Addr} {m : Str → Option Value} (F : Fr h₀ L h m) (ha : h.objs.size ≤ a) : h₀.get? a = none := by
  cases e : h₀.get? a with
  | none => rfl
  | some o => exact absurd (Heap.lt_size (F.keep _ _ e)) (Nat.not_lt.mpr ha)
theorem item_strs_nat {prog : Program} {w : World} {A : Around} {E : Value → Shared → Prop} {s : Shared} {value slice : PySem.Expr} {p : Addr} {i : Nat} {u : Tok} {vs : Array Value} {n : Nat} {xs : List Str} {Q : Value → Shared → Prop}
    (hl : s.heap.get? p = some (W.listOf vs n)) (hs : StrsAre vs.toList xs) (hi : i < xs.length) (hb : i ≤ 100000) (h : ∀ t, Q (.str xs[i] t) s)
    (he : subscripted slice false (.ref p) (.int (i : Int) u) = operate [.ref p, .int (i : Int) u] (getItem (.ref p) (.int (i : Int) u)) := by with_unfolding_all rfl) :
    wpAny (model prog w) A (subscriptTail value slice (.ref p) (.int (i : Int) u)) Q E s := by
  obtain ⟨t, ht⟩ := strs_at hs hi
  have hL : s.heap.IsList p vs := ⟨_, hl, rfl, _, rfl⟩
  exact tail_any hL.typeIs slot_list_getitem.lookup (wpAny_getItem_list hL (Int.natCast_nonneg _) (by omega) (by simpa using ht) (h t)) he
theorem lcp_mem : ∀ {x y : List Str} {a : Str}, a ∈ lcp x y → a ∈ x
  | [], _, _, h => by unfold lcp at h; exact h
  | _ :: _, [], _, h => by unfold lcp at h; cases h
  | b :: x, c :: y, a, h => by
    unfold lcp at h
    split at h
    · rcases List.mem_cons.mp h with rfl | h
      · exact .head _
      · exact .tail _ (lcp_mem h)
    · cases h
theorem lcp_len : ∀ (x y : List Str), (lcp x y).length ≤ x.length
  | [], _ => by unfold lcp; exact Nat.le_refl _
  | _ :: _, [] => by unfold lcp; exact Nat.zero_le _
  | b :: x, c :: y => by
    unfold lcp
    split
    · simpa using lcp_len x y
    · exact Nat.zero_le _
theorem lcp_sizes {x y : List Str} (hx : ∀ a ∈ x, a.length ≤ 1000) (hl : x.length ≤ 1001) : ((lcp x y).map (·.length)).sum + (lcp x y).length * (Str.ofString "/").length ≤ 2000000 ∧ (Txt.join (Str.ofString "/") (lcp x y)).length ≤ 2000000 := by
  have h2 := StrLaws.sumLen_le (B := 1000) (lcp x y) fun a ha => hx a (lcp_mem ha)
  have h1 := lcp_len x y
  have e : (Str.ofString "/").length = 1 := by decide +kernel
  have h3 : (lcp x y).length * 1000 ≤ 1001 * 1000 := Nat.mul_le_mul_right _ (by omega)
  have h4 : ((lcp x y).map (·.length)).sum + (lcp x y).length * (Str.ofString "/").length ≤ 2000000 := by rw [e]; omega
  refine ⟨h4, ?_⟩
  have := StrLaws.join_length_le (Str.ofString "/") (lcp x y)
  rw [← StrLaws.glued_eq_join] at this
  exact Nat.le_trans this h4
theorem led_of {h₀ h : Heap} {L : Addr} {news : List (Addr × Obj)} (N : News h₀ L h news) : ∃ led, led = news ∧ News h₀ L h led := ⟨news, rfl, N⟩
theorem ncons {h₀ h : Heap} {L : Addr} {p : Addr × Obj} {news : List (Addr × Obj)} (hp : h.get? p.1 = some p.2 ∧ p.1 ≠ L ∧ h₀.get? p.1 = none) (N : News h₀ L h news) : News h₀ L h (p :: news) := fun q hq => by
  rcases List.mem_cons.mp hq with rfl | hq
  · exact hp
  · exact N q hq
theorem lcp_at : ∀ {x y : List Str} {i : Nat}, x.take i = y.take i → (hi : i < x.length) → (hj : i < y.length) → x[i] ≠ y[i] → lcp x y = x.take i
  | [], _, _, _, hi, _, _ => absurd hi (Nat.not_lt_zero _)
  | _ :: _, [], _, _, _, hj, _ => absurd hj (Nat.not_lt_zero _)
  | a :: x, b :: y, 0, _, _, _, h => by
    have h : a ≠ b := h
    unfold lcp; rw [if_neg h]; rfl
  | a :: x, b :: y, i + 1, e, hi, hj, h => by
    simp only [List.take_succ_cons, List.cons.injEq] at e
    unfold lcp
    rw [if_pos e.1, List.take_succ_cons, lcp_at (i := i) e.2 (by simpa using hi) (by simpa using hj) (by simpa using h)]
theorem lcp_all : ∀ {x y : List Str}, x.take x.length = y.take x.length → lcp x y = x
  | [], _, _ => by unfold lcp; rfl
  | a :: x, [], h => by simp at h
  | a :: x, b :: y, h => by
    simp only [List.length_cons, List.take_succ_cons, List.cons.injEq] at h
    unfold lcp
    rw [if_pos h.1, lcp_all h.2]
theorem ltS_range : ∀ {x y : List Str} {i : Nat}, ltS y x = false → x.take i = y.take i → i < x.length → i < y.length
  | [], _, _, _, _, hi => absurd hi (Nat.not_lt_zero _)
  | _ :: _, [], _, h, _, _ => by cases h
  | a :: x, b :: y, 0, _, _, _ => by simp
  | a :: x, b :: y, i + 1, h, e, hi => by
    simp only [List.take_succ_cons, List.cons.injEq] at e
    unfold ltS at h
    rw [if_pos e.1.symm] at h
    have := ltS_range (i := i) h e.2 (by simpa using hi)
    simpa using this
theorem take_next {x y : List Str} {i : Nat} (e : x.take i = y.take i) (hi : i < x.length) (hj : i < y.length) (h : x[i] = y[i]) : x.take (i + 1) = y.take (i + 1) := by
  rw [List.take_add_one, List.take_add_one, e, List.getElem?_eq_getElem hi, List.getElem?_eq_getElem hj, h]
section
local macro_rules | `(tactic| walk_at "exec Assign cons ListComp") => `(tactic| (k_here; k_dflt (refine Assign_ListComp_S (by k_asm) (by rfl) (by with_unfolding_all rfl) (by rfl) (by decide) (by rfl) (by decide) (by rfl) (by rfl) (by rfl) ?_)))
local macro_rules | `(tactic| walk_at "CSrc") => `(tactic| (k_here; k_dflt (refine CSrc.tup (by rfl) (by k_asm) (by k_asm) (by k_mem) (by first | size_fits | exact Nat.le_of_ble_eq_true rfl) ?_; intro g'; (try dsimp only); lcg_lit)))
local macro_rules | `(tactic| walk_at "exec Try") => `(tactic| (k_here; (with_reducible show wpAny _ _ (exec (Stmt.Try _ (_ :: _) _ [] _) _) _ _ _); refine wpAny_Try_except ?_))
local macro_rules | `(tactic| walk_at "subscriptTail Name Name ref int") => `(tactic| walk_at "m_st")
local macro_rules | `(tactic| walk_at "subscriptTail Name Slice ref ref") => `(tactic| walk_at "m_st")
def PickP (s : Shared) (L : Addr) (led : List (Addr × Obj)) (l : List Str) : Flow → Shared → Prop := fun f s' => f = .next ∧ ∃ C vs nC h tk m' news', s' = { s with heap := h, toks := tk } ∧ Fr s.heap L h m' ∧ Has m' [(Str.ofString "common", .ref C), (Str.ofString "isabs", .bool true)] ∧ News s.heap L h news' ∧ (∀ p ∈ led, p ∈ news') ∧ (C, W.listOf vs nC) ∈ news' ∧ StrsAre vs.toList l
theorem c_common {prog : Program} {w : World} {mean mg mb} {A : Around} {s : Shared} {p : Addr} {n : Nat} {a b : List Str} {t1 t2 : Tok} (hp : s.heap.get? p = some (W.listOf #[.str (plc a) t1, .str (plc b) t2] n)) (ha : Ok a) (hb : Ok b) (c : Cx w mean mg mb s.heap) (hA : Rm A (6+1)) :
    codeAny (model prog w) A (.call (.ref 190) ⟨[.ref p], []⟩) (Ret s fun v _ => ∃ t, v = .str (plc (lcp a b)) t) s := by
  have hss : StrsAre (#[Value.str (plc a) t1, .str (plc b) t2] : Array Value).toList [plc a, plc b] := .cons _ _ (.cons _ _ .nil)
  have hsl : [plc a, plc b].length = 2 := rfl
  have hla := plc_len ha
  have hlb := plc_len hb
  refine' enter_cells (binds := [(Str.ofString "paths", .ref p)]) ?cc ?hA ?ho ?hcd ?hb ?hkind ?hnd ?_ ?c2 ?c3 ?c4
  walk_at "m_enter2"
  case hkind => kernel_rfl
  case hb => exact BindsTo.of_eq rfl
  case hnd => decide +kernel
  intro L h₁ tk cells dp fr gd un F N Y X T R
  obtain ⟨o1, o2, rfl, hd1, hd2⟩ := CellsAre.two (n := Str.ofString "curdir") (n' := Str.ofString "sep") (c := L + 1 + 1) (c' := L + 1) Y
  (try dsimp only); (try k_fold)
  iterate 59 (walk_at "m_step")
  refine Assign_ListComp_S (by k_asm) (by rfl) (by with_unfolding_all rfl) (by rfl) (by decide) (by rfl) (by decide) (by rfl) (by rfl) (by rfl) ?_
  walk1
  refine' CSrc.tup ?b1 ?b2 ?b3 ?b4 ?b5 ?b6
  case b1 => rfl
  case b2 => k_asm
  case b3 => k_asm
  case b4 => k_mem
  case b5 => exact Nat.le_of_ble_eq_true rfl
  intro g'
  try dsimp only
  lcg_lit
  iterate 18 (walk_at "m_step")
  refine cend_push (by assumption) (by assumption) (by assumption) (by simpa only [LCg.Off3, and_true] using (by assumption)) (Or.inr (by k_mem)) ?_
  iterate 14 (walk_at "m_step")
  refine cend_push (by assumption) (by assumption) (by assumption) (by simpa only [LCg.Off3, and_true] using (by assumption)) (Or.inr (by k_mem)) ?_
  iterate 8 (walk_at "m_step")
  rename List.map _ _ = Txt.split (plc b) _ => spb
  rename List.map _ _ = Txt.split (plc a) _ => spa
  rename StrsAre (strValues _) _ => ssb
  rename ∀ (y : Str), y ∈ List.map _ _ → y.length ≤ (plc b).length => hhb
  rename ∀ (y : Str), y ∈ List.map _ _ → y.length ≤ (plc a).length => hha
  replace ssb := split_sz spb ssb hhb hlb
  rename StrsAre (strValues _) _ => ssa
  replace ssa := split_sz spa ssa hha hla
  clear spa spb hha hhb
  refine SetComp_T (by k_asm) rfl (by rfl) (by decide) (by rfl) (by decide) (by rfl) ?_
  walk1
  refine ⟨_, _, _, rfl, by k_asm, by k_asm, by k_mem, (by exact Nat.zero_lt_succ 1), ?elt, ?fin⟩
  case elt =>
    intro i v C oC D oD m₂ h tk E' hv hC hx F N
    obtain ⟨c, tc, rfl, hc⟩ : ∃ c t, v = .str (plc c) t ∧ Ok c := by
      rcases i with _ | _ | i
      · exact ⟨a, t1, (Option.some.inj hv).symm, ha⟩
      · exact ⟨b, t2, (Option.some.inj hv).symm, hb⟩
      · simp at hv
    have hlc := plc_len hc
    iterate 12 (walk_at "m_step")
    exact congrArg Value.bool (plc_sw hc)
  case fin =>
    intro D h' tk F N off
    refine unpack_setT rfl (N.get (.head _)) (by rfl) ?_
    intro h'' kp
    replace F := F.keeps kp
    replace N := ntl (N.keeps kp)
    clear kp off
    iterate 8 (walk_at "m_step")
    refine' CSrc.lst ?nb1 ?nb2 ?nb3 ?nb4 ?nb5 ?nb6
    case nb1 => rfl
    case nb2 => k_asm
    case nb3 => k_asm
    case nb4 => exact Or.inr ⟨_, by k_mem, rfl, _, rfl⟩
    case nb5 => exact Nat.le_of_ble_eq_true rfl
    intro g'
    try dsimp only
    lcg_lit
    iterate 1 (walk_at "m_step")
    refine ListComp_ST (by k_asm) (by with_unfolding_all rfl) (by decide) (by rfl) (by decide) (by rfl) ?_
    walk1
    refine CSrc.lst rfl (by k_asm) (by k_asm) (Or.inr ⟨_, by k_mem, rfl, _, rfl⟩) ssa.2.1 ?_
    intro gq
    refine turnsT (Txt.split (plc a) slash) (fun y v => ∃ t, v = .str y t) (fun y v => ∃ t, v = .str y t) isNm (by rw [List.size_toArray, ssa.1.length]) (Or.inr ⟨_, by k_mem, rfl, _, rfl⟩) ssa.src (fun y v I oI C oC D ys m₂ h tk E' hmem hv hC hx F N off => ?_) fun ysq hysq => ?_
    · obtain ⟨t, rfl⟩ := hv
      have hyl := ssa.2.2 y hmem
      iterate 14 (walk_at "m_step")
      · rename (y != _) = true => c1
        refine TstP.yes (isNm_t (by assumption) c1) ?_
        walk1
        exact ⟨⟨_, rfl⟩, _, _, rfl, by k_asm, by k_asm⟩
      · rename (y != _) = false => c1
        exact TstP.no (isNm_f c1) ⟨trivial, _, _, rfl, by k_asm, by k_asm⟩
      · exact TstP.no (isNm_z (by omega)) ⟨trivial, _, _, rfl, by k_asm, by k_asm⟩
    replace hysq := hysq.strs
    unfold LCg.FinE
    intro Dq hq tkq Fq Nq oq
    refine cend_fin Fq Nq oq (by simpa only [LCg.Off3, and_true] using (by assumption)) (Or.inr ⟨_, by k_mem, rfl, _, rfl⟩) ?_
    iterate 1 (walk_at "m_step")
    refine ListComp_ST (by k_asm) (by with_unfolding_all rfl) (by decide) (by rfl) (by decide) (by rfl) ?_
    walk1
    refine CSrc.lst rfl (by k_asm) (by k_asm) (Or.inr ⟨_, by k_mem, rfl, _, rfl⟩) ssb.2.1 ?_
    intro gz
    refine turnsT (Txt.split (plc b) slash) (fun y v => ∃ t, v = .str y t) (fun y v => ∃ t, v = .str y t) isNm (by rw [List.size_toArray, ssb.1.length]) (Or.inr ⟨_, by k_mem, rfl, _, rfl⟩) ssb.src (fun y v I oI C oC D ys m₂ h tk E' hmem hv hC hx F N off => ?_) fun ysz hysz => ?_
    · obtain ⟨t, rfl⟩ := hv
      have hyl := ssb.2.2 y hmem
      iterate 14 (walk_at "m_step")
      · rename (y != _) = true => c1
        refine TstP.yes (isNm_t (by assumption) c1) ?_
        walk1
        exact ⟨⟨_, rfl⟩, _, _, rfl, by k_asm, by k_asm⟩
      · rename (y != _) = false => c1
        exact TstP.no (isNm_f c1) ⟨trivial, _, _, rfl, by k_asm, by k_asm⟩
      · exact TstP.no (isNm_z (by omega)) ⟨trivial, _, _, rfl, by k_asm, by k_asm⟩
    replace hysz := hysz.strs
    unfold LCg.FinE
    intro Dz hz tkz Fz Nz oz
    refine cend_fin Fz Nz oz (by simpa only [LCg.Off3, and_true] using (by assumption)) (Or.inr ⟨_, by k_mem, rfl, _, rfl⟩) ?_
    iterate 10 (walk_at "m_step")
    (with_reducible rename News _ _ _ _ => N5)
    (with_reducible rename Fr _ _ _ _ => F5)
    obtain ⟨P, M, yP, yM, xP, xM, eP, eM, dP, dM, hlt, hlc⟩ := pick_mm (p := Dq) (q := Dz) hysq hysz
    refine min_two rfl (Rm.cl (by assumption)) (N5.get (.head _)) (N5.get (by k_mem)) (N5.get (by k_mem)) (by simpa using hysq) (by simpa using hysz) fun h6 tk6 k6 => ?_
    rw [eP]
    replace F5 := F5.keeps k6
    replace N5 := N5.keeps k6
    clear k6
    iterate 10 (walk_at "m_step")
    (with_reducible rename News _ _ _ _ => N5)
    (with_reducible rename Fr _ _ _ _ => F5)
    refine max_two rfl (Rm.cl (by assumption)) (N5.get (.head _)) (N5.get (by k_mem)) (N5.get (by k_mem)) (by simpa using hysq) (by simpa using hysz) fun h6 tk6 k6 => ?_
    rw [eM]
    replace F5 := F5.keeps k6
    replace N5 := N5.keeps k6
    clear k6
    iterate 7 (walk_at "m_step")
    (with_reducible rename News _ _ _ _ => N5)
    (with_reducible rename Fr _ _ _ _ => F5)
    have nP := N5 (P, LCg.lst yP) (by rcases dP with ⟨rfl, rfl, rfl⟩ | ⟨rfl, rfl, rfl⟩ <;> k_mem)
    have nM := N5 (M, LCg.lst yM) (by rcases dM with ⟨rfl, rfl, rfl⟩ | ⟨rfl, rfl, rfl⟩ <;> k_mem)
    have sP : StrsAre yP xP := by rcases dP with ⟨_, rfl, rfl⟩ | ⟨_, rfl, rfl⟩ <;> assumption
    have sM : StrsAre yM xM := by rcases dM with ⟨_, rfl, rfl⟩ | ⟨_, rfl, rfl⟩ <;> assumption
    have zP : xP.length ≤ 1001 := by rcases dP with ⟨_, _, rfl⟩ | ⟨_, _, rfl⟩ <;> exact Nat.le_trans (List.length_filter_le _ _) (Nat.le_trans (split_len _) (by omega))
    have mzP : ∀ y ∈ xP, y.length ≤ 1000 := by rcases dP with ⟨_, _, rfl⟩ | ⟨_, _, rfl⟩ <;> intro y hy <;> first | exact ssa.2.2 y (List.mem_filter.mp hy).1 | exact ssb.2.2 y (List.mem_filter.mp hy).1
    obtain ⟨led, hled, N6⟩ := led_of (ncons nP (ncons nM N5))
    clear nP nM N5
    refine wpAny_mono (Q := PickP s L led (lcp xP xM)) (E := NoE) ?loop (fun f s' hp => ?rest) (fun _ _ x => x.elim)
    case loop =>
      refine wpAny_For ?_
      iterate 6 (walk_at "m_step")
      have mP : (P, LCg.lst yP) ∈ led := by rw [hled]; k_mem
      have mM : (M, LCg.lst yM) ∈ led := by rw [hled]; k_mem
      have hPl := N6.get mP
      have lP := Heap.lt_size hPl
      have lL := F5.ns.lt
      have l6 := fun p hp => Heap.lt_size (N6 p hp).1
      refine call_enumerate_1 hPl fun h8 he8 hit8 hz8 k8 => ?_
      refine wpAny_pyIter_enum he8 ?_
      refine my_for_enum (fun i m => Has m [(Str.ofString "s1", .ref P), (Str.ofString "s2", .ref M), (Str.ofString "common", .ref P), (Str.ofString "isabs", .bool true)] ∧ xP.take i = xM.take i) rfl rfl rfl rfl he8 hit8 (its := yP.toArray) ⟨_, k8 _ _ hPl, rfl, _, rfl⟩
        (Nat.succ_ne_self _) (Nat.ne_of_lt (Nat.lt_succ_of_lt lP)) (Nat.ne_of_lt lP) (Nat.ne_of_gt (Nat.lt_succ_of_lt lL)) (Nat.ne_of_gt lL) (fresh_none F5 (Nat.le_succ _)) (fresh_none F5 (Nat.le_refl _)) (F5.keeps k8) (N6.keeps k8)
        (fun p hp => ⟨Nat.ne_of_lt (Nat.lt_succ_of_lt (l6 p hp)), Nat.ne_of_lt (l6 p hp)⟩) (.inr ⟨_, mP⟩) ⟨⟨rfl, rfl, rfl, rfl, trivial⟩, rfl⟩ ?turn ?done
      case turn =>
        rintro i v tki m₁ h tk' oe oi hv ⟨hm, htk⟩ F N
        obtain ⟨c, tc, rfl, hc⟩ := sP.item i v (by simpa using hv)
        replace F := frPut [(Str.ofString "c", .str c tc), (Str.ofString "i", .int (i : Nat) tki), (Str.ofString "s1", .ref P), (Str.ofString "s2", .ref M), (Str.ofString "common", .ref P), (Str.ofString "isabs", .bool true)] F ⟨rfl, rfl, hm⟩
        obtain ⟨hi, hci⟩ := List.getElem?_eq_some_iff.mp hc
        have hj := ltS_range hlt htk hi
        iterate 9 (walk_at "m_step")
        refine unstop (item_strs_nat (N.get (List.mem_append_left _ mM)) sM hj (by omega) fun t2 => ?_)
        iterate 6 (walk_at "m_step")
        · rename (c != _) = true => cc
          iterate 6 (walk_at "m_step")
          refine kmk_slice F N ⟨_, N.get (List.mem_append_left _ mP), rfl, _, rfl⟩ IsPart.none (IsPart.int _ _) (fun D h9 F9 N9 l9 => ?_) (by with_unfolding_all rfl) (by kmk_pure) (by rw [List.size_toArray, sP.length, sizeLine_eq]; omega)
          iterate 6 (walk_at "m_step")
          (with_reducible rename News _ _ _ _ => N9)
          (with_reducible rename Fr _ _ _ _ => F9)
          refine ⟨rfl, D, _, 0, _, _, _, _, rfl, F9, ⟨rfl, rfl, trivial⟩, N9, (fun p hp => .tail _ (List.mem_append_left _ hp)), .head _, ?_⟩
          rw [lcp_at htk hi hj (by rw [hci]; exact bne_iff_ne.mp cc), slicePick_upto']
          exact sP.take' _
        · rename (c != _) = false => cc
          exact ⟨_, _, _, _, rfl, by k_asm, by k_asm, (fun p hp => hp), ⟨rfl, rfl, rfl, rfl, trivial⟩, take_next htk hi hj (by rw [hci]; exact bne_false_eq cc)⟩
      case done =>
        rintro m₁ h tk' ⟨hm, htk⟩ F N
        refine wpAny_execs_nil ?_
        refine ⟨rfl, P, yP.toArray, yP.length, h, tk', m₁, led, rfl, F, ⟨hm.2.2.1, hm.2.2.2.1, trivial⟩, N, fun p hp => hp, mP, ?_⟩
        rw [List.size_toArray, sP.length] at htk
        rw [lcp_all htk]
        simpa using sP
    case rest =>
      obtain ⟨rfl, C, vs, nC, h, tk, m', news', rfl, F7, hm, N7, sub, hC, hvs⟩ := hp
      replace N7 : News s.heap L h ((C, W.listOf vs nC) :: led) := fun p hp => N7 p (by
        rcases List.mem_cons.mp hp with rfl | hp
        · exact hC
        · exact sub p hp)
      rw [hled] at N7
      clear N6 hled sub hC F5
      replace F7 := frPut _ F7 hm
      (try dsimp only)
      have hjs2 := lcp_sizes (y := xM) mzP zP
      have hjs := Nat.le_trans hjs2.1 (show 2000000 ≤ 16777216 by decide)
      have hjz := hjs2.2
      iterate 40 (walk_at "m_step")
      (with_reducible rename Fr _ _ _ _ => F8)
      have e : lcp xP xM = lcp a b := by rw [hlc, plc_names ha, plc_names hb]
      rw [e]
      exact ⟨_, _, _, rfl, rfl, F8.keep, _, rfl⟩
end
theorem part_off_31 : True := by w_top off; trivial
theorem lcp_take : ∀ x y : List Str, lcp x y = x.take (lcp x y).length
  | [], _ => by unfold lcp; rfl
  | _ :: _, [] => by unfold lcp; rfl
  | a :: x, b :: y => by
    unfold lcp
    split
    · rw [List.length_cons, List.take_succ_cons, ← lcp_take x y]
    · rfl
def metR (f : List Str → RowD) (ns : List Str) (k : Nat) : RowD := if k = ns.length then downR f ns else mergeR (downR f (ns.take k)) (upR f ns (ns.length - 1 - k))
section
local macro_rules | `(tactic| walk_at "call ref") => `(tactic| (k_here; (with_reducible show wpAny _ _ (call (Value.ref 190) [Value.ref _]) _ _ _); refine' use_ret ?uF ?uN (c_common ?up ?ua ?ub ?uc ?ur) ?_; walk_at "m_cc"; (case up => exact News.get (by k_asm) (by k_mem)); (case ua => assumption); (case ub => assumption); intro v h' tk' F' N' kp' hv; obtain ⟨t', hv⟩ := hv; rw [lcp_take] at hv; subst hv; clear kp'; (try dsimp only); (try k_fold)))
local macro_rules | `(tactic| walk_at "call ref") => `(tactic| (k_here; (with_reducible show wpAny _ _ (call (Value.ref 244) _) _ _ _); refine stop ?_))
local macro_rules | `(tactic| walk_at "call ref") => `(tactic| (k_here; (with_reducible show wpAny _ _ (call (Value.ref 251) _) _ _ _); refine stop ?_))
theorem c_met {prog : Program} {w : World} {mean mg mb} {A : Around} {s : Shared} {d : Addr} {tl : List (Addr × Obj)} {tbl : List (Str × RowD)} {ns ms : List Str} {t t2 : Tok} {f : List Str → RowD}
    (TT : TabBy prog w RecBy tl d tbl) (hs : Sup s.heap tl) (hok : Ok ns) (hok2 : Ok ms) (ht : ∀ j ≤ ns.length, (plc (ns.take j), f (ns.take j)) ∈ tbl) (hz : ∀ p ∈ tbl, p.2.ag.length ≤ 100 ∧ p.2.ru.length ≤ 100) (c : Cx w mean mg mb s.heap) (hA : Rm A (8+1)) :
    codeAny (model prog w) A (.call (.ref 258) ⟨[.ref d, .str (plc ns) t, .str (plc ms) t2], []⟩) (Ret s (RecO w s tl (metR f ns (lcp ns ms).length))) s := by
  have hkl := lcp_len ns ms
  refine' enter_plain (binds := [(Str.ofString "records", .ref d), (Str.ofString "place", .str (plc ns) t), (Str.ofString "other", .str (plc ms) t2)]) ?cc ?hA ?ho ?hcd ?hb ?hl ?_ ?c2 ?c3 ?c4 ?c5
  walk_at "m_enter"
  intro L h₁ dp fr gd un F N X T R
  have hla := plc_len hok
  have hlk := plc_len (hok.take (lcp ns ms).length)
  walk_at "m_go"
  · rename (_ == _) = true => cc
    have hk : (lcp ns ms).length = ns.length := plc_take hok hkl (Nat.le_refl _) (by rw [List.take_length]; exact eq_of_beq cc)
    rw [metR, if_pos hk]
    (with_reducible rename Fr _ _ _ _ => F0)
    (with_reducible rename News _ _ _ _ => N0)
    refine unstop (use_ret F0 N0 (c_down TT (Sup.base F0 hs) hok ht hz (Cx.fr X T F0) (Rm.le R (by decide))) fun v h1 tk1 F1 N1 kp1 hv => ?_)
    obtain ⟨x1, own1, rfl, hf1, hr1⟩ := hv
    have N2 := nadds F0 N1 hf1
    exact ⟨_, _, _, rfl, rfl, F1.keep, x1, own1, rfl, Fresh.of (fun q hq => N2 q (List.mem_append_left _ hq)), hr1⟩
  · rename (_ == _) = false => cc
    have hk : (lcp ns ms).length ≠ ns.length := fun e => by
      rw [e, List.take_length] at cc
      exact ne_of_beq_false cc rfl
    have hk2 : (lcp ns ms).length < ns.length := by omega
    rw [metR, if_neg hk]
    have hf : ∀ j ≤ ns.length, (f (ns.take j)).ag.length ≤ 100 ∧ (f (ns.take j)).ru.length ≤ 100 := fun j hj => hz _ (ht j hj)
    have g1 := downR_len hf _ hkl
    have g2 := upR_len hf (ns.length - 1 - (lcp ns ms).length) (by omega)
    have hl8 := hok.1
    generalize (lcp ns ms).length = k at *
    have z1 : (downR f (ns.take k)).ag.length ≤ 1000 := by omega
    have z2 : (upR f ns (ns.length - 1 - k)).ag.length ≤ 1000 := by omega
    have z3 : (downR f (ns.take k)).ru.length ≤ 1000 := by omega
    have z4 : (upR f ns (ns.length - 1 - k)).ru.length ≤ 1000 := by
      have : 100 * (ns.length - 1 - k + 1) ≤ 100 * 8 := Nat.mul_le_mul_left _ (by omega)
      omega
    (with_reducible rename Fr _ _ _ _ => F0)
    (with_reducible rename News _ _ _ _ => N0)
    refine unstop (use_ret F0 N0 (c_down TT (Sup.base F0 hs) (hok.take k) (fun j hj => by rw [List.take_take]; exact ht _ (by rw [List.length_take] at hj; omega)) hz (Cx.fr X T F0) (Rm.le R (by decide))) fun v h1 tk1 F1 N1 kp1 hv => ?_)
    obtain ⟨x1, own1, rfl, hf1, hr1⟩ := hv
    have q1 : IsRec w.params h1 x1 (downR f (ns.take k)) := hr1 _ (Sup.both (fun p hp => (hf1 p hp).2) (Sup.base F1 hs))
    clear F0 N0 hf1 hr1 kp1
    walk_at "m_go"
    (with_reducible rename Fr _ _ _ _ => F0)
    (with_reducible rename News _ _ _ _ => N0)
    refine unstop (use_ret F0 N0 (c_up TT (Sup.base F0 hs) hok hk2 ht hz (Cx.fr X T F0) (Rm.le R (by decide))) fun v h2 tk2 F2 N2 kp2 hv => ?_)
    obtain ⟨x2, own2, rfl, hf2, hr2⟩ := hv
    have q2 : IsRec w.params h2 x2 (upR f ns (ns.length - 1 - k)) := hr2 _ (Sup.both (fun p hp => (hf2 p hp).2) (Sup.base F2 hs))
    replace q1 := q1.keeps kp2
    clear F0 N0 hf2 hr2 kp2
    walk_at "m_go"
    (with_reducible rename Fr _ _ _ _ => F9)
    (with_reducible rename News _ _ _ _ => N9)
    rename RecBy _ _ _ (mergeR _ _) => hrb
    exact ⟨_, _, _, rfl, rfl, F9.keep, _, _, rfl, Fresh.of (fun q hq => N9 q (List.mem_append_left _ hq)), fun h hS => hrb h (Sup.left hS)⟩
end
theorem part_off_32 : True := by w_top off; trivial
theorem c_record2 {prog : Program} {w : World} {mean mg mb} {A : Around} {s : Shared} {a : Addr} {r : RowD} (hr : IsRow s.heap a r) (z1 : r.ag.length ≤ 1000) (z2 : r.ru.length ≤ 1000) (c : Cx w mean mg mb s.heap) (hA : Rm A (3+1)) :
    codeAny (model prog w) A (.call (.ref 218) ⟨[.ref a], []⟩) (Ret s fun v h' => ∃ x own, v = .ref x ∧ Fresh s.heap h' own ∧ RecBy w.params own x r) s := by
  obtain ⟨_, _, dv, rv, n1, h1, ag, ru, rfl, rfl, ⟨avs, n2, h2, hs⟩, ⟨rvs, n3, h3, hi⟩, hd, ht⟩ := hr
  have y1 := hs.length
  have y2 := hi.length
  rw [Array.length_toList] at y1 y2
  refine' enter_plain (binds := [(Str.ofString "row", .ref a)]) ?cc ?hA ?ho ?hcd ?hb ?hl ?_ ?c2 ?c3 ?c4 ?c5
  walk_at "m_enter"
  intro L h₁ dp fr gd un F N X T R
  walk_at "m_go"
  (with_reducible rename Fr _ _ _ _ => F)
  (with_reducible rename News _ _ _ _ => N)
  exact ⟨_, _, _, rfl, rfl, F.keep, _, _, rfl, Fresh.of N, fun h hS => ⟨_, _, _, _, _, 4, _, _, _, _, hS _ (.head _), hS _ (.tail _ (.head _)), _, _, rfl, rfl, ⟨_, _, hS _ (.tail _ (.tail _ (.head _))), by simpa using hs⟩,
    ⟨_, _, hS _ (.tail _ (.tail _ (.tail _ (.head _)))), by simpa using hi⟩, hd, ht⟩⟩
theorem RecBy.mono {P : Params} {a b : List (Addr × Obj)} {x : Addr} {r : RowD} (h : RecBy P a x r) (k : ∀ p ∈ a, p ∈ b) : RecBy P b x r := fun h' hS => h h' fun p hp => hS p (k p hp)
theorem tab_nodup {prog : Program} {w : World} {RB : Params → List (Addr × Obj) → Addr → RowD → Prop} {tl : List (Addr × Obj)} {d : Addr} {tbl : List (Str × RowD)} {h : Heap} (T : TabBy prog w RB tl d tbl) (hs : Sup h tl) : (tbl.map (·.1)).Nodup := by
  obtain ⟨kvs, ep, hd, hm⟩ := tab_keys T
  rw [← hm]
  exact (hd _ hs).nodup
theorem nodup_take {l : List Str} : ∀ {i : Nat} {k : Str}, l.Nodup → l[i]? = some k → k ∉ l.take i := by
  induction l with
  | nil => intro i k _ h; simp at h
  | cons a l ih =>
    intro i k hn hk
    cases i with
    | zero => simp
    | succ i =>
      rw [List.nodup_cons] at hn
      have hk : l[i]? = some k := by simpa using hk
      rw [List.take_succ_cons, List.mem_cons, not_or]
      exact ⟨fun e => hn.1 (e ▸ List.mem_of_getElem? hk), ih hn.2 hk⟩
section
local macro_rules | `(tactic| walk_at "subscriptTail Name Name ref str") => `(tactic| walk_at "m_st")
local macro_rules | `(tactic| walk_at "setItem ref str") => `(tactic| walk_at "m_st")
local macro_rules | `(tactic| walk_at "call ref") => `(tactic| (k_here; (with_reducible show wpAny _ _ (call (Value.ref 218) _) _ _ _); refine stop ?_))
def RcJ (prog : Program) (w : World) (d : Addr) (tbl : List (Str × RowD)) : Nat → (Str → Option Value) → List (Addr × Obj) → Prop := fun i m news => ∃ (x : Addr) (o : Obj) (own : List (Addr × Obj)) (kv2 : List (Str × Value)), Has m [(Str.ofString "records", .ref x), (Str.ofString "table", .ref d)] ∧ (x == sysModules) = false ∧ news = (x, o) :: own ∧ (∀ p ∈ own, p.1 ≠ x) ∧ Obj.IsDictOf (PySem.strKind prog w) o kv2 ∧
      kv2.map (·.1) = (tbl.take i).map (·.1) ∧ ∀ j k r, j < i → tbl[j]? = some (k, r) → ∃ a, kv2[j]? = some (k, .ref a) ∧ RecBy w.params own a r
def RcP (prog : Program) (w : World) (s : Shared) (tbl : List (Str × RowD)) : Value → Heap → Prop := fun v h' => ∃ x own, v = .ref x ∧ (x == sysModules) = false ∧ Fresh s.heap h' own ∧ TabBy prog w RecBy own x tbl
theorem c_records {prog : Program} {w : World} {mean mg mb} {A : Around} {s : Shared} {d : Addr} {tl : List (Addr × Obj)} {tbl : List (Str × RowD)}
    (TT : TabBy prog w RowBy tl d tbl) (hs : Sup s.heap tl) (hz : ∀ p ∈ tbl, p.2.ag.length ≤ 100 ∧ p.2.ru.length ≤ 100) (hn : tbl.length ≤ 1000) (lo : (d == sysModules) = false) (c : Cx w mean mg mb s.heap) (hA : Rm A (5+1)) :
    codeAny (model prog w) A (.call (.ref 225) ⟨[.ref d], []⟩) (Ret s (RcP prog w s tbl)) s := by
  refine' enter_plain (binds := [(Str.ofString "table", .ref d)]) ?cc ?hA ?ho ?hcd ?hb ?hl ?_ ?c2 ?c3 ?c4 ?c5
  walk_at "m_enter"
  intro L h₁ dp fr gd un F N X T R
  walk_at "m_go"
  (with_reducible rename Fr _ _ _ _ => F)
  (with_reducible rename News _ _ _ _ => N)
  rename Obj.IsDictOf (PySem.strKind prog w) _ _ => hd0
  rename (_ == sysModules) = false => hlo
  obtain ⟨kvs, ep, hd, hlen, hrow⟩ := id TT
  have hm := hd _ (Sup.base F hs)
  have hdl := hm.lt_size
  refine unstop (wpAny_pyIter_dict lo hm ?_)
  refine my_for (RcJ prog w d tbl)
    (Walks.dictKeys (knd := PySem.strKind prog w) rfl _ d (Nat.ne_of_lt hdl) kvs ep) rfl rfl ?k0 ?k1 ?k2 (F.push _) (fun p hp => ⟨Heap.get?_push_of_some _ (N p hp).1, (N p hp).2⟩) ?k3 ?k4 ?turn ?done
  case k0 => exact notMem2 (Nat.ne_of_lt F.ns.lt) (Nat.ne_of_gt (Nat.lt_of_lt_of_le (hd _ hs).lt_size F.above))
  case k1 => intro b hb; rw [List.mem_singleton.mp hb]; exact fresh_none F (Nat.le_refl _)
  case k2 => exact ⟨⟨_, Heap.get?_push_size _ rfl, rfl, rfl⟩, hm.push _⟩
  case k3 => intro p hp hI; exact absurd (Heap.lt_size (N p hp).1) ((List.mem_singleton.mp hI) ▸ Nat.lt_irrefl _)
  case k4 => exact ⟨_, _, [], [], ⟨rfl, rfl, trivial⟩, hlo, rfl, (fun _ h => nomatch h), hd0, rfl, fun j k r hj => absurd hj (Nat.not_lt_zero _)⟩
  case turn =>
    clear F N hd0 hlo hm
    rintro i v m₁ _ h tk own hi ⟨k, xv, hk, hv⟩ ⟨x, o, ow, kv2, hm, hlo, rfl, hoff, hdo, hkeys, hrec⟩ F N hown hin hw hst
    obtain ⟨tkk, rfl⟩ := Value.isStrOf_shape hv
    rw [hlen] at hi
    obtain ⟨k', r, hkr⟩ : ∃ k' r, tbl[i]? = some (k', r) := ⟨tbl[i].1, tbl[i].2, by rw [List.getElem?_eq_getElem hi]⟩
    obtain ⟨a, ha, hra⟩ := hrow i k' r hkr
    rw [hk] at ha
    obtain ⟨rfl, rfl⟩ := Prod.mk.inj (Option.some.inj ha)
    have hmem : (k, r) ∈ tbl := List.mem_of_getElem? hkr
    have hzr : r.ag.length ≤ 100 ∧ r.ru.length ≤ 100 := hz _ hmem
    have z1 : r.ag.length ≤ 1000 := by omega
    have z2 : r.ru.length ≤ 1000 := by omega
    replace F := frPut [(Str.ofString "key", .str k tkk), (Str.ofString "records", .ref x), (Str.ofString "table", .ref d)] F ⟨rfl, hm⟩
    simp only [List.cons_append] at N
    walk_at "m_go"
    refine unstop (tab_item TT (Sup.base F hs) hmem fun a' ha' => ?_)
    have hr0 := ha' _ (Sup.base F hs)
    walk_at "m_go"
    (with_reducible rename Fr _ _ _ _ => F0)
    (with_reducible rename News _ _ _ _ => N0)
    refine unstop (use_ret F0 N0 (c_record2 hr0 z1 z2 (Cx.fr X T F0) (Rm.le R (by decide))) fun v h1 tk1 F1 N1 kp1 hv => ?_)
    obtain ⟨xr, own1, rfl, hf1, hr1⟩ := hv
    have N2 := nadds F0 N1 hf1
    clear N1 kp1
    walk_at "m_go"
    have hk2 : kv2.length = i := by have := congrArg List.length hkeys; simp only [List.length_map, List.length_take] at this; omega
    have hI : ∃ oI, h.get? _ = some oI := ⟨_, hst.1.choose_spec.1⟩
    obtain ⟨oI, hI⟩ := hI
    have mx := N0 (x, o) (.head _)
    have offx : ∀ p ∈ own1 ++ ow ++ own, p.1 ≠ x := by
      intro p hp e
      rcases List.mem_append.mp hp with hp | hp
      · rcases List.mem_append.mp hp with hp | hp
        · have h1 := (hf1 p hp).1
          rw [e] at h1
          exact absurd (h1.symm.trans mx.1) (fun x => nomatch x)
        · exact hoff p hp e
      · rcases List.mem_cons.mp (hown p hp) with q | q
        · exact hw _ (.head _) (List.mem_singleton.mpr (e.symm.trans q))
        · have q := List.mem_singleton.mp q
          obtain ⟨o', _, ho', _⟩ := hd _ hs
          have h1 := mx.2.2
          rw [← e, q, ho'] at h1
          cases h1
    have N3 : News s.heap L h1 ((x, o) :: (own1 ++ ow ++ own)) := fun p hp => N2 p (by
      simp only [List.mem_append, List.mem_cons] at hp ⊢
      rcases hp with h | (h | h) | h
      · exact .inr (.inl h)
      · exact .inl h
      · exact .inr (.inr (.inl h))
      · exact .inr (.inr (.inr h)))
    refine unstop (kda_set (by k_asm) N3 (.head offx) hdo (strKind_is _ _ _ _) (by rw [hk2, sizeLine_eq]; omega) fun h2 o2 F2 N4 hd2 => ?_)
    have hnk : valueAt kv2 k = none := by
      have h1 := valueAt_isSome (kvs := kv2) (k := k)
      rw [hkeys, List.map_take, decide_eq_false (nodup_take (tab_nodup TT hs) (by rw [List.getElem?_map, hkr]; rfl))] at h1
      exact Option.isSome_eq_false_iff.mp h1 |> Option.isNone_iff_eq_none.mp
    rw [stored_absent hnk] at hd2
    walk_at "m_go"
    refine ⟨_, _, _, _, rfl, F2, N4, (x, o2) :: (own1 ++ ow), rfl, ?w, x, o2, own1 ++ ow, _, ⟨rfl, rfl, trivial⟩, hlo, rfl, (fun p hp => offx p (List.mem_append_left _ hp)), hd2, ?ks, ?rs⟩
    case w =>
      intro p hp
      rcases List.mem_cons.mp hp with rfl | hp
      · exact hw (x, o) (.head _)
      · rcases List.mem_append.mp hp with hp | hp
        · intro hq
          have h1 := (hf1 p hp).1
          rw [List.mem_singleton.mp hq, hI] at h1
          cases h1
        · exact hw _ (.tail _ hp)
    case ks => rw [List.map_append, hkeys, List.take_add_one, hkr, List.map_append]; rfl
    case rs =>
      intro j k' r' hj hjr
      rcases Nat.lt_succ_iff_lt_or_eq.mp hj with hj | rfl
      · obtain ⟨a, h1, h2⟩ := hrec j k' r' hj hjr
        exact ⟨a, by rw [List.getElem?_append_left (by rw [hk2]; exact hj)]; exact h1, h2.mono fun p hp => List.mem_append_right _ hp⟩
      · rw [hkr] at hjr
        obtain ⟨rfl, rfl⟩ := Prod.mk.inj (Option.some.inj hjr)
        exact ⟨xr, by rw [← hk2, List.getElem?_concat_length], hr1.mono fun p hp => List.mem_append_left _ hp⟩
  case done =>
    clear F N hd0 hlo hm
    rintro m₁ _ h tk ⟨x, o, ow, kv2, hm, hlo, rfl, hoff, hdo, hkeys, hrec⟩ F N
    replace F := frPut _ F hm
    rw [hlen] at hkeys hrec
    rw [List.take_length] at hkeys
    walk_at "m_go"
    (with_reducible rename Fr _ _ _ _ => F9)
    (with_reducible rename News _ _ _ _ => N9)
    obtain ⟨es, ep2, r1, r2⟩ := hdo
    refine ⟨_, _, _, rfl, rfl, F9.keep, x, (x, o) :: ow, rfl, hlo, Fresh.of N9, kv2, ep2, fun h hS => ⟨o, es, hS _ (.head _), r1, r2⟩, ?_, fun i k r hi => ?_⟩
    · simpa using congrArg List.length hkeys
    · obtain ⟨a, h1, h2⟩ := hrec i k r (List.getElem?_eq_some_iff.mp hi).1 hi
      exact ⟨a, h1, h2.mono fun p hp => .tail _ hp⟩
end
theorem part_off_33 : True := by w_top off; trivial
theorem orO_assoc (a b c : Option Int) : orO (orO c b) a = orO c (orO b a) := by cases c <;> cases b <;> rfl
theorem mergeR_assoc (a b c : RowD) : mergeR (mergeR a b) c = mergeR a (mergeR b c) := by
  unfold mergeR
  simp only [RowD.mk.injEq]
  refine ⟨?_, List.append_assoc .., (orO_assoc _ _ _).symm, (orO_assoc _ _ _).symm⟩
  rw [List.filter_filter]
  refine List.filter_congr fun y _ => ?_
  simp only [List.mem_filter, decide_eq_true_eq]
  by_cases h1 : y ∈ b.ag <;> by_cases h2 : y ∈ c.ag <;> simp [h1, h2]
theorem met_down (f : List Str → RowD) (ns : List Str) : ∀ j, j < ns.length → mergeR (downR f (ns.take (ns.length - 1 - j))) (upR f ns j) = downR f ns
  | 0, h => by
    have e := downR_succ f (ns := ns) (i := ns.length - 1) (by omega)
    rw [show ns.length - 1 + 1 = ns.length by omega, List.take_length] at e
    rw [Nat.sub_zero, e]; rfl
  | j + 1, h => by
    rw [← met_down f ns j (by omega)]
    show mergeR _ (mergeR (f (ns.take (ns.length - (j + 1)))) (upR f ns j)) = _
    rw [← mergeR_assoc]
    have e := downR_succ f (ns := ns) (i := ns.length - 1 - (j + 1)) (by omega)
    rw [show ns.length - 1 - (j + 1) + 1 = ns.length - 1 - j by omega] at e
    rw [e, show ns.length - (j + 1) = ns.length - 1 - j by omega]
theorem metR_down (f : List Str → RowD) (ns : List Str) {k : Nat} (hk : k ≤ ns.length) : metR f ns k = downR f ns := by
  unfold metR
  split
  · rfl
  · have := met_down f ns (ns.length - 1 - k) (by omega)
    rwa [show ns.length - 1 - (ns.length - 1 - k) = k by omega] at this
theorem all_nm : (seqs 4).all (fun ns => lawNames (plc ns) == ns) = true := by decide +kernel
theorem names_plc {ns : List Str} (h : Ok ns) : lawNames (plc ns) = ns := beq_iff_eq.mp (List.all_eq_true.mp all_nm ns (mem_seqs 4 ns h.1 h.2))
theorem part_off_34 : True := by w_top off; trivial
section
open PyProof.Rows.LCg
variable {prog : Program} {w : World} {A : Around} {E : Value → Shared → Prop} {s : Shared} {h₀ : Heap} {L : Addr} {m : Str → Option Value} {env : Env}
theorem newEnvC {M : Model} {scope : Scope} {g : Addr} {cl : List (Str × Addr)} {qual : Str} {x : Str} {Q : Env → Shared → Prop}
    (hc : ∀ n, cellsFrom n scope.names cl = (x, n) :: cl) (hp : ∀ h, pushCells h scope.names = h.push { cls := .type "cell", data := .cell none })
    (h : Q { scope := scope, locals := s.heap.objs.size, globals := g, cells := (x, s.heap.objs.size + 1) :: cl, qual := qual, func := none, code := env.code, frame := env.frame, builtins := env.builtins }
       { s with heap := (s.heap.push { cls := .type "dict", data := .dict #[] }).push { cls := .type "cell", data := .cell none } }) :
    wpAny M A (newFunctionEnv scope g cl [] qual none .none (some env)) Q E s := by
  simp only [newFunctionEnv, Option.isSome_some, if_true]
  refine wpAny_bind (wpAny_alloc ?_)
  refine wpAny_bind (wpAny_layCells _ (fun name kind cells => by cases hkc : kind == NameKind.cell <;> simp) _ _ _ _ ?_)
  rw [hc, hp]
  rw [show ({ s with heap := s.heap.push { cls := .type "dict", data := .dict #[] } } : Shared).heap.objs.size = s.heap.objs.size + 1 from Heap.size_push ..]
  exact wpAny_bind (wpAny_pure (wpAny_pure h))
def RestC (prog : Program) (w : World) (A : Around) (h₀ : Heap) (L : Addr) (m : Str → Option Value) (env : Env) (ct elt : PySem.Expr) (x : Str) (scope : Scope) (cl : List (Str × Addr)) (s : Shared) (S : List (Addr × Obj) → Prop) (P : Nat → Value → Prop) (Fin : List Value → List (Addr × Obj) → Prop) (n : Nat) (news : List (Addr × Obj)) : Prop :=
  ∃ (f : Nat → Bool) (Gd : Nat → Value → Prop), S news ∧
  (∀ i v I oI C oC G oG D ys h tk (E' : Value → Shared → Prop), i < n → P i v → oG.data = .cell (some v) → Fr h₀ L h m → News h₀ L h ((I, oI) :: (C, oC) :: (G, oG) :: (D, LCg.lst ys) :: news) →
      wpAny (model prog w) A (isTrue ct (compEnvC scope ((x, G) :: cl) C env) (eval ct (compEnvC scope ((x, G) :: cl) C env))) (TstP (f i) (fun s' => wpAny (model prog w) A (eval elt (compEnvC scope ((x, G) :: cl) C env)) (EltP h₀ L m s ((I, oI) :: (C, oC) :: (G, oG) :: (D, LCg.lst ys) :: news) (Gd i)) E' s') (EltP h₀ L m s ((I, oI) :: (C, oC) :: (G, oG) :: (D, LCg.lst ys) :: news) (fun _ => True) Value.none)) E' { s with heap := h, toks := tk }) ∧
  (∀ ys, All2 Gd ((List.range n).filter f) ys → Fin ys news)
theorem block_C {ct elt iter : PySem.Expr} {x : Str} {px : Pos} {scope : Scope} {cl : List (Str × Addr)} {pos : Pos} {s₂ : Shared} {I : Addr} {fp : List Addr} {n : Nat} {P : Nat → Value → Prop} {St : Nat → Heap → Prop} {S : List (Addr × Obj) → Prop} {news : List (Addr × Obj)}
    {Fin : List Value → List (Addr × Obj) → Prop} {RR : Value → Addr → Result → Shared → Prop}
    (W : Walks prog w A I fp [I] n P St) (hsz : n ≤ sizeLine) (hIo : ∀ i h, St i h → ∃ o, h.get? I = some o)
    (hSt : ∀ i h h' o nw, St i h → h.get? I = some o → h'.get? I = some o → (∀ b o, h₀.get? b = some o → h'.get? b = some o) → News h₀ L h' nw → S nw → St i h')
    (hkind : scope.kind = .function) (hx : ∀ cl C, (compEnvC scope cl C env).kindOf x = some .cell) (hst : St 0 s₂.heap) (hfp : ∀ b ∈ fp, b < s₂.heap.objs.size)
    (hc : ∀ n, cellsFrom n scope.names cl = (x, n) :: cl) (hp : ∀ h, pushCells h scope.names = h.push { cls := .type "cell", data := .cell none })
    (F : Fr h₀ L s₂.heap m) (N : News h₀ L s₂.heap news) (hIL : L ≠ I) (hI₀ : h₀.get? I = none) (off : ∀ p ∈ news, p.1 ≠ I)
    (R : RestC prog w A h₀ L m env ct elt x scope cl s₂ S P Fin n news)
    (hRR : ∀ D C h tk m' ys, Fr h₀ L h m → News h₀ L h ((D, LCg.lst ys) :: news) → Off1 D news → h.Ns C m' → h₀.get? C = none → h₀.get? D = none → C ≠ L → D ≠ L → C ≠ D → (∀ p ∈ news, p.1 ≠ C) → Fin ys news → RR (.ref D) C (.ok .next) { s₂ with heap := h, toks := tk }) :
    wpAny (model prog w) A (newList []) (fun acc s₃ => wpAny (model prog w) A (newFunctionEnv scope env.globals cl [] env.qual none .none (some env)) (fun cenv s₄ =>
      codeAny (model prog w) A (.compStart (.ListComp elt [⟨.Name x px, iter, [ct], 0⟩] scope pos) 0 (.ref I) acc { cenv with scope := relabel scope env }) (RR acc cenv.locals) s₄) E s₃) E s₂ := by
  obtain ⟨f, Gd, hS, turn, fin⟩ := R
  refine wpAny_newObj_type (newEnvC hc hp ?_)
  dsimp only
  generalize hH2 : s₂.heap.push { cls := .type "list", dict := none, data := .seq ([] : List Value).toArray } = H2
  have hC : H2.objs.size = s₂.heap.objs.size + 1 := by rw [← hH2, Heap.size_push]
  generalize hh₁ : (H2.push { cls := .type "dict", data := .dict #[] }).push { cls := .type "cell", data := .cell none } = h₁
  have nsC : h₁.Ns H2.objs.size (fun _ => none) := hh₁ ▸ (Heap.Ns.new H2 (.type "dict")).keeps fun b o e => Heap.get?_push_of_some _ e
  have hG1 : h₁.get? (H2.objs.size + 1) = some { cls := .type "cell", data := .cell none } := by
    rw [← hh₁, ← Heap.size_push (h := H2) (o := { cls := .type "dict", data := .dict #[] })]; exact Heap.get?_push_size _ rfl
  generalize hGe : H2.objs.size + 1 = G at hG1 ⊢
  have old2 : ∀ b o, H2.get? b = some o → h₁.get? b = some o := fun b o e => hh₁ ▸ Heap.get?_push_of_some _ (Heap.get?_push_of_some _ e)
  have old : ∀ b o, s₂.heap.get? b = some o → h₁.get? b = some o := fun b o e => old2 b o (hH2 ▸ Heap.get?_push_of_some _ e)
  have hacc : h₁.get? s₂.heap.objs.size = some (LCg.lst []) := old2 _ _ (hH2 ▸ Heap.get?_push_size _ rfl)
  have hDC : s₂.heap.objs.size ≠ H2.objs.size := by rw [hC]; exact Nat.ne_of_lt (Nat.lt_succ_self _)
  have hCG : H2.objs.size ≠ G := by rw [← hGe]; exact Nat.ne_of_lt (Nat.lt_succ_self _)
  have hDG : s₂.heap.objs.size ≠ G := by rw [← hGe, hC]; exact Nat.ne_of_lt (Nat.lt_succ_of_lt (Nat.lt_succ_self _))
  have below : ∀ b, b < s₂.heap.objs.size → b ≠ H2.objs.size ∧ b ≠ G ∧ b ≠ s₂.heap.objs.size := fun b hb => ⟨by rw [hC]; exact Nat.ne_of_lt (Nat.lt_succ_of_lt hb), by rw [← hGe, hC]; exact Nat.ne_of_lt (Nat.lt_succ_of_lt (Nat.lt_succ_of_lt hb)), Nat.ne_of_lt hb⟩
  have hDf : s₂.heap.objs.size ∉ fp := fun hm => Nat.lt_irrefl _ (hfp _ hm)
  have hGf : G ∉ fp := fun hm => (below _ (hfp _ hm)).2.1 rfl
  have hIf : I ∈ fp := W.sub I (List.mem_singleton.mpr rfl)
  have hIlt : I < s₂.heap.objs.size := hfp I hIf
  have hst₁ : St 0 h₁ := W.frame _ _ _ hst fun b _ o e => old b o e
  have fresh₀ : ∀ a, s₂.heap.objs.size ≤ a → h₀.get? a = none := fun a ha => fresh_none F ha
  have hD₀ : h₀.get? s₂.heap.objs.size = none := fresh₀ _ (Nat.le_refl _)
  have hC₀ : h₀.get? H2.objs.size = none := fresh₀ _ (by rw [hC]; exact Nat.le_succ _)
  have hG₀ : h₀.get? G = none := fresh₀ _ (by rw [← hGe, hC]; exact Nat.le_succ_of_le (Nat.le_succ _))
  have hLlt : L < s₂.heap.objs.size := F.ns.lt
  have hDL : s₂.heap.objs.size ≠ L := Ne.symm (below L hLlt).2.2
  have hCL : H2.objs.size ≠ L := Ne.symm (below L hLlt).1
  have hGL : G ≠ L := Ne.symm (below L hLlt).2.1
  have hCI : I ≠ H2.objs.size := (below I hIlt).1
  have hGI : I ≠ G := (below I hIlt).2.1
  have hDI : I ≠ s₂.heap.objs.size := (below I hIlt).2.2
  have offb : ∀ p ∈ news, p.1 ≠ H2.objs.size ∧ p.1 ≠ G ∧ p.1 ≠ s₂.heap.objs.size := fun p hp => below _ (Heap.lt_size (N p hp).1)
  have offD : Off1 s₂.heap.objs.size news := (Off3.of (I := I) (C := H2.objs.size) (D := s₂.heap.objs.size) fun p hp => ⟨off p hp, (offb p hp).1, (offb p hp).2.2⟩).one
  obtain ⟨oC, heC, hoC⟩ := ns_obj nsC
  have loop : ∀ s₃ : Shared, (∃ tk, s₃ = { s₂ with heap := h₁, toks := tk }) →
      codeAny (model prog w) A (.compLoop (.ListComp elt [⟨.Name x px, iter, [ct], 0⟩] scope pos) 0 (.ref I) (.ref s₂.heap.objs.size) (compEnvC scope ((x, G) :: cl) H2.objs.size env))
        (RR (.ref s₂.heap.objs.size) H2.objs.size) s₃ := by
    rintro s₃ ⟨tk₀, rfl⟩
    refine codeAny_compLoop_tests
      (fun k s' => ∃ h' tk i ys oG, s' = { s₂ with heap := h', toks := tk } ∧ i ≤ n ∧ k = n + 1 - i ∧ ys.length ≤ i ∧ St i h' ∧ Fr h₀ L h' m ∧ (∃ v₀, oG.data = .cell v₀) ∧ News h₀ L h' ((H2.objs.size, oC) :: (G, oG) :: (s₂.heap.objs.size, LCg.lst ys) :: news) ∧
        All2 Gd ((List.range i).filter f) ys) ?_ (n + 1)
      ⟨h₁, _, 0, [], { cls := .type "cell", data := .cell none }, rfl, Nat.zero_le _, rfl, Nat.le_refl _, hst₁, F.keeps old, ⟨none, rfl⟩, fun p hp => ?_, .nil⟩
    · rintro k s' ⟨h', tk, i, ys, oG, rfl, hi, rfl, hyl, hst', F', ⟨v₀, hv₀⟩, N', hys⟩
      have offI : ∀ p ∈ (H2.objs.size, oC) :: (G, oG) :: (s₂.heap.objs.size, LCg.lst ys) :: news, p.1 ≠ I := fun p hp => by
        rcases List.mem_cons.mp hp with rfl | hp
        · exact Ne.symm hCI
        rcases List.mem_cons.mp hp with rfl | hp
        · exact Ne.symm hGI
        rcases List.mem_cons.mp hp with rfl | hp
        · exact Ne.symm hDI
        · exact off p hp
      by_cases hlt : i < n
      · refine W.item i _ _ _ hlt hst' fun v h₂ tk₂ hPv hst₂ hk₂ => ?_
        have F₂ := fr_but F' hk₂ hIL hI₀
        have N₂ := news_but N' hk₂ offI
        refine wpAny_assign_Name (wpAny_storeName_cell hkind (hx _ _) (c := G) (by show List.lookup x ((x, G) :: cl) = _; simp [List.lookup_cons]) ⟨oG, (N₂ _ (.tail _ (.head _))).1, hv₀⟩ fun h₃ hv₃ hs₃ => ?_)
        refine wpAny_tests_one ?_
        obtain ⟨oG', hoG', hvG⟩ := hv₃
        have hst₃ : St (i + 1) h₃ := W.frame _ _ _ hst₂ fun b hb o e => hs₃.extBut b o (fun q => hGf (q ▸ hb)) e
        obtain ⟨oI, heI⟩ := hIo _ _ hst₃
        have F₃ : Fr h₀ L h₃ m := F₂.change hs₃ hGL hG₀
        have N₃ : News h₀ L h₃ ((I, oI) :: (H2.objs.size, oC) :: (G, oG') :: (s₂.heap.objs.size, LCg.lst ys) :: news) := fun p hp => by
          rcases List.mem_cons.mp hp with rfl | hp
          · exact ⟨heI, Ne.symm hIL, hI₀⟩
          rcases List.mem_cons.mp hp with rfl | hp
          · have z := N₂ _ (.head _); exact ⟨hs₃.extBut _ _ hCG z.1, z.2⟩
          rcases List.mem_cons.mp hp with rfl | hp
          · exact ⟨hoG', hGL, hG₀⟩
          rcases List.mem_cons.mp hp with rfl | hp
          · have z := N₂ _ (.tail _ (.tail _ (.head _))); exact ⟨hs₃.extBut _ _ hDG z.1, z.2⟩
          · have z := N₂ _ (.tail _ (.tail _ (.tail _ hp))); exact ⟨hs₃.extBut _ _ (offb p hp).2.1 z.1, z.2⟩
        have et : List.range (i + 1) = List.range i ++ [i] := List.range_succ
        refine wpAny_mono (turn i v I oI H2.objs.size oC G oG' s₂.heap.objs.size ys h₃ _ _ hlt hPv hvG F₃ N₃) (fun ok s₄ h₄ => ?_) fun _ _ e => e
        obtain ⟨hok, h₄⟩ := h₄
        cases ok with
        | true =>
          simp only [if_true] at h₄ ⊢
          refine wpAny_mono h₄ (fun y s₅ h₅ => ?_) fun _ _ e => e
          obtain ⟨hGy, h₄, tk₄, rfl, F₄, N₄⟩ := h₅
          have hst₄ : St (i + 1) h₄ := hSt _ _ _ _ _ hst₃ heI (N₄ _ (.head _)).1 F₄.keep (fun p hp => N₄ p (.tail _ (.tail _ (.tail _ (.tail _ hp))))) hS
          have zD := (N₄ _ (.tail _ (.tail _ (.tail _ (.head _))))).1
          refine append_at (hsz := by show ys.toArray.size ≤ sizeLine; rw [List.size_toArray]; exact Nat.le_trans (Nat.le_trans hyl hi) hsz) zD fun h₅ hs₅ hD₅ => ?_
          refine ⟨n + 1 - (i + 1), by omega, h₅, tk₄, i + 1, ys ++ [y], oG', rfl, hlt, rfl, by rw [List.length_append, List.length_singleton]; exact Nat.succ_le_succ hyl, W.frame _ _ _ hst₄ fun b hb o e => hs₅.extBut b o (fun q => hDf (q ▸ hb)) e, F₄.change hs₅ hDL hD₀,
            ⟨_, hvG⟩, fun p hp => ?_, by rw [et, List.filter_append, List.filter_cons, ← hok]; exact hys.snoc hGy⟩
          rcases List.mem_cons.mp hp with rfl | hp
          · have z := N₄ _ (.tail _ (.head _)); exact ⟨hs₅.extBut _ _ (Ne.symm hDC) z.1, z.2⟩
          rcases List.mem_cons.mp hp with rfl | hp
          · have z := N₄ _ (.tail _ (.tail _ (.head _))); exact ⟨hs₅.extBut _ _ (Ne.symm hDG) z.1, z.2⟩
          rcases List.mem_cons.mp hp with rfl | hp
          · exact ⟨hD₅.trans (congrArg some (lst_snoc ys y)), hDL, hD₀⟩
          · have z := N₄ _ (.tail _ (.tail _ (.tail _ (.tail _ hp)))); exact ⟨hs₅.extBut _ _ (offb p hp).2.2 z.1, z.2⟩
        | false =>
          simp only [Bool.false_eq_true, if_false] at h₄ ⊢
          obtain ⟨_, h₅, tk₄, rfl, F₄, N₄⟩ := h₄
          have hst₄ : St (i + 1) h₅ := hSt _ _ _ _ _ hst₃ heI (N₄ _ (.head _)).1 F₄.keep (fun p hp => N₄ p (.tail _ (.tail _ (.tail _ (.tail _ hp))))) hS
          exact ⟨n + 1 - (i + 1), by omega, h₅, tk₄, i + 1, ys, oG', rfl, hlt, rfl, Nat.le_succ_of_le hyl, hst₄, F₄, ⟨_, hvG⟩, fun p hp => N₄ p (.tail _ hp), by rw [et, List.filter_append, List.filter_cons, ← hok]; simpa using hys⟩
      · obtain rfl : i = n := Nat.le_antisymm hi (Nat.not_lt.mp hlt)
        refine W.done _ _ _ hst' fun h₂ tk₂ hk₂ => ?_
        have N₂ := news_but N' hk₂ offI
        exact hRR _ _ h₂ tk₂ _ ys (fr_but F' hk₂ hIL hI₀) (fun p hp => N₂ p (.tail _ (.tail _ hp))) offD (hoC.ns (N₂ _ (.head _)).1) hC₀ hD₀ hCL hDL (Ne.symm hDC) (fun p hp => (offb p hp).1) (fin ys hys)
    · rcases List.mem_cons.mp hp with rfl | hp
      · exact ⟨heC, hCL, hC₀⟩
      rcases List.mem_cons.mp hp with rfl | hp
      · exact ⟨hG1, hGL, hG₀⟩
      rcases List.mem_cons.mp hp with rfl | hp
      · exact ⟨hacc, hDL, hD₀⟩
      · exact ⟨old _ _ (N p hp).1, (N p hp).2⟩
  exact codeAny_compStart_list (loop _ ⟨_, rfl⟩) (W.self 0 _ _ _ hst₁ (loop _ ⟨_, rfl⟩))
end
theorem part_off_35 : True := by w_top off; trivial
section
open PyProof.Rows.LCg
variable {prog : Program} {w : World} {A : Around} {E : Value → Shared → Prop} {R : Result → Shared → Prop} {s : Shared} {h₀ : Heap} {L : Addr} {m : Str → Option Value} {env : Env}
theorem turn2_in (elt tx ty it0 it1 : PySem.Expr) (scope : Scope) (pos : Pos) (it acc : Value) (env : Env) :
    compTurn (.ListComp elt [⟨tx, it0, [], 0⟩, ⟨ty, it1, [], 0⟩] scope pos) 1 it acc env = (standAt it1.pos >>= fun _ => pyNext it >>= fun r => match r with
      | none => pure (.done .next)
      | some v => letOwnedTupleGo ty it v >>= fun _ => assign ty env v >>= fun _ =>
        (eval elt env >>= fun x => call (.builtin "list.append") [acc, x] >>= fun _ => pure ()) >>= fun _ =>
          again (.compLoop (.ListComp elt [⟨tx, it0, [], 0⟩, ⟨ty, it1, [], 0⟩] scope pos) 1 it acc env)) := by rfl
theorem turn2_out (elt tx ty it0 it1 : PySem.Expr) (scope : Scope) (pos : Pos) (it acc : Value) (env : Env) :
    compTurn (.ListComp elt [⟨tx, it0, [], 0⟩, ⟨ty, it1, [], 0⟩] scope pos) 0 it acc env = (standAt it0.pos >>= fun _ => pyNext it >>= fun r => match r with
      | none => pure (.done .next)
      | some v => letOwnedTupleGo tx it v >>= fun _ => assign tx env v >>= fun _ =>
        (eval it1 env >>= fun x => standAt it1.pos >>= fun _ => foldedSetIterable it1 env x >>= fun x => holding [x] (pyIter x) >>= fun i =>
          runOwn (.compStart (.ListComp elt [⟨tx, it0, [], 0⟩, ⟨ty, it1, [], 0⟩] scope pos) 1 i acc env) env >>= fun _ =>
          again (.compLoop (.ListComp elt [⟨tx, it0, [], 0⟩, ⟨ty, it1, [], 0⟩] scope pos) 0 it acc env))) := by rfl
abbrev two (x y : Str) (px py pe : Pos) (it0 it1 : PySem.Expr) (scope : Scope) (pos : Pos) : PySem.Expr := .ListComp (.Name y pe) [⟨.Name x px, it0, [], 0⟩, ⟨.Name y py, it1, [], 0⟩] scope pos
theorem in_loop {x y : Str} {px py pe : Pos} {it0 it1 : PySem.Expr} {scope : Scope} {pos : Pos} {it acc : Value} {env : Env} (Inv : Nat → Shared → Prop)
    (turn : ∀ n s, Inv n s → wpAny (model prog w) A (pyNext it) (fun r s₁ => match r with
      | none => R (.ok .next) s₁
      | some v => wpAny (model prog w) A (assign (.Name y py) env v) (fun _ s₂ => wpAny (model prog w) A (eval (.Name y pe) env) (fun x s₃ =>
          wpAny (model prog w) A (call (.builtin "list.append") [acc, x]) (fun _ s₄ => ∃ m, m < n ∧ Inv m s₄) (notedBy (model prog w) A env fun e s' => R (.error e) s') s₃)
          (notedBy (model prog w) A env fun e s' => R (.error e) s') s₂) (notedBy (model prog w) A env fun e s' => R (.error e) s') s₁) (notedBy (model prog w) A env fun e s' => R (.error e) s') s)
    (n : Nat) (h : Inv n s) : codeAny (model prog w) A (.compLoop (two x y px py pe it0 it1 scope pos) 1 it acc env) R s := by
  refine codeAny_loop rfl Inv (fun n s hI => ?_) n h
  show wpAny _ _ ((compTurn (two x y px py pe it0 it1 scope pos) 1 it acc env).onRaise (fun x => do noteFrame x env; theTreesLotGoes x)) _ _ s
  refine wpAny_noted ?_
  rw [two, turn2_in]
  refine wpAny_bind (wpAny_standAt (wpAny_bind (wpAny_mono (turn n s hI) (fun r s₁ h₁ => ?_) fun _ _ h' => h')))
  cases r with
  | none => exact wpAny_pure h₁
  | some v =>
    refine wpAny_bind (wpAny_of_eq rfl ?_)
    exact wpAny_bind (wpAny_mono h₁ (fun _ s₂ h₂ => wpAny_bind (wpAny_bind (wpAny_mono h₂ (fun x s₃ h₃ => wpAny_bind (wpAny_mono h₃
      (fun _ s₄ h₄ => wpAny_pure (wpAny_pure ⟨rfl, h₄⟩)) fun _ _ h' => h')) fun _ _ h' => h'))) fun _ _ h' => h')
theorem out_loop {x y : Str} {px py pe : Pos} {it0 it1 : PySem.Expr} {scope : Scope} {pos : Pos} {it acc : Value} {env : Env} (Inv : Nat → Shared → Prop)
    (turn : ∀ n s, Inv n s → wpAny (model prog w) A (pyNext it) (fun r s₁ => match r with
      | none => R (.ok .next) s₁
      | some v => wpAny (model prog w) A (assign (.Name x px) env v) (fun _ s₂ => wpAny (model prog w) A (eval it1 env) (fun x₁ s₃ => wpAny (model prog w) A (pyIter x₁) (fun i s₄ =>
          codeAny (model prog w) A (.compStart (two x y px py pe it0 it1 scope pos) 1 i acc env) (fun r s₅ => r = .ok .next ∧ ∃ m, m < n ∧ Inv m s₅) s₄) (notedBy (model prog w) A env fun e s' => R (.error e) s') s₃)
          (notedBy (model prog w) A env fun e s' => R (.error e) s') s₂) (notedBy (model prog w) A env fun e s' => R (.error e) s') s₁) (notedBy (model prog w) A env fun e s' => R (.error e) s') s)
    (n : Nat) (h : Inv n s) (hs : ∀ v, foldedSetIterable it1 env v = pure v) : codeAny (model prog w) A (.compLoop (two x y px py pe it0 it1 scope pos) 0 it acc env) R s := by
  refine codeAny_loop rfl Inv (fun n s hI => ?_) n h
  show wpAny _ _ ((compTurn (two x y px py pe it0 it1 scope pos) 0 it acc env).onRaise (fun x => do noteFrame x env; theTreesLotGoes x)) _ _ s
  refine wpAny_noted ?_
  rw [two, turn2_out]
  refine wpAny_bind (wpAny_standAt (wpAny_bind (wpAny_mono (turn n s hI) (fun r s₁ h₁ => ?_) fun _ _ h' => h')))
  cases r with
  | none => exact wpAny_pure h₁
  | some v =>
    refine wpAny_bind (wpAny_of_eq rfl ?_)
    refine wpAny_bind (wpAny_mono h₁ (fun _ s₂ h₂ => wpAny_bind (wpAny_mono h₂ (fun x₁ s₃ h₃ => wpAny_bind (wpAny_standAt (wpAny_bind (wpAny_of_eq (hs _) (wpAny_bind (wpAny_holding (wpAny_mono h₃
      (fun i s₄ h₄ => wpAny_bind (wpAny_runOwn (codeAny_mono h₄ fun r s₅ hr => ?_))) fun _ _ h' => h'))))))) fun _ _ h' => h')) fun _ _ h' => h')
    obtain ⟨rfl, hr⟩ := hr
    exact wpAny_pure ⟨rfl, hr⟩
theorem start2 {x y : Str} {px py pe : Pos} {it0 it1 : PySem.Expr} {scope : Scope} {pos : Pos} {it acc : Value} {env : Env} {d : Nat} (hd : ∃ g, (clausesOf (two x y px py pe it0 it1 scope pos))[d]? = some g ∧ g.is_async = 0)
    (h0 : codeAny (model prog w) A (.compLoop (two x y px py pe it0 it1 scope pos) d it acc env) R s)
    (h : wpAny (model prog w) A (pyIter it) (fun it' s' => codeAny (model prog w) A (.compLoop (two x y px py pe it0 it1 scope pos) d it' acc env) R s')
      (notedBy (model prog w) A env fun x s' => R (.error x) s') s) :
    codeAny (model prog w) A (.compStart (two x y px py pe it0 it1 scope pos) d it acc env) R s := by
  obtain ⟨g, hg, ha⟩ := hd
  refine codeAny_of_tree ?_
  show wpAny _ _ ((compStart (two x y px py pe it0 it1 scope pos) d it acc env).onRaise (fun x => do noteFrame x env; standAt theWindowsPlace)) _ _ s
  refine wpAny_notedAt ?_
  unfold compStart
  rw [hg]
  show wpAny _ _ (if (g.is_async != 0) = true then _ else _) _ _ s
  rw [ha, if_neg (by decide)]
  show wpAny _ _ (ask >>= _) _ _ s
  refine wpAny_bind (wpAny_askSetting (wpAny_ite ?_))
  split
  · first
      | exact wpAny_bind (wpAny_pure (wpAny_pure (And.intro rfl h0)))
      | exact wpAny_pure (And.intro rfl h0)
  · refine wpAny_bind (wpAny_rule ?_)
    show wpAny _ _ (standAt g.iter.pos >>= _) _ _ s
    exact wpAny_bind (wpAny_standAt (wpAny_bind (wpAny_mono h (fun it' s' h' => wpAny_pure (And.intro rfl h')) fun _ _ x => x)))
/-- the inner clause over a list of the base -/
theorem seg_loop {x y : Str} {px py pe : Pos} {it0 it1 : PySem.Expr} {scope : Scope} {pos : Pos} {cenv : Env} {J b C D : Addr} {its : Array Value} {ys : List Value} {oC : Obj} {m₂ : Str → Option Value} {rest : List (Addr × Obj)}
    (hh : A.handled = none) (hk : cenv.scope.kind = .function) (hy : cenv.kindOf y = some .local) (hd : (y == ("__debug__" : Str)) = false) (hC : cenv.locals = C)
    (hit : s.heap.IsListIter J b 0) (hb : h₀.IsList b its) (hJ₀ : h₀.get? J = none) (hJL : J ≠ L) (hJC : J ≠ C) (hJD : J ≠ D) (hCD : C ≠ D) (hJr : ∀ p ∈ rest, p.1 ≠ J) (hCr : ∀ p ∈ rest, p.1 ≠ C) (hDr : ∀ p ∈ rest, p.1 ≠ D)
    (F : Fr h₀ L s.heap m) (hn : NsObj oC m₂) (N : News h₀ L s.heap ((C, oC) :: (D, LCg.lst ys) :: rest)) (hsz : ys.length + its.size ≤ sizeLine)
    (hR : ∀ h' tk oC' m', NsObj oC' m' → Fr h₀ L h' m → News h₀ L h' ((C, oC') :: (D, LCg.lst (ys ++ its.toList)) :: rest) → R (.ok .next) { s with heap := h', toks := tk }) :
    codeAny (model prog w) A (.compLoop (two x y px py pe it0 it1 scope pos) 1 (.ref J) (.ref D) cenv) R s := by
  subst hC
  obtain ⟨ob, hob, rb⟩ := id hb
  have hbJ : b ≠ J := fun e => by rw [e, hJ₀] at hob; cases hob
  have W := Walks.list (prog := prog) (w := w) hh J b hbJ its
  have hCL : cenv.locals ≠ L := (N _ (.head _)).2.1
  have hC₀ : h₀.get? cenv.locals = none := (N _ (.head _)).2.2
  have hDL : D ≠ L := (N _ (.tail _ (.head _))).2.1
  have hD₀ : h₀.get? D = none := (N _ (.tail _ (.head _))).2.2
  have hbC : b ≠ cenv.locals := fun e => by rw [e, hC₀] at hob; cases hob
  have hbD : b ≠ D := fun e => by rw [e, hD₀] at hob; cases hob
  refine in_loop (fun k s' => ∃ h' tk i oC' m', s' = { s with heap := h', toks := tk } ∧ i ≤ its.size ∧ k = its.size + 1 - i ∧ (h'.IsListIter J b i ∧ h'.IsList b its) ∧ NsObj oC' m' ∧ Fr h₀ L h' m ∧ News h₀ L h' ((cenv.locals, oC') :: (D, LCg.lst (ys ++ its.toList.take i)) :: rest))
    ?_ (its.size + 1) ⟨s.heap, s.toks, 0, oC, m₂, rfl, Nat.zero_le _, rfl, ⟨hit, ⟨ob, F.keep _ _ hob, rb⟩⟩, hn, F, by simpa using N⟩
  rintro k s' ⟨h', tk, i, oC', m', rfl, hi, rfl, hst', hn', F', N'⟩
  have offJ : ∀ p ∈ (cenv.locals, oC') :: (D, LCg.lst (ys ++ its.toList.take i)) :: rest, p.1 ≠ J := fun p hp => by
    rcases List.mem_cons.mp hp with rfl | hp
    · exact Ne.symm hJC
    rcases List.mem_cons.mp hp with rfl | hp
    · exact Ne.symm hJD
    · exact hJr p hp
  by_cases hlt : i < its.size
  · refine W.item i _ _ _ hlt hst' fun v h₂ tk₂ hPv hst₂ hk₂ => ?_
    have F₂ := fr_but F' hk₂ (Ne.symm hJL) hJ₀
    have N₂ := news_but N' hk₂ offJ
    refine wpAny_assign_Name (wpAny_storeName_local hy (hn'.ns (N₂ _ (.head _)).1) (fun h₃ hn₃ hs₃ => ?_) (by rw [hk]; rfl))
    have hst₃ := W.frame _ _ _ hst₂ fun b' hb' o e => hs₃.extBut b' o (fun q => by
      rcases List.mem_cons.mp hb' with e' | hb'
      · exact hJC (e'.symm.trans q)
      · exact hbC ((List.mem_singleton.mp hb').symm.trans q)) e
    obtain ⟨oC3, heC, hoC⟩ := ns_obj hn₃
    have F₃ : Fr h₀ L h₃ m := F₂.change hs₃ hCL hC₀
    have N₃ : News h₀ L h₃ ((cenv.locals, oC3) :: (D, LCg.lst (ys ++ its.toList.take i)) :: rest) := fun p hp => by
      rcases List.mem_cons.mp hp with rfl | hp
      · exact ⟨heC, hCL, hC₀⟩
      have z := N₂ p (.tail _ hp)
      refine ⟨hs₃.extBut _ _ ?_ z.1, z.2⟩
      rcases List.mem_cons.mp hp with rfl | hp
      · exact Ne.symm hCD
      · exact hCr p hp
    refine wpAny_Name (wpAny_loadName_local (v := v) hk hy hn₃ (by simp) ?_) hd
    have hl : (its.toList.take i).length = i := by rw [List.length_take, Array.length_toList]; omega
    refine append_at (hsz := by show (ys ++ its.toList.take i).toArray.size ≤ sizeLine; rw [List.size_toArray, List.length_append, hl]; omega) (N₃ _ (.tail _ (.head _))).1 fun h₅ hs₅ hD₅ => ?_
    have et : its.toList.take (i + 1) = its.toList.take i ++ [v] := by
      have hPv : its[i]? = some v := hPv
      rw [List.take_add_one, Array.getElem?_toList, hPv]; rfl
    refine ⟨its.size + 1 - (i + 1), by omega, h₅, _, i + 1, oC3, _, rfl, hlt, rfl, W.frame _ _ _ hst₃ fun b' hb' o e => hs₅.extBut b' o (fun q => by
      rcases List.mem_cons.mp hb' with e' | hb'
      · exact hJD (e'.symm.trans q)
      · exact hbD ((List.mem_singleton.mp hb').symm.trans q)) e, hoC, F₃.change hs₅ hDL hD₀, fun p hp => ?_⟩
    rcases List.mem_cons.mp hp with rfl | hp
    · have z := N₃ _ (.head _); exact ⟨hs₅.extBut _ _ hCD z.1, z.2⟩
    rcases List.mem_cons.mp hp with rfl | hp
    · exact ⟨hD₅.trans (congrArg some (by rw [et, ← List.append_assoc]; exact lst_snoc _ _)), hDL, hD₀⟩
    · have z := N₃ _ (.tail _ (.tail _ hp)); exact ⟨hs₅.extBut _ _ (hDr p hp) z.1, z.2⟩
  · obtain rfl : i = its.size := Nat.le_antisymm hi (Nat.not_lt.mp hlt)
    refine W.done _ _ _ hst' fun h₂ tk₂ hk₂ => ?_
    have e : its.toList.take its.size = its.toList := by rw [← Array.length_toList]; exact List.take_length
    rw [e] at N' offJ
    exact hR h₂ tk₂ oC' m' hn' (fr_but F' hk₂ (Ne.symm hJL) hJ₀) (news_but N' hk₂ offJ)
def Rest2 (prog : Program) (w : World) (A : Around) (h₀ : Heap) (L : Addr) (m : Str → Option Value) (env : Env) (it1 : PySem.Expr) (x : Str) (scope : Scope) (cl : List (Str × Addr)) (s : Shared) (S : List (Addr × Obj) → Prop) (P : Nat → Value → Prop) (Fin : List Value → List (Addr × Obj) → Prop) (n : Nat) (news : List (Addr × Obj)) : Prop :=
  ∃ (Seg : Nat → List Value → Prop) (B : Nat), S news ∧ n * B ≤ sizeLine ∧
  (∀ i v I oI C oC D ys m₂ h tk (E' : Value → Shared → Prop), i < n → P i v → NsObj oC m₂ → m₂ x = some v → Fr h₀ L h m → News h₀ L h ((I, oI) :: (C, oC) :: (D, LCg.lst ys) :: news) →
      wpAny (model prog w) A (eval it1 (compEnvC scope cl C env)) (fun xv s' => ∃ b its h' tk', xv = .ref b ∧ s' = { s with heap := h', toks := tk' } ∧ Fr h₀ L h' m ∧ News h₀ L h' ((I, oI) :: (C, oC) :: (D, LCg.lst ys) :: news) ∧ h₀.IsList b its ∧ its.size ≤ B ∧ Seg i its.toList) E' { s with heap := h, toks := tk }) ∧
  (∀ segs, All2 Seg (List.range n) segs → Fin segs.flatten news)
theorem block_2 {x y : Str} {px py pe : Pos} {it0 it1 : PySem.Expr} {scope : Scope} {cl : List (Str × Addr)} {pos : Pos} {s₂ : Shared} {I : Addr} {fp : List Addr} {n : Nat} {P : Nat → Value → Prop} {St : Nat → Heap → Prop} {S : List (Addr × Obj) → Prop} {news : List (Addr × Obj)}
    {Fin : List Value → List (Addr × Obj) → Prop} {RR : Value → Addr → Result → Shared → Prop} (hh : A.handled = none)
    (W : Walks prog w A I fp [I] n P St) (hIo : ∀ i h, St i h → ∃ o, h.get? I = some o)
    (hSt : ∀ i h h' o nw, St i h → h.get? I = some o → h'.get? I = some o → (∀ b o, h₀.get? b = some o → h'.get? b = some o) → News h₀ L h' nw → S nw → St i h')
    (hcell : ∀ y ∈ scope.names, y.2 ≠ .cell) (hkind : scope.kind = .function) (hx : scope.names.lookup x = some .local) (hy : scope.names.lookup y = some .local) (hd : (y == ("__debug__" : Str)) = false) (hst : St 0 s₂.heap) (hfp : ∀ b ∈ fp, b < s₂.heap.objs.size)
    (hs : ∀ v C, foldedSetIterable it1 (compEnvC scope cl C env) v = pure v)
    (F : Fr h₀ L s₂.heap m) (N : News h₀ L s₂.heap news) (hIL : L ≠ I) (hI₀ : h₀.get? I = none) (off : ∀ p ∈ news, p.1 ≠ I)
    (R : Rest2 prog w A h₀ L m env it1 x scope cl s₂ S P Fin n news)
    (hRR : ∀ D C h tk m' ys, Fr h₀ L h m → News h₀ L h ((D, LCg.lst ys) :: news) → Off1 D news → h.Ns C m' → h₀.get? C = none → h₀.get? D = none → C ≠ L → D ≠ L → C ≠ D → (∀ p ∈ news, p.1 ≠ C) → Fin ys news → RR (.ref D) C (.ok .next) { s₂ with heap := h, toks := tk }) :
    wpAny (model prog w) A (newList []) (fun acc s₃ => wpAny (model prog w) A (newFunctionEnv scope env.globals cl [] env.qual none .none (some env)) (fun cenv s₄ =>
      codeAny (model prog w) A (.compStart (two x y px py pe it0 it1 scope pos) 0 (.ref I) acc { cenv with scope := relabel scope env }) (RR acc cenv.locals) s₄) E s₃) E s₂ := by
  obtain ⟨Seg, B, hS, hB, turn, fin⟩ := R
  refine wpAny_newObj_type (wpAny_newFunctionEnv hcell (by intro y hy; simp at hy) (fun h₁ hns₁ hsb₁ => ?_) hkind)
  dsimp only at hns₁ hsb₁ ⊢
  generalize hH2 : s₂.heap.push { cls := .type "list", dict := none, data := .seq ([] : List Value).toArray } = H2 at hns₁ hsb₁ ⊢
  have hC : H2.objs.size = s₂.heap.objs.size + 1 := by rw [← hH2, Heap.size_push]
  have hDC : s₂.heap.objs.size ≠ H2.objs.size := by rw [hC]; exact Nat.ne_of_lt (Nat.lt_succ_self _)
  have below : ∀ b, b < s₂.heap.objs.size → b ≠ H2.objs.size ∧ b ≠ s₂.heap.objs.size := fun b hb => ⟨by rw [hC]; exact Nat.ne_of_lt (Nat.lt_succ_of_lt hb), Nat.ne_of_lt hb⟩
  have hDf : s₂.heap.objs.size ∉ fp := fun hm => Nat.lt_irrefl _ (hfp _ hm)
  have hCf : H2.objs.size ∉ fp := fun hm => by have := hfp _ hm; rw [hC] at this; exact Nat.lt_irrefl _ (Nat.lt_of_succ_lt this)
  have hIf : I ∈ fp := W.sub I (List.mem_singleton.mpr rfl)
  have hIlt : I < s₂.heap.objs.size := hfp I hIf
  have old : ∀ b o, s₂.heap.get? b = some o → h₁.get? b = some o := fun b o e => hsb₁.extBut b o (below b (Heap.lt_size e)).1 (Heap.get?_push_of_some _ (hH2 ▸ Heap.get?_push_of_some _ e))
  have hacc : h₁.get? s₂.heap.objs.size = some (LCg.lst []) := hsb₁.extBut _ _ hDC (Heap.get?_push_of_some _ (hH2 ▸ Heap.get?_push_size _ rfl))
  have hst₁ : St 0 h₁ := W.frame _ _ _ hst fun b _ o e => old b o e
  have fresh₀ : ∀ a, s₂.heap.objs.size ≤ a → h₀.get? a = none := fun a ha => fresh_none F ha
  have hD₀ : h₀.get? s₂.heap.objs.size = none := fresh₀ _ (Nat.le_refl _)
  have hC₀ : h₀.get? H2.objs.size = none := fresh₀ _ (by rw [hC]; exact Nat.le_succ _)
  have hLlt : L < s₂.heap.objs.size := F.ns.lt
  have hDL : s₂.heap.objs.size ≠ L := Ne.symm (below L hLlt).2
  have hCL : H2.objs.size ≠ L := Ne.symm (below L hLlt).1
  have hCI : I ≠ H2.objs.size := (below I hIlt).1
  have hDI : I ≠ s₂.heap.objs.size := (below I hIlt).2
  have offb : ∀ p ∈ news, p.1 ≠ H2.objs.size ∧ p.1 ≠ s₂.heap.objs.size := fun p hp => below _ (Heap.lt_size (N p hp).1)
  have offD : Off1 s₂.heap.objs.size news := (Off3.of (I := I) (C := H2.objs.size) (D := s₂.heap.objs.size) fun p hp => ⟨off p hp, (offb p hp).1, (offb p hp).2⟩).one
  obtain ⟨oC, heC, hoC⟩ := ns_obj hns₁
  have loop : ∀ s₃ : Shared, (∃ tk, s₃ = { s₂ with heap := h₁, toks := tk }) →
      codeAny (model prog w) A (.compLoop (two x y px py pe it0 it1 scope pos) 0 (.ref I) (.ref s₂.heap.objs.size) (compEnvC scope cl H2.objs.size env))
        (RR (.ref s₂.heap.objs.size) H2.objs.size) s₃ := by
    rintro s₃ ⟨tk₀, rfl⟩
    refine out_loop
      (fun k s' => ∃ h' tk i segs oC' m', s' = { s₂ with heap := h', toks := tk } ∧ i ≤ n ∧ k = n + 1 - i ∧ (List.flatten segs).length ≤ i * B ∧ St i h' ∧ Fr h₀ L h' m ∧ NsObj oC' m' ∧ News h₀ L h' ((H2.objs.size, oC') :: (s₂.heap.objs.size, LCg.lst (List.flatten segs)) :: news) ∧
        All2 Seg (List.range i) segs) ?_ (n + 1)
      ⟨h₁, _, 0, [], oC, _, rfl, Nat.zero_le _, rfl, Nat.zero_le _, hst₁, F.keeps old, hoC, fun p hp => ?_, .nil⟩ (fun v => hs v _)
    · rintro k s' ⟨h', tk, i, segs, oC', m', rfl, hi, rfl, hyl, hst', F', hn', N', hys⟩
      have offI : ∀ p ∈ (H2.objs.size, oC') :: (s₂.heap.objs.size, LCg.lst (List.flatten segs)) :: news, p.1 ≠ I := fun p hp => by
        rcases List.mem_cons.mp hp with rfl | hp
        · exact Ne.symm hCI
        rcases List.mem_cons.mp hp with rfl | hp
        · exact Ne.symm hDI
        · exact off p hp
      by_cases hlt : i < n
      · refine W.item i _ _ _ hlt hst' fun v h₂ tk₂ hPv hst₂ hk₂ => ?_
        have F₂ := fr_but F' hk₂ hIL hI₀
        have N₂ := news_but N' hk₂ offI
        refine wpAny_assign_Name (wpAny_storeName_local (lookup_relabel_local hx) (hn'.ns (N₂ _ (.head _)).1) (fun h₃ hn₃ hs₃ => ?_) (by simp [compEnvC, relabel, hkind]))
        have hst₃ : St (i + 1) h₃ := W.frame _ _ _ hst₂ fun b hb o e => hs₃.extBut b o (fun q => hCf (by have q' : b = H2.objs.size := q; rw [← q']; exact hb)) e
        obtain ⟨oI, heI⟩ := hIo _ _ hst₃
        obtain ⟨oC3, heC3, hoC3⟩ := ns_obj hn₃
        have F₃ : Fr h₀ L h₃ m := F₂.change hs₃ hCL hC₀
        have N₃ : News h₀ L h₃ ((I, oI) :: (H2.objs.size, oC3) :: (s₂.heap.objs.size, LCg.lst (List.flatten segs)) :: news) := fun p hp => by
          rcases List.mem_cons.mp hp with rfl | hp
          · exact ⟨heI, Ne.symm hIL, hI₀⟩
          rcases List.mem_cons.mp hp with rfl | hp
          · exact ⟨heC3, hCL, hC₀⟩
          rcases List.mem_cons.mp hp with rfl | hp
          · have z := N₂ _ (.tail _ (.head _)); exact ⟨hs₃.extBut _ _ hDC z.1, z.2⟩
          · have z := N₂ _ (.tail _ (.tail _ hp)); exact ⟨hs₃.extBut _ _ (offb p hp).1 z.1, z.2⟩
        refine wpAny_mono (turn i v I oI H2.objs.size oC3 s₂.heap.objs.size _ _ h₃ _ _ hlt hPv hoC3 (by simp) F₃ N₃) (fun xv s₄ h₄ => ?_) fun _ _ e => e
        obtain ⟨b, its, h₄, tk₄, rfl, rfl, F₄, N₄, hb, hBs, hseg⟩ := h₄
        obtain ⟨ob, hob, rb⟩ := id hb
        have hst₄ : St (i + 1) h₄ := hSt _ _ _ _ _ hst₃ heI (N₄ _ (.head _)).1 F₄.keep (fun p hp => N₄ p (.tail _ (.tail _ (.tail _ hp)))) hS
        refine wpAny_pyIter_list ⟨ob, F₄.keep _ _ hob, rb⟩ ?_
        have up : ∀ b' o, h₄.get? b' = some o → (h₄.push { cls := .type "list_iterator", data := .fields #[.ref b, .int 0 0] }).get? b' = some o := fun b' o e => Heap.get?_push_of_some _ e
        have F₅ := F₄.keeps up
        have N₅ := N₄.keeps up
        have hJne : ∀ p ∈ (I, oI) :: (H2.objs.size, oC3) :: (s₂.heap.objs.size, LCg.lst (List.flatten segs)) :: news, p.1 ≠ h₄.objs.size := fun p hp => Nat.ne_of_lt (Heap.lt_size (N₄ p hp).1)
        have hst₅ := W.frame _ _ _ hst₄ fun b' _ o e => up b' o e
        have hJit : (h₄.push { cls := .type "list_iterator", data := .fields #[.ref b, .int 0 0] }).IsListIter h₄.objs.size b 0 := ⟨_, Heap.get?_push_size _ rfl, rfl, rfl⟩
        have seg : ∀ s₆ : Shared, s₆ = { s₂ with heap := h₄.push { cls := .type "list_iterator", data := .fields #[.ref b, .int 0 0] }, toks := tk₄ } →
            codeAny (model prog w) A (.compLoop (two x y px py pe it0 it1 scope pos) 1 (.ref h₄.objs.size) (.ref s₂.heap.objs.size) (compEnvC scope cl H2.objs.size env)) (fun r s₅ => r = .ok .next ∧ ∃ k', k' < n + 1 - i ∧ ∃ h' tk i segs oC' m', s₅ = { s₂ with heap := h', toks := tk } ∧ i ≤ n ∧ k' = n + 1 - i ∧ (List.flatten segs).length ≤ i * B ∧ St i h' ∧ Fr h₀ L h' m ∧ NsObj oC' m' ∧ News h₀ L h' ((H2.objs.size, oC') :: (s₂.heap.objs.size, LCg.lst (List.flatten segs)) :: news) ∧
              All2 Seg (List.range i) segs) s₆ := by
          rintro s₆ rfl
          refine seg_loop (L := L) (m := m) (h₀ := h₀) (C := H2.objs.size) (oC := oC3) (ys := List.flatten segs) (rest := (I, oI) :: news) hh hkind (lookup_relabel_local hy) hd rfl hJit hb (fresh_none F₄ (Nat.le_refl _)) (Nat.ne_of_gt F₄.ns.lt) (Ne.symm (hJne _ (.tail _ (.head _)))) (Ne.symm (hJne _ (.tail _ (.tail _ (.head _))))) (Ne.symm hDC) ?_ ?_ ?_ F₅ hoC3 ?_ ?_ ?_
          · intro p hp
            rcases List.mem_cons.mp hp with rfl | hp
            · exact hJne _ (.head _)
            · exact hJne _ (.tail _ (.tail _ (.tail _ hp)))
          · intro p hp
            rcases List.mem_cons.mp hp with rfl | hp
            · exact hCI
            · exact (offb p hp).1
          · intro p hp
            rcases List.mem_cons.mp hp with rfl | hp
            · exact hDI
            · exact (offb p hp).2
          · intro p hp
            rcases List.mem_cons.mp hp with rfl | hp
            · exact N₅ _ (.tail _ (.head _))
            rcases List.mem_cons.mp hp with rfl | hp
            · exact N₅ _ (.tail _ (.tail _ (.head _)))
            rcases List.mem_cons.mp hp with rfl | hp
            · exact N₅ _ (.head _)
            · exact N₅ _ (.tail _ (.tail _ (.tail _ hp)))
          · have : (i + 1) * B ≤ n * B := Nat.mul_le_mul_right _ hlt
            rw [Nat.succ_mul] at this
            omega
          · intro h₇ tk₇ oC7 m7 hn7 F₇ N₇
            have hst₇ : St (i + 1) h₇ := by
              obtain ⟨oI5, heI5⟩ := hIo _ _ hst₅
              have e5 := (N₅ (I, oI) (.head _)).1
              exact hSt _ _ _ _ _ hst₅ e5 (N₇ (I, oI) (.tail _ (.tail _ (.head _)))).1 F₇.keep (fun p hp => N₇ p (.tail _ (.tail _ (.tail _ hp)))) hS
            refine ⟨rfl, n + 1 - (i + 1), by omega, h₇, tk₇, i + 1, segs ++ [its.toList], oC7, m7, rfl, hlt, rfl, ?_, hst₇, F₇, hn7, fun p hp => ?_, by rw [List.range_succ]; exact hys.snoc hseg⟩
            · rw [List.flatten_append, List.length_append, Nat.succ_mul]
              have : (List.flatten [its.toList]).length = its.size := by simp
              omega
            · have e : List.flatten (segs ++ [its.toList]) = List.flatten segs ++ its.toList := by simp
              rw [e] at hp
              rcases List.mem_cons.mp hp with rfl | hp
              · exact N₇ _ (.head _)
              rcases List.mem_cons.mp hp with rfl | hp
              · exact N₇ _ (.tail _ (.head _))
              · exact N₇ _ (.tail _ (.tail _ (.tail _ hp)))
        have WJ := Walks.list (prog := prog) (w := w) hh h₄.objs.size b (Nat.ne_of_lt (Heap.lt_size (F₄.keep _ _ hob))) its
        exact start2 ⟨⟨.Name y py, it1, [], 0⟩, rfl, rfl⟩ (seg _ rfl) (WJ.self 0 _ _ _ ⟨hJit, ⟨ob, up _ _ (F₄.keep _ _ hob), rb⟩⟩ (seg _ rfl))
      · obtain rfl : i = n := Nat.le_antisymm hi (Nat.not_lt.mp hlt)
        refine W.done _ _ _ hst' fun h₂ tk₂ hk₂ => ?_
        have N₂ := news_but N' hk₂ offI
        exact hRR _ _ h₂ tk₂ _ _ (fr_but F' hk₂ hIL hI₀) (fun p hp => N₂ p (.tail _ hp)) offD (hn'.ns (N₂ _ (.head _)).1) hC₀ hD₀ hCL hDL (Ne.symm hDC) (fun p hp => (offb p hp).1) (fin segs hys)
    · rcases List.mem_cons.mp hp with rfl | hp
      · exact ⟨heC, hCL, hC₀⟩
      rcases List.mem_cons.mp hp with rfl | hp
      · exact ⟨hacc, hDL, hD₀⟩
      · exact ⟨old _ _ (N p hp).1, (N p hp).2⟩
  exact start2 ⟨⟨.Name x px, it0, [], 0⟩, rfl, rfl⟩ (loop _ ⟨_, rfl⟩) (W.self 0 _ _ _ hst₁ (loop _ ⟨_, rfl⟩))
end
theorem part_off_36 : True := by w_top off; trivial
theorem All2.unsnoc {α β : Type} {R : α → β → Prop} {a : α} : ∀ {x : List α} {y : List β}, All2 R (x ++ [a]) y → ∃ zs z, y = zs ++ [z] ∧ All2 R x zs ∧ R a z
  | [], _, .cons h .nil => ⟨[], _, rfl, .nil, h⟩
  | b :: x, _, .cons h t => by
    obtain ⟨zs, z, rfl, h1, h2⟩ := All2.unsnoc (x := x) t
    exact ⟨_ :: zs, z, rfl, .cons h h1, h2⟩
section
open PyProof.Rows.LCg
variable {prog : Program} {w : World} {A : Around} {E : Value → Shared → Prop} {s : Shared} {h₀ : Heap} {L : Addr} {m : Str → Option Value} {env : Env}
theorem Assign_ListComp_C {ct elt iter : PySem.Expr} {x y : Str} {px py : Pos} {scope : Scope} {cl : List (Str × Addr)} {pos spos : Pos} {Q : Flow → Shared → Prop} (_F₀ : Fr h₀ L s.heap m) (hLe : env.locals = L)
    (hsw : swapsWith (.ListComp elt [⟨.Name x px, iter, [ct], 0⟩] scope pos) (some (.Name y py)) spos.line env = pure true)
    (hclos : closureFor scope env = pure cl) (hkind : scope.kind = .function)
    (hnames : ∀ y ∈ scope.names, y.2 = .local → scope.names.lookup y.1 = some .local) (hx : ∀ cl C, (compEnvC scope cl C env).kindOf x = some .cell)
    (hc : ∀ n, cellsFrom n scope.names cl = (x, n) :: cl) (hpc : ∀ h, pushCells h scope.names = h.push { cls := .type "cell", data := .cell none })
    (hy : env.kindOf y = some .local) (hp : (env.scope.kind == .class || (env.scope.kind == .module && env.locals != env.globals)) = false)
    (h : wpAny (model prog w) A (eval iter env) (CSrc prog w A h₀ L m (fun s₂ S P n news => RestC prog w A h₀ L m env ct elt x scope cl s₂ S P (FinA h₀ L m s₂ y Q) n news)) E s)
    (hs : ∀ x, foldedSetIterable iter env x = pure x := by intro _; rfl) :
    wpAny (model prog w) A (exec (.Assign [.Name y py] (.ListComp elt [⟨.Name x px, iter, [ct], 0⟩] scope pos) spos) env) Q E s := by
  refine assign_gen hsw fun pos' => ?_
  exact comp_gen rfl hs hclos hkind hnames h (post_A hLe hy hp) fun s₂ I fp n P St S news RR W hsz hIo hSt hst hfp F N hIL hI₀ off hS k hRR => block_C W hsz hIo hSt hkind hx hst hfp hc hpc F N hIL hI₀ off k fun D C h tk m' ys => hRR D C h tk m' ys news
theorem Assign_ListComp_2 {x y z : Str} {px py pe pz : Pos} {it0 it1 : PySem.Expr} {scope : Scope} {cl : List (Str × Addr)} {pos spos : Pos} {Q : Flow → Shared → Prop} (hh : A.handled = none) (_F₀ : Fr h₀ L s.heap m) (hLe : env.locals = L)
    (hsw : swapsWith (.ListComp (.Name y pe) [⟨.Name x px, it0, [], 0⟩, ⟨.Name y py, it1, [], 0⟩] scope pos) (some (.Name z pz)) spos.line env = pure true)
    (hclos : closureFor scope env = pure cl) (hcell : ∀ y ∈ scope.names, y.2 ≠ .cell) (hkind : scope.kind = .function)
    (hnames : ∀ y ∈ scope.names, y.2 = .local → scope.names.lookup y.1 = some .local) (hx : scope.names.lookup x = some .local) (hy : scope.names.lookup y = some .local) (hd : (y == ("__debug__" : Str)) = false)
    (hs1 : ∀ v C, foldedSetIterable it1 (compEnvC scope cl C env) v = pure v)
    (hz : env.kindOf z = some .local) (hp : (env.scope.kind == .class || (env.scope.kind == .module && env.locals != env.globals)) = false)
    (h : wpAny (model prog w) A (eval it0 env) (CSrc prog w A h₀ L m (fun s₂ S P n news => Rest2 prog w A h₀ L m env it1 x scope cl s₂ S P (FinA h₀ L m s₂ z Q) n news)) E s)
    (hs : ∀ x, foldedSetIterable it0 env x = pure x := by intro _; rfl) :
    wpAny (model prog w) A (exec (.Assign [.Name z pz] (.ListComp (.Name y pe) [⟨.Name x px, it0, [], 0⟩, ⟨.Name y py, it1, [], 0⟩] scope pos) spos) env) Q E s := by
  refine assign_gen hsw fun pos' => ?_
  exact comp_gen rfl hs hclos hkind hnames h (post_A hLe hz hp) fun s₂ I fp n P St S news RR W hsz hIo hSt hst hfp F N hIL hI₀ off hS k hRR => block_2 hh W hIo hSt hcell hkind hx hy hd hst hfp hs1 F N hIL hI₀ off k fun D C h tk m' ys => hRR D C h tk m' ys news
/-- the cell comprehension over a list of known items -/
theorem RestC.of {ct elt : PySem.Expr} {x : Str} {scope : Scope} {cl : List (Str × Addr)} {S : List (Addr × Obj) → Prop} {P : Nat → Value → Prop} {Fin : List Value → List (Addr × Obj) → Prop} {news : List (Addr × Obj)} {n : Nat} {α : Type}
    (as : List α) (Src G : α → Value → Prop) (f : α → Bool) (hn : n = as.length) (hS : S news) (hsrc : ∀ i v, P i v → ∃ a, as[i]? = some a ∧ Src a v)
    (turn : ∀ a v I oI C oC G' oG D ys h tk (E' : Value → Shared → Prop), a ∈ as → Src a v → oG.data = .cell (some v) → Fr h₀ L h m → News h₀ L h ((I, oI) :: (C, oC) :: (G', oG) :: (D, LCg.lst ys) :: news) →
      wpAny (model prog w) A (isTrue ct (compEnvC scope ((x, G') :: cl) C env) (eval ct (compEnvC scope ((x, G') :: cl) C env))) (TstP (f a) (fun s' => wpAny (model prog w) A (eval elt (compEnvC scope ((x, G') :: cl) C env)) (EltP h₀ L m s ((I, oI) :: (C, oC) :: (G', oG) :: (D, LCg.lst ys) :: news) (G a)) E' s') (EltP h₀ L m s ((I, oI) :: (C, oC) :: (G', oG) :: (D, LCg.lst ys) :: news) (fun _ => True) Value.none)) E' { s with heap := h, toks := tk })
    (fin : ∀ ys, All2 G (as.filter f) ys → Fin ys news) : RestC prog w A h₀ L m env ct elt x scope cl s S P Fin n news := by
  subst hn
  refine ⟨fun i => (as[i]?.map f).getD false, fun i v => ∃ a, as[i]? = some a ∧ G a v, hS, fun i v I oI C oC G' oG D ys h tk E' hi hP hg F N => ?_, fun ys hys => fin ys ?_⟩
  · obtain ⟨a, ha, hv⟩ := hsrc i v hP
    have e : (as[i]?.map f).getD false = f a := by rw [ha]; rfl
    simp only [e]
    refine wpAny_mono (turn a v I oI C oC G' oG D ys h tk E' (List.mem_of_getElem? ha) hv hg F N) (fun ok s' hq => ?_) fun _ _ e => e
    obtain ⟨hok, hq⟩ := hq
    refine ⟨hok, ?_⟩
    cases ok with
    | true =>
      rw [if_pos rfl] at hq ⊢
      exact wpAny_mono hq (fun y s'' ⟨hy, r⟩ => ⟨⟨a, ha, hy⟩, r⟩) fun _ _ e => e
    | false => exact hq
  · have key : ∀ k ≤ as.length, ∀ ys, All2 (fun i v => ∃ a, as[i]? = some a ∧ G a v) ((List.range k).filter fun i => (as[i]?.map f).getD false) ys → All2 G ((as.take k).filter f) ys := by
      intro k
      induction k with
      | zero => intro _ ys h; simp only [List.range_zero, List.filter_nil] at h; cases h; simp; exact .nil
      | succ k ih =>
        intro hk ys h
        have ha : as[k]? = some as[k] := List.getElem?_eq_getElem hk
        rw [List.range_succ, List.filter_append] at h
        rw [List.take_add_one, ha, List.filter_append]
        have e : (as[k]?.map f).getD false = f as[k] := by rw [ha]; rfl
        cases hf : f as[k] with
        | false =>
          have e1 : List.filter (fun i => (as[i]?.map f).getD false) [k] = [] := by
            rw [List.filter_cons]; show (if (Option.map f as[k]?).getD false = true then _ else _) = _; rw [e, hf]; rfl
          rw [e1, List.append_nil] at h
          have e2 : List.filter f (some as[k]).toList = [] := by simp [List.filter_cons, hf]
          rw [e2, List.append_nil]
          exact ih (by omega) ys h
        | true =>
          have e1 : List.filter (fun i => (as[i]?.map f).getD false) [k] = [k] := by
            rw [List.filter_cons]; show (if (Option.map f as[k]?).getD false = true then _ else _) = _; rw [e, hf]; rfl
          rw [e1] at h
          have e2 : List.filter f (some as[k]).toList = [as[k]] := by simp [List.filter_cons, hf]
          rw [e2]
          obtain ⟨zs, z, rfl, h1, h2⟩ := All2.unsnoc h
          obtain ⟨a, ha', hg⟩ := h2
          rw [ha] at ha'
          obtain rfl := Option.some.inj ha'
          exact (ih (by omega) zs h1).snoc hg
    have := key as.length (Nat.le_refl _) ys hys
    rwa [List.take_length] at this
end
theorem part_off_37 : True := by w_top off; trivial
theorem strs_upto {vs : Array Value} {ss : List Str} (h : StrsAre vs.toList ss) (i : Nat) : StrsAre (slicePick vs none (some (i : Int)) none).toList (ss.take i) := by
  rw [slicePick_upto']; exact h.take' _
theorem ok_sizes {ns : List Str} (h : Ok ns) : (ns.map (·.length)).sum + ns.length * (Str.ofString "/").length ≤ 16777216 ∧ (Txt.join (Str.ofString "/") ns).length ≤ 2000000 := by
  have h2 := StrLaws.sumLen_le (B := 2) ns fun a ha => (h.len a ha).1
  have h1 := h.1
  have e : (Str.ofString "/").length = 1 := by decide +kernel
  have h4 : (ns.map (·.length)).sum + ns.length * (Str.ofString "/").length ≤ 2000000 := by rw [e]; omega
  refine ⟨by omega, ?_⟩
  have := StrLaws.join_length_le (Str.ofString "/") ns
  rw [← StrLaws.glued_eq_join] at this
  exact Nat.le_trans this h4
theorem IntsAre.app {xs ys : List Value} {as bs : List Int} (h : IntsAre xs as) (k : IntsAre ys bs) : IntsAre (xs ++ ys) (as ++ bs) := by
  induction h with
  | nil => exact k
  | cons i t _ ih => exact .cons i t ih
theorem All2.intsFlat {α : Type} {g : α → List Int} {as : List α} {segs : List (List Value)} (h : All2 (fun a vs => IntsAre vs (g a)) as segs) : IntsAre segs.flatten (as.flatMap g) := by
  induction h with
  | nil => exact .nil
  | cons k _ ih => rw [List.flatten_cons, List.flatMap_cons]; exact IntsAre.app k ih
theorem TstP.of {b : Bool} {K J : Shared → Prop} {s' : Shared} (y : b = true → K s') (n : b = false → J s') : TstP b K J b s' := by
  cases b with
  | true => exact .yes rfl (y rfl)
  | false => exact .no rfl (n rfl)
theorem All2.at {R : Nat → Value → Prop} {n : Nat} {ys : List Value} (h : All2 R (List.range n) ys) : ys.length = n ∧ (∀ (i : Nat) (v : Value), ys[i]? = some v → (List.range n)[i]? = some i ∧ R i v) ∧ ∀ i, i < n → ∃ v, ys[i]? = some v ∧ R i v := by
  have hl := h.length
  rw [List.length_range] at hl
  have get : ∀ i, i < n → (List.range n)[i]? = some i := fun i hi => by rw [List.getElem?_eq_getElem (by rw [List.length_range]; exact hi), List.getElem_range]
  refine ⟨hl, fun i v hv => ?_, fun i hi => h.get i i (get i hi)⟩
  obtain ⟨hi, rfl⟩ := List.getElem?_eq_some_iff.mp hv
  have hi' : i < n := by rw [← hl]; exact hi
  obtain ⟨b, hb, hr⟩ := h.get i i (get i hi')
  rw [hv] at hb
  obtain rfl := Option.some.inj hb
  exact ⟨get i hi', hr⟩
theorem item_led {prog : Program} {w : World} {A : Around} {E : Value → Shared → Prop} {s : Shared} {value slice : PySem.Expr} {p : Addr} {k : Int} {u : Tok} {ys : List Value} {v : Value} {Q : Value → Shared → Prop}
    (hl : s.heap.get? p = some (LCg.lst ys)) (h0 : 0 ≤ k) (hhi : k < 2 ^ 63) (hx : ys[k.toNat]? = some v) (h : Q v s)
    (he : subscripted slice false (.ref p) (.int k u) = operate [.ref p, .int k u] (getItem (.ref p) (.int k u)) := by with_unfolding_all rfl) :
    wpAny (model prog w) A (subscriptTail value slice (.ref p) (.int k u)) Q E s := by
  have hL : s.heap.IsList p ys.toArray := ⟨_, hl, rfl, _, rfl⟩
  exact tail_any hL.typeIs slot_list_getitem.lookup (wpAny_getItem_list hL h0 hhi (by simpa using hx) h) he
theorem eq_nil {prog : Program} {w : World} {A : Around} {E : Value → Shared → Prop} {s : Shared} {a b : Addr} {α : Type} {R : α → Value → Prop} {as : List α} {ys : List Value} {Q : Value → Shared → Prop} (ha : s.heap.IsList a ys.toArray) (hb : s.heap.IsList b #[]) (hy : All2 R as ys) (hu : A.units + 64 < cLine)
    (h : Q (.bool as.isEmpty) s) : wpAny (model prog w) A (compareOp .Eq (.ref a) (.ref b)) Q E s := by
  have hu' : A.units < cLine := Nat.lt_of_le_of_lt (Nat.le_add_right _ _) hu
  cases hy with
  | nil => exact SeqAt.eq_listAt (e := fun _ => true) ha hb rfl hu' (fun j h1 _ => absurd h1 (Nat.not_lt_zero _)) h
  | cons _ _ => exact SeqAt.eq_list_lengthsAt ha hb (by simp) hu' h
/-- what _law_due reckons of the rows 0 .. i -/
def dueR (f : List Str → RowD) (ns : List Str) (i : Nat) : RowD :=
  ⟨(f []).ag.filter fun y => ((List.range (i + 1)).filter fun j => !((f (ns.take j)).ag.any (· == y))).isEmpty, (List.range (i + 1)).flatMap fun j => (f (ns.take j)).ru,
    ((List.range (i + 1)).filterMap fun j => (f (ns.take j)).dl).getLast?, ((List.range (i + 1)).filterMap fun j => (f (ns.take j)).rt).getLast?⟩
theorem any_eq {l : List Str} {y : Str} : (l.any (· == y)) = decide (y ∈ l) := by
  induction l with
  | nil => rfl
  | cons a l ih =>
    rw [List.any_cons, ih]
    by_cases h : a = y
    · simp [h]
    · have h' : ¬ y = a := fun e => h e.symm
      simp [h, h']
theorem last_opt {l : List Int} {o : Option Int} : (l ++ o.toList).getLast? = orO o l.getLast? := by
  cases o with
  | none => simp [orO]
  | some i => simp [orO]
theorem fm_one {α : Type} {g : α → Option Int} {a : α} : List.filterMap g [a] = (g a).toList := by
  cases h : g a <;> simp [h]
theorem ol_last (o : Option Int) : o.toList.getLast? = o := by cases o <;> rfl
theorem app_empty {α : Type} (a b : List α) : (a ++ b).isEmpty = (a.isEmpty && b.isEmpty) := by cases a <;> simp
theorem dueR_down (f : List Str → RowD) (ns : List Str) : ∀ i, i ≤ ns.length → dueR f ns i = downR f (ns.take i)
  | 0, _ => by
    rw [downR_zero]
    unfold dueR
    have e : (f []).ag.filter (fun y => ((List.range (0 + 1)).filter fun j => !((f (ns.take j)).ag.any (· == y))).isEmpty) = (f []).ag := by
      refine List.filter_eq_self.mpr fun y hy => ?_
      have : ((f (ns.take 0)).ag.any (· == y)) = true := by rw [List.take_zero, any_eq]; exact decide_eq_true hy
      show (List.filter _ [0]).isEmpty = true
      rw [List.filter_cons, this]; rfl
    rw [e]
    show RowD.mk _ (List.flatMap _ [0]) (List.filterMap _ [0]).getLast? (List.filterMap _ [0]).getLast? = _
    rw [fm_one, fm_one, ol_last, ol_last]
    simp only [List.flatMap_cons, List.flatMap_nil, List.append_nil, List.take_zero]
  | i + 1, hi => by
    rw [downR_succ f (by omega), ← dueR_down f ns i (by omega)]
    unfold dueR mergeR
    rw [List.range_succ (n := i + 1)]
    simp only [RowD.mk.injEq]
    refine ⟨?_, ?_, ?_, ?_⟩
    · rw [List.filter_filter]
      refine List.filter_congr fun y _ => ?_
      rw [List.filter_append, app_empty, Bool.and_comm]
      congr 1
      rw [List.filter_cons, any_eq]
      by_cases h : y ∈ (f (ns.take (i + 1))).ag <;> simp [h]
    · rw [List.flatMap_append]; simp
    · rw [List.filterMap_append, fm_one, last_opt]
    · rw [List.filterMap_append, fm_one, last_opt]
theorem All2.optInts {g : Nat → Option Int} : ∀ {as : List Nat} {ys : List Value}, All2 (fun j v => ∃ i t, g j = some i ∧ v = .int i t) (as.filter fun j => (g j).isSome) ys → IntsAre ys (as.filterMap g)
  | [], _, h => by cases h; exact .nil
  | a :: as, ys, h => by
    cases hg : g a with
    | none =>
      rw [List.filter_cons, hg] at h
      rw [List.filterMap_cons, hg]
      exact All2.optInts h
    | some i =>
      rw [List.filter_cons, hg] at h
      rw [List.filterMap_cons, hg]
      have h : All2 _ (a :: as.filter fun j => (g j).isSome) ys := h
      cases h with
      | cons k r =>
        obtain ⟨i', t, e, rfl⟩ := k
        rw [hg] at e
        obtain rfl := Option.some.inj e
        exact .cons _ _ (All2.optInts r)
theorem lastInts : ∀ {ys : List Value} {is : List Int}, IntsAre ys is → ∀ (v₀ : Value) (o₀ : Option Int), OptIs v₀ o₀ → ∃ v, (v₀ :: ys).getLast? = some v ∧ OptIs v (orO is.getLast? o₀)
  | _, _, .nil, v₀, o₀, h => ⟨v₀, rfl, h⟩
  | _, _, .cons i t r, v₀, o₀, h => by
    obtain ⟨v, h1, h2⟩ := lastInts r (.int i t) (some i) ⟨t, rfl⟩
    refine ⟨v, by rw [List.getLast?_cons_cons]; exact h1, ?_⟩
    rw [List.getLast?_cons]
    rename_i is
    have e : orO (some (is.getLast?.getD i)) o₀ = orO is.getLast? (some i) := by cases is.getLast? <;> rfl
    rw [e]; exact h2
theorem opts_last {g : Nat → Option Int} {as : List Nat} {ys : List Value} (h : All2 (fun j v => ∃ i t, g j = some i ∧ v = .int i t) (as.filter fun j => (g j).isSome) ys) : ∃ v, (Value.none :: ys).getLast? = some v ∧ OptIs v (as.filterMap g).getLast? := by
  obtain ⟨v, h1, h2⟩ := lastInts h.optInts .none none rfl
  refine ⟨v, h1, ?_⟩
  have e : orO (List.filterMap g as).getLast? none = (List.filterMap g as).getLast? := by cases (List.filterMap g as).getLast? <;> rfl
  rw [e] at h2; exact h2
theorem item_last {prog : Program} {w : World} {A : Around} {E : Value → Shared → Prop} {s : Shared} {value slice : PySem.Expr} {p : Addr} {u : Tok} {vs : Array Value} {v : Value} {Q : Value → Shared → Prop}
    (hl : s.heap.IsList p vs) (hv : vs.toList.getLast? = some v) (h : Q v s)
    (he : subscripted slice false (.ref p) (.int (-1) u) = operate [.ref p, .int (-1) u] (getItem (.ref p) (.int (-1) u)) := by with_unfolding_all rfl) :
    wpAny (model prog w) A (subscriptTail value slice (.ref p) (.int (-1) u)) Q E s := by
  rw [List.getLast?_eq_getElem?, Array.length_toList, Array.getElem?_toList] at hv
  have hsz : vs.size - 1 < vs.size := (Array.getElem?_eq_some_iff.mp hv).1
  have e1 : (-1 + (vs.size : Int)).toNat = vs.size - 1 := by omega
  exact tail_any hl.typeIs slot_list_getitem.lookup (wpAny_getItem_list_neg hl (by decide) (by omega) (by decide) (by rw [e1]; exact hv) h) he
theorem isnot_opt {M : Model} {A : Around} {E : Value → Shared → Prop} {s : Shared} {Q : Value → Shared → Prop} {v : Value} {o : Option Int} (hv : OptIs v o) (h : Q (.bool o.isSome) s) : wpAny M A (compareOp .IsNot v .none) Q E s := by
  cases o with
  | none => obtain rfl : v = .none := hv; exact isnot_none_none h
  | some i => obtain ⟨t, rfl⟩ := hv; exact isnot_int_none h
section
open PyProof.Rows.LCg
variable {prog : Program} {w : World} {A : Around} {h₀ : Heap} {L : Addr} {m : Str → Option Value}
theorem range_walksB {I : Addr} (hh : A.handled = none) (a : Int) (n : Nat) : Walks prog w A I [I] [I] n (fun i v => i < n ∧ ∃ t, v = .int (a + (i : Int)) t) (fun i h => IsRangeIter h I (a + (i : Nat) * 1) ((n : Int) - (i : Nat)) 1) :=
  let W : Walks prog w A I [I] [I] n (fun i v => i < n ∧ ∃ t, v = .int (a + i * 1) t) (fun i h => IsRangeIter h I (a + (i : Nat) * 1) ((n : Int) - (i : Nat)) 1) := (Walks.range hh I a 1 n).bound
  { sub := W.sub, frame := W.frame, done := W.done, self := W.self,
    item := fun i s Q E hi st hQ => W.item i s Q E hi st fun v h' tk hP => hQ v h' tk (by obtain ⟨h, t, rfl⟩ := hP; exact ⟨h, t, by rw [Int.mul_one]⟩) }
theorem CSrc.rngB {K : Shared → (List (Addr × Obj) → Prop) → (Nat → Value → Prop) → Nat → List (Addr × Obj) → Prop} {s₁ : Shared} {r : Addr} {a b : Int} {t u v : Tok} {n : Nat} {news : List (Addr × Obj)} (hh : A.handled = none) (F : Fr h₀ L s₁.heap m) (N : News h₀ L s₁.heap news) (hr : IsRange s₁.heap r a b 1 t u v) (hsm : Builtin.Range.small a b 1 = true) (hn : Builtin.Range.rangeSize a b 1 = ((n : Nat) : Int)) (hsz : n ≤ sizeLine)
    (k : ∀ h, K { s₁ with heap := h } (fun _ => True) (fun i v => i < n ∧ ∃ t, v = .int (a + (i : Int)) t) n news) : CSrc prog w A h₀ L m K (.ref r) s₁ := by
  refine ⟨_, _, n, _, _, fun _ => True, news, F, N, fun Q E q => wpAny_pyIter_range hr hsm q, range_walksB hh a n, hsz, fun i h st => ⟨_, st⟩, range_st, ?_, fun b hb => ?_, trivial, fun s₂ ⟨h, e⟩ => e ▸ k h⟩
  · show IsRangeIter _ _ _ _ _; rw [hn]; simpa using Heap.get?_push_size _ rfl
  · rw [List.mem_singleton.mp hb]; exact Nat.le_refl _
end
theorem part_off_38 : True := by w_top off; trivial
section
local macro_rules | `(tactic| walk_at "call ref") => `(tactic| (k_here; (with_reducible show wpAny _ _ (call (Value.ref 204) _) _ _ _); refine stop ?_))
local macro_rules | `(tactic| walk_at "eval ListComp") => `(tactic| walk_at "m_st")
local macro_rules | `(tactic| walk_at "eval ListComp") => `(tactic| walk_at "m_st")
local macro_rules | `(tactic| walk_at "binaryOp Add ref ref") => `(tactic| walk_at "m_st")
local macro_rules | `(tactic| walk_at "subscriptTail Name UnaryOp ref int") => `(tactic| walk_at "m_st")
local macro_rules | `(tactic| walk_at "compareOp") => `(tactic| (k_here; (with_reducible show wpAny _ _ (compareOp CmpOp.IsNot _ Value.none) _ _ _); refine stop ?_))
local macro_rules | `(tactic| walk_at "compareOp NotIn str ref") => `(tactic| walk_at "m_st")
local macro_rules | `(tactic| walk_at "compareOp Eq ref ref") => `(tactic| walk_at "m_st")
local macro_rules | `(tactic| walk_at "subscriptTail Subscript Constant ref int") => `(tactic| walk_at "m_st")
local macro_rules | `(tactic| walk_at "subscriptTail Name BinOp ref str") => `(tactic| walk_at "m_st")
def RowO (w : World) (s : Shared) (tl : List (Addr × Obj)) (r : RowD) : Value → Heap → Prop := fun v h' => ∃ x own, v = .ref x ∧ Fresh s.heap h' own ∧ RowBy w.params (own ++ tl) x r
def RowAt (w : World) (tl : List (Addr × Obj)) (f : List Str → RowD) (ns : List Str) : Nat → Value → Prop := fun j v => j ≤ ns.length ∧ ∃ a, v = .ref a ∧ RowBy w.params tl a (f (ns.take j))
theorem c_due {prog : Program} {w : World} {mean mg mb} {A : Around} {s : Shared} {d : Addr} {tl : List (Addr × Obj)} {tbl : List (Str × RowD)} {ns : List Str} {t : Tok} {f : List Str → RowD}
    (TT : TabBy prog w RowBy tl d tbl) (hs : Sup s.heap tl) (hok : Ok ns) (ht : ∀ j ≤ ns.length, (plc (ns.take j), f (ns.take j)) ∈ tbl) (hz : ∀ p ∈ tbl, p.2.ag.length ≤ 100 ∧ p.2.ru.length ≤ 100) (c : Cx w mean mg mb s.heap) (hA : Rm A (6+1)) :
    codeAny (model prog w) A (.call (.ref 237) ⟨[.ref d, .str (plc ns) t], []⟩) (Ret s (RowO w s tl (downR f ns))) s := by
  have hl := plc_len hok
  have hdue : downR f ns = dueR f ns ns.length := by rw [dueR_down f ns _ (Nat.le_refl _), List.take_length]
  refine' enter_cells (binds := [(Str.ofString "table", .ref d), (Str.ofString "place", .str (plc ns) t)]) ?cc ?hA ?ho ?hcd ?hb ?hkind ?hnd ?_ ?c2 ?c3 ?c4
  walk_at "m_enter2"
  case hkind => kernel_rfl
  case hb => exact BindsTo.of_eq rfl
  case hnd => decide +kernel
  intro L h₁ tk cells dp fr gd un F N Y X T R
  obtain ⟨o1, o2, o3, rfl, d1, d2, d3⟩ := CellsAre.three (n₁ := Str.ofString "rows") (n₂ := Str.ofString "names") (n₃ := Str.ofString "table") (c₁ := L + 1 + 1 + 1) (c₂ := L + 1 + 1) (c₃ := L + 1) Y
  clear Y
  (try dsimp only); (try k_fold)
  iterate 12 (walk_at "m_step")
  (with_reducible rename Fr _ _ _ _ => F0)
  (with_reducible rename News _ _ _ _ => N0)
  refine unstop (use_ret F0 N0 (c_names hl (Cx.fr X T F0) (Rm.le R (by decide))) fun v h1 tk1 F1 N1 kp1 hv => ?_)
  obtain ⟨pn, vs, nn, rfl, hn1, hn2, hvs⟩ := hv
  rw [names_plc hok] at hvs
  replace N1 := nadd F0 N1 hn1 hn2
  have hl4 := hok.1
  have hvl := hvs.length
  clear F0 N0 kp1 hn1 hn2
  iterate 6 (walk_at "m_step")
  refine unstop (ListComp_S (by k_asm) (by with_unfolding_all rfl) (by decide) (by rfl) (by decide) (by rfl) ?_)
  iterate 17 (walk_at "m_step")
  refine CSrc.rngB (n := ns.length + 1) rfl (by k_asm) (by k_asm) (by assumption) ?sm ?rs ?sz ?_
  case sz => rw [sizeLine_eq]; omega
  case rs =>
    unfold Builtin.Range.rangeSize
    rw [if_pos (by decide), if_pos (by omega), Int.ediv_one]
    push_cast; omega
  case sm => exact small_one (by decide) (by decide) (by omega) (by omega)
  intro g1
  (with_reducible rename StrsAre _ ns => hvs)
  refine turns (List.range (ns.length + 1)) (fun i v => ∃ t, v = .int (i : Nat) t) (fun i v => ∃ a, v = .ref a ∧ RowBy w.params tl a (f (ns.take i))) (by rw [List.length_range]) trivial
    (fun i v hv => ?src) (fun i v I oI C oC D ys m₂ h tk E' hmem hv hC hx F N off => ?turn) fun ysr hysr => ?fin
  case src =>
    obtain ⟨hi, t, rfl⟩ := hv
    exact ⟨i, by rw [List.getElem?_eq_getElem (by rw [List.length_range]; exact hi), List.getElem_range], t, by rw [Int.zero_add]⟩
  case turn =>
    obtain ⟨ti, rfl⟩ := hv
    have hi := List.mem_range.mp hmem
    clear hmem
    simp only [List.cons_append, List.nil_append] at N
    have hsl := strs_upto hvs i
    have hj1 := (ok_sizes (hok.take i)).1
    have hj2 := (ok_sizes (hok.take i)).2
    iterate 27 (walk_at "m_step")
    refine unstop (tab_item TT (Sup.base (by k_asm) hs) (ht i (by omega)) fun a ha => ?_)
    (with_reducible rename Fr _ _ _ _ => F1)
    (with_reducible rename News _ _ _ _ => N1)
    exact ⟨⟨a, rfl, ha⟩, _, _, rfl, F1, fun p hp => N1 p (.tail _ hp)⟩
  case fin =>
    unfold LCg.FinE
    intro Dr hr tkr F N offr
    (try simp only [List.cons_append, List.nil_append] at N)
    iterate 4 (walk_at "m_step")
    refine Assign_ListComp_C (by k_asm) (by rfl) (by with_unfolding_all rfl) (by with_unfolding_all rfl) (by rfl) (by decide) (fun _ _ => by rfl) (fun _ => by rfl) (fun _ => by rfl) (by rfl) (by rfl) ?_
    iterate 4 (walk_at "m_step")
    obtain ⟨hyl, hyg, hyi⟩ := All2.at hysr
    obtain ⟨v0, hv0, a0, rfl, hra0⟩ := hyi 0 (Nat.succ_pos _)
    have hr0 := hra0 _ hs
    rw [List.take_zero] at hr0
    obtain ⟨_, _, dv0, rv0, n0, g1, ag0, ru0, rfl, rfl, ⟨avs0, k0, g2, hst0⟩, ⟨rvs0, k1, g3, hin0⟩, hd0, ht0⟩ := hr0
    refine item_led (News.get (by k_asm) (by k_mem)) (by decide) (by decide) hv0 ?_
    iterate 1 (walk_at "m_step")
    refine item_base (by k_asm) g1 (by decide) (by decide) rfl ?_
    (with_reducible rename Fr _ _ _ _ => F2)
    (with_reducible rename News _ _ _ _ => N2)
    have hz0 := (hz _ (ht 0 (Nat.zero_le _))).1
    simp only [List.take_zero] at hz0
    refine CSrc.lst rfl F2 N2 (Or.inl ⟨_, g2, rfl, _, rfl⟩) (by rw [← Array.length_toList, hst0.length, sizeLine_eq]; omega) ?_
    intro gq
    refine RestC.of (f []).ag (fun y v => ∃ t, v = .str y t) (fun y v => ∃ t, v = .str y t) (fun y => ((List.range (ns.length + 1)).filter fun j => !((f (ns.take j)).ag.any (· == y))).isEmpty) (by rw [← Array.length_toList, hst0.length]) (Or.inl ⟨_, g2, rfl, _, rfl⟩)
      (fun i v hv => ?src2) (fun y v I oI C oC G' oG D ys h tk E' hmem hv hg F N => ?turn2) fun ysa hysa => ?fin2
    case src2 =>
      obtain ⟨y, t, rfl, hy⟩ := hst0.item i v (by simpa using hv)
      exact ⟨y, hy, t, rfl⟩
    case turn2 =>
      obtain ⟨ty, rfl⟩ := hv
      simp only [List.cons_append, List.nil_append] at N
      iterate 3 (walk_at "m_step")
      refine unstop (ListComp_ST (by k_asm) (by with_unfolding_all rfl) (by decide) (by rfl) (by decide) (by rfl) ?_)
      walk1
      refine CSrc.lst rfl (by k_asm) (by k_asm) (Or.inr ⟨_, by k_mem, rfl, _, rfl⟩) (by rw [List.size_toArray, hyl, sizeLine_eq]; omega) ?_
      intro gi
      refine turnsT (List.range (ns.length + 1)) (RowAt w tl f ns) (fun _ _ => True) (fun j => !((f (ns.take j)).ag.any (· == y))) (by rw [List.size_toArray, hyl, List.length_range]) (Or.inr ⟨_, by k_mem, rfl, _, rfl⟩)
        (fun i v hv => ?src3) (fun j v I2 oI2 C2 oC2 D2 ys2 m₂ h2 tk2 E2 hmem2 hv2 hC2 hx2 F3 N3 off3 => ?turn3) fun ysb hysb => ?fin3
      case src3 =>
        obtain ⟨h1, h2⟩ := hyg i v (by simpa using hv)
        refine ⟨i, h1, ?_, h2⟩
        have := (List.getElem?_eq_some_iff.mp h1).1
        rw [List.length_range] at this
        omega
      case turn3 =>
        obtain ⟨hj, aj, rfl, hraj⟩ := hv2
        obtain ⟨_, _, dv1, rv1, n1, e1, ag1, ru1, rfl, rfl, ⟨avs1, k2, e2, hst1⟩, ⟨rvs1, k3, e3, hin1⟩, hd1, ht1⟩ := hraj _ hs
        iterate 7 (walk_at "m_step")
        refine unstop (notin_list_strs (vs := avs1.toList) (by simpa using lstBase (by k_asm) e2) hst1 ?_)
        iterate 1 (walk_at "m_step")
        refine TstP.of (fun _ => ?_) (fun _ => ⟨trivial, _, _, rfl, by k_asm, by k_asm⟩)
        walk1
        exact ⟨trivial, _, _, rfl, by k_asm, by k_asm⟩
      case fin3 =>
        unfold LCg.FinE
        intro D3 h3 tk3 F3 N3 off3
        iterate 4 (walk_at "m_step")
        refine unstop (eq_nil (as := (List.range (ns.length + 1)).filter _) (by exact News.isList (by k_asm) (by k_mem)) (by exact News.isList (by k_asm) (by k_mem)) hysb (Rm.cl (by assumption)) ?_)
        iterate 1 (walk_at "m_step")
        (with_reducible rename News _ _ _ _ => N4)
        replace N4 := ntl (ntl N4)
        refine TstP.of (fun _ => ?_) (fun _ => ⟨trivial, _, _, rfl, by k_asm, N4⟩)
        walk1
        exact ⟨⟨ty, rfl⟩, _, _, rfl, by k_asm, N4⟩
    case fin2 =>
      replace hysa := hysa.strs
      unfold LCg.FinA
      intro Da ha tka F N offa
      (try simp only [List.cons_append, List.nil_append] at N)
      clear F2 N2
      iterate 3 (walk_at "m_step")
      refine Assign_ListComp_2 rfl (by k_asm) (by rfl) (by with_unfolding_all rfl) (by with_unfolding_all rfl) (by decide) (by rfl) (by decide) (by rfl) (by rfl) (by decide) (fun _ _ => by rfl) (by rfl) (by rfl) ?_
      iterate 1 (walk_at "m_step")
      (with_reducible rename Fr _ _ _ _ => F2)
      (with_reducible rename News _ _ _ _ => N2)
      refine CSrc.lst rfl F2 N2 (Or.inr ⟨_, by k_mem, rfl, _, rfl⟩) (by rw [List.size_toArray, hyl, sizeLine_eq]; omega) ?_
      intro gr
      refine ⟨fun j vs => IntsAre vs (f (ns.take j)).ru, 100, Or.inr ⟨_, by k_mem, rfl, _, rfl⟩, by rw [List.size_toArray, hyl, sizeLine_eq]; omega, fun j v I oI C oC D ys m₂ h tk E' hlt hv hC hx F N => ?turn4, fun segs hsegs => ?fin4⟩
      case turn4 =>
        obtain ⟨h1, aj, rfl, hraj⟩ := hyg j v (by simpa using hv)
        have hj := (List.getElem?_eq_some_iff.mp h1).1
        rw [List.length_range] at hj
        have hz1 := (hz _ (ht j (by omega))).2
        obtain ⟨_, _, dv1, rv1, n1, e1, ag1, ru1, rfl, rfl, ⟨avs1, k2, e2, hst1⟩, ⟨rvs1, k3, e3, hin1⟩, hd1, ht1⟩ := hraj _ hs
        iterate 4 (walk_at "m_step")
        exact ⟨ru1, rvs1, _, _, rfl, rfl, by k_asm, by k_asm, ⟨_, e3, rfl, _, rfl⟩, by rw [← Array.length_toList, hin1.length]; exact hz1, hin1⟩
      case fin4 =>
        have hru := hsegs.intsFlat
        rw [List.size_toArray, hyl] at hru
        generalize segs.flatten = ysu at hru ⊢
        clear hsegs
        unfold LCg.FinA
        intro Du hu tku F N offu
        clear F2 N2
        iterate 9 (walk_at "m_step")
        refine unstop (ListComp_ST (by k_asm) (by with_unfolding_all rfl) (by decide) (by rfl) (by decide) (by rfl) ?_)
        walk1
        refine CSrc.lst rfl (by k_asm) (by k_asm) (Or.inr ⟨_, by k_mem, rfl, _, rfl⟩) (by rw [List.size_toArray, hyl, sizeLine_eq]; omega) ?_
        intro gd5
        refine turnsT (List.range (ns.length + 1)) (RowAt w tl f ns) (fun j v => ∃ i t, (f (ns.take j)).dl = some i ∧ v = .int i t) (fun j => (f (ns.take j)).dl.isSome) (by rw [List.size_toArray, hyl, List.length_range]) (Or.inr ⟨_, by k_mem, rfl, _, rfl⟩)
          (fun i v hv => ?src5) (fun j v I2 oI2 C2 oC2 D2 ys2 m₂ h2 tk2 E2 hmem2 hv2 hC2 hx2 F3 N3 off3 => ?turn5) fun ysd hysd => ?fin5
        case src5 =>
          obtain ⟨h1, h2⟩ := hyg i v (by simpa using hv)
          refine ⟨i, h1, ?_, h2⟩
          have := (List.getElem?_eq_some_iff.mp h1).1
          rw [List.length_range] at this
          omega
        case turn5 =>
          obtain ⟨hj, aj, rfl, hraj⟩ := hv2
          obtain ⟨_, _, dv1, rv1, n1, e1, ag1, ru1, rfl, rfl, ⟨avs1, k2, e2, hst1⟩, ⟨rvs1, k3, e3, hin1⟩, hd1, ht1⟩ := hraj _ hs
          iterate 8 (walk_at "m_step")
          refine unstop (isnot_opt hd1 ?_)
          iterate 1 (walk_at "m_step")
          refine TstP.of (fun hsome => ?_) (fun _ => ⟨trivial, _, _, rfl, by k_asm, by k_asm⟩)
          iterate 4 (walk_at "m_step")
          obtain ⟨i0, hi0⟩ := Option.isSome_iff_exists.mp hsome
          rw [hi0] at hd1
          obtain ⟨t0, rfl⟩ := hd1
          exact ⟨⟨i0, t0, hi0, rfl⟩, _, _, rfl, by k_asm, by k_asm⟩
        case fin5 =>
          unfold LCg.FinE
          intro Dd hd tkd F3 N3 offd
          iterate 2 (walk_at "m_step")
          have hdz : ysd.length ≤ ns.length + 1 := by rw [hysd.length]; exact Nat.le_trans (List.length_filter_le _ _) (by rw [List.length_range]; exact Nat.le_refl _)
          obtain ⟨vdl, hvdl, hodl⟩ := opts_last hysd
          have hhdl := optHanded hodl
          refine unstop (add_arrays F3 N3 (by exact News.isList (by k_asm) (by k_mem)) (by exact News.isList (by k_asm) (by k_mem)) (fun h5 F4 N4 => ?_) (by show 1 + ysd.length ≤ sizeLine; rw [sizeLine_eq]; omega))
          clear F3 N3 offd hysd
          iterate 10 (walk_at "m_step")
          refine unstop (ListComp_ST (by k_asm) (by with_unfolding_all rfl) (by decide) (by rfl) (by decide) (by rfl) ?_)
          walk1
          refine CSrc.lst rfl (by k_asm) (by k_asm) (Or.inr ⟨_, by k_mem, rfl, _, rfl⟩) (by rw [List.size_toArray, hyl, sizeLine_eq]; omega) ?_
          intro gd6
          refine turnsT (List.range (ns.length + 1)) (RowAt w tl f ns) (fun j v => ∃ i t, (f (ns.take j)).rt = some i ∧ v = .int i t) (fun j => (f (ns.take j)).rt.isSome) (by rw [List.size_toArray, hyl, List.length_range]) (Or.inr ⟨_, by k_mem, rfl, _, rfl⟩)
            (fun i v hv => ?src6) (fun j v I2 oI2 C2 oC2 D2 ys2 m₂ h2 tk2 E2 hmem2 hv2 hC2 hx2 F3 N3 off3 => ?turn6) fun ysd hysd => ?fin6
          case src6 =>
            obtain ⟨h1, h2⟩ := hyg i v (by simpa using hv)
            refine ⟨i, h1, ?_, h2⟩
            have := (List.getElem?_eq_some_iff.mp h1).1
            rw [List.length_range] at this
            omega
          case turn6 =>
            obtain ⟨hj, aj, rfl, hraj⟩ := hv2
            obtain ⟨_, _, dv1, rv1, n1, e1, ag1, ru1, rfl, rfl, ⟨avs1, k2, e2, hst1⟩, ⟨rvs1, k3, e3, hin1⟩, hd1, ht1⟩ := hraj _ hs
            iterate 8 (walk_at "m_step")
            refine unstop (isnot_opt ht1 ?_)
            iterate 1 (walk_at "m_step")
            refine TstP.of (fun hsome => ?_) (fun _ => ⟨trivial, _, _, rfl, by k_asm, by k_asm⟩)
            iterate 4 (walk_at "m_step")
            obtain ⟨i0, hi0⟩ := Option.isSome_iff_exists.mp hsome
            rw [hi0] at ht1
            obtain ⟨t0, rfl⟩ := ht1
            exact ⟨⟨i0, t0, hi0, rfl⟩, _, _, rfl, by k_asm, by k_asm⟩
          case fin6 =>
            unfold LCg.FinE
            intro Dd hd tkd F3 N3 offd
            iterate 2 (walk_at "m_step")
            have hdz : ysd.length ≤ ns.length + 1 := by rw [hysd.length]; exact Nat.le_trans (List.length_filter_le _ _) (by rw [List.length_range]; exact Nat.le_refl _)
            obtain ⟨vrt, hvrt, hort⟩ := opts_last hysd
            have hhrt := optHanded hort
            refine unstop (add_arrays F3 N3 (by exact News.isList (by k_asm) (by k_mem)) (by exact News.isList (by k_asm) (by k_mem)) (fun h6 F4 N4 => ?_) (by show 1 + ysd.length ≤ sizeLine; rw [sizeLine_eq]; omega))
            clear F3 N3 offd hysd
            iterate 15 (walk_at "m_step")
            refine unstop (item_last (by exact News.isList (by k_asm) (by k_mem)) hvdl ?_)
            iterate 8 (walk_at "m_step")
            refine unstop (item_last (by exact News.isList (by k_asm) (by k_mem)) hvrt ?_)
            iterate 6 (walk_at "m_step")
            (with_reducible rename Fr _ _ _ _ => F9)
            (with_reducible rename News _ _ _ _ => N9)
            have N9' : News s.heap L _ [_, (Da, LCg.lst ysa), (Du, LCg.lst ysu)] := fun p hp => N9 p (by
              rcases List.mem_cons.mp hp with rfl | hp
              · exact .head _
              rcases List.mem_cons.mp hp with rfl | hp
              · k_mem
              rw [List.mem_singleton.mp hp]; k_mem)
            exact ⟨_, _, _, rfl, rfl, F9.keep, _, _, rfl, Fresh.of N9', by
              rw [hdue]
              exact fun h hS => ⟨_, _, _, _, _, hS _ (.head _), _, _, rfl, rfl, ⟨_, _, hS _ (.tail _ (.head _)), hysa⟩, ⟨_, _, hS _ (.tail _ (.tail _ (.head _))), hru⟩, hodl, hort⟩⟩
end
theorem part_off_39 : True := by w_top off; trivial
structure Ent where
  k : Str
  x : Addr
  g : Addr
  u : Addr
  av : Array Value
  rv : Array Value
  dv : Value
  tv : Value
  nx : Nat
  ng : Nat
  nu : Nat
  r : RowD
namespace Ent
def objs (e : Ent) : List (Addr × Obj) := [(e.x, W.listOf #[.ref e.g, .ref e.u, e.dv, e.tv] e.nx), (e.g, W.listOf e.av e.ng), (e.u, W.listOf e.rv e.nu)]
structure Fits (B : Nat) (e : Ent) : Prop where
  ag : StrsAre e.av.toList e.r.ag
  ru : IntsAre e.rv.toList e.r.ru
  dl : OptIs e.dv e.r.dl
  rt : OptIs e.tv e.r.rt
  sa : e.r.ag.length ≤ 4 + B
  sr : e.r.ru.length ≤ B
  ok : StrsOk e.r.ag
theorem Fits.le {B C : Nat} {e : Ent} (h : Fits B e) (l : B ≤ C) : Fits C e := ⟨h.ag, h.ru, h.dl, h.rt, Nat.le_trans h.sa (by omega), Nat.le_trans h.sr l, h.ok⟩
theorem row {h : Heap} {B : Nat} {e : Ent} (f : Fits B e) (hs : Sup h e.objs) : IsRow h e.x e.r :=
  ⟨_, _, _, _, _, hs _ (.head _), _, _, rfl, rfl, ⟨_, _, hs _ (.tail _ (.head _)), f.ag⟩, ⟨_, _, hs _ (.tail _ (.tail _ (.head _))), f.ru⟩, f.dl, f.rt⟩
end Ent
def led (es : List Ent) : List (Addr × Obj) := es.flatMap Ent.objs
def ads (es : List Ent) : List Addr := es.flatMap fun e => [e.x, e.g, e.u]
theorem led_ads {es : List Ent} {p : Addr × Obj} (h : p ∈ led es) : p.1 ∈ ads es := by
  obtain ⟨e, he, hp⟩ := List.mem_flatMap.mp h
  refine List.mem_flatMap.mpr ⟨e, he, ?_⟩
  simp only [Ent.objs, List.mem_cons, List.not_mem_nil, or_false] at hp ⊢
  rcases hp with rfl | rfl | rfl
  · exact .inl rfl
  · exact .inr (.inl rfl)
  · exact .inr (.inr rfl)
theorem ads_led {es : List Ent} {a : Addr} (h : a ∈ ads es) : ∃ o, (a, o) ∈ led es := by
  obtain ⟨e, he, hp⟩ := List.mem_flatMap.mp h
  simp only [List.mem_cons, List.not_mem_nil, or_false] at hp
  rcases hp with rfl | rfl | rfl
  · exact ⟨_, List.mem_flatMap.mpr ⟨e, he, .head _⟩⟩
  · exact ⟨_, List.mem_flatMap.mpr ⟨e, he, .tail _ (.head _)⟩⟩
  · exact ⟨_, List.mem_flatMap.mpr ⟨e, he, .tail _ (.tail _ (.head _))⟩⟩
def kvsOf (es : List Ent) : List (Str × Value) := es.map fun e => (e.k, .ref e.x)
def tblOf (es : List Ent) : List (Str × RowD) := es.map fun e => (e.k, e.r)
/-- the table in the ledger -/
structure Tab (prog : Program) (w : World) (B : Nat) (d : Addr) (od : Obj) (es : List Ent) : Prop where
  dict : Obj.IsDictOf (PySem.strKind prog w) od (kvsOf es)
  fits : ∀ e ∈ es, e.Fits B
  apart : (d :: ads es).Nodup
  keys : (es.map (·.k)).Nodup
theorem Tab.le {prog : Program} {w : World} {B C : Nat} {d : Addr} {od : Obj} {es : List Ent} (h : Tab prog w B d od es) (l : B ≤ C) : Tab prog w C d od es := ⟨h.dict, fun e he => (h.fits e he).le l, h.apart, h.keys⟩
theorem kvs_keys (es : List Ent) : (kvsOf es).map (·.1) = es.map (·.k) := by unfold kvsOf; rw [List.map_map]; rfl
theorem Tab.by {prog : Program} {w : World} {B : Nat} {d : Addr} {od : Obj} {es : List Ent} (h : Tab prog w B d od es) : TabBy prog w RowBy ((d, od) :: led es) d (tblOf es) := by
  obtain ⟨fs, ep, r1, r2⟩ := h.dict
  refine ⟨kvsOf es, ep, fun hp hS => ⟨od, fs, hS _ (.head _), r1, r2⟩, by unfold kvsOf tblOf; rw [List.length_map, List.length_map], fun i k r hi => ?_⟩
  unfold tblOf at hi
  rw [List.getElem?_map] at hi
  cases he : es[i]? with
  | none => rw [he] at hi; cases hi
  | some e =>
    rw [he] at hi
    obtain ⟨rfl, rfl⟩ := Prod.mk.inj (Option.some.inj hi)
    have hm := List.mem_of_getElem? he
    refine ⟨e.x, by unfold kvsOf; rw [List.getElem?_map, he]; rfl, fun hp hS => Ent.row (h.fits e hm) fun p hp' => hS p (.tail _ (List.mem_flatMap.mpr ⟨e, hm, hp'⟩))⟩
theorem Tab.get {prog : Program} {w : World} {B : Nat} {d : Addr} {od : Obj} {es : List Ent} (h : Tab prog w B d od es) {k : Str} (hk : k ∈ es.map (·.k)) : ∃ a e b, es = a ++ e :: b ∧ e.k = k ∧ valueAt (kvsOf es) k = some (.ref e.x) := by
  obtain ⟨e, he, rfl⟩ := List.mem_map.mp hk
  obtain ⟨a, b, rfl⟩ := List.append_of_mem he
  refine ⟨a, e, b, rfl, rfl, ?_⟩
  refine valueAt_of_get (i := a.length) (by rw [kvs_keys]; exact h.keys) ?_
  unfold kvsOf
  rw [List.getElem?_map, List.getElem?_append_right (Nat.le_refl _), Nat.sub_self]; rfl
theorem Tab.none {prog : Program} {w : World} {B : Nat} {d : Addr} {od : Obj} {es : List Ent} (h : Tab prog w B d od es) {k : Str} (hk : k ∉ es.map (·.k)) : valueAt (kvsOf es) k = none := by
  have h1 := valueAt_isSome (kvs := kvsOf es) (k := k)
  rw [kvs_keys, decide_eq_false hk] at h1
  exact Option.isNone_iff_eq_none.mp (Option.isSome_eq_false_iff.mp h1)
theorem led_app (a b : List Ent) : led (a ++ b) = led a ++ led b := List.flatMap_append
theorem ads_app (a b : List Ent) : ads (a ++ b) = ads a ++ ads b := List.flatMap_append
/-- a new row behind the others -/
theorem Tab.add {prog : Program} {w : World} {B : Nat} {d : Addr} {od od' : Obj} {es : List Ent} {e : Ent} (h : Tab prog w B d od es) (hk : e.k ∉ es.map (·.k)) (hf : e.Fits B) (hd : Obj.IsDictOf (PySem.strKind prog w) od' (kvsOf es ++ [(e.k, .ref e.x)]))
    (h1 : e.g ≠ e.x) (h2 : e.u ≠ e.x) (h3 : e.u ≠ e.g) (hx : e.x ∉ d :: ads es) (hg : e.g ∉ d :: ads es) (hu : e.u ∉ d :: ads es) : Tab prog w B d od' (es ++ [e]) := by
  refine ⟨by unfold kvsOf at hd ⊢; rw [List.map_append]; exact hd, fun e' he => ?_, ?_, ?_⟩
  · rcases List.mem_append.mp he with he | he
    · exact h.fits e' he
    · rw [List.mem_singleton.mp he]; exact hf
  · rw [ads_app, ← List.cons_append]
    refine List.nodup_append.mpr ⟨h.apart, ?_, ?_⟩
    · show [e.x, e.g, e.u].Nodup
      simp only [List.nodup_cons, List.mem_cons, List.not_mem_nil, or_false, not_or, not_false_eq_true, List.nodup_nil, and_true]
      exact ⟨⟨Ne.symm h1, Ne.symm h2⟩, Ne.symm h3⟩
    · intro a ha b hb e1
      subst e1
      have hb : a ∈ [e.x, e.g, e.u] := hb
      simp only [List.mem_cons, List.not_mem_nil, or_false] at hb
      rcases hb with rfl | rfl | rfl
      · exact hx ha
      · exact hg ha
      · exact hu ha
  · rw [List.map_append]
    refine List.nodup_append.mpr ⟨h.keys, by simp, ?_⟩
    intro a ha b hb e1
    have hb : b ∈ [e.k] := hb
    rw [List.mem_singleton] at hb
    subst hb
    subst e1
    exact hk ha
/-- a row turned in its place -/
theorem Tab.turn {prog : Program} {w : World} {B C : Nat} {d : Addr} {od : Obj} {a b : List Ent} {e e' : Ent} (h : Tab prog w B d od (a ++ e :: b)) (hl : B ≤ C) (hf : e'.Fits C) (hk : e'.k = e.k) (hx : e'.x = e.x) (hg : e'.g = e.g) (hu : e'.u = e.u) : Tab prog w C d od (a ++ e' :: b) := by
  refine ⟨?_, fun e1 he => ?_, ?_, ?_⟩
  · have : kvsOf (a ++ e' :: b) = kvsOf (a ++ e :: b) := by unfold kvsOf; simp only [List.map_append, List.map_cons, hk, hx]
    rw [this]; exact h.dict
  · rcases List.mem_append.mp he with he | he
    · exact (h.fits e1 (List.mem_append_left _ he)).le hl
    rcases List.mem_cons.mp he with rfl | he
    · exact hf
    · exact (h.fits e1 (List.mem_append_right _ (.tail _ he))).le hl
  · have : ads (a ++ e' :: b) = ads (a ++ e :: b) := by unfold ads; simp only [List.flatMap_append, List.flatMap_cons, hg, hx, hu]
    rw [this]; exact h.apart
  · have : (a ++ e' :: b).map (·.k) = (a ++ e :: b).map (·.k) := by simp only [List.map_append, List.map_cons, hk]
    rw [this]; exact h.keys
/-- the row's three objects stand apart from the others -/
theorem Tab.off {prog : Program} {w : World} {B : Nat} {d : Addr} {od : Obj} {a b : List Ent} {e : Ent} (h : Tab prog w B d od (a ++ e :: b)) : e.g ≠ e.x ∧ e.u ≠ e.x ∧ e.u ≠ e.g ∧ ∀ q ∈ (d, od) :: (led a ++ led b), q.1 ≠ e.x ∧ q.1 ≠ e.g ∧ q.1 ≠ e.u := by
  have h := h.apart
  rw [ads_app, ← List.cons_append] at h
  have he : ads (e :: b) = [e.x, e.g, e.u] ++ ads b := rfl
  rw [he, List.nodup_append] at h
  obtain ⟨h1, h2, h3⟩ := h
  rw [List.nodup_append] at h2
  obtain ⟨h4, h5, h6⟩ := h2
  simp only [List.nodup_cons, List.mem_cons, List.not_mem_nil, or_false, not_or] at h4
  refine ⟨fun e => h4.1.1 e.symm, fun e => h4.1.2 e.symm, fun e => h4.2.1 e.symm, fun q hq => ?_⟩
  have key : ∀ z ∈ [e.x, e.g, e.u], q.1 ≠ z := fun z hz => by
    rcases List.mem_cons.mp hq with rfl | hq
    · exact h3 _ (.head _) _ (List.mem_append_left _ hz)
    rcases List.mem_append.mp hq with hq | hq
    · exact h3 _ (.tail _ (led_ads hq)) _ (List.mem_append_left _ hz)
    · exact (h6 _ hz _ (led_ads hq)).symm
  exact ⟨key _ (.head _), key _ (.tail _ (.head _)), key _ (.tail _ (.tail _ (.head _)))⟩
theorem part_off_40 : True := by w_top off; trivial
theorem StrsAre.eraseIdx' {vs : List Value} {ss : List Str} (h : StrsAre vs ss) (j : Nat) : StrsAre (vs.eraseIdx j) (ss.eraseIdx j) := by
  rw [List.eraseIdx_eq_take_drop_succ, List.eraseIdx_eq_take_drop_succ]
  exact (h.take' j).append' (h.drop' (j + 1))
section
variable {prog : Program} {w : World} {A : Around} {E : Value → Shared → Prop} {s : Shared} {h₀ : Heap} {L D : Addr} {m : Str → Option Value} {pre post : List (Addr × Obj)} {its : Array Value} {n : Nat} {ys : List Str} {k : Str} {t : Tok} {Q : Value → Shared → Prop}
theorem remove_strs (F : Fr h₀ L s.heap m) (N : News h₀ L s.heap (pre ++ (D, W.listOf its n) :: post)) (a : ∀ p ∈ pre, p.1 ≠ D) (c : ∀ p ∈ post, p.1 ≠ D) (hi : StrsAre its.toList ys) (hk : ys.any (· == k) = true) (hz : its.size ≤ 1000)
    (h : ∀ h' its' ys', StrsAre (Array.toList its') ys' → ys'.length ≤ ys.length → (∀ y ∈ ys', y ∈ ys) → Fr h₀ L h' m → News h₀ L h' (pre ++ (D, W.listOf its' (n + 1)) :: post) → Q .none { s with heap := h' }) :
    wpAny (model prog w) A (call (.builtin "list.remove") [.ref D, .str k t]) Q E s := by
  have z := N (D, W.listOf its n) (List.mem_append.mpr (.inr (.head _)))
  have hany : its.toList.any (isStrOf k) = true := by rw [any_isStrOf k hi]; exact hk
  have hlt : its.toList.findIdx (isStrOf k) < its.toList.length := List.findIdx_lt_length_of_exists (by obtain ⟨x, hx, hp⟩ := List.any_eq_true.mp hany; exact ⟨x, hx, hp⟩)
  have hs : its.toList.length = its.size := Array.length_toList
  generalize hj : its.toList.findIdx (isStrOf k) = j at hlt
  have hit : isStrOf k its.toList[j] = true := by subst hj; exact List.findIdx_getElem
  refine call_meets PySem.F.slot_list_remove ⟨_, z.1, rfl⟩ PySem.F.entry_list_remove (PySem.F.args_list_remove_2 _ _)
    (MeetsSeq.list_remove D its n (.str k t) (isStrOf k) (fun y hy => eq_isStrOf k t hi y (by simpa using hy)) j (by omega) (by simpa using hit) (fun i hi hlt => by
      have := List.not_of_lt_findIdx (p := isStrOf k) (xs := its.toList) (i := i) (by rw [hj]; exact hlt)
      simpa using this) (by rw [sizeLine_eq]; omega))
    ⟨z.1, h _ (its.toList.eraseIdx j).toArray (ys.eraseIdx j) (StrsAre.eraseIdx' hi j) (List.length_eraseIdx_le _ _) (fun y hy => List.mem_of_mem_eraseIdx hy) (F.change (Heap.SameBut.update ..) z.2.1 z.2.2) (kl_turn _ N a c ?_ ?_)⟩
  · show its.eraseIdxIfInBounds j = _
    apply Array.toList_inj.mp
    simp [Array.toList_eraseIdxIfInBounds]
  · have e : (its.toList.eraseIdx j).length = its.toList.length - 1 := by rw [List.length_eraseIdx, if_pos hlt]
    rw [List.size_toArray]; omega
theorem insert_strs {y : Str} {u ty : Tok} (F : Fr h₀ L s.heap m) (N : News h₀ L s.heap (pre ++ (D, W.listOf its n) :: post)) (a : ∀ p ∈ pre, p.1 ≠ D) (c : ∀ p ∈ post, p.1 ≠ D) (hi : StrsAre its.toList ys) (hz : its.size ≤ 1000)
    (h : ∀ h' its', StrsAre (Array.toList its') (y :: ys) → Fr h₀ L h' m → News h₀ L h' (pre ++ (D, W.listOf its' (n + 1)) :: post) → Q .none { s with heap := h' }) :
    wpAny (model prog w) A (call (.builtin "list.insert") [.ref D, .int 0 u, .str y ty]) Q E s := by
  have z := N (D, W.listOf its n) (List.mem_append.mpr (.inr (.head _)))
  refine call_meets PySem.F.slot_list_insert ⟨_, z.1, rfl⟩ PySem.F.entry_list_insert (PySem.F.args_list_insert_3 _ _ _) (PySem.AutoSeq1.list_insert_list_int_val_1 D _ n 0 u (.str y ty) (by decide) (by rw [sizeLine_eq]; omega))
    ⟨z.1, h _ (#[.str y ty] ++ its) (by rw [Array.toList_append]; exact .cons _ _ hi) (F.change (Heap.SameBut.update ..) z.2.1 z.2.2) (kl_turn _ N a c ?_ ?_)⟩
  · show (its.extract 0 (if (0 : Int) < 0 then (0 + (its.size : Int)).toNat else min (0 : Int).toNat its.size)).push (Value.str y ty) ++ its.extract (if (0 : Int) < 0 then (0 + (its.size : Int)).toNat else min (0 : Int).toNat its.size) = _
    rw [if_neg (by decide)]
    have e : min (0 : Int).toNat its.size = 0 := by simp
    rw [e]
    apply Array.toList_inj.mp
    simp
  · rw [Array.size_append]
    show 1 + its.size ≠ its.size
    omega
end
theorem part_off_41 : True := by w_top off; trivial
theorem my_for_range {prog : Program} {w : World} {A : Around} {E E' : Value → Shared → Prop} {s : Shared} {env : Env} {h₀ : Heap} {x : Str} {px : Pos} {r : Addr} {b : Int} {n : Nat} {t u v : Tok}
    {body orelse : List Stmt} {Q : Flow → Shared → Prop} {m : Str → Option Value} {news : List (Addr × Obj)}
    (J : Nat → (Str → Option Value) → List (Addr × Obj) → Prop)
    (hh : A.handled = none) (hr : IsRange s.heap r 0 b 1 t u v) (hb : b = (n : Int)) (hn : n ≤ 100000) (F : Fr h₀ env.locals s.heap m) (N : News h₀ env.locals s.heap news) (hJ : J 0 m news)
    (hx : env.kindOf x = some .local) (hp : (env.scope.kind == .class || (env.scope.kind == .module && env.locals != env.globals)) = false)
    (turn : ∀ I oI i ti m₁ news₁ h tk own, i < n → J i m₁ news₁ → Fr h₀ env.locals h (fun y => if y = x then some (.int (i : Nat) ti) else m₁ y) → News h₀ env.locals h (news₁ ++ own) →
      (∀ p ∈ own, p.1 = I) → (I, oI) ∈ own → (∀ p ∈ news₁, p.1 ≠ I) → (∀ p ∈ news, p.1 < I) →
      wpAny (model prog w) A (execs body env) (TPost h₀ env.locals (LK own I (J (i + 1))) s Q) NoE { s with heap := h, toks := tk })
    (done : ∀ m₁ news₁ h tk, J n m₁ news₁ → Fr h₀ env.locals h m₁ → News h₀ env.locals h news₁ → wpAny (model prog w) A (execs orelse env) Q NoE { s with heap := h, toks := tk }) :
    wpAny (model prog w) A (pyIter (.ref r)) (fun it s₂ => codeAny (model prog w) A (.forLoop (.Name x px) it body orelse env) (fun r s' => match r with | .ok f => Q f s' | .error e => E' e s') s₂) E s := by
  subst hb
  have hLs : env.locals ≠ s.heap.objs.size := Nat.ne_of_lt F.ns.lt
  refine wpAny_pyIter_range hr (small_one (by decide) (by decide) (by omega) (by omega)) ?_
  have W := range_walksB (prog := prog) (w := w) (A := A) (I := s.heap.objs.size) hh 0 n
  refine my_for J W hx hp (fun h => hLs (List.mem_singleton.mp h)) ?_ ?_ (F.push _) (fun p hp => ⟨Heap.get?_push_of_some _ (N p hp).1, (N p hp).2⟩) ?_ hJ ?_ done
  · intro b hb
    rw [List.mem_singleton.mp hb]
    exact fresh_none F (Nat.le_refl _)
  · show IsRangeIter _ _ _ _ _
    have e : Builtin.Range.rangeSize 0 (n : Int) 1 = ((n : Nat) : Int) := by rw [rangeSize_one]; split <;> omega
    rw [e]; simpa using Heap.get?_push_size _ rfl
  · intro p hp hI
    exact absurd (Heap.lt_size (N p hp).1) ((List.mem_singleton.mp hI) ▸ Nat.lt_irrefl _)
  · intro i v m₁ news₁ h tk own hi hP hJ₁ F₁ N₁ hfp hin hw hst
    obtain ⟨_, ti, rfl⟩ := hP
    rw [Int.zero_add] at F₁
    have hoI : h.get? s.heap.objs.size = some _ := hst
    refine wpAny_mono (turn s.heap.objs.size _ i ti m₁ news₁ h tk own hi hJ₁ F₁ N₁ (fun p hp => List.mem_singleton.mp (hfp p hp)) (hin _ (.head _) _ (fresh_none F (Nat.le_refl _)) hoI) (fun p hp e => hw p hp (by rw [e]; exact .head _)) (fun p hp => Heap.lt_size (N p hp).1)) (fun f s₂ hf => ?_) fun _ _ x => x
    have key : ∀ m' news', (∃ news₂, news' = news₂ ++ own ∧ (∀ p ∈ news₂, p.1 ≠ s.heap.objs.size) ∧ J (i + 1) m' news₂) → ∃ news₂, news' = news₂ ++ own ∧ (∀ p ∈ news₂, p.1 ∉ [s.heap.objs.size]) ∧ J (i + 1) m' news₂ := by
      rintro m' news' ⟨n₂, h1, h2, h3⟩
      exact ⟨n₂, h1, fun p hp hm => h2 p hp (List.mem_singleton.mp hm), h3⟩
    cases f with
    | next => obtain ⟨h', tk', m', news', rfl, F', N', hJ'⟩ := hf; exact ⟨h', tk', m', news', rfl, F', N', key _ _ hJ'⟩
    | cont => obtain ⟨h', tk', m', news', rfl, F', N', hJ'⟩ := hf; exact ⟨h', tk', m', news', rfl, F', N', key _ _ hJ'⟩
    | brk => exact hf
    | ret v => exact hf
def drawn (n : Nat) : List Str := lawNames (spelled (n / 18))
def keyed (ks : List Str) (ns : List Str) : Prop := ∀ j ≤ ns.length, plc (ns.take j) ∈ ks
def TabP (prog : Program) (w : World) (s : Shared) (nums : List Nat) : Value → Heap → Prop := fun v h' => ∃ d own tbl, v = .ref d ∧ (d == sysModules) = false ∧ (∃ od, (d, od) ∈ own) ∧ Fresh s.heap h' own ∧ TabBy prog w RowBy own d tbl ∧
      (∀ p ∈ tbl, p.2.ag.length ≤ 100 ∧ p.2.ru.length ≤ 100 ∧ StrsOk p.2.ag) ∧ tbl.length ≤ 1000 ∧ ∀ n ∈ nums, keyed (tbl.map (·.1)) (drawn n)
def TabJ (prog : Program) (w : World) (l : Addr) (nums : List Nat) : Nat → (Str → Option Value) → List (Addr × Obj) → Prop := fun i m news => ∃ d od es, Has m [(Str.ofString "table", .ref d), (Str.ofString "numbers", .ref l)] ∧ news = (d, od) :: led es ∧ (d == sysModules) = false ∧ Tab prog w i d od es ∧ es.length ≤ 5 * i ∧ ∀ n ∈ nums.take i, keyed (es.map (·.k)) (drawn n)
def TabJ2 (prog : Program) (w : World) (l pn d I : Addr) (vs : Array Value) (vn : Nat) (ti : Tok) (i n : Nat) (es : List Ent) (own : List (Addr × Obj)) : Nat → (Str → Option Value) → List (Addr × Obj) → Prop := fun j m news => ∃ od es', Has m [(Str.ofString "names", .ref pn), (Str.ofString "k", .int (i : Nat) ti), (Str.ofString "table", .ref d), (Str.ofString "numbers", .ref l)] ∧ news = (pn, W.listOf vs vn) :: (d, od) :: (led es' ++ own) ∧ Tab prog w i d od es' ∧ es'.length ≤ 5 * i + j ∧
        (∀ z ∈ es.map (·.k), z ∈ es'.map (·.k)) ∧ (∀ j' < j, plc ((drawn n).take j') ∈ es'.map (·.k)) ∧ ∀ q ∈ led es', q.1 ≠ pn ∧ q.1 ≠ I
section
local macro_rules | `(tactic| walk_at "call builtin:len") => `(tactic| (k_here; (with_reducible show wpAny _ _ (call (Value.builtin "len") [Value.ref _]) _ _ _); k_dflt (refine' len_list (lstBase ?bF ?b1) ?b2 ?_; (case bF => k_asm); (case b1 => assumption); (case b2 => omega))))
local macro_rules | `(tactic| walk_at "compareOp NotIn str ref") => `(tactic| walk_at "m_st")
local macro_rules | `(tactic| walk_at "pyIter ref") => `(tactic| walk_at "m_st")
local macro_rules | `(tactic| walk_at "subscriptTail Name Name ref int") => `(tactic| walk_at "m_st")
theorem item_int_nat {prog : Program} {w : World} {A : Around} {E : Value → Shared → Prop} {s : Shared} {value slice : PySem.Expr} {p : Addr} {i : Nat} {u : Tok} {vs : Array Value} {nums : List Nat} {Q : Value → Shared → Prop}
    (hL : s.heap.IsList p vs) (hs : IntsAre vs.toList (nums.map fun n : Nat => (n : Int))) (hi : i < nums.length) (hb : i ≤ 100000) (h : ∀ t, Q (.int (nums[i] : Nat) t) s)
    (he : subscripted slice false (.ref p) (.int (i : Int) u) = operate [.ref p, .int (i : Int) u] (getItem (.ref p) (.int (i : Int) u)) := by with_unfolding_all rfl) :
    wpAny (model prog w) A (subscriptTail value slice (.ref p) (.int (i : Int) u)) Q E s := by
  have hv : (nums.map fun n : Nat => (n : Int))[i]? = some (nums[i] : Int) := by rw [List.getElem?_map, List.getElem?_eq_getElem hi]; rfl
  have key : ∀ {vs : List Value} {ns : List Int}, IntsAre vs ns → ∀ (i : Nat) (a : Int), ns[i]? = some a → ∃ t, vs[i]? = some (.int a t) := by
    intro vs ns h
    induction h with
    | nil => intro i a e; simp at e
    | cons k t _ ih =>
      intro i a e
      cases i with
      | zero => simp only [List.getElem?_cons_zero, Option.some.injEq] at e; subst e; exact ⟨t, rfl⟩
      | succ i => simpa using ih i a (by simpa using e)
  obtain ⟨t, ht⟩ := key hs i _ hv
  exact tail_any hL.typeIs slot_list_getitem.lookup (wpAny_getItem_list hL (Int.natCast_nonneg _) (by omega) (by simpa using ht) (h t)) he
local macro_rules | `(tactic| walk_at "subscriptTail Name BinOp ref str") => `(tactic| walk_at "m_st")
local macro_rules | `(tactic| walk_at "compareOp In str ref") => `(tactic| walk_at "m_st")
local macro_rules | `(tactic| walk_at "call builtin:list.remove") => `(tactic| walk_at "m_st")
local macro_rules | `(tactic| walk_at "call builtin:list.insert") => `(tactic| walk_at "m_st")
local macro_rules | `(tactic| walk_at "setItem ref str") => `(tactic| walk_at "m_st")
theorem news_front {h₀ h : Heap} {L : Addr} {x u g s p d : Addr × Obj} {r : List (Addr × Obj)} (N : News h₀ L h (x :: u :: g :: s :: p :: d :: r)) : News h₀ L h (d :: x :: u :: g :: p :: r) := fun q hq => N q (by
  simp only [List.mem_cons] at hq ⊢
  rcases hq with h | h | h | h | h | h
  · exact .inr (.inr (.inr (.inr (.inr (.inl h)))))
  · exact .inl h
  · exact .inr (.inl h)
  · exact .inr (.inr (.inl h))
  · exact .inr (.inr (.inr (.inr (.inl h))))
  · exact .inr (.inr (.inr (.inr (.inr (.inr h))))))
theorem allLt_mem {d : Nat} : ∀ {l : List (Addr × Obj)}, AllLt d l → ∀ p ∈ l, @LT.lt Nat _ p.1 d
  | [], _, _, h => nomatch h
  | _ :: _, x, p, h => by
    rcases List.mem_cons.mp h with rfl | h
    · exact x.1
    · exact allLt_mem x.2 p h
theorem Tab.led_off {prog : Program} {w : World} {B : Nat} {d : Addr} {od : Obj} {es : List Ent} (T : Tab prog w B d od es) {q : Addr × Obj} (h : q ∈ led es) : q.1 ≠ d := fun e => (List.nodup_cons.mp T.apart).1 (e ▸ led_ads h)
def row0 : RowD := ⟨[Str.ofString "fig", Str.ofString "plum", Str.ofString "Fig", Str.ofString "fig"], [], none, none⟩
theorem row0_ok : StrsOk row0.ag := by
  have h : (row0.ag.all fun y => PyData.strOk y) = true := by decide +kernel
  exact fun y hy => List.all_eq_true.mp h y hy
theorem tab_new {prog : Program} {w : World} {B : Nat} {d : Addr} {od o2 : Obj} {es : List Ent} {k : Str} {x u g : Addr} {t1 t2 t3 t4 : Tok} {rest rest2 : List (Addr × Obj)} {h₀ hh : Heap} {L : Addr} {pd px pu : Addr × Obj} (_N : News h₀ L hh (pd :: px :: pu :: (g, W.listOf #[.str (Str.ofString "fig") t1, .str (Str.ofString "plum") t2, .str (Str.ofString "Fig") t3, .str (Str.ofString "fig") t4] 0) :: rest2)) (T : Tab prog w B d od es) (hk : k ∉ es.map (·.k)) (hd2 : Obj.IsDictOf (PySem.strKind prog w) o2 (kvsOf es ++ [(k, .ref x)]))
    (a1 : d < g) (a2 : AllLt g (led es ++ rest)) (b1 : g < u) (b2 : d < u) (b3 : AllLt u (led es ++ rest)) (c1 : u < x) (c2 : g < x) (c3 : d < x) (c4 : AllLt x (led es ++ rest)) :
    ∃ e : Ent, e.k = k ∧ e.objs = [(x, W.listOf #[.ref g, .ref u, .none, .none] 0), (g, W.listOf #[.str (Str.ofString "fig") t1, .str (Str.ofString "plum") t2, .str (Str.ofString "Fig") t3, .str (Str.ofString "fig") t4] 0), (u, W.listOf #[] 0)] ∧ Tab prog w B d o2 (es ++ [e]) := by
  have out : ∀ {z : Addr}, d < z → AllLt z (led es ++ rest) → z ∉ d :: ads es := fun {z} h1 h2 hm => by
    rcases List.mem_cons.mp hm with rfl | hm
    · exact Nat.lt_irrefl _ h1
    · obtain ⟨o, ho⟩ := ads_led hm
      exact Nat.lt_irrefl _ (allLt_mem h2 _ (List.mem_append_left _ ho))
  refine ⟨⟨k, x, g, u, #[.str (Str.ofString "fig") t1, .str (Str.ofString "plum") t2, .str (Str.ofString "Fig") t3, .str (Str.ofString "fig") t4], #[], .none, .none, 0, 0, 0, row0⟩, rfl, rfl,
    T.add hk ⟨.cons _ _ (.cons _ _ (.cons _ _ (.cons _ _ .nil))), .nil, rfl, rfl, Nat.le_add_right _ _, Nat.zero_le _, row0_ok⟩ hd2 (Nat.ne_of_lt c2) (Nat.ne_of_lt c1) (Nat.ne_of_gt b1) (out c3 c4) (out a1 a2) (out b2 b3)⟩
theorem row_front {h₀ h : Heap} {L : Addr} {p d : Addr × Obj} {a b : List Ent} {e : Ent} {own : List (Addr × Obj)} (N : News h₀ L h (p :: d :: (led (a ++ e :: b) ++ own))) :
    News h₀ L h ((e.x, W.listOf #[.ref e.g, .ref e.u, e.dv, e.tv] e.nx) :: (e.g, W.listOf e.av e.ng) :: (e.u, W.listOf e.rv e.nu) :: (d :: (led a ++ led b ++ own))) := fun q hq => N q (by
  have e1 : led (a ++ e :: b) = led a ++ (e.objs ++ led b) := by rw [led_app]; rfl
  rw [e1, Ent.objs]
  simp only [List.mem_cons, List.mem_append, List.not_mem_nil, or_false] at hq ⊢
  rcases hq with h | h | h | h | (h | h) | h
  · exact .inr (.inr (.inl (.inr (.inl (.inl h)))))
  · exact .inr (.inr (.inl (.inr (.inl (.inr (.inl h))))))
  · exact .inr (.inr (.inl (.inr (.inl (.inr (.inr h))))))
  · exact .inr (.inl h)
  · exact .inr (.inr (.inl (.inl h)))
  · exact .inr (.inr (.inl (.inr (.inr h))))
  · exact .inr (.inr (.inr h)))
theorem ints_push {vs : Array Value} {ns : List Int} {i : Int} {t : Tok} (h : IntsAre vs.toList ns) : IntsAre (vs.push (.int i t)).toList (ns ++ [i]) := by
  rw [Array.toList_push]; exact IntsAre.app h (.cons _ _ .nil)
theorem turn_end {prog : Program} {w : World} {i : Nat} {d : Addr} {od : Obj} {a b : List Ent} {e e' : Ent} {own rest : List (Addr × Obj)} {h₀ h : Heap} {L : Addr} {o1 o2 o3 : Obj} (T : Tab prog w i d od (a ++ e :: b)) (hr : (d, od) :: (led a ++ led b ++ own) = rest) (N : News h₀ L h ((e.x, o1) :: (e.g, o2) :: (e.u, o3) :: rest))
    (hk : e'.k = e.k) (hx : e'.x = e.x) (hg : e'.g = e.g) (hu : e'.u = e.u) (ho : e'.objs = [(e.x, o1), (e.g, o2), (e.u, o3)]) {I : Addr} (hI : ∀ q ∈ led (a ++ e :: b), q.1 ≠ I) (hdI : d ≠ I) (hf : e'.Fits (i + 1)) :
    ∃ es, News h₀ L h (((d, od) :: led es) ++ own) ∧ Tab prog w (i + 1) d od es ∧ es.length = (a ++ e :: b).length ∧ es.map (·.k) = (a ++ e :: b).map (·.k) ∧ ∀ q ∈ (d, od) :: led es, q.1 ≠ I := by
  have ea : ads (a ++ e' :: b) = ads (a ++ e :: b) := by unfold ads; simp only [List.flatMap_append, List.flatMap_cons, hg, hx, hu]
  refine ⟨a ++ e' :: b, fun q hq => N q ?_, T.turn (Nat.le_succ _) hf hk hx hg hu, by simp, by simp [hk], fun q hq => ?_⟩
  case refine_2 =>
    rcases List.mem_cons.mp hq with rfl | hq
    · exact hdI
    · obtain ⟨o, ho⟩ := ads_led (ea ▸ led_ads hq)
      exact hI (q.1, o) ho
  have e1 : led (a ++ e' :: b) = led a ++ (e'.objs ++ led b) := by rw [led_app]; rfl
  rw [e1, ho] at hq
  rw [← hr]
  simp only [List.mem_cons, List.mem_append, List.not_mem_nil, or_false] at hq ⊢
  rcases hq with (h | h | (h | h | h) | h) | h
  · exact .inr (.inr (.inr (.inl h)))
  · exact .inr (.inr (.inr (.inr (.inl (.inl h)))))
  · exact .inl h
  · exact .inr (.inl h)
  · exact .inr (.inr (.inl h))
  · exact .inr (.inr (.inr (.inr (.inl (.inr h)))))
  · exact .inr (.inr (.inr (.inr (.inr h))))
theorem menu_fig (wc : Int) (h0 : 0 ≤ wc) (h3 : wc < 3) : PyData.strOk ([Str.ofString "fig", Str.ofString "plum", Str.ofString "Fig"].getD wc.toNat Str.empty) = true := by
  have : ∀ j, j < 3 → PyData.strOk ([Str.ofString "fig", Str.ofString "plum", Str.ofString "Fig"].getD j Str.empty) = true := by decide +kernel
  exact this _ (by omega)
theorem menu_kiwi (wc : Int) (h0 : 0 ≤ wc) (h3 : wc < 3) : PyData.strOk ([Str.ofString "kiwi", Str.ofString "plum", Str.ofString "fig"].getD wc.toNat Str.empty) = true := by
  have : ∀ j, j < 3 → PyData.strOk ([Str.ofString "kiwi", Str.ofString "plum", Str.ofString "fig"].getD j Str.empty) = true := by decide +kernel
  exact this _ (by omega)
theorem tab_not {prog : Program} {w : World} {A : Around} {E : Value → Shared → Prop} {s : Shared} {h₀ : Heap} {L : Addr} {news : List (Addr × Obj)} {B : Nat} {d : Addr} {od : Obj} {es : List Ent} {k : Str} {t : Tok} {Q : Value → Shared → Prop}
    (N : News h₀ L s.heap news) (hp : (d, od) ∈ news) (T : Tab prog w B d od es) (lo : (d == sysModules) = false) (h1 : k ∈ es.map (·.k) → Q (.bool false) { s with toks := s.toks + 1 }) (h2 : k ∉ es.map (·.k) → Q (.bool true) { s with toks := s.toks + 1 }) :
    wpAny (model prog w) A (compareOp .NotIn (.str k t) (.ref d)) Q E s := by
  refine wpAny_notIn_of (knd := strKind prog w) (strKind_is _ _ _ _) lo (kda_dict N hp T.dict).mapOf ?_
  rw [valueAt_isSome, kvs_keys]
  by_cases hk : k ∈ es.map (·.k)
  · rw [decide_eq_true hk]; exact h1 hk
  · rw [decide_eq_false hk]; exact h2 hk
theorem c_table {prog : Program} {w : World} {mean mg mb} {A : Around} {s : Shared} {l : Addr} {nv : Array Value} {nn : Nat} {nums : List Nat}
    (hl : s.heap.get? l = some (W.listOf nv nn)) (hi : IntsAre nv.toList (nums.map fun n : Nat => (n : Int))) (hz : nums.length ≤ 9) (hb : ∀ n ∈ nums, n < 23328) (sp : ∀ f < 1296, Ok (lawNames (spelled f)) ∧ (spelled f).length ≤ 1000) (c : Cx w mean mg mb s.heap) (hA : Rm A (3+1)) :
    codeAny (model prog w) A (.call (.ref 211) ⟨[.ref l], []⟩) (Ret s (TabP prog w s nums)) s := by
  k_with "table" => skip
  have hnl : nv.size = nums.length := by rw [← Array.length_toList, hi.length, List.length_map]
  refine' enter_plain (binds := [(Str.ofString "numbers", .ref l)]) ?cc ?hA ?ho ?hcd ?hb ?hl ?_ ?c2 ?c3 ?c4 ?c5
  walk_at "m_enter"
  intro L h₁ dp fr gd un F N X T R
  iterate 21 (walk_at "m_step")
  (with_reducible rename Fr _ _ _ _ => F0)
  (with_reducible rename News _ _ _ _ => N0)
  rename Obj.IsDictOf (PySem.strKind prog w) _ _ => hd0
  rename (_ == sysModules) = false => hlo
  refine unstop (my_for_range (n := nums.length) (TabJ prog w l nums)
    rfl (by assumption) (by rw [hnl]) (by omega) F0 N0 ?k1 rfl rfl ?turn ?done)
  case k1 => exact ⟨_, _, [], ⟨rfl, rfl, trivial⟩, rfl, hlo, ⟨hd0, (fun _ h => nomatch h), List.nodup_cons.mpr ⟨(fun h => nomatch h), List.nodup_nil⟩, List.nodup_nil⟩, Nat.zero_le _, fun _ h => nomatch h⟩
  case turn =>
    clear F0 N0 hd0 hlo
    rintro I oI i ti m₁ _ h tk own hilt ⟨d, od, es, hm, rfl, hlo, T0, hes, hkk⟩ F N hown hIo hI hlow
    replace F := frPut [(Str.ofString "k", .int (i : Nat) ti), (Str.ofString "table", .ref d), (Str.ofString "numbers", .ref l)] F ⟨rfl, hm⟩
    simp only [List.cons_append] at N
    iterate 15 (walk_at "m_step")
    refine unstop (item_int_nat (lstBase (by k_asm) hl) hi hilt (by omega) fun t2 => ?_)
    have hnlt := hb nums[i] (List.getElem_mem hilt)
    generalize hgn : nums[i] = n at hnlt
    have e18 : ((n : Nat) : Int).fdiv 18 = ((n / 18 : Nat) : Int) := by rw [Int.fdiv_eq_ediv_of_nonneg _ (by decide)]; norm_cast
    obtain ⟨hok, hsl⟩ := sp (n / 18) (by omega)
    iterate 4 (walk_at "m_step")
    rw [e18]
    (with_reducible rename Fr _ _ _ _ => F1)
    (with_reducible rename News _ _ _ _ => N1)
    refine use_ret F1 N1 (c_spelled (by omega) (Cx.fr X T F1) (Rm.le R (by decide))) fun v h1 tk1 F2 N2 kp1 hv => ?_
    obtain ⟨t3, rfl⟩ := hv
    clear F1 N1 kp1
    iterate 2 (walk_at "m_step")
    (with_reducible rename Fr _ _ _ _ => F1)
    (with_reducible rename News _ _ _ _ => N1)
    refine use_ret F1 N1 (c_names hsl (Cx.fr X T F1) (Rm.le R (by decide))) fun v h1 tk1 F2 N2 kp1 hv => ?_
    obtain ⟨pn, vs, vn, rfl, hp1, hp2, hvs⟩ := hv
    replace N2 := nadd F1 N2 hp1 hp2
    have hvs : StrsAre vs.toList (drawn n) := hvs
    have hok : Ok (drawn n) := hok
    have hpn : ∀ q ∈ (d, od) :: (led es ++ own), q.1 ≠ pn := fun q hq e => by
      have h1 := (N1 q hq).1
      rw [e] at h1
      rw [hp1] at h1
      cases h1
    have hvl : vs.size = (drawn n).length := by rw [← Array.length_toList, hvs.length]
    have hd4 := hok.1
    have hdown : ∀ q ∈ own, q.1 ≠ d := fun q hq e => hI (d, od) (.head _) (e.symm.trans (hown q hq))
    clear F1 N1 kp1 hp1 hp2
    iterate 22 (walk_at "m_step")
    (with_reducible rename Fr _ _ _ _ => F1)
    (with_reducible rename News _ _ _ _ => N1)
    rename IsRange _ _ _ _ _ _ _ _ => hrg
    refine unstop (my_for_range (n := (drawn n).length + 1) (TabJ2 prog w l pn d I vs vn ti i n es own)
      rfl hrg (by push_cast; omega) (by omega) F1 N1 ?k2 rfl rfl ?turn2 ?done2)
    case k2 => exact ⟨od, es, ⟨rfl, rfl, rfl, rfl, trivial⟩, rfl, T0, hes, (fun _ h => h), (fun _ h => absurd h (Nat.not_lt_zero _)), fun q hq => ⟨hpn q (.tail _ (List.mem_append_left _ hq)), hI q (.tail _ hq)⟩⟩
    case turn2 =>
      clear F1 N1 T0 hrg
      rintro I2 oI2 j tj m₂ _ h tk own2 hj ⟨od, es', hm, rfl, T1, hes1, hk1, hk2, hpn1⟩ F N hown2 hIo2 hI2 hlow2
      replace F := frPut [(Str.ofString "size", .int (j : Nat) tj), (Str.ofString "names", .ref pn), (Str.ofString "k", .int (i : Nat) ti), (Str.ofString "table", .ref d), (Str.ofString "numbers", .ref l)] F ⟨rfl, hm⟩
      simp only [List.cons_append, List.append_assoc] at N
      have hsl2 := strs_upto hvs j
      have hj1 := (ok_sizes (hok.take j)).1
      have hj2 := (ok_sizes (hok.take j)).2
      iterate 30 (walk_at "m_step")
      (with_reducible rename Fr _ _ _ _ => F1)
      (with_reducible rename News _ _ _ _ => N1)
      refine unstop (tab_not (k := plc ((drawn n).take j)) N1 (by k_mem) T1 hlo (fun hin => ?_) (fun hout => ?_))
      · iterate 6 (walk_at "m_step")
        exact ⟨_, _, _, _, rfl, F1, (fun p hp => N1 p (.tail _ hp)), (pn, W.listOf vs vn) :: (d, od) :: (led es' ++ own), by simp only [List.cons_append, List.append_assoc], hI2, od, es', ⟨rfl, rfl, rfl, rfl, trivial⟩, rfl, T1, by omega, hk1, (fun j' hj' => by
          rcases Nat.lt_succ_iff_lt_or_eq.mp hj' with h | rfl
          · exact hk2 j' h
          · exact hin), hpn1⟩
      · iterate 30 (walk_at "m_step")
        rename _ < _ ∧ _ < _ ∧ _ < _ ∧ _ < _ ∧ _ < _ ∧ AllLt _ _ => q3
        rename _ < _ ∧ _ < _ ∧ _ < _ ∧ _ < _ ∧ AllLt _ _ => q2
        rename _ < _ ∧ _ < _ ∧ _ < _ ∧ AllLt _ _ => q1
        (with_reducible rename Fr _ _ _ _ => F2)
        (with_reducible rename News _ _ _ _ => N2)
        have N3 := news_front N2
        refine unstop (kda_set (k := plc ((drawn n).take j)) F2 N3 (.head ?offd) T1.dict (strKind_is _ _ _ _) ?size fun h2 o2 F3 N4 hd2 => ?_)
        case size => unfold kvsOf; rw [List.length_map, sizeLine_eq]; omega
        case offd =>
          intro q hq
          rcases List.mem_cons.mp hq with rfl | hq
          · exact Nat.ne_of_gt q3.2.2.2.2.1
          rcases List.mem_cons.mp hq with rfl | hq
          · exact Nat.ne_of_gt q2.2.2.2.1
          rcases List.mem_cons.mp hq with rfl | hq
          · exact Nat.ne_of_gt q1.2.2.1
          rcases List.mem_cons.mp hq with rfl | hq
          · exact Ne.symm (hpn (d, _) (.head _))
          rcases List.mem_append.mp hq with hq | hq
          · exact T1.led_off hq
          rcases List.mem_append.mp hq with hq | hq
          · exact hdown q hq
          · exact fun e => hI2 (d, od) (.tail _ (.head _)) (e.symm.trans (hown2 q hq))
        rw [stored_absent (T1.none hout)] at hd2
        iterate 3 (walk_at "m_step")
        obtain ⟨e, ek, eo, T2⟩ := tab_new N4 T1 hout hd2 q1.2.2.1 q1.2.2.2 q2.1 q2.2.2.2.1 q2.2.2.2.2 q3.1 q3.2.1 q3.2.2.2.2.1 q3.2.2.2.2.2
        have hI2g := allLt_mem q1.2.2.2 (I2, oI2) (List.mem_append_right _ (List.mem_append_right _ hIo2))
        have hI2u := allLt_mem q2.2.2.2.2 (I2, oI2) (List.mem_append_right _ (List.mem_append_right _ hIo2))
        have hI2x := allLt_mem q3.2.2.2.2.2 (I2, oI2) (List.mem_append_right _ (List.mem_append_right _ hIo2))
        have ekm : (es' ++ [e]).map (·.k) = es'.map (·.k) ++ [plc ((drawn n).take j)] := by rw [List.map_append, ← ek]; rfl
        have el : led (es' ++ [e]) = led es' ++ e.objs := by rw [led_app]; unfold led; simp
        refine ⟨_, _, _, ((pn, W.listOf vs vn) :: (d, o2) :: (led (es' ++ [e]) ++ own)) ++ own2, rfl, F3, (fun p hp => N4 p ?mm), _, rfl, ?offI, o2, es' ++ [e], ⟨rfl, rfl, rfl, rfl, trivial⟩, rfl, T2, by rw [List.length_append, List.length_singleton]; omega, (fun z hz => by rw [ekm]; exact List.mem_append_left _ (hk1 z hz)), (fun j' hj' => by
          rw [ekm]
          rcases Nat.lt_succ_iff_lt_or_eq.mp hj' with h | rfl
          · exact List.mem_append_left _ (hk2 j' h)
          · exact List.mem_append_right _ (.head _)), ?offp⟩
        case mm =>
          rw [el, eo] at hp
          simp only [List.cons_append, List.nil_append, List.mem_append, List.mem_cons, List.append_assoc] at hp ⊢
          rcases hp with h | h | h | h | h | h | h | h
          · exact .inr (.inr (.inr (.inr (.inl h))))
          · exact .inl h
          · exact .inr (.inr (.inr (.inr (.inr (.inl h)))))
          · exact .inr (.inl h)
          · exact .inr (.inr (.inr (.inl h)))
          · exact .inr (.inr (.inl h))
          · exact .inr (.inr (.inr (.inr (.inr (.inr (.inl h))))))
          · exact .inr (.inr (.inr (.inr (.inr (.inr (.inr h))))))
        case offI =>
          intro p hp
          rw [el, eo] at hp
          simp only [List.mem_append, List.mem_cons, List.not_mem_nil, or_false] at hp
          rcases hp with rfl | rfl | (h | rfl | rfl | rfl) | h
          · exact hI2 (pn, W.listOf vs vn) (.head _)
          · exact hI2 (d, od) (.tail _ (.head _))
          · exact hI2 p (.tail _ (.tail _ (List.mem_append_left _ h)))
          · exact Nat.ne_of_gt hI2x
          · exact Nat.ne_of_gt hI2g
          · exact Nat.ne_of_gt hI2u
          · exact hI2 p (.tail _ (.tail _ (List.mem_append_right _ h)))
        case offp =>
          intro q hq
          rw [el, eo] at hq
          simp only [List.mem_append, List.mem_cons, List.not_mem_nil, or_false] at hq
          have hIg := allLt_mem q1.2.2.2 (I, oI) (List.mem_append_right _ (List.mem_append_left _ hIo))
          have hIu := allLt_mem q2.2.2.2.2 (I, oI) (List.mem_append_right _ (List.mem_append_left _ hIo))
          have hIx := allLt_mem q3.2.2.2.2.2 (I, oI) (List.mem_append_right _ (List.mem_append_left _ hIo))
          rcases hq with h | rfl | rfl | rfl
          · exact hpn1 q h
          · exact ⟨Nat.ne_of_gt q3.2.2.2.1, Nat.ne_of_gt hIx⟩
          · exact ⟨Nat.ne_of_gt q1.2.1, Nat.ne_of_gt hIg⟩
          · exact ⟨Nat.ne_of_gt q2.2.2.1, Nat.ne_of_gt hIu⟩
    case done2 =>
      clear F1 N1 T0 hrg
      rintro m₂ _ h tk ⟨od, es', hm, rfl, T1, hes1, hk1, hk2, hpn1⟩ F N
      replace F := frPut _ F hm
      have hjz := ok_sizes hok
      have hj1 := hjz.1
      have hj2 := hjz.2
      iterate 16 (walk_at "m_step")
      (with_reducible rename News _ _ _ _ => N1)
      have hkd := hk2 (drawn n).length (Nat.lt_succ_self _)
      rw [List.take_length] at hkd
      obtain ⟨ea, e, eb, rfl, hek, hva⟩ := T1.get hkd
      refine unstop (kda_item (k := plc (drawn n)) N1 (by k_mem) T1.dict (strKind_is _ _ _ _) hva ?_)
      iterate 2 (walk_at "m_step")
      (with_reducible rename Fr _ _ _ _ => F2)
      (with_reducible rename News _ _ _ _ => N2)
      obtain ⟨o1, o2, o3, o4⟩ := T1.off
      have fit := T1.fits e (List.mem_append_right _ (.head _))
      have N3 := row_front N2
      have hin3 : ∀ o ∈ e.objs, o.1 ≠ I := fun o ho => (hpn1 o (List.mem_flatMap.mpr ⟨e, List.mem_append_right _ (.head _), ho⟩)).2
      have ofa : ∀ q ∈ (d, od) :: (led ea ++ led eb ++ own), q.1 ≠ e.x ∧ q.1 ≠ e.g ∧ q.1 ≠ e.u := fun q hq => by
        rw [← List.cons_append] at hq
        rcases List.mem_append.mp hq with hq | hq
        · exact o4 q hq
        · rw [hown q hq]
          exact ⟨(hin3 _ (.head _)).symm, (hin3 _ (.tail _ (.head _))).symm, (hin3 _ (.tail _ (.tail _ (.head _)))).symm⟩
      have ofx := fun q hq => (ofa q hq).1
      have ofg := fun q hq => (ofa q hq).2.1
      have ofu := fun q hq => (ofa q hq).2.2
      clear ofa hin3 o4
      have hkeys : ∀ n' ∈ nums.take (i + 1), keyed ((ea ++ e :: eb).map (·.k)) (drawn n') := fun n' hn' => by
        rw [List.take_add_one, List.getElem?_eq_getElem hilt, hgn] at hn'
        rcases List.mem_append.mp hn' with h | h
        · exact fun j hj => hk1 _ (hkk n' h j hj)
        · obtain rfl : n' = n := by simpa using h
          exact fun j hj => hk2 j (Nat.lt_succ_of_le hj)
      have hnoI : ∀ q ∈ led (ea ++ e :: eb), q.1 ≠ I := fun q hq => (hpn1 q hq).2
      have hdI : d ≠ I := hI (d, _) (.head _)
      obtain ⟨k, x, g, u, av, rv, dv, tv, nx, ng, nu, r⟩ := e
      obtain ⟨fag, fru, fdl, frt, fsa, fsr, fok⟩ := fit
      simp only at N3 ofx ofg ofu o1 o2 o3 fag fru fdl frt fsa fsr fok hek hva
      replace o1 := neN o1
      replace o2 := neN o2
      replace o3 := neN o3
      have yag := fag.length
      have yru := fru.length
      rw [Array.length_toList] at yag yru
      have hdl := optHanded fdl
      have hrt := optHanded frt
      generalize hrest : (d, od) :: (led ea ++ led eb ++ own) = rest at N3 ofx ofg ofu
      clear N1 N2
      iterate 22 (walk_at "m_step")
      refine unstop (item_int_nat (lstBase (by k_asm) hl) hi hilt (by omega) fun t5 => ?_)
      rw [hgn]
      have hm0 : 0 ≤ ((n : Nat) : Int).fmod 6 := Int.fmod_nonneg_of_pos _ (by decide)
      have hm6 : ((n : Nat) : Int).fmod 6 < 6 := Int.fmod_lt_of_pos _ (by decide)
      iterate 4 (walk_at "m_step")
      iterate 10 (walk_at "m_step")
      refine unstop (item_int_nat (lstBase (by k_asm) hl) hi hilt (by omega) fun t6 => ?_)
      rw [hgn]
      have hc0 : 0 ≤ (((n : Nat) : Int).fdiv 6).fmod 3 := Int.fmod_nonneg_of_pos _ (by decide)
      have hc3 : (((n : Nat) : Int).fdiv 6).fmod 3 < 3 := Int.fmod_lt_of_pos _ (by decide)
      iterate 6 (walk_at "m_step")
      (with_reducible rename Fr _ _ _ _ => F5)
      generalize ((n : Nat) : Int).fmod 6 = wh at hm0 hm6 F5 ⊢
      generalize (((n : Nat) : Int).fdiv 6).fmod 3 = wc at hc0 hc3 F5 ⊢
      iterate 7 (walk_at "m_step")
      · iterate 14 (walk_at "m_step")
        (with_reducible rename Fr _ _ _ _ => F9)
        (with_reducible rename News _ _ _ _ => N9)
        obtain ⟨es2, N8, T8, l8, k8, i8⟩ := turn_end T1 hrest N9 (e' := ⟨k, x, g, u, av, rv.push (.int (i : Nat) ti), _, tv, nx, ng, nu + 1, ⟨r.ag, r.ru ++ [(i : Int)], some (12 * wh), r.rt⟩⟩) rfl rfl rfl rfl rfl hnoI hdI ⟨fag, ints_push fru, ⟨_, rfl⟩, frt, by show r.ag.length ≤ _; omega, by show (_ ++ _ : List Int).length ≤ _; rw [List.length_append, List.length_singleton]; omega, fok⟩
        exact ⟨_, _, _, _, rfl, F9, N8, _, rfl, i8, d, od, es2, ⟨rfl, rfl, trivial⟩, rfl, hlo, T8, by omega, by rw [k8]; exact hkeys⟩
      iterate 10 (walk_at "m_step")
      · iterate 17 (walk_at "m_step")
        (with_reducible rename Fr _ _ _ _ => F9)
        (with_reducible rename News _ _ _ _ => N9)
        obtain ⟨es2, N8, T8, l8, k8, i8⟩ := turn_end T1 hrest N9 (e' := ⟨k, x, g, u, av, rv.push (.int (i : Nat) ti), dv, _, nx, ng, nu + 1, ⟨r.ag, r.ru ++ [(i : Int)], r.dl, some (7 * (wh - 2))⟩⟩) rfl rfl rfl rfl rfl hnoI hdI ⟨fag, ints_push fru, fdl, ⟨_, rfl⟩, by show r.ag.length ≤ _; omega, by show (_ ++ _ : List Int).length ≤ _; rw [List.length_append, List.length_singleton]; omega, fok⟩
        exact ⟨_, _, _, _, rfl, F9, N8, _, rfl, i8, d, od, es2, ⟨rfl, rfl, trivial⟩, rfl, hlo, T8, by omega, by rw [k8]; exact hkeys⟩
      iterate 10 (walk_at "m_step")
      · have hag := menu_fig wc hc0 hc3
        iterate 25 (walk_at "m_step")
        refine unstop (in_list_strs (vs := av.toList) (by rw [Array.toArray_toList]; exact lstAt (by k_asm) (by k_mem)) fag ?_)
        iterate 2 (walk_at "m_step")
        · rename List.any _ _ = true => hin
          iterate 15 (walk_at "m_step")
          (with_reducible rename Fr _ _ _ _ => F7)
          (with_reducible rename News _ _ _ _ => N7)
          refine unstop (remove_strs (pre := [(x, _)]) (post := (u, _) :: rest) F7 (ntl N7) ?pre5 ?post5 fag hin (by omega) fun h9 av9 ag9 hav9 hl9 hm9 F8 N8' => ?_)
          case pre5 => intro p hp; rw [List.mem_singleton.mp hp]; exact Ne.symm o1
          case post5 =>
            intro p hp
            rcases List.mem_cons.mp hp with rfl | hp
            · exact o3
            · exact ofg p hp
          clear F7 N7
          iterate 6 (walk_at "m_step")
          (with_reducible rename Fr _ _ _ _ => F9)
          (with_reducible rename News _ _ _ _ => N9)
          obtain ⟨es2, N8, T8, l8, k8, i8⟩ := turn_end T1 hrest N9 (e' := ⟨k, x, g, u, av9, rv.push (.int (i : Nat) ti), dv, tv, nx, ng + 1, nu + 1, ⟨ag9, r.ru ++ [(i : Int)], r.dl, r.rt⟩⟩) rfl rfl rfl rfl rfl hnoI hdI ⟨hav9, ints_push fru, fdl, frt, by show ag9.length ≤ _; omega, by show (_ ++ _ : List Int).length ≤ _; rw [List.length_append, List.length_singleton]; omega, fun y hy => fok y (hm9 y hy)⟩
          exact ⟨_, _, _, _, rfl, F9, N8, _, rfl, i8, d, od, es2, ⟨rfl, rfl, trivial⟩, rfl, hlo, T8, by omega, by rw [k8]; exact hkeys⟩
        · iterate 6 (walk_at "m_step")
          (with_reducible rename Fr _ _ _ _ => F9)
          (with_reducible rename News _ _ _ _ => N9)
          obtain ⟨es2, N8, T8, l8, k8, i8⟩ := turn_end T1 hrest (ntl N9) (e' := ⟨k, x, g, u, av, rv.push (.int (i : Nat) ti), dv, tv, nx, ng, nu + 1, ⟨r.ag, r.ru ++ [(i : Int)], r.dl, r.rt⟩⟩) rfl rfl rfl rfl rfl hnoI hdI ⟨fag, ints_push fru, fdl, frt, by show r.ag.length ≤ _; omega, by show (_ ++ _ : List Int).length ≤ _; rw [List.length_append, List.length_singleton]; omega, fok⟩
          exact ⟨_, _, _, _, rfl, F9, N8, _, rfl, i8, d, od, es2, ⟨rfl, rfl, trivial⟩, rfl, hlo, T8, by omega, by rw [k8]; exact hkeys⟩
      · have hag := menu_kiwi wc hc0 hc3
        iterate 26 (walk_at "m_step")
        (with_reducible rename Fr _ _ _ _ => F7)
        (with_reducible rename News _ _ _ _ => N7)
        refine unstop (insert_strs (pre := [(x, _)]) (post := (u, _) :: rest) F7 (ntl N7) ?pre4 ?post4 fag (by omega) fun h9 av9 hav9 F8 N8' => ?_)
        case pre4 => intro p hp; rw [List.mem_singleton.mp hp]; exact Ne.symm o1
        case post4 =>
          intro p hp
          rcases List.mem_cons.mp hp with rfl | hp
          · exact o3
          · exact ofg p hp
        clear F7 N7
        iterate 6 (walk_at "m_step")
        (with_reducible rename Fr _ _ _ _ => F9)
        (with_reducible rename News _ _ _ _ => N9)
        obtain ⟨es2, N8, T8, l8, k8, i8⟩ := turn_end T1 hrest N9 (e' := ⟨k, x, g, u, av9, rv.push (.int (i : Nat) ti), dv, tv, nx, ng + 1, nu + 1, ⟨_ :: r.ag, r.ru ++ [(i : Int)], r.dl, r.rt⟩⟩) rfl rfl rfl rfl rfl hnoI hdI ⟨hav9, ints_push fru, fdl, frt, by show (_ :: r.ag).length ≤ _; rw [List.length_cons]; omega, by show (_ ++ _ : List Int).length ≤ _; rw [List.length_append, List.length_singleton]; omega, (fun y hy => by
          rcases List.mem_cons.mp hy with rfl | hy
          · exact hag
          · exact fok y hy)⟩
        exact ⟨_, _, _, _, rfl, F9, N8, _, rfl, i8, d, od, es2, ⟨rfl, rfl, trivial⟩, rfl, hlo, T8, by omega, by rw [k8]; exact hkeys⟩
  case done =>
    clear F0 N0 hd0 hlo
    rintro m₁ _ h tk ⟨d, od, es, hm, rfl, hlo, T0, hes, hkk⟩ F N
    replace F := frPut _ F hm
    iterate 8 (walk_at "m_step")
    (with_reducible rename Fr _ _ _ _ => F9)
    (with_reducible rename News _ _ _ _ => N9)
    exact ⟨_, _, _, rfl, rfl, F9.keep, d, _, tblOf es, rfl, hlo, ⟨_, .head _⟩, Fresh.of N9, T0.by, (fun p hp => by
      obtain ⟨e, he, rfl⟩ := List.mem_map.mp hp
      have f := T0.fits e he
      have h1 := f.sa
      have h2 := f.sr
      exact ⟨by show e.r.ag.length ≤ 100; omega, by show e.r.ru.length ≤ 100; omega, f.ok⟩), by unfold tblOf; rw [List.length_map]; omega, fun n hn => by
      have e1 : (tblOf es).map (·.1) = es.map (·.k) := by unfold tblOf; rw [List.map_map]; rfl
      rw [e1]
      exact hkk n (by rw [List.take_length]; exact hn)⟩
end
theorem part_off_42 : True := by w_top off; trivial
theorem cps_app (x y : Str) : (x ++ y).cps.toList = x.cps.toList ++ y.cps.toList := by
  show (x.cps ++ y.cps).toList = _
  rw [Array.toList_append]
theorem cps_inj {x y : Str} (h : x.cps.toList = y.cps.toList) : x = y := Str.ext' (Array.toList_inj.mp h)
/-- the pieces of a text joined by c, as lists of codes -/
def gl (c : Nat) : List (List Nat) → List Nat
  | [] => []
  | [p] => p
  | p :: q :: r => p ++ c :: gl c (q :: r)
theorem gl_inj (c : Nat) : ∀ {ps qs : List (List Nat)}, ps ≠ [] → qs ≠ [] → (∀ p ∈ ps, c ∉ p) → (∀ p ∈ qs, c ∉ p) → gl c ps = gl c qs → ps = qs
  | [], _, h, _, _, _, _ => absurd rfl h
  | _ :: _, [], _, h, _, _, _ => absurd rfl h
  | [p], [q], _, _, _, _, h => by rw [show p = q from h]
  | [p], q :: q2 :: r, _, _, hp, _, h => by
    have h : p = q ++ c :: gl c (q2 :: r) := h
    exact absurd (by rw [h]; simp : c ∈ p) (hp p (.head _))
  | p :: p2 :: r, [q], _, _, _, hq, h => by
    have h : p ++ c :: gl c (p2 :: r) = q := h
    exact absurd (by rw [← h]; simp : c ∈ q) (hq q (.head _))
  | p :: p2 :: r, q :: q2 :: r2, _, _, hp, hq, h => by
    have h : p ++ c :: gl c (p2 :: r) = q ++ c :: gl c (q2 :: r2) := h
    have key : ∀ (p q : List Nat) (x y : List Nat), c ∉ p → c ∉ q → p ++ c :: x = q ++ c :: y → p = q ∧ x = y := by
      intro p
      induction p with
      | nil =>
        intro q x y _ hq h
        cases q with
        | nil => exact ⟨rfl, by simpa using h⟩
        | cons b q => simp at h; exact absurd (by rw [h.1]; exact .head _) hq
      | cons a p ih =>
        intro q x y hp hq h
        cases q with
        | nil => simp at h; exact absurd (by rw [← h.1]; exact .head _) hp
        | cons b q =>
          simp only [List.cons_append, List.cons.injEq] at h
          obtain ⟨e1, e2⟩ := ih q x y (fun hm => hp (.tail _ hm)) (fun hm => hq (.tail _ hm)) h.2
          exact ⟨by rw [h.1, e1], e2⟩
    obtain ⟨e1, e2⟩ := key p q _ _ (hp p (.head _)) (hq q (.head _)) h
    have ih := gl_inj c (ps := p2 :: r) (qs := q2 :: r2) (by simp) (by simp) (fun p h => hp p (.tail _ h)) (fun p h => hq p (.tail _ h)) e2
    rw [e1, ih]
theorem slash_cps : slash.cps.toList = [47] := by decide +kernel
theorem join_gl : ∀ ps : List Str, (Str.join slash ps).cps.toList = gl 47 (ps.map fun p => p.cps.toList)
  | [] => by decide +kernel
  | [p] => rfl
  | p :: q :: r => by
    have ih := join_gl (q :: r)
    have e1 : Str.join slash (p :: q :: r) = p ++ slash ++ Str.join slash (q :: r) := rfl
    have e2 : gl 47 ((p :: q :: r).map fun p : Str => p.cps.toList) = p.cps.toList ++ 47 :: gl 47 ((q :: r).map fun p : Str => p.cps.toList) := by
      simp only [List.map_cons, gl]
    rw [e1, e2, cps_app, cps_app, ih, slash_cps, List.append_assoc]; rfl
/-- a text joined of pieces without slashes is split into them again -/
theorem split_join {ps : List Str} (hne : ps ≠ []) (hf : ∀ p ∈ ps, 47 ∉ p.cps.toList) : Txt.split (Str.join slash ps) slash = ps := by
  have e : slash = ⟨#[47]⟩ := Str.ext' (Array.toList_inj.mp (by rw [slash_cps]))
  have h1 : Str.join slash (Txt.split (Str.join slash ps) slash) = Str.join slash ps := StrLaws.join_split _ _
  have h2 : ∀ p ∈ Txt.split (Str.join slash ps) slash, 47 ∉ p.cps.toList := by
    have := StrLaws.split_free (Str.join slash ps) 47
    rw [← e] at this; exact this
  have h3 : Txt.split (Str.join slash ps) slash ≠ [] := fun h => by
    have := split_pos (Str.join slash ps) slash
    rw [h] at this; exact absurd this (by decide)
  have h4 := congrArg (fun x => x.cps.toList) h1
  simp only [join_gl] at h4
  have h5 := gl_inj 47 (by simpa using h3) (by simpa using hne) (by
    intro p hp; obtain ⟨q, hq, rfl⟩ := List.mem_map.mp hp; exact h2 q hq) (by
    intro p hp; obtain ⟨q, hq, rfl⟩ := List.mem_map.mp hp; exact hf q hq) h4
  have inj : ∀ {a b : List Str}, a.map (fun p => p.cps.toList) = b.map (fun p => p.cps.toList) → a = b := by
    intro a
    induction a with
    | nil => intro b h; cases b with
      | nil => rfl
      | cons _ _ => simp at h
    | cons x a ih => intro b h; cases b with
      | nil => simp at h
      | cons y b => simp only [List.map_cons, List.cons.injEq] at h; rw [cps_inj h.1, ih h.2]
  exact inj h5
theorem gl_cons (c : Nat) (p : List Nat) {r : List (List Nat)} (h : r ≠ []) : gl c (p :: r) = p ++ c :: gl c r := by
  cases r with
  | nil => exact absurd rfl h
  | cons q r => simp only [gl]
/-- the piece that holds a slash, cut -/
def ex (ps : List Str) : List Str := ps.flatMap fun p => if p = Str.ofString "b/" then [Str.ofString "b", Str.ofString ""] else [p]
theorem ex_cons (p : Str) (r : List Str) : ex (p :: r) = (if p = Str.ofString "b/" then [Str.ofString "b", Str.ofString ""] else [p]) ++ ex r := by
  unfold ex; rw [List.flatMap_cons]
theorem ex_ne {ps : List Str} (h : ps ≠ []) : ex ps ≠ [] := by
  cases ps with
  | nil => exact absurd rfl h
  | cons p r => rw [ex_cons]; split <;> simp
theorem join_ex : ∀ ps : List Str, Str.join slash (ex ps) = Str.join slash ps := by
  intro ps
  apply cps_inj
  rw [join_gl, join_gl]
  induction ps with
  | nil => rfl
  | cons p r ih =>
    rw [ex_cons]
    by_cases hr : r = []
    · subst hr
      split
      · rename_i h; subst h; decide +kernel
      · rfl
    · have hr' : ((ex r).map fun p : Str => p.cps.toList) ≠ [] := by simpa using ex_ne hr
      have hr2 : (r.map fun p : Str => p.cps.toList) ≠ [] := by simpa using hr
      rw [List.map_cons, gl_cons 47 _ hr2, ← ih]
      split
      · rename_i h
        subst h
        have e1 : (Str.ofString "b").cps.toList = [98] := by decide +kernel
        have e2 : (Str.ofString "").cps.toList = [] := by decide +kernel
        have e3 : (Str.ofString "b/").cps.toList = [98, 47] := by decide +kernel
        rw [List.map_append, List.map_cons, List.map_cons, List.map_nil, e1, e2, e3]
        show gl 47 ([98] :: [] :: (ex r).map _) = _
        rw [gl_cons 47 _ (by simp), gl_cons 47 _ hr']; rfl
      · rw [List.map_append]
        show gl 47 (p.cps.toList :: (ex r).map _) = _
        rw [gl_cons 47 _ hr']
theorem pcs_mem : ∀ (k f : Nat), ∀ p ∈ pcs k f, p ∈ menu
  | 0, _, p, h => nomatch h
  | k + 1, f, p, h => by
    unfold pcs at h
    split at h
    · cases h
    · rcases List.mem_cons.mp h with rfl | h
      · have : ∀ j, j < 6 → menu.getD j Str.empty ∈ menu := by decide +kernel
        exact this _ (Nat.mod_lt _ (by decide))
      · exact pcs_mem k _ p h
theorem menu_cases {p : Str} (h : p ∈ menu) : p = Str.ofString "." ∨ p = Str.ofString "a" ∨ p = Str.ofString "b" ∨ p = Str.ofString ".." ∨ p = Str.ofString "ab" ∨ p = Str.ofString "b/" := by
  simpa [menu] using h
theorem ex_free {ps : List Str} (h : ∀ p ∈ ps, p ∈ menu) : ∀ p ∈ ex ps, 47 ∉ p.cps.toList := by
  intro p hp
  obtain ⟨q, hq, hp⟩ := List.mem_flatMap.mp hp
  rcases menu_cases (h q hq) with rfl | rfl | rfl | rfl | rfl | rfl
  all_goals first | (rw [if_neg (by decide +kernel), List.mem_singleton] at hp; subst hp; decide +kernel) | (rw [if_pos rfl] at hp; simp only [List.mem_cons, List.not_mem_nil, or_false] at hp; rcases hp with rfl | rfl <;> decide +kernel)
theorem nm_skip {ns : List Str} {p : Str} (h1 : p ≠ Str.ofString "..") (h2 : ¬ (p ≠ Str.ofString "" ∧ p ≠ Str.ofString ".")) : nmStep ns p = ns := by unfold nmStep; rw [if_neg h1, if_neg h2]
theorem nm_add {ns : List Str} {p : Str} (h1 : p ≠ Str.ofString "..") (h2 : p ≠ Str.ofString "" ∧ p ≠ Str.ofString ".") : nmStep ns p = ns ++ [p] := by unfold nmStep; rw [if_neg h1, if_pos h2]
theorem nm_up {ns : List Str} : nmStep ns (Str.ofString "..") = ns.dropLast := by unfold nmStep; rw [if_pos rfl]
theorem nm_ex : ∀ (ps ns : List Str), (∀ p ∈ ps, p ∈ menu) → (∀ y ∈ ns, y ∈ wds) → ((ex ps).foldl nmStep ns).length ≤ ns.length + ps.length ∧ ∀ y ∈ (ex ps).foldl nmStep ns, y ∈ wds
  | [], ns, _, hn => ⟨Nat.le_refl _, hn⟩
  | p :: r, ns, hp, hn => by
    have hr := fun q hq => hp q (.tail _ hq)
    have add : ∀ y, y ∈ wds → ∀ z ∈ ns ++ [y], z ∈ wds := fun y hy z hz => by
      rcases List.mem_append.mp hz with h | h
      · exact hn z h
      · rw [List.mem_singleton.mp h]; exact hy
    have go : ∀ ns' : List Str, ns'.length ≤ ns.length + 1 → (∀ y ∈ ns', y ∈ wds) → ((ex r).foldl nmStep ns').length ≤ ns.length + (p :: r).length ∧ ∀ y ∈ (ex r).foldl nmStep ns', y ∈ wds := fun ns' h1 h2 => by
      have ih := nm_ex r ns' hr h2
      exact ⟨by rw [List.length_cons]; omega, ih.2⟩
    have l1 : ∀ y : Str, (ns ++ [y]).length ≤ ns.length + 1 := fun y => by simp
    rw [ex_cons, List.foldl_append]
    rcases menu_cases (hp p (.head _)) with rfl | rfl | rfl | rfl | rfl | rfl
    · rw [if_neg (by decide +kernel)]
      rw [List.foldl_cons, List.foldl_nil]
      rw [nm_skip (by decide +kernel) (by decide +kernel)]; exact go ns (by omega) hn
    · rw [if_neg (by decide +kernel)]
      rw [List.foldl_cons, List.foldl_nil]
      rw [nm_add (by decide +kernel) (by decide +kernel)]; exact go _ (l1 _) (add _ (by decide +kernel))
    · rw [if_neg (by decide +kernel)]
      rw [List.foldl_cons, List.foldl_nil]
      rw [nm_add (by decide +kernel) (by decide +kernel)]; exact go _ (l1 _) (add _ (by decide +kernel))
    · rw [if_neg (by decide +kernel)]
      rw [List.foldl_cons, List.foldl_nil]
      rw [nm_up]; exact go _ (by rw [List.length_dropLast]; omega) (fun y hy => hn y (List.dropLast_subset _ hy))
    · rw [if_neg (by decide +kernel)]
      rw [List.foldl_cons, List.foldl_nil]
      rw [nm_add (by decide +kernel) (by decide +kernel)]; exact go _ (l1 _) (add _ (by decide +kernel))
    · rw [if_pos rfl]
      rw [List.foldl_cons, List.foldl_cons, List.foldl_nil]
      rw [nm_add (p := Str.ofString "b") (by decide +kernel) (by decide +kernel), nm_skip (p := Str.ofString "") (by decide +kernel) (by decide +kernel)]; exact go _ (l1 _) (add _ (by decide +kernel))
theorem spelled_eq (f : Nat) : spelled f = Str.join slash (pcs 4 f) := StrLaws.glued_eq_join _ _
theorem spelled_ok (f : Nat) : Ok (lawNames (spelled f)) := by
  unfold lawNames
  rw [spelled_eq]
  by_cases h : pcs 4 f = []
  · rw [h]
    have e : (Txt.split (Str.join slash []) slash).foldl nmStep [] = [] := by decide +kernel
    rw [e]; exact ⟨Nat.zero_le _, fun _ h => nomatch h⟩
  · rw [← join_ex, split_join (ex_ne h) (ex_free (pcs_mem 4 f))]
    have := nm_ex (pcs 4 f) [] (pcs_mem 4 f) (fun _ h => nomatch h)
    have h2 := (pcs_small 4 f).2
    exact ⟨by have := this.1; simp only [List.length_nil] at this; omega, this.2⟩
theorem spelled_len (f : Nat) : (spelled f).length ≤ 20 := by
  have h := StrLaws.join_length_le slash (pcs 4 f)
  have h1 := pcs_small 4 f
  rw [slash_len] at h
  rw [spelled_eq]; omega
theorem spelled_head (f : Nat) : ∀ a r, (spelled f).cps.toList = a :: r → a ≠ 47 := by
  intro a r h
  rw [spelled_eq, join_gl] at h
  have hm := pcs_mem 4 f
  cases hp : pcs 4 f with
  | nil => rw [hp] at h; cases h
  | cons p ps =>
    rw [hp] at h hm
    have hc : ∀ p ∈ menu, (p.cps.toList.head?.getD 47 != 47) = true := by decide +kernel
    have h3 := hc p (hm p (.head _))
    cases hq : p.cps.toList with
    | nil => rw [hq] at h3; cases h3
    | cons b q =>
      rw [hq] at h3
      have h4 : a = b := by
        rw [List.map_cons] at h
        by_cases hr : ps = []
        · subst hr
          have h : p.cps.toList = a :: r := h
          rw [hq] at h; exact (List.cons.inj h).1.symm
        · rw [gl_cons 47 _ (by simpa using hr), hq] at h
          exact (List.cons.inj h).1.symm
      rw [h4]; simpa using h3
theorem sp_facts : ∀ f < 1296, (spelled f).length ≤ 1000 ∧ Txt.startswith (spelled f) slash = false ∧ (slash ++ spelled f).length ≤ 1000 ∧ ((slash ++ spelled f).length : Int) ≠ 0 ∧ Txt.slice (slash ++ spelled f) none (some 1) = slash ∧ Txt.slice (slash ++ spelled f) (some 1) (some 2) ≠ slash ∧ Txt.slice (slash ++ spelled f) (some 1) none = spelled f := by
  intro f _
  have hl := spelled_len f
  have hh := spelled_head f
  generalize spelled f = y at hl hh
  have hx : (slash ++ y).length = y.length + 1 := by rw [Str.length_append, slash_len]; omega
  have hc : (slash ++ y).cps.toList = 47 :: y.cps.toList := by rw [cps_app, slash_cps]; rfl
  have hs : slash = ⟨[47].toArray⟩ := cps_inj slash_cps
  have hyl : y.cps.toList.length = y.length := Array.length_toList
  refine ⟨by omega, ?_, by omega, by omega, ?_, ?_, ?_⟩
  · cases hq : Txt.startswith y slash with
    | false => rfl
    | true =>
      exfalso
      unfold Txt.startswith at hq
      rw [Bool.and_eq_true, decide_eq_true_eq, slash_len] at hq
      obtain ⟨h1, h2⟩ := hq
      unfold Builtin.Str.subAt at h2
      rw [slash_len] at h2
      have h2 := congrArg Array.toList (eq_of_beq h2)
      rw [slash_cps] at h2
      cases hy : y.cps.toList with
      | nil => rw [hy] at hyl; simp at hyl; omega
      | cons a r =>
        have : (y.cps.extract 0 (0 + 1)).toList = [a] := by
          rw [Array.toList_extract, hy]; rfl
        rw [this] at h2
        exact hh a r hy (List.cons.inj h2).1
  · refine (eq_of_beq (slice_closes_toL (by decide) (by rw [hx]; omega))).trans ?_
    rw [hc, hs]; rfl
  · cases hy : y.cps.toList with
    | nil =>
      have e : slash ++ y = slash := cps_inj (by rw [hc, hy, slash_cps])
      rw [e]; decide +kernel
    | cons a r =>
      have h1 : 1 ≤ y.length := by rw [← hyl, hy]; simp
      rw [eq_of_beq (slice_closesL (x := slash ++ y) (i := 1) (j := 2) (by decide) (by decide) (by rw [hx]; omega)), hc, hy]
      intro h
      have h := congrArg (fun x => x.cps.toList) h
      rw [slash_cps] at h
      have h : [a] = [47] := h
      exact hh a r hy (List.cons.inj h).1
  · refine (eq_of_beq (slice_closes_fromL (b := ((slash ++ y).length : Int)) (by decide) (by rw [hx]; omega) rfl)).trans ?_
    apply cps_inj
    rw [hc, hx]
    show (y.cps.toList.take (((y.length + 1 : Nat) : Int) - 1).toNat) = _
    have : (((y.length + 1 : Nat) : Int) - 1).toNat = y.cps.toList.length := by rw [hyl]; omega
    rw [this, List.take_length]
theorem sp_all : ∀ f < 1296, Ok (lawNames (spelled f)) ∧ (spelled f).length ≤ 1000 := fun f _ => ⟨spelled_ok f, Nat.le_trans (spelled_len f) (by decide)⟩
theorem part_off_43 : True := by w_top off; trivial
theorem ints_src {vs : List Value} {ns : List Int} (h : IntsAre vs ns) : ∀ {i : Nat} {v : Value}, vs.toArray[i]? = some v → ∃ a, ns[i]? = some a ∧ ∃ t, v = .int a t := by
  induction h with
  | nil => intro i v e; simp at e
  | cons k t _ ih =>
    intro i v e
    cases i with
    | zero => simp at e; exact ⟨k, rfl, t, e.symm⟩
    | succ i =>
      have := @ih i v (by simpa using e)
      simpa using this
theorem abs_mod (a : Int) : (if a < 0 then -a else a).fmod 23328 = ((a.natAbs % 23328 : Nat) : Int) := by
  have e : (if a < 0 then -a else a) = ((a.natAbs : Nat) : Int) := by split <;> omega
  rw [e, Int.fmod_eq_emod_of_nonneg _ (by decide)]
  norm_cast
def draws (ns : List Int) : List Nat := (ns.take 5).map fun i => i.natAbs % 23328
theorem abs_ints {ns : List Int} {ys : List Value} (h : All2 (fun (i : Int) v => ∃ t, v = .int ((i.natAbs % 23328 : Nat) : Int) t) (ns.take 5) ys) : IntsAre ys ((draws ns).map fun n : Nat => (n : Int)) := by
  unfold draws
  generalize ns.take 5 = l at h
  induction h with
  | nil => exact .nil
  | cons k _ ih => obtain ⟨t, rfl⟩ := k; exact .cons _ _ ih
theorem draws_len {ns : List Int} (vs : List Value) (h : IntsAre vs ((draws ns).map fun n : Nat => (n : Int))) : ((draws ns).map fun n : Nat => (n : Int)).length ≤ 5 := by
  unfold draws; rw [List.length_map, List.length_map, List.length_take]; omega
theorem draws_ok {ns : List Int} {vs : List Value} (_h : IntsAre vs ((([238, 0, 19, 75] : List Nat) ++ draws ns).map fun n : Nat => (n : Int))) : (([238, 0, 19, 75] : List Nat) ++ draws ns).length ≤ 9 ∧ ∀ n ∈ ([238, 0, 19, 75] : List Nat) ++ draws ns, n < 23328 := by
  refine ⟨?_, fun n hn => ?_⟩
  · rw [List.length_append]; unfold draws; rw [List.length_map, List.length_take]; simp only [List.length_cons, List.length_nil]; omega
  · rcases List.mem_append.mp hn with h | h
    · simp only [List.mem_cons, List.not_mem_nil, or_false] at h; omega
    · obtain ⟨i, _, rfl⟩ := List.mem_map.mp h
      exact Nat.mod_lt _ (by decide)
theorem places_strs {nums : List Nat} {ys : List Value} (h : All2 (fun n v => ∃ t, v = .str (plc (drawn n)) t) nums ys) : StrsAre ys (nums.map fun n => plc (drawn n)) := by
  induction h with
  | nil => exact .nil
  | cons k _ ih => obtain ⟨t, rfl⟩ := k; exact .cons _ _ ih
def look (tbl : List (Str × RowD)) (ns : List Str) : RowD := ((tbl.find? fun p => p.1 == plc ns).map (·.2)).getD row0
theorem look_mem {tbl : List (Str × RowD)} {ns : List Str} (h : plc ns ∈ tbl.map (·.1)) : (plc ns, look tbl ns) ∈ tbl := by
  unfold look
  cases hf : tbl.find? fun p => p.1 == plc ns with
  | none =>
    obtain ⟨p, hp, e⟩ := List.mem_map.mp h
    have := List.find?_eq_none.mp hf p hp
    simp [e] at this
  | some p =>
    have h1 := List.mem_of_find?_eq_some hf
    have h2 := List.find?_some hf
    have h2 : p.1 = plc ns := by simpa using h2
    show (plc ns, p.2) ∈ tbl
    rw [← h2]; exact h1
theorem downR_sub (f : List Str → RowD) (ns : List Str) : ∀ i, i ≤ ns.length → ∀ y ∈ (downR f (ns.take i)).ag, y ∈ (f []).ag
  | 0, _, y, hy => by rwa [downR_zero] at hy
  | i + 1, hi, y, hy => by
    rw [downR_succ f (by omega)] at hy
    exact downR_sub f ns i (by omega) y (List.mem_filter.mp hy).1
theorem downR_ok {f : List Str → RowD} {ns : List Str} (h : StrsOk (f []).ag) : StrsOk (downR f ns).ag := fun y hy => h y (downR_sub f ns ns.length (Nat.le_refl _) y (by rwa [List.take_length]))
theorem use_told {prog : Program} {w : World} {mean mg mb} {A : Around} {E : Value → Shared → Prop} {s : Shared} {h₀ : Heap} {L x : Addr} {m : Str → Option Value} {news : List (Addr × Obj)} {r : RowD} {Q : Value → Shared → Prop}
    (F : Fr h₀ L s.heap m) (N : News h₀ L s.heap news) (hr : IsRec w.params s.heap x r) (c : Cx w mean mg mb s.heap) (hA : Rm A (0+1))
    (k : ∀ a h' tk, Fr h₀ L h' m → News h₀ L h' news → (∀ b o, s.heap.get? b = some o → h'.get? b = some o) → IsRow h' a r → Q (.ref a) { s with heap := h', toks := tk }) :
    wpAny (model prog w) A (call (.ref 232) [.ref x]) Q E s := by
  obtain ⟨dx, t1, t2, t3, t4, n, _, _, dv, rv, e1, e2, g, u, rfl, rfl, p1, p2, p3, p4⟩ := hr
  refine use_ret F N (c_told e1 e2 (optHanded p3) (optHanded p4) c hA) fun v h1 tk1 F1 N1 kp1 hv => ?_
  obtain ⟨a, rfl, _, ha⟩ := hv
  exact k a h1 tk1 F1 N1 kp1 ⟨_, _, _, _, _, ha, g, u, rfl, rfl, p1.keeps kp1, p2.keeps kp1, p3, p4⟩
/-- an item of the places -/
theorem place_item {prog : Program} {w : World} {A : Around} {E : Value → Shared → Prop} {s : Shared} {value slice : PySem.Expr} {p : Addr} {i : Nat} {u : Tok} {vs : List Value} {nums : List Nat} {g : Nat → Str} {Q : Value → Shared → Prop}
    (hl : s.heap.get? p = some (LCg.lst vs)) (hs : StrsAre vs (nums.map g)) (hi : i < nums.length) (hb : nums.length ≤ 9) (h : ∀ t, Q (.str (g nums[i]) t) s)
    (he : subscripted slice false (.ref p) (.int (i : Int) u) = operate [.ref p, .int (i : Int) u] (getItem (.ref p) (.int (i : Int) u)) := by with_unfolding_all rfl) :
    wpAny (model prog w) A (subscriptTail value slice (.ref p) (.int (i : Int) u)) Q E s :=
  item_strs_nat (vs := vs.toArray) hl hs (by rw [List.length_map]; exact hi) (by omega) (fun t => by rw [List.getElem_map]; exact h t) he
theorem place_prev {prog : Program} {w : World} {A : Around} {E : Value → Shared → Prop} {s : Shared} {value slice : PySem.Expr} {p : Addr} {i : Nat} {u : Tok} {vs : List Value} {nums : List Nat} {g : Nat → Str} {Q : Value → Shared → Prop}
    (hl : s.heap.get? p = some (LCg.lst vs)) (hs : StrsAre vs (nums.map g)) (hi : i < nums.length) (hb : nums.length ≤ 9) (h : ∀ n ∈ nums, ∀ t, Q (.str (g n) t) s)
    (he : ∀ k, subscripted slice false (.ref p) (.int k u) = operate [.ref p, .int k u] (getItem (.ref p) (.int k u)) := by intro k; with_unfolding_all rfl) :
    wpAny (model prog w) A (subscriptTail value slice (.ref p) (.int ((i : Int) - 1) u)) Q E s := by
  have hlen := hs.length
  rw [List.length_map] at hlen
  cases i with
  | zero =>
    have hne : nums ≠ [] := fun e => by rw [e] at hi; exact absurd hi (Nat.not_lt_zero _)
    obtain ⟨v, hv⟩ : ∃ v, vs.getLast? = some v := by
      cases hq : vs.getLast? with
      | some v => exact ⟨v, rfl⟩
      | none => rw [List.getLast?_eq_none_iff] at hq; rw [hq] at hlen; exact absurd hlen.symm (Nat.ne_of_gt hi)
    obtain ⟨y, t, rfl, hy⟩ := strs_last hs hv
    rw [List.getLast?_map] at hy
    obtain ⟨n, hn, rfl⟩ := Option.map_eq_some_iff.mp hy
    have e0 : ((0 : Nat) : Int) - 1 = -1 := rfl
    rw [e0]
    exact item_last (vs := vs.toArray) ⟨_, hl, rfl, _, rfl⟩ (by simpa using hv) (h n (List.mem_of_getLast? hn) t) (he _)
  | succ j =>
    have e : ((j + 1 : Nat) : Int) - 1 = (j : Int) := by omega
    rw [e]
    exact place_item hl hs (by omega) hb (fun t => h _ (List.getElem_mem _) t) (he _)
section
local macro_rules | `(tactic| walk_at "binaryOp Add ref ref") => `(tactic| walk_at "m_st")
local macro_rules | `(tactic| walk_at "compareOp NotIn str ref") => `(tactic| walk_at "m_st")
local macro_rules | `(tactic| walk_at "compareOp NotEq ref ref") => `(tactic| walk_at "m_st")
local macro_rules | `(tactic| walk_at "subscriptTail Name Name ref int") => `(tactic| walk_at "m_st")
local macro_rules | `(tactic| walk_at "subscriptTail Name BinOp ref int") => `(tactic| walk_at "m_st")
local macro_rules | `(tactic| walk_at "subscriptTail Name Name ref str") => `(tactic| walk_at "m_st")
local macro_rules | `(tactic| walk_at "call builtin:len") => `(tactic| walk_at "m_st")
local macro_rules | `(tactic| walk_at "pyIter ref") => `(tactic| walk_at "m_st")
local macro_rules | `(tactic| walk_at "call ref") => `(tactic| walk_at "m_st")
local macro_rules | `(tactic| walk_at "eval ListComp") => `(tactic| walk_at "m_st")
def LawJ (Dp dt dr : Addr) (ysp : List Value) (led : List (Addr × Obj)) : Nat → (Str → Option Value) → List (Addr × Obj) → Prop := fun _ m news => Has m [(Str.ofString "places", .ref Dp), (Str.ofString "table", .ref dt), (Str.ofString "records", .ref dr)] ∧ news = (Dp, LCg.lst ysp) :: led
def LawK (Dp dt dr : Addr) (ysp : List Value) (led : List (Addr × Obj)) : Nat → (Str → Option Value) → List (Addr × Obj) → Prop := fun _ m news => Has m [(Str.ofString "table", .ref dt), (Str.ofString "records", .ref dr)] ∧ news = (Dp, LCg.lst ysp) :: led
theorem c_law {prog : Program} {w : World} {mean mg mb} {A : Around} {s : Shared} {l : Addr} {vs : List Value} {ns : List Int} (hL : s.heap.IsList l vs.toArray) (hI : IntsAre vs ns) (hn63 : ns.length ≤ 63) (c : Cx w mean mg mb s.heap) (hA : Rm A (18+1)) :
    codeAny (model prog w) A (.call (.ref 263) ⟨[.ref l], []⟩) (Ret s fun v _ => v = .bool true) s := by
  refine' enter_plain (binds := [(Str.ofString "script", .ref l)]) ?cc ?hA ?ho ?hcd ?hb ?hl ?_ ?c2 ?c3 ?c4 ?c5
  walk_at "m_enter"
  intro L h₁ dp fr gd un F N X T R
  iterate 18 (walk_at "m_step")
  refine unstop (ListComp_S (by k_asm) (by with_unfolding_all rfl) (by decide) (by rfl) (by decide) (by rfl) ?_)
  iterate 8 (walk_at "m_step")
  rename IntsAre _ (List.take 5 _) => h5
  rename (List.take 5 _).length = _ => h5l
  refine CSrc.lst rfl (by k_asm) (by k_asm) (Or.inr ⟨_, by k_mem, rfl, _, rfl⟩) (by rw [List.size_toArray, h5.length, sizeLine_eq]; omega) ?_
  intro g1
  refine turns (List.take 5 _) (fun i v => ∃ t, v = .int i t) (fun i v => ∃ t, v = .int ((i.natAbs % 23328 : Nat) : Int) t) (by rw [List.size_toArray, h5.length]) (Or.inr ⟨_, by k_mem, rfl, _, rfl⟩) (fun i v hv => ints_src h5 hv)
    (fun a v I oI C oC D ys m₂ h tk E' hmem hv hC hx F N off => ?turn1) fun ysn hysn => ?fin1
  case turn1 =>
    obtain ⟨ta, rfl⟩ := hv
    iterate 10 (walk_at "m_step")
    exact ⟨⟨_, congrArg (fun i => Value.int i _) (abs_mod a)⟩, _, _, rfl, by k_asm, by k_asm⟩
  case fin1 =>
    have hin := abs_ints hysn
    clear hysn
    unfold LCg.FinE
    intro Dn hn tkn F N offn
    iterate 2 (walk_at "m_step")
    (with_reducible rename Fr _ _ _ _ => F1)
    (with_reducible rename News _ _ _ _ => N1)
    refine unstop (add_lists_ints (vs := [_, _, _, _]) (ws := ysn) (ns := [238, 0, 19, 75]) F1 N1 (by exact News.isList (by k_asm) (by k_mem)) (by exact News.isList (by k_asm) (by k_mem)) (.cons _ _ (.cons _ _ (.cons _ _ (.cons _ _ .nil)))) hin (fun h2 F2 N2 hnums => ?_) (by have := hin.length; have := draws_len _ hin; rw [sizeLine_eq]; simp only [List.length_cons, List.length_nil]; omega))
    obtain ⟨nvl, N3, hnums⟩ : ∃ nvl : List Value, News _ _ h2 [(hn.objs.size, ({ cls := .type "list", data := .seq nvl.toArray } : Obj))] ∧ IntsAre nvl ((([238, 0, 19, 75] : List Nat) ++ draws _).map fun n : Nat => (n : Int)) := ⟨_, nhd N2, by rw [List.map_append]; exact hnums⟩
    clear F1 N1 N2 hin
    obtain ⟨hz9, hb9⟩ := draws_ok hnums
    generalize [238, 0, 19, 75] ++ draws _ = nums at hnums hz9 hb9
    iterate 11 (walk_at "m_step")
    (with_reducible rename Fr _ _ _ _ => F1)
    (with_reducible rename News _ _ _ _ => N1)
    refine unstop (use_ret F1 N1 (c_table (nums := nums) (N1.get (.head _)) hnums hz9 hb9 sp_all (Cx.fr X T F1) (Rm.le R (by decide))) fun v h3 tk3 F3 N3 kp3 hv => ?_)
    obtain ⟨dt, ownT, tbl, rfl, hdt, hod, hfT, TT, hgood, htl, hkey⟩ := hv
    replace N3 := nadds F1 N3 hfT
    clear F1 N1 kp3 hfT
    have hz : ∀ p ∈ tbl, p.2.ag.length ≤ 100 ∧ p.2.ru.length ≤ 100 := fun p hp => ⟨(hgood p hp).1, (hgood p hp).2.1⟩
    iterate 12 (walk_at "m_step")
    (with_reducible rename Fr _ _ _ _ => F1)
    (with_reducible rename News _ _ _ _ => N1)
    refine unstop (use_ret F1 N1 (c_records TT (fun p hp => (N1 p (List.mem_append_left _ hp)).1) hz htl hdt (Cx.fr X T F1) (Rm.le R (by decide))) fun v h4 tk4 F4 N4 kp4 hv => ?_)
    obtain ⟨dr, ownR, rfl, hdr, hfR, TR⟩ := hv
    replace N4 := nadds F1 N4 hfR
    clear F1 N1 kp4 hfR
    obtain ⟨led, hled, N5⟩ := led_of N4
    have mn : (hn.objs.size, ({ cls := .type "list", data := .seq nvl.toArray } : Obj)) ∈ led := by rw [hled]; exact List.mem_append_right _ (List.mem_append_right _ (.head _))
    have mT : ∀ p ∈ ownT, p ∈ led := fun p hp => by rw [hled]; exact List.mem_append_right _ (List.mem_append_left _ hp)
    have mR : ∀ p ∈ ownR, p ∈ led := fun p hp => by rw [hled]; exact List.mem_append_left _ hp
    clear N4 hled
    iterate 3 (walk_at "m_step")
    refine Assign_ListComp_S (by k_asm) (by rfl) (by with_unfolding_all rfl) (by with_unfolding_all rfl) (by decide) (by rfl) (by decide) (by rfl) (by rfl) (by rfl) ?_
    iterate 1 (walk_at "m_step")
    (with_reducible rename Fr _ _ _ _ => F1)
    (with_reducible rename News _ _ _ _ => N1)
    refine CSrc.lst rfl F1 N1 (Or.inr ⟨_, mn, rfl, _, rfl⟩) (by rw [List.size_toArray, hnums.length, List.length_map, sizeLine_eq]; omega) ?_
    intro g2
    refine turns nums (fun n v => ∃ t, v = .int ((n : Nat) : Int) t) (fun n v => ∃ t, v = .str (plc (drawn n)) t) (by rw [List.size_toArray, hnums.length, List.length_map]) (Or.inr ⟨_, mn, rfl, _, rfl⟩) (fun i v hv => ?src2)
      (fun n v I oI C oC D ys m₂ h tk E' hmem hv hC hx F N off => ?turn2) fun ysp hysp => ?fin2
    case src2 =>
      obtain ⟨a, ha, t, rfl⟩ := ints_src hnums hv
      rw [List.getElem?_map] at ha
      obtain ⟨n, hn1, rfl⟩ := Option.map_eq_some_iff.mp ha
      exact ⟨n, hn1, t, rfl⟩
    case turn2 =>
      obtain ⟨tn, rfl⟩ := hv
      have hnlt := hb9 n hmem
      have e18 : ((n : Nat) : Int).fdiv 18 = ((n / 18 : Nat) : Int) := by rw [Int.fdiv_eq_ediv_of_nonneg _ (by decide)]; norm_cast
      obtain ⟨p1, p2, p3, p4, p5, p6, p7⟩ := sp_facts (n / 18) (by omega)
      iterate 22 (walk_at "m_step")
      rw [e18]
      (with_reducible rename Fr _ _ _ _ => F1)
      (with_reducible rename News _ _ _ _ => N1)
      refine unstop (use_ret F1 N1 (c_spelled (by omega) (Cx.fr X T F1) (Rm.le R (by decide))) fun v h5 tk5 F5 N5 kp5 hv => ?_)
      obtain ⟨t5, rfl⟩ := hv
      clear F1 N1 kp5
      iterate 3 (walk_at "m_step")
      (with_reducible rename Fr _ _ _ _ => F1)
      (with_reducible rename News _ _ _ _ => N1)
      refine unstop (use_ret F1 N1 (c_join p1 p2 (Cx.fr X T F1) (Rm.le R (by decide))) fun v h5 tk5 F5 N5 kp5 hv => ?_)
      obtain ⟨t6, rfl⟩ := hv
      clear F1 N1 kp5
      iterate 3 (walk_at "m_step")
      (with_reducible rename Fr _ _ _ _ => F1)
      (with_reducible rename News _ _ _ _ => N1)
      refine unstop (use_ret F1 N1 (c_normpath p3 p4 p5 p6 (Cx.fr X T F1) (Rm.le R (by decide))) fun v h5 tk5 F5 N5 kp5 hv => ?_)
      obtain ⟨t7, rfl⟩ := hv
      exact ⟨⟨t7, by rw [p7]; rfl⟩, _, _, rfl, F5, N5⟩
    case fin2 =>
      have hpl := places_strs hysp
      clear hysp
      unfold LCg.FinA
      intro Dp hp tkp F N offp
      iterate 6 (walk_at "m_step")
      (with_reducible rename Fr _ _ _ _ => F1)
      (with_reducible rename News _ _ _ _ => N1)
      have supT : ∀ {h : Heap} {nw : List (Addr × Obj)}, News s.heap L h nw → (∀ p ∈ led, p ∈ nw) → Sup h ownT := fun N sub p hp => (N p (sub p (mT p hp))).1
      have supR : ∀ {h : Heap} {nw : List (Addr × Obj)}, News s.heap L h nw → (∀ p ∈ led, p ∈ nw) → Sup h ownR := fun N sub p hp => (N p (sub p (mR p hp))).1
      have hpn : ysp.length = nums.length := by rw [hpl.length, List.length_map]
      have mp : (Dp, LCg.lst ysp) ∈ (Dp, LCg.lst ysp) :: led := .head _
      refine unstop (my_for_list (vs := ysp.toArray) (fun _ => LawJ Dp dt dr ysp led) rfl ⟨_, N1.get mp, rfl, _, rfl⟩ (N1 _ mp).2.1 F1 N1 ⟨⟨rfl, rfl, rfl, trivial⟩, rfl⟩ rfl rfl ?turnA ?doneA)
      case turnA =>
        clear F1 N1
        rintro I oI i v m₁ _ h tk own hv ⟨hm, rfl⟩ F N hown hIo hI hlo hlI
        obtain ⟨y, ty, rfl, hy⟩ := hpl.item i v (by simpa using hv)
        rw [List.getElem?_map] at hy
        obtain ⟨n, hn1, rfl⟩ := Option.map_eq_some_iff.mp hy
        have hk := hkey n (List.mem_of_getElem? hn1) _ (Nat.le_refl _)
        rw [List.take_length] at hk
        replace F := frPut [(Str.ofString "place", .str (plc (drawn n)) ty), (Str.ofString "places", .ref Dp), (Str.ofString "table", .ref dt), (Str.ofString "records", .ref dr)] F ⟨rfl, hm⟩
        iterate 6 (walk_at "m_step")
        refine unstop (tab_notin TT (supT N fun p hp => List.mem_append_left _ (.tail _ hp)) hdt hk ?_)
        iterate 6 (walk_at "m_step")
        exact ⟨_, _, _, _, rfl, F, N, _, rfl, hI, ⟨rfl, rfl, rfl, trivial⟩, rfl⟩
      case doneA =>
        clear F1 N1
        rintro m₁ _ h tk ⟨hm, rfl⟩ F N
        replace F := frPut _ F hm
        iterate 14 (walk_at "m_step")
        refine unstop (len_list (items := ysp.toArray) ⟨_, N.get mp, rfl, _, rfl⟩ (by rw [List.size_toArray, hpn]; omega) ?_)
        iterate 4 (walk_at "m_step")
        (with_reducible rename Fr _ _ _ _ => F1)
        (with_reducible rename News _ _ _ _ => N1)
        rename IsRange _ _ _ _ _ _ _ _ => hrg
        refine unstop (my_for_range (n := nums.length) (LawJ Dp dt dr ysp led) rfl hrg (by rw [hpn]) (by omega) F1 N1 ⟨⟨rfl, rfl, rfl, trivial⟩, rfl⟩ rfl rfl ?turnB ?doneB)
        case turnB =>
          clear F1 N1 hrg
          rintro I oI i ti m₁ _ h tk own hilt ⟨hm, rfl⟩ F N hown hIo hI hlow
          replace F := frPut [(Str.ofString "k", .int (i : Nat) ti), (Str.ofString "places", .ref Dp), (Str.ofString "table", .ref dt), (Str.ofString "records", .ref dr)] F ⟨rfl, hm⟩
          iterate 12 (walk_at "m_step")
          refine unstop (place_item (N.get (List.mem_append_left _ mp)) hpl hilt hz9 fun t1 => ?_)
          have hmn := List.getElem_mem hilt
          generalize hgn : nums[i] = n at hmn ⊢
          have hok : Ok (drawn n) := (sp_all (n / 18) (by have := hb9 n hmn; omega)).1
          have ht : ∀ j ≤ (drawn n).length, (plc ((drawn n).take j), look tbl ((drawn n).take j)) ∈ tbl := fun j hj => look_mem (hkey n hmn j hj)
          have hso : StrsOk (downR (look tbl) (drawn n)).ag := downR_ok (by have := (hgood _ (ht 0 (Nat.zero_le _))).2.2; rwa [List.take_zero] at this)
          have hin0 : ∀ p ∈ led, p ∈ (Dp, LCg.lst ysp) :: led ++ own := fun p hp => List.mem_append_left _ (.tail _ hp)
          iterate 3 (walk_at "m_step")
          (with_reducible rename Fr _ _ _ _ => F1)
          (with_reducible rename News _ _ _ _ => N1)
          refine unstop (use_ret F1 N1 (c_due TT (supT N1 hin0) hok ht hz (Cx.fr X T F1) (Rm.le R (by decide))) fun v h3 tk3 F3 N3 kp3 hv => ?_)
          obtain ⟨x1, own1, rfl, hf1, hr1⟩ := hv
          replace N3 := nadds F1 N3 hf1
          clear F1 N1 kp3 hf1
          have hin1 : ∀ p ∈ led, p ∈ own1 ++ ((Dp, LCg.lst ysp) :: led ++ own) := fun p hp => List.mem_append_right _ (hin0 p hp)
          have mp1 : (Dp, LCg.lst ysp) ∈ own1 ++ ((Dp, LCg.lst ysp) :: led ++ own) := List.mem_append_right _ (List.mem_append_left _ mp)
          iterate 20 (walk_at "m_step")
          refine unstop (place_item (News.get (by k_asm) mp1) hpl hilt hz9 fun t2 => ?_)
          rw [hgn]
          iterate 3 (walk_at "m_step")
          (with_reducible rename Fr _ _ _ _ => F1)
          (with_reducible rename News _ _ _ _ => N1)
          refine unstop (use_ret F1 N1 (c_down TR (supR N1 hin1) hok ht hz (Cx.fr X T F1) (Rm.le R (by decide))) fun v h4 tk4 F4 N4 kp4 hv => ?_)
          obtain ⟨x2, own2, rfl, hf2, hr2⟩ := hv
          replace N4 := nadds F1 N4 hf2
          clear F1 N1 kp4 hf2
          have hin2 : ∀ p ∈ led, p ∈ own2 ++ (own1 ++ ((Dp, LCg.lst ysp) :: led ++ own)) := fun p hp => List.mem_append_right _ (hin1 p hp)
          have hrec2 := hr2 _ (Sup.both (fun p hp => (N4 p (List.mem_append_left _ hp)).1) (supR N4 hin2))
          iterate 3 (walk_at "m_step")
          (with_reducible rename Fr _ _ _ _ => F1)
          (with_reducible rename News _ _ _ _ => N1)
          refine unstop (use_told F1 N1 hrec2 (Cx.fr X T F1) (Rm.le R (by decide)) fun a2 h5 tk5 F5 N5 kp5 hrow2 => ?_)
          clear F1 N1 kp5 hrec2 hr2
          have hrow1 := hr1 _ (Sup.both (fun p hp => (N5 p (List.mem_append_right _ (List.mem_append_left _ hp))).1) (supT N5 hin2))
          replace N5 : News s.heap L h5 (own1 ++ ((Dp, LCg.lst ysp) :: led ++ own)) := fun p hp => N5 p (List.mem_append_right _ hp)
          iterate 4 (walk_at "m_step")
          refine unstop (ne_rows hrow2 hrow1 hso (Rm.cl R) ?_)
          clear hrow1 hrow2 hin2
          iterate 28 (walk_at "m_step")
          refine unstop (place_item (News.get (by k_asm) mp1) hpl hilt hz9 fun t3 => ?_)
          rw [hgn]
          iterate 9 (walk_at "m_step")
          refine unstop (place_prev (News.get (by k_asm) mp1) hpl hilt hz9 fun n2 hn2 t4 => ?_)
          have hok2 : Ok (drawn n2) := (sp_all (n2 / 18) (by have := hb9 n2 hn2; omega)).1
          iterate 3 (walk_at "m_step")
          (with_reducible rename Fr _ _ _ _ => F1)
          (with_reducible rename News _ _ _ _ => N1)
          refine unstop (use_ret F1 N1 (c_met TR (supR N1 hin1) hok hok2 ht hz (Cx.fr X T F1) (Rm.le R (by decide))) fun v h6 tk6 F6 N6 kp6 hv => ?_)
          obtain ⟨x3, own3, rfl, hf3, hr3⟩ := hv
          rw [metR_down _ _ (lcp_len _ _)] at hr3
          replace N6 := nadds F1 N6 hf3
          clear F1 N1 kp6 hf3
          have hin3 : ∀ p ∈ led, p ∈ own3 ++ (own1 ++ ((Dp, LCg.lst ysp) :: led ++ own)) := fun p hp => List.mem_append_right _ (hin1 p hp)
          have hrec3 := hr3 _ (Sup.both (fun p hp => (N6 p (List.mem_append_left _ hp)).1) (supR N6 hin3))
          iterate 3 (walk_at "m_step")
          (with_reducible rename Fr _ _ _ _ => F1)
          (with_reducible rename News _ _ _ _ => N1)
          refine unstop (use_told F1 N1 hrec3 (Cx.fr X T F1) (Rm.le R (by decide)) fun a3 h7 tk7 F7 N7 kp7 hrow3 => ?_)
          clear F1 N1 kp7 hrec3 hr3
          have hrow1 := hr1 _ (Sup.both (fun p hp => (N7 p (List.mem_append_right _ (List.mem_append_left _ hp))).1) (supT N7 hin3))
          iterate 4 (walk_at "m_step")
          refine unstop (ne_rows hrow3 hrow1 hso (Rm.cl R) ?_)
          iterate 6 (walk_at "m_step")
          exact ⟨_, _, _, _, rfl, F7, (fun p hp => N7 p (List.mem_append_right _ (List.mem_append_right _ hp))), _, rfl, hI, ⟨rfl, rfl, rfl, trivial⟩, rfl⟩
        case doneB =>
          clear F1 N1 hrg
          rintro m₁ _ h tk ⟨hm, rfl⟩ F N
          replace F := frPut _ F hm
          iterate 6 (walk_at "m_step")
          (with_reducible rename Fr _ _ _ _ => F1)
          (with_reducible rename News _ _ _ _ => N1)
          obtain ⟨od, hod⟩ := hod
          obtain ⟨kvs, ep, hdd, hlen, hrow⟩ := id TT
          have hmd := hdd _ (supT N1 fun p hp => .tail _ hp)
          have hdl := hmd.lt_size
          refine unstop (wpAny_pyIter_dict hdt hmd ?_)
          refine my_for (LawK Dp dt dr ysp led) (Walks.dictKeys (knd := PySem.strKind prog w) rfl _ dt (Nat.ne_of_lt hdl) kvs ep) rfl rfl ?k0 ?k1 ?k2 (F1.push _) (fun p hp => ⟨Heap.get?_push_of_some _ (N1 p hp).1, (N1 p hp).2⟩) ?k3 ?k4 ?turnC ?doneC
          case k0 => exact notMem2 (Nat.ne_of_lt F1.ns.lt) (Ne.symm (N1 (dt, od) (.tail _ (mT _ hod))).2.1)
          case k1 => intro b hb; rw [List.mem_singleton.mp hb]; exact fresh_none F1 (Nat.le_refl _)
          case k2 => exact ⟨⟨_, Heap.get?_push_size _ rfl, rfl, rfl⟩, hmd.push _⟩
          case k3 => intro p hp hI; exact absurd (Heap.lt_size (N1 p hp).1) ((List.mem_singleton.mp hI) ▸ Nat.lt_irrefl _)
          case k4 => exact ⟨⟨rfl, rfl, trivial⟩, rfl⟩
          case turnC =>
            clear F1 N1 hmd hdl
            rintro i v m₁ _ h tk own hi ⟨k, xv, hk, hv⟩ ⟨hm, rfl⟩ F N hown hin hw hst
            obtain ⟨tkk, rfl⟩ := Value.isStrOf_shape hv
            rw [hlen] at hi
            obtain ⟨k', r, hkr⟩ : ∃ k' r, tbl[i]? = some (k', r) := ⟨tbl[i].1, tbl[i].2, by rw [List.getElem?_eq_getElem hi]⟩
            obtain ⟨a, ha, hra⟩ := hrow i k' r hkr
            rw [hk] at ha
            obtain ⟨rfl, rfl⟩ := Prod.mk.inj (Option.some.inj ha)
            have hmem : (k, r) ∈ tbl := List.mem_of_getElem? hkr
            have hin0 : ∀ p ∈ led, p ∈ (Dp, LCg.lst ysp) :: led ++ own := fun p hp => List.mem_append_left _ (.tail _ hp)
            replace F := frPut [(Str.ofString "key", .str k tkk), (Str.ofString "table", .ref dt), (Str.ofString "records", .ref dr)] F ⟨rfl, hm⟩
            iterate 12 (walk_at "m_step")
            refine unstop (tab_item TR (supR N hin0) hmem fun a2 ha2 => ?_)
            have hrec := ha2 _ (supR N hin0)
            iterate 3 (walk_at "m_step")
            (with_reducible rename Fr _ _ _ _ => F1)
            (with_reducible rename News _ _ _ _ => N1)
            refine unstop (use_told F1 N1 hrec (Cx.fr X T F1) (Rm.le R (by decide)) fun a3 h7 tk7 F7 N7 kp7 hrow3 => ?_)
            clear F1 N1 kp7 hrec
            iterate 4 (walk_at "m_step")
            refine unstop (tab_item TT (supT N7 hin0) hmem fun a4 ha4 => ?_)
            have hrow4 := ha4 _ (supT N7 hin0)
            iterate 2 (walk_at "m_step")
            refine unstop (ne_rows hrow3 hrow4 (hgood _ hmem).2.2 (Rm.cl R) ?_)
            iterate 6 (walk_at "m_step")
            exact ⟨_, _, _, _, rfl, F7, N7, _, rfl, hw, ⟨rfl, rfl, trivial⟩, rfl⟩
          case doneC =>
            clear F1 N1 hmd hdl
            rintro m₁ _ h tk ⟨hm, rfl⟩ F N
            replace F := frPut _ F hm
            iterate 6 (walk_at "m_step")
            exact ⟨_, _, _, rfl, rfl, F.keep, rfl⟩
end
theorem part_off_44 : True := by w_top off; trivial
theorem law_holds : PySem.Challenge.rw_rt0069_01.Holds := Mine.hd (by
  k_fill
  intro w s₀ s₁ mg mb G Y fa o pm cd doc dV kV ho hd' hcd hD hmg hg args vals as hpre hlay hrd hwl hlo
  have KX := kIn_of Y
  refine Ground.open G ?_
  intro T B D TE TW
  have hfa : fa = 263 := by
    have h1 := mg_of KX T.g (n := Str.ofString "law") (v := .ref 263) (by rfl)
    have h2 := h1.symm.trans hmg
    exact (Value.ref.inj (Option.some.inj h2)).symm
  subst hfa
  wrow_args hpre hlay hrd hwl hlo
  all_goals refine enter_call ?_
  all_goals refine codeAny_mono ?_ (fun _ _ g => GoodW.toG g)
  (with_reducible rename Heap.IsList _ _ _ => hL)
  (with_reducible rename IntsAre _ _ => hI)
  rename ¬ _ < _ => hn63
  have hA : Rm callerA (18 + 1) := ⟨by decide, by decide, rfl⟩
  refine codeAny_mono (c_law hL hI (by omega) ⟨KX, T⟩ hA) (fun r s' hr => ?_)
  obtain ⟨v, h', tk, rfl, rfl, kp, rfl⟩ := hr
  refine ⟨.inl ⟨.bool true, .bool true, [], rfl, ?hn, ?hr, ?hp, ?hu⟩, kp, rfl, hg⟩
  case hn => intro cls; rfl
  case hr => exact .bool true
  case hp => (show _ = true; wrow_post)
  case hu => intro _; exact ⟨List.nodup_nil, fun _ h => nomatch h⟩)
end Mine
theorem PySem.Challenge.cw_rt0069_01_holds : PySem.Challenge.rw_rt0069_01.Holds :=
  Mine.law_holds
