import PyProof.Rows.All
import Wide.All
import OpenK.AllK
import Wide.FinOn
import PySem.Challenge.RW_nb0376_01
open PySem PySem.W PyProof.Rows PySem.Calls
set_option Elab.async false
set_option maxRecDepth 100000
set_option linter.unusedVariables false
set_option pp.deepTerms false
set_option pp.maxSteps 3000

namespace Mine
set_option maxRecDepth 100000 in
set_option maxHeartbeats 8000000 in
open_top hd for PySem.Challenge.rw_nb0376_01
end Mine

namespace Mine

abbrev Ext (h h' : Heap) : Prop := ∀ b o, h.get? b = some o → h'.get? b = some o

/-- what the top laid, as far as the walk needs it -/
structure Wd (w : World) (h : Heap) : Prop where
  K : (hd.heap_39 w.params).In h
  T : ∃ p loose mean mg mb, Top p loose mean mg mb h

theorem Wd.keeps {w : World} {h h' : Heap} (x : Wd w h) (k : Ext h h') : Wd w h' :=
  ⟨x.K.keeps k, let ⟨p, l, me, mg, mb, t⟩ := x.T; ⟨p, l, me, mg, mb, t.keeps k⟩⟩

theorem kinds_of {fd : FuncData} {binds : List (Str × Value)} {n : Nat}
    (e : (binds.all fun y => fd.scope.names.lookup y.1 == some .local || fd.scope.names.lookup y.1 == some .cell) = true) :
    ∀ x ∈ binds, fd.scope.names.lookup x.1 = some .local ∨ (fd.scope.names.lookup x.1 = some .cell ∧ ((cellsFrom n fd.scope.names []).lookup x.1).isSome = true) :=
  kindsX e n

/-- any parameters of a world: no def of the top hangs on them -/
def somePar : Params := { strHash := fun _ => 0, shareClass := fun _ => 0, mergeTok := id, idOf := fun _ => 0, idOfShared := fun _ _ => 0, followText := fun _ => false, idOfImm := fun _ => 0 }
/-- the def at an address of the text's top -/
noncomputable def fdAt (a : Addr) : FuncData := match List.lookup a (hd.heap_39 somePar) with
  | some ⟨_, _, .func fd, _⟩ => fd
  | _ => default
noncomputable def bodyOf (a : Addr) : List Stmt := match (fdAt a).body with
  | .stmts b => b
  | _ => []
/-- the environment of its call, the locals at L -/
noncomputable abbrev envA (f L : Addr) : Env := callEnvC (fdAt f) L f

/-! what a walk keeps -/
theorem kExt {s s' : Shared} (k : Keeps s s') : Ext s.heap s'.heap := by obtain ⟨h, tk, rfl, e⟩ := k; exact e
theorem kRefl (s : Shared) : Keeps s s := ⟨s.heap, s.toks, rfl, fun _ _ e => e⟩
theorem kTrans {a b c : Shared} (x : Keeps a b) (y : Keeps b c) : Keeps a c := by
  obtain ⟨h, tk, rfl, e⟩ := x
  obtain ⟨h', tk', rfl, e'⟩ := y
  exact ⟨h', tk', rfl, fun b o q => e' b o (e b o q)⟩
theorem kTok (s : Shared) (t : Nat) : Keeps s { s with toks := t } := ⟨s.heap, t, rfl, fun _ _ e => e⟩
theorem kHeap {s : Shared} {h : Heap} (k : Ext s.heap h) : Keeps s { s with heap := h } := ⟨h, s.toks, rfl, k⟩
theorem kBoth {s : Shared} {h : Heap} {t : Nat} (k : Ext s.heap h) : Keeps s { s with heap := h, toks := t } := ⟨h, t, rfl, k⟩
theorem cDone {s₀ s : Shared} {L : Addr} {m cm : Str → Option Value} {cs : List (Str × Addr)} (x : InCallC s₀ L m cs cm s) : Keeps s₀ s := x.done
theorem cBase {s₀ s : Shared} {L : Addr} {m cm : Str → Option Value} {cs : List (Str × Addr)} (x : InCallC s₀ L m cs cm s) : Ext s₀.heap s.heap := x.toInCall.keep
theorem cKeep {s₀ s s' : Shared} {L : Addr} {m cm : Str → Option Value} {cs : List (Str × Addr)} (x : InCallC s₀ L m cs cm s) (k : Keeps s s') : InCallC s₀ L m cs cm s' := by
  obtain ⟨h, tk, rfl, e⟩ := k
  exact ⟨x.toInCall.kept e, fun n c q => (x.cell n c q).keeps e, x.apart, x.above⟩
theorem wKeep {w : World} {s s' : Shared} (x : Wd w s.heap) (k : Keeps s s') : Wd w s'.heap := x.keeps (kExt k)

/-- a call of a def of the text, by its address -/
theorem call_fn {prog : Program} {w : World} {A : Around} {E : Value → Shared → Prop} {s : Shared} {Q : Value → Shared → Prop} {f : Addr} {oc : Value} {od : Option Addr} {osl : Array (Option Value)}
    {vals : List Value} (X : Wd w s.heap) (hroom : A.depth < recursionLimit) (binds : List (Str × Value)) (m cm : Str → Option Value)
    (ho : List.lookup f (hd.heap_39 w.params) = some ⟨oc, od, .func (fdAt f), osl⟩)
    (hcd : codeIn (hd.heap_39 w.params) (fdAt f).code (fdAt f).qualname = true)
    (hbody : (fdAt f).body = .stmts (bodyOf f)) (hbind : bindArgs (fdAt f) ⟨vals, []⟩ = pure binds) (hclo : (fdAt f).closure = [])
    (hkind : (binds.all fun y => (fdAt f).scope.names.lookup y.1 == some .local || (fdAt f).scope.names.lookup y.1 == some .cell) = true)
    (hco : (fdAt f).scope.isCoroutine = false) (hgen : (fdAt f).scope.isGenerator = false) (hk : (fdAt f).scope.kind = .function)
    (hm : ∀ L, bindL (envA f L).kindOf binds (fun _ => none) = m) (hcm : ∀ L, bindC (envA f L).kindOf binds (fun _ => none) = cm)
    (h : ∀ L s₁, InCallC s (envA f L).locals m (envA f L).cells cm s₁ →
      wpAny (model prog w) (A.deeper (envA f L)) (execs (bodyOf f) (envA f L)) (fun fl s' => Q (match fl with | .ret v => v | _ => .none) s') (fun _ _ => False) s₁) :
    wpAny (model prog w) A (call (.ref f) vals) Q E s := by
  obtain ⟨p, l, me, mg, mb, t⟩ := X.T
  refine wpAny_call (codeAny_call_cells (fd := fdAt f) (body := bodyOf f) hroom (X.K _ _ ho) rfl t.nolimit (codeRec_of X.K hcd) hbody hbind hclo (kinds_of hkind) (fun s₁ x => ?_) hco hgen hk)
  rw [hm, hcm] at x
  exact wpAny_mono (h _ s₁ x) (fun _ _ q => q) (fun _ _ q => q.elim)

theorem xor_spec {prog : Program} {w : World} {A : Around} {E : Value → Shared → Prop} {s : Shared} {Q : Value → Shared → Prop} {a b : Int} {t u : Tok}
    (X : Wd w s.heap) (hroom : A.depth < 990)
    (h : ∀ s' tk, Keeps s s' → Q (.int (Builtin.bitXor a b) tk) s') :
    wpAny (model prog w) A (call (.ref 21) [.int a t, .int b u]) Q E s := by
  refine call_fn X (by unfold recursionLimit; omega) [("a", .int a t), ("b", .int b u)] (fun y => if y = "b" then some (.int b u) else if y = "a" then some (.int a t) else none) (fun _ => none) rfl rfl rfl rfl rfl rfl rfl rfl rfl (fun _ => rfl) (fun _ => rfl) ?_
  intro L s₁ x
  refine wpAny_execs_cons (wpAny_Return_some (wpAny_BinOp ?_))
  refine NameLC x rfl rfl rfl ?_ (by decide)
  refine NameLC x rfl rfl rfl ?_ (by decide)
  refine xor_int ?_
  exact h _ _ (kTrans (cDone x) (kTok _ _))
end Mine

namespace Mine

/-- every list (every object that holds a sequence) is kept -/
def LK (h h' : Heap) : Prop := ∀ b o, (∃ xs n, o.data = .seq xs n) → h.get? b = some o → h'.get? b = some o
/-- all is kept but what is one's own -/
def KB (own : List Addr) (h h' : Heap) : Prop := ∀ b o, b ∉ own → h.get? b = some o → h'.get? b = some o

theorem LK.refl (h : Heap) : LK h h := fun _ _ _ e => e
theorem LK.trans {a b c : Heap} (x : LK a b) (y : LK b c) : LK a c := fun _ _ hc e => y _ _ hc (x _ _ hc e)
theorem LK.of_ext {h h' : Heap} (k : Ext h h') : LK h h' := fun _ _ _ e => k _ _ e
theorem KB.refl (own : List Addr) (h : Heap) : KB own h h := fun _ _ _ e => e
theorem KB.trans {own : List Addr} {a b c : Heap} (x : KB own a b) (y : KB own b c) : KB own a c := fun _ _ n e => y _ _ n (x _ _ n e)
theorem KB.of_ext {own : List Addr} {h h' : Heap} (k : Ext h h') : KB own h h' := fun _ _ _ e => k _ _ e
theorem KB.of_same {own : List Addr} {h h' : Heap} {a : Addr} (k : Heap.SameBut a h h') (ha : a ∈ own) : KB own h h' :=
  fun b o n e => (k.2 b (fun q => n (q ▸ ha))).trans e
theorem KB.mono {own own' : List Addr} {h h' : Heap} (x : KB own h h') (s : ∀ b ∈ own, b ∈ own') : KB own' h h' := fun b o n e => x b o (fun q => n (s b q)) e
theorem Ext.trans {a b c : Heap} (x : Ext a b) (y : Ext b c) : Ext a c := fun _ _ e => y _ _ (x _ _ e)
theorem Ext.refl (h : Heap) : Ext h h := fun _ _ e => e

/-- a list of ints at a value -/
def IL (h : Heap) (v : Value) (ns : List Int) : Prop := ∃ a vs, v = .ref a ∧ h.IsList a (List.toArray vs) ∧ IntsAre vs ns
/-- a list of lists of ints at a value -/
def LL (h : Heap) (v : Value) (nss : List (List Int)) : Prop := ∃ a vs, v = .ref a ∧ h.IsList a (List.toArray vs) ∧ Paired (IL h) vs nss

theorem isList_lk {h h' : Heap} {a : Addr} {xs : Array Value} (x : h.IsList a xs) (k : LK h h') : h'.IsList a xs :=
  let ⟨o, ho, hc, n, hd⟩ := x; ⟨o, k a o ⟨_, _, hd⟩ ho, hc, n, hd⟩
theorem IL.lk {h h' : Heap} {v : Value} {ns : List Int} (x : IL h v ns) (k : LK h h') : IL h' v ns :=
  let ⟨a, vs, e, l, i⟩ := x; ⟨a, vs, e, isList_lk l k, i⟩
theorem LL.lk {h h' : Heap} {v : Value} {nss : List (List Int)} (x : LL h v nss) (k : LK h h') : LL h' v nss :=
  let ⟨a, vs, e, l, i⟩ := x; ⟨a, vs, e, isList_lk l k, i.mono fun _ _ q => q.lk k⟩
theorem IL.ext {h h' : Heap} {v : Value} {ns : List Int} (x : IL h v ns) (k : Ext h h') : IL h' v ns := x.lk (LK.of_ext k)
theorem LL.ext {h h' : Heap} {v : Value} {nss : List (List Int)} (x : LL h v nss) (k : Ext h h') : LL h' v nss := x.lk (LK.of_ext k)
theorem IL.kp {s s' : Shared} {v : Value} {ns : List Int} (x : IL s.heap v ns) (k : Keeps s s') : IL s'.heap v ns := x.ext (kExt k)
theorem LL.kp {s s' : Shared} {v : Value} {nss : List (List Int)} (x : LL s.heap v nss) (k : Keeps s s') : LL s'.heap v nss := x.ext (kExt k)
theorem isList_kp {s s' : Shared} {a : Addr} {xs : Array Value} (x : s.heap.IsList a xs) (k : Keeps s s') : s'.heap.IsList a xs := isList_lk x (LK.of_ext (kExt k))

theorem lk_of_ns {h h' : Heap} {L : Addr} {m : Str → Option Value} (n : h.Ns L m) (k : Heap.SameBut L h h') : LK h h' := by
  intro b o ⟨xs, nn, hd⟩ e
  refine (k.2 b ?_).trans e
  rintro rfl
  obtain ⟨o', es, ep, ho', hd', _⟩ := n
  rw [e] at ho'; cases ho'; rw [hd] at hd'; cases hd'
theorem lk_of_cell {h h' : Heap} {c : Addr} {v : Option Value} (n : h.IsCell c v) (k : Heap.SameBut c h h') : LK h h' := by
  intro b o ⟨xs, nn, hd⟩ e
  refine (k.2 b ?_).trans e
  rintro rfl
  obtain ⟨o', ho', hd'⟩ := n
  rw [e] at ho'; cases ho'; rw [hd] at hd'; cases hd'

section
variable {M : Model} {A : Around} {E : Value → Shared → Prop} {s₀ s : Shared} {m cm : Str → Option Value} {env : Env}

/-- a local name stored -/
theorem stL {n : Str} {v : Value} {Q : Unit → Shared → Prop} (x : InCallC s₀ env.locals m env.cells cm s) (hk : env.scope.kind = .function) (hl : env.kindOf n = some .local)
    (h : ∀ s', InCallC s₀ env.locals (fun y => if y = n then some v else m y) env.cells cm s' → Heap.SameBut env.locals s.heap s'.heap → LK s.heap s'.heap → Q () s') :
    wpAny M A (storeName env n v) Q E s := by
  refine wpAny_storeName_local hl x.toInCall.ns (fun h' hn' hs' => h _ ⟨⟨?_, hn', fun b o e => ?_, x.toInCall.fresh⟩, fun k c hc => ?_, x.apart, x.above⟩ hs' (lk_of_ns x.toInCall.ns hs')) (by rw [hk]; rfl)
  · obtain ⟨h₁, tk, rfl⟩ := x.toInCall.same
    exact ⟨h', _, rfl⟩
  · exact hs'.extBut b o (Nat.ne_of_lt (Nat.lt_of_lt_of_le (Heap.lt_size e) x.toInCall.fresh)) (x.toInCall.keep b o e)
  · exact (x.cell k c hc).sameBut hs' (Nat.ne_of_gt (x.above k c (mem_of_lookup hc)))

/-- a cell name stored -/
theorem stC {n : Str} {c : Addr} {v : Value} {Q : Unit → Shared → Prop} (x : InCallC s₀ env.locals m env.cells cm s) (hk : env.scope.kind = .function) (hl : env.kindOf n = some .cell)
    (hc : env.cells.lookup n = some c)
    (h : ∀ s', InCallC s₀ env.locals m env.cells (fun y => if y = n then some v else cm y) s' → Heap.SameBut c s.heap s'.heap → LK s.heap s'.heap → Q () s') :
    wpAny M A (storeName env n v) Q E s := by
  have hLc := x.above n c (mem_of_lookup hc)
  refine wpAny_storeName_cell hk hl hc (x.cell n c hc) fun h' hc' hs' => h _ ⟨⟨?_, x.toInCall.ns.sameBut hs' (Nat.ne_of_lt hLc), fun b o e => ?_, x.toInCall.fresh⟩, fun k c' hk' => ?_, x.apart, x.above⟩ hs' (lk_of_cell (x.cell n c hc) hs')
  · obtain ⟨h₁, tk, rfl⟩ := x.toInCall.same
    exact ⟨h', _, rfl⟩
  · exact hs'.extBut b o (Nat.ne_of_lt (Nat.lt_trans (Nat.lt_of_lt_of_le (Heap.lt_size e) x.toInCall.fresh) hLc)) (x.toInCall.keep b o e)
  · by_cases hkn : k = n
    · subst hkn
      rw [hc] at hk'; cases hk'
      simpa using hc'
    · rw [if_neg hkn]
      exact (x.cell k c' hk').sameBut hs' fun e => hkn (name_of_addr x.apart (mem_of_lookup hk') (e ▸ mem_of_lookup hc))
end

section
variable {prog : Program} {w : World} {A : Around}

/-- an iterator: it holds fields -/
structure Iter (prog : Program) (w : World) (A : Around) (I : Addr) (fp : List Addr) (n : Nat) (P : Nat → Value → Prop) (St : Nat → Heap → Prop) : Prop where
  W : Walks prog w A I fp [I] n P St
  fld : ∀ i h, St i h → ∃ o vs, h.get? I = some o ∧ o.data = .fields vs

/-- what pyIter hands to a comprehension or a loop; fa: what is gone through -/
def Src (prog : Program) (w : World) (A : Around) (s : Shared) (n : Nat) (P : Nat → Value → Prop) (fa : List Addr) (it : Value) (s₂ : Shared) : Prop :=
  ∃ I St, it = .ref I ∧ Keeps s s₂ ∧ Iter prog w A I (I :: fa) n P St ∧ St 0 s₂.heap ∧ (∀ b ∈ I :: fa, b < s₂.heap.objs.size) ∧ s.heap.get? I = none

/-- the iterator steps: what it leaves -/
structure Stepped (I : Addr) (s s₁ : Shared) : Prop where
  same : ∃ h tk, s₁ = { s with heap := h, toks := tk }
  keep : ∀ b o, b ≠ I → s.heap.get? b = some o → s₁.heap.get? b = some o
  fld : ∃ o vs, s.heap.get? I = some o ∧ o.data = .fields vs

theorem Stepped.lk {I : Addr} {s s₁ : Shared} (x : Stepped I s s₁) : LK s.heap s₁.heap := by
  intro b o ⟨xs, n, hd⟩ e
  refine x.keep b o ?_ e
  rintro rfl
  obtain ⟨o', vs, ho', hd'⟩ := x.fld
  rw [e] at ho'; cases ho'; rw [hd] at hd'; cases hd'

theorem Stepped.call {I : Addr} {s₀ s s₁ : Shared} {L : Addr} {cs : List (Str × Addr)} {m cm : Str → Option Value} (x : Stepped I s s₁) (hI : s₀.heap.get? I = none) (c : InCallC s₀ L m cs cm s) :
    InCallC s₀ L m cs cm s₁ := by
  obtain ⟨oI, vs, ho, hd⟩ := x.fld
  refine ⟨⟨?_, ?_, fun b o e => x.keep b o ?_ (c.toInCall.keep b o e), c.toInCall.fresh⟩, fun n a e => ?_, c.apart, c.above⟩
  · obtain ⟨h₁, tk, rfl⟩ := c.toInCall.same; obtain ⟨h₂, tk₂, rfl⟩ := x.same; exact ⟨_, _, rfl⟩
  · obtain ⟨o, es, ep, e, d, r⟩ := c.toInCall.ns
    refine ⟨o, es, ep, x.keep _ _ ?_ e, d, r⟩
    intro q; rw [q, ho] at e; cases e; rw [hd] at d; cases d
  · rintro rfl; rw [hI] at e; cases e
  · obtain ⟨o, e', d⟩ := c.cell n a e
    refine ⟨o, x.keep _ _ ?_ e', d⟩
    rintro rfl; rw [ho] at e'; cases e'; rw [hd] at d; cases d

/-- what a step of the iterator leaves, as a loop's turn sees it -/
structure Turned (s₀ sb s s₁ : Shared) : Prop where
  lk : LK s.heap s₁.heap
  keep : ∀ b o o', sb.heap.get? b = some o' → s.heap.get? b = some o → s₁.heap.get? b = some o
  call : ∀ {L : Addr} {cs : List (Str × Addr)} {m cm : Str → Option Value}, InCallC s₀ L m cs cm s → InCallC s₀ L m cs cm s₁

/-- a for, by an invariant -/
theorem for_rule {env : Env} {s₀ s : Shared} {x : Str} {px pos : Pos} {iter : Expr} {body orelse : List Stmt} {E : Value → Shared → Prop} {Q : Flow → Shared → Prop}
    (hs : ∀ x, foldedSetIterable iter env x = pure x)
    (h : wpAny (model prog w) A (eval iter env) (fun xv s₁ => ∃ (n : Nat) (P : Nat → Value → Prop) (fa own : List Addr) (J : Nat → Shared → Prop),
      wpAny (model prog w) A (pyIter xv) (Src prog w A s₁ n P fa) E s₁ ∧ Ext s₀.heap s₁.heap ∧ (∀ b ∈ own, ∃ o, s₁.heap.get? b = some o) ∧ (∀ b ∈ fa, b ∉ own) ∧
      (∀ s₂, Keeps s₁ s₂ → J 0 s₂) ∧
      (∀ i v s₂ s₃, i < n → P i v → J i s₂ → Turned s₀ s₁ s₂ s₃ →
        wpAny (model prog w) A (storeName env x v) (fun _ s₄ => wpAny (model prog w) A (execs body env) (fun f s₅ => match f with
          | .next | .cont => J (i + 1) s₅ ∧ KB own s₃.heap s₅.heap
          | .brk => Q .next s₅
          | .ret v => Q (.ret v) s₅) (fun _ _ => False) s₄) (fun _ _ => False) s₃) ∧
      (∀ s₂ s₃, J n s₂ → Turned s₀ s₁ s₂ s₃ → wpAny (model prog w) A (execs orelse env) Q E s₃)) E s)
    (hE : PassesOwn (model prog w) A env E := by passes_own) :
    wpAny (model prog w) A (exec (.For (.Name x px) iter body orelse pos) env) Q E s := by
  refine wpAny_For (wpAny_mono h (fun xv s₁ h₁ => ?_) fun _ _ q => q) hs
  obtain ⟨n, P, fa, own, J, hit, h0, hlive, hfa, start, turn, fin⟩ := h₁
  refine wpAny_mono hit (fun it s₂ h₂ => ?_) fun _ _ q => q
  obtain ⟨I, St, rfl, k, It, st, hb, hI⟩ := h₂
  have hI0 : s₀.heap.get? I = none := kts_none h0 hI
  have hIo : I ∉ own := fun q => by obtain ⟨o, e⟩ := hlive I q; rw [hI] at e; cases e
  have hf : ∀ b ∈ I :: fa, b ∉ own := fun b hm => by
    rcases List.mem_cons.mp hm with rfl | hm
    · exact hIo
    · exact hfa b hm
  refine codeAny_forLoop (fun k s' => ∃ i, J i s' ∧ St i s'.heap ∧ i ≤ n ∧ k = n + 1 - i) ?_ (n + 1) ⟨0, start _ k, st, Nat.zero_le _, rfl⟩
  rintro k' s' ⟨i, hJ, hSt, hi, rfl⟩
  by_cases hlt : i < n
  · refine It.W.item i _ _ _ hlt hSt fun v h₁ tk₁ hP hst₁ hk₁ => ?_
    have S : Stepped I s' { s' with heap := h₁, toks := tk₁ } := ⟨⟨_, _, rfl⟩, fun b o hb e => hk₁ b o (by simpa using hb) e, It.fld _ _ hSt⟩
    refine wpAny_assign_Name (wpAny_mono (turn i v s' _ hlt hP hJ ⟨S.lk, fun b o o' e q => S.keep b o (fun r => by rw [r, hI] at e; cases e) q, S.call hI0⟩) (fun _ s₂ h₂ => ?_) fun _ _ q => q.elim)
    refine wpAny_mono h₂ (fun f s₃ h₃ => ?_) fun _ _ q => q.elim
    cases f with
    | next => exact ⟨_, Nat.sub_lt_sub_left (by omega) (Nat.lt_succ_self i), i + 1, h₃.1, It.W.frame _ _ _ hst₁ (fun b hb o e => h₃.2 b o (hf b hb) e), hlt, rfl⟩
    | cont => exact ⟨_, Nat.sub_lt_sub_left (by omega) (Nat.lt_succ_self i), i + 1, h₃.1, It.W.frame _ _ _ hst₁ (fun b hb o e => h₃.2 b o (hf b hb) e), hlt, rfl⟩
    | brk => exact h₃
    | ret v => exact h₃
  · have hin : i = n := by omega
    subst hin
    refine It.W.done _ _ _ hSt fun h₁ tk₁ hk₁ => ?_
    have S : Stepped I s' { s' with heap := h₁, toks := tk₁ } := ⟨⟨_, _, rfl⟩, fun b o hb e => hk₁ b o (by simpa using hb) e, It.fld _ _ hSt⟩
    exact wpAny_passesOwn hE (fin s' _ hJ ⟨S.lk, fun b o o' e q => S.keep b o (fun r => by rw [r, hI] at e; cases e) q, S.call hI0⟩)
end
end Mine

namespace Mine

section
variable {prog : Program} {w : World} {A : Around} {E : Value → Shared → Prop} {s : Shared} {env : Env}

theorem get_none_of_ge {h : Heap} {a : Addr} (ha : h.objs.size ≤ a) : h.get? a = none := Heap.get?_none_of_le ha

/-- iter() of a list -/
theorem src_list {a : Addr} {items : Array Value} (hh : A.handled = none) (hl : s.heap.IsList a items) :
    wpAny (model prog w) A (pyIter (.ref a)) (Src prog w A s items.size (fun i v => items[i]? = some v) [a]) E s := by
  have hlt : a < s.heap.objs.size := let ⟨_, ho, _⟩ := hl; Heap.lt_size ho
  refine wpAny_pyIter_list hl ⟨_, _, rfl, kHeap (fun b o e => Heap.get?_push_of_some _ e), ⟨Walks.list hh _ _ (Nat.ne_of_lt hlt) _, fun i h x => ?_⟩, ⟨⟨_, Heap.get?_push_size _ rfl, rfl, rfl⟩, hl.push _⟩, ?_, get_none_of_ge (Nat.le_refl _)⟩
  · obtain ⟨⟨o, ho, _, hd⟩, _⟩ := x; exact ⟨o, _, ho, hd⟩
  · intro b hb
    show b < (s.heap.push _).objs.size
    rw [Heap.size_push]
    rcases List.mem_cons.mp hb with rfl | hb
    · exact Nat.lt_succ_self _
    · rcases List.mem_cons.mp hb with rfl | hb
      · exact Nat.lt_succ_of_lt hlt
      · cases hb

/-- iter() of a range of ones -/
theorem src_range {r : Addr} {a b : Int} {t u v : Tok} (hh : A.handled = none) (hr : IsRange s.heap r a b 1 t u v) (h1 : -(2 ^ 62) ≤ a) (h2 : a < 2 ^ 62) (h3 : -(2 ^ 62) ≤ b) (h4 : b < 2 ^ 62) :
    wpAny (model prog w) A (pyIter (.ref r)) (Src prog w A s (b - a).toNat (fun i v => ∃ t, v = .int (a + (i : Int)) t) []) E s := by
  have hsz : Builtin.Range.rangeSize a b 1 = ((b - a).toNat : Int) := by rw [rangeSize_one]; split <;> omega
  have fld : ∀ (i : Nat) (h : Heap), IsRangeIter h s.heap.objs.size (a + (i : Nat) * 1) (((b - a).toNat : Int) - (i : Nat)) 1 → ∃ o vs, h.get? s.heap.objs.size = some o ∧ o.data = .fields vs := fun i h x => ⟨_, _, x, rfl⟩
  refine wpAny_pyIter_range hr (small_one h1 h2 h3 h4) ⟨_, (fun i h => IsRangeIter h s.heap.objs.size (a + (i : Nat) * 1) (((b - a).toNat : Int) - (i : Nat)) 1), rfl, kHeap (fun b o e => Heap.get?_push_of_some _ e), ⟨?_, fld⟩, ?_, ?_, get_none_of_ge (Nat.le_refl _)⟩
  · have W := Walks.range (prog := prog) (w := w) hh s.heap.objs.size a 1 (b - a).toNat
    have e : (fun (i : Nat) (v : Value) => ∃ t, v = .int (a + i * 1) t) = (fun (i : Nat) (v : Value) => ∃ t, v = .int (a + (i : Int)) t) := by funext i v; rw [Int.mul_one]
    rw [e] at W; exact W
  · have e1 : (a + ((0 : Nat) : Int) * 1) = a := by simp
    have e2 : (((b - a).toNat : Int) - ((0 : Nat) : Int)) = Builtin.Range.rangeSize a b 1 := by rw [hsz]; simp
    show IsRangeIter _ _ (a + ((0 : Nat) : Int) * 1) (((b - a).toNat : Int) - ((0 : Nat) : Int)) 1
    rw [e1, e2]
    exact Heap.get?_push_size _ rfl
  · intro b hb
    show b < (s.heap.push _).objs.size
    rw [Heap.size_push]
    rcases List.mem_cons.mp hb with rfl | hb
    · exact Nat.lt_succ_self _
    · cases hb

/-! the plain steps, each with a state of its own behind it -/
theorem cInt {i : Int} {k : Nat} {pos : Pos} {Q : Value → Shared → Prop} (h : ∀ s' t, Keeps s s' → Q (.int i t) s') : wpAny (model prog w) A (eval (.Constant (.int i) k pos) env) Q E s :=
  wpAny_Constant_int (h _ _ (kTok _ _))
theorem addI {a b : Int} {t u : Tok} {Q : Value → Shared → Prop} (h : ∀ s' t, Keeps s s' → Q (.int (a + b) t) s') : wpAny (model prog w) A (binaryOp .Add (.int a t) (.int b u)) Q E s :=
  wpAny_add_int (h _ _ (kTok _ _))
theorem subI {a b : Int} {t u : Tok} {Q : Value → Shared → Prop} (h : ∀ s' t, Keeps s s' → Q (.int (a - b) t) s') : wpAny (model prog w) A (binaryOp .Sub (.int a t) (.int b u)) Q E s :=
  sub_int' (h _ _ (kTok _ _))
theorem modI {a b : Int} {t u : Tok} {Q : Value → Shared → Prop} (hb : b ≠ 0) (h : ∀ s' t, Keeps s s' → Q (.int (a.fmod b) t) s') : wpAny (model prog w) A (binaryOp .Mod (.int a t) (.int b u)) Q E s :=
  mod_int' hb (h _ _ (kTok _ _))
theorem lenL {a : Addr} {items : Array Value} {Q : Value → Shared → Prop} (hl : s.heap.IsList a items) (hf : items.size < 2 ^ 60) (h : ∀ s' t, Keeps s s' → Q (.int items.size t) s') : wpAny (model prog w) A (call (.builtin "len") [.ref a]) Q E s :=
  call_len_list hl (by omega) (h _ _ (kTok _ _))
theorem range1 {b : Int} {u : Tok} {Q : Value → Shared → Prop} (h : ∀ s' r t v, Keeps s s' → IsRange s'.heap r 0 b 1 t u v → Q (.ref r) s') : wpAny (model prog w) A (call (.type "range") [.int b u]) Q E s :=
  call_range_1 (h _ _ _ _ (kBoth fun b o e => Heap.get?_push_of_some _ e) (IsRange.new ..))
theorem range2 {a b : Int} {t u : Tok} {Q : Value → Shared → Prop} (h : ∀ s' r v, Keeps s s' → IsRange s'.heap r a b 1 t u v → Q (.ref r) s') : wpAny (model prog w) A (call (.type "range") [.int a t, .int b u]) Q E s :=
  call_range_2 (h _ _ _ (kBoth fun b o e => Heap.get?_push_of_some _ e) (IsRange.new ..))
theorem newL {vs : List Value} {Q : Value → Shared → Prop} (hsz : vs.length ≤ sizeLine) (h : ∀ s' a, Keeps s s' → s.heap.get? a = none → s'.heap.IsList a vs.toArray → Q (.ref a) s') : wpAny (model prog w) A (newList vs) Q E s := by
  refine wpAny_newObj_type ?_ (by show vs.toArray.size ≤ sizeLine; rw [List.size_toArray]; exact hsz)
  exact h _ _ (kHeap fun b o e => Heap.get?_push_of_some _ e) (get_none_of_ge (Nat.le_refl _)) ⟨_, Heap.get?_push_size _ rfl, rfl, _, rfl⟩
/-- a list's item -/
theorem itemL {value slice : Expr} {a : Addr} {items : Array Value} {k : Int} {u : Tok} {x : Value} {Q : Value → Shared → Prop} (hl : s.heap.IsList a items) (h0 : 0 ≤ k) (hhi : k < 2 ^ 60) (hx : items[k.toNat]? = some x) (h : Q x s)
    (hs : subscripted slice false (.ref a) (.int k u) = operate [.ref a, .int k u] (getItem (.ref a) (.int k u)) := by with_unfolding_all rfl) :
    wpAny (model prog w) A (subscriptTail value slice (.ref a) (.int k u)) Q E s :=
  tail_any hl.typeIs slot_list_getitem.lookup (wpAny_getItem_list hl h0 (by omega) hx h) hs

/-- a name of the text's own top -/
theorem nameK {x : Str} {pos : Pos} {v : Value} {Q : Value → Shared → Prop} (X : Wd w s.heap) (e : nsIn (hd.heap_39 w.params) mainGlobals x = some (some v)) (h : Q v s)
    (hg : env.globals = mainGlobals) (hk : env.scope.kind = .function) (hx : env.kindOf x = some .globalImplicit) (hd : (x == ("__debug__" : Str)) = false) :
    wpAny (model prog w) A (eval (.Name x pos) env) Q E s := by
  obtain ⟨p, l, me, mg, mb, t⟩ := X.T
  exact Name_function_global hk hx (loadGlobal_global (env := env) (by rw [hg]; exact t.g) (mg_of X.K t.g e) h) hd

/-- a name of the built-ins -/
theorem nameB {x : Str} {pos : Pos} {v : Value} {Q : Value → Shared → Prop} (X : Wd w s.heap) (e : nsIn (hd.heap_39 w.params) mainGlobals x = some none) (hv : bootBuiltins x = some v) (hn : x ≠ "__name__") (h : Q v s)
    (hg : env.globals = mainGlobals) (hb : env.builtins = builtinsNs) (hk : env.scope.kind = .function) (hx : env.kindOf x = some .globalImplicit) (hd : (x == ("__debug__" : Str)) = false) :
    wpAny (model prog w) A (eval (.Name x pos) env) Q E s := by
  obtain ⟨p, l, me, mg, mb, t⟩ := X.T
  exact Name_function_global hk hx (loadGlobal_builtin (env := env) (by rw [hg]; exact t.g) (mg_none_of X.K t.g e) (by rw [hb]; exact t.b) ((t.builtins x hn).trans hv) h) hd

/-- calls of a def: the arguments, then the call -/
theorem def1 {a : Addr} {e : Expr} {pos : Pos} {Q : Value → Shared → Prop} (hf : ∃ oc od fd osl, (hd.heap_39 w.params).lookup a = some ⟨oc, od, .func fd, osl⟩)
    (hse : backTo pos (starEach [e] env) = [(false, eval e env)])
    (h : wpAny (model prog w) A (eval e env) (fun v s₁ => Wd w s₁.heap ∧ wpAny (model prog w) A (call (.ref a) [v]) Q E s₁) E s) :
    wpAny (model prog w) A (callWith pos (.ref a) [] (backTo pos (starEach [e] env)) []) Q E s := by
  obtain ⟨oc, od, fd, osl, hf⟩ := hf
  rw [hse]
  refine callWith_function (o := ⟨oc, od, .func fd, osl⟩) (fd := fd) (evalArgs_plain (spliced_cons (wpAny_mono h (fun v s₁ h₁ => spliced_nil ?_) fun _ _ q => q)))
  exact ⟨⟨h₁.1.K _ _ hf, rfl⟩, h₁.2⟩
theorem def2 {a : Addr} {e₁ e₂ : Expr} {pos : Pos} {Q : Value → Shared → Prop} (hf : ∃ oc od fd osl, (hd.heap_39 w.params).lookup a = some ⟨oc, od, .func fd, osl⟩)
    (hse : backTo pos (starEach [e₁, e₂] env) = [(false, eval e₁ env), (false, eval e₂ env)])
    (h : wpAny (model prog w) A (eval e₁ env) (fun v₁ s₁ => wpAny (model prog w) A (eval e₂ env) (fun v₂ s₂ => Wd w s₂.heap ∧ wpAny (model prog w) A (call (.ref a) [v₁, v₂]) Q E s₂) E s₁) E s) :
    wpAny (model prog w) A (callWith pos (.ref a) [] (backTo pos (starEach [e₁, e₂] env)) []) Q E s := by
  obtain ⟨oc, od, fd, osl, hf⟩ := hf
  rw [hse]
  refine callWith_function (o := ⟨oc, od, .func fd, osl⟩) (fd := fd) (evalArgs_plain (spliced_cons (wpAny_mono h (fun v s₁ h₁ => spliced_cons (wpAny_mono h₁ (fun v₂ s₂ h₂ => spliced_nil ?_) fun _ _ q => q)) fun _ _ q => q)))
  exact ⟨⟨h₂.1.K _ _ hf, rfl⟩, h₂.2⟩
theorem def3 {a : Addr} {e₁ e₂ e₃ : Expr} {pos : Pos} {Q : Value → Shared → Prop} (hf : ∃ oc od fd osl, (hd.heap_39 w.params).lookup a = some ⟨oc, od, .func fd, osl⟩)
    (hse : backTo pos (starEach [e₁, e₂, e₃] env) = [(false, eval e₁ env), (false, eval e₂ env), (false, eval e₃ env)])
    (h : wpAny (model prog w) A (eval e₁ env) (fun v₁ s₁ => wpAny (model prog w) A (eval e₂ env) (fun v₂ s₂ => wpAny (model prog w) A (eval e₃ env) (fun v₃ s₃ => Wd w s₃.heap ∧ wpAny (model prog w) A (call (.ref a) [v₁, v₂, v₃]) Q E s₃) E s₂) E s₁) E s) :
    wpAny (model prog w) A (callWith pos (.ref a) [] (backTo pos (starEach [e₁, e₂, e₃] env)) []) Q E s := by
  obtain ⟨oc, od, fd, osl, hf⟩ := hf
  rw [hse]
  refine callWith_function (o := ⟨oc, od, .func fd, osl⟩) (fd := fd) (evalArgs_plain (spliced_cons (wpAny_mono h (fun v s₁ h₁ => spliced_cons (wpAny_mono h₁ (fun v₂ s₂ h₂ => spliced_cons (wpAny_mono h₂ (fun v₃ s₃ h₃ => spliced_nil ?_) fun _ _ q => q)) fun _ _ q => q)) fun _ _ q => q)))
  exact ⟨⟨h₃.1.K _ _ hf, rfl⟩, h₃.2⟩
/-- calls of a type, of a built-in -/
theorem type1 {T : String} {e : Expr} {pos : Pos} {Q : Value → Shared → Prop}
    (hse : backTo pos (starEach [e] env) = [(false, eval e env)])
    (h : wpAny (model prog w) A (eval e env) (fun v s₁ => wpAny (model prog w) A (call (.type T) [v]) Q E s₁) E s) :
    wpAny (model prog w) A (callWith pos (.type T) [] (backTo pos (starEach [e] env)) []) Q E s := by
  rw [hse]
  exact PySem.callWith_type rfl (evalArgs_plain (spliced_cons (wpAny_mono h (fun v s₁ h₁ => spliced_nil h₁) fun _ _ q => q)))
theorem type2 {T : String} {e₁ e₂ : Expr} {pos : Pos} {Q : Value → Shared → Prop}
    (hse : backTo pos (starEach [e₁, e₂] env) = [(false, eval e₁ env), (false, eval e₂ env)])
    (h : wpAny (model prog w) A (eval e₁ env) (fun v₁ s₁ => wpAny (model prog w) A (eval e₂ env) (fun v₂ s₂ => wpAny (model prog w) A (call (.type T) [v₁, v₂]) Q E s₂) E s₁) E s) :
    wpAny (model prog w) A (callWith pos (.type T) [] (backTo pos (starEach [e₁, e₂] env)) []) Q E s := by
  rw [hse]
  exact PySem.callWith_type rfl (evalArgs_plain (spliced_cons (wpAny_mono h (fun v s₁ h₁ => spliced_cons (wpAny_mono h₁ (fun v₂ s₂ h₂ => spliced_nil h₂) fun _ _ q => q)) fun _ _ q => q)))
theorem bi1 {T : String} {e : Expr} {pos : Pos} {Q : Value → Shared → Prop}
    (hse : backTo pos (starEach [e] env) = [(false, eval e env)])
    (h : wpAny (model prog w) A (eval e env) (fun v s₁ => wpAny (model prog w) A (call (.builtin T) [v]) Q E s₁) E s) :
    wpAny (model prog w) A (callWith pos (.builtin T) [] (backTo pos (starEach [e] env)) []) Q E s := by
  rw [hse]
  exact callWith_builtin rfl (evalArgs_plain (spliced_cons (wpAny_mono h (fun v s₁ h₁ => spliced_nil h₁) fun _ _ q => q)))
theorem bi2 {T : String} {e₁ e₂ : Expr} {pos : Pos} {Q : Value → Shared → Prop}
    (hse : backTo pos (starEach [e₁, e₂] env) = [(false, eval e₁ env), (false, eval e₂ env)])
    (h : wpAny (model prog w) A (eval e₁ env) (fun v₁ s₁ => wpAny (model prog w) A (eval e₂ env) (fun v₂ s₂ => wpAny (model prog w) A (call (.builtin T) [v₁, v₂]) Q E s₂) E s₁) E s) :
    wpAny (model prog w) A (callWith pos (.builtin T) [] (backTo pos (starEach [e₁, e₂] env)) []) Q E s := by
  rw [hse]
  exact callWith_builtin rfl (evalArgs_plain (spliced_cons (wpAny_mono h (fun v s₁ h₁ => spliced_cons (wpAny_mono h₁ (fun v₂ s₂ h₂ => spliced_nil h₂) fun _ _ q => q)) fun _ _ q => q)))
end
end Mine

namespace Mine

section
variable {prog : Program} {w : World} {A : Around} {E : Value → Shared → Prop} {s : Shared} {env : Env}

theorem ext_of_but {I : Addr} {s : Shared} {h₂ h₃ : Heap} (hI : s.heap.get? I = none) (k : Ext s.heap h₂) (hk : ∀ b o, b ∉ [I] → h₂.get? b = some o → h₃.get? b = some o) : Ext s.heap h₃ := by
  intro b o e
  refine hk b o ?_ (k b o e)
  intro hm
  rcases List.mem_cons.mp hm with rfl | hm
  · rw [hI] at e; cases e
  · cases hm

/-- tests of a comprehension -/
abbrev Tests (ifs : List Expr) (cenv : Env) : Sem Bool :=
  forIn ifs true fun c r => if r = true then do let ok ← isTrue c cenv (eval c cenv); pure (ForInStep.yield ok) else pure (ForInStep.yield r)

structure QuietO (prog : Program) (w : World) (A : Around) (env : Env) (scope : Scope) (cl : List (Str × Addr)) (x : Str) (ifs : List Expr) (elt : Expr) (P : Nat → Value → Prop) (p : Value → Bool) (G : Value → Array Value → Prop) (h₁ : Heap) : Prop where
  tests : ∀ C i v s₃ m₃ E', P i v → s₃.heap.Ns C m₃ → m₃ x = some v → Ext h₁ s₃.heap →
    wpAny (model prog w) A (Tests ifs (compEnvC scope cl C env)) (fun ok s₄ => ok = p v ∧ Keeps s₃ s₄) E' s₃
  elt : ∀ C i v s₃ m₃ E', P i v → p v = true → s₃.heap.Ns C m₃ → m₃ x = some v → Ext h₁ s₃.heap →
    wpAny (model prog w) A (eval elt (compEnvC scope cl C env)) (fun y s₄ => (∃ T its, y = .ref T ∧ s₃.heap.get? T = none ∧ s₄.heap.IsList T its ∧ G v its) ∧ Keeps s₃ s₄) E' s₃

/-- a list comprehension whose items are new lists -/
theorem comp_ruleO {elt iter : Expr} {x : Str} {px : Pos} {ifs : List Expr} {scope : Scope} {cl : List (Str × Addr)} {pos : Pos} {Q : Value → Shared → Prop}
    (hclos : closureFor scope env = pure cl) (hcell : ∀ y ∈ scope.names, y.2 ≠ .cell) (hkind : scope.kind = .function)
    (hnames : ∀ y ∈ scope.names, y.2 = .local → scope.names.lookup y.1 = some .local) (hx : scope.names.lookup x = some .local)
    (hs : ∀ x, foldedSetIterable iter env x = pure x)
    (h : wpAny (model prog w) A (eval iter env) (fun xv s₁ => ∃ n P fa p G, n ≤ sizeLine ∧ wpAny (model prog w) A (pyIter xv) (Src prog w A s₁ n P fa) E s₁ ∧ QuietO prog w A env scope cl x ifs elt P p G s₁.heap ∧
      (∀ D s' ys (vs : List Value), Keeps s₁ s' → s₁.heap.get? D = none → s'.heap.IsList D ys → vs.length = n → (∀ j v, vs[j]? = some v → P j v) →
        Paired (fun v y => ∃ T its, y = .ref T ∧ s'.heap.IsList T its ∧ G v its) (vs.filter p) ys.toList → Q (.ref D) s')) E s) :
    wpAny (model prog w) A (eval (.ListComp elt [⟨.Name x px, iter, ifs, 0⟩] scope pos) env) Q E s := by
  rw [eval_ListComp]
  refine wpAny_comprehension_free (use := none) rfl hs hclos hkind hnames (wpAny_mono h (fun xv s₁ h₁ => ?_) fun _ _ q => q)
  obtain ⟨n, P, fa, p, G, hn, hit, hq, hQ⟩ := h₁
  refine wpAny_mono hit (fun it s₂ h₂ => ?_) fun _ _ q => q
  obtain ⟨I, St, rfl, kk, It, st, hfp, hI⟩ := h₂
  obtain ⟨h₂, tk₂, rfl, k⟩ := kk
  have hlive : ∀ i h, St i h → ∀ b ∈ [I], ∃ o, h.get? b = some o := fun i h hS b hb => by
    rw [List.mem_singleton.mp hb]
    obtain ⟨o, _, e, _⟩ := It.fld _ _ hS; exact ⟨o, e⟩
  refine comp_block_walkCO (RR := fun acc C => compPost (model prog w) A E none Q acc C) It.W hn p G hlive hcell hkind hx st hfp ⟨?_, ?_⟩ ?_
  · intro C i v s₃ m₃ E' _ hP hns hm hk _
    exact hq.tests C i v s₃ m₃ E' hP hns hm (ext_of_but hI k hk)
  · intro C i v s₃ m₃ E' _ hP hp hns hm hk _
    exact hq.elt C i v s₃ m₃ E' hP hp hns hm (ext_of_but hI k hk)
  · intro D C h' tk m' ys vs hD hC hDC hnC hl _ hlen hP hF _ hk
    refine ⟨m', hnC, fun h'' sb => hQ D _ ys vs (kBoth ?_) (kts_none k hD) (hl.extBut sb.extBut hDC) hlen hP (hF.mono fun v y ⟨T, its, e, _, hTC, _, _, l, g⟩ => ⟨T, its, e, l.extBut sb.extBut hTC, g⟩)⟩
    intro b o e
    exact sb.extBut b o (by rintro rfl; have := k b o e; rw [hC] at this; cases this) (ext_of_but hI k hk b o e)
end
end Mine

namespace Mine

section
variable {prog : Program} {w : World} {A : Around} {E : Value → Shared → Prop} {s : Shared} {env : Env}

theorem paired_mono {α β : Type} {F G : α → β → Prop} {l : List α} {r : List β} (h : Paired F l r) (m : ∀ a b, F a b → G a b) : Paired G l r := h.mono m

/-- the loop of a comprehension whose items' tokens are told: F t v y says what y is of v, its tokens below t -/
theorem comp_loopT {R : Result → Shared → Prop} {elt iter : Expr} {x : Str} {px : Pos} {ifs : List Expr} {scope : Scope} {pos : Pos} {I D : Addr} {fa : List Addr} {n : Nat} {P : Nat → Value → Prop} {St : Nat → Heap → Prop} {cenv : Env} {m : Str → Option Value}
    (It : Iter prog w A I (I :: fa) n P St) (p : Value → Bool) (F : Nat → Value → Value → Prop) (hFm : ∀ t t' v y, F t v y → t ≤ t' → F t' v y)
    (hx : cenv.kindOf x = some .local) (hp : cenv.scope.kind = .function) (hDC : D ≠ cenv.locals) (hDf : D ∉ I :: fa) (hCf : cenv.locals ∉ I :: fa)
    (hst : St 0 s.heap) (hacc : s.heap.PlainList D #[]) (hn : s.heap.Ns cenv.locals m) (hsz : n ≤ sizeLine)
    (tests : ∀ i v s₂ m₂ E', P i v → s₂.heap.Ns cenv.locals m₂ → m₂ x = some v → (∀ b o, b ≠ cenv.locals → b ≠ I → b ≠ D → s.heap.get? b = some o → s₂.heap.get? b = some o) → s.toks ≤ s₂.toks →
      wpAny (model prog w) A (Tests ifs cenv) (fun ok s₃ => ok = p v ∧ Keeps s₂ s₃) E' s₂)
    (item : ∀ i v s₂ m₂ E', P i v → p v = true → s₂.heap.Ns cenv.locals m₂ → m₂ x = some v → (∀ b o, b ≠ cenv.locals → b ≠ I → b ≠ D → s.heap.get? b = some o → s₂.heap.get? b = some o) → s.toks ≤ s₂.toks →
      wpAny (model prog w) A (eval elt cenv) (fun y s₃ => F s₃.toks v y ∧ Keeps s₂ s₃) E' s₂)
    (done : ∀ s' m' ys (vs : List Value), (∃ h tk, s' = { s with heap := h, toks := tk }) → s'.heap.Ns cenv.locals m' → s'.heap.IsList D ys → vs.length = n → (∀ j v, vs[j]? = some v → P j v) → Paired (F s'.toks) (vs.filter p) ys.toList → s.toks ≤ s'.toks →
      (∀ b o, b ≠ cenv.locals → b ≠ I → b ≠ D → s.heap.get? b = some o → s'.heap.get? b = some o) → R (.ok .next) s') :
    codeAny (model prog w) A (.compLoop (.ListComp elt [⟨.Name x px, iter, ifs, 0⟩] scope pos) 0 (.ref I) (.ref D) cenv) R s := by
  have hCI : cenv.locals ≠ I := fun q => hCf (by rw [q]; exact List.mem_cons_self)
  have hDI : D ≠ I := fun q => hDf (by rw [q]; exact List.mem_cons_self)
  refine codeAny_compLoop_tests (fun k s' => ∃ (vs : List Value) (ys : Array Value) (m' : Str → Option Value), (∃ h tk, s' = { s with heap := h, toks := tk }) ∧ vs.length ≤ n ∧ k = n + 1 - vs.length ∧
    St vs.length s'.heap ∧ s'.heap.PlainList D ys ∧ s'.heap.Ns cenv.locals m' ∧ (∀ j v, vs[j]? = some v → P j v) ∧ Paired (F s'.toks) (vs.filter p) ys.toList ∧ s.toks ≤ s'.toks ∧
    (∀ b o, b ≠ cenv.locals → b ≠ I → b ≠ D → s.heap.get? b = some o → s'.heap.get? b = some o)) ?_ (n + 1)
    ⟨[], #[], m, ⟨_, _, rfl⟩, Nat.zero_le _, rfl, hst, hacc, hn, by simp, by simpa using Paired.nil, Nat.le_refl _, fun _ _ _ _ _ e => e⟩
  rintro k s' ⟨vs, ys, m', sm, hle, rfl, hSt, hD, hC, hP, hF, ht, hk⟩
  by_cases hlt : vs.length < n
  · refine wpAny_with_toks (Nat.le_refl s'.toks) (It.W.item vs.length _ _ _ hlt hSt fun v h₁ t₁ hv hSt₁ hk₁ (ht₁ : s'.toks ≤ t₁) => ?_)
    have kI : ∀ b o, b ≠ I → s'.heap.get? b = some o → h₁.get? b = some o := fun b o q e => hk₁ b o (by simpa using q) e
    refine wpAny_assign_Name (wpAny_storeName_local hx (hC.at' fun o e => kI _ o hCI e) (fun h₂ hC₂ sb₂ => ?_) (by rw [hp]; rfl))
    have k₂ : ∀ b o, b ≠ cenv.locals → b ≠ I → s'.heap.get? b = some o → h₂.get? b = some o := fun b o q r e => sb₂.extBut b o q (kI b o r e)
    have hSt₂ : St (vs.length + 1) h₂ := It.W.frame _ _ _ hSt₁ fun b hb o e => sb₂.extBut b o (fun q => hCf (q ▸ hb)) e
    have base₂ : ∀ b o, b ≠ cenv.locals → b ≠ I → b ≠ D → s.heap.get? b = some o → h₂.get? b = some o := fun b o q r d e => k₂ b o q r (hk b o q r d e)
    refine wpAny_with_toks (n := s'.toks) (Nat.le_succ_of_le ht₁) (wpAny_mono (tests vs.length v _ _ _ hv hC₂ (by simp) base₂ (by show s.toks ≤ t₁ + 1; omega)) (fun ok s₃ h₃ (ht₃ : s'.toks ≤ s₃.toks) => ?_) fun e s₃ q _ => q)
    obtain ⟨rfl, kk₃⟩ := h₃
    have e₃ := kExt kk₃
    have D₃ : s₃.heap.PlainList D ys := hD.at fun o e => e₃ _ o (k₂ D o hDC hDI e)
    have C₃ := hC₂.keeps e₃
    have S₃ : St (vs.length + 1) s₃.heap := It.W.frame _ _ _ hSt₂ fun b _ o e => e₃ b o e
    have base₃ : ∀ b o, b ≠ cenv.locals → b ≠ I → b ≠ D → s.heap.get? b = some o → s₃.heap.get? b = some o := fun b o q r d e => e₃ b o (base₂ b o q r d e)
    have sm₃ : ∃ h tk, s₃ = { s with heap := h, toks := tk } := by
      obtain ⟨h, tk, rfl⟩ := sm; obtain ⟨h', tk', rfl, _⟩ := kk₃; exact ⟨_, _, rfl⟩
    have P₃ : ∀ j u, (vs ++ [v])[j]? = some u → P j u := fun j u hj => by
      by_cases q : j < vs.length
      · exact hP j u (by rwa [List.getElem?_append_left q] at hj)
      · rw [List.getElem?_append_right (Nat.not_lt.mp q)] at hj
        have q0 : j - vs.length = 0 := by
          rcases Nat.eq_zero_or_pos (j - vs.length) with z | z
          · exact z
          · rw [List.getElem?_eq_none (by simp; omega)] at hj; cases hj
        rw [q0] at hj; cases hj
        have : j = vs.length := by omega
        rw [this]; exact hv
    have F₃ : Paired (F s₃.toks) (vs.filter p) ys.toList := paired_mono hF fun a b q => hFm _ _ _ _ q ht₃
    cases hpv : p v with
    | false =>
      simp only [Bool.false_eq_true, if_false]
      refine ⟨n + 1 - (vs.length + 1), by omega, vs ++ [v], ys, _, sm₃, by rw [List.length_append, List.length_singleton]; exact hlt, by rw [List.length_append, List.length_singleton], by rw [List.length_append, List.length_singleton]; exact S₃, D₃, C₃, P₃, ?_, Nat.le_trans ht ht₃, base₃⟩
      rw [List.filter_append]; simpa [hpv] using F₃
    | true =>
      simp only [if_true]
      refine wpAny_with_toks (Nat.le_refl s₃.toks) (wpAny_mono (item vs.length v s₃ _ _ hv hpv C₃ (by simp) base₃ (Nat.le_trans ht ht₃)) (fun y s₄ h₄ (ht₄ : s₃.toks ≤ s₄.toks) => ?_) fun e s₄ q _ => q)
      obtain ⟨Fy, kk₄⟩ := h₄
      have e₄ := kExt kk₄
      have hys : ys.size ≤ sizeLine := by
        have e1 := hF.length
        have e2 : (vs.filter p).length ≤ vs.length := List.length_filter_le _ _
        have e3 : ys.toList.length = ys.size := by simp
        omega
      refine wpAny_list_append_plain (hsz := hys) (D₃.at fun o e => e₄ _ o e) fun h₅ D₅ sb₅ => ?_
      refine ⟨n + 1 - (vs.length + 1), by omega, vs ++ [v], ys.push y, _, ?_, by rw [List.length_append, List.length_singleton]; exact hlt, by rw [List.length_append, List.length_singleton], ?_, D₅, (C₃.keeps e₄).sameBut sb₅ (Ne.symm hDC), P₃, ?_, Nat.le_trans ht (Nat.le_trans ht₃ ht₄),
        fun b o q r d e => sb₅.extBut b o d (e₄ b o (base₃ b o q r d e))⟩
      · obtain ⟨h, tk, rfl⟩ := sm₃; obtain ⟨h', tk', rfl, _⟩ := kk₄; exact ⟨_, _, rfl⟩
      · rw [List.length_append, List.length_singleton]
        exact It.W.frame _ _ _ S₃ fun b hb o e => sb₅.extBut b o (fun q => hDf (q ▸ hb)) (e₄ b o e)
      · rw [List.filter_append]
        have F₅ : Paired (F s₄.toks) (vs.filter p) ys.toList := paired_mono F₃ fun a b q => hFm _ _ _ _ q ht₄
        simpa [hpv] using Paired.snoc F₅ Fy
  · have hin : vs.length = n := by omega
    refine wpAny_with_toks (Nat.le_refl s'.toks) (It.W.done _ _ _ (hin ▸ hSt) fun h₁ t₁ hk₁ (ht₁ : s'.toks ≤ t₁) => ?_)
    have kI : ∀ b o, b ≠ I → s'.heap.get? b = some o → h₁.get? b = some o := fun b o q e => hk₁ b o (by simpa using q) e
    refine done _ m' ys vs ?_ (hC.at' fun o e => kI _ o hCI e) (hD.at fun o e => kI _ o hDI e).isList hin hP (paired_mono hF fun a b q => hFm _ _ _ _ q ht₁) (Nat.le_trans ht ht₁) fun b o q r d e => kI b o r (hk b o q r d e)
    obtain ⟨h, tk, rfl⟩ := sm; exact ⟨_, _, rfl⟩

structure QuietT (prog : Program) (w : World) (A : Around) (env : Env) (scope : Scope) (cl : List (Str × Addr)) (x : Str) (ifs : List Expr) (elt : Expr) (P : Nat → Value → Prop) (p : Value → Bool) (F : Nat → Value → Value → Prop) (s₁ : Shared) : Prop where
  mono : ∀ t t' v y, F t v y → t ≤ t' → F t' v y
  tests : ∀ C i v s₃ m₃ E', P i v → s₃.heap.Ns C m₃ → m₃ x = some v → Ext s₁.heap s₃.heap → s₁.toks ≤ s₃.toks →
    wpAny (model prog w) A (Tests ifs (compEnvC scope cl C env)) (fun ok s₄ => ok = p v ∧ Keeps s₃ s₄) E' s₃
  elt : ∀ C i v s₃ m₃ E', P i v → p v = true → s₃.heap.Ns C m₃ → m₃ x = some v → Ext s₁.heap s₃.heap → s₁.toks ≤ s₃.toks →
    wpAny (model prog w) A (eval elt (compEnvC scope cl C env)) (fun y s₄ => F s₄.toks v y ∧ Keeps s₃ s₄) E' s₃

theorem comp_blockT {elt iter : Expr} {x : Str} {px : Pos} {ifs : List Expr} {scope : Scope} {cl : List (Str × Addr)} {pos : Pos} {s₁ s₂ : Shared} {I : Addr} {fa : List Addr} {n : Nat} {P : Nat → Value → Prop} {St : Nat → Heap → Prop}
    (It : Iter prog w A I (I :: fa) n P St) (hsz : n ≤ sizeLine) (p : Value → Bool) (F : Nat → Value → Value → Prop) {RR : Value → Addr → Result → Shared → Prop}
    (hcell : ∀ y ∈ scope.names, y.2 ≠ .cell) (hkind : scope.kind = .function) (hx : scope.names.lookup x = some .local) (hst : St 0 s₂.heap) (hfp : ∀ b ∈ I :: fa, b < s₂.heap.objs.size)
    (hI : s₁.heap.get? I = none) (k : Keeps s₁ s₂) (ht : s₁.toks ≤ s₂.toks) (hq : QuietT prog w A env scope cl x ifs elt P p F s₁)
    (hRR : ∀ D C s' m' ys (vs : List Value), Keeps s₁ s' → s₁.heap.get? D = none → s₁.heap.get? C = none → D ≠ C → s'.heap.Ns C m' → s'.heap.IsList D ys → vs.length = n → (∀ j v, vs[j]? = some v → P j v) → Paired (F s'.toks) (vs.filter p) ys.toList → s₁.toks ≤ s'.toks →
      RR (.ref D) C (.ok .next) s') :
    wpAny (model prog w) A (newList []) (fun acc s₃ => wpAny (model prog w) A (newFunctionEnv scope env.globals cl [] env.qual none .none (some env)) (fun cenv s₄ =>
      codeAny (model prog w) A (.compStart (.ListComp elt [⟨.Name x px, iter, ifs, 0⟩] scope pos) 0 (.ref I) acc { cenv with scope := relabel scope env }) (RR acc cenv.locals) s₄) E s₃) E s₂ := by
  have k₁₂ := kExt k
  obtain ⟨hh₂, tk₂, rfl, _⟩ := k
  refine wpAny_newObj_type (wpAny_newFunctionEnv hcell (by intro y hy; simp at hy) (fun h₁ hns₁ hsb₁ => ?_) hkind)
  dsimp only at hns₁ hsb₁ hst hfp ht k₁₂ ⊢
  generalize hH2 : hh₂.push { cls := .type "list", dict := none, data := .seq ([] : List Value).toArray } = H2 at hns₁ hsb₁ ⊢
  have hC : H2.objs.size = hh₂.objs.size + 1 := by rw [← hH2, Heap.size_push]
  have hDC : hh₂.objs.size ≠ H2.objs.size := by rw [hC]; exact Nat.ne_of_lt (Nat.lt_succ_self _)
  have old : ∀ b o, hh₂.get? b = some o → h₁.get? b = some o := fun b o e => by
    have lt := Heap.lt_size e
    exact hsb₁.extBut b o (by rw [hC]; exact Nat.ne_of_lt (Nat.lt_succ_of_lt lt)) (Heap.get?_push_of_some _ (hH2 ▸ Heap.get?_push_of_some _ e))
  have hacc : h₁.PlainList hh₂.objs.size #[] := ⟨_, hsb₁.extBut _ _ hDC (Heap.get?_push_of_some _ (hH2 ▸ Heap.get?_push_size _ rfl))⟩
  have hst₁ : St 0 h₁ := It.W.frame _ _ _ hst fun b _ o e => old b o e
  have hD₁ : s₁.heap.get? hh₂.objs.size = none := kts_none k₁₂ (get_none_of_ge (Nat.le_refl _))
  have hC₁ : s₁.heap.get? H2.objs.size = none := kts_none k₁₂ (get_none_of_ge (by rw [hC]; exact Nat.le_succ _))
  have ex : ∀ {h' : Heap}, (∀ b o, b ≠ H2.objs.size → b ≠ I → b ≠ hh₂.objs.size → h₁.get? b = some o → h'.get? b = some o) → Ext s₁.heap h' := fun hk b o e => by
    refine hk b o ?_ ?_ ?_ (old b o (k₁₂ b o e))
    · rintro rfl; rw [hC₁] at e; cases e
    · rintro rfl; rw [hI] at e; cases e
    · rintro rfl; rw [hD₁] at e; cases e
  have loop : codeAny (model prog w) A (.compLoop (.ListComp elt [⟨.Name x px, iter, ifs, 0⟩] scope pos) 0 (.ref I) (.ref hh₂.objs.size) (compEnvC scope cl H2.objs.size env))
        (RR (.ref hh₂.objs.size) H2.objs.size) { s₁ with heap := h₁, toks := tk₂ + ([] : List (Str × Value)).length } := by
    refine comp_loopT (cenv := compEnvC scope cl H2.objs.size env) It p F hq.mono (lookup_relabel_local hx) hkind hDC (fun q => Nat.lt_irrefl _ (hfp _ q)) (fun q => ?_) hst₁ hacc hns₁ hsz
      (fun i v s₂ m₂ E' hP hn hm hk ht₂ => hq.tests _ i v s₂ m₂ E' hP hn hm (ex hk) (Nat.le_trans ht ht₂))
      (fun i v s₂ m₂ E' hP hp hn hm hk ht₂ => hq.elt _ i v s₂ m₂ E' hP hp hn hm (ex hk) (Nat.le_trans ht ht₂)) ?_
    · have := hfp _ q; change H2.objs.size < _ at this; rw [hC] at this; omega
    · rintro s' m' ys vs ⟨h, tk, rfl⟩ hn hl hlen hP hF ht₂ hk
      exact hRR _ _ _ m' ys vs ⟨_, _, rfl, ex hk⟩ hD₁ hC₁ hDC hn hl hlen hP hF (Nat.le_trans ht ht₂)
  exact codeAny_compStart_list loop (It.W.self 0 _ _ _ hst₁ loop)

/-- a comprehension that is assigned to a name: the store stands within its block; the items' tokens are told -/
theorem assign_compT {elt iter : Expr} {x y : Str} {px py : Pos} {ifs : List Expr} {scope : Scope} {cl : List (Str × Addr)} {pos spos : Pos} {Q : Flow → Shared → Prop}
    (hsw : swapsWith (.ListComp elt [⟨.Name x px, iter, ifs, 0⟩] scope pos) (some (.Name y py)) spos.line env = pure true)
    (hclos : closureFor scope env = pure cl) (hcell : ∀ z ∈ scope.names, z.2 ≠ .cell) (hkind : scope.kind = .function)
    (hnames : ∀ z ∈ scope.names, z.2 = .local → scope.names.lookup z.1 = some .local) (hx : scope.names.lookup x = some .local)
    (hs : ∀ x, foldedSetIterable iter env x = pure x)
    (h : wpAny (model prog w) A (eval iter env) (fun xv s₁ => ∃ n P fa p F, n ≤ sizeLine ∧ wpAny (model prog w) A (pyIter xv) (Src prog w A s₁ n P fa) E s₁ ∧ QuietT prog w A env scope cl x ifs elt P p F s₁ ∧
      (∀ D C m' s₂ ys (vs : List Value), Keeps s₁ s₂ → s₁.heap.get? D = none → s₁.heap.get? C = none → D ≠ C → s₂.heap.Ns C m' → s₂.heap.IsList D ys → vs.length = n → (∀ j v, vs[j]? = some v → P j v) → Paired (F s₂.toks) (vs.filter p) ys.toList → s₁.toks ≤ s₂.toks →
        wpAny (model prog w) A (storeName env y (.ref D)) (fun _ s₃ => ∃ m'', s₃.heap.Ns C m'' ∧ ∀ s₄, (∃ h₄, s₄ = { s₃ with heap := h₄ }) → Heap.SameBut C s₃.heap s₄.heap → Q .next s₄) E s₂)) E s) :
    wpAny (model prog w) A (exec (.Assign [.Name y py] (.ListComp elt [⟨.Name x px, iter, ifs, 0⟩] scope pos) spos) env) Q E s := by
  rw [exec_Assign_Name_used _ _ _ _ hsw]
  refine wpAny_bind (wpAny_standAt (wpAny_bind ?_))
  show wpAny _ A (do let _ ← comprehension (.ListComp elt [⟨.Name x px, iter, ifs, 0⟩] scope pos) scope env _ (newList []) false (eval iter env) (some (assign (.Name y py) env))) _ _ s
  refine wpAny_bind (wpAny_mono (wpAny_comprehension_free (use := some (assign (.Name y py) env)) (Q := fun _ s' => Q .next s') rfl hs hclos hkind hnames
    (wpAny_mono h (fun xv s₁ h₁ => ?_) fun _ _ e => e)) (fun _ s' hq => wpAny_pure (wpAny_pure hq)) fun _ _ e => e)
  obtain ⟨n, P, fa, p, F, hn, hit, hq, hQ⟩ := h₁
  refine wpAny_with_toks (Nat.le_refl s₁.toks) (wpAny_mono hit (fun it s₂ h₂ (ht : s₁.toks ≤ s₂.toks) => ?_) fun _ _ q _ => q)
  obtain ⟨I, St, rfl, kk, It, st, hfp, hI⟩ := h₂
  refine comp_blockT (RR := fun acc C => compPost (model prog w) A E (some (assign (.Name y py) env)) (fun _ s' => Q .next s') acc C) It hn p F hcell hkind hx st hfp hI kk ht hq ?_
  intro D C s' m' ys vs ks hD hC hDC hnC hlD hlen hP hF ht'
  show wpAny _ A (assign (.Name y py) env (.ref D)) _ _ _
  refine wpAny_assign_Name (wpAny_mono (hQ D C m' _ ys vs ks hD hC hDC hnC hlD hlen hP hF ht') (fun _ s₃ h₃ => ?_) fun _ _ q => q)
  obtain ⟨m'', hn'', hq''⟩ := h₃
  exact ⟨m'', hn'', fun h₄ hs₄ => hq'' _ ⟨h₄, rfl⟩ hs₄⟩

/-- a list comprehension whose items are plain values, their tokens told -/
theorem comp_rule {elt iter : Expr} {x : Str} {px : Pos} {ifs : List Expr} {scope : Scope} {cl : List (Str × Addr)} {pos : Pos} {Q : Value → Shared → Prop}
    (hclos : closureFor scope env = pure cl) (hcell : ∀ y ∈ scope.names, y.2 ≠ .cell) (hkind : scope.kind = .function)
    (hnames : ∀ y ∈ scope.names, y.2 = .local → scope.names.lookup y.1 = some .local) (hx : scope.names.lookup x = some .local)
    (hs : ∀ x, foldedSetIterable iter env x = pure x)
    (h : wpAny (model prog w) A (eval iter env) (fun xv s₁ => ∃ n P fa p F, n ≤ sizeLine ∧ wpAny (model prog w) A (pyIter xv) (Src prog w A s₁ n P fa) E s₁ ∧ QuietT prog w A env scope cl x ifs elt P p F s₁ ∧
      (∀ D s' ys (vs : List Value), Keeps s₁ s' → s₁.heap.get? D = none → s'.heap.IsList D ys → vs.length = n → (∀ j v, vs[j]? = some v → P j v) → Paired (F s'.toks) (vs.filter p) ys.toList → s₁.toks ≤ s'.toks → Q (.ref D) s')) E s) :
    wpAny (model prog w) A (eval (.ListComp elt [⟨.Name x px, iter, ifs, 0⟩] scope pos) env) Q E s := by
  rw [eval_ListComp]
  refine wpAny_comprehension_free (use := none) rfl hs hclos hkind hnames (wpAny_mono h (fun xv s₁ h₁ => ?_) fun _ _ q => q)
  obtain ⟨n, P, fa, p, F, hn, hit, hq, hQ⟩ := h₁
  refine wpAny_with_toks (Nat.le_refl s₁.toks) (wpAny_mono hit (fun it s₂ h₂ (ht : s₁.toks ≤ s₂.toks) => ?_) fun _ _ q _ => q)
  obtain ⟨I, St, rfl, kk, It, st, hfp, hI⟩ := h₂
  refine comp_blockT (RR := fun acc C => compPost (model prog w) A E none Q acc C) It hn p F hcell hkind hx st hfp hI kk ht hq ?_
  intro D C s' m' ys vs ks hD hC hDC hnC hl hlen hP hF ht'
  obtain ⟨hp, tk, rfl, ke⟩ := ks
  refine ⟨m', hnC, fun h'' sb => hQ D _ ys vs (kBoth ?_) hD (hl.extBut sb.extBut hDC) hlen hP hF ht'⟩
  intro b o e
  exact sb.extBut b o (by rintro rfl; rw [hC] at e; cases e) (ke b o e)
end
end Mine

namespace Mine

abbrev dI (ns : List Int) : PyData := .list (ns.map .int)
abbrev dLL (nss : List (List Int)) : PyData := .list (nss.map dI)

theorem ints_reads {h : Heap} : ∀ {vs : List Value} {ns : List Int}, IntsAre vs ns → ReadsAll h vs (ns.map .int) [] := by
  intro vs ns hI
  induction hI with
  | nil => exact .nil
  | cons n t _ ih => exact ReadsAll.cons (as := []) (bs := []) (Reads.int _ _) ih
theorem IL.reads {h : Heap} {v : Value} {ns : List Int} (x : IL h v ns) : ∃ as, Reads h v (dI ns) as := by
  obtain ⟨a, vs, rfl, ⟨o, ho, hc, n, hd⟩, hI⟩ := x
  exact ⟨_, Reads.list ho hc hd (ints_reads hI)⟩
theorem lists_reads {h : Heap} : ∀ {vs : List Value} {nss : List (List Int)}, Paired (IL h) vs nss → ∃ as, ReadsAll h vs (nss.map dI) as := by
  intro vs nss hP
  induction hP with
  | nil => exact ⟨_, .nil⟩
  | cons hx _ ih => obtain ⟨as, r⟩ := ih; obtain ⟨bs, q⟩ := hx.reads; exact ⟨_, .cons q r⟩
theorem LL.reads {h : Heap} {v : Value} {nss : List (List Int)} (x : LL h v nss) : ∃ as, Reads h v (dLL nss) as := by
  obtain ⟨a, vs, rfl, ⟨o, ho, hc, n, hd⟩, hI⟩ := x
  obtain ⟨as, r⟩ := lists_reads hI
  exact ⟨_, Reads.list ho hc hd r⟩

theorem lay_ints : ∀ ns : List Int, PyData.canLayAll0 (ns.map .int) = true
  | [] => rfl
  | n :: ns => by rw [List.map_cons, PyData.canLayAll0, PyData.canLay0, lay_ints ns]; rfl
theorem lay_dI (ns : List Int) : (dI ns).canLay0 = true := lay_ints ns
theorem lay_lists : ∀ nss : List (List Int), PyData.canLayAll0 (nss.map dI) = true
  | [] => rfl
  | n :: ns => by rw [List.map_cons, PyData.canLayAll0, lay_dI, lay_lists ns]; rfl
theorem depth_ints : ∀ ns : List Int, PyData.depthAll (ns.map .int) = 0
  | [] => rfl
  | n :: ns => by rw [List.map_cons, PyData.depthAll, depth_ints ns, PyData.depth]; rfl
theorem depth_dI (ns : List Int) : (dI ns).depth = 1 := by rw [PyData.depth, depth_ints]
theorem eqvAll_ints : ∀ a b : List Int, PyData.eqvAll (a.map .int) (b.map .int) = (a == b)
  | [], [] => rfl
  | [], _ :: _ => rfl
  | _ :: _, [] => rfl
  | x :: a, y :: b => by
    rw [List.map_cons, List.map_cons, PyData.eqvAll, eqvAll_ints a b, PyData.eqv]; rfl
theorem eqv_dI (a b : List Int) : PyData.eqv (dI a) (dI b) = (a == b) := by rw [PyData.eqv]; exact eqvAll_ints a b

section
variable {prog : Program} {w : World} {A : Around} {E : Value → Shared → Prop} {s : Shared} {Q : Value → Shared → Prop}

theorem in_LL {x c : Value} {nss : List (List Int)} {t : List Int} (hc : LL s.heap c nss) (hx : IL s.heap x t) (hu : A.units + 2 < cLine) (h : Q (.bool (nss.any fun y => y == t)) s) :
    wpAny (model prog w) A (compareOp .In x c) Q E s := by
  obtain ⟨as, rc⟩ := hc.reads
  obtain ⟨bs, rx⟩ := hx.reads
  refine SeqAt.in_list_reads rc rx (lay_lists _) (lay_dI _) (by rw [depth_dI]; omega) ?_
  rw [List.any_map]
  have e : ((fun y => PyData.eqv y (dI t)) ∘ dI) = fun y : List Int => y == t := by funext y; exact eqv_dI y t
  rw [e]; exact h
theorem in_IL {c : Value} {ns : List Int} {k : Int} {t : Tok} (hc : IL s.heap c ns) (hu : A.units + 2 < cLine) (h : Q (.bool (ns.any fun y => y == k)) s) :
    wpAny (model prog w) A (compareOp .In (.int k t) c) Q E s := by
  obtain ⟨as, rc⟩ := hc.reads
  refine SeqAt.in_list_reads rc (.int k t) (lay_ints _) rfl (by simp [PyData.depth]; omega) ?_
  rw [List.any_map]
  have e : ((fun y => PyData.eqv y (PyData.int k)) ∘ PyData.int) = fun y : Int => y == k := by funext y; rfl
  rw [e]; exact h
theorem notIn_IL {c : Value} {ns : List Int} {k : Int} {t : Tok} (hc : IL s.heap c ns) (hu : A.units + 2 < cLine) (h : Q (.bool (!ns.any fun y => y == k)) s) :
    wpAny (model prog w) A (compareOp .NotIn (.int k t) c) Q E s := by
  obtain ⟨as, rc⟩ := hc.reads
  refine SeqAt.notIn_list_reads rc (.int k t) (lay_ints _) rfl (by simp [PyData.depth]; omega) ?_
  rw [List.any_map]
  have e : ((fun y => PyData.eqv y (PyData.int k)) ∘ PyData.int) = fun y : Int => y == k := by funext y; rfl
  rw [e]; exact h
theorem eq_IL {x y : Value} {a b : List Int} (hx : IL s.heap x a) (hy : IL s.heap y b) (hu : A.units + 2 < cLine) (h : Q (.bool (a == b)) s) :
    wpAny (model prog w) A (compareOp .Eq x y) Q E s := by
  obtain ⟨as, rx⟩ := hx.reads
  obtain ⟨bs, ry⟩ := hy.reads
  exact SeqAt.compareEq_reads rx ry (lay_dI _) (lay_dI _) (by rw [depth_dI, depth_dI]; omega) (by rw [eqv_dI]; exact h)
theorem ne_IL {x y : Value} {a b : List Int} (hx : IL s.heap x a) (hy : IL s.heap y b) (hu : A.units + 2 < cLine) (h : Q (.bool (!(a == b))) s) :
    wpAny (model prog w) A (compareOp .NotEq x y) Q E s := by
  obtain ⟨as, rx⟩ := hx.reads
  obtain ⟨bs, ry⟩ := hy.reads
  exact SeqAt.compareNe_reads rx ry (lay_dI _) (lay_dI _) (by rw [depth_dI, depth_dI]; omega) (by rw [eqv_dI]; exact h)

/-- contains(a, b) of a list of lists of ints and a list of ints -/
theorem contains_LL {a b : Value} {nss : List (List Int)} {t : List Int}
    (X : Wd w s.heap) (hroom : A.depth < 990) (hu : A.units < 9000) (ha : LL s.heap a nss) (hb : IL s.heap b t)
    (h : ∀ s', Keeps s s' → Q (.bool (nss.any fun y => y == t)) s') :
    wpAny (model prog w) A (call (.ref 28) [a, b]) Q E s := by
  refine call_fn X (by unfold recursionLimit; omega) [("a", a), ("b", b)] (fun y => if y = "b" then some b else if y = "a" then some a else none) (fun _ => none) rfl rfl rfl rfl rfl rfl rfl rfl rfl (fun _ => rfl) (fun _ => rfl) ?_
  intro L s₁ x
  refine wpAny_execs_cons (wpAny_Return_some (wpAny_Compare1 ?_))
  refine NameLC x rfl rfl rfl ?_ (by decide)
  refine NameLC x rfl rfl rfl ?_ (by decide)
  exact in_LL (ha.ext (cBase x)) (hb.ext (cBase x)) (by simp [Around.deeper, cLine]; omega) (h _ (cDone x))
end
end Mine

namespace Mine

/-- the least natural number that a list lacks -/
def mex (l : List Nat) : Nat := ((List.range (l.length + 1)).find? fun k => !l.contains k).getD 0
def IsMex (l : List Nat) (k : Nat) : Prop := k ∉ l ∧ ∀ j, j < k → j ∈ l
theorem IsMex.unique {l : List Nat} {a b : Nat} (ha : IsMex l a) (hb : IsMex l b) : a = b := by
  rcases Nat.lt_trichotomy a b with h | h | h
  · exact absurd (hb.2 a h) ha.1
  · exact h
  · exact absurd (ha.2 b h) hb.1
theorem pigeon : ∀ (n : Nat) (l : List Nat), (∀ k, k < n → k ∈ l) → n ≤ l.length
  | 0, _, _ => Nat.zero_le _
  | n + 1, l, h => by
    have hn : n ∈ l := h n (Nat.lt_succ_self n)
    have ih := pigeon n (l.erase n) fun k hk => (List.mem_erase_of_ne (Nat.ne_of_lt hk)).mpr (h k (Nat.lt_succ_of_lt hk))
    rw [List.length_erase_of_mem hn] at ih
    have : 0 < l.length := List.length_pos_of_mem hn
    omega
theorem mex_isMex (l : List Nat) : IsMex l (mex l) := by
  unfold mex
  cases h : (List.range (l.length + 1)).find? fun k => !l.contains k with
  | none =>
    exfalso
    rw [List.find?_eq_none] at h
    have := pigeon (l.length + 1) l fun k hk => by
      have := h k (List.mem_range.mpr hk)
      simpa using this
    omega
  | some k =>
    rw [Option.getD_some]
    rw [List.find?_range_eq_some] at h
    refine ⟨by simpa using h.1, fun j hj => by simpa using h.2.2 j hj⟩

theorem IL_of_int {h : Heap} {a : Addr} {k : Int} {t : Tok} (x : h.IsList a [Value.int k t].toArray) : IL h (.ref a) [k] := ⟨a, [.int k t], rfl, x, .cons _ _ .nil⟩
theorem nat_beq (n i : Nat) : ((n : Int) == (i : Int)) = (i == n) := by
  by_cases h : i = n
  · subst h; simp
  · have h2 : ¬ (n : Int) = (i : Int) := by omega
    rw [beq_eq_false_iff_ne.mpr h2, beq_eq_false_iff_ne.mpr h]

section
variable {prog : Program} {w : World} {A : Around} {E : Value → Shared → Prop} {s : Shared} {Q : Value → Shared → Prop}

theorem any_one (ns : List Nat) (i : Nat) : ((ns.map fun n : Nat => [(n : Int)]).any fun y => y == [(i : Int)]) = ns.contains i := by
  induction ns with
  | nil => rfl
  | cons n r ih =>
    rw [List.map_cons, List.any_cons, ih, List.contains_cons]
    congr 1
    rw [← nat_beq n i]
    simp

theorem least_spec {row : Value} {ns : List Nat}
    (X : Wd w s.heap) (hh : A.handled = none) (hroom : A.depth < 980) (hu : A.units < 8000) (hr : LL s.heap row (ns.map fun n : Nat => [(n : Int)])) (hlen : ns.length < 1000)
    (h : ∀ s' tk, Keeps s s' → Q (.int (mex ns : Nat) tk) s') :
    wpAny (model prog w) A (call (.ref 54) [row]) Q E s := by
  refine call_fn X (by unfold recursionLimit; omega) [("row", row)] (fun y => if y = "row" then some row else none) (fun _ => none) rfl rfl rfl rfl rfl rfl rfl rfl rfl (fun _ => rfl) (fun _ => rfl) ?_
  intro L s₁ x
  have X₁ : Wd w s₁.heap := X.keeps (cBase x)
  have hr₁ := hr.ext (cBase x)
  refine wpAny_execs_cons (for_rule (s₀ := s) (fun _ => rfl) (wpAny_Call_NameR (nameB X₁ rfl rfl (by decide) ?_ rfl rfl rfl rfl rfl)))
  refine type1 rfl (wpAny_BinOp (wpAny_Call_NameR (nameB X₁ rfl rfl (by decide) ?_ rfl rfl rfl rfl rfl)))
  refine bi1 rfl (NameLC x rfl rfl rfl ?_ (by decide))
  obtain ⟨ra, rvs, rfl, rl, rp⟩ := id hr₁
  have hsz : (List.toArray rvs).size = ns.length := by rw [List.size_toArray, rp.length, List.length_map]
  refine lenL rl (by omega) fun s₂ t₂ k₂ => cInt fun s₃ t₃ k₃ => addI fun s₄ t₄ k₄ => range1 fun s₅ r t₅ v₅ k₅ hrg => ?_
  have k₁₅ := kTrans k₂ (kTrans k₃ (kTrans k₄ k₅))
  refine ⟨_, _, [], [L], fun i s' => ∃ m', InCallC s L m' (envA 54 L).cells (fun _ => none) s' ∧ m' "row" = some (.ref ra) ∧ ∀ k, k < i → k ∈ ns, src_range hh hrg (by decide) (by decide) (by omega) (by omega), kExt (kTrans (cDone x) k₁₅), ?_, ?_, ?_, ?_, ?_⟩
  · intro b hb; rw [List.mem_singleton.mp hb]
    obtain ⟨o, _, _, e, _⟩ := (cKeep x k₁₅).toInCall.ns; exact ⟨o, e⟩
  · intro b hb; cases hb
  · intro s₆ k₆; exact ⟨_, cKeep x (kTrans k₁₅ k₆), rfl, fun k hk => absurd hk (Nat.not_lt_zero _)⟩
  · rintro i v s₆ s₇ hi ⟨t, rfl⟩ ⟨m', x₆, hm, hall⟩ tr
    have x₇ := tr.call x₆
    refine stL (env := envA 54 L) x₇ rfl rfl fun s₈ x₈ sb₈ lk₈ => ?_
    have X₈ : Wd w s₈.heap := X.keeps (cBase x₈)
    refine wpAny_execs_cons (wpAny_If (wpAny_isTrue_Compare1 (wpAny_Call_NameR (nameK X₈ rfl ?_ rfl rfl rfl rfl))))
    refine def2 ⟨_, _, _, _, rfl⟩ rfl (NameLC x₈ rfl rfl hm ?_ (by decide))
    refine List_ (wpAny_items_cons (NameLC x₈ rfl rfl rfl (wpAny_items_nil ?_) (by decide)))
    refine newL (by show 1 ≤ sizeLine; decide) fun s₉ a₉ k₉ _ hl₉ => ⟨wKeep X₈ k₉, ?_⟩
    refine contains_LL (wKeep X₈ k₉) (by simp [Around.deeper]; omega) (by simp [Around.deeper]; omega) ((hr.ext (cBase x₈)).kp k₉) (IL_of_int hl₉) fun s₁₀ k₁₀ => ?_
    have e0 : (0 : Int) + (i : Int) = (i : Int) := by omega
    rw [e0, any_one]
    refine wpAny_Constant_bool (is_bool (wpAny_truthy_bool ?_))
    cases hc : ns.contains i with
    | true =>
      simp only [show (true == false) = false from rfl, Bool.false_eq_true, if_false]
      refine wpAny_execs_nil (wpAny_execs_nil ⟨⟨_, cKeep x₈ (kTrans k₉ k₁₀), hm, fun k hk => ?_⟩, (KB.of_same sb₈ (List.mem_singleton.mpr rfl)).trans (KB.of_ext (kExt (kTrans k₉ k₁₀)))⟩)
      rcases Nat.lt_or_eq_of_le (Nat.le_of_lt_succ hk) with q | rfl
      · exact hall k q
      · simpa using hc
    | false =>
      simp only [show (false == false) = true from rfl, if_true]
      have x₁₀ := cKeep x₈ (kTrans k₉ k₁₀)
      refine wpAny_execs_cons (wpAny_Return_some (NameLC x₁₀ rfl rfl rfl ?_ (by decide)))
      have hmex : mex ns = i := (mex_isMex ns).unique ⟨by simpa using hc, hall⟩
      show Q (.int (0 + (i : Int)) t) s₁₀
      rw [e0, ← hmex]
      exact h _ _ (cDone x₁₀)
  · rintro s₆ s₇ ⟨m', x₆, hm, hall⟩ tr
    exfalso
    have := pigeon _ ns hall
    omega
end
end Mine

namespace Mine

section
variable {prog : Program} {w : World} {A : Around} {E : Value → Shared → Prop} {s : Shared} {env : Env}

theorem addL {l b : Addr} {vs ws : List Value} {Q : Value → Shared → Prop} (hl : s.heap.IsList l vs.toArray) (hb : s.heap.IsList b ws.toArray) (hsz : vs.length + ws.length ≤ sizeLine)
    (h : ∀ s' a, Keeps s s' → s.heap.get? a = none → s'.heap.IsList a (vs ++ ws).toArray → Q (.ref a) s') :
    wpAny (model prog w) A (binaryOp .Add (.ref l) (.ref b)) Q E s := by
  obtain ⟨⟨cls, dd, data, sl⟩, ho, hc, n, hd⟩ := id hl
  obtain ⟨⟨cls2, dd2, data2, sl2⟩, ho2, hc2, n2, hd2⟩ := id hb
  simp only at hc hd hc2 hd2
  subst hc hd hc2 hd2
  have e : vs.toArray ++ ws.toArray = (vs ++ ws).toArray := by simp
  refine concat_meets ⟨_, ho, rfl⟩ ⟨_, ho2, rfl⟩ noFill_list_add seq_list_add PySem.F.slot_list_add PySem.F.entry_list_add (PySem.F.args_list_add_2 _ _) (list_addW l b vs.toArray ws.toArray n n2 dd dd2 sl sl2 (by simpa using hsz)) ⟨ho, ho2, ?_⟩
  rw [e]
  exact h _ _ (kHeap fun b o e => Heap.get?_push_of_some _ e) (get_none_of_ge (Nat.le_refl _)) ⟨_, Heap.get?_push_size _ rfl, rfl, _, rfl⟩

/-- a list's item at a natural number -/
theorem itemN {value slice : Expr} {a : Addr} {items : Array Value} {n : Nat} {u : Tok} {x : Value} {Q : Value → Shared → Prop} (hl : s.heap.IsList a items) (hn : n < 2 ^ 60) (hx : items[n]? = some x) (h : Q x s)
    (hs : subscripted slice false (.ref a) (.int n u) = operate [.ref a, .int n u] (getItem (.ref a) (.int n u)) := by with_unfolding_all rfl) :
    wpAny (model prog w) A (subscriptTail value slice (.ref a) (.int n u)) Q E s :=
  itemL hl (by omega) (by omega) (by rw [Int.toNat_natCast]; exact hx) h hs

/-- names within a block of a comprehension -/
theorem nmL {x : Str} {pos : Pos} {v : Value} {m : Str → Option Value} {Q : Value → Shared → Prop} (hn : s.heap.Ns env.locals m) (hv : m x = some v) (h : Q v s)
    (hk : env.scope.kind = .function) (hl : env.kindOf x = some .local) (hd : (x == ("__debug__" : Str)) = false) : wpAny (model prog w) A (eval (.Name x pos) env) Q E s :=
  wpAny_Name (wpAny_loadName_local hk hl hn hv h) hd
theorem nmC {x : Str} {pos : Pos} {v : Value} {c : Addr} {Q : Value → Shared → Prop} (hc : s.heap.IsCell c (some v)) (h : Q v s)
    (hk : env.scope.kind = .function) (hl : env.kindOf x = some .cell) (hcl : env.cells.lookup x = some c) (hd : (x == ("__debug__" : Str)) = false) : wpAny (model prog w) A (eval (.Name x pos) env) Q E s :=
  wpAny_Name (wpAny_loadName_cell hk hl hcl hc h) hd

/-- no tests -/
theorem noTests {cenv : Env} {v : Value} {p : Value → Bool} {E' : Value → Shared → Prop} (hp : p v = true) : wpAny (model prog w) A (Tests [] cenv) (fun ok s₄ => ok = p v ∧ Keeps s s₄) E' s := by
  show wpAny _ _ (pure true) _ _ _
  exact wpAny_pure ⟨hp.symm, kRefl s⟩
end

/-- the pairs of a Nat table -/
abbrev nz (l : List Nat) : List Int := l.map fun n : Nat => (n : Int)
abbrev nzz (l : List (List Nat)) : List (List Int) := l.map nz
theorem nz_append (a b : List Nat) : nz (a ++ b) = nz a ++ nz b := List.map_append
def fol (mv : List (List Nat)) (i j : Nat) : List (Nat × Nat) := ((mv.getD i []).map fun a => (a, j)) ++ ((mv.getD j []).map fun b => (i, b))
abbrev pz (p : Nat × Nat) : List Int := [(p.1 : Int), (p.2 : Int)]

theorem LL.item {h : Heap} {a : Addr} {vs : List Value} {mv : List (List Nat)} {i : Nat} (hp : Paired (IL h) vs (nzz mv)) (hi : i < mv.length) : ∃ v, (List.toArray vs)[i]? = some v ∧ IL h v (nz (mv.getD i [])) := by
  induction mv generalizing vs i with
  | nil => exact absurd hi (Nat.not_lt_zero _)
  | cons m r ih =>
    cases hp with
    | cons h1 h2 =>
      cases i with
      | zero => exact ⟨_, rfl, h1⟩
      | succ i =>
        obtain ⟨v, e, q⟩ := ih h2 (Nat.lt_of_succ_lt_succ hi)
        exact ⟨v, by simpa using e, by simpa using q⟩

theorem filt (vs : List Value) : vs.filter (fun _ => true) = vs := by simp
theorem eq_of_items {vs items : List Value} (hl : vs.length = (List.toArray items).size) (h : ∀ (j : Nat) (v : Value), vs[j]? = some v → (List.toArray items)[j]? = some v) : vs = items := by
  refine List.ext_getElem? fun j => ?_
  cases e : vs[j]? with
  | some v => have := h j v e; simpa using this.symm
  | none =>
    rw [List.getElem?_eq_none_iff] at e
    rw [eq_comm, List.getElem?_eq_none_iff]
    simp at hl; omega
theorem paired_append {α β : Type} {F : α → β → Prop} {a a' : List α} {b b' : List β} (h : Paired F a b) (h' : Paired F a' b') : Paired F (a ++ a') (b ++ b') := by
  induction h with
  | nil => exact h'
  | cons x _ ih => exact .cons x ih
theorem paired_left {h : Heap} {c : Int} {tc : Tok} {vs ys : List Value} {l : List Nat} (hI : IntsAre vs (nz l)) (hp : Paired (fun v y => ∃ T its, y = .ref T ∧ h.IsList T its ∧ its = [v, .int c tc].toArray) vs ys) :
    Paired (IL h) ys (l.map fun a : Nat => [(a : Int), c]) := by
  induction l generalizing vs ys with
  | nil => cases hI; cases hp; exact .nil
  | cons n r ih =>
    cases hI with
    | cons _ t hI =>
      cases hp with
      | cons hx hp =>
        obtain ⟨T, its, rfl, hl, rfl⟩ := hx
        exact .cons ⟨T, _, rfl, hl, .cons _ _ (.cons _ _ .nil)⟩ (ih hI hp)
theorem paired_right {h : Heap} {c : Int} {tc : Tok} {vs ys : List Value} {l : List Nat} (hI : IntsAre vs (nz l)) (hp : Paired (fun v y => ∃ T its, y = .ref T ∧ h.IsList T its ∧ its = [.int c tc, v].toArray) vs ys) :
    Paired (IL h) ys (l.map fun a : Nat => [c, (a : Int)]) := by
  induction l generalizing vs ys with
  | nil => cases hI; cases hp; exact .nil
  | cons n r ih =>
    cases hI with
    | cons _ t hI =>
      cases hp with
      | cons hx hp =>
        obtain ⟨T, its, rfl, hl, rfl⟩ := hx
        exact .cons ⟨T, _, rfl, hl, .cons _ _ (.cons _ _ .nil)⟩ (ih hI hp)

section
variable {prog : Program} {w : World} {A : Around} {E : Value → Shared → Prop} {s : Shared} {Q : Value → Shared → Prop}

theorem followers_spec {mvv : Value} {mv : List (List Nat)} {i j : Nat} {ti tj : Tok}
    (X : Wd w s.heap) (hh : A.handled = none) (hroom : A.depth < 980) (hu : A.units < 8000) (hm : LL s.heap mvv (nzz mv)) (hi : i < mv.length) (hj : j < mv.length) (hlen : ∀ l ∈ mv, l.length < 1000) (hl7 : mv.length < 1000)
    (h : ∀ s' r, Keeps s s' → LL s'.heap r ((fol mv i j).map pz) → Q r s') :
    wpAny (model prog w) A (call (.ref 64) [mvv, .int i ti, .int j tj]) Q E s := by
  refine call_fn X (by unfold recursionLimit; omega) [("moves", mvv), ("i", .int i ti), ("j", .int j tj)] (fun y => if y = "moves" then some mvv else none)
    (fun y => if y = "j" then some (.int j tj) else if y = "i" then some (.int i ti) else none) rfl rfl rfl rfl rfl rfl rfl rfl rfl (fun _ => rfl) (fun _ => rfl) ?_
  intro L s₁ x
  have hm₁ := hm.ext (cBase x)
  obtain ⟨ma, mvs, rfl, ml, mp⟩ := id hm₁
  obtain ⟨vi, ei, li⟩ := LL.item (a := ma) mp hi
  obtain ⟨vj, ej, lj⟩ := LL.item (a := ma) mp hj
  obtain ⟨ai, vsi, rfl, lli, ii⟩ := id li
  obtain ⟨aj, vsj, rfl, llj, ij⟩ := id lj
  refine wpAny_execs_cons (wpAny_Return_some (wpAny_BinOp ?_))
  refine comp_ruleO (by with_unfolding_all rfl) (by decide) rfl (by decide) rfl (fun _ => rfl) ?_
  refine Subscript_ (NameLC x rfl rfl rfl (NameCC x rfl rfl rfl rfl ?_ (by decide)) (by decide))
  refine itemN ml (by omega) ei ?_
  have sz : ∀ {l : List Nat} {vs : List Value}, l ∈ mv → IntsAre vs (nz l) → vs.length < 1000 := fun {l vs} hl hI => by
    have e1 := hI.length; have e2 := hlen l hl; simp at e1; omega
  have hmi : mv.getD i [] ∈ mv := by rw [List.getD_eq_getElem?_getD, List.getElem?_eq_getElem hi]; exact List.getElem_mem hi
  have hmj : mv.getD j [] ∈ mv := by rw [List.getD_eq_getElem?_getD, List.getElem?_eq_getElem hj]; exact List.getElem_mem hj
  have szi := sz hmi ii
  have szj := sz hmj ij
  refine ⟨_, _, _, fun _ => true, fun v its => its = [v, .int j tj].toArray, by simp only [List.size_toArray]; unfold sizeLine; omega, src_list hh lli, ⟨fun C i v s₃ m₃ E' _ _ _ _ => noTests (p := fun _ => true) (v := v) rfl, ?_⟩, ?_⟩
  · intro C k v s₃ m₃ E' hv _ hn hm₃ ke
    refine List_ (wpAny_items_cons (nmL hn hm₃ (wpAny_items_cons (nmC ((x.cell "j" _ rfl).keeps ke) (wpAny_items_nil ?_) rfl rfl rfl (by decide))) rfl rfl (by decide)))
    refine newL (by show 2 ≤ sizeLine; decide) fun s₄ a₄ k₄ n₄ l₄ => ⟨⟨a₄, _, rfl, n₄, l₄, rfl⟩, k₄⟩
  intro D₁ s₂ ys₁ vs₁ k₂ _ lD₁ len₁ hv₁ F₁
  have x₂ := cKeep x k₂
  refine comp_ruleO (by with_unfolding_all rfl) (by decide) rfl (by decide) rfl (fun _ => rfl) ?_
  refine Subscript_ (NameLC x₂ rfl rfl rfl (NameCC x₂ rfl rfl rfl rfl ?_ (by decide)) (by decide))
  refine itemN (isList_kp ml k₂) (by omega) ej ?_
  refine ⟨_, _, _, fun _ => true, fun v its => its = [.int i ti, v].toArray, by simp only [List.size_toArray]; unfold sizeLine; omega, src_list hh (isList_kp llj k₂), ⟨fun C i v s₃ m₃ E' _ _ _ _ => noTests (p := fun _ => true) (v := v) rfl, ?_⟩, ?_⟩
  · intro C k v s₃ m₃ E' hv _ hn hm₃ ke
    refine List_ (wpAny_items_cons (nmC ((x₂.cell "i" _ rfl).keeps ke) (wpAny_items_cons (nmL hn hm₃ (wpAny_items_nil ?_) rfl rfl (by decide))) rfl rfl rfl (by decide)))
    refine newL (by show 2 ≤ sizeLine; decide) fun s₄ a₄ k₄ n₄ l₄ => ⟨⟨a₄, _, rfl, n₄, l₄, rfl⟩, k₄⟩
  intro D₂ s₃ ys₂ vs₂ k₃ _ lD₂ len₂ hv₂ F₂
  have x₃ := cKeep x₂ k₃
  have ty : ∀ ys : Array Value, ys.toList.toArray = ys := fun ys => by simp
  refine addL (vs := ys₁.toList) (ws := ys₂.toList) (by rw [ty]; exact isList_kp lD₁ k₃) (by rw [ty]; exact lD₂) ?_ ?_
  · have e1 := F₁.length; have e2 := F₂.length
    rw [filt] at e1 e2
    simp only [List.size_toArray] at len₁ len₂
    unfold sizeLine; omega
  · intro s₄ a₄ k₄ _ l₄
    refine h _ _ (kTrans (cDone x₃) k₄) ⟨a₄, _, rfl, l₄, ?_⟩
    rw [filt] at F₁ F₂
    have q₁ := eq_of_items len₁ hv₁
    have q₂ := eq_of_items len₂ hv₂
    subst q₁ q₂
    unfold fol
    rw [List.map_append, List.map_map, List.map_map]
    refine paired_append (paired_left ii (F₁.mono fun v y ⟨T, its, e, l, g⟩ => ⟨T, its, e, isList_kp l (kTrans k₃ k₄), g⟩)) (paired_right ij (F₂.mono fun v y ⟨T, its, e, l, g⟩ => ⟨T, its, e, isList_kp l k₄, g⟩))
end
end Mine

namespace Mine

section
variable {prog : Program} {w : World} {A : Around} {E : Value → Shared → Prop} {s : Shared} {env : Env}

theorem newLP {vs : List Value} {Q : Value → Shared → Prop} (hsz : vs.length ≤ sizeLine) (h : ∀ s' a, Keeps s s' → s.heap.get? a = none → PlainL s'.heap a vs.toArray → Q (.ref a) s') : wpAny (model prog w) A (newList vs) Q E s := by
  refine wpAny_newObj_type ?_ (by show vs.toArray.size ≤ sizeLine; rw [List.size_toArray]; exact hsz)
  exact h _ _ (kHeap fun b o e => Heap.get?_push_of_some _ e) (get_none_of_ge (Nat.le_refl _)) ⟨_, _, Heap.get?_push_size _ rfl, rfl, rfl, rfl⟩

/-- append to a list of one's own -/
theorem appL {D : Addr} {vs : List Value} {x : Value} {Q : Value → Shared → Prop} (hl : PlainL s.heap D vs.toArray) (hsz : vs.length ≤ sizeLine)
    (h : ∀ s', (∃ h', s' = { s with heap := h' }) → PlainL s'.heap D (vs ++ [x]).toArray → Heap.SameBut D s.heap s'.heap → Q .none s') : wpAny (model prog w) A (call (.builtin "list.append") [.ref D, x]) Q E s := by
  refine list_append_plainL hl (fun h' hp sb => h _ ⟨h', rfl⟩ (by simpa using hp) sb) (by simpa using hsz)

theorem plainL_lk {h h' : Heap} {a : Addr} {xs : Array Value} (x : PlainL h a xs) (k : LK h h') : PlainL h' a xs :=
  let ⟨o, n, e, c, d, q⟩ := x; ⟨o, n, k a o ⟨_, _, q⟩ e, c, d, q⟩
theorem list_ne_ns {h : Heap} {a L : Addr} {xs : Array Value} {m : Str → Option Value} (x : h.IsList a xs) (n : h.Ns L m) : a ≠ L := by
  rintro rfl
  obtain ⟨o, ho, _, k, hd⟩ := x
  obtain ⟨o', es, ep, ho', hd', _⟩ := n
  rw [ho] at ho'; cases ho'; rw [hd] at hd'; cases hd'
theorem list_ne_cell {h : Heap} {a c : Addr} {xs : Array Value} {v : Option Value} (x : h.IsList a xs) (n : h.IsCell c v) : a ≠ c := by
  rintro rfl
  obtain ⟨o, ho, _, k, hd⟩ := x
  obtain ⟨o', ho', hd'⟩ := n
  rw [ho] at ho'; cases ho'; rw [hd] at hd'; cases hd'

theorem cApp {s₀ s s' : Shared} {L D : Addr} {m cm : Str → Option Value} {cs : List (Str × Addr)} {xs : Array Value} (x : InCallC s₀ L m cs cm s) (hl : s.heap.IsList D xs) (sm : ∃ h', s' = { s with heap := h' }) (sb : Heap.SameBut D s.heap s'.heap) (h0 : s₀.heap.get? D = none) :
    InCallC s₀ L m cs cm s' := by
  obtain ⟨h', rfl⟩ := sm
  refine ⟨⟨?_, x.toInCall.ns.sameBut sb (Ne.symm (list_ne_ns hl x.toInCall.ns)), fun b o e => ?_, x.toInCall.fresh⟩, fun n c e => ?_, x.apart, x.above⟩
  · obtain ⟨h₁, tk, rfl⟩ := x.toInCall.same; exact ⟨_, _, rfl⟩
  · refine (sb.2 b ?_).trans (x.toInCall.keep b o e)
    rintro rfl; rw [h0] at e; cases e
  · exact (x.cell n c e).sameBut sb (Ne.symm (list_ne_cell hl (x.cell n c e)))
end

/-- the numbers of the positions, one after the other -/
def numbStep (acc : List Nat) (ways : List Nat) : List Nat := acc ++ [mex (ways.map fun j => acc.getD j 0)]
def numbTo (mv : List (List Nat)) (k : Nat) : List Nat := (mv.take k).foldl numbStep []
def numb (mv : List (List Nat)) : List Nat := mv.foldl numbStep []
theorem numbTo_zero (mv : List (List Nat)) : numbTo mv 0 = [] := rfl
theorem numbTo_succ {mv : List (List Nat)} {k : Nat} (h : k < mv.length) : numbTo mv (k + 1) = numbStep (numbTo mv k) (mv.getD k []) := by
  unfold numbTo
  rw [List.take_succ_eq_append_getElem h, List.foldl_append]
  simp [List.getD_eq_getElem?_getD, List.getElem?_eq_getElem h]
theorem numbTo_all (mv : List (List Nat)) : numbTo mv mv.length = numb mv := by unfold numbTo numb; rw [List.take_length]
theorem numbTo_len {mv : List (List Nat)} : ∀ {k : Nat}, k ≤ mv.length → (numbTo mv k).length = k
  | 0, _ => rfl
  | k + 1, h => by rw [numbTo_succ h, numbStep, List.length_append, List.length_singleton, numbTo_len (Nat.le_of_succ_le h)]

theorem intsAre_snoc {vs : List Value} {ns : List Int} {n : Int} {t : Tok} (h : IntsAre vs ns) : IntsAre (vs ++ [.int n t]) (ns ++ [n]) := h.append (.cons _ _ .nil)
theorem ints_at {vs : List Value} {l : List Nat} (h : IntsAre vs (nz l)) {j : Nat} (hj : j < l.length) : ∃ t, (List.toArray vs)[j]? = some (.int (l.getD j 0 : Nat) t) := by
  induction l generalizing vs j with
  | nil => exact absurd hj (Nat.not_lt_zero _)
  | cons n r ih =>
    cases h with
    | cons _ t h =>
      cases j with
      | zero => exact ⟨t, rfl⟩
      | succ j =>
        obtain ⟨t', e⟩ := ih h (Nat.lt_of_succ_lt_succ hj)
        exact ⟨t', by simpa using e⟩
theorem ints_inv {vs : List Value} {l : List Nat} (h : IntsAre vs (nz l)) {j : Nat} {v : Value} (e : (List.toArray vs)[j]? = some v) : j < l.length ∧ ∃ t, v = .int (l.getD j 0 : Nat) t := by
  have hl := h.length
  have hj : j < l.length := by
    have : j < vs.length := by
      rcases Nat.lt_or_ge j vs.length with q | q
      · exact q
      · rw [List.getElem?_toArray, List.getElem?_eq_none q] at e; cases e
    simpa [hl] using this
  obtain ⟨t, q⟩ := ints_at h hj
  rw [q] at e
  exact ⟨hj, t, (Option.some.inj e).symm⟩
theorem getD_mem {l : List Nat} {j : Nat} (h : j < l.length) : l.getD j 0 ∈ l := by
  rw [List.getD_eq_getElem?_getD, List.getElem?_eq_getElem h]; exact List.getElem_mem h
theorem getD_memL {l : List (List Nat)} {j : Nat} (h : j < l.length) : l.getD j [] ∈ l := by
  rw [List.getD_eq_getElem?_getD, List.getElem?_eq_getElem h]; exact List.getElem_mem h

/-- the rows [[f j] for j in ways] -/
theorem paired_rows {h : Heap} {vs ys : List Value} {l : List Nat} {f : Nat → Nat} (hI : IntsAre vs (nz l))
    (hp : Paired (fun v y => ∃ T its, y = .ref T ∧ h.IsList T its ∧ ∀ (n : Nat) t, v = .int n t → ∃ u, its = [Value.int (f n : Nat) u].toArray) vs ys) : Paired (IL h) ys ((l.map f).map fun n : Nat => [(n : Int)]) := by
  induction l generalizing vs ys with
  | nil => cases hI; cases hp; exact .nil
  | cons n r ih =>
    cases hI with
    | cons _ t hI =>
      cases hp with
      | cons hx hp =>
        obtain ⟨T, its, rfl, hl, hu⟩ := hx
        obtain ⟨u, rfl⟩ := hu n t rfl
        exact .cons ⟨T, _, rfl, hl, .cons _ _ .nil⟩ (ih hI hp)

/-- each position goes to lower ones alone -/
def Lower (mv : List (List Nat)) : Prop := ∀ i, i < mv.length → ∀ j ∈ mv.getD i [], j < i

section
variable {prog : Program} {w : World} {A : Around} {E : Value → Shared → Prop} {s : Shared} {Q : Value → Shared → Prop}

theorem numbers_spec {mvv : Value} {mv : List (List Nat)}
    (X : Wd w s.heap) (hh : A.handled = none) (hroom : A.depth < 970) (hu : A.units < 7000) (hm : LL s.heap mvv (nzz mv)) (hlen : ∀ l ∈ mv, l.length < 1000) (hl7 : mv.length < 1000) (hlow : Lower mv)
    (h : ∀ s' r, Keeps s s' → IL s'.heap r (nz (numb mv)) → Q r s') :
    wpAny (model prog w) A (call (.ref 59) [mvv]) Q E s := by
  refine call_fn X (by unfold recursionLimit; omega) [("moves", mvv)] (fun y => if y = "moves" then some mvv else none) (fun _ => none) rfl rfl rfl rfl rfl rfl rfl rfl rfl (fun _ => rfl) (fun _ => rfl) ?_
  intro L s₁ x
  obtain ⟨ma, mvs, rfl, ml, mp⟩ := id hm
  have ml₁ : s₁.heap.IsList ma mvs.toArray := isList_lk ml (LK.of_ext (cBase x))
  have mlen : mvs.length = mv.length := by rw [mp.length, List.length_map]
  refine wpAny_execs_cons (wpAny_Assign_Name (List_ (wpAny_items_nil (newLP (by decide) fun s₂ D k₂ nD pD => ?_))) rfl)
  have x₂ := cKeep x k₂
  refine stC (env := envA 59 L) x₂ rfl rfl rfl fun s₃ x₃ sb₃ lk₃ => ?_
  have pD₃ : PlainL s₃.heap D [].toArray := pD.extBut sb₃.extBut (list_ne_cell pD.isList (x₂.cell "numbers" _ rfl))
  have nD₀ : s.heap.get? D = none := kts_none (cBase x) nD
  have maD : ma ≠ D := by rintro rfl; obtain ⟨o, e, _⟩ := ml; rw [nD₀] at e; cases e
  refine wpAny_execs_cons (for_rule (s₀ := s) (fun _ => rfl) (NameLC x₃ rfl rfl rfl ?_ (by decide)))
  have ml₃ : s₃.heap.IsList ma mvs.toArray := isList_lk ml (LK.of_ext (cBase x₃))
  refine ⟨_, _, [ma], [L, D], fun i s' => ∃ m', InCallC s L m' (envA 59 L).cells (fun y => if y = "numbers" then some (.ref D) else none) s' ∧ ∃ vs, PlainL s'.heap D (List.toArray vs) ∧ IntsAre vs (nz (numbTo mv i)),
    src_list hh ml₃, cBase x₃, ?_, ?_, ?_, ?_, ?_⟩
  · intro b hb
    rcases List.mem_cons.mp hb with rfl | hb
    · obtain ⟨o, _, _, e, _⟩ := x₃.toInCall.ns; exact ⟨o, e⟩
    · rw [List.mem_singleton.mp hb]; obtain ⟨o, _, e, _⟩ := pD₃; exact ⟨o, e⟩
  · intro b hb hb'
    rw [List.mem_singleton.mp hb] at hb'
    rcases List.mem_cons.mp hb' with q | q
    · exact list_ne_ns ml₃ x₃.toInCall.ns q
    · exact maD (List.mem_singleton.mp q)
  · intro s₄ k₄; exact ⟨_, cKeep x₃ k₄, [], pD₃.keeps (kExt k₄), .nil⟩
  · rintro i v s₄ s₅ hi hv ⟨m', x₄, vs, pD₄, hI⟩ tr
    rw [List.size_toArray, mlen] at hi
    have x₅ := tr.call x₄
    have pD₅ := plainL_lk pD₄ tr.lk
    obtain ⟨v', ev, lv⟩ := LL.item (a := ma) mp hi
    obtain rfl : v' = v := Option.some.inj (ev.symm.trans hv)
    obtain ⟨wa, wvs, rfl, wl, wI⟩ := lv
    have hway : ∀ j ∈ mv.getD i [], j < i := hlow i hi
    have hNl : (numbTo mv i).length = i := numbTo_len (Nat.le_of_lt hi)
    have wlen : wvs.length < 1000 := by
      have e1 := wI.length; have e2 := hlen _ (getD_memL hi); simp only [List.length_map] at e1; omega
    have vlen : vs.length = i := by have e1 := hI.length; simp only [List.length_map] at e1; omega
    refine stL (env := envA 59 L) x₅ rfl rfl fun s₆ x₆ sb₆ lk₆ => ?_
    have pD₆ := plainL_lk pD₅ lk₆
    have X₆ : Wd w s₆.heap := X.keeps (cBase x₆)
    have wl₆ : s₆.heap.IsList wa wvs.toArray := isList_lk wl (LK.of_ext (cBase x₆))
    refine wpAny_execs_cons (wpAny_Expr (wpAny_Call_append rfl rfl rfl rfl (NameCC x₆ rfl rfl rfl rfl ⟨D, _, rfl, pD₆, ?_⟩ (by decide))))
    refine wpAny_Call_NameR (nameK X₆ rfl (def1 ⟨_, _, _, _, rfl⟩ rfl ?_) rfl rfl rfl rfl)
    refine comp_ruleO (by with_unfolding_all rfl) (by decide) rfl (by decide) rfl (fun _ => rfl) ?_
    refine NameLC x₆ rfl rfl rfl ?_ (by decide)
    refine ⟨_, _, _, fun _ => true, fun v its => ∀ (n : Nat) t, v = .int n t → ∃ u, its = [Value.int ((numbTo mv i).getD n 0 : Nat) u].toArray, by simp only [List.size_toArray]; unfold sizeLine; omega, src_list hh wl₆, ⟨fun C i v s₃ m₃ E' _ _ _ _ => noTests (p := fun _ => true) (v := v) rfl, ?_⟩, ?_⟩
    · intro C k v s₇ m₇ E' hv₇ _ hn hm₇ ke
      obtain ⟨hk, t, rfl⟩ := ints_inv wI hv₇
      have hjl := hway _ (getD_mem hk)
      obtain ⟨u, eu⟩ := ints_at hI (j := (mv.getD i []).getD k 0) (by omega)
      refine List_ (wpAny_items_cons (Subscript_ (nmC ((x₆.cell "numbers" _ rfl).keeps ke) (nmL hn hm₇ ?_ rfl rfl (by decide)) rfl rfl rfl (by decide))))
      refine itemN (pD₆.keeps ke).isList (by omega) eu (wpAny_items_nil ?_)
      refine newL (by show 1 ≤ sizeLine; decide) fun s₈ a₈ k₈ n₈ l₈ => ⟨⟨a₈, _, rfl, n₈, l₈, fun n t' e => ?_⟩, k₈⟩
      have : (mv.getD i []).getD k 0 = n := by injection e with e1 _; omega
      rw [this]; exact ⟨u, rfl⟩
    · intro D₁ s₇ ys ws k₇ _ lD₁ len₁ hv₁ F₁
      rw [filt] at F₁
      have q₁ := eq_of_items len₁ hv₁
      subst q₁
      have ty : ys.toList.toArray = ys := by simp
      refine ⟨wKeep X₆ k₇, least_spec (ns := (mv.getD i []).map fun j => (numbTo mv i).getD j 0) (wKeep X₆ k₇) hh (by simp [Around.deeper]; omega) (by simp [Around.deeper]; omega) ⟨D₁, ys.toList, rfl, by rw [ty]; exact lD₁, paired_rows wI F₁⟩ ?_ fun s₈ tk k₈ => ?_⟩
      · rw [List.length_map]; exact hlen _ (getD_memL hi)
      · have k₆₈ := kTrans k₇ k₈
        have x₈ := cKeep x₆ k₆₈
        have pD₈ := pD₆.keeps (kExt k₆₈)
        refine appL pD₈ (by unfold sizeLine; omega) fun s₉ sm pD₉ sb₉ => ?_
        refine wpAny_execs_nil ⟨⟨_, cApp x₈ pD₈.isList sm sb₉ nD₀, _, pD₉, ?_⟩, ?_⟩
        · rw [numbTo_succ hi, numbStep, nz_append]
          exact intsAre_snoc hI
        · exact ((KB.of_same sb₆ (List.mem_cons_self)).trans (KB.of_ext (kExt k₆₈))).trans (KB.of_same sb₉ (List.mem_cons_of_mem _ (List.mem_singleton.mpr rfl)))
  · rintro s₄ s₅ ⟨m', x₄, vs, pD₄, hI⟩ tr
    have x₅ := tr.call x₄
    refine wpAny_execs_nil (wpAny_execs_cons (wpAny_Return_some (NameCC x₅ rfl rfl rfl rfl ?_ (by decide))))
    rw [List.size_toArray, mlen, numbTo_all] at hI
    exact h _ _ (cDone x₅) ⟨D, vs, rfl, isList_lk pD₄.isList tr.lk, hI⟩
end
end Mine

namespace Mine

section
variable {prog : Program} {w : World} {A : Around} {E : Value → Shared → Prop} {s₀ s : Shared} {env : Env} {m cm : Str → Option Value}

/-- a local name bound to a comprehension's list -/
theorem assign_local (xs : InCallC s₀ env.locals m env.cells cm s) {elt iter : Expr} {x y : Str} {px py : Pos} {ifs : List Expr} {scope : Scope} {cl : List (Str × Addr)} {pos spos : Pos} {Q : Flow → Shared → Prop}
    (hsw : swapsWith (.ListComp elt [⟨.Name x px, iter, ifs, 0⟩] scope pos) (some (.Name y py)) spos.line env = pure true)
    (hclos : closureFor scope env = pure cl) (hcell : ∀ z ∈ scope.names, z.2 ≠ .cell) (hkind : scope.kind = .function)
    (hnames : ∀ z ∈ scope.names, z.2 = .local → scope.names.lookup z.1 = some .local) (hx : scope.names.lookup x = some .local)
    (hs : ∀ x, foldedSetIterable iter env x = pure x) (hk : env.scope.kind = .function) (hy : env.kindOf y = some .local)
    (h : wpAny (model prog w) A (eval iter env) (fun xv s₁ => ∃ n P fa p F, n ≤ sizeLine ∧ wpAny (model prog w) A (pyIter xv) (Src prog w A s₁ n P fa) E s₁ ∧ QuietT prog w A env scope cl x ifs elt P p F s₁ ∧
      Keeps s s₁ ∧
      (∀ D s₂ ys (vs : List Value), InCallC s₀ env.locals (fun z => if z = y then some (.ref D) else m z) env.cells cm s₂ → KB [env.locals] s₁.heap s₂.heap → LK s₁.heap s₂.heap → s₁.heap.get? D = none → s₂.heap.IsList D ys → vs.length = n →
        (∀ j v, vs[j]? = some v → P j v) → Paired (F s₂.toks) (vs.filter p) ys.toList → s₁.toks ≤ s₂.toks → Q .next s₂)) E s) :
    wpAny (model prog w) A (exec (.Assign [.Name y py] (.ListComp elt [⟨.Name x px, iter, ifs, 0⟩] scope pos) spos) env) Q E s := by
  refine assign_compT hsw hclos hcell hkind hnames hx hs (wpAny_mono h (fun xv s₁ h₁ => ?_) fun _ _ q => q)
  obtain ⟨n, P, fa, p, F, hn, hit, hq, kc, hQ⟩ := h₁
  have xc := cKeep xs kc
  refine ⟨n, P, fa, p, F, hn, hit, hq, ?_⟩
  intro D C m' s₂ ys vs k hD hC hDC hnC hl hlen hP hF ht
  have x₂ := cKeep xc k
  have hLC : env.locals ≠ C := by rintro e; obtain ⟨o, _, _, q, _⟩ := xc.toInCall.ns; rw [e, hC] at q; cases q
  refine wpAny_with_toks (n := s₂.toks) (Nat.le_refl _) (stL x₂ hk hy fun s₃ x₃ sb₃ lk₃ (ht₃ : s₂.toks ≤ s₃.toks) => ⟨m', hnC.sameBut sb₃ (Ne.symm hLC), ?_⟩)
  rintro s₄ ⟨h₄, rfl⟩ sb₄
  have hl₃ := isList_lk hl lk₃
  refine hQ D _ ys vs ⟨⟨?_, x₃.toInCall.ns.sameBut sb₄ hLC, fun b o e => (sb₄.2 b ?_).trans (x₃.toInCall.keep b o e), x₃.toInCall.fresh⟩, fun n c e => (x₃.cell n c e).sameBut sb₄ ?_, x₃.apart, x₃.above⟩ ?_ ?_ hD (hl₃.extBut sb₄.extBut hDC) hlen hP (hF.mono fun v y q => hq.mono _ _ _ _ q ht₃) (Nat.le_trans ht ht₃)
  · obtain ⟨h', tk, rfl⟩ := x₃.toInCall.same; exact ⟨_, _, rfl⟩
  · rintro rfl; have := cBase xc _ _ e; rw [hC] at this; cases this
  · rintro rfl; obtain ⟨o, q, _⟩ := xc.cell n c e; rw [hC] at q; cases q
  · intro b o hb e
    refine (sb₄.2 b ?_).trans ((sb₃.2 b (fun q => hb (by rw [q]; exact List.mem_cons_self))).trans (kExt k b o e))
    rintro rfl; rw [hC] at e; cases e
  · intro b o hsq e
    refine (sb₄.2 b ?_).trans (lk₃ b o hsq (kExt k b o e))
    rintro rfl; rw [hC] at e; cases e
end

/-- a while, by an invariant and a measure -/
theorem while_rule {prog : Program} {w : World} {A : Around} {E : Value → Shared → Prop} {s : Shared} {env : Env} {test : Expr} {body : List Stmt} {pos : Pos} {Q : Flow → Shared → Prop} (J : Nat → Shared → Prop) (n : Nat) (h0 : J n s)
    (turn : ∀ n s, J n s → wpAny (model prog w) A (isTrue test env (eval test env)) (fun b s₂ =>
      if b then wpAny (model prog w) A (execs body env) (fun f s₃ => match f with | .next | .cont => ∃ m, m < n ∧ J m s₃ | .brk => Q .next s₃ | .ret v => Q (.ret v) s₃) (fun _ _ => False) s₂
      else Q .next s₂) (fun _ _ => False) s) :
    wpAny (model prog w) A (exec (.While test body [] pos) env) Q E s := by
  refine wpAny_While (codeAny_whileLoop J (fun n s hJ => wpAny_mono (turn n s hJ) (fun b s₂ h₂ => ?_) fun _ _ q => q.elim) n h0)
  cases b with
  | true =>
    simp only [if_true] at h₂ ⊢
    exact wpAny_mono h₂ (fun f s₃ h₃ => by cases f <;> exact h₃) fun _ _ q => q.elim
  | false =>
    simp only [Bool.false_eq_true, if_false] at h₂ ⊢
    exact wpAny_execs_nil h₂

theorem nzz_append (a b : List (List Nat)) : nzz (a ++ b) = nzz a ++ nzz b := List.map_append
theorem getD_left {α : Type} {l r : List α} {i : Nat} {d : α} (h : i < l.length) : (l ++ r).getD i d = l.getD i d := by
  rw [List.getD_eq_getElem?_getD, List.getD_eq_getElem?_getD, List.getElem?_append_left h]
theorem getD_last {α : Type} {l : List α} {x d : α} {i : Nat} (h : i = l.length) : (l ++ [x]).getD i d = x := by
  rw [List.getD_eq_getElem?_getD, h, List.getElem?_append_right (Nat.le_refl _), Nat.sub_self]; rfl

/-! the table of both -/
def look (t : List (List Nat)) (p : Nat × Nat) : Nat := (t.getD p.1 []).getD p.2 0
def cellOf2 (mv tab : List (List Nat)) (i : Nat) (cur : List Nat) (j : Nat) : Nat := mex ((fol mv i j).map (look (tab ++ [cur])))
def rowTo (mv tab : List (List Nat)) (i : Nat) : Nat → List Nat
  | 0 => []
  | j + 1 => rowTo mv tab i j ++ [cellOf2 mv tab i (rowTo mv tab i j) j]
def bothTo (mv : List (List Nat)) : Nat → List (List Nat)
  | 0 => []
  | i + 1 => bothTo mv i ++ [rowTo mv (bothTo mv i) i mv.length]
def both (mv : List (List Nat)) : List (List Nat) := bothTo mv mv.length
theorem rowTo_len (mv tab : List (List Nat)) (i : Nat) : ∀ j, (rowTo mv tab i j).length = j
  | 0 => rfl
  | j + 1 => by rw [rowTo, List.length_append, rowTo_len mv tab i j]; rfl
theorem bothTo_len (mv : List (List Nat)) : ∀ i, (bothTo mv i).length = i
  | 0 => rfl
  | i + 1 => by rw [bothTo, List.length_append, bothTo_len mv i]; rfl
theorem bothTo_rows (mv : List (List Nat)) : ∀ i, ∀ r ∈ bothTo mv i, r.length = mv.length
  | 0, r, h => nomatch h
  | i + 1, r, h => by
    rw [bothTo] at h
    rcases List.mem_append.mp h with h | h
    · exact bothTo_rows mv i r h
    · rw [List.mem_singleton.mp h, rowTo_len]

/-- rows at values, none of them at the addresses told -/
def Rows (h : Heap) (ex : List Addr) (vs : List Value) (t : List (List Nat)) : Prop := Paired (fun v ns => IL h v (nz ns) ∧ ∀ a ∈ ex, v ≠ .ref a) vs t
theorem Rows.lk {h h' : Heap} {ex : List Addr} {vs : List Value} {t : List (List Nat)} (x : Rows h ex vs t) (k : LK h h') : Rows h' ex vs t := Paired.mono (fun _ _ q => ⟨q.1.lk k, q.2⟩) x
theorem Rows.same {h h' : Heap} {ex : List Addr} {vs : List Value} {t : List (List Nat)} {a : Addr} (x : Rows h ex vs t) (sb : Heap.SameBut a h h') (ha : a ∈ ex) : Rows h' ex vs t :=
  Paired.mono (fun v ns q => ⟨by obtain ⟨b, ws, rfl, l, i⟩ := q.1; exact ⟨b, ws, rfl, l.extBut sb.extBut (fun e => q.2 a ha (by rw [e])), i⟩, q.2⟩) x
theorem Rows.less {h : Heap} {ex ex' : List Addr} {vs : List Value} {t : List (List Nat)} (x : Rows h ex vs t) (hs : ∀ a ∈ ex', a ∈ ex) : Rows h ex' vs t := Paired.mono (fun v ns q => ⟨q.1, fun a ha => q.2 a (hs a ha)⟩) x
theorem Rows.fresh {h : Heap} {ex : List Addr} {vs : List Value} {t : List (List Nat)} {a : Addr} (x : Rows h ex vs t) (ha : h.get? a = none) : Rows h (a :: ex) vs t :=
  Paired.mono (fun v ns q => ⟨q.1, fun b hb => by
    rcases List.mem_cons.mp hb with rfl | hb
    · rintro rfl; obtain ⟨c, ws, e, ⟨o, ho, _⟩, _⟩ := q.1; cases e; rw [ha] at ho; cases ho
    · exact q.2 b hb⟩) x
theorem Rows.ll {h : Heap} {ex : List Addr} {vs : List Value} {t : List (List Nat)} (x : Rows h ex vs t) : Paired (IL h) vs (nzz t) := by
  induction x with
  | nil => exact .nil
  | cons q _ ih => exact .cons q.1 ih
theorem Rows.len {h : Heap} {ex : List Addr} {vs : List Value} {t : List (List Nat)} (x : Rows h ex vs t) : vs.length = t.length := Paired.length x
theorem Rows.snoc {h : Heap} {ex : List Addr} {vs : List Value} {t : List (List Nat)} {v : Value} {r : List Nat} (x : Rows h ex vs t) (hv : IL h v (nz r)) (hn : ∀ a ∈ ex, v ≠ .ref a) : Rows h ex (vs ++ [v]) (t ++ [r]) :=
  Paired.snoc x ⟨hv, hn⟩

theorem IL.at {h : Heap} {a : Addr} {l : List Nat} (x : IL h (.ref a) (nz l)) {j : Nat} (hj : j < l.length) : ∃ items t, h.IsList a items ∧ items[j]? = some (.int (l.getD j 0 : Nat) t) := by
  obtain ⟨b, vs, e, hl, hI⟩ := x
  cases e
  obtain ⟨t, q⟩ := ints_at hI hj
  exact ⟨_, t, hl, q⟩

theorem fol_lt {mv : List (List Nat)} (hlow : Lower mv) {i j : Nat} (hi : i < mv.length) (hj : j < mv.length) {p : Nat × Nat} (hp : p ∈ fol mv i j) : (p.1 < i ∧ p.2 = j) ∨ (p.1 = i ∧ p.2 < j) := by
  unfold fol at hp
  rcases List.mem_append.mp hp with hp | hp
  · obtain ⟨a, ha, rfl⟩ := List.mem_map.mp hp; exact .inl ⟨hlow i hi a ha, rfl⟩
  · obtain ⟨b, hb, rfl⟩ := List.mem_map.mp hp; exact .inr ⟨rfl, hlow j hj b hb⟩
end Mine

namespace Mine

theorem pair_at {h : Heap} {v : Value} {a b : Int} (x : IL h v [a, b]) : ∃ o ta tb, v = .ref o ∧ h.IsList o [Value.int a ta, .int b tb].toArray := by
  obtain ⟨o, vs, rfl, hl, hI⟩ := x
  cases hI with
  | cons _ ta hI => cases hI with
    | cons _ tb hI => cases hI; exact ⟨o, ta, tb, rfl, hl⟩

/-- a table's cell is there to be read -/
def Cell2 (h : Heap) (D : Addr) (a b v : Nat) : Prop := ∃ items r ritems t, h.IsList D items ∧ items[a]? = some (.ref r) ∧ h.IsList r ritems ∧ ritems[b]? = some (.int v t)
theorem Cell2.ext {h h' : Heap} {D : Addr} {a b v : Nat} (x : Cell2 h D a b v) (k : Ext h h') : Cell2 h' D a b v :=
  let ⟨i, r, ri, t, l, e, l', e'⟩ := x; ⟨i, r, ri, t, isList_lk l (LK.of_ext k), e, isList_lk l' (LK.of_ext k), e'⟩
theorem cell2_of {h : Heap} {D : Addr} {vs : List Value} {t : List (List Nat)} (hl : h.IsList D vs.toArray) (hp : Paired (IL h) vs (nzz t)) {a b : Nat} (ha : a < t.length) (hb : b < (t.getD a []).length) : Cell2 h D a b (look t (a, b)) := by
  obtain ⟨v, e, il⟩ := LL.item (a := D) hp ha
  obtain ⟨r, ws, rfl, hl', hI⟩ := il
  obtain ⟨tk, q⟩ := ints_at hI hb
  exact ⟨_, r, _, tk, hl, e, hl', q⟩

section
variable {prog : Program} {w : World} {A : Around} {E : Value → Shared → Prop} {s : Shared} {env : Env}

theorem tab_elt {T o : Str} {pT p1 p2 p3 p4 p5 p6 p7 p8 : Pos} {k1 k2 : Nat} {D c : Addr} {v1 : Value} {a b v : Nat} {m : Str → Option Value} {Q : Value → Shared → Prop}
    (hk : env.scope.kind = .function) (hoL : env.kindOf o = some .local) (hTC : env.kindOf T = some .cell) (hcl : env.cells.lookup T = some c) (hdo : (o == ("__debug__" : Str)) = false) (hdT : (T == ("__debug__" : Str)) = false)
    (hn : s.heap.Ns env.locals m) (hm : m o = some v1) (hp : IL s.heap v1 [(a : Int), (b : Int)]) (hc : s.heap.IsCell c (some (.ref D))) (ht : Cell2 s.heap D a b v) (ha : a < 2 ^ 60) (hb : b < 2 ^ 60)
    (h : ∀ s' t, Keeps s s' → Q (.int v t) s') :
    wpAny (model prog w) A (eval (.Subscript (.Subscript (.Name T pT) (.Subscript (.Name o p1) (.Constant (.int 0) k1 p2) p3) p4) (.Subscript (.Name o p5) (.Constant (.int 1) k2 p6) p7) p8) env) Q E s := by
  obtain ⟨oa, ta, tb, rfl, ol⟩ := pair_at hp
  obtain ⟨items, r, ritems, t, l, e, l', e'⟩ := ht
  refine Subscript_ (Subscript_ (nmC hc (Subscript_ (nmL hn hm ?_ hk hoL hdo)) hk hTC hcl hdT))
  refine cInt fun s₁ t₁ k₁ => itemL (isList_kp ol k₁) (by decide) (by decide) rfl ?_
  refine itemN (isList_kp l k₁) ha e ?_
  refine Subscript_ (nmL (hn.keeps (kExt k₁)) hm ?_ hk hoL hdo)
  refine cInt fun s₂ t₂ k₂ => itemL (isList_kp ol (kTrans k₁ k₂)) (by decide) (by decide) rfl ?_
  refine itemN (isList_kp l' (kTrans k₁ k₂)) hb e' ?_
  exact h _ _ (kTrans k₁ k₂)
end

/-- the items read out of a table along the pairs -/
theorem paired_looks {vs ys : List Value} {h : Heap} {f : Nat × Nat → Nat} {l : List (Nat × Nat)} (hI : Paired (IL h) vs (l.map pz)) (hp : Paired (fun v y => ∀ p ∈ l, IL h v (pz p) → ∃ t, y = .int (f p : Nat) t) vs ys) :
    IntsAre ys (nz (l.map f)) := by
  have gen : ∀ (l' : List (Nat × Nat)) (vs ys : List Value), (∀ p ∈ l', p ∈ l) → Paired (IL h) vs (l'.map pz) → Paired (fun v y => ∀ p ∈ l, IL h v (pz p) → ∃ t, y = .int (f p : Nat) t) vs ys → IntsAre ys (nz (l'.map f)) := by
    intro l'
    induction l' with
    | nil => intro vs ys _ hI hp; cases hI; cases hp; exact .nil
    | cons p r ih =>
      intro vs ys hs hI hp
      cases hI with
      | cons hx hI =>
        cases hp with
        | cons hy hp =>
          obtain ⟨t, rfl⟩ := hy p (hs p List.mem_cons_self) hx
          exact .cons _ _ (ih _ _ (fun q hq => hs q (List.mem_cons_of_mem _ hq)) hI hp)
  exact gen l vs ys (fun _ h => h) hI hp
theorem il_unique {h : Heap} {v : Value} {a b : List Int} (x : IL h v a) (y : IL h v b) : a = b := by
  obtain ⟨o, vs, rfl, ⟨ob, e, _, _, d⟩, i⟩ := x
  obtain ⟨o', vs', q, ⟨ob', e', _, _, d'⟩, i'⟩ := y
  cases q; rw [e] at e'; cases e'; rw [d] at d'
  injection d' with d1 _
  have : vs = vs' := by simpa using d1
  subst this
  rw [← i.numsOf, ← i'.numsOf]
theorem pairs_inv {h : Heap} {vs : List Value} {l : List (Nat × Nat)} (hI : Paired (IL h) vs (l.map pz)) {j : Nat} {v : Value} (e : (List.toArray vs)[j]? = some v) : ∃ p ∈ l, IL h v (pz p) := by
  induction l generalizing vs j with
  | nil => cases hI; simp at e
  | cons p r ih =>
    cases hI with
    | cons hx hI =>
      cases j with
      | zero => simp at e; subst e; exact ⟨p, List.mem_cons_self, hx⟩
      | succ j => obtain ⟨q, hq, iq⟩ := ih hI (j := j) (by simpa using e); exact ⟨q, List.mem_cons_of_mem _ hq, iq⟩

theorem any_nz (rs : List Nat) (k : Nat) : ((nz rs).any fun y => y == (k : Int)) = rs.contains k := by
  induction rs with
  | nil => rfl
  | cons n r ih =>
    show (((n : Int) == (k : Int)) || ((nz r).any fun y => y == (k : Int))) = _
    rw [ih, List.contains_cons, nat_beq]

section
variable {prog : Program} {w : World} {A : Around} {E : Value → Shared → Prop} {s : Shared} {Q : Value → Shared → Prop}

theorem both_spec {mvv : Value} {mv : List (List Nat)}
    (X : Wd w s.heap) (hh : A.handled = none) (hroom : A.depth < 970) (hu : A.units < 7000) (hm : LL s.heap mvv (nzz mv)) (hlen : ∀ l ∈ mv, l.length < 100) (hl7 : mv.length < 100) (hlow : Lower mv)
    (h : ∀ s' r, Keeps s s' → LL s'.heap r (nzz (both mv)) → Q r s') :
    wpAny (model prog w) A (call (.ref 69) [mvv]) Q E s := by
  refine call_fn X (by unfold recursionLimit; omega) [("moves", mvv)] (fun y => if y = "moves" then some mvv else none) (fun _ => none) rfl rfl rfl rfl rfl rfl rfl rfl rfl (fun _ => rfl) (fun _ => rfl) ?_
  intro L s₁ x
  obtain ⟨ma, mvs, rfl, ml, mp⟩ := id hm
  have mlen : mvs.length = mv.length := by rw [mp.length, List.length_map]
  refine wpAny_execs_cons (wpAny_Assign_Name (List_ (wpAny_items_nil (newLP (by decide) fun s₂ D k₂ nD pD => ?_))) rfl)
  have x₂ := cKeep x k₂
  refine stC (env := envA 69 L) x₂ rfl rfl rfl fun s₃ x₃ sb₃ lk₃ => ?_
  have pD₃ : PlainL s₃.heap D [].toArray := plainL_lk pD lk₃
  have nD₀ : s.heap.get? D = none := kts_none (cBase x) nD
  have X₃ : Wd w s₃.heap := X.keeps (cBase x₃)
  refine wpAny_execs_cons (for_rule (s₀ := s) (fun _ => rfl) (wpAny_Call_NameR (nameB X₃ rfl rfl (by decide) ?_ rfl rfl rfl rfl rfl)))
  refine type1 rfl (wpAny_Call_NameR (nameB X₃ rfl rfl (by decide) ?_ rfl rfl rfl rfl rfl))
  refine bi1 rfl (NameLC x₃ rfl rfl rfl ?_ (by decide))
  refine lenL (isList_lk ml (LK.of_ext (cBase x₃))) (by rw [List.size_toArray]; omega) fun s₄ t₄ k₄ => range1 fun s₅ r t₅ v₅ k₅ hrg => ?_
  have x₅ := cKeep x₃ (kTrans k₄ k₅)
  refine ⟨_, _, [], [L, D], fun i s' => ∃ m', InCallC s L m' (envA 69 L).cells (fun y => if y = "both" then some (.ref D) else none) s' ∧ m' "moves" = some (.ref ma) ∧ ∃ vs, PlainL s'.heap D (List.toArray vs) ∧ Rows s'.heap [D] vs (bothTo mv i),
    src_range hh hrg (by decide) (by decide) (by omega) (by rw [List.size_toArray]; omega), cBase x₅, ?_, (fun b hb => by cases hb), ?_, ?_, ?_⟩
  · intro b hb
    rcases List.mem_cons.mp hb with rfl | hb
    · obtain ⟨o, _, _, e, _⟩ := x₅.toInCall.ns; exact ⟨o, e⟩
    · rw [List.mem_singleton.mp hb]; obtain ⟨o, _, e, _⟩ := pD₃.keeps (kExt (kTrans k₄ k₅)); exact ⟨o, e⟩
  · intro s₆ k₆; exact ⟨_, cKeep x₅ k₆, rfl, [], pD₃.keeps (kExt (kTrans (kTrans k₄ k₅) k₆)), .nil⟩
  · rintro i v s₆ s₇ hi ⟨t, rfl⟩ ⟨m', x₆, hmm, vs, pD₆, rows⟩ tr
    have hi : i < mv.length := by rw [List.size_toArray] at hi; omega
    have x₇ := tr.call x₆
    have e0 : (0 : Int) + (i : Int) = (i : Int) := by omega
    rw [e0]
    refine stL (env := envA 69 L) x₇ rfl rfl fun s₈ x₈ sb₈ lk₈ => ?_
    have pD₈ := plainL_lk (plainL_lk pD₆ tr.lk) lk₈
    have rows₈ := (rows.lk tr.lk).lk lk₈
    have vlen : vs.length = i := by rw [rows.len, bothTo_len]
    refine wpAny_execs_cons (wpAny_Expr (wpAny_Call_append rfl rfl rfl rfl (NameCC x₈ rfl rfl rfl rfl ⟨D, _, rfl, pD₈, ?_⟩ (by decide))))
    refine List_ (wpAny_items_nil (newLP (by decide) fun s₉ R k₉ nR pR => appL (pD₈.keeps (kExt k₉)) (by unfold sizeLine; omega) fun s₁₀ sm pD₁₀ sb₁₀ => ?_))
    have RD : R ≠ D := by rintro rfl; obtain ⟨o, _, e, _⟩ := pD₈; rw [nR] at e; cases e
    have RL : R ≠ L := by rintro rfl; obtain ⟨o, _, _, e, _⟩ := x₈.toInCall.ns; have e' : s₈.heap.get? R = some o := e; rw [nR] at e'; cases e'
    have nR₀ : s.heap.get? R = none := kts_none (cBase x₈) nR
    have rows₁₀ : Rows s₁₀.heap [R, D] vs (bothTo mv i) := ((rows₈.fresh nR).lk (LK.of_ext (kExt k₉))).same sb₁₀ (List.mem_cons_of_mem _ (List.mem_singleton.mpr rfl))
    have pR₁₀ : PlainL s₁₀.heap R [].toArray := pR.extBut sb₁₀.extBut RD
    have x₁₀ := cApp (cKeep x₈ k₉) (pD₈.keeps (kExt k₉)).isList sm sb₁₀ nD₀
    have X₁₀ : Wd w s₁₀.heap := X.keeps (cBase x₁₀)
    have kb₁₀ : KB [L, D, R] s₇.heap s₁₀.heap := ((KB.of_same sb₈ List.mem_cons_self).trans (KB.of_ext (kExt k₉))).trans (KB.of_same sb₁₀ (List.mem_cons_of_mem _ List.mem_cons_self))
    have nR₇ : s₇.heap.get? R = none := by
      cases e : s₇.heap.get? R with
      | none => rfl
      | some o => have := (sb₈.2 R RL).trans e; rw [nR] at this; cases this
    dsimp only
    refine wpAny_execs_cons (for_rule (s₀ := s) (fun _ => rfl) (wpAny_Call_NameR (nameB X₁₀ rfl rfl (by decide) ?_ rfl rfl rfl rfl rfl)))
    refine type1 rfl (wpAny_Call_NameR (nameB X₁₀ rfl rfl (by decide) ?_ rfl rfl rfl rfl rfl))
    refine bi1 rfl (NameLC x₁₀ rfl rfl hmm ?_ (by decide))
    refine lenL (isList_lk ml (LK.of_ext (cBase x₁₀))) (by rw [List.size_toArray]; omega) fun s₁₁ t₁₁ k₁₁ => range1 fun s₁₂ r₁₂ t₁₂ v₁₂ k₁₂ hrg₁₂ => ?_
    have k₁₀₂ := kTrans k₁₁ k₁₂
    have x₁₂ := cKeep x₁₀ k₁₀₂
    refine ⟨_, _, [], [L, R], fun j s' => ∃ m', InCallC s L m' (envA 69 L).cells (fun y => if y = "both" then some (.ref D) else none) s' ∧ m' "moves" = some (.ref ma) ∧ m' "i" = some (.int (i : Nat) t) ∧
      PlainL s'.heap D (List.toArray (vs ++ [.ref R])) ∧ Rows s'.heap [R, D] vs (bothTo mv i) ∧ KB [L, D, R] s₇.heap s'.heap ∧ ∃ cvs, PlainL s'.heap R (List.toArray cvs) ∧ IntsAre cvs (nz (rowTo mv (bothTo mv i) i j)),
      src_range hh hrg₁₂ (by decide) (by decide) (by omega) (by rw [List.size_toArray]; omega), cBase x₁₂, ?_, (fun b hb => by cases hb), ?_, ?_, ?_⟩
    · intro b hb
      rcases List.mem_cons.mp hb with rfl | hb
      · obtain ⟨o, _, _, e, _⟩ := x₁₂.toInCall.ns; exact ⟨o, e⟩
      · rw [List.mem_singleton.mp hb]; obtain ⟨o, _, e, _⟩ := pR₁₀.keeps (kExt k₁₀₂); exact ⟨o, e⟩
    · intro s₁₃ k₁₃
      have k := kExt (kTrans k₁₀₂ k₁₃)
      exact ⟨_, cKeep x₁₂ k₁₃, hmm, rfl, pD₁₀.keeps k, rows₁₀.lk (LK.of_ext k), kb₁₀.trans (KB.of_ext k), [], pR₁₀.keeps k, .nil⟩
    · rintro j v s₁₃ s₁₄ hj ⟨u, rfl⟩ ⟨m₁₃, x₁₃, hmm₁₃, hmi₁₃, pD₁₃, rows₁₃, kb₁₃, cvs, pR₁₃, cI⟩ tr
      have hj : j < mv.length := by rw [List.size_toArray] at hj; omega
      have x₁₄ := tr.call x₁₃
      have f0 : (0 : Int) + (j : Int) = (j : Int) := by omega
      rw [f0]
      have cur : (rowTo mv (bothTo mv i) i j).length = j := rowTo_len _ _ _ _
      have clen : cvs.length = j := by have := cI.length; simp only [List.length_map] at this; omega
      have kb₁₄ : KB [L, D, R] s₇.heap s₁₄.heap := fun b o nb e => tr.keep b o o (kExt k₁₀₂ b o (kb₁₀ b o nb e)) (kb₁₃ b o nb e)
      refine stL (env := envA 69 L) x₁₄ rfl rfl fun s₁₅ x₁₅ sb₁₅ lk₁₅ => ?_
      have lk₁₃₅ := tr.lk.trans lk₁₅
      have X₁₅ : Wd w s₁₅.heap := X.keeps (cBase x₁₅)
      -- row = [both[one[0]][one[1]] for one in _law_followers(moves, i, j)]
      refine wpAny_execs_cons (assign_local x₁₅ (by with_unfolding_all rfl) (by with_unfolding_all rfl) (by decide) rfl (by decide) rfl (fun _ => rfl) rfl rfl ?_)
      refine wpAny_Call_NameR (nameK X₁₅ rfl (def3 ⟨_, _, _, _, rfl⟩ rfl (NameLC x₁₅ rfl rfl hmm₁₃ (NameLC x₁₅ rfl rfl hmi₁₃ (NameLC x₁₅ rfl rfl rfl ⟨X₁₅, ?_⟩ (by decide)) (by decide)) (by decide))) rfl rfl rfl rfl)
      refine followers_spec (mv := mv) X₁₅ hh (by simp [Around.deeper]; omega) (by simp [Around.deeper]; omega) (hm.ext (cBase x₁₅)) hi hj (fun l hl => by have := hlen l hl; omega) (by omega) fun s₁₆ pv k₁₆ hpv => ?_
      obtain ⟨pa, pvs, rfl, pl, pp⟩ := id hpv
      have x₁₆ := cKeep x₁₅ k₁₆
      have plen : pvs.length = (fol mv i j).length := by rw [pp.length, List.length_map]
      have folen : (fol mv i j).length < 1000 := by
        unfold fol
        rw [List.length_append, List.length_map, List.length_map]
        have := hlen _ (getD_memL hi); have := hlen _ (getD_memL hj); omega
      have lk₁₃₆ := lk₁₃₅.trans (LK.of_ext (kExt k₁₆))
      have pD₁₆ := plainL_lk pD₁₃ lk₁₃₆
      have rows₁₆ := rows₁₃.lk lk₁₃₆
      have pR₁₆ := plainL_lk pR₁₃ lk₁₃₆
      have tabP : Paired (IL s₁₆.heap) (vs ++ [.ref R]) (nzz (bothTo mv i ++ [rowTo mv (bothTo mv i) i j])) := by
        rw [nzz_append]
        exact paired_append rows₁₆.ll (.cons ⟨R, cvs, rfl, pR₁₆.isList, cI⟩ .nil)
      have cells : ∀ p ∈ fol mv i j, Cell2 s₁₆.heap D p.1 p.2 (look (bothTo mv i ++ [rowTo mv (bothTo mv i) i j]) p) := by
        intro p hp
        have blen := bothTo_len mv i
        refine cell2_of pD₁₆.isList tabP (by rw [List.length_append, blen, List.length_singleton]; rcases fol_lt hlow hi hj hp with q | q <;> omega) ?_
        rcases fol_lt hlow hi hj hp with ⟨q1, q2⟩ | ⟨q1, q2⟩
        · rw [getD_left (by omega), bothTo_rows mv i _ (getD_memL (by omega))]; omega
        · rw [getD_last (by omega)]; omega
      refine ⟨_, _, _, fun _ => true, fun _ v y => ∀ p ∈ fol mv i j, IL s₁₆.heap v (pz p) → ∃ t, y = .int (look (bothTo mv i ++ [rowTo mv (bothTo mv i) i j]) p : Nat) t,
        by simp only [List.size_toArray]; unfold sizeLine; omega, src_list hh pl, ⟨fun _ _ _ _ q _ => q, fun C i v s₃ m₃ E' _ _ _ _ _ => noTests (p := fun _ => true) (v := v) rfl, ?_⟩, k₁₆, ?_⟩
      · intro C k v s₁₇ m₁₇ E' hv₁₇ _ hn hm₁₇ ke _
        obtain ⟨p, hp, ip⟩ := pairs_inv pp hv₁₇
        have hpl : p.1 < 1000 ∧ p.2 < 1000 := by rcases fol_lt hlow hi hj hp with q | q <;> omega
        refine tab_elt (a := p.1) (b := p.2) rfl rfl rfl rfl (by decide) (by decide) hn hm₁₇ (ip.ext ke) ((x₁₆.cell "both" _ rfl).keeps ke) ((cells p hp).ext ke) (by omega) (by omega) fun s₁₈ t₁₈ k₁₈ => ⟨fun p' hp' ip' => ?_, k₁₈⟩
        have e := il_unique ip ip'
        have e1 : p = p' := by
          obtain ⟨a, b⟩ := p; obtain ⟨a', b'⟩ := p'
          simp only [pz, List.cons.injEq, and_true] at e
          have : a = a' := by omega
          have : b = b' := by omega
          simp [*]
        exact ⟨t₁₈, by rw [e1]⟩
      · intro RD₁ s₁₇ ys ws x₁₇ kb₁₇ lk₁₇ nRD lRD len₁ hv₁ F₁ _
        rw [filt] at F₁
        have q₁ := eq_of_items len₁ hv₁
        subst q₁
        have rI : IntsAre ys.toList (nz ((fol mv i j).map (look (bothTo mv i ++ [rowTo mv (bothTo mv i) i j])))) := paired_looks pp F₁
        generalize hrs : (fol mv i j).map (look (bothTo mv i ++ [rowTo mv (bothTo mv i) i j])) = rs at rI
        have ty : ys.toList.toArray = ys := by simp
        have rIL : IL s₁₇.heap (.ref RD₁) (nz rs) := ⟨RD₁, ys.toList, rfl, by rw [ty]; exact lRD, rI⟩
        -- number = 0
        refine wpAny_execs_cons (wpAny_Assign_Name (cInt fun s₁₈ t₁₈ k₁₈ => ?_) rfl)
        refine stL (env := envA 69 L) (cKeep x₁₇ k₁₈) rfl rfl fun s₁₉ x₁₉ sb₁₉ lk₁₉ => ?_
        -- while number in row
        refine wpAny_execs_cons (while_rule (fun n s' => ∃ (k : Nat) (tk : Tok) (m' : Str → Option Value), InCallC s L m' (envA 69 L).cells (fun y => if y = "both" then some (.ref D) else none) s' ∧ m' "row" = some (.ref RD₁) ∧ m' "number" = some (.int k tk) ∧
          m' "moves" = some (.ref ma) ∧ m' "i" = some (.int (i : Nat) t) ∧ (∀ q, q < k → q ∈ rs) ∧ n = rs.length + 1 - k ∧ LK s₁₉.heap s'.heap ∧ KB [L] s₁₉.heap s'.heap) (rs.length + 1)
          ⟨0, t₁₈, _, x₁₉, rfl, rfl, hmm₁₃, hmi₁₃, fun q hq => absurd hq (Nat.not_lt_zero _), rfl, LK.refl _, KB.refl _ _⟩ ?_)
        rintro n s₂₀ ⟨k, tk, m₂₀, x₂₀, hrow, hnum, hmm₂₀, hmi₂₀, hall, rfl, lk₂₀, kb₂₀⟩
        have rIL₂₀ := (((rIL.kp k₁₈).lk lk₁₉).lk lk₂₀)
        refine wpAny_isTrue_Compare1 (NameLC x₂₀ rfl rfl hnum (NameLC x₂₀ rfl rfl hrow ?_ (by decide)) (by decide))
        refine in_IL rIL₂₀ (by simp [Around.deeper, cLine]; omega) (wpAny_truthy_bool ?_)
        rw [any_nz]
        cases hc : rs.contains k with
        | true =>
          simp only [if_true]
          refine wpAny_execs_cons (wpAny_Assign_Name (wpAny_BinOp (NameLC x₂₀ rfl rfl hnum (cInt fun s₂₁ t₂₁ k₂₁ => addI fun s₂₂ t₂₂ k₂₂ => ?_) (by decide))) rfl)
          have k₂₀₂ := kTrans k₂₁ k₂₂
          refine stL (env := envA 69 L) (cKeep x₂₀ k₂₀₂) rfl rfl fun s₂₃ x₂₃ sb₂₃ lk₂₃ => wpAny_execs_nil ?_
          have hall' : ∀ q, q < k + 1 → q ∈ rs := fun q hq => by
            rcases Nat.lt_or_eq_of_le (Nat.le_of_lt_succ hq) with r | rfl
            · exact hall q r
            · simpa using hc
          have pg := pigeon (k + 1) rs hall'
          exact ⟨rs.length + 1 - (k + 1), by omega, k + 1, t₂₂, _, x₂₃, hrow, rfl, hmm₂₀, hmi₂₀, hall', rfl, (lk₂₀.trans (LK.of_ext (kExt k₂₀₂))).trans lk₂₃, (kb₂₀.trans (KB.of_ext (kExt k₂₀₂))).trans (KB.of_same sb₂₃ List.mem_cons_self)⟩
        | false =>
          simp only [Bool.false_eq_true, if_false]
          have hmex : mex rs = k := (mex_isMex rs).unique ⟨by simpa using hc, hall⟩
          have lkA : LK s₁₃.heap s₂₀.heap := (((lk₁₃₆.trans lk₁₇).trans (LK.of_ext (kExt k₁₈))).trans lk₁₉).trans lk₂₀
          have pD₂₀ := plainL_lk pD₁₃ lkA
          have rows₂₀ := rows₁₃.lk lkA
          have pR₂₀ := plainL_lk pR₁₃ lkA
          -- both[i].append(number)
          refine wpAny_execs_cons (wpAny_Expr (wpAny_Call_append rfl rfl rfl rfl (Subscript_ (NameCC x₂₀ rfl rfl rfl rfl (NameLC x₂₀ rfl rfl hmi₂₀ ?_ (by decide)) (by decide)))))
          refine itemN pD₂₀.isList (by omega) (x := .ref R) (by rw [List.getElem?_toArray, List.getElem?_append_right (by omega), vlen, Nat.sub_self]; rfl) ⟨R, _, rfl, pR₂₀, ?_⟩
          refine NameLC x₂₀ rfl rfl hnum ?_ (by decide)
          refine appL pR₂₀ (by unfold sizeLine; omega) fun s₂₁ sm₂₁ pR₂₁ sb₂₁ => wpAny_execs_nil ?_
          have kbA : KB [L, R] s₁₄.heap s₂₁.heap := by
            have q1 : KB [L, R] s₁₄.heap s₁₆.heap := (KB.of_same sb₁₅ List.mem_cons_self).trans (KB.of_ext (kExt k₁₆))
            have q2 : KB [L, R] s₁₆.heap s₁₉.heap := ((kb₁₇.mono (fun b hb => by rw [List.mem_singleton.mp hb]; exact List.mem_cons_self)).trans (KB.of_ext (kExt k₁₈))).trans (KB.of_same sb₁₉ List.mem_cons_self)
            have q3 : KB [L, R] s₁₉.heap s₂₀.heap := kb₂₀.mono (fun b hb => by rw [List.mem_singleton.mp hb]; exact List.mem_cons_self)
            exact ((q1.trans q2).trans q3).trans (KB.of_same sb₂₁ (List.mem_cons_of_mem _ List.mem_cons_self))
          refine ⟨⟨_, cApp x₂₀ pR₂₀.isList sm₂₁ sb₂₁ nR₀, hmm₂₀, hmi₂₀, pD₂₀.extBut sb₂₁.extBut (Ne.symm RD), rows₂₀.same sb₂₁ List.mem_cons_self, ?_, _, pR₂₁, ?_⟩, kbA⟩
          · exact kb₁₄.trans (kbA.mono fun b hb => by
              rcases List.mem_cons.mp hb with q | q
              · rw [q]; exact List.mem_cons_self
              · rw [List.mem_singleton.mp q]; exact List.mem_cons_of_mem _ (List.mem_cons_of_mem _ List.mem_cons_self))
          · rw [rowTo, nz_append, cellOf2, hrs, hmex]
            exact intsAre_snoc cI
    · rintro s₁₃ s₁₄ ⟨m₁₃, x₁₃, hmm₁₃, hmi₁₃, pD₁₃, rows₁₃, kb₁₃, cvs, pR₁₃, cI⟩ tr
      have x₁₄ := tr.call x₁₃
      have e : ((List.toArray mvs).size - 0 : Int).toNat = mv.length := by rw [List.size_toArray]; omega
      rw [e] at cI
      have rows₁₄ := rows₁₃.lk tr.lk
      have pR₁₄ := plainL_lk pR₁₃ tr.lk
      refine wpAny_execs_nil (wpAny_execs_nil ⟨⟨_, x₁₄, hmm₁₃, vs ++ [.ref R], plainL_lk pD₁₃ tr.lk, ?_⟩, ?_⟩)
      · rw [bothTo]
        exact (rows₁₄.less fun a ha => List.mem_cons_of_mem _ ha).snoc ⟨R, cvs, rfl, pR₁₄.isList, cI⟩ fun a ha q => RD (by rw [List.mem_singleton.mp ha] at q; injection q)
      · intro b o hb e
        have nb : b ∉ [L, D, R] := by
          intro q
          rcases List.mem_cons.mp q with q | q
          · exact hb (q ▸ List.mem_cons_self)
          · rcases List.mem_cons.mp q with q | q
            · exact hb (q ▸ List.mem_cons_of_mem _ List.mem_cons_self)
            · rw [List.mem_singleton.mp q, nR₇] at e; cases e
        exact tr.keep b o o (kExt k₁₀₂ b o (kb₁₀ b o nb e)) (kb₁₃ b o nb e)
  · rintro s₆ s₇ ⟨m', x₆, hmm, vs, pD₆, rows⟩ tr
    have x₇ := tr.call x₆
    refine wpAny_execs_nil (wpAny_execs_cons (wpAny_Return_some (NameCC x₇ rfl rfl rfl rfl ?_ (by decide))))
    have e : ((List.toArray mvs).size - 0 : Int).toNat = mv.length := by rw [List.size_toArray]; omega
    rw [e] at rows
    exact h _ _ (cDone x₇) ⟨D, vs, rfl, isList_lk pD₆.isList tr.lk, (rows.lk tr.lk).ll⟩
end
end Mine

namespace Mine

section
variable {prog : Program} {w : World} {A : Around} {E : Value → Shared → Prop} {s : Shared} {env : Env}

theorem powI {a n : Int} {t u : Tok} {Q : Value → Shared → Prop} (hn : 0 ≤ n) (hn2 : n ≤ 1000000) (ha : a.natAbs < 2 ^ 64) (h : ∀ s' t, Keeps s s' → Q (.int (a ^ n.toNat) t) s') : wpAny (model prog w) A (binaryOp .Pow (.int a t) (.int n u)) Q E s :=
  pow_int_small hn hn2 ha (h _ _ (kTok _ _))
theorem divI {a b : Int} {t u : Tok} {Q : Value → Shared → Prop} (hb : b ≠ 0) (hs : b.natAbs < 1073741824) (h : ∀ s' t, Keeps s s' → Q (.int (a.fdiv b) t) s') : wpAny (model prog w) A (binaryOp .FloorDiv (.int a t) (.int b u)) Q E s :=
  floordiv_int hb (h _ _ (kTok _ _)) (.inl (PyProof.noPylong_small hs))

theorem src_bound {n : Nat} {P : Nat → Value → Prop} {fa : List Addr} {v : Value} (h : wpAny (model prog w) A (pyIter v) (Src prog w A s n P fa) E s) :
    wpAny (model prog w) A (pyIter v) (Src prog w A s n (fun i v => i < n ∧ P i v) fa) E s :=
  wpAny_mono h (fun it s₂ ⟨I, St, e, k, It, st, hb, hI⟩ => ⟨I, St, e, k, ⟨It.W.bound, It.fld⟩, st, hb, hI⟩) fun _ _ q => q

/-- a list's first items -/
theorem upTo {value up : Expr} {p pos : Pos} {Q : Value → Shared → Prop} (ht : ∀ o r, letTemporaryGo value o r = pure ())
    (h : wpAny (model prog w) A (eval value env) (fun o s₁ => wpAny (model prog w) A (eval up env) (fun vu s₂ => ∃ l items k t, o = .ref l ∧ vu = .int (k : Nat) t ∧ s₂.heap.IsList l (List.toArray items) ∧ items.length ≤ sizeLine ∧
      ∀ s' a, Keeps s₂ s' → s₂.heap.get? a = none → s'.heap.IsList a (items.take k).toArray → Q (.ref a) s') E s₁) E s) :
    wpAny (model prog w) A (eval (.Subscript value (.Slice none (some up) none p) pos) env) Q E s := by
  refine wpAny_Subscript_list_slice (wpAny_mono h (fun o s₁ h₁ => wpAny_evalPart_none (wpAny_evalPart_some (wpAny_mono h₁ (fun vu s₂ h₂ => ?_) fun _ _ q => q))) fun _ _ q => q) ht
  obtain ⟨l, items, k, t, rfl, rfl, hl, hsz, hQ⟩ := h₂
  refine ⟨l, _, none, some (k : Int), rfl, hl, by simpa using hsz, .none, .int _ _, ?_⟩
  rw [slicePick_upto']
  refine hQ _ _ (kHeap fun b o e => Heap.get?_push_of_some _ (Heap.get?_push_of_some _ e)) (get_none_of_ge (Nat.le_succ _)) ?_
  refine ⟨{ cls := .type "list", data := .seq (items.take k).toArray }, ?_, rfl, 0, rfl⟩
  have e1 := Heap.get?_push_size (s₂.heap.push { cls := .type "slice", data := .fields #[.none, .int (k : Int) t, .none] }) (o := { cls := .type "list", data := .seq (items.take k).toArray }) rfl
  rw [Heap.size_push] at e1
  exact e1

/-- one test -/
theorem oneTest {c : Expr} {cenv : Env} {b : Bool} {E' : Value → Shared → Prop} (h : wpAny (model prog w) A (isTrue c cenv (eval c cenv)) (fun ok s₄ => ok = b ∧ Keeps s s₄) E' s) :
    wpAny (model prog w) A (Tests [c] cenv) (fun ok s₄ => ok = b ∧ Keeps s s₄) E' s := by
  show wpAny _ _ (forIn [c] true _) _ _ _
  rw [List.forIn_cons]
  refine wpAny_bind ?_
  rw [if_pos rfl]
  refine wpAny_bind (wpAny_mono h (fun ok s₄ h₄ => wpAny_pure ?_) fun _ _ q => q)
  show wpAny _ _ (forIn [] ok _) _ _ _
  rw [List.forIn_nil]
  exact wpAny_pure h₄
end

theorem small_ints {n : Nat} : ∀ {ws : List Value}, (∀ v ∈ ws, ∃ (j : Nat) (t : Tok), v = .int j t ∧ j < n) → ∃ l : List Nat, IntsAre ws (nz l) ∧ (∀ j ∈ l, j < n) ∧ l.length = ws.length
  | [], _ => ⟨[], .nil, (fun _ h => nomatch h), rfl⟩
  | v :: r, h => by
    obtain ⟨j, t, rfl, hj⟩ := h v List.mem_cons_self
    obtain ⟨l, hI, hl, hlen⟩ := small_ints (ws := r) fun u hu => h u (List.mem_cons_of_mem _ hu)
    refine ⟨j :: l, .cons _ _ hI, fun k hk => ?_, by rw [List.length_cons, List.length_cons, hlen]⟩
    rcases List.mem_cons.mp hk with rfl | hk
    · exact hj
    · exact hl k hk
theorem paired_eq : ∀ {vs ys : List Value}, Paired (fun v y => y = v) vs ys → ys = vs
  | _, _, .nil => rfl
  | _, _, .cons h r => by rw [h, paired_eq r]

def bitTest (N : Int) : Value → Bool
  | .int j _ => ((N.fdiv (2 ^ j.toNat)).fmod 2) == 1
  | _ => false

theorem two_pow_small {j : Nat} (h : j < 7) : ((2 : Int) ^ j) ≠ 0 ∧ ((2 : Int) ^ j).natAbs < 1073741824 := by
  have : j = 0 ∨ j = 1 ∨ j = 2 ∨ j = 3 ∨ j = 4 ∨ j = 5 ∨ j = 6 := by omega
  rcases this with rfl | rfl | rfl | rfl | rfl | rfl | rfl <;> decide

theorem lower_snoc {mv : List (List Nat)} {l : List Nat} (h : Lower mv) (hl : ∀ j ∈ l, j < mv.length) : Lower (mv ++ [l]) := by
  intro i hi j hj
  rw [List.length_append, List.length_singleton] at hi
  rcases Nat.lt_or_eq_of_le (Nat.le_of_lt_succ hi) with q | q
  · rw [getD_left q] at hj; exact h i q j hj
  · rw [getD_last q] at hj; have := hl j hj; omega

section
variable {prog : Program} {w : World} {A : Around} {E : Value → Shared → Prop} {s : Shared} {Q : Value → Shared → Prop}

set_option maxHeartbeats 4000000 in
theorem moves_spec {sv : Value} {ns : List Int}
    (X : Wd w s.heap) (hh : A.handled = none) (hroom : A.depth < 970) (hu : A.units < 7000) (hm : IL s.heap sv ns) (hlen : ns.length < 100)
    (h : ∀ s' r mv, Keeps s s' → LL s'.heap r (nzz mv) → mv.length = 7 → Lower mv → (∀ l ∈ mv, l.length < 100) → Q r s') :
    wpAny (model prog w) A (call (.ref 47) [sv]) Q E s := by
  refine call_fn X (by unfold recursionLimit; omega) [("script", sv)] (fun y => if y = "script" then some sv else none) (fun _ => none) rfl rfl rfl rfl rfl rfl rfl rfl rfl (fun _ => rfl) (fun _ => rfl) ?_
  intro L s₁ x
  obtain ⟨sa, svs, rfl, sl, sI⟩ := id hm
  have slen : svs.length = ns.length := sI.length
  -- drawn
  refine wpAny_execs_cons (assign_local x rfl rfl (by decide) rfl (by decide) rfl (fun _ => rfl) rfl rfl ?_)
  refine upTo (fun _ _ => rfl) (NameLC x rfl rfl rfl (cInt fun s₂ t₂ k₂ => ⟨sa, svs, 12, t₂, rfl, rfl, isList_lk sl (LK.of_ext (kExt (kTrans (cDone x) k₂))), by unfold sizeLine; omega, fun s₃ a₃ k₃ _ l₃ => ?_⟩) (by decide))
  have sI₃ := sI.take 12
  refine ⟨_, _, _, fun _ => true, fun _ v y => ∃ (d : Int) (t : Tok), y = .int d t, by simp only [List.size_toArray, List.length_take]; unfold sizeLine; omega, src_list hh l₃, ⟨fun _ _ _ _ q _ => q, fun C i v s₃ m₃ E' _ _ _ _ _ => noTests (p := fun _ => true) (v := v) rfl, ?_⟩, kTrans k₂ k₃, ?_⟩
  · intro C k v s₄ m₄ E' hv _ hn hm₄ ke _
    obtain ⟨n, t, rfl, _⟩ := sI₃.at k v (by simpa using hv)
    refine wpAny_BinOp (nmL hn hm₄ (cInt fun s₅ t₅ k₅ => modI (by decide) fun s₆ t₆ k₆ => ⟨⟨_, _, rfl⟩, kTrans k₅ k₆⟩) rfl rfl (by decide))
  intro da s₄ ys vs₀ x₄ kb₄ lk₄ nda lda len₀ hv₀ F₀ _
  rw [filt] at F₀
  have dall : ∀ v ∈ ys.toList, ∃ (d : Int) (t : Tok), v = .int d t := fun v hv => by obtain ⟨u, q⟩ := Paired.right F₀ v hv; exact q
  have ylen : ys.size < 100 := by
    have e1 := F₀.length
    have e2 : ys.toList.length = ys.size := by simp
    simp only [List.size_toArray, List.length_take] at len₀
    omega
  -- moves
  refine wpAny_execs_cons (wpAny_Assign_Name (List_ ?_) rfl)
  refine wpAny_items_cons (List_ (wpAny_items_nil (newL (by decide) fun s₅ a₅ k₅ n₅ l₅ => ?_)))
  refine wpAny_items_cons (List_ (wpAny_items_cons (cInt fun s₆ t₆ k₆ => wpAny_items_nil (newL (by show 1 ≤ sizeLine; decide) fun s₇ a₇ k₇ n₇ l₇ => ?_))))
  refine wpAny_items_cons (List_ (wpAny_items_cons (cInt fun s₈ t₈ k₈ => wpAny_items_cons (cInt fun s₉ t₉ k₉ => wpAny_items_nil (newL (by show 2 ≤ sizeLine; decide) fun s₁₀ a₁₀ k₁₀ n₁₀ l₁₀ => wpAny_items_nil ?_)))))
  refine newLP (by show 3 ≤ sizeLine; decide) fun s₁₁ D k₁₁ nD pD => ?_
  have k₄₁₁ := kTrans k₅ (kTrans k₆ (kTrans k₇ (kTrans k₈ (kTrans k₉ (kTrans k₁₀ k₁₁)))))
  have x₁₁ := cKeep x₄ k₄₁₁
  have rows₁₀ : Rows s₁₁.heap [D] [.ref a₅, .ref a₇, .ref a₁₀] [[], [0], [0, 1]] := by
    have r0 : Rows s₁₀.heap [] [.ref a₅, .ref a₇, .ref a₁₀] [[], [0], [0, 1]] :=
      .cons ⟨⟨a₅, [], rfl, isList_kp l₅ (kTrans k₆ (kTrans k₇ (kTrans k₈ (kTrans k₉ k₁₀)))), .nil⟩, fun _ h => nomatch h⟩
        (.cons ⟨⟨a₇, _, rfl, isList_kp l₇ (kTrans k₈ (kTrans k₉ k₁₀)), .cons _ _ .nil⟩, fun _ h => nomatch h⟩
          (.cons ⟨⟨a₁₀, _, rfl, l₁₀, .cons _ _ (.cons _ _ .nil)⟩, fun _ h => nomatch h⟩ .nil))
    exact (r0.fresh nD).lk (LK.of_ext (kExt k₁₁))
  have lda₁₁ := isList_kp lda k₄₁₁
  have daD : da ≠ D := by
    rintro rfl
    obtain ⟨o, e, _⟩ := isList_kp lda (kTrans k₅ (kTrans k₆ (kTrans k₇ (kTrans k₈ (kTrans k₉ k₁₀)))))
    rw [nD] at e; cases e
  have nD₀ : s.heap.get? D = none := kts_none (cBase (cKeep x₄ (kTrans k₅ (kTrans k₆ (kTrans k₇ (kTrans k₈ (kTrans k₉ k₁₀))))))) nD
  refine stL (env := envA 47 L) x₁₁ rfl rfl fun s₁₂ x₁₂ sb₁₂ lk₁₂ => ?_
  have X₁₂ : Wd w s₁₂.heap := X.keeps (cBase x₁₂)
  -- for k in range(3, 7)
  refine wpAny_execs_cons (for_rule (s₀ := s) (fun _ => rfl) (wpAny_Call_NameR (nameB X₁₂ rfl rfl (by decide) ?_ rfl rfl rfl rfl rfl)))
  refine type2 rfl (cInt fun s₁₃ t₁₃ k₁₃ => cInt fun s₁₄ t₁₄ k₁₄ => range2 fun s₁₅ r v₁₅ k₁₅ hrg => ?_)
  have k₁₂₅ := kTrans k₁₃ (kTrans k₁₄ k₁₅)
  have x₁₅ := cKeep x₁₂ k₁₂₅
  refine ⟨_, _, [], [L, L + 1, D], fun i s' => ∃ m' cm', InCallC s L m' (envA 47 L).cells cm' s' ∧ m' "drawn" = some (.ref da) ∧ m' "moves" = some (.ref D) ∧ s'.heap.IsList da ys ∧
    ∃ vs mv, PlainL s'.heap D (List.toArray vs) ∧ Rows s'.heap [D] vs mv ∧ mv.length = 3 + i ∧ Lower mv ∧ ∀ l ∈ mv, l.length < 100,
    src_range hh hrg (by decide) (by decide) (by decide) (by decide), cBase x₁₅, ?_, (fun b hb => by cases hb), ?_, ?_, ?_⟩
  · intro b hb
    rcases List.mem_cons.mp hb with rfl | hb
    · obtain ⟨o, _, _, e, _⟩ := x₁₅.toInCall.ns; exact ⟨o, e⟩
    · rcases List.mem_cons.mp hb with rfl | hb
      · obtain ⟨o, e, _⟩ := x₁₅.cell "number" (L + 1) rfl; exact ⟨o, e⟩
      · rw [List.mem_singleton.mp hb]; obtain ⟨o, _, e, _⟩ := plainL_lk pD (lk₁₂.trans (LK.of_ext (kExt k₁₂₅))); exact ⟨o, e⟩
  · intro s₁₆ k₁₆
    have lk := (lk₁₂.trans (LK.of_ext (kExt k₁₂₅))).trans (LK.of_ext (kExt k₁₆))
    refine ⟨_, _, cKeep x₁₅ k₁₆, rfl, rfl, isList_lk lda₁₁ lk, _, _, plainL_lk pD lk, rows₁₀.lk lk, rfl, ?_, ?_⟩
    · intro i hi j hj
      have : i = 0 ∨ i = 1 ∨ i = 2 := by simp at hi; omega
      rcases this with rfl | rfl | rfl <;> simp at hj <;> omega
    · intro l hl; simp at hl; rcases hl with rfl | rfl | rfl <;> decide
  · rintro i v s₁₆ s₁₇ hi ⟨t, rfl⟩ ⟨m', cm', x₁₆, hd₁₆, hm₁₆, lda₁₆, vs, mv, pD₁₆, rows, mlen, mlow, mlens⟩ tr
    have hi : i < 4 := by simpa using hi
    have x₁₇ := tr.call x₁₆
    refine stL (env := envA 47 L) x₁₇ rfl rfl fun s₁₈ x₁₈ sb₁₈ lk₁₈ => ?_
    -- number = [7, 5, 22, 41][k - 3]
    refine wpAny_execs_cons (wpAny_Assign_Name (Subscript_ (List_ (wpAny_items_cons (cInt fun s₁₉ t₁₉ k₁₉ => wpAny_items_cons (cInt fun s₂₀ t₂₀ k₂₀ => wpAny_items_cons (cInt fun s₂₁ t₂₁ k₂₁ => wpAny_items_cons (cInt fun s₂₂ t₂₂ k₂₂ => wpAny_items_nil
      (newL (by show 4 ≤ sizeLine; decide) fun s₂₃ a₂₃ k₂₃ _ l₂₃ => ?_)))))))) rfl)
    have k₁₈₃ := kTrans k₁₉ (kTrans k₂₀ (kTrans k₂₁ (kTrans k₂₂ k₂₃)))
    refine wpAny_BinOp (NameLC (cKeep x₁₈ k₁₈₃) rfl rfl rfl (cInt fun s₂₄ t₂₄ k₂₄ => subI fun s₂₅ t₂₅ k₂₅ => ?_) (by decide))
    have k₁₈₅ := kTrans k₁₈₃ (kTrans k₂₄ k₂₅)
    obtain ⟨N₀, u₀, hN₀⟩ : ∃ (N₀ : Int) (u₀ : Tok), ([Value.int 7 t₁₉, .int 5 t₂₀, .int 22 t₂₁, .int 41 t₂₂].toArray)[((3 : Int) + (i : Int) - 3).toNat]? = some (.int N₀ u₀) := by
      have e : ((3 : Int) + (i : Int) - 3).toNat = i := by omega
      rw [e]
      have : i = 0 ∨ i = 1 ∨ i = 2 ∨ i = 3 := by omega
      rcases this with rfl | rfl | rfl | rfl <;> exact ⟨_, _, rfl⟩
    refine itemL (isList_kp l₂₃ (kTrans k₂₄ k₂₅)) (by omega) (by omega) hN₀ ?_
    refine stC (env := envA 47 L) (cKeep x₁₈ k₁₈₅) rfl rfl rfl fun s₂₆ x₂₆ sb₂₆ lk₂₆ => ?_
    have lk₁₆₂₆ := ((tr.lk.trans lk₁₈).trans (LK.of_ext (kExt k₁₈₅))).trans lk₂₆
    have X₂₆ : Wd w s₂₆.heap := X.keeps (cBase x₂₆)
    have lda₂₆ := isList_lk lda₁₆ lk₁₆₂₆
    -- for i in range(len(drawn))
    refine wpAny_execs_cons (for_rule (s₀ := s) (fun _ => rfl) (wpAny_Call_NameR (nameB X₂₆ rfl rfl (by decide) ?_ rfl rfl rfl rfl rfl)))
    refine type1 rfl (wpAny_Call_NameR (nameB X₂₆ rfl rfl (by decide) ?_ rfl rfl rfl rfl rfl))
    refine bi1 rfl (NameLC x₂₆ rfl rfl hd₁₆ ?_ (by decide))
    refine lenL lda₂₆ (by omega) fun s₂₇ t₂₇ k₂₇ => range1 fun s₂₈ r₂₈ t₂₈ v₂₈ k₂₈ hrg₂₈ => ?_
    have k₂₆₈ := kTrans k₂₇ k₂₈
    have x₂₈ := cKeep x₂₆ k₂₆₈
    refine ⟨_, _, [], [L, L + 1], fun q s' => ∃ m' cm' N u, InCallC s L m' (envA 47 L).cells cm' s' ∧ m' "drawn" = some (.ref da) ∧ m' "moves" = some (.ref D) ∧ m' "k" = some (.int (3 + (i : Int)) t) ∧ cm' "number" = some (.int N u) ∧
      LK s₂₈.heap s'.heap ∧ KB [L, L + 1] s₂₈.heap s'.heap, src_range hh hrg₂₈ (by decide) (by decide) (by omega) (by omega), cBase x₂₈, ?_, (fun b hb => by cases hb), ?_, ?_, ?_⟩
    · intro b hb
      rcases List.mem_cons.mp hb with rfl | hb
      · obtain ⟨o, _, _, e, _⟩ := x₂₈.toInCall.ns; exact ⟨o, e⟩
      · rw [List.mem_singleton.mp hb]; obtain ⟨o, e, _⟩ := x₂₈.cell "number" (L + 1) rfl; exact ⟨o, e⟩
    · intro s₂₉ k₂₉
      exact ⟨_, _, N₀, u₀, cKeep x₂₈ k₂₉, hd₁₆, hm₁₆, rfl, rfl, LK.of_ext (kExt k₂₉), KB.of_ext (kExt k₂₉)⟩
    · rintro q v s₂₉ s₃₀ hq ⟨u, rfl⟩ ⟨m₂₉, cm₂₉, N, uN, x₂₉, hd₂₉, hm₂₉, hk₂₉, hN₂₉, lk₂₉, kb₂₉⟩ tr₂
      have hq : q < ys.size := by omega
      have x₃₀ := tr₂.call x₂₉
      have kb₃₀ : KB [L, L + 1] s₂₈.heap s₃₀.heap := fun b o nb e => tr₂.keep b o o e (kb₂₉ b o nb e)
      refine stL (env := envA 47 L) x₃₀ rfl rfl fun s₃₁ x₃₁ sb₃₁ lk₃₁ => ?_
      have lk₂₈₃₁ := (lk₂₉.trans tr₂.lk).trans lk₃₁
      refine wpAny_execs_cons (wpAny_If (wpAny_isTrue_Compare1 (wpAny_BinOp (NameLC x₃₁ rfl rfl rfl (cInt fun s₃₂ t₃₂ k₃₂ => modI (by decide) fun s₃₃ t₃₃ k₃₃ => ?_) (by decide)))))
      have k₃₁₃ := kTrans k₃₂ k₃₃
      refine wpAny_BinOp (NameLC (cKeep x₃₁ k₃₁₃) rfl rfl hk₂₉ (cInt fun s₃₄ t₃₄ k₃₄ => subI fun s₃₅ t₃₅ k₃₅ => wpAny_eq_int (wpAny_truthy_bool ?_)) (by decide))
      have k₃₁₅ := kTrans k₃₁₃ (kTrans k₃₄ k₃₅)
      have x₃₅ := cKeep x₃₁ k₃₁₅
      have kb₃₅ : KB [L, L + 1] s₃₀.heap s₃₅.heap := (KB.of_same sb₃₁ List.mem_cons_self).trans (KB.of_ext (kExt k₃₁₅))
      generalize (Int.fmod (0 + (q : Int)) 4 == 3 + (i : Int) - 3) = bb
      cases bb with
      | false =>
        simp only [Bool.false_eq_true, if_false]
        exact wpAny_execs_nil (wpAny_execs_nil ⟨⟨_, _, N, uN, x₃₅, hd₂₉, hm₂₉, hk₂₉, hN₂₉, lk₂₈₃₁.trans (LK.of_ext (kExt k₃₁₅)), kb₃₀.trans kb₃₅⟩, kb₃₅⟩)
      | true =>
        simp only [if_true]
        obtain ⟨d, td, ed⟩ : ∃ (d : Int) (td : Tok), ys[((0 : Int) + (q : Int)).toNat]? = some (.int d td) := by
          have e : ((0 : Int) + (q : Int)).toNat = q := by omega
          rw [e, Array.getElem?_eq_getElem hq]
          obtain ⟨d, td, e⟩ := dall ys[q] (by simp)
          exact ⟨d, td, by rw [e]⟩
        refine wpAny_execs_cons (wpAny_Assign_Name (wpAny_BinOp (NameCC x₃₅ rfl rfl rfl hN₂₉ (Subscript_ (NameLC x₃₅ rfl rfl hd₂₉ (NameLC x₃₅ rfl rfl rfl ?_ (by decide)) (by decide))) (by decide))) rfl)
        refine itemL (isList_kp (isList_lk (isList_kp lda₂₆ k₂₆₈) lk₂₈₃₁) k₃₁₅) (by omega) (by omega) ed (addI fun s₃₆ t₃₆ k₃₆ => ?_)
        refine stC (env := envA 47 L) (cKeep x₃₅ k₃₆) rfl rfl rfl fun s₃₇ x₃₇ sb₃₇ lk₃₇ => ?_
        have kb₃₇ : KB [L, L + 1] s₃₀.heap s₃₇.heap := (kb₃₅.trans (KB.of_ext (kExt k₃₆))).trans (KB.of_same sb₃₇ (List.mem_cons_of_mem _ List.mem_cons_self))
        exact wpAny_execs_nil (wpAny_execs_nil ⟨⟨_, _, N + d, t₃₆, x₃₇, hd₂₉, hm₂₉, hk₂₉, rfl, ((lk₂₈₃₁.trans (LK.of_ext (kExt k₃₁₅))).trans (LK.of_ext (kExt k₃₆))).trans lk₃₇, kb₃₀.trans kb₃₇⟩, kb₃₇⟩)
    · rintro s₂₉ s₃₀ ⟨m₂₉, cm₂₉, N, uN, x₂₉, hd₂₉, hm₂₉, hk₂₉, hN₂₉, lk₂₉, kb₂₉⟩ tr₂
      have x₃₀ := tr₂.call x₂₉
      have kb₃₀ : KB [L, L + 1] s₂₈.heap s₃₀.heap := fun b o nb e => tr₂.keep b o o e (kb₂₉ b o nb e)
      have lk₁₆₃₀ := ((lk₁₆₂₆.trans (LK.of_ext (kExt k₂₆₈))).trans lk₂₉).trans tr₂.lk
      have X₃₀ : Wd w s₃₀.heap := X.keeps (cBase x₃₀)
      have pD₃₀ := plainL_lk pD₁₆ lk₁₆₃₀
      have rows₃₀ := rows.lk lk₁₆₃₀
      have vlen : vs.length = 3 + i := by rw [rows.len, mlen]
      refine wpAny_execs_nil ?_
      refine wpAny_execs_cons (wpAny_Expr (wpAny_Call_append rfl rfl rfl rfl (NameLC x₃₀ rfl rfl hm₂₉ ⟨D, _, rfl, pD₃₀, ?_⟩ (by decide))))
      refine comp_rule rfl (by decide) rfl (by decide) rfl (fun _ => rfl) ?_
      refine wpAny_Call_NameR (nameB X₃₀ rfl rfl (by decide) (type1 rfl (NameLC x₃₀ rfl rfl hk₂₉ (range1 fun s₃₁ r₃₁ t₃₁ v₃₁ k₃₁ hrg₃₁ => ?_) (by decide))) rfl rfl rfl rfl rfl)
      have x₃₁ := cKeep x₃₀ k₃₁
      refine ⟨_, _, _, bitTest N, fun _ v y => y = v, ?_, src_bound (src_range hh hrg₃₁ (by decide) (by decide) (by omega) (by omega)), ⟨fun _ _ _ _ q _ => q, ?_, ?_⟩, ?_⟩
      · unfold sizeLine; omega
      · intro C c v s₃₂ m₃₂ E' hv hn hm₃₂ ke _
        obtain ⟨hc, tj, rfl⟩ := hv
        have hc : c < 7 := by omega
        have e0 : (0 : Int) + (c : Int) = (c : Int) := by omega
        have cN : s₃₂.heap.IsCell (L + 1) (some (.int N uN)) := by have := (x₃₁.cell "number" (L + 1) rfl).keeps ke; rw [hN₂₉] at this; exact this
        obtain ⟨p0, ps⟩ := two_pow_small hc
        rw [e0] at hm₃₂ ⊢
        refine oneTest (wpAny_isTrue_Compare1 (wpAny_BinOp (wpAny_BinOp (nmC cN (wpAny_BinOp (cInt fun s₃₃ t₃₃ k₃₃ => nmL (hn.keeps (kExt k₃₃)) hm₃₂ (powI (by omega) (by omega) (by decide) fun s₃₄ t₃₄ k₃₄ => ?_) rfl rfl (by decide))) rfl rfl rfl (by decide)))))
        have en : ((c : Nat) : Int).toNat = c := by omega
        refine divI (by rw [en]; exact p0) (by rw [en]; exact ps) fun s₃₅ t₃₅ k₃₅ => cInt fun s₃₆ t₃₆ k₃₆ => modI (by decide) fun s₃₇ t₃₇ k₃₇ => cInt fun s₃₈ t₃₈ k₃₈ => wpAny_eq_int (wpAny_truthy_bool ⟨rfl, ?_⟩)
        exact kTrans k₃₃ (kTrans k₃₄ (kTrans k₃₅ (kTrans k₃₆ (kTrans k₃₇ k₃₈))))
      · intro C c v s₃₂ m₃₂ E' hv _ hn hm₃₂ ke _
        exact nmL hn hm₃₂ ⟨rfl, kRefl _⟩ rfl rfl (by decide)
      · intro D₁ s₃₂ ys₁ vs₁ k₃₂ nD₁ lD₁ len₁ hv₁ F₁ _
        have e₁ := paired_eq F₁
        obtain ⟨l, lI, llt, llen⟩ := small_ints (n := 3 + i) (ws := ys₁.toList) fun v hv => by
          rw [e₁] at hv
          obtain ⟨j, hj, rfl⟩ := List.mem_iff_getElem.mp (List.mem_filter.mp hv).1
          obtain ⟨_, tj, ej⟩ := hv₁ j _ (List.getElem?_eq_getElem hj)
          exact ⟨j, tj, by rw [ej]; congr 1; omega, by omega⟩
        have llen' : l.length < 100 := by
          have q1 : ys₁.toList.length ≤ vs₁.length := by rw [e₁]; exact List.length_filter_le _ _
          omega
        have k₃₀₂ := kTrans k₃₁ k₃₂
        have pD₃₂ := pD₃₀.keeps (kExt k₃₀₂)
        refine appL pD₃₂ (by unfold sizeLine; omega) fun s₃₃ sm₃₃ pD₃₃ sb₃₃ => wpAny_execs_nil ?_
        have D₁D : D₁ ≠ D := by
          rintro rfl
          obtain ⟨o, _, e, _⟩ := pD₃₀.keeps (kExt k₃₁); rw [nD₁] at e; cases e
        have ty : ys₁.toList.toArray = ys₁ := by simp
        have lda₃₃ : s₃₃.heap.IsList da ys := (isList_kp (isList_lk lda₁₆ lk₁₆₃₀) k₃₀₂).extBut sb₃₃.extBut daD
        refine ⟨⟨_, _, cApp (cKeep x₃₀ k₃₀₂) pD₃₂.isList sm₃₃ sb₃₃ nD₀, hd₂₉, hm₂₉, lda₃₃, vs ++ [.ref D₁], mv ++ [l], pD₃₃, ?_, by rw [List.length_append, List.length_singleton]; omega, lower_snoc mlow (fun j hj => by have := llt j hj; omega), fun l' hl' => ?_⟩, ?_⟩
        · exact ((rows₃₀.lk (LK.of_ext (kExt k₃₀₂))).same sb₃₃ (List.mem_singleton.mpr rfl)).snoc ⟨D₁, ys₁.toList, rfl, by rw [ty]; exact lD₁.extBut sb₃₃.extBut D₁D, lI⟩ (fun a ha q => D₁D (by rw [List.mem_singleton.mp ha] at q; injection q))
        · rcases List.mem_append.mp hl' with q | q
          · exact mlens l' q
          · rw [List.mem_singleton.mp q]; exact llen'
        · have sub2 : ∀ b ∈ [L, L + 1], b ∈ [L, L + 1, D] := fun b hb => by
            rcases List.mem_cons.mp hb with q | q
            · rw [q]; exact List.mem_cons_self
            · rw [List.mem_singleton.mp q]; exact List.mem_cons_of_mem _ List.mem_cons_self
          have q1 : KB [L, L + 1, D] s₁₇.heap s₂₈.heap := (((KB.of_same sb₁₈ List.mem_cons_self).trans (KB.of_ext (kExt k₁₈₅))).trans (KB.of_same sb₂₆ (List.mem_cons_of_mem _ List.mem_cons_self))).trans (KB.of_ext (kExt k₂₆₈))
          exact ((q1.trans (kb₃₀.mono sub2)).trans (KB.of_ext (kExt k₃₀₂))).trans (KB.of_same sb₃₃ (List.mem_cons_of_mem _ (List.mem_cons_of_mem _ List.mem_cons_self)))
  · rintro s₁₆ s₁₇ ⟨m', cm', x₁₆, hd₁₆, hm₁₆, lda₁₆, vs, mv, pD₁₆, rows, mlen, mlow, mlens⟩ tr
    have x₁₇ := tr.call x₁₆
    refine wpAny_execs_nil (wpAny_execs_cons (wpAny_Return_some (NameLC x₁₇ rfl rfl hm₁₆ ?_ (by decide))))
    exact h _ _ mv (cDone x₁₇) ⟨D, vs, rfl, isList_lk pD₁₆.isList tr.lk, (rows.lk tr.lk).ll⟩ mlen mlow mlens
end
end Mine

namespace Mine

/-! where a list holds nought -/
def zeros : List Nat → Nat → List Nat
  | [], _ => []
  | x :: r, o => if x = 0 then o :: zeros r (o + 1) else zeros r (o + 1)
theorem zeros_filter (rs : List Nat) : (List.range rs.length).filter (fun k => rs.getD k 0 == 0) = zeros rs 0 := by
  have gen : ∀ (rs : List Nat) (o : Nat), ((List.range rs.length).filter (fun k => rs.getD k 0 == 0)).map (· + o) = zeros rs o := by
    intro rs
    induction rs with
    | nil => intro o; rfl
    | cons x r ih =>
      intro o
      rw [List.length_cons, List.range_succ_eq_map, List.filter_cons, List.filter_map]
      have e1 : ((fun k => (x :: r).getD k 0 == 0) ∘ Nat.succ) = fun k => r.getD k 0 == 0 := by funext k; rfl
      have e2 : ∀ l : List Nat, (l.map Nat.succ).map (· + o) = l.map (· + (o + 1)) := fun l => by
        rw [List.map_map]; congr 1; funext k; show k + 1 + o = k + (o + 1); omega
      have e3 : ((x :: r).getD 0 0 == 0) = (x == 0) := rfl
      rw [e1, e3, zeros]
      by_cases hx : x = 0
      · rw [if_pos (by simp [hx]), if_pos hx, List.map_cons, e2, ih, Nat.zero_add]
      · rw [if_neg (by simp [hx]), if_neg hx, e2, ih]
  have := gen rs 0
  simpa using this
theorem zeros_length : ∀ (rs : List Nat) (o : Nat), (zeros rs o).length = rs.count 0
  | [], _ => rfl
  | x :: r, o => by
    rw [zeros, List.count_cons]
    by_cases hx : x = 0
    · rw [if_pos hx, List.length_cons, zeros_length r]; simp [hx]
    · rw [if_neg hx, zeros_length r]; simp [hx]
theorem zeros_contains : ∀ (rs : List Nat) (o : Nat), (!(zeros rs o == [])) = rs.contains 0
  | [], _ => rfl
  | x :: r, o => by
    rw [zeros, List.contains_cons]
    by_cases hx : x = 0
    · rw [if_pos hx, hx]; rfl
    · rw [if_neg hx, zeros_contains r, show ((0 : Nat) == x) = false from beq_eq_false_iff_ne.mpr (fun e => hx e.symm), Bool.false_or]
theorem zeros_head : ∀ (rs : List Nat) (o : Nat), (zeros rs o).head? = (rs.findIdx? (· == 0)).map (· + o)
  | [], _ => rfl
  | x :: r, o => by
    rw [zeros, List.findIdx?_cons]
    by_cases hx : x = 0
    · rw [if_pos hx, if_pos (by simp [hx])]; simp
    · rw [if_neg hx, if_neg (by simp [hx]), zeros_head r, Option.map_map]
      congr 1; funext k; show k + (o + 1) = k + 1 + o; omega

/-- a place, or none -/
def PlaceAt (v : Value) (p : Option Nat) : Prop := match p with
  | some k => ∃ t, v = .int (k : Nat) t
  | none => ∃ t, v = .str "none" t
/-- the three answers -/
def AnsAt (h : Heap) (v : Value) (c : Bool) (n : Nat) (p : Option Nat) : Prop := ∃ a t pv, v = .ref a ∧ h.IsList a [Value.bool c, .int (n : Nat) t, pv].toArray ∧ PlaceAt pv p
theorem AnsAt.ext {h h' : Heap} {v : Value} {c : Bool} {n : Nat} {p : Option Nat} (x : AnsAt h v c n p) (k : Ext h h') : AnsAt h' v c n p :=
  let ⟨a, t, pv, e, l, q⟩ := x; ⟨a, t, pv, e, isList_lk l (LK.of_ext k), q⟩
theorem AnsAt.lk {h h' : Heap} {v : Value} {c : Bool} {n : Nat} {p : Option Nat} (x : AnsAt h v c n p) (k : LK h h') : AnsAt h' v c n p :=
  let ⟨a, t, pv, e, l, q⟩ := x; ⟨a, t, pv, e, isList_lk l k, q⟩

theorem nat_beq0 (n : Nat) : ((n : Int) == (0 : Int)) = (n == 0) := by
  cases n with
  | zero => rfl
  | succ n => rw [beq_eq_false_iff_ne.mpr (by omega), beq_eq_false_iff_ne.mpr (by omega)]
def zeroTest (rs : List Nat) : Value → Bool
  | .int k _ => rs.getD k.toNat 0 == 0
  | _ => false

/-- the ints of a range that a test lets through -/
theorem range_filter {p : Value → Bool} {q : Nat → Bool} (hpq : ∀ (k : Nat) t, p (.int (k : Nat) t) = q k) : ∀ {n o : Nat} {vs : List Value}, vs.length = n → (∀ (j : Nat) v, vs[j]? = some v → ∃ t, v = .int ((o + j : Nat) : Int) t) → IntsAre (vs.filter p) (nz (((List.range n).map (· + o)).filter q))
  | 0, o, vs, hl, h => by rw [List.eq_nil_of_length_eq_zero hl]; exact .nil
  | n + 1, o, [], hl, h => by cases hl
  | n + 1, o, v :: vs, hl, h => by
    obtain ⟨t, rfl⟩ := h 0 v rfl
    have ih := range_filter hpq (n := n) (o := o + 1) (vs := vs) (by simpa using hl) fun j v e => by
      obtain ⟨t, q⟩ := h (j + 1) v (by simpa using e)
      exact ⟨t, by rw [q]; congr 1; omega⟩
    have e2 : ((List.range n).map Nat.succ).map (· + o) = (List.range n).map (· + (o + 1)) := by
      rw [List.map_map]; congr 1; funext k; show k + 1 + o = k + (o + 1); omega
    rw [List.range_succ_eq_map, List.map_cons, e2, List.filter_cons, List.filter_cons, Nat.zero_add, Nat.add_zero, hpq]
    cases q o with
    | true => exact .cons _ _ ih
    | false => exact ih

section
variable {prog : Program} {w : World} {A : Around} {E : Value → Shared → Prop} {s : Shared} {Q : Value → Shared → Prop}

theorem due_spec {rv : Value} {rs : List Nat}
    (X : Wd w s.heap) (hh : A.handled = none) (hroom : A.depth < 970) (hu : A.units < 7000) (hm : IL s.heap rv (nz rs)) (hlen : rs.length < 1000)
    (h : ∀ s' r, Keeps s s' → AnsAt s'.heap r (rs.contains 0) (rs.count 0) (rs.findIdx? (· == 0)) → Q r s') :
    wpAny (model prog w) A (call (.ref 81) [rv]) Q E s := by
  refine call_fn X (by unfold recursionLimit; omega) [("row", rv)] (fun _ => none) (fun y => if y = "row" then some rv else none) rfl rfl rfl rfl rfl rfl rfl rfl rfl (fun _ => rfl) (fun _ => rfl) ?_
  intro L s₁ x
  obtain ⟨ra, rvs, rfl, rl, rI⟩ := id hm
  have rlen : rvs.length = rs.length := by have := rI.length; simpa using this
  have X₁ : Wd w s₁.heap := X.keeps (cBase x)
  have rl₁ : s₁.heap.IsList ra rvs.toArray := isList_lk rl (LK.of_ext (cBase x))
  refine wpAny_execs_cons (assign_local x (by with_unfolding_all rfl) (by with_unfolding_all rfl) (by decide) rfl (by decide) rfl (fun _ => rfl) rfl rfl ?_)
  refine wpAny_Call_NameR (nameB X₁ rfl rfl (by decide) (type1 rfl (wpAny_Call_NameR (nameB X₁ rfl rfl (by decide) (bi1 rfl (NameCC x rfl rfl rfl rfl ?_ (by decide))) rfl rfl rfl rfl rfl))) rfl rfl rfl rfl rfl)
  refine lenL rl₁ (by rw [List.size_toArray]; omega) fun s₂ t₂ k₂ => range1 fun s₃ r₃ t₃ v₃ k₃ hrg => ?_
  have k₁₃ := kTrans k₂ k₃
  have x₃ := cKeep x k₁₃
  refine ⟨_, _, _, zeroTest rs, fun _ v y => y = v, ?_, src_bound (src_range hh hrg (by decide) (by decide) (by omega) (by rw [List.size_toArray]; omega)), ⟨fun _ _ _ _ q _ => q, ?_, ?_⟩, k₁₃, ?_⟩
  · rw [List.size_toArray]; unfold sizeLine; omega
  · intro C c v s₄ m₄ E' hv hn hm₄ ke _
    obtain ⟨hc, tj, rfl⟩ := hv
    have hc : c < rs.length := by rw [List.size_toArray] at hc; omega
    have e0 : (0 : Int) + (c : Int) = (c : Int) := by omega
    rw [e0] at hm₄ ⊢
    obtain ⟨tc, ec⟩ := ints_at rI hc
    refine oneTest (wpAny_isTrue_Compare1 (Subscript_ (nmC ((x₃.cell "row" _ rfl).keeps ke) (nmL hn hm₄ (itemN (isList_lk rl₁ (LK.of_ext ((kExt k₁₃).trans ke))) (by omega) ec ?_) rfl rfl (by decide)) rfl rfl rfl (by decide))))
    refine cInt fun s₅ t₅ k₅ => wpAny_eq_int (wpAny_truthy_bool ⟨?_, k₅⟩)
    have e1 : zeroTest rs (.int (c : Nat) tj) = (rs.getD c 0 == 0) := rfl
    rw [e1]; exact nat_beq0 _
  · intro C c v s₄ m₄ E' hv _ hn hm₄ ke _
    exact nmL hn hm₄ ⟨rfl, kRefl _⟩ rfl rfl (by decide)
  · intro D s₄ ys vs x₄ kb₄ lk₄ nD lD len hv F _
    have e₁ := paired_eq F
    have gI : IntsAre ys.toList (nz (zeros rs 0)) := by
      rw [e₁, ← zeros_filter]
      have en : ((List.toArray rvs).size - 0 : Int).toNat = rs.length := by rw [List.size_toArray]; omega
      rw [en] at len
      have := range_filter (p := zeroTest rs) (q := fun k => rs.getD k 0 == 0) (fun _ _ => rfl) (o := 0) len (fun j v e => by
        obtain ⟨_, t, q⟩ := hv j v e; exact ⟨t, by rw [q]; congr 1⟩)
      simpa using this
    have ty : ys.toList.toArray = ys := by simp
    have gIL : IL s₄.heap (.ref D) (nz (zeros rs 0)) := ⟨D, ys.toList, rfl, by rw [ty]; exact lD, gI⟩
    have gl : ys.size = rs.count 0 := by
      rw [← zeros_length rs 0]; have := gI.length; simpa using this
    have gc : rs.count 0 ≤ rs.length := List.count_le_length
    have X₄ : Wd w s₄.heap := X.keeps (cBase x₄)
    have ne0 : ∀ {s' : Shared} {a : Addr}, (!((nz (zeros rs 0)) == ([] : List Int))) = rs.contains 0 := by
      intro _ _
      rw [← zeros_contains rs 0]
      cases zeros rs 0 <;> rfl
    refine wpAny_execs_cons (wpAny_Return_some (List_ (wpAny_items_cons (wpAny_Compare1 (NameLC x₄ rfl rfl rfl (List_ (wpAny_items_nil (newL (by decide) fun s₅ a₅ k₅ _ l₅ => ?_))) (by decide))))))
    refine ne_IL (gIL.kp k₅) (b := []) ⟨a₅, [], rfl, l₅, .nil⟩ (by simp [Around.deeper, cLine]; omega) ?_
    rw [ne0 (s' := s₅) (a := a₅)]
    have X₅ := wKeep X₄ k₅
    refine wpAny_items_cons (wpAny_Call_NameR (nameB X₅ rfl rfl (by decide) (bi1 rfl (NameLC (cKeep x₄ k₅) rfl rfl rfl ?_ (by decide))) rfl rfl rfl rfl rfl))
    refine lenL (isList_kp lD k₅) (by omega) fun s₆ t₆ k₆ => ?_
    rw [gl]
    have k₄₆ := kTrans k₅ k₆
    refine wpAny_items_cons (wpAny_IfExp (wpAny_isTrue_Compare1 (NameLC (cKeep x₄ k₄₆) rfl rfl rfl (List_ (wpAny_items_nil (newL (by decide) fun s₇ a₇ k₇ _ l₇ => ?_))) (by decide))))
    have k₄₇ := kTrans k₄₆ k₇
    refine ne_IL (gIL.kp k₄₇) (b := []) ⟨a₇, [], rfl, l₇, .nil⟩ (by simp [Around.deeper, cLine]; omega) (wpAny_truthy_bool ?_)
    rw [ne0 (s' := s₇) (a := a₇)]
    have hz := zeros_head rs 0
    have hzc := zeros_contains rs 0
    cases hc : rs.contains 0 with
    | true =>
      simp only [if_true]
      refine Subscript_ (NameLC (cKeep x₄ k₄₇) rfl rfl rfl (cInt fun s₈ t₈ k₈ => ?_) (by decide))
      have k₄₈ := kTrans k₄₇ k₈
      cases hz0 : zeros rs 0 with
      | nil => rw [hz0, hc] at hzc; cases hzc
      | cons z zr =>
        rw [hz0] at gI hz
        obtain ⟨tz, ez⟩ := ints_at gI (j := 0) (Nat.succ_pos _)
        refine itemN (n := 0) (isList_kp lD k₄₈) (by decide) (by rw [ty] at ez; exact ez) (wpAny_items_nil ?_)
        refine newL (by show 3 ≤ sizeLine; decide) fun s₉ a₉ k₉ _ l₉ => ?_
        refine h _ _ (kTrans (cDone x₄) (kTrans k₄₈ k₉)) ⟨a₉, t₆, _, rfl, by rw [hc]; exact l₉, ?_⟩
        have hp : rs.findIdx? (· == 0) = some z := by
          cases hf : rs.findIdx? (· == 0) with
          | none => rw [hf] at hz; cases hz
          | some k => rw [hf] at hz; have hz' : z = k + 0 := Option.some.inj hz; rw [hz']; rfl
        rw [hp]; exact ⟨tz, rfl⟩
    | false =>
      simp only [Bool.false_eq_true, if_false]
      refine wpAny_Constant_str (wpAny_items_nil ?_)
      refine newL (by show 3 ≤ sizeLine; decide) fun s₉ a₉ k₉ _ l₉ => ?_
      refine h _ _ (kTrans (cDone x₄) (kTrans k₄₇ (kTrans (kTok _ _) k₉))) ⟨a₉, t₆, _, rfl, by rw [hc]; exact l₉, ?_⟩
      have hp : rs.findIdx? (· == 0) = none := by
        cases hf : rs.findIdx? (· == 0) with
        | none => rfl
        | some k =>
          rw [hf] at hz
          cases hz0 : zeros rs 0 with
          | nil => rw [hz0] at hz; cases hz
          | cons z zr => rw [hz0, hc] at hzc; cases hzc
      rw [hp]; exact ⟨_, rfl⟩
end
end Mine

namespace Mine

/-- keys that are ints whose tokens lie from lo on, below hi -/
def isTok (lo hi : Nat) (k : Int) : Value → Bool
  | .int i t => i == k && decide (lo ≤ t) && decide (t < hi)
  | _ => false
theorem isTok_shape {lo hi : Nat} {k : Int} {v : Value} (h : isTok lo hi k v = true) : ∃ t, v = .int k t ∧ lo ≤ t ∧ t < hi := by
  cases v <;> simp_all [isTok]
def tokKind (prog : Program) (w : World) (lo hi : Nat) : KeyKind prog w Int where
  is := isTok lo hi
  hash := hashInt
  inj := fun v a b ha hb => by obtain ⟨t, rfl, _⟩ := isTok_shape ha; obtain ⟨u, e, _⟩ := isTok_shape hb; injection e
  byValue := fun k v h => by obtain ⟨t, rfl, _⟩ := isTok_shape h; rfl
  pyHash := fun hv h => by obtain ⟨t, rfl, _⟩ := isTok_shape hv; exact wpAny_pyHash_int h
  eqBool := fun hu hv h => by
    obtain ⟨t, rfl, _⟩ := isTok_shape hu
    obtain ⟨u, rfl, _⟩ := isTok_shape hv
    exact wpAny_eqBool_int h
  «strs» := fun k x t v h => by simp [isTok] at h

section
variable {prog : Program} {w : World} {lo hi : Nat}
theorem pairs_int {es : List DictEntry} {kvs : List (Int × Value)} (h : Pairs (tokKind prog w lo hi) es kvs) : Pairs (intKind prog w) es kvs := by
  induction h with
  | nil => exact .nil
  | cons h1 h2 _ ih =>
    refine .cons ?_ h2 ih
    obtain ⟨t, e, _⟩ := isTok_shape (lo := lo) (hi := hi) h1
    rw [e]; exact intKind_is prog w _ t
theorem dict_int {h : Heap} {d : Addr} {kvs : List (Int × Value)} (x : h.DictOf (tokKind prog w lo hi) d kvs) : h.DictOf (intKind prog w) d kvs := by
  obtain ⟨o, es, ep, ho, hx, hd, hk, hp, hn⟩ := x
  refine ⟨o, es, ep, ho, hx, hd, fun e he => ?_, pairs_int hp, hn⟩
  obtain ⟨k, h1, h2⟩ := hk e he
  obtain ⟨t, q, _⟩ := isTok_shape (lo := lo) (hi := hi) h1
  exact ⟨k, by rw [q]; exact intKind_is prog w _ t, h2⟩
end

section
variable {prog : Program} {w : World} {K : Type} [DecidableEq K] {knd : KeyKind prog w K} {A : Around} {E : Value → Shared → Prop} {s : Shared}

theorem src_dict {d : Addr} {kvs : List (K × Value)} (hh : A.handled = none) (hs : (d == sysModules) = false) (hd : s.heap.DictOf knd d kvs) :
    wpAny (model prog w) A (pyIter (.ref d)) (Src prog w A s kvs.length (fun i v => ∃ k x, kvs[i]? = some (k, x) ∧ knd.is k v = true) [d]) E s := by
  obtain ⟨ep, hd⟩ := hd.dictAt
  have hlt := hd.lt_size
  refine wpAny_pyIter_dict hs hd ⟨_, _, rfl, kHeap (fun b o e => Heap.get?_push_of_some _ e), ⟨Walks.dictKeys hh _ d (Nat.ne_of_lt hlt) kvs ep, fun i h x => ?_⟩, ⟨⟨_, Heap.get?_push_size _ rfl, rfl, rfl⟩, hd.push _⟩, ?_, get_none_of_ge (Nat.le_refl _)⟩
  · obtain ⟨⟨o, ho, _, hd⟩, _⟩ := x; exact ⟨o, _, ho, hd⟩
  · intro b hb
    show b < (s.heap.push _).objs.size
    rw [Heap.size_push]
    rcases List.mem_cons.mp hb with rfl | hb
    · exact Nat.lt_succ_self _
    · rcases List.mem_cons.mp hb with rfl | hb
      · exact Nat.lt_succ_of_lt hlt
      · cases hb

theorem nextKey {it d : Addr} {i ep : Nat} {kvs : List (K × Value)} {k : K} {v : Value} {Q : Value → Shared → Prop} (hit : s.heap.IsKeyIter it d i kvs.length ep) (hm : s.heap.DictAt knd d kvs ep) (hx : kvs[i]? = some (k, v))
    (hQ : ∀ key h', knd.is k key = true → h'.IsKeyIter it d (i + 1) kvs.length ep → Heap.SameBut it s.heap h' → Q key { s with heap := h' }) :
    wpAny (model prog w) A (Builtin.SmallTypes.nextOf (.ref it)) Q E s := by
  obtain ⟨o, ho, hc, hd⟩ := id hit
  obtain ⟨od, es, hod, hcd, hdd, hk, hp, hn⟩ := id hm
  have hsz : es.size = kvs.length := by rw [← hp.length]; simp
  have hlt : i < es.size := by
    rcases Nat.lt_or_ge i kvs.length with q | q
    · rw [hsz]; exact q
    · rw [List.getElem?_eq_none q] at hx; cases hx
  have hkey : knd.is k es[i].key = true := (hp.get? (e := es[i]) (by simp [hlt]) hx).1
  have hit' : (s.heap.update it (Obj.mapFields (·.setIfInBounds 1 (rawInt ((i : Int) + 1))))).IsKeyIter it d (i + 1) kvs.length ep :=
    ⟨_, Heap.get?_update_self _ ho (Obj.isFreed_of_fields (Obj.data_mapFields hd _)), (Obj.cls_mapFields ..).trans hc, by rw [Obj.data_mapFields hd]; simp [rawInt]⟩
  unfold Builtin.SmallTypes.nextOf
  refine wpAny_bind (wpAny_callSpecial?_slot (name := Str.ofString "__next__") hit.typeIs F.slot_dict_keyiterator_next (wpAny_call_entry F.slot_dict_keyiterator_next hit.typeIs F.entry_dict_keyiterator_next ?_ (F.args_dict_keyiterator_next_1 _)))
  refine wpAny_bind (wpAny_pure (wpAny_bind (wpAny_bind ?_)))
  first | refine wpAny_bind (wpAny_typeNameOfWhole_keyiter hit.typeIs (wpAny_pure ?_)) | refine wpAny_bind (wpAny_typeNameOf_keyiter hit.typeIs (wpAny_pure ?_))
  refine wpAny_bind (wpAny_fieldsOf ho hd ?_)
  simp only [show Builtin.Dict_items.ownsTuple "dict_keyiterator" = false from by decide, Bool.false_eq_true, if_false]
  show wpAny _ _ (if (Value.ref d == Value.none) = true then _ else _) _ _ s
  rw [if_neg (show ¬ ((Value.ref d == Value.none) = true) from Bool.false_ne_true)]
  refine wpAny_bind (wpAny_pure (wpAny_bind (wpAny_dictEntries hod hdd ?_)))
  rw [if_neg (by rw [hsz]; simp)]
  refine wpAny_bind (wpAny_pure (wpAny_bind (wpAny_dictEpoch hod hdd ?_)))
  rw [if_neg (by simp)]
  refine wpAny_pure ?_
  simp only [show ¬ ((i : Int) < 0) from by omega, if_false, Int.toNat_natCast, Array.getElem?_eq_getElem hlt]
  refine wpAny_bind ?_
  first | refine wpAny_bind (wpAny_typeNameOfWhole_keyiter hit.typeIs (wpAny_pure ?_)) | refine wpAny_bind (wpAny_typeNameOf_keyiter hit.typeIs (wpAny_pure ?_))
  refine wpAny_bind (wpAny_isOneOf_keyiter hit.typeIs ?_)
  show wpAny _ _ (setField (.ref it) 1 (rawInt ((i : Int) + 1)) >>= _) _ _ s
  refine wpAny_bind (wpAny_setField ho hd (by simp) (wpAny_bind (wpAny_holding ?_)))
  refine wpAny_bind (wpAny_isOneOf_keyiter (s := { s with heap := s.heap.update it (Obj.mapFields (·.setIfInBounds 1 (rawInt ((i : Int) + 1)))) }) hit'.typeIs ?_)
  show wpAny _ _ (pure es[i].key) _ _ _
  exact wpAny_pure (wpAny_pure ⟨_, rfl, wpAny_pure (hQ _ _ hkey hit' (Heap.SameBut.update ..))⟩)

theorem nextKey_end {it d : Addr} {i ep : Nat} {kvs : List (K × Value)} {Q : Value → Shared → Prop} (hh : A.handled = none) (hit : s.heap.IsKeyIter it d i kvs.length ep) (hm : s.heap.DictAt knd d kvs ep) (hx : kvs[i]? = none)
    (hE : ∀ h' e, Heap.ExtBut it s.heap h' → (∃ o, h'.get? e = some o ∧ o.cls = .type "StopIteration") → E (.ref e) { s with heap := h' }) :
    wpAny (model prog w) A (Builtin.SmallTypes.nextOf (.ref it)) Q E s := by
  obtain ⟨o, ho, hc, hd⟩ := id hit
  obtain ⟨od, es, hod, hcd, hdd, hk, hp, hn⟩ := id hm
  have hsz : es.size = kvs.length := by rw [← hp.length]; simp
  have hge : es.size ≤ i := by rw [hsz]; simpa using hx
  unfold Builtin.SmallTypes.nextOf
  refine wpAny_bind (wpAny_callSpecial?_slot (name := Str.ofString "__next__") hit.typeIs F.slot_dict_keyiterator_next (wpAny_call_entry F.slot_dict_keyiterator_next hit.typeIs F.entry_dict_keyiterator_next ?_ (F.args_dict_keyiterator_next_1 _)))
  refine wpAny_bind (wpAny_pure (wpAny_bind (wpAny_bind ?_)))
  first | refine wpAny_bind (wpAny_typeNameOfWhole_keyiter hit.typeIs (wpAny_pure ?_)) | refine wpAny_bind (wpAny_typeNameOf_keyiter hit.typeIs (wpAny_pure ?_))
  refine wpAny_bind (wpAny_fieldsOf ho hd ?_)
  simp only [show Builtin.Dict_items.ownsTuple "dict_keyiterator" = false from by decide, Bool.false_eq_true, if_false]
  show wpAny _ _ (if (Value.ref d == Value.none) = true then _ else _) _ _ s
  rw [if_neg (show ¬ ((Value.ref d == Value.none) = true) from Bool.false_ne_true)]
  refine wpAny_bind (wpAny_pure (wpAny_bind (wpAny_dictEntries hod hdd ?_)))
  rw [if_neg (by rw [hsz]; simp)]
  refine wpAny_bind (wpAny_pure (wpAny_bind (wpAny_dictEpoch hod hdd ?_)))
  rw [if_neg (by simp)]
  refine wpAny_pure ?_
  simp only [show ¬ ((i : Int) < 0) from by omega, if_false, Int.toNat_natCast, Array.getElem?_eq_none hge]
  refine wpAny_bind ?_
  first | refine wpAny_bind (wpAny_typeNameOfWhole_keyiter hit.typeIs (wpAny_pure ?_)) | refine wpAny_bind (wpAny_typeNameOf_keyiter hit.typeIs (wpAny_pure ?_))
  show wpAny _ _ (setField (.ref it) 0 .none >>= _) _ _ s
  refine wpAny_bind (wpAny_setField ho hd (by simp) ?_)
  show wpAny _ _ (newExc (.type "StopIteration") [] >>= _) _ _ _
  refine wpAny_bind ?_
  simp only [newExc, newTuple]
  refine wpAny_bind (wpAny_newObj_type ?_ (by size_fits))
  refine wpAny_bind (m := firstArgMember _ _) (wpAny_of_eq (a := Value.none) (by first | rfl | (simp only [firstArgMember]; rfl)) ?_)
  refine wpAny_newObj_type ?_ (by size_fits)
  simp only [raiseNew]
  refine wpAny_bind (wpAny_handled ?_)
  first | rw [show A.in1.handled = none from hh] | rw [hh]
  refine wpAny_bind (wpAny_pure (wpAny_throw ?_))
  exact hE _ _ (((Heap.SameBut.update ..).extBut.push _).push _) ⟨_, Heap.get?_push_size _ rfl, rfl⟩

theorem drawsKeys (hh : A.handled = none) (it d : Addr) (hne : d ≠ it) (kvs : List (K × Value)) (ep : Nat) :
    Draws prog w A it [it, d] kvs.length (fun i v => ∃ k x, kvs[i]? = some (k, x) ∧ knd.is k v = true) (fun i h => h.IsKeyIter it d i kvs.length ep ∧ h.DictAt knd d kvs ep) where
  live := fun _ _ st => let ⟨o, ho, _⟩ := st.1; ⟨o, ho⟩
  frame := fun _ _ _ st hk => ⟨st.1.at fun o e => hk it (by simp) o e, st.2.at' fun o e => hk d (by simp) o e⟩
  item := fun i s Q E hi st hQ => by
    obtain ⟨⟨k, x⟩, hx⟩ : ∃ p, kvs[i]? = some p := ⟨kvs[i], by simp [hi]⟩
    exact nextKey st.1 st.2 hx fun key h' hkey hit' hs' => hQ key h' s.toks ⟨k, x, hx, hkey⟩ ⟨hit', st.2.extBut hs'.extBut hne⟩ hs'
  done := fun s Q E st hE => nextKey_end hh st.1 st.2 (by simp) hE
end
end Mine

namespace Mine

def keyIterObj (d : Addr) (n ep : Nat) : Obj := { cls := .type "dict_keyiterator", data := .fields #[.ref d, .int 0 0, .int n 0, .int ep 0] }

section
variable {prog : Program} {w : World}
open AutoSeq1 (wpAny_loadPart') in
set_option maxHeartbeats 1000000 in
theorem enum_new_dict {K : Type} [DecidableEq K] {knd : KeyKind prog w K} {A : Around} {E : Value → Shared → Prop} {s : Shared} {Q : PySem.Fin → Shared → Prop} {d : Addr} {kvs : List (K × Value)} {ep : Nat} (hs : (d == sysModules) = false) (hd : s.heap.DictAt knd d kvs ep)
    (h : Q (.done (.ret (.ref (s.heap.objs.size + 1)))) { s with heap := (s.heap.push (keyIterObj d kvs.length ep)).push { cls := .type "enumerate", data := .fields #[.none, .bool false, .ref s.heap.objs.size, rawInt 0, .none, .none] } }) :
    wpAny (model prog w) A (Builtin.«enumerate.__new__» ⟨[.type "enumerate", .ref d], []⟩) Q E s := by
  obtain ⟨hp, g, dr, tk, os⟩ := s
  have hsub := sub_enumerate
  have hd' : Heap.DictAt knd (Shared.heap ⟨hp, g, dr, tk, os⟩) d kvs ep := hd
  obtain ⟨od, es, hod, _⟩ := id hd
  wp_walk using wpAny_loadPart' hod
  refine wpAny_stack_any fun st => wpAny_pure ?_
  have fin : Q (.done (.ret (.ref (Heap.push hp (keyIterObj d kvs.length ep)).objs.size))) ⟨(hp.push (keyIterObj d kvs.length ep)).push { cls := .type "enumerate", data := .fields #[.none, .bool false, .ref hp.objs.size, rawInt 0, .none, .none] }, g, dr, tk, os⟩ := by
    rw [Heap.size_push]; exact h
  split
  · rename_i c _ _ _ _ _
    cases (c == Value.type "enumerate")
    · wp_walk using wpAny_pyIter_dict hs hd'
      exact fin
    · wp_walk using wpAny_pyIter_dict hs hd'
      exact fin
  · wp_walk using wpAny_pyIter_dict hs hd'
    exact fin
end

theorem pairs_tok {prog prog' : Program} {w w' : World} {lo hi : Nat} {es : List DictEntry} {kvs : List (Int × Value)} (h : Pairs (tokKind prog w lo hi) es kvs) : Pairs (tokKind prog' w' lo hi) es kvs := by
  induction h with
  | nil => exact .nil
  | cons h1 h2 _ ih => exact .cons h1 h2 ih
theorem dictAt_tok {prog prog' : Program} {w w' : World} {lo hi : Nat} {h : Heap} {d : Addr} {kvs : List (Int × Value)} {ep : Nat} (x : h.DictAt (tokKind prog w lo hi) d kvs ep) : h.DictAt (tokKind prog' w' lo hi) d kvs ep := by
  obtain ⟨o, es, ho, hx, hd, hk, hp, hn⟩ := x
  exact ⟨o, es, ho, hx, hd, hk, pairs_tok hp, hn⟩

/-- what enumerate() hands to a loop -/
structure ESrc (prog : Program) (w : World) (A : Around) (s : Shared) (n : Nat) (P : Nat → Value → Prop) (fa : List Addr) (e : Addr) (s₂ : Shared) : Prop where
  keep : Keeps s s₂
  walk : ∃ it St Mid, WalksT prog w A e (e :: it :: fa) [e, it] n (fun i vals => ∃ t x, P i x ∧ vals = #[.int i t, x]) St Mid ∧ St 0 s₂.heap ∧ s.heap.get? e = none ∧ s.heap.get? it = none ∧
    (∀ i h, St i h → (∃ o vs, h.get? e = some o ∧ o.data = .fields vs) ∧ ∃ o vs, h.get? it = some o ∧ o.data = .fields vs) ∧
    (∀ i T h, Mid i T h → (∃ o vs, h.get? e = some o ∧ o.data = .fields vs) ∧ ∃ o vs, h.get? it = some o ∧ o.data = .fields vs)

section
variable {prog : Program} {w : World} {A : Around} {E : Value → Shared → Prop} {s : Shared} {Q : Value → Shared → Prop}

theorem enum_list {l : Addr} {items : Array Value} (hh : A.handled = none) (hl : s.heap.IsList l items)
    (h : ∀ s' e, ESrc prog w A s items.size (fun i v => items[i]? = some v) [l] e s' → (∃ it old, IsEnum s'.heap e it 0 old) → Q (.ref e) s') : wpAny (model prog w) A (call (.type "enumerate") [.ref l]) Q E s := by
  refine call_enumerate_list hl fun h' he hi hsz hk => ?_
  have hlt : l < s.heap.objs.size := let ⟨_, ho, _⟩ := hl; Heap.lt_size ho
  refine h _ _ ⟨kHeap hk, s.heap.objs.size, _, _, WalksT.enumerateD (Draws.list (A := A.in1) hh s.heap.objs.size l (Nat.ne_of_lt hlt) items) (s.heap.objs.size + 1) (Nat.succ_ne_self _) ?_ List.mem_cons_self, ⟨⟨_, he⟩, hi, isList_lk hl (LK.of_ext hk)⟩, get_none_of_ge (Nat.le_succ _), get_none_of_ge (Nat.le_refl _), ?_, ?_⟩ ⟨_, _, he⟩
  · intro q
    rcases List.mem_cons.mp q with q | q
    · exact absurd q (Nat.succ_ne_self _)
    · rw [← List.mem_singleton.mp q] at hlt; exact absurd hlt (Nat.not_lt.mpr (Nat.le_succ _))
  · rintro i hp ⟨⟨old, he⟩, ⟨o, ho, _, hd⟩, _⟩; exact ⟨⟨_, _, he, rfl⟩, o, _, ho, hd⟩
  · rintro i T hp ⟨⟨x, he⟩, ⟨⟨o, ho, _, hd⟩, _⟩, _⟩; exact ⟨⟨_, _, he, rfl⟩, o, _, ho, hd⟩

theorem enum_dict {lo hi : Nat} {d : Addr} {kvs : List (Int × Value)} (hh : A.handled = none) (hs : (d == sysModules) = false) (hd : s.heap.DictOf (tokKind prog w lo hi) d kvs)
    (h : ∀ s' e, ESrc prog w A s kvs.length (fun i v => ∃ k x, kvs[i]? = some (k, x) ∧ isTok lo hi k v = true) [d] e s' → (∃ it old, IsEnum s'.heap e it 0 old) → Q (.ref e) s') : wpAny (model prog w) A (call (.type "enumerate") [.ref d]) Q E s := by
  obtain ⟨ep, hd⟩ := hd.dictAt
  have hlt := hd.lt_size
  have m : Meets (Builtin.«enumerate.__new__» ⟨[.type "enumerate", .ref d], []⟩) (fun _ R s => s.heap.DictAt (tokKind prog w lo hi) d kvs ep ∧
      R (.ok (.ret (.ref (s.heap.objs.size + 1)))) { s with heap := (s.heap.push (keyIterObj d kvs.length ep)).push { cls := .type "enumerate", data := .fields #[.none, .bool false, .ref s.heap.objs.size, rawInt 0, .none, .none] } }) :=
    fun prog' w' A R s x => enum_new_dict (knd := tokKind prog' w' lo hi) hs (dictAt_tok x.1) x.2
  refine callType_new F.called_enumerate (by decide) (F.typeCall_enumerate_1 _) (F.newCall_enumerate_1 _) (fun obj => F.args_object_init_2 obj _) F.entry_enumerate_new m ⟨hd, ?_⟩
  have hz : (s.heap.push (keyIterObj d kvs.length ep)).objs.size = s.heap.objs.size + 1 := Heap.size_push ..
  have he : IsEnum ((s.heap.push (keyIterObj d kvs.length ep)).push { cls := .type "enumerate", data := .fields #[.none, .bool false, .ref s.heap.objs.size, rawInt 0, .none, .none] }) (s.heap.objs.size + 1) s.heap.objs.size 0 .none := by
    have := Heap.get?_push_size (s.heap.push (keyIterObj d kvs.length ep)) (o := { cls := .type "enumerate", data := .fields #[.none, .bool false, .ref s.heap.objs.size, rawInt 0, .none, .none] }) rfl
    rw [hz] at this; exact this
  refine ⟨⟨_, he, rfl⟩, h _ _ ⟨kHeap fun b o x => Heap.get?_push_of_some _ (Heap.get?_push_of_some _ x), s.heap.objs.size, _, _, WalksT.enumerateD (drawsKeys (A := A.in1) (knd := tokKind prog w lo hi) hh s.heap.objs.size d (Nat.ne_of_lt hlt) kvs ep) (s.heap.objs.size + 1) (Nat.succ_ne_self _) ?_ List.mem_cons_self,
    ⟨⟨_, he⟩, ⟨_, Heap.get?_push_of_some _ (Heap.get?_push_size _ rfl), rfl, rfl⟩, (hd.push _).push _⟩, get_none_of_ge (Nat.le_succ _), get_none_of_ge (Nat.le_refl _), ?_, ?_⟩ ⟨_, _, he⟩⟩
  · intro q
    rcases List.mem_cons.mp q with q | q
    · exact absurd q (Nat.succ_ne_self _)
    · rw [← List.mem_singleton.mp q] at hlt; exact absurd hlt (Nat.not_lt.mpr (Nat.le_succ _))
  · rintro i hp ⟨⟨old, he⟩, ⟨o, ho, _, hd⟩, _⟩; exact ⟨⟨_, _, he, rfl⟩, o, _, ho, hd⟩
  · rintro i T hp ⟨⟨x, he⟩, ⟨⟨o, ho, _, hd⟩, _⟩, _⟩; exact ⟨⟨_, _, he, rfl⟩, o, _, ho, hd⟩
end
end Mine

namespace Mine

theorem turned_of {s₀ sb s s₁ : Shared} {wr : List Addr} (sm : ∃ h tk, s₁ = { s with heap := h, toks := tk }) (hk : ∀ b o, b ∉ wr → s.heap.get? b = some o → s₁.heap.get? b = some o)
    (hf : ∀ b ∈ wr, ∃ o vs, s.heap.get? b = some o ∧ o.data = .fields vs) (hb : ∀ b ∈ wr, sb.heap.get? b = none) (h0 : Ext s₀.heap sb.heap) : Turned s₀ sb s s₁ := by
  have nf : ∀ {b : Addr} {o : Obj}, s.heap.get? b = some o → (∀ vs, o.data ≠ .fields vs) → b ∉ wr := fun {b o} e n q => by
    obtain ⟨o', vs, e', d'⟩ := hf b q
    rw [e] at e'; cases e'; exact n vs d'
  refine ⟨fun b o ⟨xs, n, d⟩ e => hk b o (nf e fun vs q => by rw [d] at q; cases q) e, fun b o o' e q => hk b o (fun r => by rw [hb b r] at e; cases e) q, fun {L cs m cm} c => ?_⟩
  refine ⟨⟨?_, ?_, fun b o e => hk b o (fun r => ?_) (c.toInCall.keep b o e), c.toInCall.fresh⟩, fun n a e => ?_, c.apart, c.above⟩
  · obtain ⟨h₁, tk, rfl⟩ := c.toInCall.same; obtain ⟨h₂, tk₂, rfl⟩ := sm; exact ⟨_, _, rfl⟩
  · obtain ⟨o, es, ep, e, d, r⟩ := c.toInCall.ns
    exact ⟨o, es, ep, hk _ _ (nf e fun vs q => by rw [d] at q; cases q) e, d, r⟩
  · have := h0 b o e; rw [hb b r] at this; cases this
  · obtain ⟨o, e', d⟩ := c.cell n a e
    exact ⟨o, hk _ _ (nf e' fun vs q => by rw [d] at q; cases q) e', d⟩

section
variable {prog : Program} {w : World} {A : Around}

/-- for i, v in enumerate(..), by an invariant -/
theorem for_enum {env : Env} {s₀ s : Shared} {xi xv : Str} {pi pv pt pos : Pos} {kk : Nat} {iter : Expr} {body orelse : List Stmt} {E : Value → Shared → Prop} {Q : Flow → Shared → Prop}
    (hh : A.handled = none) (hs : ∀ x, foldedSetIterable iter env x = pure x)
    (h : wpAny (model prog w) A (eval iter env) (fun xval s₁ => ∃ (e : Addr) (n : Nat) (P : Nat → Value → Prop) (fa : List Addr) (J : Nat → Shared → Prop) (sb : Shared), xval = .ref e ∧ (∃ it old, IsEnum s₁.heap e it 0 old) ∧ ESrc prog w A sb n P fa e s₁ ∧ Ext s₀.heap sb.heap ∧
      (∀ b ∈ fa, b ≠ env.locals) ∧ (∃ o, sb.heap.get? env.locals = some o) ∧ J 0 s₁ ∧
      (∀ i v t s₂ s₃, i < n → P i v → J i s₂ → Turned s₀ sb s₂ s₃ →
        wpAny (model prog w) A (storeName env xi (.int (i : Nat) t)) (fun _ s₄ => wpAny (model prog w) A (storeName env xv v) (fun _ s₅ => wpAny (model prog w) A (execs body env) (fun f s₆ => match f with
          | .next | .cont => J (i + 1) s₆ ∧ KB [env.locals] s₃.heap s₆.heap
          | .brk => Q .next s₆
          | .ret v => Q (.ret v) s₆) (fun _ _ => False) s₅) (fun _ _ => False) s₄) (fun _ _ => False) s₃) ∧
      (∀ s₂ s₃, J n s₂ → Turned s₀ sb s₂ s₃ → wpAny (model prog w) A (execs orelse env) Q E s₃)) E s)
    (hE : PassesOwn (model prog w) A env E := by passes_own) :
    wpAny (model prog w) A (exec (.For (.Tuple [.Name xi pi, .Name xv pv] kk pt) iter body orelse pos) env) Q E s := by
  refine wpAny_For (wpAny_mono h (fun xval s₁ h₁ => ?_) fun _ _ q => q) hs
  obtain ⟨e, n, P, fa, J, sb, rfl, ⟨it₀, old₀, hen⟩, ⟨kb, it, St, Mid, W, st, ne, ni, hSt, hMid⟩, h0, hfa, ⟨oL, hoL⟩, hJ0, turn, fin⟩ := h₁
  refine wpAny_pyIter_enum hen ?_
  have heL : e ≠ env.locals := by rintro q; rw [← q, ne] at hoL; cases hoL
  have hiL : it ≠ env.locals := by rintro q; rw [← q, ni] at hoL; cases hoL
  have hwb : ∀ b ∈ [e, it], sb.heap.get? b = none := fun b hb => by
    rcases List.mem_cons.mp hb with rfl | hb
    · exact ne
    · rw [List.mem_singleton.mp hb]; exact ni
  have hfpL : ∀ b ∈ e :: it :: fa, b ∉ [env.locals] := fun b hb q => by
    rw [List.mem_singleton.mp q] at hb
    rcases List.mem_cons.mp hb with q | hb
    · exact heL q.symm
    · rcases List.mem_cons.mp hb with q | hb
      · exact hiL q.symm
      · exact hfa _ hb rfl
  refine codeAny_forLoop_any (fun k s' => ∃ i, J i s' ∧ St i s'.heap ∧ i ≤ n ∧ k = n + 1 - i) ?_ (n + 1) ⟨0, hJ0, st, Nat.zero_le _, rfl⟩
  rintro k s' ⟨i, hJ, hS, hi, rfl⟩
  have hwf : ∀ b ∈ [e, it], ∃ o vs, s'.heap.get? b = some o ∧ o.data = .fields vs := fun b hb => by
    rcases List.mem_cons.mp hb with rfl | hb
    · exact (hSt i _ hS).1
    · rw [List.mem_singleton.mp hb]; exact (hSt i _ hS).2
  by_cases hlt : i < n
  · refine W.item i _ _ _ hlt hS fun T vals h₁ tk₁ hPt hT hTup hM hk₁ => ?_
    obtain ⟨t, x, hPx, rfl⟩ := hPt
    refine W.go _ _ _ i T _ _ _ hM fun h₂ hS₂ hk₂ => ?_
    have hTw : T ∉ [e, it] := W.apart _ _ _ hM
    have hT₂ : h₂.IsTuple T #[.int i t, x] := hTup.at fun o q => hk₂ T o hTw q
    refine wpAny_assign_Tuple hh hT₂ rfl rfl fun h₃ hx₃ => ?_
    replace hx₃ : Heap.ExtBut h₂.objs.size h₂ h₃ := hx₃
    have e₃ : Ext h₂ h₃ := fun b o q => hx₃ b o (Nat.ne_of_lt (Heap.lt_size q)) q
    show wpAny _ A (do holding [x] (assign (.Name xi pi) env (.int i t)); do holding [] (assign (.Name xv pv) env x); pure ()) _ _ _
    have TR : Turned s₀ sb s' ⟨h₃, s'.gens, s'.drawn, tk₁, s'.os⟩ := turned_of ⟨h₃, tk₁, rfl⟩ (fun b o hb q => e₃ b o (hk₂ b o hb (hk₁ b o hb q))) hwf hwb h0
    have hS₃ : St (i + 1) h₃ := W.frame _ _ _ hS₂ fun b _ o q => e₃ b o q
    refine wpAny_bind (wpAny_holding (wpAny_assign_Name (wpAny_mono (turn i x t s' _ hlt hPx hJ TR) (fun _ s₄ h₄ => ?_) fun _ _ q => q.elim)))
    refine wpAny_bind (wpAny_holding (wpAny_assign_Name (wpAny_mono h₄ (fun _ s₅ h₅ => wpAny_pure ?_) fun _ _ q => q.elim)))
    refine wpAny_mono h₅ (fun f s₆ h₆ => ?_) fun _ _ q => q.elim
    cases f with
    | next => exact ⟨_, Nat.sub_lt_sub_left (by omega) (Nat.lt_succ_self i), i + 1, h₆.1, W.frame _ _ _ hS₃ (fun b hb o q => h₆.2 b o (hfpL b hb) q), hlt, rfl⟩
    | cont => exact ⟨_, Nat.sub_lt_sub_left (by omega) (Nat.lt_succ_self i), i + 1, h₆.1, W.frame _ _ _ hS₃ (fun b hb o q => h₆.2 b o (hfpL b hb) q), hlt, rfl⟩
    | brk => exact h₆
    | ret v => exact h₆
  · have hin : i = n := by omega
    subst hin
    refine W.done _ _ _ hS fun h₁ tk₁ hk₁ => ?_
    exact wpAny_passesOwn hE (fin s' _ hJ (turned_of ⟨h₁, tk₁, rfl⟩ hk₁ hwf hwb h0))
end
end Mine

namespace Mine

/-- «v is b or v == b» gives r -/
def IsEq (prog : Program) (w : World) (A : Around) (s : Shared) (v b : Value) (r : Bool) : Prop :=
  ∃ r1 r2, (r1 || r2) = r ∧ (∀ (Q E : Value → Shared → Prop), Q (.bool r1) s → wpAny (model prog w) A (compareOp .Is v b) Q E s) ∧ (∀ (Q E : Value → Shared → Prop), Q (.bool r2) s → wpAny (model prog w) A (compareOp .Eq v b) Q E s)

/-- a row whose items are as rs, sought in for nought -/
structure RowOf (prog : Program) (w : World) (h : Heap) (a b : Value) (rs : List Nat) (P : Nat → Value → Prop) (fa : List Addr) : Prop where
  src : ∀ (A : Around) (s' : Shared) (E : Value → Shared → Prop), A.handled = none → Ext h s'.heap → wpAny (model prog w) A (pyIter a) (Src prog w A s' rs.length P fa) E s'
  enu : ∀ (A : Around) (s' : Shared) (Q E : Value → Shared → Prop), A.handled = none → Ext h s'.heap → (∀ s'' e, ESrc prog w A s' rs.length P fa e s'' → (∃ it old, IsEnum s''.heap e it 0 old) → Q (.ref e) s'') →
    wpAny (model prog w) A (call (.type "enumerate") [a]) Q E s'
  has : ∀ (A : Around) (s' : Shared) (Q E : Value → Shared → Prop), A.units < 9000 → Ext h s'.heap → (∀ s'', Keeps s' s'' → Q (.bool (rs.contains 0)) s'') → wpAny (model prog w) A (compareOp .In b a) Q E s'
  same : ∀ (i : Nat) (v : Value) (A : Around) (s' : Shared), i < rs.length → P i v → Ext h s'.heap → A.units < 9000 → IsEq prog w A s' v b (rs.getD i 0 == 0)
  there : ∀ x ∈ fa, ∃ o, h.get? x = some o
  short : rs.length < 1000

theorem RowOf.ext {prog : Program} {w : World} {h h' : Heap} {a b : Value} {rs : List Nat} {P : Nat → Value → Prop} {fa : List Addr} (x : RowOf prog w h a b rs P fa) (k : Ext h h') : RowOf prog w h' a b rs P fa :=
  ⟨fun A s' E hh e => x.src A s' E hh (k.trans e), fun A s' Q E hh e q => x.enu A s' Q E hh (k.trans e) q, fun A s' Q E hu e q => x.has A s' Q E hu (k.trans e) q, fun i v A s' hi hP e hu => x.same i v A s' hi hP (k.trans e) hu,
    fun y hy => let ⟨o, e⟩ := x.there y hy; ⟨o, k _ _ e⟩, x.short⟩

section
variable {prog : Program} {w : World} {A : Around} {E : Value → Shared → Prop} {s : Shared} {env : Env}

/-- the test of the two defs -/
theorem is_or_eq {x y : Str} {p1 p2 p3 p4 p5 p6 p7 : Pos} {v b : Value} {r : Bool} {m cm : Str → Option Value} {s₀ : Shared} {Q : Bool → Shared → Prop} {whole : Sem Value} (c : InCallC s₀ env.locals m env.cells cm s)
    (hk : env.scope.kind = .function) (hx : env.kindOf x = some .local) (hy : env.kindOf y = some .local) (hdx : (x == ("__debug__" : Str)) = false) (hdy : (y == ("__debug__" : Str)) = false) (mx : m x = some v) (my : m y = some b)
    (he : IsEq prog w A s v b r) (h : Q r s) :
    wpAny (model prog w) A (isTrue (.BoolOp .Or [.Compare (.Name x p1) [.Is] [.Name y p2] p3, .Compare (.Name x p4) [.Eq] [.Name y p5] p6] p7) env whole) Q E s := by
  obtain ⟨r1, r2, rfl, hIs, hEq⟩ := he
  refine wpAny_isTrue_BoolOp (wpAny_allTrue_Or_cons (wpAny_isTrue_Compare1 (NameLC c hk hx mx (NameLC c hk hy my (hIs _ _ (wpAny_truthy_bool ?_)) hdy) hdx)))
  cases r1 with
  | true => exact h
  | false =>
    refine wpAny_allTrue_Or_cons (wpAny_isTrue_Compare1 (NameLC c hk hx mx (NameLC c hk hy my (hEq _ _ (wpAny_truthy_bool ?_)) hdy) hdx))
    cases r2 with
    | true => exact h
    | false => exact wpAny_allTrue_Or_nil h
end

theorem count_take_succ {rs : List Nat} {i : Nat} (h : i < rs.length) : (rs.take (i + 1)).count 0 = (rs.take i).count 0 + (if rs.getD i 0 == 0 then 1 else 0) := by
  rw [List.take_succ_eq_append_getElem h, List.count_append, List.getD_eq_getElem?_getD, List.getElem?_eq_getElem h, List.count_singleton]
  rfl

section
variable {prog : Program} {w : World} {A : Around} {E : Value → Shared → Prop} {s : Shared} {Q : Value → Shared → Prop}

theorem has_spec {a b : Value} {rs : List Nat} {P : Nat → Value → Prop} {fa : List Addr} (X : Wd w s.heap) (hroom : A.depth < 990) (hu : A.units < 8990) (R : RowOf prog w s.heap a b rs P fa)
    (h : ∀ s', Keeps s s' → Q (.bool (rs.contains 0)) s') : wpAny (model prog w) A (call (.ref 28) [a, b]) Q E s := by
  refine call_fn X (by unfold recursionLimit; omega) [("a", a), ("b", b)] (fun y => if y = "b" then some b else if y = "a" then some a else none) (fun _ => none) rfl rfl rfl rfl rfl rfl rfl rfl rfl (fun _ => rfl) (fun _ => rfl) ?_
  intro L s₁ x
  refine wpAny_execs_cons (wpAny_Return_some (wpAny_Compare1 ?_))
  refine NameLC x rfl rfl rfl (NameLC x rfl rfl rfl ?_ (by decide)) (by decide)
  exact R.has _ _ _ _ (by simp [Around.deeper]; omega) (cBase x) fun s' k => h _ (kTrans (cDone x) k)

theorem count_spec {a b : Value} {rs : List Nat} {P : Nat → Value → Prop} {fa : List Addr} (X : Wd w s.heap) (hh : A.handled = none) (hroom : A.depth < 990) (hu : A.units < 8990) (R : RowOf prog w s.heap a b rs P fa)
    (h : ∀ s' t, Keeps s s' → Q (.int (rs.count 0 : Nat) t) s') : wpAny (model prog w) A (call (.ref 35) [a, b]) Q E s := by
  refine call_fn X (by unfold recursionLimit; omega) [("a", a), ("b", b)] (fun y => if y = "b" then some b else if y = "a" then some a else none) (fun _ => none) rfl rfl rfl rfl rfl rfl rfl rfl rfl (fun _ => rfl) (fun _ => rfl) ?_
  intro L s₁ x
  refine wpAny_execs_cons (wpAny_Assign_Name (cInt fun s₂ t₂ k₂ => ?_) rfl)
  refine stL (env := envA 35 L) (cKeep x k₂) rfl rfl fun s₃ x₃ sb₃ lk₃ => ?_
  refine wpAny_execs_cons (for_rule (s₀ := s) (fun _ => rfl) (NameLC x₃ rfl rfl rfl ?_ (by decide)))
  refine ⟨_, _, fa, [L], fun i s' => ∃ (m' : Str → Option Value) (t : Tok), InCallC s L m' (envA 35 L).cells (fun _ => none) s' ∧ m' "b" = some b ∧ m' "count" = some (.int ((rs.take i).count 0 : Nat) t), R.src _ _ _ hh (cBase x₃), cBase x₃, ?_, ?_, ?_, ?_, ?_⟩
  · intro y hy; rw [List.mem_singleton.mp hy]
    obtain ⟨o, _, _, e, _⟩ := x₃.toInCall.ns; exact ⟨o, e⟩
  · intro y hy q
    rw [List.mem_singleton.mp q] at hy
    obtain ⟨o, e⟩ := R.there _ hy
    exact absurd (Heap.lt_size e) (Nat.not_lt.mpr x.toInCall.fresh)
  · intro s₄ k₄; exact ⟨_, t₂, cKeep x₃ k₄, rfl, rfl⟩
  · rintro i v s₄ s₅ hi hv ⟨m', t, x₄, hb, hc⟩ tr
    refine stL (env := envA 35 L) (tr.call x₄) rfl rfl fun s₆ x₆ sb₆ lk₆ => ?_
    refine wpAny_execs_cons (wpAny_If (is_or_eq x₆ rfl rfl rfl (by decide) (by decide) rfl hb (R.same i v _ _ hi hv (cBase x₆) (by simp [Around.deeper]; omega)) ?_))
    have ct := count_take_succ hi
    cases hz : rs.getD i 0 == 0 with
    | false =>
      simp only [Bool.false_eq_true, if_false]
      rw [hz] at ct
      refine wpAny_execs_nil (wpAny_execs_nil ⟨⟨_, t, x₆, hb, ?_⟩, KB.of_same sb₆ List.mem_cons_self⟩)
      rw [ct]; exact hc
    | true =>
      simp only [if_true]
      rw [hz] at ct
      refine wpAny_execs_cons (wpAny_AugAssign_Name (ldLC x₆ rfl rfl hc (cInt fun s₇ t₇ k₇ => wpAny_iadd_int ?_)))
      refine stL (env := envA 35 L) (cKeep x₆ (kTrans k₇ (kTok _ _))) rfl rfl fun s₈ x₈ sb₈ lk₈ => ?_
      refine wpAny_execs_nil (wpAny_execs_nil ⟨⟨_, s₇.toks, x₈, hb, ?_⟩, (KB.of_same sb₆ List.mem_cons_self).trans ((KB.of_ext (kExt (kTrans k₇ (kTok _ _)))).trans (KB.of_same sb₈ List.mem_cons_self))⟩)
      rw [ct]; rfl
  · rintro s₄ s₅ ⟨m', t, x₄, hb, hc⟩ tr
    have x₅ := tr.call x₄
    refine wpAny_execs_nil (wpAny_execs_cons (wpAny_Return_some (NameLC x₅ rfl rfl hc ?_ (by decide))))
    rw [List.take_length]
    exact h _ _ (cDone x₅)

theorem find_some {rs : List Nat} {i : Nat} (hi : i < rs.length) (hz : (rs.getD i 0 == 0) = true) (hall : ∀ q, q < i → (rs.getD q 0 == 0) = false) : rs.findIdx? (· == 0) = some i := by
  rw [List.findIdx?_eq_some_iff_getElem]
  refine ⟨hi, ?_, fun j hj => ?_⟩
  · rw [List.getD_eq_getElem?_getD, List.getElem?_eq_getElem hi] at hz; exact hz
  · have := hall j hj
    rw [List.getD_eq_getElem?_getD, List.getElem?_eq_getElem (Nat.lt_trans hj hi)] at this
    simpa using this
theorem find_none {rs : List Nat} (hall : ∀ q, q < rs.length → (rs.getD q 0 == 0) = false) : rs.findIdx? (· == 0) = none := by
  rw [List.findIdx?_eq_none_iff]
  intro x hx
  obtain ⟨j, hj, rfl⟩ := List.mem_iff_getElem.mp hx
  have := hall j hj
  rw [List.getD_eq_getElem?_getD, List.getElem?_eq_getElem hj] at this
  exact this

theorem index_found {a b : Value} {rs : List Nat} {P : Nat → Value → Prop} {fa : List Addr} {k : Nat} (X : Wd w s.heap) (hh : A.handled = none) (hroom : A.depth < 990) (hu : A.units < 8990) (R : RowOf prog w s.heap a b rs P fa) (hf : rs.findIdx? (· == 0) = some k)
    (h : ∀ s' t, Keeps s s' → Q (.int (k : Nat) t) s') : wpAny (model prog w) A (call (.ref 42) [a, b]) Q E s := by
  refine call_fn X (by unfold recursionLimit; omega) [("a", a), ("b", b)] (fun y => if y = "b" then some b else if y = "a" then some a else none) (fun _ => none) rfl rfl rfl rfl rfl rfl rfl rfl rfl (fun _ => rfl) (fun _ => rfl) ?_
  intro L s₁ x
  have X₁ : Wd w s₁.heap := X.keeps (cBase x)
  refine wpAny_execs_cons (for_enum (s₀ := s) hh (fun _ => rfl) (wpAny_Call_NameR (nameB X₁ rfl rfl (by decide) (type1 rfl (NameLC x rfl rfl rfl ?_ (by decide))) rfl rfl rfl rfl rfl)))
  refine R.enu _ _ _ _ hh (cBase x) fun s₂ e es he => ?_
  have x₂ := cKeep x es.keep
  refine ⟨e, _, _, _, fun i s' => ∃ m', InCallC s L m' (envA 42 L).cells (fun _ => none) s' ∧ m' "b" = some b ∧ ∀ q, q < i → (rs.getD q 0 == 0) = false, s₁, rfl, he, es, cBase x, ?_, ?_, ⟨_, x₂, rfl, fun q hq => absurd hq (Nat.not_lt_zero _)⟩, ?_, ?_⟩
  · rintro y hy rfl
    obtain ⟨o, e⟩ := R.there _ hy
    exact absurd (Heap.lt_size e) (Nat.not_lt.mpr x.toInCall.fresh)
  · obtain ⟨o, _, _, e, _⟩ := x.toInCall.ns; exact ⟨o, e⟩
  · rintro i v t s₃ s₄ hi hv ⟨m', x₃, hb, hall⟩ tr
    refine stL (env := envA 42 L) (tr.call x₃) rfl rfl fun s₅ x₅ sb₅ lk₅ => stL (env := envA 42 L) x₅ rfl rfl fun s₆ x₆ sb₆ lk₆ => ?_
    refine wpAny_execs_cons (wpAny_If (is_or_eq x₆ rfl rfl rfl (by decide) (by decide) rfl hb (R.same i v _ _ hi hv (cBase x₆) (by simp [Around.deeper]; omega)) ?_))
    cases hz : rs.getD i 0 == 0 with
    | false =>
      simp only [Bool.false_eq_true, if_false]
      refine wpAny_execs_nil (wpAny_execs_nil ⟨⟨_, x₆, hb, fun q hq => ?_⟩, (KB.of_same sb₅ List.mem_cons_self).trans (KB.of_same sb₆ List.mem_cons_self)⟩)
      rcases Nat.lt_or_eq_of_le (Nat.le_of_lt_succ hq) with r | rfl
      · exact hall q r
      · exact hz
    | true =>
      simp only [if_true]
      refine wpAny_execs_cons (wpAny_Return_some (NameLC x₆ rfl rfl rfl ?_ (by decide)))
      have := find_some hi hz hall
      rw [hf] at this
      rw [Option.some.inj this] at h
      exact h _ _ (cDone x₆)
  · rintro s₃ s₄ ⟨m', x₃, hb, hall⟩ tr
    rw [find_none hall] at hf; cases hf
end

/-- a call of a def that may raise -/
theorem call_fnE {prog : Program} {w : World} {A : Around} {E : Value → Shared → Prop} {s : Shared} {Q : Value → Shared → Prop} {f : Addr} {oc : Value} {od : Option Addr} {osl : Array (Option Value)}
    {vals : List Value} (X : Wd w s.heap) (hroom : A.depth < recursionLimit) (binds : List (Str × Value)) (m cm : Str → Option Value)
    (ho : List.lookup f (hd.heap_39 w.params) = some ⟨oc, od, .func (fdAt f), osl⟩)
    (hcd : codeIn (hd.heap_39 w.params) (fdAt f).code (fdAt f).qualname = true)
    (hbody : (fdAt f).body = .stmts (bodyOf f)) (hbind : bindArgs (fdAt f) ⟨vals, []⟩ = pure binds) (hclo : (fdAt f).closure = [])
    (hkind : (binds.all fun y => (fdAt f).scope.names.lookup y.1 == some .local || (fdAt f).scope.names.lookup y.1 == some .cell) = true)
    (hco : (fdAt f).scope.isCoroutine = false) (hgen : (fdAt f).scope.isGenerator = false) (hk : (fdAt f).scope.kind = .function)
    (hm : ∀ L, bindL (envA f L).kindOf binds (fun _ => none) = m) (hcm : ∀ L, bindC (envA f L).kindOf binds (fun _ => none) = cm)
    (h : ∀ L s₁, InCallC s (envA f L).locals m (envA f L).cells cm s₁ →
      wpAny (model prog w) (A.deeper (envA f L)) (execs (bodyOf f) (envA f L)) (fun fl s' => Q (match fl with | .ret v => v | _ => .none) s')
        (fun e s' => wpAny (model prog w) (A.deeper (envA f L)) (leaving (envA f L) e) (fun _ s'' => E e s'') E s') s₁) :
    wpAny (model prog w) A (call (.ref f) vals) Q E s := by
  obtain ⟨p, l, me, mg, mb, t⟩ := X.T
  refine wpAny_call (codeAny_call_cells (fd := fdAt f) (body := bodyOf f) hroom (X.K _ _ ho) rfl t.nolimit (codeRec_of X.K hcd) hbody hbind hclo (kinds_of hkind) (fun s₁ x => ?_) hco hgen hk)
  rw [hm, hcm] at x
  exact wpAny_mono (h _ s₁ x) (fun _ _ q => q) (fun _ _ q => q)

theorem cFr {s₀ s : Shared} {L : Addr} {m cm : Str → Option Value} {cs : List (Str × Addr)} (x : InCallC s₀ L m cs cm s) : Fr s₀.heap L s.heap m := ⟨x.toInCall.ns, x.toInCall.keep, x.toInCall.fresh⟩

section
variable {prog : Program} {w : World} {A : Around} {E : Value → Shared → Prop} {s : Shared} {Q : Value → Shared → Prop}

theorem index_missing {a b : Value} {rs : List Nat} {P : Nat → Value → Prop} {fa : List Addr} {base : Heap} {outer : List Env} (X : Wd w s.heap) (hh : A.handled = none) (hroom : A.depth < 990) (hu : A.units < 8990) (R : RowOf prog w s.heap a b rs P fa) (hf : rs.findIdx? (· == 0) = none)
    (B : Below A base outer s.heap)
    (hE : ∀ s' e t vs, RaisedS base s.heap outer e (.type "ValueError") t vs [] s'.heap → s.heap.UpToSlots s'.heap → (∃ h tk, s' = { s with heap := h, toks := tk }) → E (.ref e) s') : wpAny (model prog w) A (call (.ref 42) [a, b]) Q E s := by
  refine call_fnE X (by unfold recursionLimit; omega) [("a", a), ("b", b)] (fun y => if y = "b" then some b else if y = "a" then some a else none) (fun _ => none) rfl rfl rfl rfl rfl rfl rfl rfl rfl (fun _ => rfl) (fun _ => rfl) ?_
  intro L s₁ x
  have X₁ : Wd w s₁.heap := X.keeps (cBase x)
  refine wpAny_execs_cons (for_enum (s₀ := s) hh (fun _ => rfl) (wpAny_Call_NameR (nameB X₁ rfl rfl (by decide) (type1 rfl (NameLC x rfl rfl rfl ?_ (by decide))) rfl rfl rfl rfl rfl)))
  refine R.enu _ _ _ _ hh (cBase x) fun s₂ e es he => ?_
  have x₂ := cKeep x es.keep
  have allz : ∀ q, q < rs.length → (rs.getD q 0 == 0) = false := fun q hq => by
    rw [List.findIdx?_eq_none_iff] at hf
    have := hf _ (getD_mem hq)
    simpa using this
  refine ⟨e, _, _, _, fun i s' => ∃ m', InCallC s L m' (envA 42 L).cells (fun _ => none) s' ∧ m' "b" = some b, s₁, rfl, he, es, cBase x, ?_, ?_, ⟨_, x₂, rfl⟩, ?_, ?_⟩
  · rintro y hy rfl
    obtain ⟨o, e⟩ := R.there _ hy
    exact absurd (Heap.lt_size e) (Nat.not_lt.mpr x.toInCall.fresh)
  · obtain ⟨o, _, _, e, _⟩ := x.toInCall.ns; exact ⟨o, e⟩
  · rintro i v t s₃ s₄ hi hv ⟨m', x₃, hb⟩ tr
    refine stL (env := envA 42 L) (tr.call x₃) rfl rfl fun s₅ x₅ sb₅ lk₅ => stL (env := envA 42 L) x₅ rfl rfl fun s₆ x₆ sb₆ lk₆ => ?_
    refine wpAny_execs_cons (wpAny_If (is_or_eq x₆ rfl rfl rfl (by decide) (by decide) rfl hb (R.same i v _ _ hi hv (cBase x₆) (by simp [Around.deeper]; omega)) ?_))
    rw [allz i hi]
    simp only [Bool.false_eq_true, if_false]
    exact wpAny_execs_nil (wpAny_execs_nil ⟨⟨_, x₆, hb⟩, (KB.of_same sb₅ List.mem_cons_self).trans (KB.of_same sb₆ List.mem_cons_self)⟩)
  · rintro s₃ s₄ ⟨m', x₃, hb⟩ tr
    have x₄ := tr.call x₃
    have X₄ : Wd w s₄.heap := X.keeps (cBase x₄)
    refine wpAny_execs_cons (Raise_madeB PySem.F.excCall_ValueError PySem.F.excRaise_ValueError hh (nameB X₄ rfl PyProof.Rows.Boot.«ValueError» (by decide) ⟨rfl, ?_⟩ rfl rfl rfl rfl rfl))
    refine wpAny_items_cons (wpAny_Constant_str (wpAny_items_nil ⟨by show 1 ≤ sizeLine; decide, fun h' e hx => ?_⟩))
    have F₄ := cFr (cKeep x₄ (kTok s₄ (s₄.toks + 1)))
    refine leave_raiseS (name := "indexOf") (scope := (fdAt 42).scope) (a := 42) (cd := (fdAt 42).code) B hx.of F₄ News.nil fun h'' t R' _ hsl => ?_
    refine hE _ e t _ R' hsl ?_
    obtain ⟨hh₄, tk, q⟩ := x₄.toInCall.same
    subst q
    exact ⟨_, _, rfl⟩
end
end Mine

namespace Mine

section
variable {prog : Program} {w : World} {A : Around} {E : Value → Shared → Prop} {s : Shared} {Q : Value → Shared → Prop}

/-- the end of the answers -/
theorem answers_tail {a b pv : Value} {rs : List Nat} {P : Nat → Value → Prop} {fa : List Addr} {L : Addr} {m cm : Str → Option Value} {s₀ : Shared}
    {QF : Flow → Shared → Prop} {E' : Value → Shared → Prop} (X : Wd w s₀.heap) (hh : A.handled = none) (hroom : A.depth < 980) (hu : A.units < 8980)
    (R : RowOf prog w s₀.heap a b rs P fa) (x : InCallC s₀ L m (envA 76 L).cells cm s) (mr : m "row" = some a) (mt : m "thing" = some b) (mp : m "place" = some pv) (hp : PlaceAt pv (rs.findIdx? (· == 0)))
    (h : ∀ s' r, Keeps s₀ s' → AnsAt s'.heap r (rs.contains 0) (rs.count 0) (rs.findIdx? (· == 0)) → QF (.ret r) s') :
    wpAny (model prog w) (A.deeper (envA 76 L)) (execs (List.drop 1 (bodyOf 76)) (envA 76 L)) QF E' s := by
  have X₁ : Wd w s.heap := X.keeps (cBase x)
  refine wpAny_execs_cons (wpAny_Return_some (List_ (wpAny_items_cons (wpAny_Call_NameR (nameK X₁ rfl (def2 ⟨_, _, _, _, rfl⟩ rfl ?_) rfl rfl rfl rfl)))))
  refine NameLC (env := envA 76 L) x rfl rfl mr (NameLC (env := envA 76 L) x rfl rfl mt ⟨X₁, ?_⟩ (by decide)) (by decide)
  refine has_spec X₁ (by simp [Around.deeper]; omega) (by simp [Around.deeper]; omega) (R.ext (cBase x)) fun s₂ k₂ => ?_
  have x₂ := cKeep x k₂
  have X₂ : Wd w s₂.heap := X.keeps (cBase x₂)
  refine wpAny_items_cons (wpAny_Call_NameR (nameK X₂ rfl (def2 ⟨_, _, _, _, rfl⟩ rfl ?_) rfl rfl rfl rfl))
  refine NameLC (env := envA 76 L) x₂ rfl rfl mr (NameLC (env := envA 76 L) x₂ rfl rfl mt ⟨X₂, ?_⟩ (by decide)) (by decide)
  refine count_spec X₂ hh (by simp [Around.deeper]; omega) (by simp [Around.deeper]; omega) (R.ext (cBase x₂)) fun s₃ t₃ k₃ => ?_
  have x₃ := cKeep x₂ k₃
  refine wpAny_items_cons (NameLC (env := envA 76 L) x₃ rfl rfl mp (wpAny_items_nil ?_) (by decide))
  refine newL (by show 3 ≤ sizeLine; decide) fun s₄ a₄ k₄ _ l₄ => ?_
  exact h _ _ (cDone (cKeep x₃ k₄)) ⟨a₄, t₃, _, rfl, l₄, hp⟩

theorem answers_spec {a b : Value} {rs : List Nat} {base : Heap} {outer : List Env} (XB : Wd w base) (hh : A.handled = none) (hroom : A.depth < 970) (hu : A.units < 8970)
    (B : Below A base outer s.heap) (D : KtsDicts (outer.filterMap (·.frame)) s.heap)
    (R : ∀ g, KtsTurn (outer.filterMap (·.frame)) s.heap g → ∃ P fa, RowOf prog w g a b rs P fa)
    (h : ∀ s' r g, KtsTurn (outer.filterMap (·.frame)) s.heap g → Keeps { s with heap := g } s' → AnsAt s'.heap r (rs.contains 0) (rs.count 0) (rs.findIdx? (· == 0)) → Q r s') :
    wpAny (model prog w) A (call (.ref 76) [a, b]) Q E s := by
  have X : Wd w s.heap := XB.keeps B.stays
  obtain ⟨P₀, fa₀, R₀⟩ := R s.heap KtsTurn.refl
  refine call_fn X (by unfold recursionLimit; omega) [("row", a), ("thing", b)] (fun y => if y = "thing" then some b else if y = "row" then some a else none) (fun _ => none) rfl rfl rfl rfl rfl rfl rfl rfl rfl (fun _ => rfl) (fun _ => rfl) ?_
  intro L s₁ x
  have X₁ : Wd w s₁.heap := X.keeps (cBase x)
  refine wpAny_execs_cons (wpAny_Try_except (wpAny_execs_cons (wpAny_Assign_Name (wpAny_Call_NameR (nameK X₁ rfl (def2 ⟨_, _, _, _, rfl⟩ rfl ?_) rfl rfl rfl rfl)) rfl)))
  refine NameLC (env := envA 76 L) x rfl rfl rfl (NameLC (env := envA 76 L) x rfl rfl rfl ⟨X₁, ?_⟩ (by decide)) (by decide)
  cases hf : rs.findIdx? (· == 0) with
  | some k =>
    refine index_found X₁ hh (by simp [Around.deeper]; omega) (by simp [Around.deeper]; omega) (R₀.ext (cBase x)) hf fun s₂ t₂ k₂ => ?_
    refine stL (env := envA 76 L) (cKeep x k₂) rfl rfl fun s₃ x₃ sb₃ lk₃ => wpAny_execs_nil (wpAny_execs_nil ?_)
    refine answers_tail X hh (by omega) (by omega) R₀ x₃ rfl rfl rfl (by rw [hf]; exact ⟨t₂, rfl⟩) fun s' r k an => ?_
    exact h s' r s.heap KtsTurn.refl k an
  | none =>
    have B₁ : Below (A.deeper (envA 76 L)) base (envA 76 L :: outer) s₁.heap := pushX B (cFr x) rfl rfl
    refine index_missing X₁ hh (by simp [Around.deeper]; omega) (by simp [Around.deeper]; omega) (R₀.ext (cBase x)) hf B₁ fun s₂ e t vs R' hsl sm => ?_
    obtain ⟨p, lo, me, mg, mb, TB⟩ := XB.T
    refine caught_S0 (name := "_law_answers") (scope := (fdAt 76).scope) (a := 76) (cd := (fdAt 76).code) R' (cFr x) B hsl XB.K TB D KtsTurn.refl (ex := rfl) PyProof.Rows.Boot.«ValueError» (by decide) PySem.F.isExc_ValueError PySem.F.notTuple_ValueError (by rw [isSubtype_type]; kernel_rfl) ?_
    intro h' g' news₂ KT F' N' _ _ B' K' T' D'
    obtain ⟨hs₁, tk₁, q₁⟩ := x.toInCall.same
    obtain ⟨hs₂, tk₂, q₂⟩ := sm
    have x₂ : InCallC { s with heap := g' } L (fun y => if y = "thing" then some b else if y = "row" then some a else none) (envA 76 L).cells (fun _ => none) { s₂ with heap := h' } :=
      ⟨⟨⟨h', tk₂, by rw [q₂, q₁]⟩, F'.ns, F'.keep, F'.above⟩, (fun n c q => by rw [show (envA 76 L).cells = [] from rfl] at q; cases q), x.apart, x.above⟩
    refine wpAny_execs_cons (wpAny_Assign_Name (wpAny_Constant_str ?_) rfl)
    refine stL (env := envA 76 L) (cKeep x₂ (kTok _ _)) rfl rfl fun s₃ x₃ sb₃ lk₃ => wpAny_execs_nil ?_
    obtain ⟨P₁, fa₁, R₁⟩ := R g' KT
    refine answers_tail (s₀ := { s with heap := g' }) (XB.keeps B'.stays) hh (by omega) (by omega) R₁ x₃ rfl rfl rfl (by rw [hf]; exact ⟨_, rfl⟩) fun s' r k an => ?_
    exact h s' r g' KT k an
end
end Mine

namespace Mine

section
variable {prog : Program} {w : World} {A : Around} {E : Value → Shared → Prop} {s : Shared} {Q : Value → Shared → Prop}

/-- `is` on two ints: equal small ones -/
theorem is_int_same {p : Int} {t u : Tok} (ht : t ≠ 0) (hu : u ≠ 0) (hs : smallInt p = true) (h : Q (.bool true) s) : wpAny (model prog w) A (compareOp .Is (.int p t) (.int p u)) Q E s := by
  show wpAny _ A (do return .bool (← isSame (.int p t) (.int p u))) Q E s
  refine wpAny_bind ?_
  show wpAny _ A (if (p == p && smallInt p) = true then isSame.cachedInt t u else isSame.created (p == p) t u) _ E s
  rw [if_pos (by simp [hs])]
  unfold isSame.cachedInt
  rw [if_neg (by simp [ht, hu])]
  exact wpAny_bind (wpAny_rule (wpAny_pure (wpAny_pure h)))
/-- `is` on two ints: others -/
theorem is_int_other {p q : Int} {t u : Tok} (ht : t ≠ 0) (hu : u ≠ 0) (htu : t ≠ u) (hpq : p ≠ q) (h : Q (.bool false) s) : wpAny (model prog w) A (compareOp .Is (.int p t) (.int q u)) Q E s := by
  show wpAny _ A (do return .bool (← isSame (.int p t) (.int q u))) Q E s
  refine wpAny_bind ?_
  show wpAny _ A (if (p == q && smallInt p) = true then isSame.cachedInt t u else isSame.created (p == q) t u) _ E s
  rw [if_neg (by simp [hpq])]
  unfold isSame.created
  rw [if_neg (by simp [ht, hu])]
  rw [beq_eq_false_iff_ne.mpr hpq]
  have e1 : (t == u) = false := beq_eq_false_iff_ne.mpr htu
  rw [e1]
  exact wpAny_pure (wpAny_pure h)
end

theorem getD_ints {rs : List Nat} {i : Nat} {k : Int} (e : (nz rs)[i]? = some k) : i < rs.length ∧ k = (rs.getD i 0 : Nat) := by
  rw [List.getElem?_map] at e
  cases q : rs[i]? with
  | none => rw [q] at e; cases e
  | some n => 
    rw [q] at e
    refine ⟨(List.getElem?_eq_some_iff.mp q).1, ?_⟩
    rw [List.getD_eq_getElem?_getD, q]
    exact (Option.some.inj e).symm

/-- the row of lists of one int each -/
theorem row_list {prog : Program} {w : World} {h : Heap} {a b : Value} {rs : List Nat} (ha : LL h a (rs.map fun n : Nat => [(n : Int)])) (hb : IL h b [0]) (hlen : rs.length < 1000) : ∃ P fa, RowOf prog w h a b rs P fa := by
  obtain ⟨l, vs, rfl, ll, lp⟩ := id ha
  have hsz : vs.toArray.size = rs.length := by rw [List.size_toArray, lp.length, List.length_map]
  refine ⟨fun i v => vs.toArray[i]? = some v, [l], ?_, ?_, ?_, ?_, ?_, hlen⟩
  · intro A s' E hh e
    rw [← hsz]; exact src_list hh (isList_lk ll (LK.of_ext e))
  · intro A s' Q E hh e q
    rw [← hsz] at q; exact enum_list hh (isList_lk ll (LK.of_ext e)) q
  · intro A s' Q E hu e q
    refine in_LL (ha.ext e) (hb.ext e) (by simp [cLine]; omega) ?_
    have := any_one rs 0
    rw [show [((0 : Nat) : Int)] = [(0 : Int)] from rfl] at this
    rw [this]; exact q _ (kRefl _)
  · intro i v A s' hi hv e hu
    have en : (rs.map fun n : Nat => [(n : Int)]) = nzz (rs.map fun n : Nat => [n]) := by simp [nzz, nz]
    rw [en] at lp
    obtain ⟨v', e', hv'⟩ := LL.item lp (a := l) (i := i) (by simpa using hi)
    have hv : vs.toArray[i]? = some v := hv
    rw [hv] at e'
    cases e'
    have eg : nz ((rs.map fun n : Nat => [n]).getD i []) = [((rs.getD i 0 : Nat) : Int)] := by
      rw [List.getD_eq_getElem?_getD, List.getElem?_map, List.getElem?_eq_getElem hi, List.getD_eq_getElem?_getD, List.getElem?_eq_getElem hi]; rfl
    rw [eg] at hv'
    have hl := (hv'.ext e)
    have hr := (hb.ext e)
    have hq := nat_beq0 (rs.getD i 0)
    have hE : ∀ (Q E : Value → Shared → Prop), Q (.bool (rs.getD i 0 == 0)) s' → wpAny (model prog w) A (compareOp .Eq v b) Q E s' := fun Q E q => by
      refine eq_IL hl hr (by simp [cLine]; omega) ?_
      have : ([((rs.getD i 0 : Nat) : Int)] == [(0 : Int)]) = (((rs.getD i 0 : Nat) : Int) == 0) := by simp
      rw [this, hq]; exact q
    obtain ⟨va, vvs, rfl, ⟨vo, ve, vc, _⟩, _⟩ := id hl
    obtain ⟨ba, bvs, rfl, ⟨bo, be, _⟩, _⟩ := id hr
    by_cases hab : va = ba
    · subst hab
      have := il_unique hl hr
      have hz : rs.getD i 0 == 0 := by simp at this; simp [this]
      rw [hz] at hE ⊢
      exact ⟨true, true, rfl, fun Q E q => wpAny_is_ref_self q, hE⟩
    · exact ⟨false, _, by simp, fun Q E q => wpAny_is_ref_other hab ve be (by rw [vc]; decide) q, hE⟩
  · intro x hx
    rw [List.mem_singleton.mp hx]
    obtain ⟨o, ho, _⟩ := ll; exact ⟨o, ho⟩

/-- the row of a dict's keys -/
theorem row_dict {prog : Program} {w : World} {h : Heap} {d : Addr} {u : Tok} {rs : List Nat} {lo hi : Nat} {kvs : List (Int × Value)} (hs : (d == sysModules) = false) (hd : h.DictOf (tokKind prog w lo hi) d kvs) (hk : kvs.map (·.1) = nz rs)
    (hlo : 1 ≤ lo) (hhi : hi ≤ u) (hlen : rs.length < 1000) : ∃ P fa, RowOf prog w h (.ref d) (.int 0 u) rs P fa := by
  have hsz : kvs.length = rs.length := by have := congrArg List.length hk; simpa using this
  refine ⟨fun i v => ∃ k x, kvs[i]? = some (k, x) ∧ isTok lo hi k v = true, [d], ?_, ?_, ?_, ?_, ?_, hlen⟩
  · intro A s' E hh e
    rw [← hsz]; exact src_dict (knd := tokKind prog w lo hi) hh hs (hd.keep e)
  · intro A s' Q E hh e q
    rw [← hsz] at q; exact enum_dict hh hs (hd.keep e) q
  · intro A s' Q E hu e q
    refine wpAny_in_of (intKind_is prog w 0 u) hs (dict_int (hd.keep e)).mapOf ?_
    have e2 : (valueAt kvs (0 : Int)).isSome = rs.contains 0 := by
      have : ∀ (kvs : List (Int × Value)) (rs : List Nat), kvs.map (·.1) = nz rs → (valueAt kvs (0 : Int)).isSome = rs.contains 0 := by
        intro kvs
        induction kvs with
        | nil => intro rs e; cases rs with
          | nil => rfl
          | cons _ _ => cases e
        | cons p r ih =>
          intro rs e
          cases rs with
          | nil => cases e
          | cons n rr =>
            obtain ⟨k, x⟩ := p
            have e1 : k = (n : Int) := by injection e
            have e2 : r.map (·.1) = nz rr := by injection e
            subst e1
            have := ih rr e2
            unfold valueAt at this ⊢
            rw [List.find?_cons, List.contains_cons]
            cases n with
            | zero => simp
            | succ n =>
              have e3 : ((0 : Nat) == n + 1) = false := rfl
              have e4 : decide (((n + 1 : Nat) : Int) = 0) = false := by simp; omega
              rw [e3, Bool.false_or, ← this, e4]
      exact this kvs rs hk
    rw [e2]; exact q _ (kTok _ _)
  · rintro i v A s' hi' ⟨k, x, ek, et⟩ e hu
    obtain ⟨t, rfl, ht1, ht2⟩ := isTok_shape et
    have e1 : (nz rs)[i]? = some k := by rw [← hk, List.getElem?_map, ek]; rfl
    obtain ⟨_, e2⟩ := getD_ints e1
    have hq := nat_beq0 (rs.getD i 0)
    rw [← e2] at hq
    rw [← hq]
    have t0 : t ≠ 0 := Nat.ne_of_gt (Nat.lt_of_lt_of_le Nat.zero_lt_one (Nat.le_trans hlo ht1))
    have tu : t < u := Nat.lt_of_lt_of_le ht2 hhi
    have u0 : u ≠ 0 := Nat.ne_of_gt (Nat.lt_of_le_of_lt (Nat.zero_le t) tu)
    by_cases hz : k = 0
    · subst hz
      exact ⟨true, true, rfl, fun Q E q => is_int_same t0 u0 rfl q, fun Q E q => wpAny_eq_int q⟩
    · refine ⟨false, false, by simp [hz], fun Q E q => is_int_other t0 u0 (Nat.ne_of_lt tu) hz q, fun Q E q => wpAny_eq_int ?_⟩
      rw [beq_eq_false_iff_ne.mpr hz]; exact q
  · intro x hx
    rw [List.mem_singleton.mp hx]
    obtain ⟨o, _, _, ho, _⟩ := hd; exact ⟨o, ho⟩
end Mine

namespace Mine

/-! the plain law -/
def gnum (mv : List (List Nat)) (i : Nat) : Nat := (numb mv).getD i 0

theorem numbTo_stable {mv : List (List Nat)} {j k : Nat} (hj : j < k) : ∀ {n : Nat}, k ≤ n → n ≤ mv.length → (numbTo mv n).getD j 0 = (numbTo mv k).getD j 0
  | 0, hk, _ => by omega
  | n + 1, hk, hn => by
    rcases Nat.lt_or_eq_of_le hk with h | h
    · rw [numbTo_succ hn, numbStep, getD_left (by rw [numbTo_len (by omega)]; omega)]
      exact numbTo_stable hj (by omega) (by omega)
    · rw [h]
theorem gnum_mex {mv : List (List Nat)} (hlow : Lower mv) {i : Nat} (hi : i < mv.length) : gnum mv i = mex ((mv.getD i []).map (gnum mv)) := by
  unfold gnum
  rw [← numbTo_all, numbTo_stable (Nat.lt_succ_self i) hi (Nat.le_refl _), numbTo_succ hi, numbStep, getD_last (by rw [numbTo_len (Nat.le_of_lt hi)])]
  congr 1
  apply List.map_congr_left
  intro j hj
  exact (numbTo_stable (hlow i hi j hj) (Nat.le_of_lt hi) (Nat.le_refl _)).symm
theorem gnum_le {mv : List (List Nat)} (hlow : Lower mv) : ∀ (n i : Nat), i < n → i < mv.length → gnum mv i ≤ i
  | 0, i, h, _ => by omega
  | n + 1, i, h, hi => by
    have m := mex_isMex ((mv.getD i []).map (gnum mv))
    rw [← gnum_mex hlow hi] at m
    rcases Nat.lt_or_ge i (gnum mv i) with q | q
    · obtain ⟨a, ha, e⟩ := List.mem_map.mp (m.2 i q)
      have := hlow i hi a ha
      have := gnum_le hlow n a (by omega) (by omega)
      omega
    · exact q

theorem rowTo_stable {mv tab : List (List Nat)} {i j k : Nat} (hj : j < k) : ∀ {n : Nat}, k ≤ n → (rowTo mv tab i n).getD j 0 = (rowTo mv tab i k).getD j 0
  | 0, hk => by omega
  | n + 1, hk => by
    rcases Nat.lt_or_eq_of_le hk with h | h
    · rw [rowTo, getD_left (by rw [rowTo_len]; omega)]
      exact rowTo_stable hj (by omega)
    · rw [h]
theorem bothTo_stable {mv : List (List Nat)} {i k : Nat} (hi : i < k) : ∀ {n : Nat}, k ≤ n → (bothTo mv n).getD i [] = (bothTo mv k).getD i []
  | 0, hk => by omega
  | n + 1, hk => by
    rcases Nat.lt_or_eq_of_le hk with h | h
    · rw [bothTo, getD_left (by rw [bothTo_len]; omega)]
      exact bothTo_stable hi (by omega)
    · rw [h]
theorem both_row {mv : List (List Nat)} {i : Nat} (hi : i < mv.length) : (both mv).getD i [] = rowTo mv (bothTo mv i) i mv.length := by
  unfold both
  rw [bothTo_stable (Nat.lt_succ_self i) hi, bothTo, getD_last (by rw [bothTo_len])]
theorem both_mex {mv : List (List Nat)} (hlow : Lower mv) {i j : Nat} (hi : i < mv.length) (hj : j < mv.length) : look (both mv) (i, j) = mex ((fol mv i j).map (look (both mv))) := by
  have e0 : look (both mv) (i, j) = ((both mv).getD i []).getD j 0 := rfl
  rw [e0, both_row hi, rowTo_stable (Nat.lt_succ_self j) hj, rowTo, getD_last (by rw [rowTo_len]), cellOf2]
  congr 1
  apply List.map_congr_left
  intro p hp
  rcases fol_lt hlow hi hj hp with ⟨h1, h2⟩ | ⟨h1, h2⟩
  · unfold look
    rw [getD_left (by rw [bothTo_len]; exact h1)]
    unfold both
    rw [bothTo_stable h1 (Nat.le_of_lt hi)]
  · unfold look
    rw [h1, getD_last (by rw [bothTo_len]), both_row hi, rowTo_stable h2 (Nat.le_of_lt hj)]

theorem xor_cases : ∀ x, x < 8 → ∀ y, y < 8 → ∀ k, k < 8 → k < x ^^^ y → (k ^^^ y < x ∨ k ^^^ x < y) := by decide +kernel
theorem xor_back (k y : Nat) : (k ^^^ y) ^^^ y = k := by rw [Nat.xor_assoc, Nat.xor_self, Nat.xor_zero]
theorem xor_cancel {a b y : Nat} (h : a ^^^ y = b ^^^ y) : a = b := by rw [← xor_back a y, h, xor_back]

/-- Sprague and Grundy -/
theorem both_xor {mv : List (List Nat)} (hlow : Lower mv) (h7 : mv.length ≤ 8) : ∀ (n i j : Nat), i + j < n → i < mv.length → j < mv.length → look (both mv) (i, j) = gnum mv i ^^^ gnum mv j
  | 0, i, j, h, _, _ => by omega
  | n + 1, i, j, h, hi, hj => by
    rw [both_mex hlow hi hj]
    have e : (fol mv i j).map (look (both mv)) = (fol mv i j).map fun p => gnum mv p.1 ^^^ gnum mv p.2 := by
      apply List.map_congr_left
      intro p hp
      have := fol_lt hlow hi hj hp
      exact both_xor hlow h7 n p.1 p.2 (by omega) (by omega) (by omega)
    rw [e]
    refine IsMex.unique (mex_isMex _) ⟨?_, ?_⟩
    · intro q
      obtain ⟨p, hp, e⟩ := List.mem_map.mp q
      unfold fol at hp
      rcases List.mem_append.mp hp with hp | hp
      · obtain ⟨a, ha, rfl⟩ := List.mem_map.mp hp
        have e' : gnum mv a = gnum mv i := xor_cancel e
        have m := (mex_isMex ((mv.getD i []).map (gnum mv))).1
        rw [← gnum_mex hlow hi, ← e'] at m
        exact m (List.mem_map_of_mem ha)
      · obtain ⟨b, hb, rfl⟩ := List.mem_map.mp hp
        have e : gnum mv i ^^^ gnum mv b = gnum mv i ^^^ gnum mv j := e
        rw [Nat.xor_comm (gnum mv i), Nat.xor_comm (gnum mv i)] at e
        have e' : gnum mv b = gnum mv j := xor_cancel e
        have m := (mex_isMex ((mv.getD j []).map (gnum mv))).1
        rw [← gnum_mex hlow hj, ← e'] at m
        exact m (List.mem_map_of_mem hb)
    · intro k hk
      have gi := gnum_le hlow _ i (Nat.lt_succ_self _) hi
      have gj := gnum_le hlow _ j (Nat.lt_succ_self _) hj
      have h8 : gnum mv i ^^^ gnum mv j < 2 ^ 3 := Nat.xor_lt_two_pow (by omega) (by omega)
      rcases xor_cases _ (by omega) _ (by omega) k (by omega) hk with q | q
      · have m := (mex_isMex ((mv.getD i []).map (gnum mv))).2
        rw [← gnum_mex hlow hi] at m
        obtain ⟨a, ha, e⟩ := List.mem_map.mp (m _ q)
        refine List.mem_map.mpr ⟨(a, j), List.mem_append_left _ (List.mem_map_of_mem (f := fun a => (a, j)) ha), ?_⟩
        show gnum mv a ^^^ gnum mv j = k
        rw [e, xor_back]
      · have m := (mex_isMex ((mv.getD j []).map (gnum mv))).2
        rw [← gnum_mex hlow hj] at m
        obtain ⟨b, hb, e⟩ := List.mem_map.mp (m _ q)
        refine List.mem_map.mpr ⟨(i, b), List.mem_append_right _ (List.mem_map_of_mem (f := fun b => (i, b)) hb), ?_⟩
        show gnum mv i ^^^ gnum mv b = k
        rw [e, Nat.xor_comm, xor_back]

theorem bitXor_nat : ∀ a, a < 8 → ∀ b, b < 8 → Builtin.bitXor ((a : Nat) : Int) ((b : Nat) : Int) = ((a ^^^ b : Nat) : Int) := by decide +kernel
end Mine

namespace Mine

/-- a call of a def, the tokens told -/
theorem call_fnT {prog : Program} {w : World} {A : Around} {E : Value → Shared → Prop} {s : Shared} {Q : Value → Shared → Prop} {f : Addr} {oc : Value} {od : Option Addr} {osl : Array (Option Value)}
    {vals : List Value} (X : Wd w s.heap) (hroom : A.depth < recursionLimit) (binds : List (Str × Value)) (m cm : Str → Option Value)
    (ho : List.lookup f (hd.heap_39 w.params) = some ⟨oc, od, .func (fdAt f), osl⟩)
    (hcd : codeIn (hd.heap_39 w.params) (fdAt f).code (fdAt f).qualname = true)
    (hbody : (fdAt f).body = .stmts (bodyOf f)) (hbind : bindArgs (fdAt f) ⟨vals, []⟩ = pure binds) (hclo : (fdAt f).closure = [])
    (hkind : (binds.all fun y => (fdAt f).scope.names.lookup y.1 == some .local || (fdAt f).scope.names.lookup y.1 == some .cell) = true)
    (hco : (fdAt f).scope.isCoroutine = false) (hgen : (fdAt f).scope.isGenerator = false) (hk : (fdAt f).scope.kind = .function)
    (hm : ∀ L, bindL (envA f L).kindOf binds (fun _ => none) = m) (hcm : ∀ L, bindC (envA f L).kindOf binds (fun _ => none) = cm)
    (h : ∀ L s₁, InCallC s (envA f L).locals m (envA f L).cells cm s₁ → s.toks ≤ s₁.toks →
      wpAny (model prog w) (A.deeper (envA f L)) (execs (bodyOf f) (envA f L)) (fun fl s' => Q (match fl with | .ret v => v | _ => .none) s') (fun _ _ => False) s₁) :
    wpAny (model prog w) A (call (.ref f) vals) Q E s := by
  obtain ⟨p, l, me, mg, mb, t⟩ := X.T
  refine wpAny_call (codeAny_call_function (fd := fdAt f) hroom (X.K _ _ ho) rfl hco hgen hbody (codeRec_of X.K hcd) ?_)
  rw [hbind, hclo]
  refine wpAny_pure (wpAny_with_toks (n := s.toks) (Nat.le_refl _) (wpAny_newFunctionEnv_cells hk (kinds_of hkind) fun env he s' x ht => ?_))
  subst he
  refine ⟨t.nolimit.keeps x.toInCall.keep, codeAny_func ?_⟩
  have x' : InCallC s (envA f s.heap.objs.size).locals (bindL (envA f s.heap.objs.size).kindOf binds fun _ => none) (envA f s.heap.objs.size).cells (bindC (envA f s.heap.objs.size).kindOf binds fun _ => none) s' := x
  rw [hm, hcm] at x'
  exact wpAny_mono (h _ s' x' ht) (fun _ _ q => q) (fun _ _ q => q.elim)

theorem xor_specT {prog : Program} {w : World} {A : Around} {E : Value → Shared → Prop} {s : Shared} {Q : Value → Shared → Prop} {a b : Int} {t u : Tok}
    (X : Wd w s.heap) (hroom : A.depth < 990)
    (h : ∀ s' (tk : Nat), Keeps s s' → s.toks ≤ tk → tk < s'.toks → Q (.int (Builtin.bitXor a b) tk) s') :
    wpAny (model prog w) A (call (.ref 21) [.int a t, .int b u]) Q E s := by
  refine call_fnT X (by unfold recursionLimit; omega) [("a", .int a t), ("b", .int b u)] (fun y => if y = "b" then some (.int b u) else if y = "a" then some (.int a t) else none) (fun _ => none) rfl rfl rfl rfl rfl rfl rfl rfl rfl (fun _ => rfl) (fun _ => rfl) ?_
  intro L s₁ x ht
  refine wpAny_execs_cons (wpAny_Return_some (wpAny_BinOp ?_))
  refine NameLC x rfl rfl rfl ?_ (by decide)
  refine NameLC x rfl rfl rfl ?_ (by decide)
  refine xor_int ?_
  exact h _ _ (kTrans (cDone x) (kTok _ _)) ht (Nat.lt_succ_self _)

/-! first of each kind -/
def addNew (acc : List Nat) (x : Nat) : List Nat := if acc.contains x then acc else acc ++ [x]
def nub (l : List Nat) : List Nat := l.foldl addNew []
theorem nub_snoc (l : List Nat) (x : Nat) : nub (l ++ [x]) = addNew (nub l) x := by unfold nub; rw [List.foldl_append]; rfl
theorem snoc_ind {α : Type} {P : List α → Prop} (h0 : P []) (h1 : ∀ l x, P l → P (l ++ [x])) (l : List α) : P l := by
  have : ∀ (n : Nat) (l : List α), l.length = n → P l := by
    intro n
    induction n with
    | zero => intro l e; rw [List.eq_nil_of_length_eq_zero e]; exact h0
    | succ n ih =>
      intro l e
      have hne : l ≠ [] := by rintro rfl; cases e
      rw [← List.dropLast_concat_getLast hne]
      exact h1 _ _ (ih _ (by rw [List.length_dropLast]; omega))
  exact this _ l rfl
theorem nub_contains (l : List Nat) (y : Nat) : (nub l).contains y = l.contains y := by
  induction l using snoc_ind with
  | h0 => rfl
  | h1 l x ih =>
    rw [nub_snoc, addNew]
    by_cases hc : (nub l).contains x = true
    · rw [if_pos hc, ih]
      rw [List.contains_eq_any_beq, List.contains_eq_any_beq, List.any_append]
      by_cases hxy : y = x
      · subst hxy
        rw [ih, List.contains_eq_any_beq] at hc
        rw [hc]; rfl
      · simp [hxy]
    · rw [if_neg hc, List.contains_eq_any_beq, List.contains_eq_any_beq, List.any_append, List.any_append]
      rw [List.contains_eq_any_beq, List.contains_eq_any_beq] at ih
      rw [ih]
def kindsOf (l : List Nat) : List Nat := ((List.range l.length).filter fun k => !(l.take k).contains (l.getD k 0)).map fun k => l.getD k 0
theorem kinds_nub (l : List Nat) : kindsOf l = nub l := by
  induction l using snoc_ind with
  | h0 => rfl
  | h1 l x ih =>
    rw [nub_snoc, ← ih]
    have hc := nub_contains l x
    rw [← ih] at hc
    rw [addNew, hc]
    unfold kindsOf
    rw [List.length_append, List.length_singleton, List.range_succ, List.filter_append, List.map_append]
    have e1 : (List.range l.length).filter (fun k => !((l ++ [x]).take k).contains ((l ++ [x]).getD k 0)) = (List.range l.length).filter fun k => !(l.take k).contains (l.getD k 0) := by
      apply List.filter_congr
      intro k hk
      have hk := List.mem_range.mp hk
      rw [getD_left hk, List.take_append_of_le_length (Nat.le_of_lt hk)]
    have e2 : ∀ q, (((List.range l.length).filter q).map fun k => (l ++ [x]).getD k 0) = ((List.range l.length).filter q).map fun k => l.getD k 0 := by
      intro q
      apply List.map_congr_left
      intro k hk
      exact getD_left (List.mem_range.mp (List.mem_filter.mp hk).1)
    rw [e1, e2]
    have e3 : ((l ++ [x]).take l.length).contains ((l ++ [x]).getD l.length 0) = l.contains x := by
      rw [getD_last rfl, List.take_left']; rfl
    have e4 : ([l.length].filter fun k => !((l ++ [x]).take k).contains ((l ++ [x]).getD k 0)) = if l.contains x then [] else [l.length] := by
      rw [List.filter_cons, e3]
      cases l.contains x <;> rfl
    rw [e4]
    cases l.contains x with
    | true => simp
    | false => simp only [Bool.false_eq_true, if_false, List.map_cons, List.map_nil, getD_last rfl]

theorem stored_keys {kvs : List (Int × Value)} {l : List Nat} {n : Nat} {v : Value} (h : kvs.map (·.1) = nz l) : (stored kvs (n : Int) v).map (·.1) = nz (addNew l n) := by
  have hc : kvs.any (fun kv => kv.1 = (n : Int)) = l.contains n := by
    rw [← any_nz l n]
    show _ = (nz l).any fun y => y == (n : Int)
    rw [← h, List.any_map]
    congr 1
  unfold stored addNew
  rw [hc]
  cases l.contains n with
  | true =>
    simp only [if_true]
    rw [List.map_map, ← h]
    apply List.map_congr_left
    intro kv _
    show (if kv.1 = (n : Int) then (kv.1, v) else kv).1 = kv.1
    split <;> rfl
  | false =>
    simp only [Bool.false_eq_true, if_false]
    rw [List.map_append, h, nz_append]; rfl
end Mine

namespace Mine

/-- a local name stored: a token goes -/
theorem stLT {M : Model} {A : Around} {E : Value → Shared → Prop} {s₀ s : Shared} {m cm : Str → Option Value} {env : Env} {n : Str} {v : Value} {Q : Unit → Shared → Prop} (x : InCallC s₀ env.locals m env.cells cm s) (hk : env.scope.kind = .function) (hl : env.kindOf n = some .local)
    (h : ∀ s', InCallC s₀ env.locals (fun y => if y = n then some v else m y) env.cells cm s' → Heap.SameBut env.locals s.heap s'.heap → LK s.heap s'.heap → 1 ≤ s'.toks → Q () s') :
    wpAny M A (storeName env n v) Q E s := by
  refine wpAny_storeName_local hl x.toInCall.ns (fun h' hn' hs' => h _ ⟨⟨?_, hn', fun b o e => ?_, x.toInCall.fresh⟩, fun k c hc => ?_, x.apart, x.above⟩ hs' (lk_of_ns x.toInCall.ns hs') (Nat.succ_le_succ (Nat.zero_le _))) (by rw [hk]; rfl)
  · obtain ⟨h₁, tk, rfl⟩ := x.toInCall.same
    exact ⟨h', _, rfl⟩
  · exact hs'.extBut b o (Nat.ne_of_lt (Nat.lt_of_lt_of_le (Heap.lt_size e) x.toInCall.fresh)) (x.toInCall.keep b o e)
  · exact (x.cell k c hc).sameBut hs' (Nat.ne_of_gt (x.above k c (mem_of_lookup hc)))

noncomputable def innerBody : List Stmt := match bodyOf 86 with
  | [_, _, _, .For _ _ [.For _ _ b _ _] _ _, _] => b
  | _ => []

def TokInts (lo hi : Nat) (vs : List Value) (rs : List Nat) : Prop := Paired (fun v (n : Nat) => isTok lo hi (n : Int) v = true) vs rs
theorem isTok_of {lo hi : Nat} {k : Int} {t : Tok} (h1 : lo ≤ t) (h2 : t < hi) : isTok lo hi k (.int k t) = true := by
  simp [isTok]; exact ⟨h1, h2⟩
theorem isTok_mono {lo hi hi' : Nat} {k : Int} {v : Value} (h : isTok lo hi k v = true) (hh : hi ≤ hi') : isTok lo hi' k v = true := by
  obtain ⟨t, rfl, h1, h2⟩ := isTok_shape h
  exact isTok_of h1 (Nat.lt_of_lt_of_le h2 hh)
theorem paired_toks {vs ys : List Value} {h : Heap} {f : Nat × Nat → Nat} {l : List (Nat × Nat)} {lo hi : Nat} (hI : Paired (IL h) vs (l.map pz)) (hp : Paired (fun v y => ∀ p ∈ l, IL h v (pz p) → isTok lo hi (f p : Nat) y = true) vs ys) :
    TokInts lo hi ys (l.map f) := by
  have gen : ∀ (l' : List (Nat × Nat)) (vs ys : List Value), (∀ p ∈ l', p ∈ l) → Paired (IL h) vs (l'.map pz) → Paired (fun v y => ∀ p ∈ l, IL h v (pz p) → isTok lo hi (f p : Nat) y = true) vs ys → TokInts lo hi ys (l'.map f) := by
    intro l'
    induction l' with
    | nil => intro vs ys _ hI hp; cases hI; cases hp; exact .nil
    | cons p r ih =>
      intro vs ys hs hI hp
      cases hI with
      | cons hx hI =>
        cases hp with
        | cons hy hp => exact .cons (hy p (hs p List.mem_cons_self) hx) (ih _ _ (fun q hq => hs q (List.mem_cons_of_mem _ hq)) hI hp)
  exact gen l vs ys (fun _ h => h) hI hp
/-- the ints picked at the places of a list -/
theorem paired_picks {vs ys : List Value} {rs ks : List Nat} (hI : IntsAre vs (nz ks)) (hp : Paired (fun v y => ∀ (k : Nat) t, v = .int (k : Nat) t → ∃ u, y = .int (rs.getD k 0 : Nat) u) vs ys) : IntsAre ys (nz (ks.map fun k => rs.getD k 0)) := by
  induction ks generalizing vs ys with
  | nil => cases hI; cases hp; exact .nil
  | cons k r ih =>
    cases hI with
    | cons _ t hI =>
      cases hp with
      | cons hy hp => obtain ⟨u, rfl⟩ := hy k t rfl; exact .cons _ _ (ih hI hp)

def kindTest (rs : List Nat) : Value → Bool
  | .int k _ => !(rs.take k.toNat).contains (rs.getD k.toNat 0)
  | _ => false
theorem ints_take {vs : List Value} {l : List Nat} (h : IntsAre vs (nz l)) (k : Nat) : IntsAre (vs.take k) (nz (l.take k)) := by
  induction l generalizing vs k with
  | nil => cases h; simp; exact .nil
  | cons n r ih =>
    cases h with
    | cons _ t h =>
      cases k with
      | zero => exact .nil
      | succ k => exact .cons _ _ (ih h k)

section
variable {prog : Program} {w : World} {A : Around} {s₀ s : Shared} {m cm : Str → Option Value} {L c : Addr} {mvv nv bv : Value} {mv : List (List Nat)} {i j : Nat} {ti tj : Tok} {Qf : Flow → Shared → Prop}

theorem part_A1 (X₀ : Wd w s₀.heap) (hh : A.handled = none) (hroom : A.depth < 900) (hu : A.units < 6000)
    (x : InCallC s₀ L m (envA 86 L).cells cm s) (hc : (envA 86 L).cells.lookup (Str.ofString "left") = some c)
    (mm : m "moves" = some mvv) (mi : m "i" = some (.int i ti)) (mj : m "j" = some (.int j tj)) (cn : cm "numbers" = some nv) (cb : cm "both" = some bv)
    (hmv : LL s.heap mvv (nzz mv)) (hnv : IL s.heap nv (nz (numb mv))) (hbv : LL s.heap bv (nzz (both mv)))
    (h7 : mv.length = 7) (hlow : Lower mv) (hlen : ∀ l ∈ mv, l.length < 100) (hi : i < 7) (hj : j < 7)
    (next : ∀ s' lv pv, InCallC s₀ L (fun y => if y = "pairs" then some pv else m y) (envA 86 L).cells (fun y => if y = "left" then some lv else cm y) s' → LL s'.heap pv ((fol mv i j).map pz) → IL s'.heap lv (nz ((fol mv i j).map (look (both mv)))) →
      LK s.heap s'.heap → KB [L, c] s.heap s'.heap → 1 ≤ s'.toks →
      wpAny (model prog w) (A.deeper (envA 86 L)) (execs (innerBody.drop 2) (envA 86 L)) Qf (fun _ _ => False) s') :
    wpAny (model prog w) (A.deeper (envA 86 L)) (execs innerBody (envA 86 L)) Qf (fun _ _ => False) s := by
  have X : Wd w s.heap := X₀.keeps (cBase x)
  refine wpAny_execs_cons (wpAny_Assign_Name (wpAny_Call_NameR (nameK X rfl (def3 ⟨_, _, _, _, rfl⟩ rfl (NameLC (env := envA 86 L) x rfl rfl mm (NameLC (env := envA 86 L) x rfl rfl mi (NameLC (env := envA 86 L) x rfl rfl mj ⟨X, ?_⟩ (by decide)) (by decide)) (by decide))) rfl rfl rfl rfl)) rfl)
  refine followers_spec (mv := mv) X hh (by simp [Around.deeper]; omega) (by simp [Around.deeper]; omega) hmv (by omega) (by omega) (fun l hl => by have := hlen l hl; omega) (by omega) fun s₁ pv k₁ hpv => ?_
  refine stLT (env := envA 86 L) (cKeep x k₁) rfl rfl fun s₂ x₂ sb₂ lk₂ ht₂ => ?_
  have lkA : LK s.heap s₂.heap := (LK.of_ext (kExt k₁)).trans lk₂
  have kbA : KB [L, c] s.heap s₂.heap := (KB.of_ext (kExt k₁)).trans (KB.of_same sb₂ List.mem_cons_self)
  have hpv₂ := hpv.lk lk₂
  obtain ⟨pa, pvs, rfl, pl, pp⟩ := id hpv₂
  obtain ⟨D, bvs, rfl, bl, bp⟩ := id (hbv.lk lkA)
  have plen : pvs.length = (fol mv i j).length := by rw [pp.length, List.length_map]
  have folen : (fol mv i j).length < 1000 := by
    unfold fol
    rw [List.length_append, List.length_map, List.length_map]
    have := hlen _ (getD_memL (show i < mv.length by omega)); have := hlen _ (getD_memL (show j < mv.length by omega)); omega
  have cells : ∀ p ∈ fol mv i j, Cell2 s₂.heap D p.1 p.2 (look (both mv) p) := by
    intro p hp
    have blen : (both mv).length = mv.length := bothTo_len mv _
    have q := fol_lt hlow (by omega) (by omega) hp
    have hp1 : p.1 < (both mv).length := by omega
    refine cell2_of bl bp hp1 ?_
    rw [bothTo_rows mv _ _ (getD_memL (l := both mv) hp1)]; omega
  refine wpAny_execs_cons (wpAny_with_toks (n := 1) ht₂ (wpAny_Assign_Name (comp_rule (by with_unfolding_all rfl) (by decide) rfl (by decide) rfl (fun _ => rfl) (NameLC (env := envA 86 L) x₂ rfl rfl rfl ?_ (by decide))) (by with_unfolding_all rfl)))
  refine ⟨_, _, _, fun _ => true, fun _ v y => ∀ p ∈ fol mv i j, IL s₂.heap v (pz p) → ∃ t, y = .int (look (both mv) p : Nat) t,
        by simp only [List.size_toArray]; unfold sizeLine; omega, src_list hh pl, ⟨fun _ _ _ _ q _ => q, fun C i v s₃ m₃ E' _ _ _ _ _ => noTests (p := fun _ => true) (v := v) rfl, ?_⟩, ?_⟩
  · intro C k v s₃ m₃ E' hv₃ _ hn hm₃ ke _
    obtain ⟨p, hp, ip⟩ := pairs_inv pp hv₃
    have hpl : p.1 < 1000 ∧ p.2 < 1000 := by rcases fol_lt hlow (by omega) (by omega) hp with q | q <;> omega
    refine tab_elt (a := p.1) (b := p.2) rfl rfl rfl rfl (by decide) (by decide) hn hm₃ (ip.ext ke) (by have := (x₂.cell "both" _ rfl).keeps ke; rw [cb] at this; exact this) ((cells p hp).ext ke) (by omega) (by omega) fun s₄ t₄ k₄ => ⟨fun p' hp' ip' => ?_, k₄⟩
    have e := il_unique ip ip'
    have e1 : p = p' := by
      obtain ⟨a, b⟩ := p; obtain ⟨a', b'⟩ := p'
      simp only [pz, List.cons.injEq, and_true] at e
      have : a = a' := by omega
      have : b = b' := by omega
      simp [*]
    exact ⟨t₄, by rw [e1]⟩
  · intro R s₃ ys ws k₃ nR lR len₁ hv₁ F₁ _
    rw [filt] at F₁
    have q₁ := eq_of_items len₁ hv₁
    subst q₁
    have rI : IntsAre ys.toList (nz ((fol mv i j).map (look (both mv)))) := paired_looks pp F₁
    have ty : ys.toList.toArray = ys := by simp
    refine stC (env := envA 86 L) (cKeep x₂ k₃) rfl rfl hc fun s₄ x₄ sb₄ lk₄ ht₄ => ?_
    refine next s₄ _ _ x₄ ((hpv₂.kp k₃).lk lk₄) ⟨R, ys.toList, rfl, isList_lk (by rw [ty]; exact lR) lk₄, rI⟩ ((lkA.trans (LK.of_ext (kExt k₃))).trans lk₄)
      ((kbA.trans (KB.of_ext (kExt k₃))).trans (KB.of_same sb₄ (List.mem_cons_of_mem _ List.mem_cons_self))) ht₄
end
end Mine

namespace Mine

section
variable {prog : Program} {w : World} {A : Around} {s₀ s : Shared} {m cm : Str → Option Value} {L c : Addr} {lv pv nv : Value} {mv : List (List Nat)} {i j : Nat} {rs : List Nat} {Qf : Flow → Shared → Prop}

/-- kinds -/
theorem part_A2 (X₀ : Wd w s₀.heap) (hh : A.handled = none) (hroom : A.depth < 900) (hu : A.units < 6000)
    (x : InCallC s₀ L m (envA 86 L).cells cm s) (ht : 1 ≤ s.toks)
    (cl : cm "left" = some lv) (hlv : IL s.heap lv (nz rs)) (hlen : rs.length < 1000)
    (next : ∀ s' kv, InCallC s₀ L (fun y => if y = "kinds" then some kv else m y) (envA 86 L).cells cm s' → IL s'.heap kv (nz (nub rs)) →
      LK s.heap s'.heap → KB [L] s.heap s'.heap → 1 ≤ s'.toks →
      wpAny (model prog w) (A.deeper (envA 86 L)) (execs (innerBody.drop 3) (envA 86 L)) Qf (fun _ _ => False) s') :
    wpAny (model prog w) (A.deeper (envA 86 L)) (execs (innerBody.drop 2) (envA 86 L)) Qf (fun _ _ => False) s := by
  have X : Wd w s.heap := X₀.keeps (cBase x)
  obtain ⟨la, lvs, rfl, ll, lI⟩ := id hlv
  have llen : lvs.length = rs.length := by have := lI.length; simpa using this
  refine wpAny_execs_cons (wpAny_with_toks (n := 1) ht (assign_local (env := envA 86 L) x (by with_unfolding_all rfl) (by with_unfolding_all rfl) (by decide) rfl (by decide) rfl (fun _ => rfl) rfl rfl ?_))
  refine wpAny_Call_NameR (nameB X rfl rfl (by decide) (type1 rfl (wpAny_Call_NameR (nameB X rfl rfl (by decide) (bi1 rfl (NameCC (env := envA 86 L) x rfl rfl rfl cl ?_ (by decide))) rfl rfl rfl rfl rfl))) rfl rfl rfl rfl rfl)
  refine lenL ll (by rw [List.size_toArray]; omega) fun s₂ t₂ k₂ => range1 fun s₃ r₃ t₃ v₃ k₃ hrg => ?_
  have k₁₃ := kTrans k₂ k₃
  have x₃ := cKeep x k₁₃
  have hcell : ∀ {h' : Heap}, Ext s₃.heap h' → ∀ {c}, (envA 86 L).cells.lookup (Str.ofString "left") = some c → h'.IsCell c (some (.ref la)) := fun ke c e => by
    have := (x₃.cell "left" _ e).keeps ke; rw [cl] at this; exact this
  refine ⟨_, _, _, kindTest rs, fun _ v y => ∀ (k : Nat) t, v = .int (k : Nat) t → ∃ u, y = .int (rs.getD k 0 : Nat) u, ?_, src_bound (src_range hh hrg (by decide) (by decide) (by omega) (by rw [List.size_toArray]; omega)), ⟨fun _ _ _ _ q _ => q, ?_, ?_⟩, k₁₃, ?_⟩
  · rw [List.size_toArray]; unfold sizeLine; omega
  · intro C q v s₄ m₄ E' hv hn hm₄ ke _
    obtain ⟨hc, tj, rfl⟩ := hv
    have hc : q < rs.length := by rw [List.size_toArray] at hc; omega
    have e0 : (0 : Int) + (q : Int) = (q : Int) := by omega
    rw [e0] at hm₄ ⊢
    obtain ⟨tc, ec⟩ := ints_at lI hc
    refine oneTest (wpAny_isTrue_Compare1 (Subscript_ (nmC (hcell ke rfl) (nmL hn hm₄ (itemN (isList_lk ll (LK.of_ext ((kExt k₁₃).trans ke))) (by omega) ec ?_) rfl rfl (by decide)) rfl rfl rfl (by decide))))
    refine upTo (fun _ _ => rfl) (nmC (hcell ke rfl) (nmL hn hm₄ ?_ rfl rfl (by decide)) rfl rfl rfl (by decide))
    refine ⟨la, lvs, q, tj, rfl, rfl, isList_lk ll (LK.of_ext ((kExt k₁₃).trans ke)), by unfold sizeLine; omega, fun s₅ a₅ k₅ _ l₅ => ?_⟩
    refine notIn_IL ⟨a₅, _, rfl, l₅, ints_take lI q⟩ (by simp [Around.deeper, cLine]; omega) (wpAny_truthy_bool ⟨?_, k₅⟩)
    rw [any_nz]
    rfl
  · intro C q v s₄ m₄ E' hv _ hn hm₄ ke _
    obtain ⟨hc, tj, rfl⟩ := hv
    have hc : q < rs.length := by rw [List.size_toArray] at hc; omega
    have e0 : (0 : Int) + (q : Int) = (q : Int) := by omega
    rw [e0] at hm₄ ⊢
    obtain ⟨tc, ec⟩ := ints_at lI hc
    refine Subscript_ (nmC (hcell ke rfl) (nmL hn hm₄ (itemN (isList_lk ll (LK.of_ext ((kExt k₁₃).trans ke))) (by omega) ec ⟨?_, kRefl _⟩) rfl rfl (by decide)) rfl rfl rfl (by decide))
    intro k t e
    injection e with e1 _
    have : q = k := by omega
    subst this
    exact ⟨tc, rfl⟩
  · intro D s₄ ys vs x₄ kb₄ lk₄ nD lD len hv F _ ht₄
    have en : ((List.toArray lvs).size - 0 : Int).toNat = rs.length := by rw [List.size_toArray]; omega
    rw [en] at len
    have rI := range_filter (p := kindTest rs) (q := fun k => !(rs.take k).contains (rs.getD k 0)) (fun _ _ => rfl) (o := 0) len (fun j v e => by
        obtain ⟨_, t, q⟩ := hv j v e; exact ⟨t, by rw [q]; congr 1⟩)
    have gI := paired_picks rI F
    have e1 : (((List.range rs.length).map (· + 0)).filter fun k => !(rs.take k).contains (rs.getD k 0)).map (fun k => rs.getD k 0) = nub rs := by
      rw [← kinds_nub]; unfold kindsOf; simp
    rw [e1] at gI
    have ty : ys.toList.toArray = ys := by simp
    exact next s₄ _ x₄ ⟨D, ys.toList, rfl, by rw [ty]; exact lD, gI⟩ ((LK.of_ext (kExt k₁₃)).trans lk₄) ((KB.of_ext (kExt k₁₃)).trans kb₄) ht₄

/-- told -/
theorem part_A3 (X₀ : Wd w s₀.heap) (hh : A.handled = none) (hroom : A.depth < 900) (hu : A.units < 6000)
    (x : InCallC s₀ L m (envA 86 L).cells cm s) (ht : 1 ≤ s.toks)
    (mp : m "pairs" = some pv) (cn : cm "numbers" = some nv) (hpv : LL s.heap pv ((fol mv i j).map pz)) (hnv : IL s.heap nv (nz (numb mv)))
    (h7 : mv.length = 7) (hlow : Lower mv) (hlen : ∀ l ∈ mv, l.length < 100) (hi : i < 7) (hj : j < 7)
    (next : ∀ s' ta tvs lo, InCallC s₀ L (fun y => if y = "told" then some (.ref ta) else m y) (envA 86 L).cells cm s' → s'.heap.IsList ta (List.toArray tvs) → TokInts lo s'.toks tvs ((fol mv i j).map (look (both mv))) → 1 ≤ lo →
      LK s.heap s'.heap → KB [L] s.heap s'.heap → 1 ≤ s'.toks →
      wpAny (model prog w) (A.deeper (envA 86 L)) (execs (innerBody.drop 4) (envA 86 L)) Qf (fun _ _ => False) s') :
    wpAny (model prog w) (A.deeper (envA 86 L)) (execs (innerBody.drop 3) (envA 86 L)) Qf (fun _ _ => False) s := by
  have X : Wd w s.heap := X₀.keeps (cBase x)
  obtain ⟨pa, pvs, rfl, pl, pp⟩ := id hpv
  obtain ⟨na, nvs, rfl, nl, nI⟩ := id hnv
  have plen : pvs.length = (fol mv i j).length := by rw [pp.length, List.length_map]
  have nlen : (numb mv).length = 7 := by rw [← numbTo_all, numbTo_len (Nat.le_refl _), h7]
  have folen : (fol mv i j).length < 1000 := by
    unfold fol
    rw [List.length_append, List.length_map, List.length_map]
    have := hlen _ (getD_memL (show i < mv.length by omega)); have := hlen _ (getD_memL (show j < mv.length by omega)); omega
  refine wpAny_execs_cons (wpAny_with_toks (n := 1) ht (assign_local (env := envA 86 L) x (by with_unfolding_all rfl) (by with_unfolding_all rfl) (by decide) rfl (by decide) rfl (fun _ => rfl) rfl rfl (NameLC (env := envA 86 L) x rfl rfl mp ?_ (by decide))))
  refine ⟨_, _, _, fun _ => true, fun t v y => ∀ p ∈ fol mv i j, IL s.heap v (pz p) → isTok s.toks t (look (both mv) p : Nat) y = true,
        by simp only [List.size_toArray]; unfold sizeLine; omega, src_list hh pl, ⟨fun _ _ _ _ q hq p hp ip => isTok_mono (q p hp ip) hq, fun C i v s₃ m₃ E' _ _ _ _ _ => noTests (p := fun _ => true) (v := v) rfl, ?_⟩, kRefl _, ?_⟩
  · intro C k v s₃ m₃ E' hv₃ _ hn hm₃ ke ht₃
    obtain ⟨p, hp, ip⟩ := pairs_inv pp hv₃
    have q := fol_lt hlow (by omega) (by omega) hp
    have X₃ : Wd w s₃.heap := X.keeps ke
    have hcell : ∀ {h' : Heap}, Ext s.heap h' → ∀ {c}, (envA 86 L).cells.lookup (Str.ofString "numbers") = some c → h'.IsCell c (some (.ref na)) := fun ke c e => by
      have := (x.cell "numbers" _ e).keeps ke; rw [cn] at this; exact this
    obtain ⟨oa, ta, tb, rfl, ol⟩ := pair_at (ip.ext ke)
    obtain ⟨t1, e1⟩ := ints_at nI (j := p.1) (by omega)
    obtain ⟨t2, e2⟩ := ints_at nI (j := p.2) (by omega)
    refine wpAny_Call_NameR (nameK X₃ rfl (def2 ⟨_, _, _, _, rfl⟩ rfl ?_) rfl rfl rfl rfl)
    refine Subscript_ (nmC (hcell ke rfl) (Subscript_ (nmL hn hm₃ ?_ rfl rfl (by decide))) rfl rfl rfl (by decide))
    refine wpAny_with_toks (n := s.toks) ht₃ (cInt fun s₄ t₄ k₄ ht₄ => itemL (isList_kp ol k₄) (by decide) (by decide) rfl ?_)
    have ke₄ := ke.trans (kExt k₄)
    refine itemN (isList_lk nl (LK.of_ext ke₄)) (by omega) e1 ?_
    refine Subscript_ (nmC (hcell ke₄ rfl) (Subscript_ (nmL (hn.keeps (kExt k₄)) hm₃ ?_ rfl rfl (by decide))) rfl rfl rfl (by decide))
    refine wpAny_with_toks (n := s.toks) ht₄ (cInt fun s₅ t₅ k₅ ht₅ => itemL (isList_kp ol (kTrans k₄ k₅)) (by decide) (by decide) rfl ?_)
    have ke₅ := ke₄.trans (kExt k₅)
    refine itemN (isList_lk nl (LK.of_ext ke₅)) (by omega) e2 ⟨X.keeps ke₅, ?_⟩
    refine xor_specT (X.keeps ke₅) (by simp [Around.deeper]; omega) fun s₆ tk k₆ h1 h2 => ⟨fun p' hp' ip' => ?_, kTrans (kTrans k₄ k₅) k₆⟩
    have e := il_unique ip ip'
    have e1 : p = p' := by
      obtain ⟨a, b⟩ := p; obtain ⟨a', b'⟩ := p'
      simp only [pz, List.cons.injEq, and_true] at e
      have : a = a' := by omega
      have : b = b' := by omega
      simp [*]
    subst e1
    have g1 := gnum_le hlow _ p.1 (Nat.lt_succ_self _) (by omega)
    have g2 := gnum_le hlow _ p.2 (Nat.lt_succ_self _) (by omega)
    have eb := bitXor_nat (gnum mv p.1) (by omega) (gnum mv p.2) (by omega)
    rw [← both_xor hlow (by omega) _ p.1 p.2 (Nat.lt_succ_self _) (by omega) (by omega)] at eb
    unfold gnum at eb
    rw [eb]
    exact isTok_of (Nat.le_trans ht₅ h1) h2
  · intro R s₃ ys ws x₃ kb₃ lk₃ nR lR len₁ hv₁ F₁ _ ht₃
    rw [filt] at F₁
    have q₁ := eq_of_items len₁ hv₁
    subst q₁
    have rI := paired_toks pp F₁
    have ty : ys.toList.toArray = ys := by simp
    exact next s₃ R ys.toList s.toks x₃ (by rw [ty]; exact lR) rI ht lk₃ kb₃ ht₃
end
end Mine

namespace Mine

theorem newDict_at {M : Model} {A : Around} {E : Value → Shared → Prop} {s : Shared} {Q : Value → Shared → Prop} (h : wpAny M A newDict Q E s) : wpAny M A newDict (fun a s' => a = .ref s.heap.objs.size ∧ Q a s') E s := by
  intro Γ p hΓ
  have h' := h Γ p hΓ
  exact ⟨rfl, h'⟩

section
variable {prog : Program} {w : World} {K : Type} [DecidableEq K] {A : Around} {E : Value → Shared → Prop} {env : Env}
/-- a dict comprehension: its dict lies past all that was -/
theorem dict_comp {s : Shared} {kx vx iter : Expr} {x : Str} {px : Pos} {ifs : List Expr} {scope : Scope} {cl : List (Str × Addr)} {pos : Pos} {Q : Value → Shared → Prop} (knd : KeyKind prog w K) (p : Value → Bool)
    (FK : Value → K → Prop) (FV : Value → Value → Prop)
    (hclos : closureFor scope env = pure cl) (hcell : ∀ y ∈ scope.names, y.2 ≠ .cell) (hkind : scope.kind = .function)
    (hnames : ∀ y ∈ scope.names, y.2 = .local → scope.names.lookup y.1 = some .local) (hx : scope.names.lookup x = some .local)
    (h : wpAny (model prog w) A (eval iter env) (fun xv s₁ => wpAny (model prog w) A (pyIter xv) (fun it s₂ => ∃ I fp wr n P St, it = .ref I ∧ Walks prog w A I fp wr n P St ∧ n ≤ sizeLine ∧ St 0 s₂.heap ∧ (∀ b ∈ fp, b < s₂.heap.objs.size) ∧
      QuietOnCD knd A env scope cl x ifs kx vx wr P p FK FV s₂ ∧
      (∀ D h' tk kvs (vs : List Value), s₂.heap.objs.size ≤ D → h'.DictOf knd D kvs → vs.length = n → (∀ j v, vs[j]? = some v → P j v) → StoredAll FK FV (vs.filter p) kvs →
        (∀ b o, b ∉ wr → s₂.heap.get? b = some o → h'.get? b = some o) → Q (.ref D) { s₂ with heap := h', toks := tk })) E s₁) E s)
    (hs : ∀ x, foldedSetIterable iter env x = pure x) :
    wpAny (model prog w) A (eval (.DictComp kx vx [⟨.Name x px, iter, ifs, 0⟩] scope pos) env) Q E s := by
  rw [arm_eval_DictComp]
  refine wpAny_comprehension_free (use := none) rfl hs hclos hkind hnames (wpAny_mono h (fun xv s₁ h₁ => wpAny_mono h₁ (fun it s₂ h₂ => ?_) fun _ _ e => e) fun _ _ e => e)
  obtain ⟨I, fp, wr, n, P, St, rfl, W, hsz, hst, hfp, hq, hQ⟩ := h₂
  have key := newDict_at (comp_block_walkCD (E := E) (knd := knd) (kx := kx) (vx := vx) (iter := iter) (px := px) (ifs := ifs) (cl := cl) (pos := pos) (env := env) (RR := fun acc C r s' => acc = .ref s₂.heap.objs.size → compPost (model prog w) A E none Q acc C r s') W hsz p FK FV hcell hkind hx hst hfp hq
    (fun D C h' tk m' kvs vs hD hC hDC hn hl hlen hP hF hk e => by
      cases e
      exact ⟨m', hn, fun h'' hs'' => hQ _ h'' tk kvs vs (Nat.le_refl _) (hl.extBut hs''.extBut hDC) hlen hP hF fun b o hbf e => hs''.extBut b o (by rintro rfl; rw [hC] at e; cases e) (hk b o hbf e)⟩))
  refine wpAny_mono key (fun acc s₃ h₃ => wpAny_mono h₃.2 (fun cenv s₄ h₄ => codeAny_mono h₄ fun r s' q => q h₃.1) fun _ _ q => q) fun _ _ q => q
end

theorem tok_snoc {lo hi : Nat} {v : Value} : ∀ {l : List Value} {rs : List Nat}, TokInts lo hi (l ++ [v]) rs → ∃ (r : List Nat) (n : Nat), rs = r ++ [n] ∧ TokInts lo hi l r ∧ isTok lo hi (n : Int) v = true
  | [], _, h => by
    cases h with
    | cons a h => cases h; exact ⟨[], _, rfl, .nil, a⟩
  | b :: l, _, h => by
    cases h with
    | cons a h =>
      obtain ⟨r, n, rfl, t, q⟩ := tok_snoc h
      exact ⟨_ :: r, n, rfl, .cons a t, q⟩
theorem stored_nub {lo hi : Nat} {FV : Value → Value → Prop} {l : List Value} {kvs : List (Int × Value)} (x : StoredAll (fun v k => isTok lo hi k v = true) FV l kvs) : ∀ {rs : List Nat}, TokInts lo hi l rs → kvs.map (·.1) = nz (nub rs) := by
  induction x with
  | nil => intro rs h; cases h; rfl
  | @snoc l kvs v k y _ hk _ ih =>
    intro rs h
    obtain ⟨r, n, rfl, t, q⟩ := tok_snoc h
    have e : k = (n : Int) := by
      obtain ⟨t1, e1, _⟩ := isTok_shape hk
      obtain ⟨t2, e2, _⟩ := isTok_shape q
      rw [e1] at e2; injection e2
    rw [e, nub_snoc]
    exact stored_keys (ih t)

/-! what a passed exception leaves -/
section
variable {s₀ s s' : Shared} {L : Addr} {m cm : Str → Option Value} {cs : List (Str × Addr)} {g : Heap}
theorem turn_up {fs : List Addr} {h g : Heap} (k : KtsTurn fs h g) : h.UpToSlots g := fun b o e _ => k.up e
theorem turn_kb (k : KtsTurn [L] s.heap g) : KB [L] s.heap g := fun b o nb e => k.other b o e nb
theorem turn_lk (x : s.heap.Ns L m) (k : KtsTurn [L] s.heap g) : LK s.heap g := fun b o ⟨xs, n, hd⟩ e => by
  refine k.other b o e ?_
  intro q
  rw [List.mem_singleton.mp q] at e
  obtain ⟨o', es, n', e', hd', _⟩ := x
  rw [e] at e'; cases e'; rw [hd] at hd'; cases hd'
theorem turn_call (x : InCallC s₀ L m cs cm s) (k : KtsTurn [L] s.heap g) (kk : Keeps { s with heap := g } s') : InCallC s₀ L m cs cm s' := by
  have x₁ : InCallC s₀ L m cs cm { s with heap := g } := by
    refine ⟨⟨?_, (turn_up k).ns x.toInCall.ns, fun b o e => k.other b o (x.toInCall.keep b o e) ?_, x.toInCall.fresh⟩, fun n c e => ?_, x.apart, x.above⟩
    · obtain ⟨h, tk, rfl⟩ := x.toInCall.same; exact ⟨_, _, rfl⟩
    · intro q
      rw [List.mem_singleton.mp q] at e
      exact absurd (Heap.lt_size e) (Nat.not_lt.mpr x.toInCall.fresh)
    · obtain ⟨o, ho, hd⟩ := x.cell n c e
      refine ⟨o, k.other c o ho ?_, hd⟩
      intro q
      have := x.above n c (mem_of_lookup e)
      rw [List.mem_singleton.mp q] at this
      exact absurd this (Nat.lt_irrefl _)
  exact cKeep x₁ kk
theorem ns_dicts (x : s.heap.Ns L m) : KtsDicts [L] s.heap := fun b hb => by
  rw [List.mem_singleton.mp hb]
  obtain ⟨o, es, n, e, hd, _⟩ := x
  exact ⟨o, es, n, e, hd⟩
end
theorem paired_ones {h : Heap} {lo hi : Nat} {tvs ys : List Value} {rs : List Nat} (t : TokInts lo hi tvs rs) (F : Paired (fun v y => ∃ T its, y = .ref T ∧ h.IsList T its ∧ its = [v].toArray) tvs ys) : Paired (IL h) ys (rs.map fun n : Nat => [(n : Int)]) := by
  induction t generalizing ys with
  | nil => cases F; exact .nil
  | cons a _ ih =>
    cases F with
    | cons q F =>
      obtain ⟨T, its, rfl, l, rfl⟩ := q
      obtain ⟨tk, rfl, _⟩ := isTok_shape a
      exact .cons (IL_of_int l) (ih F)
end Mine

namespace Mine

/-- the six answers -/
def SixAt (h : Heap) (a : Addr) (rs ks : List Nat) : Prop := ∃ t1 t2 p1 p2, h.IsList a [Value.bool (rs.contains 0), .int (rs.count 0 : Nat) t1, p1, .bool (ks.contains 0), .int (ks.count 0 : Nat) t2, p2].toArray ∧ PlaceAt p1 (rs.findIdx? (· == 0)) ∧ PlaceAt p2 (ks.findIdx? (· == 0))
theorem SixAt.lk {h h' : Heap} {a : Addr} {rs ks : List Nat} (x : SixAt h a rs ks) (k : LK h h') : SixAt h' a rs ks :=
  let ⟨t1, t2, p1, p2, l, q1, q2⟩ := x; ⟨t1, t2, p1, p2, isList_lk l k, q1, q2⟩

/-- two threes added -/
theorem add_ans {prog : Program} {w : World} {A : Around} {E : Value → Shared → Prop} {s : Shared} {Q : Value → Shared → Prop} {u v : Value} {rs ks : List Nat} (hu : AnsAt s.heap u (rs.contains 0) (rs.count 0) (rs.findIdx? (· == 0)))
    (hv : AnsAt s.heap v (ks.contains 0) (ks.count 0) (ks.findIdx? (· == 0))) (h : ∀ s' a, Keeps s s' → s.heap.get? a = none → SixAt s'.heap a rs ks → Q (.ref a) s') : wpAny (model prog w) A (binaryOp .Add u v) Q E s := by
  obtain ⟨a, t, pv, rfl, l, q⟩ := hu
  obtain ⟨a', t', pv', rfl, l', q'⟩ := hv
  refine addL l l' (by show 6 ≤ sizeLine; decide) fun s' b k nb lb => h s' b k nb ⟨t, t', pv, pv', lb, q, q'⟩

theorem nub_len (l : List Nat) : (nub l).length ≤ l.length := by
  induction l using snoc_ind with
  | h0 => exact Nat.le_refl _
  | h1 l x ih =>
    rw [nub_snoc, addNew, List.length_append, List.length_singleton]
    split
    · omega
    · rw [List.length_append, List.length_singleton]; omega
theorem tok_len {lo hi : Nat} {vs : List Value} {rs : List Nat} (h : TokInts lo hi vs rs) : vs.length = rs.length := Paired.length h
theorem tok_at {lo hi : Nat} {vs : List Value} {rs : List Nat} (h : TokInts lo hi vs rs) {j : Nat} {v : Value} (e : vs[j]? = some v) : ∃ n : Nat, isTok lo hi (n : Int) v = true := by
  induction h generalizing j with
  | nil => simp at e
  | cons a _ ih =>
    cases j with
    | zero => simp at e; subst e; exact ⟨_, a⟩
    | succ j => exact ih (by simpa using e)

section
variable {prog : Program} {w : World} {A : Around} {s₀ s : Shared} {m cm : Str → Option Value} {L ta : Addr} {tvs : List Value} {lo : Nat} {rs : List Nat} {Qf : Flow → Shared → Prop} {base : Heap}

set_option maxHeartbeats 1000000 in
/-- answers -/
theorem part_B (XB : Wd w base) (B : Below A base [] s₀.heap) (hh : A.handled = none) (hroom : A.depth < 900) (hu : A.units < 6000)
    (x : InCallC s₀ L m (envA 86 L).cells cm s) (mt : m "told" = some (.ref ta)) (tl : s.heap.IsList ta (List.toArray tvs)) (tk : TokInts lo s.toks tvs rs) (hlo : 1 ≤ lo) (hlen : rs.length < 1000)
    (next : ∀ s' aa, InCallC s₀ L (fun y => if y = "answers" then some (.ref aa) else m y) (envA 86 L).cells cm s' → SixAt s'.heap aa rs (nub rs) → LK s.heap s'.heap → KB [L] s.heap s'.heap →
      wpAny (model prog w) (A.deeper (envA 86 L)) (execs (innerBody.drop 5) (envA 86 L)) Qf (fun _ _ => False) s') :
    wpAny (model prog w) (A.deeper (envA 86 L)) (execs (innerBody.drop 4) (envA 86 L)) Qf (fun _ _ => False) s := by
  have X₀ : Wd w s₀.heap := XB.keeps B.stays
  have X : Wd w s.heap := X₀.keeps (cBase x)
  have tlen := tok_len tk
  refine wpAny_execs_cons (wpAny_Assign_Name (wpAny_BinOp (wpAny_with_toks (n := s.toks) (Nat.le_refl _) (wpAny_Call_NameR (nameK X rfl (def2 ⟨_, _, _, _, rfl⟩ rfl ?_) rfl rfl rfl rfl)))) rfl)
  -- [[one] for one in told]
  refine comp_ruleO (by with_unfolding_all rfl) (by decide) rfl (by decide) rfl (fun _ => rfl) (NameLC (env := envA 86 L) x rfl rfl mt ?_ (by decide))
  refine ⟨_, _, _, fun _ => true, fun v its => its = [v].toArray, by simp only [List.size_toArray]; unfold sizeLine; omega, src_list hh tl, ⟨fun C i v s₃ m₃ E' _ _ _ _ => noTests (p := fun _ => true) (v := v) rfl, ?_⟩, ?_⟩
  · intro C i v s₃ m₃ E' _ _ hn hm ke
    refine List_ (wpAny_items_cons (nmL hn hm (wpAny_items_nil (newL (by show 1 ≤ sizeLine; decide) fun s₄ a₄ k₄ n₄ l₄ => ⟨⟨a₄, _, rfl, n₄, l₄, rfl⟩, k₄⟩)) rfl rfl (by decide)))
  intro D₁ s₁ ys vs k₁ nD₁ lD₁ len₁ hv₁ F₁
  rw [filt] at F₁
  have q₁ := eq_of_items len₁ hv₁
  subst q₁
  have ty : ys.toList.toArray = ys := by simp
  have row₁ : LL s₁.heap (.ref D₁) (rs.map fun n : Nat => [(n : Int)]) := ⟨D₁, ys.toList, rfl, by rw [ty]; exact lD₁, paired_ones tk F₁⟩
  refine List_ (wpAny_items_cons (cInt fun s₂ t₂ k₂ => wpAny_items_nil (newL (by show 1 ≤ sizeLine; decide) fun s₃ a₃ k₃ _ l₃ => ?_)))
  have k₀₃ := kTrans k₁ (kTrans k₂ k₃)
  have x₃ := cKeep x k₀₃
  refine ⟨X₀.keeps (cBase x₃), ?_⟩
  have row₃ := row₁.kp (kTrans k₂ k₃)
  have B₃ : Below (A.deeper (envA 86 L)) base [envA 86 L] s₃.heap := pushX B (cFr x₃) rfl rfl
  refine answers_spec (rs := rs) (outer := [envA 86 L]) XB hh (by simp [Around.deeper]; omega) (by simp [Around.deeper]; omega) B₃ (ns_dicts (L := L) x₃.toInCall.ns)
    (fun g KT => row_list (row₃.lk (turn_lk (L := L) x₃.toInCall.ns KT)) ((IL_of_int l₃).lk (turn_lk (L := L) x₃.toInCall.ns KT)) hlen) fun s₄ r₄ g₄ KT₄ kk₄ an₄ ht₄ => ?_
  have x₄ := turn_call (L := L) x₃ KT₄ kk₄
  have lk₀₄ : LK s.heap s₄.heap := (LK.of_ext (kExt k₀₃)).trans ((turn_lk (L := L) x₃.toInCall.ns KT₄).trans (LK.of_ext (kExt kk₄)))
  have kb₀₄ : KB [L] s.heap s₄.heap := (KB.of_ext (kExt k₀₃)).trans ((turn_kb (L := L) KT₄).trans (KB.of_ext (kExt kk₄)))
  have X₄ : Wd w s₄.heap := X₀.keeps (cBase x₄)
  have tl₄ := isList_lk tl lk₀₄
  -- {one: one for one in told}
  refine wpAny_Call_NameR (nameK X₄ rfl (def2 ⟨_, _, _, _, rfl⟩ rfl ?_) rfl rfl rfl rfl)
  refine wpAny_with_toks (n := s.toks) ht₄ (dict_comp (tokKind prog w lo s.toks) (fun _ => true) (fun v k => isTok lo s.toks k v = true) (fun _ _ => True) (by with_unfolding_all rfl) (by decide) rfl (by decide) rfl (NameLC (env := envA 86 L) x₄ rfl rfl mt ?_ (by decide)) (fun _ => rfl))
  refine wpAny_mono (src_list hh tl₄) (fun it s₅ h₅ => ?_) fun _ _ q => q
  obtain ⟨I, St, e₅, k₅, It, st, hb, hI⟩ := h₅
  refine ⟨I, _, [I], _, _, St, e₅, It.W, by simp only [List.size_toArray]; unfold sizeLine; omega, st, hb, ⟨?_, ?_, ?_⟩, ?_⟩
  · intro C i v s₆ m₆ E' hP hn hm hk
    exact noTests (p := fun _ => true) (v := v) rfl
  · intro C i v s₆ m₆ E' hP _ hn hm hk
    obtain ⟨n, hn'⟩ := tok_at tk (by simpa using hP)
    exact nmL hn hm ⟨⟨(n : Int), hn', hn'⟩, kRefl _⟩ rfl rfl (by decide)
  · intro C i v s₆ m₆ E' hP _ hn hm hk
    exact nmL hn hm ⟨trivial, kRefl _⟩ rfl rfl (by decide)
  intro D h' tk₆ kvs vs hD dD len₂ hv₂ F₂ hk₂ ht₆
  rw [filt] at F₂
  have q₂ := eq_of_items len₂ hv₂
  subst q₂
  have keys := stored_nub F₂ tk
  have ex₆ : Ext s₄.heap h' := ext_of_but hI (kExt k₅) hk₂
  have k₄₆ : Keeps s₄ { s₅ with heap := h', toks := tk₆ } := by
    obtain ⟨h₅, t₅, rfl, _⟩ := k₅
    exact ⟨h', tk₆, rfl, ex₆⟩
  refine wpAny_Constant_int ?_
  have k₄₇ : Keeps s₄ { s₅ with heap := h', toks := tk₆ + 1 } := kTrans k₄₆ (kTok _ _)
  have x₇ := cKeep x₄ k₄₇
  have X₇ := wKeep X₄ k₄₇
  refine ⟨X₇, ?_⟩
  have B₇ : Below (A.deeper (envA 86 L)) base [envA 86 L] h' := pushX B (cFr x₇) rfl rfl
  have L5 : L < s₅.heap.objs.size := by
    obtain ⟨o, _, _, e, _⟩ := (cKeep x₄ k₅).toInCall.ns; exact Heap.lt_size e
  have hDL : D ≠ L := Nat.ne_of_gt (Nat.lt_of_lt_of_le L5 hD)
  have hsys : (D == sysModules) = false := by
    obtain ⟨p, l, me, mg, mb, T⟩ := (wKeep X₄ k₅).T
    obtain ⟨o, _, _, e, _⟩ := T.g
    have h3 : 3 < s₅.heap.objs.size := Heap.lt_size e
    exact beq_eq_false_iff_ne.mpr (Nat.ne_of_gt (Nat.lt_of_lt_of_le (Nat.lt_trans (by decide) h3) hD))
  refine answers_spec (rs := nub rs) (outer := [envA 86 L]) (s := { s₅ with heap := h', toks := tk₆ + 1 }) XB hh (by simp [Around.deeper]; omega) (by simp [Around.deeper]; omega) B₇ (ns_dicts (L := L) x₇.toInCall.ns)
    (fun g KT => row_dict hsys (dD.at fun o e => KT.other D o e (fun q => hDL (List.mem_singleton.mp q))) keys hlo ht₆ (Nat.lt_of_le_of_lt (nub_len rs) hlen)) fun s₈ r₈ g₈ KT₈ kk₈ an₈ => ?_
  have x₈ := turn_call (L := L) x₇ KT₈ kk₈
  have lk₄₈ : LK s₄.heap s₈.heap := (LK.of_ext (kExt k₄₇)).trans ((turn_lk (s := { s₅ with heap := h', toks := tk₆ + 1 }) (L := L) x₇.toInCall.ns KT₈).trans (LK.of_ext (kExt kk₈)))
  have kb₄₈ : KB [L] s₄.heap s₈.heap := (KB.of_ext (kExt k₄₇)).trans ((turn_kb (s := { s₅ with heap := h', toks := tk₆ + 1 }) (L := L) KT₈).trans (KB.of_ext (kExt kk₈)))
  refine add_ans (an₄.lk lk₄₈) an₈ fun s₉ a₉ k₉ n₉ six => ?_
  refine stL (env := envA 86 L) (cKeep x₈ k₉) rfl rfl fun s₁₀ x₁₀ sb₁₀ lk₁₀ => ?_
  exact next s₁₀ a₉ x₁₀ (six.lk lk₁₀) (((lk₀₄.trans lk₄₈).trans (LK.of_ext (kExt k₉))).trans lk₁₀) (((kb₀₄.trans kb₄₈).trans (KB.of_ext (kExt k₉))).trans (KB.of_same sb₁₀ List.mem_cons_self))
end
end Mine

namespace Mine

section
variable {prog : Program} {w : World} {A : Around} {E : Value → Shared → Prop} {s : Shared} {Q : Value → Shared → Prop}

/-- a list of one's own, twice -/
theorem mulL {l : Addr} {items : Array Value} {k : Nat} {x : Int} {u : Tok} (hl : s.heap.get? l = some { cls := .type "list", dict := none, data := .seq items k, slots := #[] })
    (hlo : -(2 ^ 63 : Int) ≤ x) (hhi : x < 2 ^ 63) (hsz : items.size * x.toNat ≤ 2 ^ 24)
    (h : ∀ s' a, Keeps s s' → s'.heap.IsList a (List.foldl (fun x1 x2 => x1 ++ x2) #[] (List.replicate (if items.isEmpty = true then 0 else x.toNat) items)) → Q (.ref a) s') :
    wpAny (model prog w) A (binaryOp .Mult (.ref l) (.int x u)) Q E s := by
  refine wpAny_binaryOp_repeat_ref (T := "list") (U := "int") (by decide) ⟨_, hl, rfl⟩ (fun s' => typeIs_int s' x u) noFill_list_mul F.fills_int_mul F.slot_int_rmul repeat_list F.slot_int_index.lookup
    (call_meets F.slot_int_rmul (typeIs_int s x u) F.entry_int_rmul (F.args_int_rmul_2 _ _) (int___rmul___int_list x u l items k)
      ⟨hl, rfl, ⟨_, hl, rfl⟩, call_meets F.slot_list_mul ⟨_, hl, rfl⟩ F.entry_list_mul (F.args_list_mul_2 _ _)
        (AutoListH.list___mul___list_int_3 l items k x u (by simp [Builtin.List.listFitsIndex]; omega) (by omega) (by simp [Builtin.List.listTooLong, sizeLine]; omega)) ⟨hl, ?_⟩⟩)
  exact h _ _ (kHeap fun b o e => Heap.get?_push_of_some _ e) ⟨_, Heap.get?_push_size _ rfl, rfl, _, rfl⟩

theorem newLX {vs : List Value} (hsz : vs.length ≤ sizeLine) (h : ∀ s' a, Keeps s s' → s'.heap.get? a = some { cls := .type "list", dict := none, data := .seq vs.toArray 0, slots := #[] } → Q (.ref a) s') : wpAny (model prog w) A (newList vs) Q E s := by
  refine wpAny_newObj_type ?_ (by show vs.toArray.size ≤ sizeLine; rw [List.size_toArray]; exact hsz)
  exact h _ _ (kHeap fun b o e => Heap.get?_push_of_some _ e) (Heap.get?_push_size _ rfl)
end

def dP : Option Nat → PyData
  | some k => .int (k : Nat)
  | none => .str "none"
theorem place_reads {h : Heap} {v : Value} {p : Option Nat} (x : PlaceAt v p) : Reads h v (dP p) [] := by
  cases p with
  | none => obtain ⟨t, rfl⟩ := x; exact .str _ _
  | some k => obtain ⟨t, rfl⟩ := x; exact .int _ _
def dSix (rs ks : List Nat) : PyData := .list [.bool (rs.contains 0), .int (rs.count 0 : Nat), dP (rs.findIdx? (· == 0)), .bool (ks.contains 0), .int (ks.count 0 : Nat), dP (ks.findIdx? (· == 0))]
theorem SixAt.reads {h : Heap} {a : Addr} {rs ks : List Nat} (x : SixAt h a rs ks) : ∃ as, Reads h (.ref a) (dSix rs ks) as := by
  obtain ⟨t1, t2, p1, p2, ⟨o, ho, hc, n, hd⟩, q1, q2⟩ := x
  exact ⟨_, Reads.list ho hc hd (.cons (.bool _) (.cons (.int _ _) (.cons (place_reads q1) (.cons (.bool _) (.cons (.int _ _) (.cons (place_reads q2) .nil))))))⟩
theorem lay_none : (PyData.str "none").canLay0 = true := by decide +kernel
theorem lay_dP (p : Option Nat) : (dP p).canLay0 = true := by
  cases p with
  | none => exact lay_none
  | some k => rfl
theorem depth_dP (p : Option Nat) : (dP p).depth = 0 := by cases p <;> rfl
theorem lay_dSix (rs ks : List Nat) : (dSix rs ks).canLay0 = true := by
  simp only [dSix, PyData.canLay0, PyData.canLayAll0, lay_dP]; rfl
theorem depth_dSix (rs ks : List Nat) : (dSix rs ks).depth ≤ 1 := by
  simp only [dSix, PyData.depth, PyData.depthAll, depth_dP]; decide

/-- two like sixes -/
theorem ne_six {prog : Program} {w : World} {A : Around} {E : Value → Shared → Prop} {s : Shared} {Q : Value → Shared → Prop} {a b : Addr} {rs ks : List Nat} (ha : SixAt s.heap a rs ks) (hb : SixAt s.heap b rs ks) (hu : A.units + 2 < cLine) (h : Q (.bool false) s) :
    wpAny (model prog w) A (compareOp .NotEq (.ref a) (.ref b)) Q E s := by
  obtain ⟨as, ra⟩ := ha.reads
  obtain ⟨bs, rb⟩ := hb.reads
  refine SeqAt.compareNe_reads ra rb (lay_dSix _ _) (lay_dSix _ _) (by have := depth_dSix rs ks; omega) ?_
  rw [SeqAt.eqv_refl _ (lay_dSix rs ks)]; exact h

section
variable {prog : Program} {w : World} {A : Around} {s₀ s : Shared} {m cm : Str → Option Value} {L aa : Addr} {lv kv : Value} {rs : List Nat} {Qf : Flow → Shared → Prop}

/-- the first test -/
theorem part_C1 (X₀ : Wd w s₀.heap) (hh : A.handled = none) (hroom : A.depth < 900) (hu : A.units < 6000)
    (x : InCallC s₀ L m (envA 86 L).cells cm s) (cl : cm "left" = some lv) (mk : m "kinds" = some kv) (ma : m "answers" = some (.ref aa)) (hlv : IL s.heap lv (nz rs)) (hkv : IL s.heap kv (nz (nub rs))) (six : SixAt s.heap aa rs (nub rs)) (hlen : rs.length < 1000)
    (next : ∀ s', Keeps s s' → wpAny (model prog w) (A.deeper (envA 86 L)) (execs (innerBody.drop 6) (envA 86 L)) Qf (fun _ _ => False) s') :
    wpAny (model prog w) (A.deeper (envA 86 L)) (execs (innerBody.drop 5) (envA 86 L)) Qf (fun _ _ => False) s := by
  have X : Wd w s.heap := X₀.keeps (cBase x)
  refine wpAny_execs_cons (wpAny_If (wpAny_isTrue_Compare1 (NameLC (env := envA 86 L) x rfl rfl ma (wpAny_BinOp (wpAny_Call_NameR (nameK X rfl (def1 ⟨_, _, _, _, rfl⟩ rfl (NameCC (env := envA 86 L) x rfl rfl rfl cl ⟨X, ?_⟩ (by decide))) rfl rfl rfl rfl))) (by decide))))
  refine due_spec X hh (by simp [Around.deeper]; omega) (by simp [Around.deeper]; omega) hlv hlen fun s₁ r₁ k₁ an₁ => ?_
  have x₁ := cKeep x k₁
  have X₁ := wKeep X k₁
  refine wpAny_Call_NameR (nameK X₁ rfl (def1 ⟨_, _, _, _, rfl⟩ rfl (NameLC (env := envA 86 L) x₁ rfl rfl mk ⟨X₁, ?_⟩ (by decide))) rfl rfl rfl rfl)
  refine due_spec X₁ hh (by simp [Around.deeper]; omega) (by simp [Around.deeper]; omega) (hkv.kp k₁) (Nat.lt_of_le_of_lt (nub_len rs) hlen) fun s₂ r₂ k₂ an₂ => ?_
  refine add_ans (an₁.ext (kExt k₂)) an₂ fun s₃ a₃ k₃ _ six₃ => ?_
  have k₀₃ := kTrans k₁ (kTrans k₂ k₃)
  refine ne_six (six.lk (LK.of_ext (kExt k₀₃))) six₃ (by simp [Around.deeper, cLine]; omega) (wpAny_truthy_bool ?_)
  simp only [Bool.false_eq_true, if_false]
  exact wpAny_execs_nil (next s₃ k₀₃)

/-- a list of bools -/
theorem bools_reads {h : Heap} : ∀ bs : List Bool, ReadsAll h (bs.map .bool) (bs.map .bool) []
  | [] => .nil
  | b :: bs => ReadsAll.cons (as := []) (bs := []) (.bool b) (bools_reads bs)
def isB : Value → Bool
  | .bool _ => true
  | _ => false
/-- what stands in the six -/
def Sixer (v : Value) : Prop := (∃ b, v = .bool b) ∨ (∃ i t, v = .int i t) ∨ ∃ t, v = .str "none" t
theorem place_sixer {v : Value} {p : Option Nat} (x : PlaceAt v p) : Sixer v ∧ isB v = false := by
  cases p with
  | none => obtain ⟨t, rfl⟩ := x; exact ⟨.inr (.inr ⟨_, rfl⟩), rfl⟩
  | some k => obtain ⟨t, rfl⟩ := x; exact ⟨.inr (.inl ⟨_, _, rfl⟩), rfl⟩
theorem six_items {t1 t2 : Tok} {p1 p2 : Value} {q1 q2 : Option Nat} {b1 b2 : Bool} {n1 n2 : Int} (h1 : PlaceAt p1 q1) (h2 : PlaceAt p2 q2) : (∀ v ∈ [Value.bool b1, .int n1 t1, p1, .bool b2, .int n2 t2, p2], Sixer v) ∧
    ([Value.bool b1, .int n1 t1, p1, .bool b2, .int n2 t2, p2].map isB = [true, false, false, true, false, false]) := by
  have e1 := place_sixer h1
  have e2 := place_sixer h2
  refine ⟨?_, ?_⟩
  · intro v hv
    simp only [List.mem_cons, List.not_mem_nil, or_false] at hv
    rcases hv with rfl | rfl | rfl | rfl | rfl | rfl
    · exact .inl ⟨_, rfl⟩
    · exact .inr (.inl ⟨_, _, rfl⟩)
    · exact e1.1
    · exact .inl ⟨_, rfl⟩
    · exact .inr (.inl ⟨_, _, rfl⟩)
    · exact e2.1
  · simp only [List.map_cons, List.map_nil, e1.2, e2.2]; rfl
theorem paired_bools {vs ys : List Value} (h : Paired (fun v y => y = .bool (isB v)) vs ys) : ys = (vs.map isB).map .bool := by
  induction h with
  | nil => rfl
  | cons a _ ih => rw [a, ih]; rfl

/-- the second test -/
theorem part_C2 (X₀ : Wd w s₀.heap) (hh : A.handled = none) (hroom : A.depth < 900) (hu : A.units < 6000)
    (x : InCallC s₀ L m (envA 86 L).cells cm s) (ma : m "answers" = some (.ref aa)) (six : SixAt s.heap aa rs (nub rs))
    (next : ∀ s', Keeps s s' → wpAny (model prog w) (A.deeper (envA 86 L)) (execs (innerBody.drop 7) (envA 86 L)) Qf (fun _ _ => False) s') :
    wpAny (model prog w) (A.deeper (envA 86 L)) (execs (innerBody.drop 6) (envA 86 L)) Qf (fun _ _ => False) s := by
  have X : Wd w s.heap := X₀.keeps (cBase x)
  obtain ⟨t1, t2, p1, p2, al, q1, q2⟩ := six
  have it := six_items (t1 := t1) (t2 := t2) (b1 := rs.contains 0) (b2 := (nub rs).contains 0) (n1 := (rs.count 0 : Nat)) (n2 := ((nub rs).count 0 : Nat)) q1 q2
  generalize hV : [Value.bool (rs.contains 0), .int (rs.count 0 : Nat) t1, p1, .bool ((nub rs).contains 0), .int ((nub rs).count 0 : Nat) t2, p2] = V at it al
  have Vl : V.length = 6 := by rw [← hV]; rfl
  refine wpAny_execs_cons (wpAny_If (wpAny_isTrue_Compare1 (comp_rule (by with_unfolding_all rfl) (by decide) rfl (by decide) rfl (fun _ => rfl) (NameLC (env := envA 86 L) x rfl rfl ma ?_ (by decide)))))
  refine ⟨_, _, _, fun _ => true, fun _ v y => y = .bool (isB v), by simp only [List.size_toArray]; unfold sizeLine; omega, src_list hh al, ⟨fun _ _ _ _ q _ => q, fun C i v s₃ m₃ E' _ _ _ _ _ => noTests (p := fun _ => true) (v := v) rfl, ?_⟩, ?_⟩
  · intro C i v s₁ m₁ E' hv _ hn hm ke _
    have X₁ : Wd w s₁.heap := X.keeps ke
    have hs := it.1 v (by have hv : V.toArray[i]? = some v := hv; rw [List.getElem?_toArray] at hv; exact List.mem_of_getElem? hv)
    refine wpAny_Call_NameR (nameB X₁ rfl rfl (by decide) (bi2 rfl (nmL hn hm (nameB X₁ rfl rfl (by decide) ?_ rfl rfl rfl rfl rfl) rfl rfl (by decide))) rfl rfl rfl rfl rfl)
    rcases hs with ⟨b, rfl⟩ | ⟨n, t, rfl⟩ | ⟨t, rfl⟩
    · exact IsiPair.bool_bool ⟨rfl, kRefl _⟩
    · exact IsiPair.int_bool ⟨rfl, kTok _ _⟩
    · exact IsiPair.str_bool ⟨rfl, kTok _ _⟩
  · intro D s₁ ys ws k₁ nD lD len₁ hv₁ F₁ _
    rw [filt] at F₁
    have e₁ := eq_of_items len₁ hv₁
    subst e₁
    have ey := paired_bools F₁
    rw [it.2] at ey
    refine wpAny_BinOp (List_ (wpAny_items_cons (wpAny_Constant_bool (wpAny_items_cons (wpAny_Constant_bool (wpAny_items_cons (wpAny_Constant_bool (wpAny_items_nil (newLX (by decide) fun s₂ a₂ k₂ e₂ => ?_))))))))) 
    refine cInt fun s₃ t₃ k₃ => mulL (kExt k₃ _ _ e₂) (by decide) (by decide) (by decide) fun s₄ a₄ k₄ l₄ => ?_
    have k₁₄ := kTrans k₂ (kTrans k₃ k₄)
    obtain ⟨o, ho, hc, n, hd⟩ := isList_kp lD k₁₄
    obtain ⟨o', ho', hc', n', hd'⟩ := l₄
    have r1 : Reads s₄.heap (.ref D) (.list ([true, false, false, true, false, false].map .bool)) [D] := Reads.list ho hc hd (by rw [ey]; exact bools_reads [true, false, false, true, false, false])
    have r2 : Reads s₄.heap (.ref a₄) (.list ([true, false, false, true, false, false].map .bool)) [a₄] := Reads.list ho' hc' hd' (bools_reads [true, false, false, true, false, false])
    refine SeqAt.compareNe_reads r1 r2 rfl rfl (by simp [PyData.depth, PyData.depthAll, Around.deeper, cLine]; omega) (wpAny_truthy_bool ?_)
    rw [SeqAt.eqv_refl _ rfl]
    simp only [Bool.not_true, Bool.false_eq_true, if_false]
    exact wpAny_execs_nil (next s₄ (kTrans k₁ k₁₄))
end
end Mine

namespace Mine

section
variable {prog : Program} {w : World} {A : Around} {s₀ s : Shared} {m cm : Str → Option Value} {L aa : Addr} {nv bv : Value} {rs : List Nat} {mv : List (List Nat)} {i j : Nat} {ti tj : Tok} {Qf : Flow → Shared → Prop}

theorem ne_none {E : Value → Shared → Prop} {Q : Value → Shared → Prop} {v : Value} {d : PyData} {t : Tok} (r : Reads s.heap v d []) (hl : d.canLay0 = true) (hd : d.depth = 0) (hu : A.units + 2 < cLine) (h : Q (.bool (!PyData.eqv d (.str "none"))) s) :
    wpAny (model prog w) A (compareOp .NotEq v (.str "none" t)) Q E s :=
  SeqAt.compareNe_reads r (.str _ _) hl lay_none (by rw [hd]; omega) h

/-- the third test -/
theorem part_C3 (X₀ : Wd w s₀.heap) (hh : A.handled = none) (hroom : A.depth < 900) (hu : A.units < 6000)
    (x : InCallC s₀ L m (envA 86 L).cells cm s) (ma : m "answers" = some (.ref aa)) (six : SixAt s.heap aa rs (nub rs))
    (next : ∀ s', Keeps s s' → wpAny (model prog w) (A.deeper (envA 86 L)) (execs (innerBody.drop 8) (envA 86 L)) Qf (fun _ _ => False) s') :
    wpAny (model prog w) (A.deeper (envA 86 L)) (execs (innerBody.drop 7) (envA 86 L)) Qf (fun _ _ => False) s := by
  have X : Wd w s.heap := X₀.keeps (cBase x)
  obtain ⟨t1, t2, p1, p2, al, q1, q2⟩ := six
  have it := six_items (t1 := t1) (t2 := t2) (b1 := rs.contains 0) (b2 := (nub rs).contains 0) (n1 := (rs.count 0 : Nat)) (n2 := ((nub rs).count 0 : Nat)) q1 q2
  generalize hV : [Value.bool (rs.contains 0), .int (rs.count 0 : Nat) t1, p1, .bool ((nub rs).contains 0), .int ((nub rs).count 0 : Nat) t2, p2] = V at it al
  have Vl : V.length = 6 := by rw [← hV]; rfl
  refine wpAny_execs_cons (wpAny_If (wpAny_isTrue_Compare1 (comp_rule (by with_unfolding_all rfl) (by decide) rfl (by decide) rfl (fun _ => rfl) (NameLC (env := envA 86 L) x rfl rfl ma ?_ (by decide)))))
  refine ⟨_, _, _, fun _ => false, fun _ v y => True, by simp only [List.size_toArray]; unfold sizeLine; omega, src_list hh al, ⟨fun _ _ _ _ q _ => q, ?_, fun C i v s₃ m₃ E' _ q _ _ _ _ => by cases q⟩, ?_⟩
  · intro C i v s₁ m₁ E' hv hn hm ke _
    have X₁ : Wd w s₁.heap := X.keeps ke
    have hs := it.1 v (by have hv : V.toArray[i]? = some v := hv; rw [List.getElem?_toArray] at hv; exact List.mem_of_getElem? hv)
    refine oneTest (b := false) (wpAny_isTrue_BoolOp (wpAny_allTrue_And_cons (wpAny_isTrue_Compare1 (nmL hn hm (wpAny_Constant_str ?_) rfl rfl (by decide)))))
    have X₂ : Wd w ({ s₁ with toks := s₁.toks + 1 } : Shared).heap := X₁
    have hn₂ : ({ s₁ with toks := s₁.toks + 1 } : Shared).heap.Ns C m₁ := hn
    have kk : Keeps s₁ { s₁ with toks := s₁.toks + 1 } := kTok _ _
    generalize ({ s₁ with toks := s₁.toks + 1 } : Shared) = s₂ at X₂ hn₂ kk ⊢
    have hU : (A.deeper (envA 86 L)).units + 2 < cLine := by simp [Around.deeper, cLine]; omega
    rcases hs with ⟨b, rfl⟩ | ⟨n, t, rfl⟩ | ⟨t, rfl⟩
    · refine ne_none (.bool b) rfl rfl hU (wpAny_truthy_bool ?_)
      show if (true : Bool) = true then _ else _
      rw [if_pos rfl]
      refine wpAny_allTrue_And_cons (wpAny_isTrue_Not (wpAny_isTrue_value (wpAny_Call_NameR (nameB X₂ rfl rfl (by decide) (bi2 rfl (nmL hn₂ hm (nameB X₂ rfl rfl (by decide) ?_ rfl rfl rfl rfl rfl) rfl rfl (by decide))) rfl rfl rfl rfl rfl))))
      refine IsiPair.bool_int (wpAny_truthy_bool ?_)
      exact ⟨rfl, kk⟩
    · refine ne_none (.int n t) rfl rfl hU (wpAny_truthy_bool ?_)
      show if (true : Bool) = true then _ else _
      rw [if_pos rfl]
      refine wpAny_allTrue_And_cons (wpAny_isTrue_Not (wpAny_isTrue_value (wpAny_Call_NameR (nameB X₂ rfl rfl (by decide) (bi2 rfl (nmL hn₂ hm (nameB X₂ rfl rfl (by decide) ?_ rfl rfl rfl rfl rfl) rfl rfl (by decide))) rfl rfl rfl rfl rfl))))
      refine IsiPair.int_int (wpAny_truthy_bool ?_)
      exact ⟨rfl, kk⟩
    · refine ne_none (.str _ t) lay_none rfl hU (wpAny_truthy_bool ?_)
      rw [SeqAt.eqv_refl _ lay_none]
      exact ⟨rfl, kk⟩
  · intro D s₁ ys ws k₁ nD lD len₁ hv₁ F₁ _
    have e0 : ws.filter (fun _ => false) = [] := by simp
    rw [e0] at F₁
    have ey : ys = [].toArray := by
      have ty : ys.toList.toArray = ys := by simp
      rw [← ty]
      generalize ys.toList = l at F₁
      cases F₁; rfl
    rw [ey] at lD
    refine List_ (wpAny_items_nil (newL (by decide) fun s₂ a₂ k₂ _ l₂ => ?_))
    refine ne_IL (a := []) (b := []) ⟨D, [], rfl, isList_kp lD k₂, .nil⟩ ⟨a₂, [], rfl, l₂, .nil⟩ (by simp [Around.deeper, cLine]; omega) (wpAny_truthy_bool ?_)
    exact wpAny_execs_nil (next s₂ (kTrans k₁ k₂))

/-- the last test -/
theorem part_C4 (X₀ : Wd w s₀.heap) (hh : A.handled = none) (hroom : A.depth < 900) (hu : A.units < 6000)
    (x : InCallC s₀ L m (envA 86 L).cells cm s) (mi : m "i" = some (.int i ti)) (mj : m "j" = some (.int j tj)) (cn : cm "numbers" = some nv) (cb : cm "both" = some bv)
    (hnv : IL s.heap nv (nz (numb mv))) (hbv : LL s.heap bv (nzz (both mv))) (h7 : mv.length = 7) (hlow : Lower mv) (hi : i < 7) (hj : j < 7)
    (next : ∀ s' v, InCallC s₀ L (fun y => if y = "number" then some v else m y) (envA 86 L).cells cm s' → LK s.heap s'.heap → KB [L] s.heap s'.heap → Qf .next s') :
    wpAny (model prog w) (A.deeper (envA 86 L)) (execs (innerBody.drop 8) (envA 86 L)) Qf (fun _ _ => False) s := by
  have X : Wd w s.heap := X₀.keeps (cBase x)
  obtain ⟨na, nvs, rfl, nl, nI⟩ := id hnv
  have nlen : (numb mv).length = 7 := by rw [← numbTo_all, numbTo_len (Nat.le_refl _), h7]
  obtain ⟨t1, e1⟩ := ints_at nI (j := i) (by omega)
  obtain ⟨t2, e2⟩ := ints_at nI (j := j) (by omega)
  refine wpAny_execs_cons (wpAny_Assign_Name (wpAny_Call_NameR (nameK X rfl (def2 ⟨_, _, _, _, rfl⟩ rfl ?_) rfl rfl rfl rfl)) rfl)
  refine Subscript_ (NameCC (env := envA 86 L) x rfl rfl rfl cn (NameLC (env := envA 86 L) x rfl rfl mi ?_ (by decide)) (by decide))
  refine itemN nl (by omega) e1 ?_
  refine Subscript_ (NameCC (env := envA 86 L) x rfl rfl rfl cn (NameLC (env := envA 86 L) x rfl rfl mj ?_ (by decide)) (by decide))
  refine itemN nl (by omega) e2 ⟨X, ?_⟩
  refine xor_specT X (by simp [Around.deeper]; omega) fun s₁ tk k₁ _ _ => ?_
  have g1 := gnum_le hlow _ i (Nat.lt_succ_self _) (by omega)
  have g2 := gnum_le hlow _ j (Nat.lt_succ_self _) (by omega)
  have eb := bitXor_nat (gnum mv i) (by omega) (gnum mv j) (by omega)
  rw [← both_xor hlow (by omega) _ i j (Nat.lt_succ_self _) (by omega) (by omega)] at eb
  unfold gnum at eb
  rw [eb]
  refine stL (env := envA 86 L) (cKeep x k₁) rfl rfl fun s₂ x₂ sb₂ lk₂ => ?_
  have X₂ : Wd w s₂.heap := X₀.keeps (cBase x₂)
  have lk₀₂ : LK s.heap s₂.heap := (LK.of_ext (kExt k₁)).trans lk₂
  have kb₀₂ : KB [L] s.heap s₂.heap := (KB.of_ext (kExt k₁)).trans (KB.of_same sb₂ List.mem_cons_self)
  refine wpAny_execs_cons (wpAny_If (wpAny_isTrue_BoolOp (wpAny_allTrue_Or_cons (wpAny_isTrue_value (wpAny_Call_NameR (nameB X₂ rfl rfl (by decide) (bi2 rfl (NameLC (env := envA 86 L) x₂ rfl rfl rfl (nameB X₂ rfl rfl (by decide) ?_ rfl rfl rfl rfl rfl) (by decide))) rfl rfl rfl rfl rfl))))))
  refine IsiPair.int_bool (wpAny_truthy_bool ?_)
  simp only [Bool.false_eq_true, if_false]
  have x₃ := cKeep x₂ (kTok s₂ (s₂.toks + 1))
  refine wpAny_allTrue_Or_cons (wpAny_isTrue_Not (wpAny_isTrue_value (wpAny_Call_NameR (nameB (s := { s₂ with toks := s₂.toks + 1 }) X₂ rfl rfl (by decide) (bi2 rfl (NameLC (env := envA 86 L) x₃ rfl rfl rfl (nameB (s := { s₂ with toks := s₂.toks + 1 }) X₂ rfl rfl (by decide) ?_ rfl rfl rfl rfl rfl) (by decide))) rfl rfl rfl rfl rfl))))
  refine IsiPair.int_int (wpAny_truthy_bool ?_)
  simp only [Bool.not_true, Bool.false_eq_true, if_false]
  obtain ⟨D, bvs, rfl, bl, bp⟩ := id (hbv.lk lk₀₂)
  have blen : (both mv).length = 7 := by rw [← h7]; exact bothTo_len mv _
  obtain ⟨items, r, ritems, t, l, e, l', e'⟩ := cell2_of (a := i) (b := j) bl bp (by omega) (by rw [bothTo_rows mv _ _ (getD_memL (l := both mv) (by omega))]; omega)
  refine wpAny_allTrue_Or_cons (wpAny_isTrue_Compare1 (NameLC (env := envA 86 L) x₃ rfl rfl rfl ?_ (by decide)))
  refine Subscript_ (Subscript_ (NameCC (env := envA 86 L) x₃ rfl rfl rfl cb (NameLC (env := envA 86 L) x₃ rfl rfl mi ?_ (by decide)) (by decide)))
  refine itemN l (by omega) e ?_
  refine NameLC (env := envA 86 L) x₃ rfl rfl mj ?_ (by decide)
  refine itemN l' (by omega) e' ?_
  refine PyProof.Rows.ne_int (wpAny_truthy_bool ?_)
  have ez : (((look (both mv) (i, j) : Nat) : Int) != ((look (both mv) (i, j) : Nat) : Int)) = false := by simp
  rw [ez]
  simp only [Bool.false_eq_true, if_false]
  refine wpAny_allTrue_Or_nil ?_
  simp only [Bool.false_eq_true, if_false]
  exact wpAny_execs_nil (wpAny_execs_nil (next _ _ x₃ lk₀₂ kb₀₂))
end
end Mine

namespace Mine

theorem kb_one {L c : Addr} {h h' : Heap} (k : KB [L] h h') : KB [L, c] h h' := k.mono fun b hb => by rw [List.mem_singleton.mp hb]; exact List.mem_cons_self

section
variable {prog : Program} {w : World} {A : Around} {s₀ s : Shared} {m cm : Str → Option Value} {L c : Addr} {mvv nv bv : Value} {mv : List (List Nat)} {i j : Nat} {ti tj : Tok} {Qf : Flow → Shared → Prop} {base : Heap}

theorem body_spec (XB : Wd w base) (B : Below A base [] s₀.heap) (hh : A.handled = none) (hroom : A.depth < 900) (hu : A.units < 6000)
    (x : InCallC s₀ L m (envA 86 L).cells cm s) (hc : (envA 86 L).cells.lookup (Str.ofString "left") = some c)
    (mm : m "moves" = some mvv) (mi : m "i" = some (.int i ti)) (mj : m "j" = some (.int j tj)) (cn : cm "numbers" = some nv) (cb : cm "both" = some bv)
    (hmv : LL s.heap mvv (nzz mv)) (hnv : IL s.heap nv (nz (numb mv))) (hbv : LL s.heap bv (nzz (both mv)))
    (h7 : mv.length = 7) (hlow : Lower mv) (hlen : ∀ l ∈ mv, l.length < 100) (hi : i < 7) (hj : j < 7)
    (next : ∀ s' m' cm', InCallC s₀ L m' (envA 86 L).cells cm' s' → m' "moves" = some mvv → m' "i" = some (.int i ti) → cm' "numbers" = some nv → cm' "both" = some bv → LK s.heap s'.heap → KB [L, c] s.heap s'.heap → Qf .next s') :
    wpAny (model prog w) (A.deeper (envA 86 L)) (execs innerBody (envA 86 L)) Qf (fun _ _ => False) s := by
  have X₀ : Wd w s₀.heap := XB.keeps B.stays
  have rlen : ((fol mv i j).map (look (both mv))).length < 1000 := by
    unfold fol
    rw [List.length_map, List.length_append, List.length_map, List.length_map]
    have := hlen _ (getD_memL (show i < mv.length by omega)); have := hlen _ (getD_memL (show j < mv.length by omega)); omega
  refine part_A1 X₀ hh hroom hu x hc mm mi mj cn cb hmv hnv hbv h7 hlow hlen hi hj fun s₁ lv pv x₁ hpv₁ hlv₁ lk₁ kb₁ ht₁ => ?_
  refine part_A2 (rs := (fol mv i j).map (look (both mv))) X₀ hh hroom hu x₁ ht₁ rfl hlv₁ rlen fun s₂ kv x₂ hkv₂ lk₂ kb₂ ht₂ => ?_
  refine part_A3 X₀ hh hroom hu x₂ ht₂ rfl cn (hpv₁.lk lk₂) (hnv.lk (lk₁.trans lk₂)) h7 hlow hlen hi hj fun s₃ ta tvs lo x₃ tl₃ tk₃ hlo lk₃ kb₃ ht₃ => ?_
  refine part_B XB B hh hroom hu x₃ rfl tl₃ tk₃ hlo rlen fun s₄ aa x₄ six₄ lk₄ kb₄ => ?_
  have lk₂₄ := lk₃.trans lk₄
  have lk₀₄ := (lk₁.trans lk₂).trans lk₂₄
  refine part_C1 X₀ hh hroom hu x₄ rfl rfl rfl (hlv₁.lk (lk₂.trans lk₂₄)) (hkv₂.lk lk₂₄) six₄ rlen fun s₅ k₅ => ?_
  refine part_C2 X₀ hh hroom hu (cKeep x₄ k₅) rfl (six₄.lk (LK.of_ext (kExt k₅))) fun s₆ k₆ => ?_
  have k₄₆ := kTrans k₅ k₆
  refine part_C3 X₀ hh hroom hu (cKeep x₄ k₄₆) rfl (six₄.lk (LK.of_ext (kExt k₄₆))) fun s₇ k₇ => ?_
  have k₄₇ := kTrans k₄₆ k₇
  have lk₀₇ := lk₀₄.trans (LK.of_ext (kExt k₄₇))
  refine part_C4 X₀ hh hroom hu (cKeep x₄ k₄₇) mi mj cn cb (hnv.lk lk₀₇) (hbv.lk lk₀₇) h7 hlow hi hj fun s₈ v x₈ lk₈ kb₈ => ?_
  refine next s₈ _ _ x₈ mm mi cn cb (lk₀₇.trans lk₈) ?_
  exact kb₁.trans ((kb_one kb₂).trans ((kb_one kb₃).trans ((kb_one kb₄).trans ((KB.of_ext (kExt k₄₇)).trans (kb_one kb₈)))))
end

section
variable {prog : Program} {w : World} {A : Around} {E : Value → Shared → Prop} {s : Shared} {Q : Value → Shared → Prop} {base : Heap}

set_option maxHeartbeats 1000000 in
theorem law_spec {sv : Value} {ns : List Int} (XB : Wd w base) (B : Below A base [] s.heap) (hh : A.handled = none) (hroom : A.depth < 900) (hu : A.units < 6000) (hm : IL s.heap sv ns) (hlen : ns.length < 100)
    (h : ∀ s', Keeps s s' → Q (.bool true) s') : wpAny (model prog w) A (call (.ref 86) [sv]) Q E s := by
  have X : Wd w s.heap := XB.keeps B.stays
  refine call_fn X (by unfold recursionLimit; omega) [("script", sv)] (fun y => if y = "script" then some sv else none) (fun _ => none) rfl rfl rfl rfl rfl rfl rfl rfl rfl (fun _ => rfl) (fun _ => rfl) ?_
  intro L s₁ x
  have X₁ : Wd w s₁.heap := X.keeps (cBase x)
  -- moves
  refine wpAny_execs_cons (wpAny_Assign_Name (wpAny_Call_NameR (nameK X₁ rfl (def1 ⟨_, _, _, _, rfl⟩ rfl (NameLC (env := envA 86 L) x rfl rfl rfl ⟨X₁, ?_⟩ (by decide))) rfl rfl rfl rfl)) rfl)
  refine moves_spec X₁ hh (by simp [Around.deeper]; omega) (by simp [Around.deeper]; omega) (hm.ext (cBase x)) hlen fun s₂ mvv mv k₂ hmv h7 hlow hl => ?_
  refine stL (env := envA 86 L) (cKeep x k₂) rfl rfl fun s₃ x₃ sb₃ lk₃ => ?_
  have X₃ : Wd w s₃.heap := X.keeps (cBase x₃)
  have hmv₃ := hmv.lk lk₃
  -- numbers
  refine wpAny_execs_cons (wpAny_Assign_Name (wpAny_Call_NameR (nameK X₃ rfl (def1 ⟨_, _, _, _, rfl⟩ rfl (NameLC (env := envA 86 L) x₃ rfl rfl rfl ⟨X₃, ?_⟩ (by decide))) rfl rfl rfl rfl)) rfl)
  refine numbers_spec X₃ hh (by simp [Around.deeper]; omega) (by simp [Around.deeper]; omega) hmv₃ (fun l hl' => by have := hl l hl'; omega) (by omega) hlow fun s₄ nv k₄ hnv => ?_
  refine stC (env := envA 86 L) (cKeep x₃ k₄) rfl rfl rfl fun s₅ x₅ sb₅ lk₅ => ?_
  have X₅ : Wd w s₅.heap := X.keeps (cBase x₅)
  have hmv₅ := (hmv₃.kp k₄).lk lk₅
  have hnv₅ := hnv.lk lk₅
  -- both
  refine wpAny_execs_cons (wpAny_Assign_Name (wpAny_Call_NameR (nameK X₅ rfl (def1 ⟨_, _, _, _, rfl⟩ rfl (NameLC (env := envA 86 L) x₅ rfl rfl rfl ⟨X₅, ?_⟩ (by decide))) rfl rfl rfl rfl)) rfl)
  refine both_spec X₅ hh (by simp [Around.deeper]; omega) (by simp [Around.deeper]; omega) hmv₅ hl (by omega) hlow fun s₆ bv k₆ hbv => ?_
  refine stC (env := envA 86 L) (cKeep x₅ k₆) rfl rfl rfl fun s₇ x₇ sb₇ lk₇ => ?_
  have X₇ : Wd w s₇.heap := X.keeps (cBase x₇)
  have hmv₇ := (hmv₅.kp k₆).lk lk₇
  have hnv₇ := (hnv₅.kp k₆).lk lk₇
  have hbv₇ := hbv.lk lk₇
  obtain ⟨ma, mvs, rfl, ml, mp⟩ := id hmv₇
  have mlen : mvs.length = 7 := by rw [mp.length, List.length_map, h7]
  obtain ⟨cL, hcL⟩ : ∃ c, (envA 86 L).cells.lookup (Str.ofString "left") = some c := ⟨_, rfl⟩
  -- for i
  refine wpAny_execs_cons (for_rule (s₀ := s) (fun _ => rfl) (wpAny_Call_NameR (nameB X₇ rfl rfl (by decide) (type1 rfl (wpAny_Call_NameR (nameB X₇ rfl rfl (by decide) (bi1 rfl (NameLC (env := envA 86 L) x₇ rfl rfl rfl ?_ (by decide))) rfl rfl rfl rfl rfl))) rfl rfl rfl rfl rfl)))
  refine lenL ml (by rw [List.size_toArray]; omega) fun s₈ t₈ k₈ => range1 fun s₉ r₉ t₉ v₉ k₉ hrg => ?_
  have k₇₉ := kTrans k₈ k₉
  have x₉ := cKeep x₇ k₇₉
  refine ⟨_, _, [], [L, cL], fun i s' => ∃ m' cm', InCallC s L m' (envA 86 L).cells cm' s' ∧ m' "moves" = some (.ref ma) ∧ cm' "numbers" = some nv ∧ cm' "both" = some bv ∧ LK s₇.heap s'.heap,
    src_range hh hrg (by decide) (by decide) (by omega) (by rw [List.size_toArray]; omega), cBase x₉, ?_, (fun b hb => by cases hb), ?_, ?_, ?_⟩
  · intro b hb
    rcases List.mem_cons.mp hb with rfl | hb
    · obtain ⟨o, _, _, e, _⟩ := x₉.toInCall.ns; exact ⟨o, e⟩
    · rw [List.mem_singleton.mp hb]; obtain ⟨o, e, _⟩ := x₉.cell _ _ hcL; exact ⟨o, e⟩
  · intro s₁₀ k₁₀
    exact ⟨_, _, cKeep x₉ k₁₀, rfl, rfl, rfl, LK.of_ext (kExt (kTrans k₇₉ k₁₀))⟩
  · rintro i v s₁₀ s₁₁ hi ⟨ti, rfl⟩ ⟨m₁₀, cm₁₀, x₁₀, mm₁₀, cn₁₀, cb₁₀, lk₁₀⟩ tr
    have hi : i < 7 := by rw [List.size_toArray] at hi; omega
    have e0 : (0 : Int) + (i : Int) = (i : Int) := by omega
    rw [e0]
    refine stL (env := envA 86 L) (tr.call x₁₀) rfl rfl fun s₁₂ x₁₂ sb₁₂ lk₁₂ => ?_
    have lkA := (lk₁₀.trans tr.lk).trans lk₁₂
    have kb₁₂ : KB [L, cL] s₁₁.heap s₁₂.heap := KB.of_same sb₁₂ List.mem_cons_self
    have X₁₂ : Wd w s₁₂.heap := X.keeps (cBase x₁₂)
    refine wpAny_execs_cons (for_rule (s₀ := s) (fun _ => rfl) (wpAny_Call_NameR (nameB X₁₂ rfl rfl (by decide) (type1 rfl (wpAny_BinOp (NameLC (env := envA 86 L) x₁₂ rfl rfl rfl (cInt fun s₁₃ t₁₃ k₁₃ => addI fun s₁₄ t₁₄ k₁₄ => ?_) (by decide)))) rfl rfl rfl rfl rfl)))
    refine range1 fun s₁₅ r₁₅ t₁₅ v₁₅ k₁₅ hrg₁₅ => ?_
    have kB := kTrans k₁₃ (kTrans k₁₄ k₁₅)
    have x₁₅ := cKeep x₁₂ kB
    refine ⟨_, _, [], [L, cL], fun j s' => ∃ m' cm', InCallC s L m' (envA 86 L).cells cm' s' ∧ m' "moves" = some (.ref ma) ∧ m' "i" = some (.int (i : Nat) ti) ∧ cm' "numbers" = some nv ∧ cm' "both" = some bv ∧ LK s₇.heap s'.heap ∧ KB [L, cL] s₁₁.heap s'.heap,
      src_range hh hrg₁₅ (by decide) (by decide) (by omega) (by omega), cBase x₁₅, ?_, (fun b hb => by cases hb), ?_, ?_, ?_⟩
    · intro b hb
      rcases List.mem_cons.mp hb with rfl | hb
      · obtain ⟨o, _, _, e, _⟩ := x₁₅.toInCall.ns; exact ⟨o, e⟩
      · rw [List.mem_singleton.mp hb]; obtain ⟨o, e, _⟩ := x₁₅.cell _ _ hcL; exact ⟨o, e⟩
    · intro s₁₆ k₁₆
      exact ⟨_, _, cKeep x₁₅ k₁₆, mm₁₀, rfl, cn₁₀, cb₁₀, lkA.trans (LK.of_ext (kExt (kTrans kB k₁₆))), kb₁₂.trans (KB.of_ext (kExt (kTrans kB k₁₆)))⟩
    · rintro j v s₁₆ s₁₇ hj ⟨tj, rfl⟩ ⟨m₁₆, cm₁₆, x₁₆, mm₁₆, mi₁₆, cn₁₆, cb₁₆, lk₁₆, kb₁₆⟩ tr'
      have hj : j < 7 := by omega
      have e1 : (0 : Int) + (j : Int) = (j : Int) := by omega
      rw [e1]
      have kb₁₇ : KB [L, cL] s₁₁.heap s₁₇.heap := fun b o nb e => tr'.keep b o o (kExt kB b o (kb₁₂ b o nb e)) (kb₁₆ b o nb e)
      refine stL (env := envA 86 L) (tr'.call x₁₆) rfl rfl fun s₁₈ x₁₈ sb₁₈ lk₁₈ => ?_
      have lkC := (lk₁₆.trans tr'.lk).trans lk₁₈
      refine body_spec (i := i) (j := j) (ti := ti) (tj := tj) (mv := mv) XB B hh hroom hu x₁₈ hcL mm₁₆ mi₁₆ rfl cn₁₆ cb₁₆ (hmv₇.lk lkC) (hnv₇.lk lkC) (hbv₇.lk lkC) h7 hlow hl hi hj fun s₁₉ m₁₉ cm₁₉ x₁₉ mm₁₉ mi₁₉ cn₁₉ cb₁₉ lk₁₉ kb₁₉ => ?_
      have kbD : KB [L, cL] s₁₇.heap s₁₉.heap := (KB.of_same sb₁₈ List.mem_cons_self).trans kb₁₉
      exact ⟨⟨_, _, x₁₉, mm₁₉, mi₁₉, cn₁₉, cb₁₉, lkC.trans lk₁₉, kb₁₇.trans kbD⟩, kbD⟩
    · rintro s₁₆ s₁₇ ⟨m₁₆, cm₁₆, x₁₆, mm₁₆, mi₁₆, cn₁₆, cb₁₆, lk₁₆, kb₁₆⟩ tr'
      have kb₁₇ : KB [L, cL] s₁₁.heap s₁₇.heap := fun b o nb e => tr'.keep b o o (kExt kB b o (kb₁₂ b o nb e)) (kb₁₆ b o nb e)
      exact wpAny_execs_nil (wpAny_execs_nil ⟨⟨_, _, tr'.call x₁₆, mm₁₆, cn₁₆, cb₁₆, lk₁₆.trans tr'.lk⟩, kb₁₇⟩)
  · rintro s₁₀ s₁₁ ⟨m₁₀, cm₁₀, x₁₀, mm₁₀, cn₁₀, cb₁₀, lk₁₀⟩ tr
    refine wpAny_execs_nil (wpAny_execs_cons (wpAny_Return_some (wpAny_Constant_bool ?_)))
    exact h _ (cDone (tr.call x₁₀))
end
end Mine

namespace Mine
set_option maxHeartbeats 8000000 in
theorem law_walk : PySem.Challenge.rw_nb0376_01.Holds := hd (by
  intro w s₀ s₁ mg mb G Y fa o pm cd doc dV kV ho hdd hcd hD hmg hg args vals as hpre hlay hrd hwl hlo
  have KX := kIn_of Y
  refine Ground.open G ?_
  intro T B D TE TW
  clear hdd hD ho hcd
  have h86 : mg (Str.ofString "law") = some (.ref fa) := hmg
  have e86 : mg (Str.ofString "law") = some (.ref 86) := mg_of KX T.g (by rfl)
  rw [e86] at h86
  cases h86
  clear hmg
  wrow_args hpre hlay hrd hwl hlo
  rename_i ns _ _ _ _ _ _ _ la lvs _ ll _ _ _ lI _ hlen _
  refine law_spec (ns := ns) ⟨KX, _, _, _, _, _, T⟩ (below_caller s₁.heap) rfl (by decide) (by decide) ⟨la, lvs, rfl, ll, lI⟩ (by omega) fun s' k => ?_
  obtain ⟨h', tk, rfl, ke⟩ := k
  refine ⟨.inl ⟨_, .bool true, [], rfl, fun _ => rfl, .bool true, ?_, unshared_nil⟩, .of_keep ke, rfl, .of_eq hg⟩
  wrow_post)
end Mine

theorem PySem.Challenge.cw_nb0376_01_holds : PySem.Challenge.rw_nb0376_01.Holds :=
  Mine.law_walk
