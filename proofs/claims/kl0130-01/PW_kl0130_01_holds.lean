import PyProof.Rows.All
import Wide.All
import OpenK.AllK
import Wide.FinOn
import PySem.Challenge.RW_kl0130_01
set_option compiler.extract_closed false
open PySem PySem.W PyProof.Rows
set_option Elab.async false
namespace Mine
set_option synthInstance.maxSize 1 in
set_option maxRecDepth 100000 in
set_option maxHeartbeats 8000000 in
open_top hd for PySem.Challenge.rw_kl0130_01
end Mine

open PySem PySem.W PyProof.Rows
set_option Elab.async false
namespace Mine
open Calls Spec

abbrev tup (vs : List Value) : Obj := { cls := .type "tuple", data := .seq vs.toArray }

/-- `h'` still holds every object of `h` that is not of `pre`, and `nw` lies apart from these -/
def Apart (h h' : Heap) (pre nw : List (Addr × Obj)) : Prop :=
  ∀ b o, h.get? b = some o → b ∉ pre.map (·.1) → h'.get? b = some o ∧ ∀ p ∈ nw, @Ne Nat p.1 b

theorem apart_of {h g h' : Heap} {pre nw : List (Addr × Obj)} {L' : Addr} {m' : Str → Option Value}
    (hg : ∀ b o, h.get? b = some o → b ∉ pre.map (·.1) → g.get? b = some o) (F : Fr g L' h' m') (N : News g L' h' nw) : Apart h h' pre nw := by
  intro b o e n
  have q := hg b o e n
  refine ⟨F.keep _ _ q, fun p hp z => ?_⟩
  have y := (N p hp).2.2
  have z' : p.1 = b := z
  rw [z', q] at y
  cases y

/-- what a call of the def at f with the values vs does: from a ledger `pre`, back with r and the ledger `nw` -/
def Does (w : World) (f : Addr) (vs : List Value) (size : Nat) (pre : List (Addr × Obj)) (post : Value → List (Addr × Obj) → Prop) : Prop :=
  ∀ (p : Program) (loose : List Str) (mean : ExcName → Option Value) (mg mb : Str → Option Value)
    (dp un : Nat) (gd : Option (List Code)) (cn : Str) (cs : Scope) (a : Addr) (ccd : Value) (cl : List (Str × Addr)) (outer : List Env) (A₀ : Around) (base h₀ : Heap) (L : Addr) (m : Str → Option Value) (s : Shared)
    (Q E : Value → Shared → Prop),
    Below A₀ base outer h₀ → Fr h₀ L s.heap m → (Mine.hd.heap_39 w.params).In h₀ → News h₀ L s.heap pre → Top p loose mean mg mb h₀ → cs.kind = .function → dp + size < recursionLimit → un + 8 * size < cLine →
    (∀ r nw h' tk', Fr h₀ L h' m → News h₀ L h' nw → Apart s.heap h' pre nw → post r nw → Q r { s with heap := h', toks := tk' }) →
    wpAny (model Challenge.rw_kl0130_01.row.prog w) (ktrTop dp un gd cn cs L a ccd cl outer) (call (.ref f) vs) Q E s

theorem Does.use {w : World} {f : Addr} {vs : List Value} {size : Nat} {pre : List (Addr × Obj)} {post : Value → List (Addr × Obj) → Prop} (D : Does w f vs size pre post)
    {p : Program} {loose : List Str} {mean : ExcName → Option Value} {mg mb : Str → Option Value}
    {dp un : Nat} {gd : Option (List Code)} {cn : Str} {cs : Scope} {a : Addr} {ccd : Value} {cl : List (Str × Addr)} {outer : List Env} {A₀ : Around} {base h₀ : Heap} {L : Addr} {m : Str → Option Value} {s : Shared}
    {Q E : Value → Shared → Prop} {news : List (Addr × Obj)} (rest : List (Addr × Obj))
    (B : Below A₀ base outer h₀) (F : Fr h₀ L s.heap m) (X : (Mine.hd.heap_39 w.params).In h₀) (N : News h₀ L s.heap news) (T : Top p loose mean mg mb h₀) (hk : cs.kind = .function) (hd : dp + size < recursionLimit) (hu : un + 8 * size < cLine)
    (hs : ∀ q ∈ pre ++ rest, q ∈ news) (hdis : ∀ q ∈ rest, ∀ p ∈ pre, @Ne Nat p.1 q.1)
    (ret : ∀ r nw h' tk', Fr h₀ L h' m → News h₀ L h' (nw ++ rest) → (∀ p ∈ nw, ∀ q ∈ rest, @Ne Nat p.1 q.1) → post r nw → Q r { s with heap := h', toks := tk' }) :
    wpAny (model Challenge.rw_kl0130_01.row.prog w) (ktrTop dp un gd cn cs L a ccd cl outer) (call (.ref f) vs) Q E s := by
  refine D p loose mean mg mb dp un gd cn cs a ccd cl outer A₀ base h₀ L m s Q E B F X (fun q hq => N q (hs q (List.mem_append_left _ hq))) T hk hd hu ?_
  intro r nw h' tk' F' N' ap po
  have ap' : ∀ q ∈ rest, h'.get? q.1 = some q.2 ∧ ∀ p ∈ nw, @Ne Nat p.1 q.1 := fun q hq => by
    refine ap q.1 q.2 (N q (hs q (List.mem_append_right _ hq))).1 fun hm => ?_
    obtain ⟨p, hp, e⟩ := List.mem_map.mp hm
    exact hdis q hq p hp e
  refine ret r nw h' tk' F' (fun q hq => ?_) (fun p hp q hq => (ap' q hq).2 p hp) po
  rcases List.mem_append.mp hq with hq | hq
  · exact N' q hq
  · exact ⟨(ap' q hq).1, (N q (hs q (List.mem_append_right _ hq))).2⟩

theorem Does.use0 {w : World} {f : Addr} {vs : List Value} {size : Nat} {post : Value → List (Addr × Obj) → Prop} (D : Does w f vs size [] post)
    {p : Program} {loose : List Str} {mean : ExcName → Option Value} {mg mb : Str → Option Value}
    {dp un : Nat} {gd : Option (List Code)} {cn : Str} {cs : Scope} {a : Addr} {ccd : Value} {cl : List (Str × Addr)} {outer : List Env} {A₀ : Around} {base h₀ : Heap} {L : Addr} {m : Str → Option Value} {s : Shared}
    {Q E : Value → Shared → Prop} {news : List (Addr × Obj)}
    (B : Below A₀ base outer h₀) (F : Fr h₀ L s.heap m) (X : (Mine.hd.heap_39 w.params).In h₀) (N : News h₀ L s.heap news) (T : Top p loose mean mg mb h₀) (hk : cs.kind = .function) (hd : dp + size < recursionLimit) (hu : un + 8 * size < cLine)
    (ret : ∀ r nw h' tk', Fr h₀ L h' m → News h₀ L h' (nw ++ news) → (∀ p ∈ nw, ∀ q ∈ news, @Ne Nat p.1 q.1) → post r nw → Q r { s with heap := h', toks := tk' }) :
    wpAny (model Challenge.rw_kl0130_01.row.prog w) (ktrTop dp un gd cn cs L a ccd cl outer) (call (.ref f) vs) Q E s :=
  D.use news B F X N T hk hd hu (fun q hq => by simpa using hq) (fun _ _ _ h => nomatch h) ret

/-- two places of a list -/
inductive Two (a b : Addr) : List Addr → Prop
  | hd {l : List Addr} : b ∈ l → Two a b (a :: l)
  | hd' {l : List Addr} : a ∈ l → Two a b (b :: l)
  | tl {x : Addr} {l : List Addr} : Two a b l → Two a b (x :: l)
theorem Two.ne {a b : Addr} : ∀ {l : List Addr}, l.Nodup → Two a b l → @Ne Nat a b
  | _, h, .hd m => fun e => (List.nodup_cons.mp h).1 (by have e' : a = b := e; rw [e']; exact m)
  | _, h, .hd' m => fun e => (List.nodup_cons.mp h).1 (by have e' : a = b := e; rw [← e']; exact m)
  | _, h, .tl t => Two.ne (List.nodup_cons.mp h).2 t

def atL {α : Type} : List α → Nat → List α
  | [], _ => []
  | a :: _, 0 => [a]
  | _ :: r, n + 1 => atL r n
def pickL {α : Type} : List Nat → List α → List α
  | [], _ => []
  | i :: is, l => atL l i ++ pickL is l
theorem atL_mem {α : Type} : ∀ {l : List α} {n : Nat} {q : α}, q ∈ atL l n → q ∈ l
  | [], _, _, h => nomatch h
  | a :: r, 0, q, h => by rw [List.mem_singleton.mp h]; exact .head _
  | a :: r, n + 1, q, h => .tail _ (atL_mem (l := r) (n := n) h)
theorem pickL_mem {α : Type} : ∀ {is : List Nat} {l : List α} {q : α}, q ∈ pickL is l → q ∈ l
  | [], _, _, h => nomatch h
  | i :: is, l, q, h => (List.mem_append.mp h).elim atL_mem (pickL_mem (is := is))

theorem Does.useP {w : World} {f : Addr} {vs : List Value} {size : Nat} {pre : List (Addr × Obj)} {post : Value → List (Addr × Obj) → Prop} (D : Does w f vs size pre post) (is : List Nat)
    {p : Program} {loose : List Str} {mean : ExcName → Option Value} {mg mb : Str → Option Value}
    {dp un : Nat} {gd : Option (List Code)} {cn : Str} {cs : Scope} {a : Addr} {ccd : Value} {cl : List (Str × Addr)} {outer : List Env} {A₀ : Around} {base h₀ : Heap} {L : Addr} {m : Str → Option Value} {s : Shared}
    {Q E : Value → Shared → Prop} {news : List (Addr × Obj)}
    (B : Below A₀ base outer h₀) (F : Fr h₀ L s.heap m) (X : (Mine.hd.heap_39 w.params).In h₀) (N : News h₀ L s.heap news) (T : Top p loose mean mg mb h₀) (hk : cs.kind = .function) (hd : dp + size < recursionLimit) (hu : un + 8 * size < cLine)
    (hs : ∀ q ∈ pre, q ∈ news) (hdis : ∀ q ∈ pickL is news, ∀ p ∈ pre, @Ne Nat p.1 q.1)
    (ret : ∀ r nw h' tk', Fr h₀ L h' m → News h₀ L h' (nw ++ pickL is news) → (∀ p ∈ nw, ∀ q ∈ pickL is news, @Ne Nat p.1 q.1) → post r nw → Q r { s with heap := h', toks := tk' }) :
    wpAny (model Challenge.rw_kl0130_01.row.prog w) (ktrTop dp un gd cn cs L a ccd cl outer) (call (.ref f) vs) Q E s :=
  D.use (pickL is news) B F X N T hk hd hu (fun q hq => (List.mem_append.mp hq).elim (hs q) pickL_mem) hdis ret

theorem nsub {h₀ h : Heap} {L : Addr} {a b : List (Addr × Obj)} (N : News h₀ L h b) (hs : ∀ p ∈ a, p ∈ b) : News h₀ L h a := fun p hp => N p (hs p hp)

/-- a halt for the walk: no line serves it -/
def Halt (P : Prop) : Prop := P
theorem Halt.out {P : Prop} (h : Halt P) : P := h
inductive HaltMark : Prop where
  | mk
theorem Halt.outM {P : Prop} (_ : HaltMark) (h : Halt P) : P := h
theorem markUp {P : Prop} (h : HaltMark → P) : P := h .mk
inductive FlatMark : Prop where
  | mk
theorem flatUp {P : Prop} (h : FlatMark → P) : P := h .mk

section
variable {prog : Program} {w : World} {A A₀ : Around} {s : Shared} {K : Frag} {L : Addr} {h₀ base : Heap} {m mg mb : Str → Option Value} {news : List (Addr × Obj)} {p : Program} {loose : List Str} {mean : ExcName → Option Value}
theorem code_def1 {env : Env} {outer : List Env} {R : Result → Shared → Prop} {name qual : Str} {params : Arguments} {body : List Stmt} {scope : Scope} {dV kV doc pm cdv ct oc : Value} {an od : Option Addr} {osl : Array (Option Value)} {f : Addr} {args : Args} {binds : List (Str × Value)}
    (B : Below A₀ base outer h₀) (F : Fr h₀ L s.heap m) (X₀ : K.In h₀) (N : News h₀ L s.heap news) (T : Top p loose mean mg mb h₀) (hA : A.frames = some (env :: outer)) (hf : env.frame = some L) (hke : env.scope.kind = .function)
    (ho : K.lookup f = some ⟨oc, od, .func (fnOf name qual params body scope dV kV doc pm an cdv ct), osl⟩) (hcd : codeIn K cdv qual = true) (hroom : A.depth < recursionLimit)
    (hbind : BindsTo s (fnOf name qual params body scope dV kV doc pm an cdv ct) args binds) (hloc : ∀ y ∈ binds, scope.names.lookup y.1 = some .local)
    (h : ∀ g L' h₁, Fr h₀ L g m → (∀ b o, s.heap.get? b = some o → b ∉ news.map (·.1) → g.get? b = some o) → Fr g L' h₁ (fun y => binds.reverse.lookup y) → News g L' h₁ news → Below A base (env :: outer) g → K.In g → Top p loose mean mg mb g →
      wpAny (model prog w) (A.deeper (envOf qual scope L' f cdv)) (execs body (envOf qual scope L' f cdv))
        (fun fl s' => LeaveK h₀ L m g R (match fl with | .ret v => v | _ => .none) s')
        (fun e s' => wpAny (model prog w) (A.deeper (envOf qual scope L' f cdv)) (leaving (envOf qual scope L' f cdv) e) (fun _ s'' => R (.error e) s'') (fun e' s'' => R (.error e') s'') s')
        { s with heap := h₁, toks := s.toks + binds.length })
    (hco : scope.isCoroutine = false) (hgen : scope.isGenerator = false) (hk : scope.kind = .function)
    (hcell : ∀ x ∈ scope.names, x.2 ≠ .cell) : codeAny (model prog w) A (.call (.ref f) args) R s := by
  obtain ⟨FG, BG, st, lv⟩ := groundX (R := R) B F N hA hf hke
  refine codeAny_call_def (fd := fnX name qual params body scope [] dV kV doc pm an cdv ct) (body := body) (binds := binds) hroom ((X₀.keeps F.keep) _ _ ho) rfl (T.nolimit.keeps F.keep) (codeRec_of (X₀.keeps F.keep) hcd) rfl hbind hcell hloc (fun h₁ hns hk₁ => ?_) hco hgen hk
  exact wpAny_mono (h _ s.heap.objs.size h₁ FG (fun b o e n => hideAll_get _ e n) ⟨hns, fun b o e => hk₁ b o (of_hideAll _ e), Nat.le_of_eq (hideAll_size _ _)⟩
    (fun p hp => ⟨hk₁ _ _ (N p hp).1, Nat.ne_of_lt (Heap.lt_size (N p hp).1), hideAll_none _ (List.mem_map_of_mem hp)⟩) BG (X₀.keeps st) (T.keeps st)) (fun fl s' hl => lv _ _ hl) fun _ _ y => y
end


section
variable {prog : Program} {w : World} {A A₀ : Around} {s : Shared} {K : Frag} {L : Addr} {h₀ base : Heap} {m mg mb : Str → Option Value} {news : List (Addr × Obj)} {p : Program} {loose : List Str} {mean : ExcName → Option Value}
theorem code_def1C {env : Env} {outer : List Env} {R : Result → Shared → Prop} {name qual : Str} {params : Arguments} {body : List Stmt} {scope : Scope} {dV kV doc pm cdv ct oc : Value} {an od : Option Addr} {osl : Array (Option Value)} {f : Addr} {args : Args} {binds : List (Str × Value)}
    (B : Below A₀ base outer h₀) (F : Fr h₀ L s.heap m) (X₀ : K.In h₀) (N : News h₀ L s.heap news) (T : Top p loose mean mg mb h₀) (hA : A.frames = some (env :: outer)) (hf : env.frame = some L) (hke : env.scope.kind = .function)
    (ho : K.lookup f = some ⟨oc, od, .func (fnOf name qual params body scope dV kV doc pm an cdv ct), osl⟩) (hcd : codeIn K cdv qual = true) (hroom : A.depth < recursionLimit)
    (hbind : BindsTo s (fnOf name qual params body scope dV kV doc pm an cdv ct) args binds) (hkind : (binds.all fun y => scope.names.lookup y.1 == some .local || scope.names.lookup y.1 == some .cell) = true)
    (hnd : ((cellsFrom 0 scope.names []).map (·.1)).Nodup)
    (h : ∀ g L' h₁ tk cells, Fr h₀ L g m → (∀ b o, s.heap.get? b = some o → b ∉ news.map (·.1) → g.get? b = some o) → Fr g L' h₁ (bindL (envOfC qual scope L' f cdv).kindOf binds fun _ => none) → News g L' h₁ (cells ++ news) →
      CellsAre (bindC (envOfC qual scope L' f cdv).kindOf binds fun _ => none) (cellsFrom (L' + 1) scope.names []) cells → Below A base (env :: outer) g → K.In g → Top p loose mean mg mb g → (∀ p ∈ news, p.1 < L') →
      wpAny (model prog w) (A.deeper (envOfC qual scope L' f cdv)) (execs body (envOfC qual scope L' f cdv))
        (fun fl s' => LeaveK h₀ L m g R (match fl with | .ret v => v | _ => .none) s')
        (fun e s' => wpAny (model prog w) (A.deeper (envOfC qual scope L' f cdv)) (leaving (envOfC qual scope L' f cdv) e) (fun _ s'' => R (.error e) s'') (fun e' s'' => R (.error e') s'') s')
        { s with heap := h₁, toks := tk })
    (hco : scope.isCoroutine = false) (hgen : scope.isGenerator = false) (hk : scope.kind = .function) : codeAny (model prog w) A (.call (.ref f) args) R s := by
  obtain ⟨FG, BG, st, lv⟩ := groundX (R := R) B F N hA hf hke
  have X := X₀.keeps F.keep
  refine codeAny_call_function hroom (X _ _ ho) rfl hco hgen rfl (codeRec_of X hcd) (hbind _ _ _ _ ?_)
  refine wpAny_newFunctionEnv_cells hk (kindsX hkind _) fun env' he s' x => ?_
  subst he
  refine ⟨(T.nolimit.keeps F.keep).keeps x.toInCall.keep, codeAny_func ?_⟩
  obtain ⟨h₁, tk, rfl, _⟩ := x.done
  have kp := x.toInCall.keep
  obtain ⟨cells, NC, Y⟩ := Cl.news (h₀ := s.heap) (Nat.le_refl _) fun n c hm => ⟨x.cell n c (lookup_of_mem_nodup (cellsFrom_names scope.names 0 (s.heap.objs.size + 1) [] [] rfl ▸ hnd) hm), x.above n c hm⟩
  have NN : News (hideAll s.heap (news.map (·.1))) s.heap.objs.size h₁ (cells ++ news) := by
    intro p hp
    rcases List.mem_append.mp hp with q | q
    · refine ⟨(NC p q).1, (NC p q).2.1, ?_⟩
      cases e : (hideAll s.heap (news.map (·.1))).get? p.1 with
      | none => rfl
      | some o => have := of_hideAll _ e; rw [(NC p q).2.2] at this; cases this
    · exact ⟨kp _ _ (N p q).1, Nat.ne_of_lt (Heap.lt_size (N p q).1), hideAll_none _ (List.mem_map_of_mem q)⟩
  exact wpAny_mono (h _ s.heap.objs.size h₁ tk cells FG (fun b o e n => hideAll_get _ e n) ⟨x.toInCall.ns, fun b o e => kp b o (of_hideAll _ e), Nat.le_of_eq (hideAll_size _ _)⟩ NN Y BG (X₀.keeps st) (T.keeps st) (fun p hp => Heap.lt_size (N p hp).1)) (fun fl s' hl => lv _ _ hl) fun _ _ y => y
end

section
variable {prog : Program} {w : World} {A : Around} {E : Value → Shared → Prop} {Q : Flow → Shared → Prop} {s : Shared} {env : Env} {h₀ : Heap} {L : Addr}
theorem strs_sub {prog : Program} {w : World} {A : Around} {E : Value → Shared → Prop} {s : Shared} {h₀ : Heap} {L D : Addr} {news : List (Addr × Obj)} {vs : List Value} {ws : List Str} {n : Nat} {k : Int} {u : Tok} {value slice : PySem.Expr} {Q : Value → Shared → Prop}
    (N : News h₀ L s.heap news) (hm : (D, listOf vs.toArray n) ∈ news) (hw : StrsAre vs ws) (h0 : 0 ≤ k) (h1 : k < (ws.length : Int)) (hfit : k < 2 ^ 63) (h : ∀ t, Q (.str (ws.getD k.toNat Str.empty) t) s)
    (hs : subscripted slice false (.ref D) (.int k u) = operate [.ref D, .int k u] (getItem (.ref D) (.int k u)) := by with_unfolding_all rfl) :
    wpAny (model prog w) A (subscriptTail value slice (.ref D) (.int k u)) Q E s := KTb.item_list (PySem.IsL.isList (n := n) (N _ hm).1) hw h0 h1 hfit (fun t _ => h t) hs
theorem vals_sub {prog : Program} {w : World} {A : Around} {E : Value → Shared → Prop} {s : Shared} {h₀ : Heap} {L D : Addr} {news : List (Addr × Obj)} {vs : List Value} {n : Nat} {k : Int} {u : Tok} {v : Value} {value slice : PySem.Expr} {Q : Value → Shared → Prop}
    (N : News h₀ L s.heap news) (hm : (D, listOf vs.toArray n) ∈ news) (h0 : 0 ≤ k) (hfit : k < 2 ^ 63) (hx : vs[k.toNat]? = some v) (h : Q v s)
    (hs : subscripted slice false (.ref D) (.int k u) = operate [.ref D, .int k u] (getItem (.ref D) (.int k u))) (hg : ∀ r, letTemporaryGo value (.ref D) r = pure ()) :
    wpAny (model prog w) A (subscriptTail value slice (.ref D) (.int k u)) Q E s := kim_list N hm rfl rfl h0 hfit hx h hs hg
theorem vals_set {prog : Program} {w : World} {A : Around} {E : Value → Shared → Prop} {s : Shared} {h₀ : Heap} {L D : Addr} {m : Str → Option Value} {news news' : List (Addr × Obj)} {vs : List Value} {n : Nat} {k : Int} {t : Tok} {v : Value} {Q : Unit → Shared → Prop}
    (F : Fr h₀ L s.heap m) (N : News h₀ L s.heap news) (U : Upd D (listOf vs.toArray n) (listOf (vs.set k.toNat v).toArray n) news news') (h0 : 0 ≤ k) (h1 : k < vs.length) (hfit : k < 2 ^ 63)
    (h : ∀ h', Fr h₀ L h' m → News h₀ L h' news' → Q () { s with heap := h' }) : wpAny (model prog w) A (setItem (.ref D) (.int k t) v) Q E s := by
  obtain ⟨pre, post, rfl, rfl, a, b⟩ := U.split
  have z := N (D, listOf vs.toArray n) (List.mem_append.mpr (.inr (.head _)))
  refine ki_setAt z.1 h0 hfit (by simpa using h1) (h _ (F.change (Heap.SameBut.update ..) z.2.1 z.2.2) (ki_turn _ N a b ?_ ?_))
  · show vs.toArray.setIfInBounds k.toNat v = (vs.set k.toNat v).toArray
    apply Array.toList_inj.mp
    simp
  · simp
theorem while_use {σ : Type} {test : PySem.Expr} {body : List Stmt} {pos : Pos} {m₀ : Str → Option Value} {Led : σ → List (Addr × Obj)} {ps : σ → List (Str × Value)} {stored : List Str} {P : σ → Prop} {μ : σ → Nat} {c₀ : σ}
    (hE : PassesOwn (model prog w) A env E)
    (F : Fr h₀ L s.heap m₀) (N : News h₀ L s.heap (Led c₀)) (hk : ∀ p ∈ ps c₀, m₀ p.1 = some p.2) (hp : P c₀)
    (turn : ∀ (c : σ) (u : Str → Option Value) h tk, P c → Fr h₀ L h (kstB (fun z => if stored.contains z then u z else m₀ z) (ps c)) → News h₀ L h (Led c) →
      wpAny (model prog w) A (isTrue test env (eval test env)) (fun b s₂ =>
        if b = true then wpAny (model prog w) A (execs body env) (KswPost h₀ L s Led ps (fun _ => True) stored m₀ P μ Q c) E s₂ else Q .next s₂) E { s with heap := h, toks := tk }) :
    wpAny (model prog w) A (exec (.While test body [] pos) env) Q E s :=
  ksw_while Led ps (fun _ => True) stored P μ c₀ F N trivial hk hp (fun c u h tk _ hp F N => turn c u h tk hp F N) hE
theorem while_use0 {σ : Type} {test : PySem.Expr} {body : List Stmt} {pos : Pos} {m₀ : Str → Option Value} {news : List (Addr × Obj)} {ps : σ → List (Str × Value)} {stored : List Str} {P : σ → Prop} {μ : σ → Nat} {c₀ : σ}
    (hE : PassesOwn (model prog w) A env E)
    (F : Fr h₀ L s.heap m₀) (N : News h₀ L s.heap news) (hk : ∀ p ∈ ps c₀, m₀ p.1 = some p.2) (hp : P c₀)
    (turn : ∀ (c : σ) (u : Str → Option Value) h tk, P c → Fr h₀ L h (kstB (fun z => if stored.contains z then u z else m₀ z) (ps c)) → News h₀ L h news →
      wpAny (model prog w) A (isTrue test env (eval test env)) (fun b s₂ =>
        if b = true then wpAny (model prog w) A (execs body env) (KswPost h₀ L s (fun _ => news) ps (fun _ => True) stored m₀ P μ Q c) E s₂ else Q .next s₂) E { s with heap := h, toks := tk }) :
    wpAny (model prog w) A (exec (.While test body [] pos) env) Q E s :=
  while_use (Led := fun _ => news) hE F N hk hp turn
end

theorem ix9 {α : Type} {xs : List α} {k : Int} (hl : xs.length = 9) (hk : k < 9) : k < (xs.length : Int) := by rw [hl]; exact hk
theorem ix63 {k : Int} (hk : k < 9) : k < 2 ^ 63 := Int.lt_trans hk (by decide)

end Mine

open PySem PySem.W PyProof.Rows
set_option Elab.async false
set_option maxRecDepth 100000
set_option maxHeartbeats 40000000
set_option pp.deepTerms false
set_option pp.deepTerms.threshold 6
set_option pp.maxSteps 3000
namespace Mine
open Calls Spec Flt

theorem lay_ints {ns : List Int} (hb : ∀ n ∈ ns, n.natAbs < 2 ^ 20) (hl : ns.length ≤ 100) : PyData.layable0 (.list (ns.map .int)) = true := by
  have h1 : ∀ ns : List Int, PyData.canLayAll0 (ns.map .int) = true := fun ns => by
    induction ns with
    | nil => rfl
    | cons a r ih => show (PyData.canLay0 (.int a) && PyData.canLayAll0 (r.map .int)) = true; rw [ih]; rfl
  have h2 : ∀ ns : List Int, PyData.depthAll (ns.map .int) ≤ 1 := fun ns => by
    induction ns with
    | nil => exact Nat.zero_le _
    | cons a r ih => show max (PyData.depth (.int a)) (PyData.depthAll (r.map .int)) ≤ 1; exact Nat.max_le.mpr ⟨by simp [PyData.depth], ih⟩
  have h3 : ∀ ns : List Int, (∀ n ∈ ns, n.natAbs < 2 ^ 20) → PyData.weightAll (ns.map .int) ≤ 21 * ns.length := fun ns => by
    induction ns with
    | nil => intro _; exact Nat.zero_le _
    | cons a r ih =>
      intro h
      have e := ih fun n hn => h n (.tail _ hn)
      have w : PyData.weight (.int a) ≤ 20 := by
        have ha := h a (.head _)
        simp only [PyData.weight]
        split
        · exact Nat.zero_le _
        · rename_i hne
          have : a.natAbs ≠ 0 := by simpa using hne
          have := (Nat.log2_lt this (k := 20)).mpr ha
          omega
      show PyData.weight (.int a) + 1 + PyData.weightAll (r.map .int) ≤ 21 * (r.length + 1)
      omega
  have d1 : PyData.depth (.list (ns.map .int)) ≤ 64 := by
    have := h2 ns
    simp only [PyData.depth]; omega
  have w1 : PyData.weight (.list (ns.map .int)) ≤ 2 ^ 20 := by
    have := h3 ns hb
    simp only [PyData.weight]; omega
  unfold PyData.layable0
  rw [Bool.and_eq_true, Bool.and_eq_true]
  exact ⟨⟨by simp only [PyData.canLay0]; exact h1 ns, decide_eq_true d1⟩, decide_eq_true w1⟩

theorem int_at {vs : List Value} {ns : List Int} (h : IntsAre vs ns) : ∀ {i : Nat} {v : Value}, vs[i]? = some v → ∃ n t, v = .int n t ∧ ns[i]? = some n := by
  induction h with
  | nil => intro i v e; simp at e
  | cons n t _ ih =>
    intro i v e
    cases i with
    | zero => simp at e; exact ⟨n, t, e.symm, rfl⟩
    | succ i => simpa using ih (by simpa using e)

inductive Tr where
  | nil
  | node (l : Tr) (x : Int) (r : Tr)

def Enc (lows highs : List Int) : Tr → Int → Prop
  | .nil, i => i < 0
  | .node l x r, i => i = x ∧ 0 ≤ x ∧ x < 9 ∧ Enc lows highs l (lows.getD x.toNat 0) ∧ Enc lows highs r (highs.getD x.toNat 0)
def Tr.ino : Tr → List Int
  | .nil => []
  | .node l x r => l.ino ++ x :: r.ino
def Tr.tot (ws : List Int) : Tr → Int
  | .nil => 0
  | .node l x r => l.tot ws + ws.getD x.toNat 0 + r.tot ws
def Tr.prd (ws : List Int) : Tr → Int
  | .nil => 1
  | .node l x r => l.prd ws * r.prd ws * (l.tot ws + ws.getD x.toNat 0 + r.tot ws)
def Tr.ht : Tr → Nat
  | .nil => 1
  | .node l _ r => l.ht + r.ht + 1
def Tr.Ok (ws : List Int) : Tr → Prop
  | .nil => True
  | .node l x r => l.Ok ws ∧ r.Ok ws ∧ IntMulOk (l.prd ws) (r.prd ws) ∧ IntMulOk (l.prd ws * r.prd ws) (l.tot ws + ws.getD x.toNat 0 + r.tot ws) ∧ l.ino.length ≤ 9 ∧ r.ino.length ≤ 9


/-- the tree T hangs at i under par, in the three lists -/
def Sub (ups lows highs : List Int) : Int → Tr → Int → Prop
  | _, .nil, i => i = -1
  | par, .node l x r, i => i = x ∧ 0 ≤ x ∧ x < 9 ∧ ups.getD x.toNat 0 = par ∧ Sub ups lows highs x l (lows.getD x.toNat 0) ∧ Sub ups lows highs x r (highs.getD x.toNat 0)

abbrev S3 := List Int × List Int × List Int

structure Plant (s : S3) (T : Tr) : Prop where
  Lu : s.1.length = 9
  Ll : s.2.1.length = 9
  Lh : s.2.2.length = 9
  rt : ∃ i, Sub s.1 s.2.1 s.2.2 (-1) T i
  sorted : T.ino.Pairwise (· < ·)
  out : ∀ x : Int, 0 ≤ x → x < 9 → x ∉ T.ino → s.1.getD x.toNat 0 = -2 ∧ s.2.1.getD x.toNat 0 = -1 ∧ s.2.2.getD x.toNat 0 = -1

theorem any_mem {ns : List Int} {k : Int} (h : ns.any (· == k) = true) : k ∈ ns := by
  obtain ⟨x, hx, e⟩ := List.any_eq_true.mp h
  rw [← eq_of_beq e]; exact hx
theorem any_not {ns : List Int} {k : Int} (h : ns.any (· == k) = false) : k ∉ ns := fun hm => by
  have : ns.any (· == k) = true := List.any_eq_true.mpr ⟨k, hm, by simp⟩
  rw [h] at this; cases this

inductive Drop (lows highs : List Int) (x ra rs : Int) : Nat → Int → Int → Int → Prop
  | stop {i a sd : Int} : i < 0 → a = ra → sd = rs → Drop lows highs x ra rs 0 i a sd
  | low {n : Nat} {i a sd : Int} : 0 ≤ i → i < 9 → x < i → Drop lows highs x ra rs n (lows.getD i.toNat 0) i (-1) → Drop lows highs x ra rs (n + 1) i a sd
  | high {n : Nat} {i a sd : Int} : 0 ≤ i → i < 9 → i < x → Drop lows highs x ra rs n (highs.getD i.toNat 0) i 1 → Drop lows highs x ra rs (n + 1) i a sd

def plantF (s : S3) (x ra rs : Int) : S3 :=
  (s.1.set x.toNat ra, if rs < 0 then s.2.1.set ra.toNat x else s.2.1, if rs < 0 then s.2.2 else if 0 < rs then s.2.2.set ra.toNat x else s.2.2)

theorem Plant.in_of {s : S3} {T : Tr} (P : Plant s T) {x : Int} (x0 : 0 ≤ x) (x9 : x < 9) (h : s.1.getD x.toNat 0 ≠ -2) : x ∈ T.ino := by
  false_or_by_contra
  exact h (P.out x x0 x9 ‹_›).1

theorem gp_same {l : List Int} {x v : Int} (hl : l.length = 9) (x0 : 0 ≤ x) (x9 : x < 9) : (l.set x.toNat v).getD x.toNat 0 = v := by
  have : x.toNat < l.length := by omega
  simp [List.getD_eq_getElem?_getD, this]
theorem gp_ne {l : List Int} {x y v : Int} (x0 : 0 ≤ x) (y0 : 0 ≤ y) (h : x ≠ y) : (l.set x.toNat v).getD y.toNat 0 = l.getD y.toNat 0 := by
  have : x.toNat ≠ y.toNat := by omega
  simp [List.getD_eq_getElem?_getD, List.getElem?_set_ne this]

theorem Sub.up {u l h : List Int} : ∀ {T : Tr} {par i : Int}, Sub u l h par T i → ∀ y ∈ T.ino, 0 ≤ y ∧ y < 9 ∧ ((y = i ∧ u.getD y.toNat 0 = par) ∨ u.getD y.toNat 0 ∈ T.ino)
  | .nil, _, _, _, y, hy => by simp [Tr.ino] at hy
  | .node a x b, par, i, ⟨e, x0, x9, hu, ha, hb⟩, y, hy => by
    simp only [Tr.ino, List.mem_append, List.mem_cons] at hy ⊢
    rcases hy with hy | rfl | hy
    · obtain ⟨y0, y9, h1⟩ := Sub.up ha y hy
      refine ⟨y0, y9, .inr ?_⟩
      rcases h1 with ⟨_, h1⟩ | h1
      · exact .inr (.inl h1)
      · exact .inl h1
    · exact ⟨x0, x9, .inl ⟨e.symm, hu⟩⟩
    · obtain ⟨y0, y9, h1⟩ := Sub.up hb y hy
      refine ⟨y0, y9, .inr ?_⟩
      rcases h1 with ⟨_, h1⟩ | h1
      · exact .inr (.inl h1)
      · exact .inr (.inr h1)

def Agr (s s' : S3) (y : Int) : Prop := s'.1.getD y.toNat 0 = s.1.getD y.toNat 0 ∧ s'.2.1.getD y.toNat 0 = s.2.1.getD y.toNat 0 ∧ s'.2.2.getD y.toNat 0 = s.2.2.getD y.toNat 0

theorem Sub.frame {s s' : S3} : ∀ {T : Tr} {par i : Int}, (∀ y ∈ T.ino, Agr s s' y) → Sub s.1 s.2.1 s.2.2 par T i → Sub s'.1 s'.2.1 s'.2.2 par T i
  | .nil, _, _, _, h => h
  | .node a x b, par, i, ag, ⟨e, x0, x9, hu, ha, hb⟩ => by
    obtain ⟨g1, g2, g3⟩ := ag x (by simp [Tr.ino])
    refine ⟨e, x0, x9, g1.trans hu, ?_, ?_⟩
    · rw [g2]; exact Sub.frame (fun y hy => ag y (by simp [Tr.ino, hy])) ha
    · rw [g3]; exact Sub.frame (fun y hy => ag y (by simp [Tr.ino, hy])) hb

theorem getD_of {l : List Int} {n : Int} (h : n ∈ l) (hl : l.length = 9) : ∃ k : Int, 0 ≤ k ∧ k < 9 ∧ l.getD k.toNat 0 = n := by
  obtain ⟨k, hk, e⟩ := List.getElem_of_mem h
  exact ⟨(k : Int), by omega, by omega, by simp [hk, e]⟩

theorem Plant.ups_of {s : S3} {T : Tr} (P : Plant s T) {x : Int} (x0 : 0 ≤ x) (x9 : x < 9) : (x ∉ T.ino ∧ s.1.getD x.toNat 0 = -2) ∨ (x ∈ T.ino ∧ (s.1.getD x.toNat 0 = -1 ∨ (s.1.getD x.toNat 0 ∈ T.ino ∧ 0 ≤ s.1.getD x.toNat 0 ∧ s.1.getD x.toNat 0 < 9))) := by
  by_cases h : x ∈ T.ino
  · right
    refine ⟨h, ?_⟩
    obtain ⟨i, hS⟩ := P.rt
    rcases (hS.up x h).2.2 with ⟨_, e⟩ | e
    · exact .inl e
    · exact .inr ⟨e, (hS.up _ e).1, (hS.up _ e).2.1⟩
  · exact .inl ⟨h, (P.out x x0 x9 h).1⟩
theorem Plant.lay {s : S3} {T : Tr} (P : Plant s T) : PyData.layable0 (.list (s.1.map .int)) = true := by
  refine lay_ints (fun n hn => ?_) (by rw [P.Lu]; decide)
  obtain ⟨k, k0, k9, e⟩ := getD_of hn P.Lu
  rcases P.ups_of k0 k9 with ⟨_, h⟩ | ⟨_, h | ⟨_, h1, h2⟩⟩ <;> rw [e] at * <;> omega
theorem Plant.not_in {s : S3} {T : Tr} (P : Plant s T) {x : Int} (x0 : 0 ≤ x) (x9 : x < 9) (h : s.1.getD x.toNat 0 = -2) : x ∉ T.ino := by
  rcases P.ups_of x0 x9 with ⟨h', _⟩ | ⟨_, h' | ⟨_, h1, h2⟩⟩
  · exact h'
  · omega
  · omega

theorem Sub.rooted {u l h : List Int} {T : Tr} {par i : Int} (H : Sub u l h par T i) : (T = .nil ∧ i = -1) ∨ (i ∈ T.ino ∧ u.getD i.toNat 0 = par) := by
  cases T with
  | nil => exact .inl ⟨rfl, H⟩
  | node a x b =>
    obtain ⟨e, _, _, hu, _⟩ := H
    subst e
    exact .inr ⟨by simp [Tr.ino], hu⟩

theorem plant_first {s : S3} {T : Tr} (P : Plant s T) (hn : s.1.any (· == (-1 : Int)) = false) {x : Int} (x0 : 0 ≤ x) (x9 : x < 9) :
    T = .nil ∧ Plant (s.1.set x.toNat (-1), s.2.1, s.2.2) (.node .nil x .nil) := by
  have hT : T = .nil := by
    obtain ⟨i, hS⟩ := P.rt
    rcases hS.rooted with ⟨e, _⟩ | ⟨hi, e⟩
    · exact e
    · exfalso
      obtain ⟨i0, i9, _⟩ := hS.up i hi
      refine any_not hn ?_
      rw [← e]
      have : i.toNat < s.1.length := by rw [P.Lu]; omega
      rw [List.getD_eq_getElem?_getD, List.getElem?_eq_getElem this]
      exact List.getElem_mem this
  refine ⟨hT, ⟨by rw [List.length_set]; exact P.Lu, P.Ll, P.Lh, ⟨x, rfl, x0, x9, gp_same P.Lu x0 x9, ?_, ?_⟩, by simp [Tr.ino], ?_⟩⟩
  · exact (P.out x x0 x9 (by rw [hT]; simp [Tr.ino])).2.1
  · exact (P.out x x0 x9 (by rw [hT]; simp [Tr.ino])).2.2
  · intro y y0 y9 hy
    have hne : x ≠ y := by rintro rfl; simp [Tr.ino] at hy
    have := P.out y y0 y9 (by rw [hT]; simp [Tr.ino])
    exact ⟨(gp_ne x0 y0 hne).trans this.1, this.2⟩

def Tr.ins : Tr → Int → Tr
  | .nil, x => .node .nil x .nil
  | .node l y r, x => if x < y then .node (l.ins x) y r else .node l y (r.ins x)

theorem Tr.mem_ins {x y : Int} : ∀ {T : Tr}, y ∈ (T.ins x).ino ↔ y = x ∨ y ∈ T.ino
  | .nil => by simp [Tr.ins, Tr.ino]
  | .node l z r => by
    unfold Tr.ins
    split
    · simp only [Tr.ino, List.mem_append, List.mem_cons, Tr.mem_ins (T := l)]
      constructor
      · rintro ((h | h) | h | h) <;> simp [h]
      · rintro (h | h | h | h) <;> simp [h]
    · simp only [Tr.ino, List.mem_append, List.mem_cons, Tr.mem_ins (T := r)]
      constructor
      · rintro (h | h | h | h) <;> simp [h]
      · rintro (h | h | h | h) <;> simp [h]
theorem Tr.sorted_ins {x : Int} : ∀ {T : Tr}, T.ino.Pairwise (· < ·) → x ∉ T.ino → (T.ins x).ino.Pairwise (· < ·)
  | .nil, _, _ => by simp [Tr.ins, Tr.ino]
  | .node l z r, hs, hx => by
    simp only [Tr.ino, List.mem_append, List.mem_cons, not_or] at hx
    simp only [Tr.ino, List.pairwise_append, List.pairwise_cons, List.mem_cons] at hs
    obtain ⟨hl, ⟨hzr, hr⟩, hc⟩ := hs
    unfold Tr.ins
    split
    · rename_i hlt
      simp only [Tr.ino, List.pairwise_append, List.pairwise_cons, List.mem_cons, Tr.mem_ins]
      refine ⟨Tr.sorted_ins hl hx.1, ⟨hzr, hr⟩, ?_⟩
      rintro a (rfl | ha) b (rfl | hb)
      · exact hlt
      · exact Int.lt_trans hlt (hzr b hb)
      · exact hc a ha b (.inl rfl)
      · exact hc a ha b (.inr hb)
    · rename_i hlt
      have hlt' : z < x := by have := hx.2.1; omega
      simp only [Tr.ino, List.pairwise_append, List.pairwise_cons, List.mem_cons, Tr.mem_ins]
      refine ⟨hl, ⟨?_, Tr.sorted_ins hr hx.2.2⟩, ?_⟩
      · rintro a (rfl | ha)
        · exact hlt'
        · exact hzr a ha
      · rintro a ha b (rfl | rfl | hb)
        · exact hc a ha b (.inl rfl)
        · exact Int.lt_trans (hc a ha z (.inl rfl)) hlt'
        · exact hc a ha b (.inr hb)

theorem plantF_agr {s : S3} {x ra rs z : Int} (x0 : 0 ≤ x) (r0 : 0 ≤ ra) (z0 : 0 ≤ z) (h1 : x ≠ z) (h2 : ra ≠ z) : Agr s (plantF s x ra rs) z := by
  unfold plantF Agr
  refine ⟨gp_ne x0 z0 h1, ?_, ?_⟩ <;> dsimp only <;> (repeat' split) <;> first | rfl | exact gp_ne r0 z0 h2

theorem ins_sub {s : S3} (Lu : s.1.length = 9) (Ll : s.2.1.length = 9) (Lh : s.2.2.length = 9) {x : Int} (x0 : 0 ≤ x) (x9 : x < 9) (fl : s.2.1.getD x.toNat 0 = -1) (fh : s.2.2.getD x.toNat 0 = -1) :
    ∀ (T : Tr) (par i a sd : Int), Sub s.1 s.2.1 s.2.2 par T i → T.ino.Pairwise (· < ·) → x ∉ T.ino →
      ∃ n ra rs, Drop s.2.1 s.2.2 x ra rs n i a sd ∧ (T = .nil → ra = a ∧ rs = sd) ∧ (T ≠ .nil → ra ∈ T.ino ∧ rs ≠ 0 ∧ Sub (plantF s x ra rs).1 (plantF s x ra rs).2.1 (plantF s x ra rs).2.2 par (T.ins x) i)
  | .nil, par, i, a, sd, H, _, _ => ⟨0, a, sd, .stop (by have : i = -1 := H; omega) rfl rfl, fun _ => ⟨rfl, rfl⟩, fun h => absurd rfl h⟩
  | .node l y r, par, i, a, sd, ⟨e, y0, y9, hu, hl, hr⟩, hs, hx => by
    subst e
    simp only [Tr.ino, List.mem_append, List.mem_cons, not_or] at hx
    simp only [Tr.ino, List.pairwise_append, List.pairwise_cons, List.mem_cons] at hs
    obtain ⟨sl, ⟨hzr, sr⟩, hc⟩ := hs
    have hxy := hx.2.1
    by_cases hlt : x < i
    · obtain ⟨n, ra, rs, D, h1, h2⟩ := ins_sub Lu Ll Lh x0 x9 fl fh l i _ i (-1) hl sl hx.1
      refine ⟨n + 1, ra, rs, .low y0 y9 hlt D, fun h => (nomatch h), fun _ => ?_⟩
      have hins : (Tr.node l i r).ins x = .node (l.ins x) i r := by rw [Tr.ins, if_pos hlt]
      rw [hins]
      have ri : ra = i ∨ ra ∈ l.ino := by
        by_cases hn : l = .nil
        · exact .inl (h1 hn).1
        · exact .inr (h2 hn).1
      have r0 : 0 ≤ ra := ri.elim (fun h => h ▸ y0) fun h => (hl.up ra h).1
      have r9 : ra < 9 := ri.elim (fun h => h ▸ y9) fun h => (hl.up ra h).2.1
      have frR : Sub (plantF s x ra rs).1 (plantF s x ra rs).2.1 (plantF s x ra rs).2.2 i r ((plantF s x ra rs).2.2.getD i.toNat 0) := by
        have e2 : (plantF s x ra rs).2.2.getD i.toNat 0 = s.2.2.getD i.toNat 0 := by
          by_cases hn : l = .nil
          · obtain ⟨-, rfl⟩ := h1 hn; rfl
          · exact (plantF_agr x0 r0 y0 hxy (by have := hc ra (h2 hn).1 i (.inl rfl); omega)).2.2
        rw [e2]
        refine Sub.frame (fun z hz => plantF_agr x0 r0 (hr.up z hz).1 (fun e => hx.2.2 (e ▸ hz)) ?_) hr
        have := hzr z hz
        rcases ri with rfl | ri
        · omega
        · have := hc ra ri i (.inl rfl); omega
      by_cases hn : l = .nil
      · obtain ⟨rfl, rfl⟩ := h1 hn
        subst hn
        refine ⟨by simp [Tr.ino], by decide, rfl, y0, y9, (gp_ne x0 y0 hxy).trans hu, ?_, frR⟩
        have e1 : (plantF s x ra (-1)).2.1.getD ra.toNat 0 = x := gp_same Ll y0 y9
        rw [e1]
        refine ⟨rfl, x0, x9, gp_same Lu x0 x9, ?_, ?_⟩
        · show (plantF s x ra (-1)).2.1.getD x.toNat 0 = -1
          rw [show (plantF s x ra (-1)).2.1 = s.2.1.set ra.toNat x from rfl, gp_ne y0 x0 (Ne.symm hxy)]; exact fl
        · exact fh
      · obtain ⟨m, hrs, hS⟩ := h2 hn
        have : ra ≠ i := by have := hc ra m i (.inl rfl); omega
        refine ⟨by simp [Tr.ino, m], hrs, rfl, y0, y9, (gp_ne x0 y0 hxy).trans hu, ?_, frR⟩
        rw [(plantF_agr x0 r0 y0 hxy this).2.1]
        exact hS
    · have hlt' : i < x := by omega
      obtain ⟨n, ra, rs, D, h1, h2⟩ := ins_sub Lu Ll Lh x0 x9 fl fh r i _ i 1 hr sr hx.2.2
      refine ⟨n + 1, ra, rs, .high y0 y9 hlt' D, fun h => (nomatch h), fun _ => ?_⟩
      have hins : (Tr.node l i r).ins x = .node l i (r.ins x) := by rw [Tr.ins, if_neg hlt]
      rw [hins]
      have ri : ra = i ∨ ra ∈ r.ino := by
        by_cases hn : r = .nil
        · exact .inl (h1 hn).1
        · exact .inr (h2 hn).1
      have r0 : 0 ≤ ra := ri.elim (fun h => h ▸ y0) fun h => (hr.up ra h).1
      have r9 : ra < 9 := ri.elim (fun h => h ▸ y9) fun h => (hr.up ra h).2.1
      have frL : Sub (plantF s x ra rs).1 (plantF s x ra rs).2.1 (plantF s x ra rs).2.2 i l ((plantF s x ra rs).2.1.getD i.toNat 0) := by
        have e2 : (plantF s x ra rs).2.1.getD i.toNat 0 = s.2.1.getD i.toNat 0 := by
          by_cases hn : r = .nil
          · obtain ⟨-, rfl⟩ := h1 hn; rfl
          · exact (plantF_agr x0 r0 y0 hxy (by have := hzr ra (h2 hn).1; omega)).2.1
        rw [e2]
        refine Sub.frame (fun z hz => plantF_agr x0 r0 (hl.up z hz).1 (fun e => hx.1 (e ▸ hz)) ?_) hl
        have := hc z hz i (.inl rfl)
        rcases ri with rfl | ri
        · omega
        · have := hzr ra ri; omega
      by_cases hn : r = .nil
      · obtain ⟨rfl, rfl⟩ := h1 hn
        subst hn
        refine ⟨by simp [Tr.ino], by decide, rfl, y0, y9, (gp_ne x0 y0 hxy).trans hu, frL, ?_⟩
        have e1 : (plantF s x ra 1).2.2.getD ra.toNat 0 = x := gp_same Lh y0 y9
        rw [e1]
        refine ⟨rfl, x0, x9, gp_same Lu x0 x9, ?_, ?_⟩
        · exact fl
        · show (plantF s x ra 1).2.2.getD x.toNat 0 = -1
          rw [show (plantF s x ra 1).2.2 = s.2.2.set ra.toNat x from rfl, gp_ne y0 x0 (Ne.symm hxy)]; exact fh
      · obtain ⟨m, hrs, hS⟩ := h2 hn
        have : ra ≠ i := by have := hzr ra m; omega
        refine ⟨by simp [Tr.ino, m], hrs, rfl, y0, y9, (gp_ne x0 y0 hxy).trans hu, frL, ?_⟩
        rw [(plantF_agr x0 r0 y0 hxy this).2.2]
        exact hS

theorem Plant.root_is {s : S3} {T : Tr} (P : Plant s T) {i : Int} (hS : Sub s.1 s.2.1 s.2.2 (-1) T i) (hn : (-1 : Int) ∈ s.1) : ((s.1.idxOf (-1 : Int) : Nat) : Int) = i := by
  have k9 : s.1.idxOf (-1 : Int) < s.1.length := List.idxOf_lt_length_of_mem hn
  have e : s.1.getD (((s.1.idxOf (-1 : Int) : Nat) : Int)).toNat 0 = -1 := by
    simp [k9]
  have k9' := k9
  rw [P.Lu] at k9'
  have hin := P.in_of (x := ((s.1.idxOf (-1 : Int) : Nat) : Int)) (by omega) (by omega) (by rw [e]; decide)
  rcases (hS.up _ hin).2.2 with ⟨h, _⟩ | h
  · exact h
  · rw [e] at h; have := (hS.up _ h).1; omega

theorem Plant.has_root {s : S3} {T : Tr} (P : Plant s T) (hT : T ≠ .nil) : (-1 : Int) ∈ s.1 := by
  obtain ⟨i, hS⟩ := P.rt
  rcases hS.rooted with ⟨h, _⟩ | ⟨hi, h⟩
  · exact absurd h hT
  · have h9 := hS.up i hi
    have : i.toNat < s.1.length := by rw [P.Lu]; omega
    rw [← h, List.getD_eq_getElem?_getD, List.getElem?_eq_getElem this]
    exact List.getElem_mem this

theorem plant_more {s : S3} {T : Tr} (P : Plant s T) (hn : s.1.any (· == (-1 : Int)) = true) {x : Int} (x0 : 0 ≤ x) (x9 : x < 9) (hx : x ∉ T.ino) :
    ∃ n ra rs T', Drop s.2.1 s.2.2 x ra rs n (s.1.idxOf (-1 : Int) : Nat) (-1) 0 ∧ rs ≠ 0 ∧ 0 ≤ ra ∧ ra < 9 ∧ Plant (plantF s x ra rs) T' ∧ (∀ y, y ∈ T'.ino ↔ y = x ∨ y ∈ T.ino) := by
  obtain ⟨i, hS⟩ := P.rt
  have hm := any_mem hn
  have hT : T ≠ .nil := by
    rintro rfl
    obtain ⟨k, k0, k9, e⟩ := getD_of hm P.Lu
    have := (P.out k k0 k9 (by simp [Tr.ino])).1
    omega
  obtain ⟨n, ra, rs, D, -, h2⟩ := ins_sub P.Lu P.Ll P.Lh x0 x9 (P.out x x0 x9 hx).2.1 (P.out x x0 x9 hx).2.2 T (-1) i (-1) 0 hS P.sorted hx
  obtain ⟨m, hrs, hS'⟩ := h2 hT
  obtain ⟨r0, r9, -⟩ := hS.up ra m
  refine ⟨n, ra, rs, T.ins x, by rw [P.root_is hS hm]; exact D, hrs, r0, r9, ⟨?_, ?_, ?_, ⟨i, hS'⟩, Tr.sorted_ins P.sorted hx, ?_⟩, fun y => Tr.mem_ins⟩
  · unfold plantF; simp [P.Lu]
  · unfold plantF; dsimp only; split <;> simp [P.Ll]
  · unfold plantF; dsimp only; (repeat' split) <;> simp [P.Lh]
  · intro y y0 y9 hy
    rw [Tr.mem_ins, not_or] at hy
    have ag := plantF_agr (s := s) (rs := rs) x0 r0 y0 (Ne.symm hy.1) (fun e => hy.2 (e ▸ m))
    have := P.out y y0 y9 hy.2
    exact ⟨ag.1.trans this.1, ag.2.1.trans this.2.1, ag.2.2.trans this.2.2⟩

def ltF (x y : UInt64) : Bool := Float64.cmp x y == some .lt
def max3F (x y z : UInt64) : UInt64 := if ltF x y then (if ltF y z then z else y) else (if ltF x z then z else x)
def min3F (x y z : UInt64) : UInt64 := if ltF y x then (if ltF z y then z else y) else (if ltF z x then z else x)

section
variable {prog : Program} {w : World} {A : Around} {E : Value → Shared → Prop} {s : Shared} {Q : Value → Shared → Prop} {x y z : UInt64} {t u v : Tok}
theorem tuple_up {T : List Value} {h : Heap} {o : Obj} (h1 : h = (s.heap.push { cls := .type "tuple", data := .seq T.toArray }).push o) {d : Addr} {o' : Obj} (e : s.heap.get? d = some o') : h.get? d = some o' := by
  rw [h1]; exact Heap.get?_push_of_some _ (Heap.get?_push_of_some _ e)
theorem best3 {bt : Nat → Nat → Bool} {a b c r : Value} (h : (#[a, b, c] : Array Value)[argBest bt 2]? = some r) : r = if bt 1 0 then (if bt 2 1 then c else b) else (if bt 2 0 then c else a) := by
  cases h1 : bt 1 0 <;> cases h2 : bt 2 1 <;> cases h3 : bt 2 0 <;> simp [argBest, h1, h2, h3] at h ⊢ <;> exact h.symm
theorem max3_ff (hh : A.handled = none)
    (h : ∀ h' tk k, (∀ d o, s.heap.get? d = some o → h'.get? d = some o) → Q (.float (max3F x y z) k) { s with heap := h', toks := tk }) :
    wpAny (model prog w) A (call (.builtin "max") [.float x t, .float y u, .float z v]) Q E s := by
  have sz : (s.heap.push { cls := .type "tuple", data := .seq #[.float x t, .float y u, .float z v] }).objs.size = s.heap.objs.size + 1 := Heap.size_push ..
  have hT : (s.heap.push { cls := .type "tuple", data := .seq #[.float x t, .float y u, .float z v] }).IsTuple s.heap.objs.size #[.float x t, .float y u, .float z v] := ⟨_, Heap.get?_push_size _ rfl, rfl, 0, rfl⟩
  refine call_max_three (wpAny_pyIter_tuple hT ?_)
  have W := Walks.tuple (prog := prog) (w := w) (A := A.in1) hh (s.heap.push { cls := .type "tuple", data := .seq #[.float x t, .float y u, .float z v] }).objs.size s.heap.objs.size (by rw [sz]; exact Nat.ne_of_lt (Nat.lt_succ_self _)) #[.float x t, .float y u, .float z v]
  refine ⟨_, _, _, _, _, _, _, rfl, W, ⟨⟨_, Heap.get?_push_size _ rfl, rfl, rfl⟩, hT.push _⟩, ?_, by simp, cmpOf_gt #[.float x t, .float y u, .float z v] (by intro q hq; simp at hq; rcases hq with rfl | rfl | rfl <;> exact .float _ _), ?_⟩
  · intro d hd
    show d < ((s.heap.push _).push _).objs.size
    rw [Heap.size_push, sz]
    simp only [List.mem_cons, List.not_mem_nil, or_false, sz] at hd
    rcases hd with rfl | rfl
    · exact Nat.lt_succ_self _
    · exact Nat.lt_succ_of_lt (Nat.lt_succ_self _)
  · intro r h' tk hP hk
    have old : ∀ d o, s.heap.get? d = some o → h'.get? d = some o := fun d o e => by
      refine hk d o (fun hm => ?_) (Heap.get?_push_of_some _ (Heap.get?_push_of_some _ e))
      have := Heap.lt_size e
      rw [List.mem_singleton.mp hm, sz] at this
      exact Nat.lt_irrefl _ (Nat.lt_of_succ_lt this)
    have e := best3 (by simpa using hP)
    have e' : ∃ k, r = .float (max3F x y z) k := by
      rw [e]
      show ∃ k, (if ltF x y then (if ltF y z then Value.float z v else .float y u) else (if ltF x z then Value.float z v else .float x t)) = .float (max3F x y z) k
      unfold max3F
      split <;> split <;> exact ⟨_, rfl⟩
    obtain ⟨k, rfl⟩ := e'
    exact h h' tk k old
theorem min3_ff (hh : A.handled = none)
    (h : ∀ h' tk k, (∀ d o, s.heap.get? d = some o → h'.get? d = some o) → Q (.float (min3F x y z) k) { s with heap := h', toks := tk }) :
    wpAny (model prog w) A (call (.builtin "min") [.float x t, .float y u, .float z v]) Q E s := by
  have sz : (s.heap.push { cls := .type "tuple", data := .seq #[.float x t, .float y u, .float z v] }).objs.size = s.heap.objs.size + 1 := Heap.size_push ..
  have hT : (s.heap.push { cls := .type "tuple", data := .seq #[.float x t, .float y u, .float z v] }).IsTuple s.heap.objs.size #[.float x t, .float y u, .float z v] := ⟨_, Heap.get?_push_size _ rfl, rfl, 0, rfl⟩
  refine call_min_three (wpAny_pyIter_tuple hT ?_)
  have W := Walks.tuple (prog := prog) (w := w) (A := A.in1) hh (s.heap.push { cls := .type "tuple", data := .seq #[.float x t, .float y u, .float z v] }).objs.size s.heap.objs.size (by rw [sz]; exact Nat.ne_of_lt (Nat.lt_succ_self _)) #[.float x t, .float y u, .float z v]
  refine ⟨_, _, _, _, _, _, _, rfl, W, ⟨⟨_, Heap.get?_push_size _ rfl, rfl, rfl⟩, hT.push _⟩, ?_, by simp, cmpOf_lt #[.float x t, .float y u, .float z v] (by intro q hq; simp at hq; rcases hq with rfl | rfl | rfl <;> exact .float _ _), ?_⟩
  · intro d hd
    show d < ((s.heap.push _).push _).objs.size
    rw [Heap.size_push, sz]
    simp only [List.mem_cons, List.not_mem_nil, or_false, sz] at hd
    rcases hd with rfl | rfl
    · exact Nat.lt_succ_self _
    · exact Nat.lt_succ_of_lt (Nat.lt_succ_self _)
  · intro r h' tk hP hk
    have old : ∀ d o, s.heap.get? d = some o → h'.get? d = some o := fun d o e => by
      refine hk d o (fun hm => ?_) (Heap.get?_push_of_some _ (Heap.get?_push_of_some _ e))
      have := Heap.lt_size e
      rw [List.mem_singleton.mp hm, sz] at this
      exact Nat.lt_irrefl _ (Nat.lt_of_succ_lt this)
    have e := best3 (by simpa using hP)
    have e' : ∃ k, r = .float (min3F x y z) k := by
      rw [e]
      show ∃ k, (if ltF y x then (if ltF z y then Value.float z v else .float y u) else (if ltF z x then Value.float z v else .float x t)) = .float (min3F x y z) k
      unfold min3F
      split <;> split <;> exact ⟨_, rfl⟩
    obtain ⟨k, rfl⟩ := e'
    exact h h' tk k old
theorem max3_N {h₀ : Heap} {L : Addr} {m : Str → Option Value} {news : List (Addr × Obj)} (hh : A.handled = none) (F : Fr h₀ L s.heap m) (N : News h₀ L s.heap news)
    (h : ∀ h' tk k, Fr h₀ L h' m → News h₀ L h' news → Q (.float (max3F x y z) k) { s with heap := h', toks := tk }) :
    wpAny (model prog w) A (call (.builtin "max") [.float x t, .float y u, .float z v]) Q E s :=
  max3_ff hh fun h' tk k kp => h h' tk k (F.grownK kp) (N.grown kp)
theorem min3_N {h₀ : Heap} {L : Addr} {m : Str → Option Value} {news : List (Addr × Obj)} (hh : A.handled = none) (F : Fr h₀ L s.heap m) (N : News h₀ L s.heap news)
    (h : ∀ h' tk k, Fr h₀ L h' m → News h₀ L h' news → Q (.float (min3F x y z) k) { s with heap := h', toks := tk }) :
    wpAny (model prog w) A (call (.builtin "min") [.float x t, .float y u, .float z v]) Q E s :=
  min3_ff hh fun h' tk k kp => h h' tk k (F.grownK kp) (N.grown kp)
end

section
variable {prog : Program} {w : World} {A : Around} {E : Value → Shared → Prop} {s : Shared} {env : Env} {h₀ : Heap} {x xi xc : Str} {body : List Stmt} {Q : Flow → Shared → Prop}

/-- a loop over enumerate of a list of the call's own, by an invariant over the turn's number, the frame's map and the ledger -/
theorem enum_loop {l : Addr} {vs : List Value} {m₀ : Str → Option Value} {news : List (Addr × Obj)} (J : Nat → (Str → Option Value) → List (Addr × Obj) → Prop)
    (hh : A.handled = none) (hl : s.heap.IsList l vs.toArray) (hlL : l ≠ env.locals) (hln : ∀ p ∈ news, p.1 ≠ l) (F : Fr h₀ env.locals s.heap m₀) (N : News h₀ env.locals s.heap news) (hj : J 0 m₀ news)
    (turn : ∀ (i : Nat) v t m₁ news₁ h tk own, vs[i]? = some v → news₁.map (·.1) = news.map (·.1) → OwnOff own (news.map (·.1)) → J i m₁ news₁ →
      Fr h₀ env.locals h (fun y => if y = xc then some v else if y = xi then some (.int i t) else m₁ y) → News h₀ env.locals h (news₁ ++ own) →
      wpAny (model prog w) A (execs body env) (InvPostN h₀ env.locals (J (i + 1)) own (news.map (·.1)) { s with heap := h, toks := tk } Q) E { s with heap := h, toks := tk })
    (done : ∀ m₁ news₁ h tk, J vs.length m₁ news₁ → Fr h₀ env.locals h m₁ → News h₀ env.locals h news₁ → Q .next { s with heap := h, toks := tk }) :
    wpAny (model prog w) A (call (.type "enumerate") [.ref l]) (fun xv s₁ => wpAny (model prog w) A (pyIter xv) (fun it s₂ => PairAt3 prog w A h₀ env xi xc body Q E it s₂) E s₁) E s := by
  have hlt : l < s.heap.objs.size := by obtain ⟨_, ho, _⟩ := id hl; exact Heap.lt_size ho
  have hLs : env.locals < s.heap.objs.size := F.ns.lt
  have hb : h₀.objs.size ≤ s.heap.objs.size := Nat.le_trans F.above (Nat.le_of_lt hLs)
  have gone : ∀ j, h₀.get? (s.heap.objs.size + j) = none := fun j => Heap.get?_none_of_le (Nat.le_trans hb (Nat.le_add_right _ _))
  refine call_enumerate_list hl fun h' he hit hsz hk => ?_
  have W := WalksT.enumerate (prog := prog) (w := w) (A := A) hh (s.heap.objs.size + 1) s.heap.objs.size l (Nat.succ_ne_self _) (Nat.ne_of_lt (Nat.lt_succ_of_lt hlt)) (Nat.ne_of_lt hlt) vs.toArray
  have st0 : (∃ old, IsEnum h' (s.heap.objs.size + 1) s.heap.objs.size 0 old) ∧ h'.IsListIter s.heap.objs.size l 0 ∧ h'.IsList l vs.toArray := ⟨⟨_, he⟩, hit, hl.at fun o e => hk l o e⟩
  have off : ∀ q : Addr × Obj, q ∈ news → q.1 < s.heap.objs.size := fun q hq => Heap.lt_size (N q hq).1
  refine W.self 0 _ _ _ st0 ⟨s.heap.objs.size + 1, _, _, vs.toArray.size, _, _, _, (fun i v0 v1 => ∃ t, v0 = .int i t ∧ vs[i]? = some v1), m₀, news, J, rfl, W, ?_, ?_, ?_, ?_, st0,
    ⟨F.ns.keeps hk, fun b o e => hk b o (F.keep b o e), F.above⟩, (fun p hp => ⟨hk _ _ (N p hp).1, (N p hp).2⟩), hj, ?_, ?_⟩
  · rintro i vals ⟨t, y, hy, rfl⟩
    exact ⟨_, _, rfl, t, rfl, by simpa using hy⟩
  · intro hm
    simp only [List.mem_cons, List.not_mem_nil, or_false] at hm
    rcases hm with e | e | e
    · exact Nat.ne_of_lt (Nat.lt_succ_of_lt hLs) e
    · exact Nat.ne_of_lt hLs e
    · exact hlL e.symm
  · intro b hbm
    simp only [List.mem_cons, List.not_mem_nil, or_false] at hbm
    rcases hbm with rfl | rfl
    · exact gone 1
    · exact gone 0
  · intro p hp hm
    simp only [List.mem_cons, List.not_mem_nil, or_false] at hm
    have := off p hp
    rcases hm with e | e
    · exact Nat.ne_of_lt (Nat.lt_succ_of_lt this) e
    · exact Nat.ne_of_lt this e
  · rintro i v0 v1 m₁ news₁ s₁ own ⟨hH, tK, rfl⟩ hi ⟨t, rfl, hv⟩ hJ hadr hown F₁ N₁
    have sep : OwnOff own (news.map (·.1)) := by
      intro p hp b hbm e
      obtain ⟨q, hq, rfl⟩ := List.mem_map.mp hbm
      have hm := hown p hp
      simp only [List.mem_cons, List.not_mem_nil, or_false] at hm
      have := off q hq
      rcases hm with z | z | z
      · exact Nat.ne_of_lt (Nat.lt_succ_of_lt this) (e.symm.trans z)
      · exact Nat.ne_of_lt this (e.symm.trans z)
      · exact hln q hq (e.symm.trans z)
    refine wpAny_mono (turn i v1 t m₁ news₁ hH tK own hv hadr sep hJ F₁ fun p hp => N₁ p ((List.mem_append.mp hp).elim (fun z => List.mem_append_right _ z) fun z => List.mem_append_left _ z)) (fun f s₃ q => ?_) fun _ _ e => e
    have fin : InvEndN h₀ env.locals (J (i + 1)) own (news.map (·.1)) { s with heap := hH, toks := tK } s₃ → LoopStep2 h₀ env.locals own news₁ (J (i + 1)) { s with heap := hH, toks := tK } .next s₃ := by
      rintro ⟨h2, tk2, m2, news2, nx, rfl, F2, N2, hn, ho, ha, hm⟩
      exact ⟨rfl, h2, tk2, m2, nx, rfl, F2, fun p hp => N2 p ((List.mem_append.mp hp).elim (ho p) (hn p)), ha.trans hadr.symm, hm⟩
    cases f with
    | ret v => exact q
    | brk => exact q
    | next => exact fin q
    | cont => exact fin q
  · intro h2 tk2 m2 news2 F2 N2 _ hJ2
    have e : vs.toArray.size = vs.length := by simp
    rw [e] at hJ2
    exact done m2 news2 h2 tk2 hJ2 F2 N2

end

def TurnEnd {σ : Type} (h₀ : Heap) (L : Addr) (s₁ : Shared) (Led : σ → List (Addr × Obj)) (ps : σ → List (Str × Value)) (stored : List Str) (m₀ : Str → Option Value) (P : σ → Prop) (own : List (Addr × Obj)) (s₂ : Shared) : Prop :=
  ∃ (c : σ) (h' : Heap) (tk : Nat) (m' : Str → Option Value) (news' : List (Addr × Obj)), s₂ = { s₁ with heap := h', toks := tk } ∧ Fr h₀ L h' m' ∧ News h₀ L h' news' ∧ (∀ p ∈ Led c, p ∈ news') ∧ (∀ p ∈ own, p ∈ news') ∧
    OwnOff own ((Led c).map (·.1)) ∧ (∀ p ∈ ps c, m' p.1 = some p.2) ∧ (∀ z, (∀ p ∈ ps c, z ≠ p.1) → stored.contains z = false → m' z = m₀ z) ∧ P c
def TurnPost {σ : Type} (h₀ : Heap) (L : Addr) (s₁ : Shared) (Led : σ → List (Addr × Obj)) (ps : σ → List (Str × Value)) (stored : List Str) (m₀ : Str → Option Value) (P : σ → Prop) (own : List (Addr × Obj)) (Q : Flow → Shared → Prop) (f : Flow) (s₂ : Shared) : Prop :=
  match f with
  | .ret v => Q (.ret v) s₂
  | .brk => Q .next s₂
  | _ => TurnEnd h₀ L s₁ Led ps stored m₀ P own s₂
theorem turn_end {σ : Type} {h₀ : Heap} {L : Addr} {s₁ : Shared} {Led : σ → List (Addr × Obj)} {ps : σ → List (Str × Value)} {stored : List Str} {m₀ m' : Str → Option Value} {P : σ → Prop} {own news' : List (Addr × Obj)} {h' : Heap} {tk : Nat} (c : σ)
    (F : Fr h₀ L h' m') (N : News h₀ L h' news') (hn : ∀ p ∈ Led c, p ∈ news') (ho : ∀ p ∈ own, p ∈ news') (hoff : OwnOff own ((Led c).map (·.1))) (hk : ∀ p ∈ ps c, m' p.1 = some p.2)
    (hr : ∀ z, (∀ p ∈ ps c, z ≠ p.1) → stored.contains z = false → m' z = m₀ z) (hp : P c) : TurnEnd h₀ L s₁ Led ps stored m₀ P own { s₁ with heap := h', toks := tk } :=
  ⟨c, h', tk, m', news', rfl, F, N, hn, ho, hoff, hk, hr, hp⟩

section
variable {prog : Program} {w : World} {A : Around} {E : Value → Shared → Prop} {s : Shared} {env : Env} {h₀ : Heap} {x xi xc : Str} {body : List Stmt} {Q : Flow → Shared → Prop}
/-- a loop over enumerate of a list of the call's own, by a state -/
theorem enum_loopS {σ : Type} {Led : σ → List (Addr × Obj)} {ps : σ → List (Str × Value)} {stored : List Str} {P : Nat → σ → Prop} {c₀ : σ} {l : Addr} {vs : List Value} {m₀ : Str → Option Value} (adr : List Addr)
    (hadr : ∀ c, (Led c).map (·.1) = adr)
    (hh : A.handled = none) (hl : s.heap.IsList l vs.toArray) (hlL : l ≠ env.locals) (hln : ∀ b ∈ adr, b ≠ l) (F : Fr h₀ env.locals s.heap m₀) (N : News h₀ env.locals s.heap (Led c₀)) (hk : ∀ p ∈ ps c₀, m₀ p.1 = some p.2) (hp : P 0 c₀)
    (turn : ∀ (i : Nat) v t c (u : Str → Option Value) h tk own, vs[i]? = some v → OwnOff own adr → P i c →
      Fr h₀ env.locals h (fun y => if y = xc then some v else if y = xi then some (.int i t) else kstB (fun z => if stored.contains z then u z else m₀ z) (ps c) y) → News h₀ env.locals h (Led c ++ own) →
      wpAny (model prog w) A (execs body env) (TurnPost h₀ env.locals { s with heap := h, toks := tk } Led ps stored m₀ (P (i + 1)) own Q) E { s with heap := h, toks := tk })
    (done : ∀ c (u : Str → Option Value) h tk, P vs.length c → Fr h₀ env.locals h (kstB (fun z => if stored.contains z then u z else m₀ z) (ps c)) → News h₀ env.locals h (Led c) → Q .next { s with heap := h, toks := tk }) :
    wpAny (model prog w) A (call (.type "enumerate") [.ref l]) (fun xv s₁ => wpAny (model prog w) A (pyIter xv) (fun it s₂ => PairAt3 prog w A h₀ env xi xc body Q E it s₂) E s₁) E s := by
  have same : ∀ c m₁, (∀ p ∈ ps c, m₁ p.1 = some p.2) → (∀ z, (∀ p ∈ ps c, z ≠ p.1) → stored.contains z = false → m₁ z = m₀ z) → m₁ = kstB (fun z => if stored.contains z then m₁ z else m₀ z) (ps c) := fun c m₁ h1 h2 => by
    funext y
    refine (kstB_eq h1 fun hn => ?_).symm
    show (if stored.contains y = true then m₁ y else m₀ y) = m₁ y
    cases h3 : stored.contains y with
    | true => simp
    | false => simp only [Bool.false_eq_true, if_false]; exact (h2 y hn h3).symm
  refine enum_loop (fun i m nx => ∃ c, nx = Led c ∧ (∀ p ∈ ps c, m p.1 = some p.2) ∧ (∀ z, (∀ p ∈ ps c, z ≠ p.1) → stored.contains z = false → m z = m₀ z) ∧ P i c) hh hl hlL (fun p hp' => hln p.1 (by rw [← hadr c₀]; exact List.mem_map_of_mem hp')) F N ⟨c₀, rfl, hk, fun _ _ _ => rfl, hp⟩ ?_ ?_
  · rintro i v t m₁ nx h tk own hv ha hoff ⟨c, rfl, h1, h2, hp'⟩ F₁ N₁
    rw [hadr] at hoff
    rw [same c m₁ h1 h2] at F₁
    refine wpAny_mono (turn i v t c m₁ h tk own hv hoff hp' F₁ N₁) (fun f s₃ q => ?_) fun _ _ e => e
    have fin : TurnEnd h₀ env.locals { s with heap := h, toks := tk } Led ps stored m₀ (P (i + 1)) own s₃ → InvEndN h₀ env.locals (fun m nx => ∃ c, nx = Led c ∧ (∀ p ∈ ps c, m p.1 = some p.2) ∧ (∀ z, (∀ p ∈ ps c, z ≠ p.1) → stored.contains z = false → m z = m₀ z) ∧ P (i + 1) c) own ((Led c₀).map (·.1)) { s with heap := h, toks := tk } s₃ := by
      rintro ⟨c', h', tk', m', news', rfl, F', N', hn, ho, _, hk', hr', hp''⟩
      exact ⟨h', tk', m', news', Led c', rfl, F', N', hn, ho, by rw [hadr, hadr], c', rfl, hk', hr', hp''⟩
    cases f with
    | ret v => exact q
    | brk => exact q
    | next => exact fin q
    | cont => exact fin q
  · rintro m₁ nx h tk ⟨c, rfl, h1, h2, hp'⟩ F₁ N₁
    rw [same c m₁ h1 h2] at F₁
    exact done c m₁ h tk hp' F₁ N₁

/-- a loop over a list of the call's own, by a state; the ledger may move -/
theorem list_loopS {σ : Type} {Led : σ → List (Addr × Obj)} {ps : σ → List (Str × Value)} {stored : List Str} {P : Nat → σ → Prop} {c₀ : σ} {l : Addr} {vs : List Value} {m₀ : Str → Option Value}
    (hh : A.handled = none) (hl : s.heap.IsList l vs.toArray) (hlL : l ≠ env.locals) (hl0 : h₀.get? l = none) (hln : ∀ p ∈ Led c₀, p.1 ≠ l) (F : Fr h₀ env.locals s.heap m₀) (N : News h₀ env.locals s.heap (Led c₀)) (hk : ∀ p ∈ ps c₀, m₀ p.1 = some p.2) (hp : P 0 c₀)
    (turn : ∀ (i : Nat) v c (u : Str → Option Value) h tk own, vs[i]? = some v → OwnOff own ((Led c).map (·.1)) → P i c →
      Fr h₀ env.locals h (fun y => if y = x then some v else kstB (fun z => if stored.contains z then u z else m₀ z) (ps c) y) → News h₀ env.locals h (Led c ++ own) →
      wpAny (model prog w) A (execs body env) (TurnPost h₀ env.locals { s with heap := h, toks := tk } Led ps stored m₀ (P (i + 1)) own Q) E { s with heap := h, toks := tk })
    (done : ∀ c (u : Str → Option Value) h tk, P vs.length c → Fr h₀ env.locals h (kstB (fun z => if stored.contains z then u z else m₀ z) (ps c)) → News h₀ env.locals h (Led c) → Q .next { s with heap := h, toks := tk }) :
    wpAny (model prog w) A (pyIter (.ref l)) (fun it s₂ => LoopAtV prog w A h₀ env x body Q E it s₂) E s := by
  have same : ∀ c m₁, (∀ p ∈ ps c, m₁ p.1 = some p.2) → (∀ z, (∀ p ∈ ps c, z ≠ p.1) → stored.contains z = false → m₁ z = m₀ z) → m₁ = kstB (fun z => if stored.contains z then m₁ z else m₀ z) (ps c) := fun c m₁ h1 h2 => by
    funext y
    refine (kstB_eq h1 fun hn => ?_).symm
    show (if stored.contains y = true then m₁ y else m₀ y) = m₁ y
    cases h3 : stored.contains y with
    | true => simp
    | false => simp only [Bool.false_eq_true, if_false]; exact (h2 y hn h3).symm
  have hlt : l < s.heap.objs.size := by obtain ⟨_, ho, _⟩ := id hl; exact Heap.lt_size ho
  have hLs : env.locals < s.heap.objs.size := F.ns.lt
  have off : ∀ q : Addr × Obj, q ∈ Led c₀ → q.1 < s.heap.objs.size := fun q hq => Heap.lt_size (N q hq).1
  refine wpAny_pyIter_list hl ?_
  have W := Walks.list (prog := prog) (w := w) (A := A) hh s.heap.objs.size l (Nat.ne_of_lt hlt) vs.toArray
  let J' : Nat → (Str → Option Value) → List (Addr × Obj) → Prop := fun i m₁ nx => ∃ c, nx = Led c ∧ (∀ p ∈ Led c, p.1 ≠ l ∧ p.1 ≠ s.heap.objs.size) ∧ (∀ p ∈ ps c, m₁ p.1 = some p.2) ∧ (∀ z, (∀ p ∈ ps c, z ≠ p.1) → stored.contains z = false → m₁ z = m₀ z) ∧ P i c
  refine ⟨_, _, _, vs.toArray.size, _, _, m₀, Led c₀, J', rfl, W, ?_, ?_, ?_, ⟨⟨_, Heap.get?_push_size _ rfl, rfl, rfl⟩, hl.at fun o e => Heap.get?_push_of_some _ e⟩, F.push _, (fun p hp => ⟨Heap.get?_push_of_some _ (N p hp).1, (N p hp).2⟩), ⟨c₀, rfl, fun p hp => ⟨hln p hp, Nat.ne_of_lt (off p hp)⟩, hk, fun _ _ _ => rfl, hp⟩, ?_, ?_⟩
  · intro hm
    simp only [List.mem_cons, List.not_mem_nil, or_false] at hm
    rcases hm with e | e
    · exact Nat.ne_of_lt hLs e
    · exact hlL e.symm
  · intro b hb
    rw [List.mem_singleton.mp hb]
    exact Heap.get?_none_of_le (Nat.le_trans F.above (Nat.le_of_lt hLs))
  · intro p hp hm
    exact Nat.ne_of_lt (off p hp) (List.mem_singleton.mp hm)
  · rintro i v m₁ news₁ s₁ own ⟨hH, tK, rfl⟩ hi hP ⟨c, rfl, hap, h1, h2, hp'⟩ hoff hown hget hall hst F₁ N₁
    have sep : OwnOff own ((Led c).map (·.1)) := by
      intro p hp b hbm e
      obtain ⟨q, hq, rfl⟩ := List.mem_map.mp hbm
      have hm := hown p hp
      simp only [List.mem_cons, List.not_mem_nil, or_false] at hm
      rcases hm with z | z
      · exact (hap q hq).2 (e.symm.trans z)
      · exact (hap q hq).1 (e.symm.trans z)
    rw [same c m₁ h1 h2] at F₁
    refine wpAny_mono (turn i v c m₁ hH tK own (by simpa using hP) sep hp' F₁ fun p hp => N₁ p ((List.mem_append.mp hp).elim (fun z => List.mem_append_right _ z) fun z => List.mem_append_left _ z)) (fun f s₃ q => ?_) fun _ _ e => e
    have inI : ∃ o, (s.heap.objs.size, o) ∈ own := by
      obtain ⟨⟨o, ho, _⟩, _⟩ := hst
      exact ⟨o, hall _ (List.mem_cons_self ..) (Heap.get?_none_of_le (Nat.le_trans F.above (Nat.le_of_lt hLs))) o ho⟩
    have inl : ∃ o, (l, o) ∈ own := by
      obtain ⟨_, ⟨o, ho, _⟩⟩ := hst
      exact ⟨o, hall _ (.tail _ (.head _)) hl0 o ho⟩
    have fin : TurnEnd h₀ env.locals { s with heap := hH, toks := tK } Led ps stored m₀ (P (i + 1)) own s₃ → LoopStepU h₀ env.locals [s.heap.objs.size] own (J' (i + 1)) { s with heap := hH, toks := tK } .next s₃ := by
      rintro ⟨c', h', tk', m', news', rfl, F', N', hn, ho, hf, hk', hr', hp''⟩
      obtain ⟨oI, hI⟩ := inI
      obtain ⟨ol, hL⟩ := inl
      have a1 : ∀ p ∈ Led c', p.1 ≠ l ∧ p.1 ≠ s.heap.objs.size := fun p hp => ⟨fun z => hf _ hL p.1 (List.mem_map_of_mem hp) z.symm, fun z => hf _ hI p.1 (List.mem_map_of_mem hp) z.symm⟩
      refine ⟨rfl, h', tk', m', Led c', rfl, F', fun p hp => N' p ((List.mem_append.mp hp).elim (ho p) (hn p)), fun p hp hq => (a1 p hp).2 (List.mem_singleton.mp hq), c', rfl, a1, hk', hr', hp''⟩
    cases f with
    | ret v => exact .ret q
    | brk => exact .brk q
    | next => exact .next (fin q)
    | cont => exact .cont (fin q)
  · rintro h2 tk2 m2 news2 F2 N2 _ ⟨c, rfl, _, h1, h2', hp'⟩
    have e : vs.toArray.size = vs.length := by simp
    rw [e] at hp'
    rw [same c m2 h1 h2'] at F2
    exact done c m2 h2 tk2 hp' F2 N2
end

local macro_rules | `(tactic| walk_at $_:str) => `(tactic| ((rename FlatMark => fm); dsimp only))
local macro_rules | `(tactic| walk_at "subscriptTail") => `(tactic| (k_here; (with_reducible show wpAny _ _ (subscriptTail _ _ (Value.ref _) (Value.int _ _)) _ _ _); k_dflt (refine' strs_sub ?k1 ?k2 ?k3 ?k4 ?k5 ?k6 ?_ ?k7; (case k1 => k_asm); (case k2 => k_mem); (case k3 => with_reducible assumption); (case k4 => ksa_idx); (case k5 => ksa_idx); (case k6 => ksa_idx); (case k7 => with_unfolding_all rfl); k_whole); intro _))
local macro_rules | `(tactic| walk_at "subscriptTail") => `(tactic| (k_here; (with_reducible show wpAny _ _ (subscriptTail _ _ (Value.ref _) (Value.int _ _)) _ _ _); k_dflt (refine' vals_sub ?k1 ?k2 ?k4 ?k5 ?k6 ?_ ?k7 ?k8; (case k1 => k_asm); (case k2 => k_mem); (case k6 => with_reducible assumption); (case k4 => ksa_idx); (case k5 => ksa_idx); (case k7 => with_unfolding_all rfl); (case k8 => (intro _; with_unfolding_all rfl)); k_whole)))
local macro_rules | `(tactic| walk_at "TurnPost") => `(tactic| (dsimp only [TurnPost]))
local macro_rules | `(tactic| walk_at "setItem ref int ref") => `(tactic| (k_here; (with_reducible show wpAny _ _ (setItem (Value.ref _) (Value.int _ _) (Value.ref _)) _ _ _); k_dflt (refine' vals_set ?k1 ?k2 ?k3 ?k5 ?k6 ?k7 ?_; (case k1 => k_asm); (case k2 => k_asm); (case k3 => k_upd); (case k5 => ksa_idx); (case k6 => ksa_idx); (case k7 => ksa_idx); k_whole); intro h' F' N'; (try k_sweep)))
local macro_rules | `(tactic| walk_at "call builtin:list.index") => `(tactic| ((with_reducible show wpAny _ _ (call (Value.builtin _) [Value.ref _, Value.int _ _]) _ _ _); refine index_list_ints (by is_list) (by assumption) (by assumption) (by first | assumption | exact any_mem (by assumption)) ?_))
local macro_rules | `(tactic| l_idx) => `(tactic| first | with_reducible assumption | exact ix63 (by with_reducible assumption) | ((try simp only [List.length_set, List.length_replicate]); exact ix9 (by with_reducible assumption) (by with_reducible assumption)))
local macro_rules | `(tactic| k_ne) => `(tactic| (refine neN ?_; (try dsimp only); first | with_reducible assumption | (refine Ne.symm ?_; with_reducible assumption)))
local macro_rules | `(tactic| walk_at "KswEnd") => `(tactic| refine Halt.out ?_)
local macro_rules | `(tactic| walk_at "exec While") => `(tactic| refine Halt.out ?_)
local macro_rules | `(tactic| walk_at "pyIter ref") => `(tactic| refine Halt.out ?_)
local macro_rules | `(tactic| walk_at "call type:enumerate") => `(tactic| refine Halt.out ?_)
local macro_rules | `(tactic| walk_at "eval ListComp") => `(tactic| refine Halt.out ?_)
local macro_rules | `(tactic| walk_at "call ref") => `(tactic| ((first | (with_reducible show wpAny _ _ (call (Value.ref 119) _) _ _ _) | (with_reducible show wpAny _ _ (call (Value.ref 105) _) _ _ _) | (with_reducible show wpAny _ _ (call (Value.ref 28) _) _ _ _) | (with_reducible show wpAny _ _ (call (Value.ref 72) _) _ _ _) | (with_reducible show wpAny _ _ (call (Value.ref 79) _) _ _ _) | (with_reducible show wpAny _ _ (call (Value.ref 84) _) _ _ _) | (with_reducible show wpAny _ _ (call (Value.ref 91) _) _ _ _) | (with_reducible show wpAny _ _ (call (Value.ref 21) _) _ _ _) | (with_reducible show wpAny _ _ (call (Value.ref 112) _) _ _ _)); refine Halt.out ?_))

def turnF (ups lows highs : List Int) (here : Int) : List Int × List Int × List Int :=
  let above := ups.getD here.toNat 0
  let top := ups.getD above.toNat 0
  let c := lows.getD above.toNat 0 = here
  let inner := if c then highs.getD here.toNat 0 else lows.getD here.toNat 0
  let lows1 := if c then lows.set above.toNat inner else lows.set here.toNat above
  let highs1 := if c then highs.set here.toNat above else highs.set above.toNat inner
  let ups1 := if 0 ≤ inner then ups.set inner.toNat above else ups
  let ups2 := (ups1.set above.toNat here).set here.toNat top
  if 0 ≤ top then
    (if lows1.getD top.toNat 0 = above then (ups2, lows1.set top.toNat here, highs1) else (ups2, lows1, highs1.set top.toNat here))
  else (ups2, lows1, highs1)

theorem turn_does (w : World) (t u l h : Addr) (us ls hs : List Value) (nu nl nh : Nat) (ups lows highs : List Int) (here : Int) (th : Tok)
    (Iu : IntsAre us ups) (Il : IntsAre ls lows) (Ih : IntsAre hs highs)
    (Lu : ups.length = 9) (Ll : lows.length = 9) (Lh : highs.length = 9)
    (h0 : 0 ≤ here) (h1 : here < 9) (a0 : 0 ≤ ups.getD here.toNat 0) (a1 : ups.getD here.toNat 0 < 9)
    (t1 : ups.getD (ups.getD here.toNat 0).toNat 0 < 9) (i1 : highs.getD here.toNat 0 < 9) (i2 : lows.getD here.toNat 0 < 9)
    (n1 : @Ne Nat u l) (n2 : @Ne Nat u h) (n3 : @Ne Nat l h) (n4 : @Ne Nat t u) (n5 : @Ne Nat t l) (n6 : @Ne Nat t h) :
    Does w 98 [.ref t, .int here th] 1 [(t, tup [.ref u, .ref l, .ref h]), (u, listOf us.toArray nu), (l, listOf ls.toArray nl), (h, listOf hs.toArray nh)]
      (fun r nw => r = .none ∧ ∃ us' ls' hs', nw = [(t, tup [.ref u, .ref l, .ref h]), (u, listOf us'.toArray nu), (l, listOf ls'.toArray nl), (h, listOf hs'.toArray nh)] ∧
        IntsAre us' (turnF ups lows highs here).1 ∧ IntsAre ls' (turnF ups lows highs here).2.1 ∧ IntsAre hs' (turnF ups lows highs here).2.2) := by
  unfold Does
  w_top off
  k_fill
  intro p loose mean mg mb dp un gd cn cs a ccd cl outer A₀ base h₀ L m s Q E B F X N T hk hd hu hret
  refine wpAny_call ?_
  k_dflt ((refine' code_def1 ?k1 ?k2 ?k3 ?k4 ?k5 ?kA ?kF ?kK ?k6 ?k7 ?k8 ?k9 ?kB ?_ ?c2 ?c3 ?c4 ?c5; (case kA => exact rfl); (case kF => exact rfl); (case kK => assumption); (case k1 => k_asm); (case k2 => k_asm); (case k3 => k_asm); (case k4 => k_asm); (case k5 => k_asm); (case k6 => k_is); (case k7 => k_is); (case k8 => ktr_room); (case k9 => exact BindsTo.of_eq rfl); (case c5 => decide); (case kB => exact locs rfl); (case c2 => exact rfl); (case c3 => exact rfl); (case c4 => exact rfl); k_whole; intro _ _ _ _ _ _ _ _ _ _; (try dsimp only); (try k_fold)))
  k_steps
  all_goals (refine hret _ _ _ _ (by assumption) (by assumption) (apart_of (by assumption) (by assumption) (by assumption)) ⟨rfl, _, _, _, rfl, ?_, ?_, ?_⟩)
  all_goals (unfold turnF; dsimp only; (repeat' split) <;> first | assumption | (exfalso; contradiction) | (exfalso; omega))

def turnS (s : S3) (x : Int) : S3 := turnF s.1 s.2.1 s.2.2 x
structure TurnOk (s : S3) (x : Int) : Prop where
  Lu : s.1.length = 9
  Ll : s.2.1.length = 9
  Lh : s.2.2.length = 9
  h0 : 0 ≤ x
  h1 : x < 9
  a0 : 0 ≤ s.1.getD x.toNat 0
  a1 : s.1.getD x.toNat 0 < 9
  t1 : s.1.getD (s.1.getD x.toNat 0).toNat 0 < 9
  i1 : s.2.2.getD x.toNat 0 < 9
  i2 : s.2.1.getD x.toNat 0 < 9

theorem turn_does1 {w : World} {t u l h : Addr} {us ls hs : List Value} {nu nl nh : Nat} {ups lows highs : List Int} {here : Int} {th : Tok}
    (Iu : IntsAre us ups) (Il : IntsAre ls lows) (Ih : IntsAre hs highs) (ok : TurnOk (ups, lows, highs) here)
    (n1 : @Ne Nat u l) (n2 : @Ne Nat u h) (n3 : @Ne Nat l h) (n4 : @Ne Nat t u) (n5 : @Ne Nat t l) (n6 : @Ne Nat t h) :
    Does w 98 [.ref t, .int here th] 1 [(t, tup [.ref u, .ref l, .ref h]), (u, listOf us.toArray nu), (l, listOf ls.toArray nl), (h, listOf hs.toArray nh)]
      (fun r nw => r = .none ∧ ∃ us' ls' hs', nw = [(t, tup [.ref u, .ref l, .ref h]), (u, listOf us'.toArray nu), (l, listOf ls'.toArray nl), (h, listOf hs'.toArray nh)] ∧
        IntsAre us' (turnS (ups, lows, highs) here).1 ∧ IntsAre ls' (turnS (ups, lows, highs) here).2.1 ∧ IntsAre hs' (turnS (ups, lows, highs) here).2.2) :=
  turn_does w t u l h us ls hs nu nl nh _ _ _ here th Iu Il Ih ok.Lu ok.Ll ok.Lh ok.h0 ok.h1 ok.a0 ok.a1 ok.t1 ok.i1 ok.i2 n1 n2 n3 n4 n5 n6

def ReadPost (t wt l h u : Addr) (ls hs wv : List Value) (nl nh nw : Nat) (ws : List Int) (T : Tr) (r : Value) (nw' : List (Addr × Obj)) : Prop :=
  ∃ R f : Addr, ∃ nf : Nat, ∃ fs : List Value, ∃ k1 k2 : Tok, r = .ref R ∧ nw' = [(R, tup [.ref f, .int (T.tot ws) k1, .int (T.prd ws) k2]), (f, listOf fs.toArray nf), (t, tup [.ref u, .ref l, .ref h]), (l, listOf ls.toArray nl), (h, listOf hs.toArray nh), (wt, listOf wv.toArray nw)] ∧ IntsAre fs T.ino ∧
    @Ne Nat R f ∧ @Ne Nat R t ∧ @Ne Nat R l ∧ @Ne Nat R h ∧ @Ne Nat R wt ∧ @Ne Nat f t ∧ @Ne Nat f l ∧ @Ne Nat f h ∧ @Ne Nat f wt

theorem read_does (w : World) (t u l h wt : Addr) (ls hs wv : List Value) (nl nh nw : Nat) (lows highs ws : List Int) 
    (Il : IntsAre ls lows) (Ih : IntsAre hs highs) (Iw : IntsAre wv ws)
    (Ll : lows.length = 9) (Lh : highs.length = 9) (Lw : ws.length = 9) :
    ∀ (T : Tr) (i : Int) (ti : Tok), Enc lows highs T i → T.Ok ws →
    Does w 119 [.ref t, .ref wt, .int i ti] T.ht [(t, tup [.ref u, .ref l, .ref h]), (l, listOf ls.toArray nl), (h, listOf hs.toArray nh), (wt, listOf wv.toArray nw)]
      (ReadPost t wt l h u ls hs wv nl nh nw ws T) := by
  intro T
  induction T with
  | nil =>
    intro i ti hE hO
    have hi : i < 0 := hE
    unfold Does
    k_fill
    intro p loose mean mg mb dp un gd cn cs a ccd cl outer A₀ base h₀ L m s Q E B F X N T hk hd hu hret
    replace hd : dp + 1 < recursionLimit := hd
    replace hu : un + 8 * 1 < cLine := hu
    refine wpAny_call (flatUp fun fm => ?_)
    k_dflt ((refine' code_def1 ?k1 ?k2 ?k3 ?k4 ?k5 ?kA ?kF ?kK ?k6 ?k7 ?k8 ?k9 ?kB ?_ ?c2 ?c3 ?c4 ?c5; (case kA => exact rfl); (case kF => exact rfl); (case kK => assumption); (case k1 => k_asm); (case k2 => k_asm); (case k3 => k_asm); (case k4 => k_asm); (case k5 => k_asm); (case k6 => k_is); (case k7 => k_is); (case k8 => ktr_room); (case k9 => exact BindsTo.of_eq rfl); (case c5 => decide); (case kB => exact locs rfl); (case c2 => exact rfl); (case c3 => exact rfl); (case c4 => exact rfl); k_whole; intro _ _ _ _ _ _ _ _ _ _; (try dsimp only); (try k_fold)))
    k_steps
    rename_i l1 _ _ _ _ l2 _ _ _ _
    exact hret _ _ _ _ (by assumption) (by assumption) (apart_of (by assumption) (by assumption) (by assumption)) ⟨_, _, _, _, _, _, rfl, rfl, .nil, Nat.ne_of_gt l2.1, Nat.ne_of_gt l2.2.1, Nat.ne_of_gt l2.2.2.1, Nat.ne_of_gt l2.2.2.2.1, Nat.ne_of_gt l2.2.2.2.2, Nat.ne_of_gt l1.1, Nat.ne_of_gt l1.2.1, Nat.ne_of_gt l1.2.2.1, Nat.ne_of_gt l1.2.2.2⟩
  | node tl x tr IHl IHr =>
    rintro i ti ⟨rfl, hx0, hx9, hEl, hEr⟩ ⟨hOl, hOr, m1, m2, len1, len2⟩
    unfold Does
    k_fill
    intro p loose mean mg mb dp un gd cn cs a ccd cl outer A₀ base h₀ L m s Q E B F X N T hk hd hu hret
    replace hd : dp + (tl.ht + tr.ht + 1) < recursionLimit := hd
    replace hu : un + 8 * (tl.ht + tr.ht + 1) < cLine := hu
    refine wpAny_call (flatUp fun fm => ?_)
    k_dflt ((refine' code_def1 ?k1 ?k2 ?k3 ?k4 ?k5 ?kA ?kF ?kK ?k6 ?k7 ?k8 ?k9 ?kB ?_ ?c2 ?c3 ?c4 ?c5; (case kA => exact rfl); (case kF => exact rfl); (case kK => assumption); (case k1 => k_asm); (case k2 => k_asm); (case k3 => k_asm); (case k4 => k_asm); (case k5 => k_asm); (case k6 => k_is); (case k7 => k_is); (case k8 => ktr_room); (case k9 => exact BindsTo.of_eq rfl); (case c5 => decide); (case kB => exact locs rfl); (case c2 => exact rfl); (case c3 => exact rfl); (case c4 => exact rfl); k_whole; intro _ _ _ _ _ _ _ _ _ _; (try dsimp only); (try k_fold)))
    k_steps
    unfold Halt
    k_dflt (refine' Does.use (IHl _ _ hEl hOl) [] ?k1 ?k2 ?k3 ?k4 ?k5 ?kK ?kd ?ku ?hs ?hx ?_)
    ( (case k1 => k_asm); (case k2 => k_asm); (case k3 => k_asm); (case k4 => k_asm); (case k5 => k_asm); (case kK => first | exact rfl | assumption); (case kd => ktr_room); (case ku => ktr_units); (case hs => (with_unfolding_all ((try simp only [List.nil_append, List.cons_append]); k_allIn))); (case hx => (repeat' (first | exact List.forall_mem_nil _ | refine List.forall_mem_cons.mpr ⟨?_, ?_⟩ | ((try dsimp only); first | (refine neN ?_; with_reducible assumption) | (refine neN (Ne.symm ?_); with_reducible assumption) | omega)))))
    rintro r1 nw1 h1 tk1 F1 N1 - ⟨R1, f1, nf1, fs1, k1, k2, rfl, rfl, I1, x1, x2, x3, x4, x5, x6, x7, x8, x9⟩
    dsimp only [List.cons_append, List.nil_append] at N1
    (try k_fold)
    k_steps
    unfold Halt
    k_dflt (refine' Does.use (IHr _ _ hEr hOr) [(R1, tup [.ref f1, .int (tl.tot ws) k1, .int (tl.prd ws) k2]), (f1, listOf fs1.toArray nf1)] ?k1 ?k2 ?k3 ?k4 ?k5 ?kK ?kd ?ku ?hs ?hx ?_)
    ( (case k1 => k_asm); (case k2 => k_asm); (case k3 => k_asm); (case k4 => k_asm); (case k5 => k_asm); (case kK => first | exact rfl | assumption); (case kd => ktr_room); (case ku => ktr_units); (case hs => (with_unfolding_all ((try simp only [List.nil_append, List.cons_append]); k_allIn))); (case hx => (repeat' (first | exact List.forall_mem_nil _ | refine List.forall_mem_cons.mpr ⟨?_, ?_⟩ | ((try dsimp only); first | (refine neN ?_; with_reducible assumption) | (refine neN (Ne.symm ?_); with_reducible assumption) | omega)))))
    rintro r2 nw2 h2 tk2 F2 N2 D2 ⟨R2, f2, nf2, fs2, k3, k4, rfl, rfl, I2, y1, y2, y3, y4, y5, y6, y7, y8, y9⟩
    dsimp only [List.cons_append, List.nil_append] at N2
    simp only [List.forall_mem_cons, List.forall_mem_nil, implies_true, and_true] at D2
    (try k_fold)
    k_steps
    rename_i D1 ws1 g1 hI l1 D2 g2 FF NN l2 kF kN Tc kX
    refine' hret _ [(D2, tup [.ref D1, .int (Tr.tot ws (.node tl i tr)) ?q1, .int (Tr.prd ws (.node tl i tr)) ?q2]), (D1, listOf ws1.toArray 0), (t, tup [.ref u, .ref l, .ref h]), (l, listOf ls.toArray nl), (h, listOf hs.toArray nh), (wt, listOf wv.toArray nw)] _ _ kF (nsub kN ?hs1) (apart_of (by assumption) FF (nsub NN ?hs2)) ⟨_, _, _, _, _, _, rfl, rfl, by simpa [Tr.ino, List.append_assoc] using hI, Nat.ne_of_gt l2.1, Nat.ne_of_gt l2.2.2.2.2.2.1, Nat.ne_of_gt l2.2.2.2.2.2.2.1, Nat.ne_of_gt l2.2.2.2.2.2.2.2.1, Nat.ne_of_gt l2.2.2.2.2.2.2.2.2.1, Nat.ne_of_gt l1.2.2.2.2.1, Nat.ne_of_gt l1.2.2.2.2.2.1, Nat.ne_of_gt l1.2.2.2.2.2.2.1, Nat.ne_of_gt l1.2.2.2.2.2.2.2.1⟩
    case hs1 => with_unfolding_all k_allIn
    case hs2 => with_unfolding_all k_allIn

inductive Runs (x : Int) : S3 → Nat → S3 → Prop
  | stop {s : S3} : s.1.length = 9 → 0 ≤ x → x < 9 → s.1.getD x.toNat 0 < 0 → Runs x s 0 s
  | zig {s f : S3} {n : Nat} : TurnOk s x → s.1.getD (s.1.getD x.toNat 0).toNat 0 < 0 → Runs x (turnS s x) n f → Runs x s (n + 1) f
  | zigzig {s f : S3} {n : Nat} : TurnOk s x → 0 ≤ s.1.getD (s.1.getD x.toNat 0).toNat 0 →
      ((s.2.1.getD (s.1.getD (s.1.getD x.toNat 0).toNat 0).toNat 0 == s.1.getD x.toNat 0) == (s.2.1.getD (s.1.getD x.toNat 0).toNat 0 == x)) = true →
      TurnOk s (s.1.getD x.toNat 0) → TurnOk (turnS s (s.1.getD x.toNat 0)) x → Runs x (turnS (turnS s (s.1.getD x.toNat 0)) x) n f → Runs x s (n + 2) f
  | zigzag {s f : S3} {n : Nat} : TurnOk s x → 0 ≤ s.1.getD (s.1.getD x.toNat 0).toNat 0 →
      ((s.2.1.getD (s.1.getD (s.1.getD x.toNat 0).toNat 0).toNat 0 == s.1.getD x.toNat 0) == (s.2.1.getD (s.1.getD x.toNat 0).toNat 0 == x)) = false →
      TurnOk (turnS s x) x → Runs x (turnS (turnS s x) x) n f → Runs x s (n + 2) f


local macro_rules | `(tactic| walk_at "call ref") => `(tactic| (
  (with_reducible show wpAny _ _ (call (Value.ref 98) _) _ _ _);
  (k_dflt (refine' Does.use (turn_does1 ?iu ?il ?ih ?ok ?n1 ?n2 ?n3 ?n4 ?n5 ?n6) [] ?k1 ?k2 ?k3 ?k4 ?k5 ?kK ?kd ?ku ?hs ?hx ?_)); (case k1 => k_asm); (case k2 => k_asm); (case k3 => k_asm); (case k4 => k_asm); (case k5 => k_asm); (case kK => first | exact rfl | assumption); (case kd => ktr_room); (case ku => ktr_units); (case hs => (with_unfolding_all ((try simp only [List.nil_append, List.cons_append]); k_allIn))); (case hx => (repeat' (first | exact List.forall_mem_nil _ | refine List.forall_mem_cons.mpr ⟨?_, ?_⟩ | ((try dsimp only); omega))));
  (case iu => assumption); (case il => assumption); (case ih => assumption); (case ok => assumption);
  (case n1 => assumption); (case n2 => assumption); (case n3 => assumption); (case n4 => assumption); (case n5 => assumption); (case n6 => assumption);
  rintro r1 nw1 h1 tk1 F1 N1 - ⟨e1, us1, ls1, hs1, e2, Iu1, Il1, Ih1⟩; subst e1; subst e2;
  (dsimp only [List.cons_append, List.nil_append] at N1);
  (try k_fold)))

structure SpSt where
  us : List Value
  ls : List Value
  hs : List Value
  s : S3
  n : Nat
  d : Int
  tk : Tok

theorem splay_does {w : World} {t u l h : Addr} {us ls hs : List Value} {nu nl nh : Nat} {s0 fin : S3} {x : Int} {k : Nat} {th : Tok}
    (Iu : IntsAre us s0.1) (Il : IntsAre ls s0.2.1) (Ih : IntsAre hs s0.2.2) (R : Runs x s0 k fin)
    (n1 : @Ne Nat u l) (n2 : @Ne Nat u h) (n3 : @Ne Nat l h) (n4 : @Ne Nat t u) (n5 : @Ne Nat t l) (n6 : @Ne Nat t h) :
    Does w 105 [.ref t, .int x th] 2 [(t, tup [.ref u, .ref l, .ref h]), (u, listOf us.toArray nu), (l, listOf ls.toArray nl), (h, listOf hs.toArray nh)]
      (fun r nw => (∃ tk, r = .int k tk) ∧ ∃ us' ls' hs', nw = [(t, tup [.ref u, .ref l, .ref h]), (u, listOf us'.toArray nu), (l, listOf ls'.toArray nl), (h, listOf hs'.toArray nh)] ∧
        IntsAre us' fin.1 ∧ IntsAre ls' fin.2.1 ∧ IntsAre hs' fin.2.2) := by
  unfold Does
  w_top off
  k_fill
  intro p loose mean mg mb dp un gd cn cs a ccd cl outer A₀ base h₀ L m s Q E B F X N T hk hd hu hret
  refine wpAny_call (flatUp fun fm => ?_)
  k_dflt ((refine' code_def1 ?k1 ?k2 ?k3 ?k4 ?k5 ?kA ?kF ?kK ?k6 ?k7 ?k8 ?k9 ?kB ?_ ?c2 ?c3 ?c4 ?c5; (case kA => exact rfl); (case kF => exact rfl); (case kK => assumption); (case k1 => k_asm); (case k2 => k_asm); (case k3 => k_asm); (case k4 => k_asm); (case k5 => k_asm); (case k6 => k_is); (case k7 => k_is); (case k8 => ktr_room); (case k9 => exact BindsTo.of_eq rfl); (case c5 => decide); (case kB => exact locs rfl); (case c2 => exact rfl); (case c3 => exact rfl); (case c4 => exact rfl); k_whole; intro _ _ _ _ _ _ _ _ _ _; (try dsimp only); (try k_fold)))
  k_steps
  unfold Halt
  (rename Fr _ _ _ _ => lF'); (rename News _ _ _ _ => lN')
  with_unfolding_all refine' while_use (σ := SpSt) (Led := fun c => [(t, tup [.ref u, .ref l, .ref h]), (u, listOf c.us.toArray nu), (l, listOf c.ls.toArray nl), (h, listOf c.hs.toArray nh)]) (ps := fun c => [(Str.ofString "turns", .int c.d c.tk)]) (stored := [Str.ofString "above", Str.ofString "top"]) (P := fun c => c.d + c.n = k ∧ IntsAre c.us c.s.1 ∧ IntsAre c.ls c.s.2.1 ∧ IntsAre c.hs c.s.2.2 ∧ Runs x c.s c.n fin) (μ := fun c => c.n) (c₀ := ⟨us, ls, hs, s0, k, 0, ?c⟩) ?kE lF' ?kn ?kk ?kp ?_
  case kE => passes_own
  case kn => exact lN'
  case kk => kst_all
  case kp => exact ⟨by simp, Iu, Il, Ih, R⟩
  clear lF' lN'
  rintro ⟨us1, ls1, hs1, ⟨ups, lows, highs⟩, n, d, tk0⟩ u1 h1 tk1 ⟨hn, Iu1, Il1, Ih1, R1⟩ F1 N1
  dsimp only at hn Iu1 Il1 Ih1 R1 N1 F1
  cases R1 with
  | stop Lu h0 h1 hlt =>
    dsimp only at Lu h0 h1 hlt
    (try k_fold)
    k_steps
    refine hret _ _ _ _ (by assumption) (by assumption) (apart_of (by assumption) (by assumption) (by assumption)) ⟨⟨tk0, ?_⟩, us1, ls1, hs1, rfl, Iu1, Il1, Ih1⟩
    have e : d = k := by simpa using hn
    rw [e]
  | @zig _ _ n' ok htop R2 =>
    have a0 := ok.a0; have a1 := ok.a1; have h0 := ok.h0; have h1 := ok.h1; have t1 := ok.t1; have Lu := ok.Lu; have Ll := ok.Ll
    dsimp only at a0 a1 h0 h1 t1 Lu Ll htop
    (try k_fold)
    k_steps
    unfold Halt
    refine' ksw_end ⟨_, _, _, _, n', d + 1, _⟩ (by assumption) (by assumption) (fun _ h => h) trivial ?kk ?hr ⟨?a, by assumption, by assumption, by assumption, R2⟩ ?mm
    case kk => exact List.forall_mem_cons.mpr ⟨by with_unfolding_all rfl, List.forall_mem_nil _⟩
    case hr => (intro z h2 h3; (simp only [List.forall_mem_cons, List.not_mem_nil, false_implies, implies_true, and_true, ne_eq] at h2); (simp only [List.contains_cons, List.contains_nil, Bool.or_false, Bool.or_eq_false_iff, beq_eq_false_iff_ne, ne_eq] at h3); simp [kstB, h2, h3])
    case a => (show (d + 1 : Int) + (n' : Int) = k); omega
    case mm => exact Nat.lt_add_of_pos_right (by decide)
  | @zigzig _ _ n' ok htop hc ok1 ok2 R2 =>
    have a0 := ok.a0; have a1 := ok.a1; have h0 := ok.h0; have h1 := ok.h1; have t1 := ok.t1; have Lu := ok.Lu; have Ll := ok.Ll
    dsimp only at a0 a1 h0 h1 t1 Lu Ll htop hc
    (try k_fold)
    k_steps
    all_goals try ((rename (_ == _) = false => hq); rw [hc] at hq; cases hq)
    unfold Halt
    refine' ksw_end ⟨_, _, _, _, n', d + 1 + 1, _⟩ (by assumption) (by assumption) (fun _ h => h) trivial ?kk ?hr ⟨?a, by assumption, by assumption, by assumption, R2⟩ ?mm
    case kk => exact List.forall_mem_cons.mpr ⟨by with_unfolding_all rfl, List.forall_mem_nil _⟩
    case hr => (intro z h2 h3; (simp only [List.forall_mem_cons, List.not_mem_nil, false_implies, implies_true, and_true, ne_eq] at h2); (simp only [List.contains_cons, List.contains_nil, Bool.or_false, Bool.or_eq_false_iff, beq_eq_false_iff_ne, ne_eq] at h3); simp [kstB, h2, h3])
    case a => (show (d + 1 + 1 : Int) + (n' : Int) = k); omega
    case mm => exact Nat.lt_add_of_pos_right (by decide)
  | @zigzag _ _ n' ok htop hc ok2 R2 =>
    have a0 := ok.a0; have a1 := ok.a1; have h0 := ok.h0; have h1 := ok.h1; have t1 := ok.t1; have Lu := ok.Lu; have Ll := ok.Ll
    dsimp only at a0 a1 h0 h1 t1 Lu Ll htop hc
    (try k_fold)
    k_steps
    all_goals try ((rename (_ == _) = true => hq); rw [hc] at hq; cases hq)
    unfold Halt
    refine' ksw_end ⟨_, _, _, _, n', d + 1 + 1, _⟩ (by assumption) (by assumption) (fun _ h => h) trivial ?kk ?hr ⟨?a, by assumption, by assumption, by assumption, R2⟩ ?mm
    case kk => exact List.forall_mem_cons.mpr ⟨by with_unfolding_all rfl, List.forall_mem_nil _⟩
    case hr => (intro z h2 h3; (simp only [List.forall_mem_cons, List.not_mem_nil, false_implies, implies_true, and_true, ne_eq] at h2); (simp only [List.contains_cons, List.contains_nil, Bool.or_false, Bool.or_eq_false_iff, beq_eq_false_iff_ne, ne_eq] at h3); simp [kstB, h2, h3])
    case a => (show (d + 1 + 1 : Int) + (n' : Int) = k); omega
    case mm => exact Nat.lt_add_of_pos_right (by decide)

def collF (x y : Str) : Int := b2i (decide (y.cps.toList < x.cps.toList)) - b2i (decide (x.cps.toList < y.cps.toList))
def W9 : List Str := ["C", "C.a", "C.b", "D", "D.a", "D.b", "a", "a.a", "a.b"]

theorem coll_all : ∀ i : Fin 9, ∀ j : Fin 9, collF (W9.getD i.val Str.empty) (W9.getD j.val Str.empty) = if i.val < j.val then -1 else if j.val < i.val then 1 else 0 := by decide +kernel
theorem coll_is {i j : Int} (i0 : 0 ≤ i) (i9 : i < 9) (j0 : 0 ≤ j) (j9 : j < 9) : collF (W9.getD i.toNat Str.empty) (W9.getD j.toNat Str.empty) = if i < j then -1 else if j < i then 1 else 0 := by
  have := coll_all ⟨i.toNat, by omega⟩ ⟨j.toNat, by omega⟩
  rw [this]
  by_cases h : i < j
  · rw [if_pos h, if_pos (show i.toNat < j.toNat by omega)]
  · rw [if_neg h, if_neg (show ¬ i.toNat < j.toNat by omega)]
    by_cases h' : j < i
    · rw [if_pos h', if_pos (show j.toNat < i.toNat by omega)]
    · rw [if_neg h', if_neg (show ¬ j.toNat < i.toNat by omega)]

theorem coll_does (w : World) (x y : Str) (tx ty : Tok) :
    Does w 65 [.str x tx, .str y ty] 1 [] (fun r nw => nw = [] ∧ ∃ tk, r = .int (collF x y) tk) := by
  unfold Does
  w_top off
  k_fill
  intro p loose mean mg mb dp un gd cn cs a ccd cl outer A₀ base h₀ L m s Q E B F X N T hk hd hu hret
  refine wpAny_call (flatUp fun fm => ?_)
  k_dflt ((refine' code_def1 ?k1 ?k2 ?k3 ?k4 ?k5 ?kA ?kF ?kK ?k6 ?k7 ?k8 ?k9 ?kB ?_ ?c2 ?c3 ?c4 ?c5; (case kA => exact rfl); (case kF => exact rfl); (case kK => assumption); (case k1 => k_asm); (case k2 => k_asm); (case k3 => k_asm); (case k4 => k_asm); (case k5 => k_asm); (case k6 => k_is); (case k7 => k_is); (case k8 => ktr_room); (case k9 => exact BindsTo.of_eq rfl); (case c5 => decide); (case kB => exact locs rfl); (case c2 => exact rfl); (case c3 => exact rfl); (case c4 => exact rfl); k_whole; intro _ _ _ _ _ _ _ _ _ _; (try dsimp only); (try k_fold)))
  k_steps
  exact hret _ _ _ _ (by assumption) (by assumption) (apart_of (by assumption) (by assumption) (by assumption)) ⟨rfl, _, rfl⟩

local macro_rules | `(tactic| walk_at "call ref") => `(tactic| (
  (with_reducible show wpAny _ _ (call (Value.ref 65) _) _ _ _);
  (k_dflt (refine' Does.use0 (coll_does _ _ _ _ _) ?k1 ?k2 ?k3 ?k4 ?k5 ?kK ?kd ?ku ?_)); (case k1 => k_asm); (case k2 => k_asm); (case k3 => k_asm); (case k4 => k_asm); (case k5 => k_asm); (case kK => first | exact rfl | assumption); (case kd => ktr_room); (case ku => ktr_units);
  rintro r1 nw1 h1 tk1 F1 N1 - ⟨e1, tk2, e2⟩; subst e1; subst e2;
  (dsimp only [List.cons_append, List.nil_append] at N1);
  (try k_fold)))

inductive Finds (lows highs : List Int) (x : Int) : Nat → Int → Prop
  | here : 0 ≤ x → x < 9 → Finds lows highs x 0 x
  | low {n : Nat} {i : Int} : 0 ≤ i → i < 9 → x < i → Finds lows highs x n (lows.getD i.toNat 0) → Finds lows highs x (n + 1) i
  | high {n : Nat} {i : Int} : 0 ≤ i → i < 9 → i < x → Finds lows highs x n (highs.getD i.toNat 0) → Finds lows highs x (n + 1) i


structure FiSt where
  i : Int
  n : Nat
  tk : Tok


theorem find_does {w : World} {t u l h wa la pa : Addr} {us ls hs wv pv : List Value} {nu nl nh nw nla np : Nat} {ups lows highs : List Int} {fin : S3} {x : Int} {k n : Nat} {ts : Tok} {v : Value}
    (Iu : IntsAre us ups) (Il : IntsAre ls lows) (Ih : IntsAre hs highs) (Iw : StrsAre wv W9) (hv : pv[x.toNat]? = some v)
    (lu : PyData.layable0 (.list (ups.map .int)) = true) (Ll : lows.length = 9) (Lh : highs.length = 9) (hm : (-1 : Int) ∈ ups) (x0 : 0 ≤ x) (x9 : x < 9)
    (FD : Finds lows highs x n (ups.idxOf (-1 : Int) : Nat)) (R : Runs x (ups, lows, highs) k fin)
    (n1 : @Ne Nat u l) (n2 : @Ne Nat u h) (n3 : @Ne Nat l h) (n4 : @Ne Nat t u) (n5 : @Ne Nat t l) (n6 : @Ne Nat t h)
    (m1 : @Ne Nat t wa) (m2 : @Ne Nat u wa) (m3 : @Ne Nat l wa) (m4 : @Ne Nat h wa) (m5 : @Ne Nat t la) (m6 : @Ne Nat u la) (m7 : @Ne Nat l la) (m8 : @Ne Nat h la) (m9 : @Ne Nat t pa) (o1 : @Ne Nat u pa) (o2 : @Ne Nat l pa) (o3 : @Ne Nat h pa)
    (o4 : @Ne Nat wa la) (o5 : @Ne Nat pa la) :
    Does w 112 [.ref t, .ref wa, .ref pa, .ref la, .str (W9.getD x.toNat Str.empty) ts] 4 [(t, tup [.ref u, .ref l, .ref h]), (u, listOf us.toArray nu), (l, listOf ls.toArray nl), (h, listOf hs.toArray nh), (wa, listOf wv.toArray nw), (la, listOf #[] nla), (pa, listOf pv.toArray np)]
      (fun r nw' => r = v ∧ ∃ us' ls' hs' tk n', nw' = [(t, tup [.ref u, .ref l, .ref h]), (u, listOf us'.toArray nu), (l, listOf ls'.toArray nl), (h, listOf hs'.toArray nh), (wa, listOf wv.toArray nw), (la, listOf #[.int k tk] n'), (pa, listOf pv.toArray np)] ∧
        IntsAre us' fin.1 ∧ IntsAre ls' fin.2.1 ∧ IntsAre hs' fin.2.2) := by
  unfold Does
  w_top off
  k_fill
  intro p loose mean mg mb dp un gd cn cs a ccd cl outer A₀ base h₀ L m s Q E B F X N T hk hd hu hret
  have hW : W9.length = 9 := rfl
  refine wpAny_call (flatUp fun fm => ?_)
  k_dflt ((refine' code_def1 ?k1 ?k2 ?k3 ?k4 ?k5 ?kA ?kF ?kK ?k6 ?k7 ?k8 ?k9 ?kB ?_ ?c2 ?c3 ?c4 ?c5; (case kA => exact rfl); (case kF => exact rfl); (case kK => assumption); (case k1 => k_asm); (case k2 => k_asm); (case k3 => k_asm); (case k4 => k_asm); (case k5 => k_asm); (case k6 => k_is); (case k7 => k_is); (case k8 => ktr_room); (case k9 => exact BindsTo.of_eq rfl); (case c5 => decide); (case kB => exact locs rfl); (case c2 => exact rfl); (case c3 => exact rfl); (case c4 => exact rfl); k_whole; intro _ _ _ _ _ _ _ _ _ _; (try dsimp only); (try k_fold)))
  k_steps
  unfold Halt
  (rename Fr _ _ _ _ => lF'); (rename News _ _ _ _ => lN')
  with_unfolding_all refine' while_use (σ := FiSt) (Led := fun _ => [(t, tup [.ref u, .ref l, .ref h]), (u, listOf us.toArray nu), (l, listOf ls.toArray nl), (h, listOf hs.toArray nh), (wa, listOf wv.toArray nw), (la, listOf #[] nla), (pa, listOf pv.toArray np)]) (ps := fun c => [(Str.ofString "here", .int c.i c.tk)]) (stored := [Str.ofString "side"]) (P := fun c => Finds lows highs x c.n c.i) (μ := fun c => c.n) (c₀ := ⟨(ups.idxOf (-1 : Int) : Nat), n, ?c⟩) ?kE lF' ?kn ?kk ?kp ?_
  case kE => passes_own
  case kn => exact lN'
  case kk => kst_all
  case kp => exact FD
  clear lF' lN'
  rintro ⟨i, n', tk0⟩ u1 h1 tk1 FD1 F1 N1
  dsimp only at FD1 N1 F1
  cases FD1 with
  | here =>
    have e0 := coll_is x0 x9 x0 x9
    rw [if_neg (Int.lt_irrefl _), if_neg (Int.lt_irrefl _)] at e0
    have c0 : (collF (W9.getD x.toNat Str.empty) (W9.getD x.toNat Str.empty) == 0) = true := by rw [e0]; rfl
    (try k_fold)
    k_steps
    unfold Halt
    (k_dflt (refine' Does.use (splay_does Iu Il Ih R n1 n2 n3 n4 n5 n6) [(wa, listOf wv.toArray nw), (la, listOf #[] nla), (pa, listOf pv.toArray np)] ?k1 ?k2 ?k3 ?k4 ?k5 ?kK ?kd ?ku ?hs ?hx ?_))
    ( (case k1 => k_asm); (case k2 => k_asm); (case k3 => k_asm); (case k4 => k_asm); (case k5 => k_asm); (case kK => first | exact rfl | assumption); (case kd => ktr_room); (case ku => ktr_units); (case hs => (with_unfolding_all ((try simp only [List.nil_append, List.cons_append]); k_allIn))); (case hx => (repeat' (first | exact List.forall_mem_nil _ | refine List.forall_mem_cons.mpr ⟨?_, ?_⟩ | ((try dsimp only); first | (refine neN ?_; with_reducible assumption) | (refine neN (Ne.symm ?_); with_reducible assumption) | omega)))))
    rintro r2 nw2 h2 tk2 F2 N2 D2 ⟨⟨tk3, rfl⟩, us1, ls1, hs1, rfl, Iu1, Il1, Ih1⟩
    dsimp only [List.cons_append, List.nil_append] at N2
    (try k_fold)
    k_steps
    exact hret _ _ _ _ (by assumption) (by assumption) (apart_of (by assumption) (by assumption) (by assumption)) ⟨rfl, us1, ls1, hs1, _, _, rfl, Iu1, Il1, Ih1⟩
  | low i0 i9 hlt FD2 =>
    have e0 := coll_is x0 x9 i0 i9
    rw [if_pos hlt] at e0
    have c0 : (collF (W9.getD x.toNat Str.empty) (W9.getD i.toNat Str.empty) == 0) = false := by rw [e0]; rfl
    have c1 : (collF (W9.getD x.toNat Str.empty) (W9.getD i.toNat Str.empty) < 0) := by rw [e0]; decide
    (try k_fold)
    k_steps
    unfold Halt
    refine' ksw_end ⟨_, _, _⟩ (by assumption) (by assumption) (fun _ h => h) trivial ?kk ?hr FD2 ?mm
    case kk => exact List.forall_mem_cons.mpr ⟨by with_unfolding_all rfl, List.forall_mem_nil _⟩
    case hr => (intro z h2 h3; (simp only [List.forall_mem_cons, List.not_mem_nil, false_implies, implies_true, and_true, ne_eq] at h2); (simp only [List.contains_cons, List.contains_nil, Bool.or_false, Bool.or_eq_false_iff, beq_eq_false_iff_ne, ne_eq] at h3); simp [kstB, h2, h3])
    case mm => exact Nat.lt_add_of_pos_right (by decide)
  | high i0 i9 hlt FD2 =>
    have e0 := coll_is x0 x9 i0 i9
    rw [if_neg (by omega), if_pos hlt] at e0
    have c0 : (collF (W9.getD x.toNat Str.empty) (W9.getD i.toNat Str.empty) == 0) = false := by rw [e0]; rfl
    have c1 : ¬ (collF (W9.getD x.toNat Str.empty) (W9.getD i.toNat Str.empty) < 0) := by rw [e0]; decide
    (try k_fold)
    k_steps
    unfold Halt
    refine' ksw_end ⟨_, _, _⟩ (by assumption) (by assumption) (fun _ h => h) trivial ?kk ?hr FD2 ?mm
    case kk => exact List.forall_mem_cons.mpr ⟨by with_unfolding_all rfl, List.forall_mem_nil _⟩
    case hr => (intro z h2 h3; (simp only [List.forall_mem_cons, List.not_mem_nil, false_implies, implies_true, and_true, ne_eq] at h2); (simp only [List.contains_cons, List.contains_nil, Bool.or_false, Bool.or_eq_false_iff, beq_eq_false_iff_ne, ne_eq] at h3); simp [kstB, h2, h3])
    case mm => exact Nat.lt_add_of_pos_right (by decide)


structure DrSt where
  ds : List Value
  ns : List Int
  n : Nat

def DrawnPost (r : Value) (nw : List (Addr × Obj)) : Prop :=
  ∃ D : Addr, ∃ n : Nat, ∃ vs : List Value, ∃ ns : List Int, r = .ref D ∧ nw = [(D, listOf vs.toArray n)] ∧ IntsAre vs ns ∧ ns.length = 12

/-- a call that also reads a list of the ground -/
def DoesB (w : World) (f : Addr) (vs : List Value) (size : Nat) (pre : List (Addr × Obj)) (post : Value → List (Addr × Obj) → Prop) (Bs : Heap → Prop) : Prop :=
  ∀ (p : Program) (loose : List Str) (mean : ExcName → Option Value) (mg mb : Str → Option Value)
    (dp un : Nat) (gd : Option (List Code)) (cn : Str) (cs : Scope) (a : Addr) (ccd : Value) (cl : List (Str × Addr)) (outer : List Env) (A₀ : Around) (base h₀ : Heap) (L : Addr) (m : Str → Option Value) (s : Shared)
    (Q E : Value → Shared → Prop),
    Below A₀ base outer h₀ → Fr h₀ L s.heap m → (Mine.hd.heap_39 w.params).In h₀ → News h₀ L s.heap pre → Top p loose mean mg mb h₀ → cs.kind = .function → dp + size < recursionLimit → un + 8 * size < cLine → Bs h₀ →
    (∀ r nw h' tk', Fr h₀ L h' m → News h₀ L h' nw → Apart s.heap h' pre nw → post r nw → Q r { s with heap := h', toks := tk' }) →
    wpAny (model Challenge.rw_kl0130_01.row.prog w) (ktrTop dp un gd cn cs L a ccd cl outer) (call (.ref f) vs) Q E s

theorem DoesB.use0 {w : World} {f : Addr} {vs : List Value} {size : Nat} {post : Value → List (Addr × Obj) → Prop} {Bs : Heap → Prop} (D : DoesB w f vs size [] post Bs)
    {p : Program} {loose : List Str} {mean : ExcName → Option Value} {mg mb : Str → Option Value}
    {dp un : Nat} {gd : Option (List Code)} {cn : Str} {cs : Scope} {a : Addr} {ccd : Value} {cl : List (Str × Addr)} {outer : List Env} {A₀ : Around} {base h₀ : Heap} {L : Addr} {m : Str → Option Value} {s : Shared}
    {Q E : Value → Shared → Prop} {news : List (Addr × Obj)}
    (B : Below A₀ base outer h₀) (F : Fr h₀ L s.heap m) (X : (Mine.hd.heap_39 w.params).In h₀) (N : News h₀ L s.heap news) (T : Top p loose mean mg mb h₀) (hk : cs.kind = .function) (hd : dp + size < recursionLimit) (hu : un + 8 * size < cLine) (hb : Bs h₀)
    (ret : ∀ r nw h' tk', Fr h₀ L h' m → News h₀ L h' (nw ++ news) → (∀ p ∈ nw, ∀ q ∈ news, @Ne Nat p.1 q.1) → post r nw → Q r { s with heap := h', toks := tk' }) :
    wpAny (model Challenge.rw_kl0130_01.row.prog w) (ktrTop dp un gd cn cs L a ccd cl outer) (call (.ref f) vs) Q E s := by
  refine D p loose mean mg mb dp un gd cn cs a ccd cl outer A₀ base h₀ L m s Q E B F X (fun _ h => nomatch h) T hk hd hu hb ?_
  intro r nw h' tk' F' N' ap po
  have ap' : ∀ q ∈ news, h'.get? q.1 = some q.2 ∧ ∀ p ∈ nw, @Ne Nat p.1 q.1 := fun q hq => ap q.1 q.2 (N q hq).1 fun hm => nomatch hm
  refine ret r nw h' tk' F' (fun q hq => ?_) (fun p hp q hq => (ap' q hq).2 p hp) po
  rcases List.mem_append.mp hq with hq | hq
  · exact N' q hq
  · exact ⟨(ap' q hq).1, (N q hq).2⟩

theorem drawn_does (w : World) (sa : Addr) (sv : List Value) (script : List Int) (Is : IntsAre sv script) (hfew : script.length ≤ 63) :
    DoesB w 79 [.ref sa] 1 [] DrawnPost (fun h => h.IsList sa sv.toArray) := by
  unfold DoesB
  w_top off
  k_fill
  intro p loose mean mg mb dp un gd cn cs a ccd cl outer A₀ base h₀ L m s Q E B F X N T hk hd hu hsc hret
  refine wpAny_call ?_
  k_dflt ((refine' code_def1 ?k1 ?k2 ?k3 ?k4 ?k5 ?kA ?kF ?kK ?k6 ?k7 ?k8 ?k9 ?kB ?_ ?c2 ?c3 ?c4 ?c5; (case kA => exact rfl); (case kF => exact rfl); (case kK => assumption); (case k1 => k_asm); (case k2 => k_asm); (case k3 => k_asm); (case k4 => k_asm); (case k5 => k_asm); (case k6 => k_is); (case k7 => k_is); (case k8 => ktr_room); (case k9 => exact BindsTo.of_eq rfl); (case c5 => decide); (case kB => exact locs rfl); (case c2 => exact rfl); (case c3 => exact rfl); (case c4 => exact rfl); k_whole; intro _ _ _ _ _ _ _ _ _ _; (try dsimp only); (try k_fold)))
  (rename Fr h₀ _ _ _ => FG0)
  have hsc' := hsc.at fun o e => FG0.keep _ o e
  k_steps
  unfold Halt
  (rename Fr _ _ _ _ => lF'); (rename News _ _ _ _ => lN'); (rename IntsAre _ (List.take _ _) => lI'); (rename @LT.lt Nat _ _ _ => lt1)
  rename_i D1 _ l1 _ D2 ws _ hC hL
  with_unfolding_all refine' enum_loopS (σ := DrSt) (Led := fun c => [(D1, listOf c.ds.toArray c.n)]) (ps := fun _ => []) (stored := [Str.ofString "turn", Str.ofString "number"]) (P := fun _ c => IntsAre c.ds c.ns ∧ c.ns.length = 12) (c₀ := ⟨_, [8, 43, 68, 22, 11, 9, 0, 5, 2, 4, 3, 1], 0⟩) [D1] (fun _ => rfl) rfl (PySem.IsL.isList (n := 0) (lN' _ (.head _)).1) (lN' _ (.head _)).2.1 ?hln lF' (nsub lN' ?hN) (List.forall_mem_nil _) ?hp ?turn ?done
  case hN => with_unfolding_all k_allIn
  case hln => exact List.forall_mem_cons.mpr ⟨Nat.ne_of_lt lt1, List.forall_mem_nil _⟩
  case hp => exact ⟨by repeat constructor, rfl⟩
  case turn =>
    rintro i v t ⟨ds, ns, n⟩ u h tk own hv hoff ⟨Id, Ld⟩ F1 N1
    obtain ⟨nv, tv, rfl, _⟩ := int_at lI' hv
    dsimp only at Id Ld F1 N1
    (try k_fold)
    clear lF' lN'
    k_steps
    refine' turn_end ⟨_, _, _⟩ (by assumption) (by assumption) ?hn (fun _ h => .tail _ h) (by assumption) (List.forall_mem_nil _) ?hr ⟨by assumption, ?len⟩
    case hn => with_unfolding_all k_allIn
    case hr => (intro z h2 h3; clear h2; (simp only [List.contains_cons, List.contains_nil, Bool.or_false, Bool.or_eq_false_iff, beq_eq_false_iff_ne, ne_eq] at h3); simp [kstB, h3])
    case len => simp [Ld]
  case done =>
    rintro ⟨ds, ns, n⟩ u h tk ⟨Id, Ld⟩ F1 N1
    dsimp only at Id Ld F1 N1
    clear lF' lN'
    (try k_fold)
    k_steps
    exact hret _ _ _ _ (by assumption) (by assumption) (apart_of (by assumption) (by assumption) (by assumption)) ⟨D1, n, ds, ns, rfl, rfl, Id, Ld⟩

def hsvF (h s v : UInt64) : UInt64 × UInt64 × UInt64 :=
  let f := Float64.sub (Float64.mul h 4618441417868443648) (Float64.ofInt (Flt.toInt Float64.truncOf (Float64.mul h 4618441417868443648)))
  let p := Float64.mul v (Float64.sub 4607182418800017408 s)
  let q := Float64.mul v (Float64.sub 4607182418800017408 (Float64.mul s f))
  let t := Float64.mul v (Float64.sub 4607182418800017408 (Float64.mul s (Float64.sub 4607182418800017408 f)))
  let i := (Flt.toInt Float64.truncOf (Float64.mul h 4618441417868443648)).fmod 6
  if i = 0 then (v, t, p) else if i = 1 then (q, v, p) else if i = 2 then (p, v, t) else if i = 3 then (p, q, v) else if i = 4 then (t, p, v) else (v, p, q)
structure HsvOk (h s : UInt64) : Prop where
  c1 : (Float64.cmp s 0 == some Ordering.eq) = false
  c2 : Float64.isNaN (Float64.mul h 4618441417868443648) = false
  c3 : Float64.isInf (Float64.mul h 4618441417868443648) = false
  c4 : (Flt.toInt Float64.truncOf (Float64.mul h 4618441417868443648)).natAbs ≤ 5
  c5 : 0 ≤ (Flt.toInt Float64.truncOf (Float64.mul h 4618441417868443648)).fmod 6 ∧ (Flt.toInt Float64.truncOf (Float64.mul h 4618441417868443648)).fmod 6 ≤ 5
theorem big_no {n : Nat} (h : 2 ^ 1024 - 2 ^ 970 ≤ n) (h5 : n ≤ 5) : False :=
  absurd (Nat.le_trans h h5) (by decide +kernel)

theorem hsv_does (w : World) (h s v : UInt64) (th ts tv : Tok) (ok : HsvOk h s) :
    Does w 28 [.float h th, .float s ts, .float v tv] 1 [] (fun r nw => ∃ R : Addr, ∃ x y z k1 k2 k3, r = .ref R ∧ nw = [(R, tup [.float x k1, .float y k2, .float z k3])] ∧ (x, y, z) = hsvF h s v) := by
  unfold Does
  w_top off
  k_fill
  intro p loose mean mg mb dp un gd cn cs a ccd cl outer A₀ base h₀ L m s' Q E B F X N T hk hd hu hret
  have c1 := ok.c1
  refine wpAny_call (flatUp fun fm => ?_)
  k_dflt ((refine' code_def1 ?k1 ?k2 ?k3 ?k4 ?k5 ?kA ?kF ?kK ?k6 ?k7 ?k8 ?k9 ?kB ?_ ?c2 ?c3 ?c4 ?c5; (case kA => exact rfl); (case kF => exact rfl); (case kK => assumption); (case k1 => k_asm); (case k2 => k_asm); (case k3 => k_asm); (case k4 => k_asm); (case k5 => k_asm); (case k6 => k_is); (case k7 => k_is); (case k8 => ktr_room); (case k9 => exact BindsTo.of_eq rfl); (case c5 => decide); (case kB => exact locs rfl); (case c2 => exact rfl); (case c3 => exact rfl); (case c4 => exact rfl); k_whole; intro _ _ _ _ _ _ _ _ _ _; (try dsimp only); (try k_fold)))
  k_steps
  all_goals first
    | (exfalso; rename Float64.isNaN _ = true => hq; have := ok.c2; rw [hq] at this; cases this)
    | (exfalso; rename Float64.isInf _ = true => hq; have := ok.c3; rw [hq] at this; cases this)
    | (exfalso; rename 2 ^ 1024 - 2 ^ 970 ≤ _ => hq; exact big_no hq ok.c4)
    | (exfalso; have c5 := ok.c5; omega)
    | skip
  all_goals (refine hret _ _ _ _ (by assumption) (by assumption) (apart_of (by assumption) (by assumption) (by assumption)) ⟨_, _, _, _, _, _, _, rfl, rfl, ?_⟩)
  all_goals (unfold hsvF; dsimp only; (repeat (first | rw [if_pos (by with_reducible assumption)] | rw [if_neg (by with_reducible assumption)])))

local macro_rules | `(tactic| walk_at "call builtin:max") => `(tactic| (k_here; (with_reducible show wpAny _ _ (call (Value.builtin _) [Value.float _ _, Value.float _ _, Value.float _ _]) _ _ _); k_dflt (refine' max3_N ?hh ?F ?N ?_; (case hh => exact rfl); (case F => k_asm); (case N => k_asm); k_whole); intro h' tk' k' F' N'))
local macro_rules | `(tactic| walk_at "call builtin:min") => `(tactic| (k_here; (with_reducible show wpAny _ _ (call (Value.builtin _) [Value.float _ _, Value.float _ _, Value.float _ _]) _ _ _); k_dflt (refine' min3_N ?hh ?F ?N ?_; (case hh => exact rfl); (case F => k_asm); (case N => k_asm); k_whole); intro h' tk' k' F' N'))
def hlsF (r g b : UInt64) : UInt64 × UInt64 × UInt64 :=
  let mx := max3F r g b
  let mn := min3F r g b
  let l := Float64.div (Float64.add mx mn) 4611686018427387904
  let d := Float64.sub mx mn
  let s := if (Float64.cmp l 4602678819172646912 == some Ordering.lt || Float64.cmp l 4602678819172646912 == some Ordering.eq) = true then Float64.div d (Float64.add mx mn) else Float64.div d (Float64.sub (Float64.sub 4611686018427387904 mx) mn)
  let rc := Float64.div (Float64.sub mx r) d
  let gc := Float64.div (Float64.sub mx g) d
  let bc := Float64.div (Float64.sub mx b) d
  let h := if (Float64.cmp r mx == some Ordering.eq) = true then Float64.sub bc gc else if (Float64.cmp g mx == some Ordering.eq) = true then Float64.sub (Float64.add 4611686018427387904 rc) bc else Float64.sub (Float64.add 4616189618054758400 gc) rc
  ((Float64.divmod (Float64.div h 4618441417868443648) 4607182418800017408).2, l, s)
structure HlsOk (r g b : UInt64) : Prop where
  c1 : (Float64.cmp (min3F r g b) (max3F r g b) == some Ordering.eq) = false
  c2 : Float64.isZero (Float64.add (max3F r g b) (min3F r g b)) = false
  c3 : Float64.isZero (Float64.sub (max3F r g b) (min3F r g b)) = false
  c4 : Float64.isZero (Float64.sub (Float64.sub 4611686018427387904 (max3F r g b)) (min3F r g b)) = false

theorem hls_does (w : World) (r g b : UInt64) (tr tg tb : Tok) (ok : HlsOk r g b) :
    Does w 21 [.float r tr, .float g tg, .float b tb] 1 [] (fun v nw => ∃ R : Addr, ∃ x y z k1 k2 k3, v = .ref R ∧ nw = [(R, tup [.float x k1, .float y k2, .float z k3])] ∧ (x, y, z) = hlsF r g b) := by
  unfold Does
  w_top off
  k_fill
  intro p loose mean mg mb dp un gd cn cs a ccd cl outer A₀ base h₀ L m s Q E B F X N T hk hd hu hret
  have c1 := ok.c1
  refine wpAny_call (flatUp fun fm => ?_)
  k_dflt ((refine' code_def1 ?k1 ?k2 ?k3 ?k4 ?k5 ?kA ?kF ?kK ?k6 ?k7 ?k8 ?k9 ?kB ?_ ?c2 ?c3 ?c4 ?c5; (case kA => exact rfl); (case kF => exact rfl); (case kK => assumption); (case k1 => k_asm); (case k2 => k_asm); (case k3 => k_asm); (case k4 => k_asm); (case k5 => k_asm); (case k6 => k_is); (case k7 => k_is); (case k8 => ktr_room); (case k9 => exact BindsTo.of_eq rfl); (case c5 => decide); (case kB => exact locs rfl); (case c2 => exact rfl); (case c3 => exact rfl); (case c4 => exact rfl); k_whole; intro _ _ _ _ _ _ _ _ _ _; (try dsimp only); (try k_fold)))
  k_steps
  all_goals first
    | (exfalso; rename Float64.isZero (Float64.add _ _) = true => hq; have := ok.c2; rw [hq] at this; cases this)
    | (exfalso; rename Float64.isZero (Float64.sub (max3F _ _ _) _) = true => hq; have := ok.c3; rw [hq] at this; cases this)
    | (exfalso; rename Float64.isZero (Float64.sub (Float64.sub _ _) _) = true => hq; have := ok.c4; rw [hq] at this; cases this)
    | skip
  all_goals (refine hret _ _ _ _ (by assumption) (by assumption) (apart_of (by assumption) (by assumption) (by assumption)) ⟨_, _, _, _, _, _, _, rfl, rfl, ?_⟩)
  all_goals (unfold hlsF; dsimp only; (repeat' split) <;> first | rfl | (exfalso; simp_all; done))

def hueF (i : Int) : UInt64 := Float64.ofFrac (decide (i < 0) != decide ((16 : Int) < 0)) i.natAbs (Int.natAbs 16)
def satF (e : Int) : UInt64 := Float64.sub 4607182418800017408 (Float64.ofFrac (decide (e < 0) != decide ((2 : Int) < 0)) e.natAbs (Int.natAbs 2))
def valF (l : Int) : UInt64 := Float64.ofFrac (decide (l < 0) != decide ((4 : Int) < 0)) l.natAbs (Int.natAbs 4)
def paintF (i e l : Int) : UInt64 × UInt64 × UInt64 := hsvF (hueF i) (satF e) (valF l)

theorem hsv_ok_all : ∀ i : Fin 9, ∀ e : Fin 2,
    (Float64.cmp (satF e.val) 0 == some Ordering.eq) = false ∧ Float64.isNaN (Float64.mul (hueF i.val) 4618441417868443648) = false ∧ Float64.isInf (Float64.mul (hueF i.val) 4618441417868443648) = false ∧
    (Flt.toInt Float64.truncOf (Float64.mul (hueF i.val) 4618441417868443648)).natAbs ≤ 5 ∧ 0 ≤ (Flt.toInt Float64.truncOf (Float64.mul (hueF i.val) 4618441417868443648)).fmod 6 ∧ (Flt.toInt Float64.truncOf (Float64.mul (hueF i.val) 4618441417868443648)).fmod 6 ≤ 5 := by decide +kernel
theorem nat_of {i n : Int} (h0 : 0 ≤ i) (h1 : i < n) : ∃ k : Nat, i = k ∧ (k : Int) < n := ⟨i.toNat, by omega, by omega⟩
theorem hsv_ok {i e : Int} (i0 : 0 ≤ i) (i9 : i < 9) (e0 : 0 ≤ e) (e2 : e < 2) : HsvOk (hueF i) (satF e) := by
  obtain ⟨n, rfl, hn⟩ := nat_of i0 i9
  obtain ⟨k, rfl, hk⟩ := nat_of e0 e2
  have := hsv_ok_all ⟨n, by omega⟩ ⟨k, by omega⟩
  exact ⟨this.1, this.2.1, this.2.2.1, this.2.2.2.1, this.2.2.2.2⟩

def Light (r g b : UInt64) : UInt64 := Float64.div (Float64.add (max3F r g b) (min3F r g b)) 4611686018427387904
def paintOk (p : UInt64 × UInt64 × UInt64) : Bool :=
  !(Float64.cmp (min3F p.1 p.2.1 p.2.2) (max3F p.1 p.2.1 p.2.2) == some Ordering.eq) && !(Float64.isZero (Float64.add (max3F p.1 p.2.1 p.2.2) (min3F p.1 p.2.1 p.2.2))) &&
  !(Float64.isZero (Float64.sub (max3F p.1 p.2.1 p.2.2) (min3F p.1 p.2.1 p.2.2))) && !(Float64.isZero (Float64.sub (Float64.sub 4611686018427387904 (max3F p.1 p.2.1 p.2.2)) (min3F p.1 p.2.1 p.2.2)))
theorem paint_ok_all : ∀ i : Fin 9, ∀ e : Fin 2, ∀ l : Fin 4, paintOk (paintF i.val e.val (l.val + 1)) = true := by decide +kernel
theorem hls_ok {i e l : Int} (i0 : 0 ≤ i) (i9 : i < 9) (e0 : 0 ≤ e) (e2 : e < 2) (l1 : 1 ≤ l) (l5 : l < 5) : HlsOk (paintF i e l).1 (paintF i e l).2.1 (paintF i e l).2.2 := by
  obtain ⟨n, rfl, hn⟩ := nat_of i0 i9
  obtain ⟨k, rfl, hk⟩ := nat_of e0 e2
  obtain ⟨j, hj, hj4⟩ := nat_of (show 0 ≤ l - 1 by omega) (show l - 1 < 4 by omega)
  obtain rfl : l = (j : Int) + 1 := by omega
  have := paint_ok_all ⟨n, by omega⟩ ⟨k, by omega⟩ ⟨j, by omega⟩
  unfold paintOk at this
  simp only [Bool.and_eq_true, Bool.not_eq_true'] at this
  exact ⟨this.1.1.1, this.1.1.2, this.1.2, this.2⟩

def paintH (p : UInt64 × UInt64 × UInt64) : UInt64 × UInt64 × UInt64 := hlsF p.1 p.2.1 p.2.2
theorem light_all : ∀ i : Fin 9, ∀ e : Fin 2, ∀ l : Fin 4,
    Float64.isNaN (Float64.mul (Float64.ofInt 16) (paintH (paintF i.val e.val (l.val + 1))).2.1) = false ∧ Float64.isInf (Float64.mul (Float64.ofInt 16) (paintH (paintF i.val e.val (l.val + 1))).2.1) = false ∧
    Flt.toInt Float64.truncOf (Float64.mul (Float64.ofInt 16) (paintH (paintF i.val e.val (l.val + 1))).2.1) = ((l.val : Int) + 1) * (2 + e.val) := by decide +kernel
theorem light_ok {i e l : Int} (i0 : 0 ≤ i) (i9 : i < 9) (e0 : 0 ≤ e) (e2 : e < 2) (l1 : 1 ≤ l) (l5 : l < 5) {x y z : UInt64} (h : (x, y, z) = hlsF (paintF i e l).1 (paintF i e l).2.1 (paintF i e l).2.2) :
    Float64.isNaN (Float64.mul (Float64.ofInt 16) y) = false ∧ Float64.isInf (Float64.mul (Float64.ofInt 16) y) = false ∧ Flt.toInt Float64.truncOf (Float64.mul (Float64.ofInt 16) y) = l * (2 + e) := by
  obtain ⟨n, rfl, hn⟩ := nat_of i0 i9
  obtain ⟨k, rfl, hk⟩ := nat_of e0 e2
  obtain ⟨j, hj, hj4⟩ := nat_of (show 0 ≤ l - 1 by omega) (show l - 1 < 4 by omega)
  obtain rfl : l = (j : Int) + 1 := by omega
  have := light_all ⟨n, by omega⟩ ⟨k, by omega⟩ ⟨j, by omega⟩
  have hy : y = (paintH (paintF (n : Int) (k : Int) ((j : Int) + 1))).2.1 := congrArg (fun p => p.2.1) h
  rw [hy]
  exact this

theorem hue_all : ∀ i : Fin 9, ∀ e : Fin 2, ∀ l : Fin 4, (Float64.cmpInt (Float64.mul (Float64.ofInt 16) (paintH (paintF i.val e.val (l.val + 1))).1) i.val != some Ordering.eq) = false := by decide +kernel
theorem hue_ok {i e l : Int} (i0 : 0 ≤ i) (i9 : i < 9) (e0 : 0 ≤ e) (e2 : e < 2) (l1 : 1 ≤ l) (l5 : l < 5) {x y z : UInt64} (h : (x, y, z) = hlsF (paintF i e l).1 (paintF i e l).2.1 (paintF i e l).2.2) :
    (Float64.cmpInt (Float64.mul (Float64.ofInt 16) x) i != some Ordering.eq) = false := by
  obtain ⟨n, rfl, hn⟩ := nat_of i0 i9
  obtain ⟨k, rfl, hk⟩ := nat_of e0 e2
  obtain ⟨j, hj, hj4⟩ := nat_of (show 0 ≤ l - 1 by omega) (show l - 1 < 4 by omega)
  obtain rfl : l = (j : Int) + 1 := by omega
  have := hue_all ⟨n, by omega⟩ ⟨k, by omega⟩ ⟨j, by omega⟩
  have hy : x = (paintH (paintF (n : Int) (k : Int) ((j : Int) + 1))).1 := congrArg (fun p => p.1) h
  rw [hy]
  exact this

abbrev ptup (p : UInt64 × UInt64 × UInt64) (k1 k2 k3 : Tok) : Obj := tup [.float p.1 k1, .float p.2.1 k2, .float p.2.2 k3]

structure QInv (s : S3) (qs : List (Option (Int × Int))) (ds : List Int) (pv : List Value) (pts : List (Addr × Obj)) (T : Tr) : Prop where
  pl : Plant s T
  Lp : pv.length = 9
  Ld : ds.length = 9
  Lq : qs.length = 9
  no : ∀ i : Nat, qs[i]? = some none → pv[i]? = some .none ∧ ds.getD i 0 = 0
  yes : ∀ (i : Nat) (pa le : Int), qs[i]? = some (some (pa, le)) → 0 ≤ pa ∧ pa < 2 ∧ 1 ≤ le ∧ le < 5 ∧ ds.getD i 0 = le * (2 + pa) ∧
    ∃ a k1 k2 k3, pv[i]? = some (.ref a) ∧ (a, ptup (paintF i pa le) k1 k2 k3) ∈ pts
  mem : ∀ x : Int, 0 ≤ x → x < 9 → (x ∈ T.ino ↔ ∃ q, qs[x.toNat]? = some (some q))

theorem getD_set_same {l : List Int} {i : Nat} {x : Int} (h : i < l.length) : (l.set i x).getD i 0 = x := by simp [h]
theorem getD_set_ne {l : List Int} {i j : Nat} {x : Int} (h : i ≠ j) : (l.set i x).getD j 0 = l.getD j 0 := by
  simp [List.getD_eq_getElem?_getD, List.getElem?_set_ne h]

theorem QInv.step {s s' : S3} {qs : List (Option (Int × Int))} {ds : List Int} {pv : List Value} {pts : List (Addr × Obj)} {T T' : Tr} (q : QInv s qs ds pv pts T) {x pa le : Int} (x0 : 0 ≤ x) (x9 : x < 9)
    (pl : Plant s' T') (hm : ∀ y, y ∈ T'.ino ↔ y = x ∨ y ∈ T.ino) (p0 : 0 ≤ pa) (p2 : pa < 2) (l1 : 1 ≤ le) (l5 : le < 5) {cx cy cz : UInt64} (he : (cx, cy, cz) = paintF x pa le) {R : Addr} {k1 k2 k3 : Tok} :
    QInv s' (qs.set x.toNat (some (pa, le))) (ds.set x.toNat (le * (2 + pa))) (pv.set x.toNat (.ref R)) ((R, tup [.float cx k1, .float cy k2, .float cz k3]) :: pts) T' := by
  have xt : ((x.toNat : Nat) : Int) = x := Int.toNat_of_nonneg x0
  have xl : x.toNat < 9 := by omega
  refine ⟨pl, by rw [List.length_set]; exact q.Lp, by rw [List.length_set]; exact q.Ld, by rw [List.length_set]; exact q.Lq, ?_, ?_, ?_⟩
  · intro i hi
    by_cases e : x.toNat = i
    · subst e
      rw [List.getElem?_set_self (by rw [q.Lq]; exact xl)] at hi
      cases hi
    · rw [List.getElem?_set_ne e] at hi
      rw [List.getElem?_set_ne e, getD_set_ne e]
      exact q.no i hi
  · intro i pa' le' hi
    by_cases e : x.toNat = i
    · subst e
      rw [List.getElem?_set_self (by rw [q.Lq]; exact xl)] at hi
      obtain ⟨rfl, rfl⟩ : pa = pa' ∧ le = le' := by simpa using hi
      refine ⟨p0, p2, l1, l5, getD_set_same (by rw [q.Ld]; exact xl), R, k1, k2, k3, List.getElem?_set_self (by rw [q.Lp]; exact xl), ?_⟩
      rw [xt, ← he]
      exact List.mem_cons_self ..
    · rw [List.getElem?_set_ne e] at hi
      rw [List.getElem?_set_ne e, getD_set_ne e]
      obtain ⟨a1, a2, a3, a4, a5, a, j1, j2, j3, h1, h2⟩ := q.yes i pa' le' hi
      exact ⟨a1, a2, a3, a4, a5, a, j1, j2, j3, h1, List.mem_cons_of_mem _ h2⟩
  · intro y y0 y9
    rw [hm y]
    by_cases e : x.toNat = y.toNat
    · have : y = x := by omega
      subst this
      rw [List.getElem?_set_self (by rw [q.Lq]; exact xl)]
      exact ⟨fun _ => ⟨_, rfl⟩, fun _ => .inl rfl⟩
    · rw [List.getElem?_set_ne e, ← q.mem y y0 y9]
      exact ⟨fun h => h.elim (fun z => absurd (by rw [z]) e) id, .inr⟩

theorem qinv_start {pv : List Value} (hp : pv = List.replicate 9 .none) :
    QInv ((List.replicate (Int.toNat 9) [(-2 : Int)]).flatten, (List.replicate (Int.toNat 9) [(-1 : Int)]).flatten, (List.replicate (Int.toNat 9) [(-1 : Int)]).flatten) (List.replicate 9 none) (List.replicate (Int.toNat 9) [(0 : Int)]).flatten pv [] .nil := by
  subst hp
  have ev : ∀ a : Int, (List.replicate (Int.toNat 9) [a]).flatten = List.replicate 9 a := fun a => rfl
  simp only [ev]
  have gr : ∀ (a : Int) (i : Nat), i < 9 → (List.replicate 9 a).getD i 0 = a := fun a i h => by rw [List.getD_eq_getElem?_getD, List.getElem?_replicate, if_pos h]; rfl
  refine ⟨⟨rfl, rfl, rfl, ⟨-1, rfl⟩, .nil, fun x x0 x9 _ => ?_⟩, rfl, rfl, rfl, fun i hi => ?_, fun i pa le hi => ?_, fun x x0 x9 => ?_⟩
  · exact ⟨gr _ _ (by omega), gr _ _ (by omega), gr _ _ (by omega)⟩
  · have hl : i < 9 := by
      rw [List.getElem?_replicate] at hi
      split at hi
      · assumption
      · cases hi
    exact ⟨by rw [List.getElem?_replicate, if_pos hl], gr _ _ hl⟩
  · exfalso
    rw [List.getElem?_replicate] at hi
    split at hi <;> cases hi
  · constructor
    · intro h; simp [Tr.ino] at h
    · rintro ⟨q, hq⟩
      exfalso
      rw [List.getElem?_replicate] at hq
      split at hq <;> cases hq

def keepF (qs : List (Option (Int × Int))) (l : List Int) (k : Int) : List Int := if (qs.getD k.toNat none).isSome = true then l ++ [k] else l
theorem keepF_grows (qs : List (Option (Int × Int))) : KPfGrows (keepF qs) := by
  unfold KPfGrows keepF
  intros
  split <;> simp
theorem keepF_some {qs : List (Option (Int × Int))} {l : List Int} {k : Int} {q : Int × Int} (h : qs[k.toNat]? = some (some q)) : keepF qs l k = l ++ [k] := by
  unfold keepF; rw [List.getD_eq_getElem?_getD, h]; rfl
theorem keepF_none {qs : List (Option (Int × Int))} {l : List Int} {k : Int} (h : qs[k.toNat]? = some none) : keepF qs l k = l := by
  unfold keepF; rw [List.getD_eq_getElem?_getD, h]; rfl
theorem q_cases {qs : List (Option (Int × Int))} {k : Int} (hl : qs.length = 9) (k0 : 0 ≤ k) (k9 : k < 9) : qs[k.toNat]? = some none ∨ ∃ pa le, qs[k.toNat]? = some (some (pa, le)) := by
  have : k.toNat < qs.length := by omega
  rw [List.getElem?_eq_getElem this]
  cases qs[k.toNat] with
  | none => exact .inl rfl
  | some q => exact .inr ⟨q.1, q.2, rfl⟩
section
variable {prog : Program} {w : World} {A : Around} {h₀ : Heap} {L : Addr} {m : Str → Option Value} {env : Env} {elt : PySem.Expr} {x : Str} {scope : Scope} {cl : List (Str × Addr)} {s : Shared} {S : List (Addr × Obj) → Prop} {Fin : List Value → List (Addr × Obj) → Prop} {news : List (Addr × Obj)}
/-- a comprehension over a list of any values, an int for each -/
theorem vals_rest {vs : List Value} {ns : List Int} (hl : ns.length = vs.length)
    (turn : ∀ (i : Nat) v k I oI C oC D m₂ ys h tk (E' : Value → Shared → Prop), vs[i]? = some v → ns[i]? = some k → LCg.NsObj oC m₂ → m₂ x = some v → Fr h₀ L h m → News h₀ L h ((I, oI) :: (C, oC) :: (D, LCg.lst ys) :: news) → LCg.Off3 I C D news → ((@Ne Nat I C) ∧ (@Ne Nat I D) ∧ (@Ne Nat C D)) →
      wpAny (model prog w) A (eval elt (compEnvC scope cl C env)) (LCg.CompEnd h₀ L m { s with heap := h, toks := tk } I oI C oC D (LCg.lst ys) S (fun y news' => KCfEl news k y news')) E' { s with heap := h, toks := tk })
    (fin : ∀ ys, IntsAre ys ns → Fin ys news) : LCg.CompRest prog w A h₀ L m env elt x scope cl s S (fun i v => vs.toArray[i]? = some v) Fin vs.toArray.size 0 [] news := by
  have hsz : vs.toArray.size = ns.length := by simp [hl]
  have key : ∀ (j i : Nat) (ys : List Value), i + j = ns.length → IntsAre ys (ns.take i) → LCg.CompRest prog w A h₀ L m env elt x scope cl s S (fun i v => vs.toArray[i]? = some v) Fin j i ys news := by
    intro j
    induction j with
    | zero =>
      intro i ys hi hy
      have e : i = ns.length := by omega
      subst e
      rw [List.take_length] at hy
      exact LCg.CompRest.zero (fin ys hy)
    | succ j ih =>
      intro i ys hi hy
      refine LCg.CompRest.succ ?_
      intro v I oI C oC D m₂ h tk E' hv hC hx F N off ne
      have hv' : vs[i]? = some v := by simpa using hv
      have hk : ns[i]? = some (ns[i]'(by omega)) := List.getElem?_eq_getElem _
      refine wpAny_mono (turn i v _ I oI C oC D m₂ ys h tk E' hv' hk hC hx F N off ne) (fun y s₂ hq => ?_) fun _ _ e => e
      obtain ⟨h', tk', nw, e, F', N', off', hS, hn, t', hy'⟩ := hq
      rw [hn] at N' off' hS
      refine ⟨h', tk', news, e, F', N', off', hS, ?_⟩
      rw [hy']
      refine ih (i + 1) _ (by omega) ?_
      rw [List.take_add_one, hk]
      exact IntsAre.append hy (.cons _ t' .nil)
  rw [hsz]
  exact key ns.length 0 [] (by omega) (by simp only [List.take_zero]; exact .nil)
end
/-- a fact laid by, so that no line takes it -/
def Keep (P : Prop) : Prop := P
theorem Keep.out {P : Prop} (h : Keep P) : P := h
theorem Keep.in {P : Prop} (h : P) : Keep P := h
theorem off1_all {D : Addr} : ∀ {l : List (Addr × Obj)}, LCg.Off1 D l → ∀ q ∈ l, @Ne Nat q.1 D
  | [], _, _, h => nomatch h
  | p :: r, x, q, h => by
    rcases List.mem_cons.mp h with rfl | h
    · exact x.1
    · exact off1_all x.2 q h
theorem Does.useQ {w : World} {f : Addr} {vs : List Value} {size : Nat} {pre : List (Addr × Obj)} {post : Value → List (Addr × Obj) → Prop} (D : Does w f vs size pre post) (is : List Nat) (tl : List (Addr × Obj))
    {p : Program} {loose : List Str} {mean : ExcName → Option Value} {mg mb : Str → Option Value}
    {dp un : Nat} {gd : Option (List Code)} {cn : Str} {cs : Scope} {a : Addr} {ccd : Value} {cl : List (Str × Addr)} {outer : List Env} {A₀ : Around} {base h₀ : Heap} {L : Addr} {m : Str → Option Value} {s : Shared}
    {Q E : Value → Shared → Prop} {news : List (Addr × Obj)}
    (B : Below A₀ base outer h₀) (F : Fr h₀ L s.heap m) (X : (Mine.hd.heap_39 w.params).In h₀) (N : News h₀ L s.heap news) (T : Top p loose mean mg mb h₀) (hk : cs.kind = .function) (hd : dp + size < recursionLimit) (hu : un + 8 * size < cLine)
    (hs : ∀ q ∈ pre, q ∈ news) (ht : ∀ q ∈ tl, q ∈ news) (hdis : ∀ q ∈ pickL is news, ∀ p ∈ pre, @Ne Nat p.1 q.1) (hdt : ∀ q ∈ tl, ∀ p ∈ pre, @Ne Nat p.1 q.1)
    (ret : ∀ r nw h' tk', Fr h₀ L h' m → News h₀ L h' (nw ++ (pickL is news ++ tl)) → (∀ p ∈ nw, ∀ q ∈ pickL is news, @Ne Nat p.1 q.1) → (∀ p ∈ nw, ∀ q ∈ tl, @Ne Nat p.1 q.1) → post r nw → Q r { s with heap := h', toks := tk' }) :
    wpAny (model Challenge.rw_kl0130_01.row.prog w) (ktrTop dp un gd cn cs L a ccd cl outer) (call (.ref f) vs) Q E s :=
  D.use (pickL is news ++ tl) B F X N T hk hd hu (fun q hq => (List.mem_append.mp hq).elim (hs q) fun h => (List.mem_append.mp h).elim pickL_mem (ht q)) (fun q hq => (List.mem_append.mp hq).elim (hdis q) (hdt q))
    (fun r nw h' tk' F' N' D' po => ret r nw h' tk' F' N' (fun p hp q hq => D' p hp q (List.mem_append_left _ hq)) (fun p hp q hq => D' p hp q (List.mem_append_right _ hq)) po)

inductive Fm where
  | L (p : Int) (c : Tr)
  | R (c : Tr) (p : Int)
def Fm.p : Fm → Int
  | .L p _ => p
  | .R _ p => p
def Fm.c : Fm → Tr
  | .L _ c => c
  | .R c _ => c
def Fm.plug : Fm → Tr → Tr
  | .L p c, t => .node t p c
  | .R c p, t => .node c p t
def plug : List Fm → Tr → Tr
  | [], t => t
  | f :: C, t => plug C (f.plug t)
def keys : List Fm → List Int
  | [] => []
  | f :: C => f.p :: (f.c.ino ++ keys C)
theorem Fm.plug_perm (f : Fm) (t : Tr) : (f.plug t).ino.Perm (t.ino ++ f.p :: f.c.ino) := by
  cases f with
  | L p c => exact List.Perm.refl _
  | R c p =>
    show (c.ino ++ p :: t.ino).Perm (t.ino ++ p :: c.ino)
    exact (List.perm_append_comm (l₁ := c.ino) (l₂ := p :: t.ino)).trans (by
      show (p :: (t.ino ++ c.ino)).Perm (t.ino ++ p :: c.ino)
      exact List.perm_middle.symm)
theorem plug_perm : ∀ (C : List Fm) (t : Tr), (plug C t).ino.Perm (t.ino ++ keys C)
  | [], t => by simp [plug, keys]
  | f :: C, t => by
    refine (plug_perm C (f.plug t)).trans ?_
    show ((f.plug t).ino ++ keys C).Perm (t.ino ++ f.p :: (f.c.ino ++ keys C))
    have := (f.plug_perm t).append_right (keys C)
    simpa [List.append_assoc] using this
theorem Fm.plug_ino (f : Fm) {t t' : Tr} (h : t.ino = t'.ino) : (f.plug t).ino = (f.plug t').ino := by
  cases f <;> simp [Fm.plug, Tr.ino, h]
theorem plug_ino : ∀ (C : List Fm) {t t' : Tr}, t.ino = t'.ino → (plug C t).ino = (plug C t').ino
  | [], _, _, h => h
  | f :: C, _, _, h => plug_ino C (f.plug_ino h)
theorem sorted_nodup {l : List Int} (h : l.Pairwise (· < ·)) : l.Nodup := h.imp fun h => Int.ne_of_lt h

def Fm.Link (s : S3) : Fm → Int → Prop
  | .L p c, i => s.2.1.getD p.toNat 0 = i ∧ Sub s.1 s.2.1 s.2.2 p c (s.2.2.getD p.toNat 0)
  | .R c p, i => s.2.2.getD p.toNat 0 = i ∧ Sub s.1 s.2.1 s.2.2 p c (s.2.1.getD p.toNat 0)
def Path (s : S3) : List Fm → Int → Int → Prop
  | [], par, _ => par = -1
  | f :: C, par, i => par = f.p ∧ 0 ≤ f.p ∧ f.p < 9 ∧ f.Link s i ∧ Path s C (s.1.getD f.p.toNat 0) f.p
theorem sub_plug {s : S3} : ∀ (C : List Fm) (t : Tr), (∃ j, Sub s.1 s.2.1 s.2.2 (-1) (plug C t) j) ↔ ∃ par i, Path s C par i ∧ Sub s.1 s.2.1 s.2.2 par t i
  | [], t => ⟨fun ⟨j, h⟩ => ⟨-1, j, rfl, h⟩, fun ⟨par, i, h, h'⟩ => ⟨i, by have e : par = -1 := h; rw [← e]; exact h'⟩⟩
  | f :: C, t => by
    show (∃ j, Sub s.1 s.2.1 s.2.2 (-1) (plug C (f.plug t)) j) ↔ _
    rw [sub_plug C (f.plug t)]
    constructor
    · rintro ⟨par, i, hP, hS⟩
      cases f with
      | L p c =>
        obtain ⟨e, p0, p9, hu, hl, hr⟩ := hS
        subst e
        refine ⟨i, _, ⟨rfl, p0, p9, ⟨rfl, hr⟩, ?_⟩, hl⟩
        show Path s C (s.1.getD i.toNat 0) i
        rw [hu]; exact hP
      | R c p =>
        obtain ⟨e, p0, p9, hu, hl, hr⟩ := hS
        subst e
        refine ⟨i, _, ⟨rfl, p0, p9, ⟨rfl, hl⟩, ?_⟩, hr⟩
        show Path s C (s.1.getD i.toNat 0) i
        rw [hu]; exact hP
    · rintro ⟨par, i, ⟨e, p0, p9, hL, hP⟩, hS⟩
      cases f with
      | L p c =>
        obtain ⟨e1, hr⟩ := hL
        refine ⟨_, p, hP, rfl, p0, p9, rfl, ?_, hr⟩
        show Sub _ _ _ p t (s.2.1.getD p.toNat 0)
        have e' : par = p := e
        rw [e1]; exact e' ▸ hS
      | R c p =>
        obtain ⟨e1, hl⟩ := hL
        refine ⟨_, p, hP, rfl, p0, p9, rfl, hl, ?_⟩
        show Sub _ _ _ p t (s.2.2.getD p.toNat 0)
        have e' : par = p := e
        rw [e1]; exact e' ▸ hS

theorem Fm.link_frame {s s' : S3} {f : Fm} {i : Int} (h : ∀ y, y = f.p ∨ y ∈ f.c.ino → Agr s s' y) (H : f.Link s i) : f.Link s' i := by
  cases f with
  | L p c =>
    obtain ⟨g1, g2, g3⟩ := h p (.inl rfl)
    obtain ⟨h1, h2⟩ := H
    exact ⟨g2.trans h1, by rw [g3]; exact Sub.frame (fun y hy => h y (.inr hy)) h2⟩
  | R c p =>
    obtain ⟨g1, g2, g3⟩ := h p (.inl rfl)
    obtain ⟨h1, h2⟩ := H
    exact ⟨g3.trans h1, by rw [g2]; exact Sub.frame (fun y hy => h y (.inr hy)) h2⟩
theorem path_frame {s s' : S3} : ∀ {C : List Fm} {par i : Int}, (∀ y ∈ keys C, Agr s s' y) → Path s C par i → Path s' C par i
  | [], _, _, _, h => h
  | f :: C, par, i, ag, ⟨e, p0, p9, hL, hP⟩ => by
    refine ⟨e, p0, p9, Fm.link_frame (fun y hy => ag y ?_) hL, ?_⟩
    · rcases hy with rfl | hy
      · exact .head _
      · exact .tail _ (List.mem_append_left _ hy)
    · rw [(ag f.p (.head _)).1]
      exact path_frame (fun y hy => ag y (.tail _ (List.mem_append_right _ hy))) hP
theorem path_keys {s : S3} : ∀ {C : List Fm} {par i : Int}, Path s C par i → (C = [] ∧ par = -1) ∨ (par ∈ keys C ∧ 0 ≤ par ∧ par < 9)
  | [], _, _, h => .inl ⟨rfl, h⟩
  | f :: C, par, i, ⟨e, p0, p9, _, _⟩ => .inr ⟨by rw [e]; exact .head _, by rw [e]; exact p0, by rw [e]; exact p9⟩

theorem Sub.move {s s' : S3} {par par' i : Int} {T : Tr} (nd : T.ino.Nodup) (H : Sub s.1 s.2.1 s.2.2 par T i) (ag : ∀ y ∈ T.ino, y ≠ i → Agr s s' y)
    (hi : i ∈ T.ino → s'.1.getD i.toNat 0 = par' ∧ s'.2.1.getD i.toNat 0 = s.2.1.getD i.toNat 0 ∧ s'.2.2.getD i.toNat 0 = s.2.2.getD i.toNat 0) : Sub s'.1 s'.2.1 s'.2.2 par' T i := by
  cases T with
  | nil => exact H
  | node a x b =>
    obtain ⟨e, x0, x9, hu, ha, hb⟩ := H
    subst e
    obtain ⟨g1, g2, g3⟩ := hi (by simp [Tr.ino])
    simp only [Tr.ino, List.nodup_append, List.nodup_cons] at nd
    obtain ⟨na, ⟨nb1, nb⟩, nc⟩ := nd
    refine ⟨rfl, x0, x9, g1, ?_, ?_⟩
    · rw [g2]; exact Sub.frame (fun y hy => ag y (by simp [Tr.ino, hy]) (nc y hy i (.head _))) ha
    · rw [g3]; exact Sub.frame (fun y hy => ag y (by simp [Tr.ino, hy]) (fun e => nb1 (e ▸ hy))) hb

theorem gp {l : List Int} {x y v : Int} (hl : l.length = 9) (x0 : 0 ≤ x) (x9 : x < 9) (y0 : 0 ≤ y) : (l.set x.toNat v).getD y.toNat 0 = if x = y then v else l.getD y.toNat 0 := by
  by_cases h : x = y
  · subst h; rw [if_pos rfl]; exact gp_same hl x0 x9
  · rw [if_neg h]; exact gp_ne x0 y0 h
structure TRange (s : S3) (x p top j : Int) : Prop where
  Lu : s.1.length = 9
  Ll : s.2.1.length = 9
  Lh : s.2.2.length = 9
  x0 : 0 ≤ x
  x9 : x < 9
  p0 : 0 ≤ p
  p9 : p < 9
  t9 : top < 9
  j9 : j < 9
  ep : s.1.getD x.toNat 0 = p
  et : s.1.getD p.toNat 0 = top
  pt : p ≠ top
theorem ups_turn {s : S3} {x p top j : Int} (t : TRange s x p top j) {y : Int} (y0 : 0 ≤ y) :
    (((if 0 ≤ j then s.1.set j.toNat p else s.1).set p.toNat x).set x.toNat top).getD y.toNat 0 = if x = y then top else if p = y then x else if 0 ≤ j ∧ j = y then p else s.1.getD y.toNat 0 := by
  rw [gp (by rw [List.length_set]; split <;> simp [t.Lu]) t.x0 t.x9 y0, gp (by split <;> simp [t.Lu]) t.p0 t.p9 y0]
  by_cases h : 0 ≤ j
  · rw [if_pos h, gp t.Lu h t.j9 y0]; simp only [h, true_and]
  · rw [if_neg h]; simp only [h, false_and, if_false]
theorem turn_left {s : S3} {x p top j : Int} (t : TRange s x p top j) (ej : s.2.2.getD x.toNat 0 = j) (hc : s.2.1.getD p.toNat 0 = x) {y : Int} (y0 : 0 ≤ y) :
    (turnS s x).1.getD y.toNat 0 = (if x = y then top else if p = y then x else if 0 ≤ j ∧ j = y then p else s.1.getD y.toNat 0) ∧
    (turnS s x).2.1.getD y.toNat 0 = (if 0 ≤ top ∧ s.2.1.getD top.toNat 0 = p ∧ top = y then x else if p = y then j else s.2.1.getD y.toNat 0) ∧
    (turnS s x).2.2.getD y.toNat 0 = (if 0 ≤ top ∧ s.2.1.getD top.toNat 0 ≠ p ∧ top = y then x else if x = y then p else s.2.2.getD y.toNat 0) := by
  unfold turnS turnF
  simp only [t.ep, t.et, ej, hc, if_true]
  by_cases h : 0 ≤ top
  · rw [if_pos h, gp t.Ll t.p0 t.p9 h, if_neg t.pt]
    by_cases hq : s.2.1.getD top.toNat 0 = p
    · rw [if_pos hq]
      refine ⟨ups_turn t y0, ?_, ?_⟩
      · dsimp only
        rw [gp (by rw [List.length_set]; exact t.Ll) h t.t9 y0, gp t.Ll t.p0 t.p9 y0]
        simp only [h, hq, true_and]
      · dsimp only
        rw [gp t.Lh t.x0 t.x9 y0]
        simp only [h, hq, true_and, not_true, ne_eq, false_and, if_false]
    · rw [if_neg hq]
      refine ⟨ups_turn t y0, ?_, ?_⟩
      · dsimp only
        rw [gp t.Ll t.p0 t.p9 y0]
        simp only [h, hq, true_and, false_and, if_false]
      · dsimp only
        rw [gp (by rw [List.length_set]; exact t.Lh) h t.t9 y0, gp t.Lh t.x0 t.x9 y0]
        simp only [h, hq, true_and, not_false_eq_true, ne_eq]
  · rw [if_neg h]
    refine ⟨ups_turn t y0, ?_, ?_⟩
    · dsimp only
      rw [gp t.Ll t.p0 t.p9 y0]
      simp only [h, false_and, if_false]
    · dsimp only
      rw [gp t.Lh t.x0 t.x9 y0]
      simp only [h, false_and, if_false]
theorem turn_right {s : S3} {x p top j : Int} (t : TRange s x p top j) (ej : s.2.1.getD x.toNat 0 = j) (hc : s.2.1.getD p.toNat 0 ≠ x) (xt : x ≠ top) {y : Int} (y0 : 0 ≤ y) :
    (turnS s x).1.getD y.toNat 0 = (if x = y then top else if p = y then x else if 0 ≤ j ∧ j = y then p else s.1.getD y.toNat 0) ∧
    (turnS s x).2.2.getD y.toNat 0 = (if 0 ≤ top ∧ s.2.1.getD top.toNat 0 ≠ p ∧ top = y then x else if p = y then j else s.2.2.getD y.toNat 0) ∧
    (turnS s x).2.1.getD y.toNat 0 = (if 0 ≤ top ∧ s.2.1.getD top.toNat 0 = p ∧ top = y then x else if x = y then p else s.2.1.getD y.toNat 0) := by
  unfold turnS turnF
  simp only [t.ep, t.et, ej, hc, if_false]
  by_cases h : 0 ≤ top
  · rw [if_pos h, gp t.Ll t.x0 t.x9 h, if_neg xt]
    by_cases hq : s.2.1.getD top.toNat 0 = p
    · rw [if_pos hq]
      refine ⟨ups_turn t y0, ?_, ?_⟩
      · dsimp only
        rw [gp t.Lh t.p0 t.p9 y0]
        simp only [h, hq, true_and, not_true, ne_eq, false_and, if_false]
      · dsimp only
        rw [gp (by rw [List.length_set]; exact t.Ll) h t.t9 y0, gp t.Ll t.x0 t.x9 y0]
        simp only [h, hq, true_and]
    · rw [if_neg hq]
      refine ⟨ups_turn t y0, ?_, ?_⟩
      · dsimp only
        rw [gp (by rw [List.length_set]; exact t.Lh) h t.t9 y0, gp t.Lh t.p0 t.p9 y0]
        simp only [h, hq, true_and, not_false_eq_true, ne_eq]
      · dsimp only
        rw [gp t.Ll t.x0 t.x9 y0]
        simp only [h, hq, true_and, false_and, if_false]
  · rw [if_neg h]
    refine ⟨ups_turn t y0, ?_, ?_⟩
    · dsimp only
      rw [gp t.Lh t.p0 t.p9 y0]
      simp only [h, false_and, if_false]
    · dsimp only
      rw [gp t.Ll t.x0 t.x9 y0]
      simp only [h, false_and, if_false]
theorem turn_len {s : S3} {x : Int} (Lu : s.1.length = 9) (Ll : s.2.1.length = 9) (Lh : s.2.2.length = 9) : (turnS s x).1.length = 9 ∧ (turnS s x).2.1.length = 9 ∧ (turnS s x).2.2.length = 9 := by
  unfold turnS turnF
  dsimp only
  (repeat' split) <;> simp [Lu, Ll, Lh]

def Fm.isL : Fm → Bool
  | .L _ _ => true
  | .R _ _ => false
def Fm.rot (f : Fm) (a : Tr) (x : Int) (b : Tr) : Tr :=
  match f with
  | .L p c => .node a x (.node b p c)
  | .R c p => .node (.node c p a) x b
theorem Fm.rot_ino (f : Fm) (a : Tr) (x : Int) (b : Tr) : (f.plug (.node a x b)).ino = (f.rot a x b).ino := by
  cases f <;> simp [Fm.plug, Fm.rot, Tr.ino, List.append_assoc]
theorem link_dir {s : S3} {f : Fm} {i : Int} (hi : 0 ≤ i) (hn : i ∉ f.c.ino) (h : f.Link s i) : (s.2.1.getD f.p.toNat 0 == i) = f.isL := by
  cases f with
  | L p c => exact beq_iff_eq.mpr h.1
  | R c p =>
    refine beq_false_of_ne fun e => ?_
    rcases h.2.rooted with ⟨_, e2⟩ | ⟨e2, _⟩
    · have e3 : s.2.1.getD p.toNat 0 = i := e
      omega
    · exact hn (by have e3 : s.2.1.getD p.toNat 0 = i := e; rw [← e3]; exact e2)
/-- the way above the turned word: it now leads to x -/
theorem path_turn {s s' : S3} {x p j : Int} (hp : 0 ≤ p) {C : List Fm} {top : Int} (hP : Path s C top p) (nd : (keys C).Nodup) (xk : x ∉ keys C) (pk : p ∉ keys C) (jk : 0 ≤ j → j ∉ keys C)
    (k0 : ∀ y ∈ keys C, 0 ≤ y)
    (ag : ∀ y, 0 ≤ y → x ≠ y → p ≠ y → (0 ≤ j → j ≠ y) → (0 ≤ top → top ≠ y) → Agr s s' y)
    (u : 0 ≤ top → s'.1.getD top.toNat 0 = s.1.getD top.toNat 0)
    (l : 0 ≤ top → s'.2.1.getD top.toNat 0 = if s.2.1.getD top.toNat 0 = p then x else s.2.1.getD top.toNat 0)
    (h : 0 ≤ top → s'.2.2.getD top.toNat 0 = if s.2.1.getD top.toNat 0 = p then s.2.2.getD top.toNat 0 else x) : Path s' C top x := by
  cases C with
  | nil => exact hP
  | cons g C' =>
    obtain ⟨e, g0, g9, hL, hP'⟩ := hP
    have t0 : 0 ≤ top := by rw [e]; exact g0
    have hk : keys (g :: C') = g.p :: (g.c.ino ++ keys C') := rfl
    rw [hk] at nd xk pk jk k0
    obtain ⟨nd1, nd2⟩ := List.nodup_cons.mp nd
    have agk : ∀ y ∈ g.c.ino ++ keys C', Agr s s' y := fun y hy => by
      refine ag y (k0 y (.tail _ hy)) (fun q => xk (q ▸ .tail _ hy)) (fun q => pk (q ▸ .tail _ hy)) (fun j0 q => jk j0 (q ▸ .tail _ hy)) (fun _ q => nd1 ?_)
      rw [← e, q]; exact hy
    refine ⟨e, g0, g9, ?_, ?_⟩
    · cases g with
      | L q d =>
        obtain ⟨h1, h2⟩ := hL
        have e' : top = q := e
        subst e'
        refine ⟨?_, ?_⟩
        · rw [l t0, if_pos h1]
        · rw [h t0, if_pos h1]
          exact Sub.frame (fun y hy => agk y (List.mem_append_left _ hy)) h2
      | R d q =>
        obtain ⟨h1, h2⟩ := hL
        have e' : top = q := e
        subst e'
        have hne : s.2.1.getD top.toNat 0 ≠ p := fun e3 => by
          rcases h2.rooted with ⟨_, e2⟩ | ⟨e2, _⟩
          · omega
          · exact pk (.tail _ (List.mem_append_left _ (by rw [← e3]; exact e2)))
        refine ⟨?_, ?_⟩
        · rw [h t0, if_neg hne]
        · rw [l t0, if_neg hne]
          exact Sub.frame (fun y hy => agk y (List.mem_append_left _ hy)) h2
    · have e1 : s'.1.getD g.p.toNat 0 = s.1.getD g.p.toNat 0 := by rw [← e]; exact u t0
      rw [e1]
      exact path_frame (fun y hy => agk y (List.mem_append_right _ hy)) hP'

theorem sub_child9 {u l h : List Int} {T : Tr} {par i : Int} (H : Sub u l h par T i) : i < 9 ∧ -1 ≤ i ∧ (0 ≤ i → i ∈ T.ino) := by
  rcases H.rooted with ⟨_, e⟩ | ⟨e, _⟩
  · exact ⟨by omega, by omega, fun h => by omega⟩
  · have := H.up i e
    exact ⟨this.2.1, by omega, fun _ => e⟩

structure TurnGives (s : S3) (f : Fm) (C : List Fm) (a : Tr) (x : Int) (b : Tr) : Prop where
  ok : TurnOk s x
  up : s.1.getD x.toNat 0 = f.p
  p0 : 0 ≤ f.p
  dir : (s.2.1.getD f.p.toNat 0 == x) = f.isL
  pl : Plant (turnS s x) (plug C (f.rot a x b))
  top0 : C = [] → s.1.getD f.p.toNat 0 = -1
  top1 : ∀ g C', C = g :: C' → s.1.getD f.p.toNat 0 = g.p ∧ 0 ≤ g.p ∧ (s.2.1.getD g.p.toNat 0 == f.p) = g.isL

theorem turn_plant {s : S3} {f : Fm} {C : List Fm} {a b : Tr} {x : Int} (P : Plant s (plug (f :: C) (.node a x b))) : TurnGives s f C a x b := by
  have nd0 := (plug_perm (f :: C) (.node a x b)).nodup_iff.mp (sorted_nodup P.sorted)
  have nd : ((a.ino ++ x :: b.ino) ++ f.p :: (f.c.ino ++ keys C)).Nodup := nd0
  rw [List.nodup_append] at nd
  obtain ⟨n1, n2, n3⟩ := nd
  rw [List.nodup_append] at n1
  obtain ⟨na, nxb, nab⟩ := n1
  obtain ⟨nxb1, nb⟩ := List.nodup_cons.mp nxb
  obtain ⟨np, nck⟩ := List.nodup_cons.mp n2
  rw [List.nodup_append] at nck
  obtain ⟨nc, nk, nckx⟩ := nck
  obtain ⟨par, i, ⟨ePar, p0, p9, hL, hP⟩, ei, x0, x9, hux, hSa, hSb⟩ := (sub_plug (f :: C) (.node a x b)).mp P.rt
  subst ei
  have xin : i ∈ a.ino ++ i :: b.ino := List.mem_append_right _ (.head _)
  have xp : i ≠ f.p := n3 i xin f.p (.head _)
  have xk : i ∉ keys C := fun h => n3 i xin i (.tail _ (List.mem_append_right _ h)) rfl
  have xc : i ∉ f.c.ino := fun h => n3 i xin i (.tail _ (List.mem_append_left _ h)) rfl
  have pk : f.p ∉ keys C := fun h => np (List.mem_append_right _ h)
  have pc : f.p ∉ f.c.ino := fun h => np (List.mem_append_left _ h)
  have ca := sub_child9 hSa
  have cb := sub_child9 hSb
  have htop := path_keys hP
  have ux : s.1.getD i.toNat 0 = f.p := hux.trans ePar
  have top9 : s.1.getD f.p.toNat 0 < 9 := by rcases htop with ⟨_, e⟩ | ⟨_, _, e⟩ <;> omega
  have pt : f.p ≠ s.1.getD f.p.toNat 0 := fun e => by
    rcases htop with ⟨_, e2⟩ | ⟨e2, _⟩
    · omega
    · exact pk (by rw [e]; exact e2)
  have xt : i ≠ s.1.getD f.p.toNat 0 := fun e => by
    rcases htop with ⟨_, e2⟩ | ⟨e2, _⟩
    · omega
    · exact xk (by rw [e]; exact e2)
  have k0 : ∀ y ∈ keys C, 0 ≤ y := fun y hy => by
    obtain ⟨jj, hS⟩ := P.rt
    exact (hS.up y ((plug_perm (f :: C) (.node a i b)).mem_iff.mpr (List.mem_append_right _ (.tail _ (List.mem_append_right _ hy))))).1
  have topk : 0 ≤ s.1.getD f.p.toNat 0 → s.1.getD f.p.toNat 0 ∈ keys C := fun h => by
    rcases htop with ⟨_, e2⟩ | ⟨e2, _⟩
    · omega
    · exact e2
  have hlen := turn_len (x := i) P.Lu P.Ll P.Lh
  have hino : ∀ z, z ∈ (plug C (f.rot a i b)).ino ↔ z ∈ (plug (f :: C) (.node a i b)).ino := fun z => by
    have : (plug C (f.rot a i b)).ino = (plug (f :: C) (.node a i b)).ino := plug_ino C (f.rot_ino a i b).symm
    rw [this]
  have hall : ∀ z, z ∉ (plug (f :: C) (.node a i b)).ino → z ∉ a.ino ∧ z ≠ i ∧ z ∉ b.ino ∧ z ≠ f.p ∧ z ∉ f.c.ino ∧ z ∉ keys C := fun z hz => by
    rw [(plug_perm (f :: C) (.node a i b)).mem_iff] at hz
    have hz' : z ∉ (a.ino ++ i :: b.ino) ++ f.p :: (f.c.ino ++ keys C) := hz
    simp only [List.mem_append, List.mem_cons, not_or] at hz'
    exact ⟨hz'.1.1, hz'.1.2.1, hz'.1.2.2, hz'.2.1, hz'.2.2.1, hz'.2.2.2⟩
  have tops : (C = [] → s.1.getD f.p.toNat 0 = -1) ∧ (∀ g C', C = g :: C' → s.1.getD f.p.toNat 0 = g.p ∧ 0 ≤ g.p ∧ (s.2.1.getD g.p.toNat 0 == f.p) = g.isL) := by
    refine ⟨fun e => ?_, fun g C' e => ?_⟩
    · subst e; exact hP
    · subst e
      obtain ⟨e1, g0, g9, hL', _⟩ := hP
      exact ⟨e1, g0, link_dir p0 (fun h => pk (.tail _ (List.mem_append_left _ h))) hL'⟩
  have ok : TurnOk s i := ⟨P.Lu, P.Ll, P.Lh, x0, x9, by rw [ux]; exact p0, by rw [ux]; exact p9, by rw [ux]; exact top9, cb.1, ca.1⟩
  refine ⟨ok, ux, p0, link_dir x0 xc hL, ⟨hlen.1, hlen.2.1, hlen.2.2, ?_, ?_, ?_⟩, tops.1, tops.2⟩
  · refine (sub_plug C _).mpr ⟨s.1.getD f.p.toNat 0, i, ?_⟩
    cases f with
    | L p c =>
      obtain ⟨hc, hSc⟩ := hL
      dsimp only [Fm.p, Fm.c] at *
      have t : TRange s i p (s.1.getD p.toNat 0) (s.2.2.getD i.toNat 0) := ⟨P.Lu, P.Ll, P.Lh, x0, x9, p0, p9, top9, cb.1, ux, rfl, pt⟩
      have V := fun y (y0 : 0 ≤ y) => turn_left t rfl hc y0
      have jb := cb.2.2
      have ag : ∀ y, 0 ≤ y → i ≠ y → p ≠ y → (0 ≤ s.2.2.getD i.toNat 0 → s.2.2.getD i.toNat 0 ≠ y) → (0 ≤ s.1.getD p.toNat 0 → s.1.getD p.toNat 0 ≠ y) → Agr s (turnS s i) y := fun y y0 h1 h2 h3 h4 => by
        refine ⟨?_, ?_, ?_⟩
        · rw [(V y y0).1, if_neg h1, if_neg h2, if_neg (fun h => h3 h.1 h.2)]
        · rw [(V y y0).2.1, if_neg (fun h => h4 h.1 h.2.2), if_neg h2]
        · rw [(V y y0).2.2, if_neg (fun h => h4 h.1 h.2.2), if_neg h1]
      have xb' : ∀ y ∈ b.ino, y ≠ i := fun y hy e => nxb1 (e ▸ hy)
      have pin : ∀ y ∈ a.ino ++ i :: b.ino, y ≠ p := fun y hy => n3 y hy p (.head _)
      have kin : ∀ y ∈ a.ino ++ i :: b.ino, 0 ≤ s.1.getD p.toNat 0 → s.1.getD p.toNat 0 ≠ y := fun y hy h e => n3 y hy y (.tail _ (List.mem_append_right _ (by rw [← e]; exact topk h))) rfl
      refine ⟨path_turn (p := p) (j := s.2.2.getD i.toNat 0) p0 hP nk xk pk (fun h hm => n3 _ (List.mem_append_right _ (.tail _ (jb h))) _ (.tail _ (List.mem_append_right _ hm)) rfl) k0 ag ?_ ?_ ?_, rfl, x0, x9, ?_, ?_, ?_⟩
      · intro h
        rw [(V _ h).1, if_neg xt, if_neg pt, if_neg (fun q => n3 _ (List.mem_append_right _ (.tail _ (jb q.1))) _ (.tail _ (List.mem_append_right _ (topk h))) q.2)]
      · intro h
        rw [(V _ h).2.1, if_neg (c := p = _) pt]
        by_cases hq : s.2.1.getD (s.1.getD p.toNat 0).toNat 0 = p
        · rw [if_pos ⟨h, hq, rfl⟩, if_pos hq]
        · rw [if_neg (fun q => hq q.2.1), if_neg hq]
      · intro h
        rw [(V _ h).2.2, if_neg (c := i = _) xt]
        by_cases hq : s.2.1.getD (s.1.getD p.toNat 0).toNat 0 = p
        · rw [if_neg (fun q => q.2.1 hq), if_pos hq]
        · rw [if_pos ⟨h, hq, rfl⟩, if_neg hq]
      · rw [(V i x0).1, if_pos rfl]
      · rw [(V i x0).2.1, if_neg (fun q => xt q.2.2.symm), if_neg (Ne.symm xp)]
        exact Sub.frame (fun y hy => ag y (hSa.up y hy).1 (fun e => nab y hy i (.head _) e.symm) (fun e => pin y (List.mem_append_left _ hy) e.symm) (fun h e => nab y hy y (.tail _ (by rw [← e]; exact jb h)) rfl) (kin y (List.mem_append_left _ hy))) hSa
      · rw [(V i x0).2.2, if_neg (fun q => xt q.2.2.symm), if_pos rfl]
        refine ⟨rfl, p0, p9, ?_, ?_, ?_⟩
        · rw [(V p p0).1, if_neg xp, if_pos rfl]
        · rw [(V p p0).2.1, if_neg (fun q => pt q.2.2.symm), if_pos rfl]
          refine Sub.move nb hSb (fun y hy hne => ag y (hSb.up y hy).1 (fun e => xb' y hy e.symm) (fun e => pin y (List.mem_append_right _ (.tail _ hy)) e.symm) (fun _ e => hne e.symm) (kin y (List.mem_append_right _ (.tail _ hy)))) (fun hj => ?_)
          have j0 := (hSb.up _ hj).1
          have jx := xb' _ hj
          have jp := pin _ (List.mem_append_right _ (.tail _ hj))
          have jt := kin _ (List.mem_append_right _ (.tail _ hj))
          exact ⟨by rw [(V _ j0).1, if_neg (Ne.symm jx), if_neg (Ne.symm jp), if_pos ⟨j0, rfl⟩], by rw [(V _ j0).2.1, if_neg (fun q => jt q.1 q.2.2), if_neg (Ne.symm jp)], by rw [(V _ j0).2.2, if_neg (fun q => jt q.1 q.2.2), if_neg (Ne.symm jx)]⟩
        · rw [(V p p0).2.2, if_neg (fun q => pt q.2.2.symm), if_neg xp]
          refine Sub.frame (fun y hy => ag y (hSc.up y hy).1 (fun e => xc (e ▸ hy)) (fun e => pc (e ▸ hy)) (fun h e => n3 _ (List.mem_append_right _ (.tail _ (jb h))) _ (.tail _ (List.mem_append_left _ hy)) e) (fun h e => nckx y hy _ (topk h) e.symm)) hSc
    | R c p =>
      obtain ⟨hc, hSc⟩ := hL
      dsimp only [Fm.p, Fm.c] at *
      have hcl : s.2.1.getD p.toNat 0 ≠ i := fun e3 => by
        rcases hSc.rooted with ⟨_, e2⟩ | ⟨e2, _⟩
        · omega
        · exact xc (by rw [← e3]; exact e2)
      have t : TRange s i p (s.1.getD p.toNat 0) (s.2.1.getD i.toNat 0) := ⟨P.Lu, P.Ll, P.Lh, x0, x9, p0, p9, top9, ca.1, ux, rfl, pt⟩
      have V := fun y (y0 : 0 ≤ y) => turn_right t rfl hcl xt y0
      have jb := ca.2.2
      have ag : ∀ y, 0 ≤ y → i ≠ y → p ≠ y → (0 ≤ s.2.1.getD i.toNat 0 → s.2.1.getD i.toNat 0 ≠ y) → (0 ≤ s.1.getD p.toNat 0 → s.1.getD p.toNat 0 ≠ y) → Agr s (turnS s i) y := fun y y0 h1 h2 h3 h4 => by
        refine ⟨?_, ?_, ?_⟩
        · rw [(V y y0).1, if_neg h1, if_neg h2, if_neg (fun h => h3 h.1 h.2)]
        · rw [(V y y0).2.2, if_neg (fun h => h4 h.1 h.2.2), if_neg h1]
        · rw [(V y y0).2.1, if_neg (fun h => h4 h.1 h.2.2), if_neg h2]
      have xb' : ∀ y ∈ a.ino, y ≠ i := fun y hy e => nab y hy i (.head _) e
      have pin : ∀ y ∈ a.ino ++ i :: b.ino, y ≠ p := fun y hy => n3 y hy p (.head _)
      have kin : ∀ y ∈ a.ino ++ i :: b.ino, 0 ≤ s.1.getD p.toNat 0 → s.1.getD p.toNat 0 ≠ y := fun y hy h e => n3 y hy y (.tail _ (List.mem_append_right _ (by rw [← e]; exact topk h))) rfl
      refine ⟨path_turn (p := p) (j := s.2.1.getD i.toNat 0) p0 hP nk xk pk (fun h hm => n3 _ (List.mem_append_left _ (jb h)) _ (.tail _ (List.mem_append_right _ hm)) rfl) k0 ag ?_ ?_ ?_, rfl, x0, x9, ?_, ?_, ?_⟩
      · intro h
        rw [(V _ h).1, if_neg xt, if_neg pt, if_neg (fun q => n3 _ (List.mem_append_left _ (jb q.1)) _ (.tail _ (List.mem_append_right _ (topk h))) q.2)]
      · intro h
        rw [(V _ h).2.2, if_neg (c := i = _) xt]
        by_cases hq : s.2.1.getD (s.1.getD p.toNat 0).toNat 0 = p
        · rw [if_pos ⟨h, hq, rfl⟩, if_pos hq]
        · rw [if_neg (fun q => hq q.2.1), if_neg hq]
      · intro h
        rw [(V _ h).2.1, if_neg (c := p = _) pt]
        by_cases hq : s.2.1.getD (s.1.getD p.toNat 0).toNat 0 = p
        · rw [if_neg (fun q => q.2.1 hq), if_pos hq]
        · rw [if_pos ⟨h, hq, rfl⟩, if_neg hq]
      · rw [(V i x0).1, if_pos rfl]
      · rw [(V i x0).2.2, if_neg (fun q => xt q.2.2.symm), if_pos rfl]
        refine ⟨rfl, p0, p9, ?_, ?_, ?_⟩
        · rw [(V p p0).1, if_neg xp, if_pos rfl]
        · rw [(V p p0).2.2, if_neg (fun q => pt q.2.2.symm), if_neg xp]
          refine Sub.frame (fun y hy => ag y (hSc.up y hy).1 (fun e => xc (e ▸ hy)) (fun e => pc (e ▸ hy)) (fun h e => n3 _ (List.mem_append_left _ (jb h)) _ (.tail _ (List.mem_append_left _ hy)) e) (fun h e => nckx y hy _ (topk h) e.symm)) hSc
        · rw [(V p p0).2.1, if_neg (fun q => pt q.2.2.symm), if_pos rfl]
          refine Sub.move na hSa (fun y hy hne => ag y (hSa.up y hy).1 (fun e => xb' y hy e.symm) (fun e => pin y (List.mem_append_left _ hy) e.symm) (fun _ e => hne e.symm) (kin y (List.mem_append_left _ hy))) (fun hj => ?_)
          have j0 := (hSa.up _ hj).1
          have jx := xb' _ hj
          have jp := pin _ (List.mem_append_left _ hj)
          have jt := kin _ (List.mem_append_left _ hj)
          exact ⟨by rw [(V _ j0).1, if_neg (Ne.symm jx), if_neg (Ne.symm jp), if_pos ⟨j0, rfl⟩], by rw [(V _ j0).2.2, if_neg (fun q => jt q.1 q.2.2), if_neg (Ne.symm jx)], by rw [(V _ j0).2.1, if_neg (fun q => jt q.1 q.2.2), if_neg (Ne.symm jp)]⟩
      · rw [(V i x0).2.1, if_neg (fun q => xt q.2.2.symm), if_neg (Ne.symm xp)]
        exact Sub.frame (fun y hy => ag y (hSb.up y hy).1 (fun e => nxb1 (e ▸ hy)) (fun e => pin y (List.mem_append_right _ (.tail _ hy)) e.symm) (fun h e => nab _ (jb h) y (.tail _ hy) e) (kin y (List.mem_append_right _ (.tail _ hy)))) hSb
  · rw [plug_ino C (f.rot_ino a i b).symm]; exact P.sorted
  · intro z z0 z9 hz
    have hz' : z ∉ (plug (f :: C) (.node a i b)).ino := fun h => hz ((hino z).mpr h)
    obtain ⟨h1, h2, h3, h4, h5, h6⟩ := hall z hz'
    have hag : Agr s (turnS s i) z := by
      cases f with
      | L p c =>
        dsimp only [Fm.p, Fm.c] at *
        have t : TRange s i p (s.1.getD p.toNat 0) (s.2.2.getD i.toNat 0) := ⟨P.Lu, P.Ll, P.Lh, x0, x9, p0, p9, top9, cb.1, ux, rfl, pt⟩
        have V := turn_left t rfl hL.1 z0
        refine ⟨?_, ?_, ?_⟩
        · rw [V.1, if_neg (Ne.symm h2), if_neg (Ne.symm h4), if_neg (fun h => h3 (by rw [← h.2]; exact cb.2.2 h.1))]
        · rw [V.2.1, if_neg (fun h => h6 (by rw [← h.2.2]; exact topk h.1)), if_neg (Ne.symm h4)]
        · rw [V.2.2, if_neg (fun h => h6 (by rw [← h.2.2]; exact topk h.1)), if_neg (Ne.symm h2)]
      | R c p =>
        dsimp only [Fm.p, Fm.c] at *
        have hcl : s.2.1.getD p.toNat 0 ≠ i := fun e3 => by
          rcases hL.2.rooted with ⟨_, e2⟩ | ⟨e2, _⟩
          · omega
          · exact xc (by rw [← e3]; exact e2)
        have t : TRange s i p (s.1.getD p.toNat 0) (s.2.1.getD i.toNat 0) := ⟨P.Lu, P.Ll, P.Lh, x0, x9, p0, p9, top9, ca.1, ux, rfl, pt⟩
        have V := turn_right t rfl hcl xt z0
        refine ⟨?_, ?_, ?_⟩
        · rw [V.1, if_neg (Ne.symm h2), if_neg (Ne.symm h4), if_neg (fun h => h1 (by rw [← h.2]; exact ca.2.2 h.1))]
        · rw [V.2.2, if_neg (fun h => h6 (by rw [← h.2.2]; exact topk h.1)), if_neg (Ne.symm h2)]
        · rw [V.2.1, if_neg (fun h => h6 (by rw [← h.2.2]; exact topk h.1)), if_neg (Ne.symm h4)]
    have := P.out z z0 z9 hz'
    exact ⟨hag.1.trans this.1, hag.2.1.trans this.2.1, hag.2.2.trans this.2.2⟩

abbrev PosW (ws : List Int) (l : List Int) : Prop := ∀ y ∈ l, 0 < ws.getD y.toNat 0
theorem tot_nonneg {ws : List Int} : ∀ {T : Tr}, PosW ws T.ino → 0 ≤ T.tot ws
  | .nil, _ => Int.le_refl _
  | .node l x r, h => by
    have h1 := tot_nonneg (T := l) fun y hy => h y (List.mem_append_left _ hy)
    have h2 := tot_nonneg (T := r) fun y hy => h y (List.mem_append_right _ (.tail _ hy))
    have h3 := h x (List.mem_append_right _ (.head _))
    show 0 ≤ l.tot ws + ws.getD x.toNat 0 + r.tot ws
    omega
theorem prd_pos {ws : List Int} : ∀ {T : Tr}, PosW ws T.ino → 0 < T.prd ws
  | .nil, _ => (by decide : (0 : Int) < 1)
  | .node l x r, h => by
    have hl : PosW ws l.ino := fun y hy => h y (List.mem_append_left _ hy)
    have hr : PosW ws r.ino := fun y hy => h y (List.mem_append_right _ (.tail _ hy))
    have h1 := tot_nonneg hl
    have h2 := tot_nonneg hr
    have h3 := h x (List.mem_append_right _ (.head _))
    exact Int.mul_pos (Int.mul_pos (prd_pos hl) (prd_pos hr)) (by omega)
def pcx (ws : List Int) : List Fm → Int → Int
  | [], _ => 1
  | f :: C, τ => f.c.prd ws * (τ + ws.getD f.p.toNat 0 + f.c.tot ws) * pcx ws C (τ + ws.getD f.p.toNat 0 + f.c.tot ws)
theorem Fm.plug_tot {ws : List Int} (f : Fm) (t : Tr) : (f.plug t).tot ws = t.tot ws + ws.getD f.p.toNat 0 + f.c.tot ws := by
  cases f with
  | L p c => rfl
  | R c p => show c.tot ws + ws.getD p.toNat 0 + t.tot ws = t.tot ws + ws.getD p.toNat 0 + c.tot ws; omega
theorem Fm.plug_prd {ws : List Int} (f : Fm) (t : Tr) : (f.plug t).prd ws = t.prd ws * (f.c.prd ws * (t.tot ws + ws.getD f.p.toNat 0 + f.c.tot ws)) := by
  cases f with
  | L p c => show t.prd ws * c.prd ws * (t.tot ws + ws.getD p.toNat 0 + c.tot ws) = _; rw [Int.mul_assoc]; rfl
  | R c p =>
    show c.prd ws * t.prd ws * (c.tot ws + ws.getD p.toNat 0 + t.tot ws) = t.prd ws * (c.prd ws * (t.tot ws + ws.getD p.toNat 0 + c.tot ws))
    rw [show c.tot ws + ws.getD p.toNat 0 + t.tot ws = t.tot ws + ws.getD p.toNat 0 + c.tot ws by omega, Int.mul_comm (c.prd ws), Int.mul_assoc]
theorem prd_plug {ws : List Int} : ∀ (C : List Fm) (t : Tr), (plug C t).prd ws = t.prd ws * pcx ws C (t.tot ws)
  | [], t => (Int.mul_one _).symm
  | f :: C, t => by
    show (plug C (f.plug t)).prd ws = _
    rw [prd_plug C (f.plug t), f.plug_prd, f.plug_tot]
    show t.prd ws * _ * _ = t.prd ws * (_ * _)
    rw [Int.mul_assoc]
theorem tot_plug {ws : List Int} : ∀ (C : List Fm) {t t' : Tr}, t.tot ws = t'.tot ws → (plug C t).tot ws = (plug C t').tot ws
  | [], _, _, h => h
  | f :: C, t, t', h => tot_plug C (by rw [f.plug_tot, f.plug_tot, h])
theorem pcx_nonneg {ws : List Int} : ∀ {C : List Fm} {τ : Int}, PosW ws (keys C) → 0 ≤ τ → 0 ≤ pcx ws C τ
  | [], _, _, _ => (by decide : (0 : Int) ≤ 1)
  | f :: C, τ, h, t0 => by
    have hc : PosW ws f.c.ino := fun y hy => h y (.tail _ (List.mem_append_left _ hy))
    have hk : PosW ws (keys C) := fun y hy => h y (.tail _ (List.mem_append_right _ hy))
    have h1 := prd_pos hc
    have h2 := tot_nonneg hc
    have h3 := h f.p (.head _)
    exact Int.mul_nonneg (Int.mul_nonneg (by omega) (by omega)) (pcx_nonneg hk (by omega))

theorem amgm {x y S : Int} (x0 : 0 ≤ x) (y0 : 0 ≤ y) (h : x + y ≤ S) : 4 * (x * y) ≤ S * S := by
  have h1 : (x + y) * (x + y) ≤ S * S := Int.mul_le_mul h h (by omega) (by omega)
  have h2 : 0 ≤ (x - y) * (x - y) := by
    rcases Int.le_total 0 (x - y) with h | h
    · exact Int.mul_nonneg h h
    · have := Int.mul_nonneg (show 0 ≤ -(x - y) by omega) (show 0 ≤ -(x - y) by omega)
      rwa [Int.neg_mul_neg] at this
  have h3 : (x + y) * (x + y) = (x - y) * (x - y) + 4 * (x * y) := by grind
  omega
theorem ineq_zz {Q s sp S g p' : Int} (hQ : 0 ≤ Q) (s0 : 0 ≤ s) (g0 : 0 ≤ g) (p0 : 0 ≤ p') (h1 : s + g ≤ S) (h2 : p' ≤ S) (h3 : s ≤ sp) : 4 * (Q * g * p' * S) * s ^ 3 ≤ (Q * s * sp * S) * S ^ 3 := by
  have e1 := amgm g0 s0 (show g + s ≤ S by omega)
  have e2 : p' * s ≤ S * sp := Int.mul_le_mul h2 h3 s0 (by omega)
  have e3 : 4 * (g * s) * (p' * s) ≤ S * S * (S * sp) := Int.mul_le_mul e1 e2 (Int.mul_nonneg p0 s0) (Int.mul_nonneg (by omega) (by omega))
  have e4 : 0 ≤ Q * S * s := Int.mul_nonneg (Int.mul_nonneg hQ (by omega)) s0
  have e5 := Int.mul_le_mul_of_nonneg_left e3 e4
  have e6 : 4 * (Q * g * p' * S) * s ^ 3 = Q * S * s * (4 * (g * s) * (p' * s)) := by grind
  have e7 : (Q * s * sp * S) * S ^ 3 = Q * S * s * (S * S * (S * sp)) := by grind
  rw [e6, e7]; exact e5
theorem ineq_zg {Q s sp S g p' : Int} (hQ : 0 ≤ Q) (s0 : 0 ≤ s) (g0 : 0 ≤ g) (p0 : 0 ≤ p') (h1 : g + p' ≤ S) (h2 : s ≤ S) (h3 : s ≤ sp) : 4 * (Q * g * p' * S) * s ^ 3 ≤ (Q * s * sp * S) * S ^ 3 := by
  have e1 := amgm g0 p0 h1
  have e2 : s * s ≤ S * sp := Int.mul_le_mul h2 h3 s0 (by omega)
  have e3 : 4 * (g * p') * (s * s) ≤ S * S * (S * sp) := Int.mul_le_mul e1 e2 (Int.mul_nonneg s0 s0) (Int.mul_nonneg (by omega) (by omega))
  have e4 : 0 ≤ Q * S * s := Int.mul_nonneg (Int.mul_nonneg hQ (by omega)) s0
  have e5 := Int.mul_le_mul_of_nonneg_left e3 e4
  have e6 : 4 * (Q * g * p' * S) * s ^ 3 = Q * S * s * (4 * (g * p') * (s * s)) := by grind
  have e7 : (Q * s * sp * S) * S ^ 3 = Q * S * s * (S * S * (S * sp)) := by grind
  rw [e6, e7]; exact e5
theorem ineq_z1 {Q s S p' : Int} (hQ : 0 ≤ Q) (s0 : 0 ≤ s) (p0 : 0 ≤ p') (h1 : p' ≤ S) (h2 : s ≤ S) : 2 * (Q * p' * S) * s ^ 3 ≤ (Q * s * S) * S ^ 3 * 2 := by
  have e2 : s * s ≤ S * S := Int.mul_le_mul h2 h2 s0 (by omega)
  have e3 : p' * (s * s) ≤ S * (S * S) := Int.mul_le_mul h1 e2 (Int.mul_nonneg s0 s0) (by omega)
  have e4 : 0 ≤ Q * S * s * 2 := Int.mul_nonneg (Int.mul_nonneg (Int.mul_nonneg hQ (by omega)) s0) (by decide)
  have e5 := Int.mul_le_mul_of_nonneg_left e3 e4
  have e6 : 2 * (Q * p' * S) * s ^ 3 = Q * S * s * 2 * (p' * (s * s)) := by grind
  have e7 : (Q * s * S) * S ^ 3 * 2 = Q * S * s * 2 * (S * (S * S)) := by grind
  rw [e6, e7]; exact e5
/-- two steps joined -/
theorem ineq_join {A N O S s R : Int} {k : Nat} {P : Int} (hA : 2 ^ k * A * S ^ 3 ≤ N * R) (hN : 4 * N * s ^ 3 ≤ O * S ^ 3) (S0 : 0 < S) (s0 : 0 ≤ s) (R0 : 0 ≤ R) (e : P = R) : 2 ^ (k + 2) * A * s ^ 3 ≤ O * P := by
  subst e
  have S3 : 0 < S ^ 3 := Int.pow_pos S0
  have s3 : 0 ≤ 4 * s ^ 3 := Int.mul_nonneg (by decide) (Int.pow_nonneg s0)
  have h1 := Int.mul_le_mul_of_nonneg_left hA s3
  have h2 := Int.mul_le_mul_of_nonneg_right hN R0
  have e1 : 4 * s ^ 3 * (2 ^ k * A * S ^ 3) = (2 ^ (k + 2) * A * s ^ 3) * S ^ 3 := by
    rw [show (2 : Int) ^ (k + 2) = 2 ^ k * 4 from by rw [Int.pow_add]; rfl]; grind
  have e2 : 4 * s ^ 3 * (N * P) = 4 * N * s ^ 3 * P := by grind
  have e3 : O * S ^ 3 * P = O * P * S ^ 3 := by grind
  rw [e1, e2] at h1
  rw [e3] at h2
  exact Int.le_of_mul_le_mul_right (Int.le_trans h1 h2) S3

theorem stop_runs {s : S3} {a b : Tr} {x : Int} (P : Plant s (.node a x b)) : Runs x s 0 s := by
  obtain ⟨j, e, x0, x9, hu, _⟩ := P.rt
  exact .stop P.Lu x0 x9 (by rw [hu]; decide)
structure RunsGive (ws : List Int) (s : S3) (T : Tr) (x : Int) (t : Tr) (m : Nat) : Prop where
  ex : ∃ (k : Nat) (fin : S3) (a' b' : Tr), Runs x s k fin ∧ Plant fin (.node a' x b') ∧ (Tr.node a' x b').ino = T.ino ∧ (Tr.node a' x b').tot ws = T.tot ws ∧ k ≤ m ∧
    2 ^ k * (Tr.node a' x b').prd ws * t.tot ws ^ 3 ≤ T.prd ws * (T.tot ws ^ 3 * (1 + ((k % 2 : Nat) : Int)))
theorem RunsGive.step2 {ws : List Int} {s s' : S3} {T T' : Tr} {x : Int} {t t' : Tr} {m : Nat} (R : RunsGive ws s' T' x t' m) (run : ∀ k fin, Runs x s' k fin → Runs x s (k + 2) fin) (ino : T'.ino = T.ino) (tot : T'.tot ws = T.tot ws)
    (loc : 4 * T'.prd ws * t.tot ws ^ 3 ≤ T.prd ws * t'.tot ws ^ 3) (t0 : 0 < t'.tot ws) (s0 : 0 ≤ t.tot ws) (T0 : 0 ≤ T.tot ws) : RunsGive ws s T x t (m + 2) := by
  obtain ⟨k, fin, a', b', h1, h2, h3, h4, h5, h6⟩ := R.ex
  refine ⟨k + 2, fin, a', b', run k fin h1, h2, h3.trans ino, h4.trans tot, by omega, ?_⟩
  refine ineq_join h6 loc t0 s0 (Int.mul_nonneg (Int.pow_nonneg (by rw [tot]; exact T0)) (by omega)) ?_
  rw [tot, Nat.add_mod_right]
theorem runs_give {ws : List Int} : ∀ (n : Nat) (C : List Fm) (_ : C.length ≤ n) (s : S3) (a : Tr) (x : Int) (b : Tr), Plant s (plug C (.node a x b)) → PosW ws (plug C (.node a x b)).ino → RunsGive ws s (plug C (.node a x b)) x (.node a x b) C.length
  | _, [], _, s, a, x, b, P, hp => ⟨0, s, a, b, stop_runs P, P, rfl, rfl, Nat.le_refl _, by
      show 2 ^ 0 * (Tr.node a x b).prd ws * (Tr.node a x b).tot ws ^ 3 ≤ (Tr.node a x b).prd ws * ((Tr.node a x b).tot ws ^ 3 * 1)
      rw [Int.pow_zero, Int.one_mul, Int.mul_one]; exact Int.le_refl _⟩
  | _, [f], _, s, a, x, b, P, hp => by
      have G := turn_plant P
      have hx : 0 < ws.getD x.toNat 0 := hp x ((plug_perm [f] (.node a x b)).mem_iff.mpr (List.mem_append_left _ (List.mem_append_right _ (.head _))))
      have hpp : 0 < ws.getD f.p.toNat 0 := hp f.p ((plug_perm [f] (.node a x b)).mem_iff.mpr (List.mem_append_right _ (.head _)))
      have pa : PosW ws a.ino := fun y hy => hp y ((plug_perm [f] (.node a x b)).mem_iff.mpr (List.mem_append_left _ (List.mem_append_left _ hy)))
      have pb : PosW ws b.ino := fun y hy => hp y ((plug_perm [f] (.node a x b)).mem_iff.mpr (List.mem_append_left _ (List.mem_append_right _ (.tail _ hy))))
      have pc : PosW ws f.c.ino := fun y hy => hp y ((plug_perm [f] (.node a x b)).mem_iff.mpr (List.mem_append_right _ (.tail _ (List.mem_append_left _ hy))))
      have a0 := tot_nonneg pa; have b0 := tot_nonneg pb; have c0 := tot_nonneg pc
      have a1 := prd_pos pa; have b1 := prd_pos pb; have c1 := prd_pos pc
      have hQ : 0 ≤ a.prd ws * b.prd ws * f.c.prd ws := Int.mul_nonneg (Int.mul_nonneg (by omega) (by omega)) (by omega)
      have run : ∀ T', Plant (turnS s x) T' → (∃ a' b', T' = .node a' x b') → Runs x s 1 (turnS s x) := fun T' hP ⟨a', b', e⟩ => by
        subst e
        exact .zig G.ok (by rw [G.up, G.top0 rfl]; decide) (stop_runs hP)
      cases f with
      | L p c =>
        refine ⟨1, turnS s x, a, .node b p c, run _ G.pl ⟨_, _, rfl⟩, G.pl, (Fm.rot_ino (.L p c) a x b).symm, ?_, Nat.le_refl _, ?_⟩
        · show a.tot ws + ws.getD x.toNat 0 + (b.tot ws + ws.getD p.toNat 0 + c.tot ws) = (a.tot ws + ws.getD x.toNat 0 + b.tot ws) + ws.getD p.toNat 0 + c.tot ws
          omega
        · dsimp only [Fm.c, Fm.p] at *
          have := ineq_z1 (s := a.tot ws + ws.getD x.toNat 0 + b.tot ws) (S := (a.tot ws + ws.getD x.toNat 0 + b.tot ws) + ws.getD p.toNat 0 + c.tot ws) (p' := b.tot ws + ws.getD p.toNat 0 + c.tot ws) hQ (by omega) (by omega) (by omega) (by omega)
          show 2 ^ 1 * (a.prd ws * (b.prd ws * c.prd ws * (b.tot ws + ws.getD p.toNat 0 + c.tot ws)) * (a.tot ws + ws.getD x.toNat 0 + (b.tot ws + ws.getD p.toNat 0 + c.tot ws))) * (a.tot ws + ws.getD x.toNat 0 + b.tot ws) ^ 3 ≤
            (a.prd ws * b.prd ws * (a.tot ws + ws.getD x.toNat 0 + b.tot ws)) * c.prd ws * ((a.tot ws + ws.getD x.toNat 0 + b.tot ws) + ws.getD p.toNat 0 + c.tot ws) * (((a.tot ws + ws.getD x.toNat 0 + b.tot ws) + ws.getD p.toNat 0 + c.tot ws) ^ 3 * 2)
          rw [show a.tot ws + ws.getD x.toNat 0 + (b.tot ws + ws.getD p.toNat 0 + c.tot ws) = (a.tot ws + ws.getD x.toNat 0 + b.tot ws) + ws.getD p.toNat 0 + c.tot ws by omega]
          generalize (a.tot ws + ws.getD x.toNat 0 + b.tot ws) + ws.getD p.toNat 0 + c.tot ws = S at this ⊢
          generalize a.tot ws + ws.getD x.toNat 0 + b.tot ws = t at this ⊢
          generalize b.tot ws + ws.getD p.toNat 0 + c.tot ws = u at this ⊢
          generalize a.prd ws = A at this ⊢; generalize b.prd ws = B at this ⊢; generalize c.prd ws = D at this ⊢
          clear run hp P G
          grind
      | R c p =>
        refine ⟨1, turnS s x, .node c p a, b, run _ G.pl ⟨_, _, rfl⟩, G.pl, (Fm.rot_ino (.R c p) a x b).symm, ?_, Nat.le_refl _, ?_⟩
        · show (c.tot ws + ws.getD p.toNat 0 + a.tot ws) + ws.getD x.toNat 0 + b.tot ws = c.tot ws + ws.getD p.toNat 0 + (a.tot ws + ws.getD x.toNat 0 + b.tot ws)
          omega
        · dsimp only [Fm.c, Fm.p] at *
          have := ineq_z1 (s := a.tot ws + ws.getD x.toNat 0 + b.tot ws) (S := c.tot ws + ws.getD p.toNat 0 + (a.tot ws + ws.getD x.toNat 0 + b.tot ws)) (p' := c.tot ws + ws.getD p.toNat 0 + a.tot ws) hQ (by omega) (by omega) (by omega) (by omega)
          show 2 ^ 1 * ((c.prd ws * a.prd ws * (c.tot ws + ws.getD p.toNat 0 + a.tot ws)) * b.prd ws * ((c.tot ws + ws.getD p.toNat 0 + a.tot ws) + ws.getD x.toNat 0 + b.tot ws)) * (a.tot ws + ws.getD x.toNat 0 + b.tot ws) ^ 3 ≤
            c.prd ws * (a.prd ws * b.prd ws * (a.tot ws + ws.getD x.toNat 0 + b.tot ws)) * (c.tot ws + ws.getD p.toNat 0 + (a.tot ws + ws.getD x.toNat 0 + b.tot ws)) * ((c.tot ws + ws.getD p.toNat 0 + (a.tot ws + ws.getD x.toNat 0 + b.tot ws)) ^ 3 * 2)
          rw [show (c.tot ws + ws.getD p.toNat 0 + a.tot ws) + ws.getD x.toNat 0 + b.tot ws = c.tot ws + ws.getD p.toNat 0 + (a.tot ws + ws.getD x.toNat 0 + b.tot ws) by omega]
          generalize c.tot ws + ws.getD p.toNat 0 + (a.tot ws + ws.getD x.toNat 0 + b.tot ws) = S at this ⊢
          generalize a.tot ws + ws.getD x.toNat 0 + b.tot ws = t at this ⊢
          generalize c.tot ws + ws.getD p.toNat 0 + a.tot ws = u at this ⊢
          generalize a.prd ws = A at this ⊢; generalize b.prd ws = B at this ⊢; generalize c.prd ws = D at this ⊢
          clear run hp P G
          grind
  | 0, _ :: _ :: _, hl, _, _, _, _, _, _ => absurd hl (Nat.not_succ_le_zero _)
  | n + 1, f :: g :: C, hl, s, a, x, b, P, hp => by
      have G := turn_plant P
      obtain ⟨ht, g0, gd⟩ := G.top1 g C rfl
      have mem := fun y => (plug_perm (f :: g :: C) (.node a x b)).mem_iff (a := y)
      have hx : 0 < ws.getD x.toNat 0 := hp x ((mem x).mpr (List.mem_append_left _ (List.mem_append_right _ (.head _))))
      have hpp : 0 < ws.getD f.p.toNat 0 := hp f.p ((mem _).mpr (List.mem_append_right _ (.head _)))
      have hqq : 0 < ws.getD g.p.toNat 0 := hp g.p ((mem _).mpr (List.mem_append_right _ (.tail _ (List.mem_append_right _ (.head _)))))
      have pa : PosW ws a.ino := fun y hy => hp y ((mem y).mpr (List.mem_append_left _ (List.mem_append_left _ hy)))
      have pb : PosW ws b.ino := fun y hy => hp y ((mem y).mpr (List.mem_append_left _ (List.mem_append_right _ (.tail _ hy))))
      have pc : PosW ws f.c.ino := fun y hy => hp y ((mem y).mpr (List.mem_append_right _ (.tail _ (List.mem_append_left _ hy))))
      have pd : PosW ws g.c.ino := fun y hy => hp y ((mem y).mpr (List.mem_append_right _ (.tail _ (List.mem_append_right _ (.tail _ (List.mem_append_left _ hy))))))
      have pk : PosW ws (keys C) := fun y hy => hp y ((mem y).mpr (List.mem_append_right _ (.tail _ (List.mem_append_right _ (.tail _ (List.mem_append_right _ hy))))))
      have a0 := tot_nonneg pa; have b0 := tot_nonneg pb; have c0 := tot_nonneg pc; have d0 := tot_nonneg pd
      have a1 := prd_pos pa; have b1 := prd_pos pb; have c1 := prd_pos pc; have d1 := prd_pos pd
      have hQ : 0 ≤ a.prd ws * b.prd ws * f.c.prd ws * g.c.prd ws := Int.mul_nonneg (Int.mul_nonneg (Int.mul_nonneg (by omega) (by omega)) (by omega)) (by omega)
      have T0 := tot_nonneg hp
      have hl' : C.length ≤ n := by simp only [List.length_cons] at hl; omega
      -- what a double step needs: the new tree hangs at the old one's place
      have fin : ∀ (s' : S3) (a2 b2 : Tr), Plant s' (plug C (.node a2 x b2)) → (Tr.node a2 x b2).ino = (g.plug (f.plug (.node a x b))).ino → (Tr.node a2 x b2).tot ws = (g.plug (f.plug (.node a x b))).tot ws →
          (∀ k fin, Runs x s' k fin → Runs x s (k + 2) fin) → 4 * (Tr.node a2 x b2).prd ws * (Tr.node a x b).tot ws ^ 3 ≤ (g.plug (f.plug (.node a x b))).prd ws * (Tr.node a2 x b2).tot ws ^ 3 → RunsGive ws s (plug (f :: g :: C) (.node a x b)) x (.node a x b) (C.length + 2) := by
        intro s' a2 b2 P' ino tot run loc
        have ino' : (plug C (.node a2 x b2)).ino = (plug (f :: g :: C) (.node a x b)).ino := plug_ino C ino
        have hp' : PosW ws (plug C (.node a2 x b2)).ino := by rw [ino']; exact hp
        have R := runs_give n C hl' s' a2 x b2 P' hp'
        have hxx : PosW ws (Tr.node a2 x b2).ino := fun y hy => hp' y ((plug_perm C (.node a2 x b2)).mem_iff.mpr (List.mem_append_left _ hy))
        have tpos : 0 < (Tr.node a2 x b2).tot ws := by
          have h1 := tot_nonneg (T := a2) fun y hy => hxx y (List.mem_append_left _ hy)
          have h2 := tot_nonneg (T := b2) fun y hy => hxx y (List.mem_append_right _ (.tail _ hy))
          show 0 < a2.tot ws + ws.getD x.toNat 0 + b2.tot ws
          omega
        have stot : 0 ≤ (Tr.node a x b).tot ws := by show 0 ≤ a.tot ws + ws.getD x.toNat 0 + b.tot ws; omega
        refine R.step2 run ino' (tot_plug C tot) ?_ tpos stot T0
        have e1 := prd_plug (ws := ws) C (.node a2 x b2)
        have e2 : (plug (f :: g :: C) (.node a x b)).prd ws = (g.plug (f.plug (.node a x b))).prd ws * pcx ws C ((Tr.node a2 x b2).tot ws) := by rw [tot]; exact prd_plug C (g.plug (f.plug (.node a x b)))
        rw [e1, e2]
        have k0 : 0 ≤ pcx ws C ((Tr.node a2 x b2).tot ws) := pcx_nonneg pk (by omega)
        have := Int.mul_le_mul_of_nonneg_right loc k0
        generalize pcx ws C ((Tr.node a2 x b2).tot ws) = K at this ⊢
        generalize (Tr.node a2 x b2).prd ws = N at this ⊢
        generalize (g.plug (f.plug (.node a x b))).prd ws = O at this ⊢
        generalize (Tr.node a2 x b2).tot ws ^ 3 = S3 at this ⊢
        generalize (Tr.node a x b).tot ws ^ 3 = t3 at this ⊢
        have e3 : 4 * (N * K) * t3 = 4 * N * t3 * K := by grind
        have e4 : O * K * S3 = O * S3 * K := by grind
        rw [e3, e4]; exact this
      have cond : ((s.2.1.getD (s.1.getD (s.1.getD x.toNat 0).toNat 0).toNat 0 == s.1.getD x.toNat 0) == (s.2.1.getD (s.1.getD x.toNat 0).toNat 0 == x)) = (g.isL == f.isL) := by rw [G.up, ht, gd, G.dir]
      have tge : 0 ≤ s.1.getD (s.1.getD x.toNat 0).toNat 0 := by rw [G.up, ht]; exact g0
      cases f with
      | L p c =>
        cases g with
        | L q d =>
          have G2 := turn_plant (s := s) (f := .L q d) (C := C) (a := .node a x b) (x := p) (b := c) P
          have G3 := turn_plant (s := turnS s p) (f := .L p (.node c q d)) (C := C) (a := a) (x := x) (b := b) G2.pl
          have up : s.1.getD x.toNat 0 = p := G.up
          refine fin (turnS (turnS s p) x) a (.node b p (.node c q d)) G3.pl (by simp [Fm.plug, Tr.ino, List.append_assoc]) ?_ (fun k fn r => .zigzig G.ok tge (by rw [cond]; rfl) (by rw [up]; exact G2.ok) (by rw [up]; exact G3.ok) (by rw [up]; exact r)) ?_
          · dsimp only [Fm.plug, Tr.tot]; omega
          · dsimp only [Fm.c, Fm.p] at *
            clear fin mem hp P G G2 G3
            have := ineq_zz (s := a.tot ws + ws.getD x.toNat 0 + b.tot ws) (sp := (a.tot ws + ws.getD x.toNat 0 + b.tot ws) + ws.getD p.toNat 0 + c.tot ws) (S := ((a.tot ws + ws.getD x.toNat 0 + b.tot ws) + ws.getD p.toNat 0 + c.tot ws) + ws.getD q.toNat 0 + d.tot ws) (g := c.tot ws + ws.getD q.toNat 0 + d.tot ws) (p' := b.tot ws + ws.getD p.toNat 0 + (c.tot ws + ws.getD q.toNat 0 + d.tot ws)) hQ (by omega) (by omega) (by omega) (by omega) (by omega) (by omega)
            dsimp only [Fm.plug, Tr.tot, Tr.prd]
            rw [show a.tot ws + ws.getD x.toNat 0 + (b.tot ws + ws.getD p.toNat 0 + (c.tot ws + ws.getD q.toNat 0 + d.tot ws)) = ((a.tot ws + ws.getD x.toNat 0 + b.tot ws) + ws.getD p.toNat 0 + c.tot ws) + ws.getD q.toNat 0 + d.tot ws by omega]
            generalize ((a.tot ws + ws.getD x.toNat 0 + b.tot ws) + ws.getD p.toNat 0 + c.tot ws) + ws.getD q.toNat 0 + d.tot ws = S at this ⊢
            generalize (a.tot ws + ws.getD x.toNat 0 + b.tot ws) + ws.getD p.toNat 0 + c.tot ws = sp at this ⊢
            generalize a.tot ws + ws.getD x.toNat 0 + b.tot ws = t at this ⊢
            generalize b.tot ws + ws.getD p.toNat 0 + (c.tot ws + ws.getD q.toNat 0 + d.tot ws) = u at this ⊢
            generalize c.tot ws + ws.getD q.toNat 0 + d.tot ws = v at this ⊢
            generalize a.prd ws = A at this ⊢; generalize b.prd ws = B at this ⊢; generalize c.prd ws = D at this ⊢; generalize d.prd ws = D2 at this ⊢
            grind
        | R d q =>
          have G4 := turn_plant (s := turnS s x) (f := .R d q) (C := C) (a := a) (x := x) (b := .node b p c) G.pl
          refine fin (turnS (turnS s x) x) (.node d q a) (.node b p c) G4.pl (by simp [Fm.plug, Tr.ino, List.append_assoc]) ?_ (fun k fn r => .zigzag G.ok tge (by rw [cond]; rfl) G4.ok r) ?_
          · dsimp only [Fm.plug, Tr.tot]; omega
          · dsimp only [Fm.c, Fm.p] at *
            clear fin mem hp P G G4
            have := ineq_zg (s := a.tot ws + ws.getD x.toNat 0 + b.tot ws) (sp := (a.tot ws + ws.getD x.toNat 0 + b.tot ws) + ws.getD p.toNat 0 + c.tot ws) (S := d.tot ws + ws.getD q.toNat 0 + ((a.tot ws + ws.getD x.toNat 0 + b.tot ws) + ws.getD p.toNat 0 + c.tot ws)) (g := d.tot ws + ws.getD q.toNat 0 + a.tot ws) (p' := b.tot ws + ws.getD p.toNat 0 + c.tot ws) hQ (by omega) (by omega) (by omega) (by omega) (by omega) (by omega)
            dsimp only [Fm.plug, Tr.tot, Tr.prd]
            rw [show d.tot ws + ws.getD q.toNat 0 + a.tot ws + ws.getD x.toNat 0 + (b.tot ws + ws.getD p.toNat 0 + c.tot ws) = d.tot ws + ws.getD q.toNat 0 + ((a.tot ws + ws.getD x.toNat 0 + b.tot ws) + ws.getD p.toNat 0 + c.tot ws) by omega]
            generalize d.tot ws + ws.getD q.toNat 0 + ((a.tot ws + ws.getD x.toNat 0 + b.tot ws) + ws.getD p.toNat 0 + c.tot ws) = S at this ⊢
            generalize (a.tot ws + ws.getD x.toNat 0 + b.tot ws) + ws.getD p.toNat 0 + c.tot ws = sp at this ⊢
            generalize a.tot ws + ws.getD x.toNat 0 + b.tot ws = t at this ⊢
            generalize d.tot ws + ws.getD q.toNat 0 + a.tot ws = u at this ⊢
            generalize b.tot ws + ws.getD p.toNat 0 + c.tot ws = v at this ⊢
            generalize a.prd ws = A at this ⊢; generalize b.prd ws = B at this ⊢; generalize c.prd ws = D at this ⊢; generalize d.prd ws = D2 at this ⊢
            grind
      | R c p =>
        cases g with
        | L q d =>
          have G4 := turn_plant (s := turnS s x) (f := .L q d) (C := C) (a := .node c p a) (x := x) (b := b) G.pl
          refine fin (turnS (turnS s x) x) (.node c p a) (.node b q d) G4.pl (by simp [Fm.plug, Tr.ino, List.append_assoc]) ?_ (fun k fn r => .zigzag G.ok tge (by rw [cond]; rfl) G4.ok r) ?_
          · dsimp only [Fm.plug, Tr.tot]; omega
          · dsimp only [Fm.c, Fm.p] at *
            clear fin mem hp P G G4
            have := ineq_zg (s := a.tot ws + ws.getD x.toNat 0 + b.tot ws) (sp := c.tot ws + ws.getD p.toNat 0 + (a.tot ws + ws.getD x.toNat 0 + b.tot ws)) (S := c.tot ws + ws.getD p.toNat 0 + (a.tot ws + ws.getD x.toNat 0 + b.tot ws) + ws.getD q.toNat 0 + d.tot ws) (g := c.tot ws + ws.getD p.toNat 0 + a.tot ws) (p' := b.tot ws + ws.getD q.toNat 0 + d.tot ws) hQ (by omega) (by omega) (by omega) (by omega) (by omega) (by omega)
            dsimp only [Fm.plug, Tr.tot, Tr.prd]
            rw [show c.tot ws + ws.getD p.toNat 0 + a.tot ws + ws.getD x.toNat 0 + (b.tot ws + ws.getD q.toNat 0 + d.tot ws) = c.tot ws + ws.getD p.toNat 0 + (a.tot ws + ws.getD x.toNat 0 + b.tot ws) + ws.getD q.toNat 0 + d.tot ws by omega]
            generalize c.tot ws + ws.getD p.toNat 0 + (a.tot ws + ws.getD x.toNat 0 + b.tot ws) + ws.getD q.toNat 0 + d.tot ws = S at this ⊢
            generalize c.tot ws + ws.getD p.toNat 0 + (a.tot ws + ws.getD x.toNat 0 + b.tot ws) = sp at this ⊢
            generalize a.tot ws + ws.getD x.toNat 0 + b.tot ws = t at this ⊢
            generalize c.tot ws + ws.getD p.toNat 0 + a.tot ws = u at this ⊢
            generalize b.tot ws + ws.getD q.toNat 0 + d.tot ws = v at this ⊢
            generalize a.prd ws = A at this ⊢; generalize b.prd ws = B at this ⊢; generalize c.prd ws = D at this ⊢; generalize d.prd ws = D2 at this ⊢
            grind
        | R d q =>
          have G2 := turn_plant (s := s) (f := .R d q) (C := C) (a := c) (x := p) (b := .node a x b) P
          have G3 := turn_plant (s := turnS s p) (f := .R (.node d q c) p) (C := C) (a := a) (x := x) (b := b) G2.pl
          have up : s.1.getD x.toNat 0 = p := G.up
          refine fin (turnS (turnS s p) x) (.node (.node d q c) p a) b G3.pl (by simp [Fm.plug, Tr.ino, List.append_assoc]) ?_ (fun k fn r => .zigzig G.ok tge (by rw [cond]; rfl) (by rw [up]; exact G2.ok) (by rw [up]; exact G3.ok) (by rw [up]; exact r)) ?_
          · dsimp only [Fm.plug, Tr.tot]; omega
          · dsimp only [Fm.c, Fm.p] at *
            clear fin mem hp P G G2 G3
            have := ineq_zz (s := a.tot ws + ws.getD x.toNat 0 + b.tot ws) (sp := c.tot ws + ws.getD p.toNat 0 + (a.tot ws + ws.getD x.toNat 0 + b.tot ws)) (S := d.tot ws + ws.getD q.toNat 0 + (c.tot ws + ws.getD p.toNat 0 + (a.tot ws + ws.getD x.toNat 0 + b.tot ws))) (g := d.tot ws + ws.getD q.toNat 0 + c.tot ws) (p' := d.tot ws + ws.getD q.toNat 0 + c.tot ws + ws.getD p.toNat 0 + a.tot ws) hQ (by omega) (by omega) (by omega) (by omega) (by omega) (by omega)
            dsimp only [Fm.plug, Tr.tot, Tr.prd]
            rw [show d.tot ws + ws.getD q.toNat 0 + c.tot ws + ws.getD p.toNat 0 + a.tot ws + ws.getD x.toNat 0 + b.tot ws = d.tot ws + ws.getD q.toNat 0 + (c.tot ws + ws.getD p.toNat 0 + (a.tot ws + ws.getD x.toNat 0 + b.tot ws)) by omega]
            generalize d.tot ws + ws.getD q.toNat 0 + (c.tot ws + ws.getD p.toNat 0 + (a.tot ws + ws.getD x.toNat 0 + b.tot ws)) = S at this ⊢
            generalize c.tot ws + ws.getD p.toNat 0 + (a.tot ws + ws.getD x.toNat 0 + b.tot ws) = sp at this ⊢
            generalize a.tot ws + ws.getD x.toNat 0 + b.tot ws = t at this ⊢
            generalize d.tot ws + ws.getD q.toNat 0 + c.tot ws + ws.getD p.toNat 0 + a.tot ws = u at this ⊢
            generalize d.tot ws + ws.getD q.toNat 0 + c.tot ws = v at this ⊢
            generalize a.prd ws = A at this ⊢; generalize b.prd ws = B at this ⊢; generalize c.prd ws = D at this ⊢; generalize d.prd ws = D2 at this ⊢
            grind

theorem plug_append : ∀ (C D : List Fm) (t : Tr), plug (C ++ D) t = plug D (plug C t)
  | [], _, _ => rfl
  | f :: C, D, t => plug_append C D (f.plug t)
theorem exists_plug {x : Int} : ∀ {T : Tr}, x ∈ T.ino → ∃ (C : List Fm) (a b : Tr), T = plug C (.node a x b)
  | .nil, h => by simp [Tr.ino] at h
  | .node l y r, h => by
    simp only [Tr.ino, List.mem_append, List.mem_cons] at h
    rcases h with h | rfl | h
    · obtain ⟨C, a, b, e⟩ := exists_plug h
      exact ⟨C ++ [.L y r], a, b, by rw [plug_append, ← e]; rfl⟩
    · exact ⟨[], l, r, rfl⟩
    · obtain ⟨C, a, b, e⟩ := exists_plug h
      exact ⟨C ++ [.R l y], a, b, by rw [plug_append, ← e]; rfl⟩
theorem Sub.enc {u lows highs : List Int} : ∀ {T : Tr} {par i : Int}, Sub u lows highs par T i → Enc lows highs T i
  | .nil, _, i, h => by show i < 0; have : i = -1 := h; omega
  | .node l x r, _, i, ⟨e, x0, x9, _, hl, hr⟩ => ⟨e, x0, x9, hl.enc, hr.enc⟩
theorem finds_of {u lows highs : List Int} {x : Int} : ∀ {T : Tr} {par i : Int}, Sub u lows highs par T i → T.ino.Pairwise (· < ·) → x ∈ T.ino → ∃ n, Finds lows highs x n i
  | .nil, _, _, _, _, h => by simp [Tr.ino] at h
  | .node l y r, _, i, ⟨e, y0, y9, _, hl, hr⟩, hs, h => by
    subst e
    simp only [Tr.ino, List.pairwise_append, List.pairwise_cons, List.mem_cons] at hs
    obtain ⟨sl, ⟨hyr, sr⟩, hc⟩ := hs
    simp only [Tr.ino, List.mem_append, List.mem_cons] at h
    rcases h with h | rfl | h
    · obtain ⟨n, hn⟩ := finds_of hl sl h
      exact ⟨n + 1, .low y0 y9 (hc x h i (.inl rfl)) hn⟩
    · exact ⟨0, .here y0 y9⟩
    · obtain ⟨n, hn⟩ := finds_of hr sr h
      exact ⟨n + 1, .high y0 y9 (hyr x h) hn⟩
theorem len_le : ∀ {l : List Int} {a : Int}, l.Pairwise (· < ·) → (∀ y ∈ l, a ≤ y ∧ y < 9) → a ≤ 9 → (l.length : Int) ≤ 9 - a
  | [], a, _, _, h => by simp; omega
  | x :: l, a, hs, hb, h => by
    obtain ⟨h1, h2⟩ := List.pairwise_cons.mp hs
    have hx := hb x (.head _)
    have := len_le (a := x + 1) h2 (fun y hy => ⟨by have := h1 y hy; omega, (hb y (.tail _ hy)).2⟩) (by omega)
    rw [List.length_cons]
    omega
theorem Tr.ht_eq : ∀ (T : Tr), T.ht = 2 * T.ino.length + 1
  | .nil => rfl
  | .node l x r => by
    show l.ht + r.ht + 1 = 2 * (l.ino ++ x :: r.ino).length + 1
    rw [Tr.ht_eq l, Tr.ht_eq r, List.length_append, List.length_cons]
    omega
abbrev W12 (ws : List Int) (l : List Int) : Prop := ∀ y ∈ l, 2 ≤ ws.getD y.toNat 0 ∧ ws.getD y.toNat 0 ≤ 12
theorem W12.pos {ws l : List Int} (h : W12 ws l) : PosW ws l := fun y hy => by have := (h y hy).1; omega
theorem tot_le {ws : List Int} : ∀ {T : Tr}, W12 ws T.ino → T.tot ws ≤ 12 * T.ino.length
  | .nil, _ => Int.le_refl _
  | .node l x r, h => by
    have h1 := tot_le (T := l) fun y hy => h y (List.mem_append_left _ hy)
    have h2 := tot_le (T := r) fun y hy => h y (List.mem_append_right _ (.tail _ hy))
    have h3 := (h x (List.mem_append_right _ (.head _))).2
    show l.tot ws + ws.getD x.toNat 0 + r.tot ws ≤ 12 * ((l.ino ++ x :: r.ino).length : Nat)
    rw [List.length_append, List.length_cons]
    omega
theorem prd_le {ws : List Int} : ∀ {T : Tr}, W12 ws T.ino → T.ino.length ≤ 9 → T.prd ws ≤ 108 ^ T.ino.length
  | .nil, _, _ => by show (1 : Int) ≤ 108 ^ 0; decide
  | .node l x r, h, hn => by
    have hl : W12 ws l.ino := fun y hy => h y (List.mem_append_left _ hy)
    have hr : W12 ws r.ino := fun y hy => h y (List.mem_append_right _ (.tail _ hy))
    have ht := tot_le h
    have hn' : (l.ino ++ x :: r.ino).length ≤ 9 := hn
    rw [List.length_append, List.length_cons] at hn'
    have h1 := prd_le hl (by omega)
    have h2 := prd_le hr (by omega)
    have l0 := prd_pos hl.pos
    have r0 := prd_pos hr.pos
    have e : l.prd ws * r.prd ws ≤ 108 ^ l.ino.length * 108 ^ r.ino.length := Int.mul_le_mul h1 h2 (by omega) (Int.pow_nonneg (by decide))
    have ht' : (Tr.node l x r).tot ws ≤ 108 := by omega
    have e2 : l.prd ws * r.prd ws * (Tr.node l x r).tot ws ≤ 108 ^ l.ino.length * 108 ^ r.ino.length * 108 := Int.mul_le_mul e ht' (tot_nonneg h.pos) (Int.mul_nonneg (Int.pow_nonneg (by decide)) (Int.pow_nonneg (by decide)))
    show l.prd ws * r.prd ws * (Tr.node l x r).tot ws ≤ 108 ^ (l.ino ++ x :: r.ino).length
    rw [List.length_append, List.length_cons, show l.ino.length + (r.ino.length + 1) = (l.ino.length + r.ino.length) + 1 by omega, Int.pow_succ, Int.pow_add]
    exact e2
theorem pow_le9 : ∀ {n : Nat}, n ≤ 9 → (108 : Int) ^ n ≤ 108 ^ 9
  | n, h => (by decide : ∀ n : Fin 10, (108 : Int) ^ n.val ≤ 108 ^ 9) ⟨n, by omega⟩
theorem ok_of {ws : List Int} : ∀ {T : Tr}, W12 ws T.ino → T.ino.length ≤ 9 → T.Ok ws
  | .nil, _, _ => trivial
  | .node l x r, h, hn => by
    have hl : W12 ws l.ino := fun y hy => h y (List.mem_append_left _ hy)
    have hr : W12 ws r.ino := fun y hy => h y (List.mem_append_right _ (.tail _ hy))
    have ht := tot_le h
    have t0 := tot_nonneg h.pos
    have hn' : (l.ino ++ x :: r.ino).length ≤ 9 := hn
    rw [List.length_append, List.length_cons] at hn'
    have h1 := Int.le_trans (prd_le hl (by omega)) (pow_le9 (show l.ino.length ≤ 9 by omega))
    have l0 := prd_pos hl.pos
    have k1 : (108 : Int) ^ 9 < 2 ^ 64 := by decide
    have ht' : (Tr.node l x r).tot ws ≤ 108 := by omega
    refine ⟨ok_of hl (by omega), ok_of hr (by omega), IntMulOk.of_left (intBits_le_64 (Int.lt_trans (by decide) l0) (Int.lt_of_le_of_lt h1 k1)), IntMulOk.of_right (intBits_le_64 (Int.lt_of_lt_of_le (by decide) t0) (Int.lt_of_le_of_lt ht' (by decide))), by omega, by omega⟩
theorem Plant.bounds {s : S3} {T : Tr} (P : Plant s T) : (∀ y ∈ T.ino, 0 ≤ y ∧ y < 9) ∧ T.ino.length ≤ 9 := by
  obtain ⟨i, hS⟩ := P.rt
  have h : ∀ y ∈ T.ino, 0 ≤ y ∧ y < 9 := fun y hy => ⟨(hS.up y hy).1, (hS.up y hy).2.1⟩
  have := len_le (a := 0) P.sorted h (by decide)
  exact ⟨h, by omega⟩
theorem first_law {s : S3} {T : Tr} {ws : List Int} (P : Plant s T) (hw : ∀ y ∈ T.ino, 2 ≤ ws.getD y.toNat 0 ∧ ws.getD y.toNat 0 ≤ 12) (hT : T ≠ .nil) :
    Enc s.2.1 s.2.2 T ((s.1.idxOf (-1 : Int) : Nat) : Int) ∧ T.Ok ws ∧ T.ht ≤ 19 ∧ T.ino.length ≤ 9 ∧ 0 < T.ino.length ∧ ∀ y ∈ T.ino, 0 ≤ y ∧ y < 9 := by
  obtain ⟨hb, hl⟩ := P.bounds
  obtain ⟨i, hS⟩ := P.rt
  refine ⟨by rw [P.root_is hS (P.has_root hT)]; exact hS.enc, ok_of hw hl, by rw [T.ht_eq]; omega, hl, ?_, hb⟩
  cases T with
  | nil => exact absurd rfl hT
  | node l x r => simp [Tr.ino]; omega
theorem turn_law {s : S3} {T : Tr} {ws : List Int} (P : Plant s T) (hw : ∀ y ∈ T.ino, 2 ≤ ws.getD y.toNat 0 ∧ ws.getD y.toNat 0 ≤ 12) {x : Int} (hx : x ∈ T.ino) :
    ∃ (a b : Tr) (n k : Nat) (fin : S3) (a' b' : Tr), Enc s.2.1 s.2.2 (.node a x b) x ∧ (Tr.node a x b).Ok ws ∧ (Tr.node a x b).ht ≤ 19 ∧ Finds s.2.1 s.2.2 x n ((s.1.idxOf (-1 : Int) : Nat) : Int) ∧ Runs x s k fin ∧
      Plant fin (.node a' x b') ∧ (Tr.node a' x b').ino = T.ino ∧ Enc fin.2.1 fin.2.2 (.node a' x b') x ∧ (Tr.node a' x b').Ok ws ∧ (Tr.node a' x b').ht ≤ 19 ∧ fin.1.getD x.toNat 0 = -1 ∧ k ≤ 9 ∧
      (2 : Int) ^ k * (Tr.node a' x b').prd ws * (Tr.node a x b).tot ws ^ 3 ≤ T.prd ws * (Tr.node a' x b').tot ws ^ 3 * (1 + (k : Int).fmod 2) ∧
      0 ≤ (Tr.node a x b).tot ws ∧ (Tr.node a x b).tot ws ≤ 108 ∧ 0 ≤ (Tr.node a' x b').tot ws ∧ (Tr.node a' x b').tot ws ≤ 108 ∧
      0 ≤ (Tr.node a' x b').prd ws ∧ (Tr.node a' x b').prd ws ≤ 108 ^ 9 ∧ 0 ≤ T.prd ws ∧ T.prd ws ≤ 108 ^ 9 := by
  obtain ⟨C, a, b, e⟩ := exists_plug hx
  obtain ⟨hb, hl⟩ := P.bounds
  have hT : T ≠ .nil := by rintro rfl; simp [Tr.ino] at hx
  obtain ⟨i, hS⟩ := P.rt
  have hroot := P.root_is hS (P.has_root hT)
  obtain ⟨n, hF⟩ := finds_of hS P.sorted hx
  have P' : Plant s (plug C (.node a x b)) := e ▸ P
  have perm := plug_perm C (.node a x b)
  have mem : ∀ y ∈ (Tr.node a x b).ino, y ∈ T.ino := fun y hy => by rw [e]; exact perm.mem_iff.mpr (List.mem_append_left _ hy)
  have w0 : W12 ws (Tr.node a x b).ino := fun y hy => hw y (mem y hy)
  have len0 : (Tr.node a x b).ino.length + (keys C).length = T.ino.length := by rw [e, perm.length_eq, List.length_append]
  have lenC : C.length ≤ (keys C).length := by
    clear perm len0 P' e
    induction C with
    | nil => exact Nat.zero_le _
    | cons f C ih => show C.length + 1 ≤ (f.p :: (f.c.ino ++ keys C)).length; rw [List.length_cons, List.length_append]; omega
  obtain ⟨par, j, hP, hSub⟩ := (sub_plug C (.node a x b)).mp P'.rt
  have ej : j = x := hSub.1
  obtain ⟨k, fin, a', b', h1, h2, h3, h4, h5, h6⟩ := (runs_give (ws := ws) C.length C (Nat.le_refl _) s a x b P' (by rw [← e]; exact W12.pos hw)).ex
  rw [← e] at h3 h4 h6
  have w1 : W12 ws (Tr.node a' x b').ino := fun y hy => hw y (by rw [← h3]; exact hy)
  have len1 : (Tr.node a' x b').ino.length ≤ 9 := by rw [h3]; exact hl
  obtain ⟨j', hS'⟩ := h2.rt
  have ej' : j' = x := hS'.1
  have t0 := tot_le w0
  have t1 := tot_le w1
  have q0 := Int.le_trans (prd_le w1 len1) (pow_le9 len1)
  have q1 := Int.le_trans (prd_le (T := T) hw hl) (pow_le9 hl)
  have m0 := prd_pos w1.pos
  have m1 := prd_pos (T := T) (W12.pos hw)
  refine ⟨a, b, n, k, fin, a', b', by rw [← ej]; exact ej ▸ hSub.enc, ok_of w0 (by omega), by rw [Tr.ht_eq]; omega, by rw [hroot]; exact hF, h1, h2, h3, by rw [← ej']; exact ej' ▸ hS'.enc, ok_of w1 len1, by rw [Tr.ht_eq]; omega, ?_, by omega, ?_,
    tot_nonneg w0.pos, by omega, tot_nonneg w1.pos, by omega, by omega, q0, by omega, q1⟩
  · have := hS'.2.2.2.1
    exact this
  · rw [h4, Int.mul_assoc (T.prd ws), show (k : Int).fmod 2 = ((k % 2 : Nat) : Int) from by rw [Int.fmod_eq_emod_of_nonneg _ (by decide)]; omega]
    exact h6
theorem sorted_ext : ∀ {l m : List Int}, l.Pairwise (· < ·) → m.Pairwise (· < ·) → (∀ y, y ∈ l ↔ y ∈ m) → l = m
  | [], [], _, _, _ => rfl
  | [], b :: m, _, _, h => absurd ((h b).mpr (.head _)) (List.not_mem_nil)
  | a :: l, [], _, _, h => absurd ((h a).mp (.head _)) (List.not_mem_nil)
  | a :: l, b :: m, hl, hm, h => by
    obtain ⟨l1, l2⟩ := List.pairwise_cons.mp hl
    obtain ⟨m1, m2⟩ := List.pairwise_cons.mp hm
    have e : a = b := by
      rcases List.mem_cons.mp ((h a).mp (.head _)) with e | e
      · exact e
      · rcases List.mem_cons.mp ((h b).mpr (.head _)) with e' | e'
        · exact e'.symm
        · have := m1 a e; have := l1 b e'; omega
    subst e
    rw [sorted_ext l2 m2 fun y => ⟨fun hy => ?_, fun hy => ?_⟩]
    · rcases List.mem_cons.mp ((h y).mp (.tail _ hy)) with e | e
      · have := l1 y hy; omega
      · exact e
    · rcases List.mem_cons.mp ((h y).mpr (.tail _ hy)) with e | e
      · have := m1 y hy; omega
      · exact e
theorem keep_filter (qs : List (Option (Int × Int))) : ∀ (ks l : List Int), ks.foldl (keepF qs) l = l ++ ks.filter (fun k => (qs.getD k.toNat none).isSome)
  | [], l => by simp
  | k :: ks, l => by
    rw [List.foldl_cons, keep_filter qs ks, List.filter_cons]
    unfold keepF
    cases (qs.getD k.toNat none).isSome <;> simp
theorem inside_is {s : S3} {qs : List (Option (Int × Int))} {ds : List Int} {pv : List Value} {pts : List (Addr × Obj)} {T : Tr} (q : QInv s qs ds pv pts T) : List.foldl (keepF qs) [] (rangeKs 0 (9 - 0 : Int).toNat) = T.ino := by
  rw [keep_filter, List.nil_append]
  have hr : rangeKs 0 (9 - 0 : Int).toNat = [0, 1, 2, 3, 4, 5, 6, 7, 8] := rfl
  rw [hr]
  refine sorted_ext (List.Pairwise.filter _ (by decide)) q.pl.sorted fun y => ?_
  rw [List.mem_filter]
  have key : 0 ≤ y → y < 9 → ((qs.getD y.toNat none).isSome = true ↔ y ∈ T.ino) := fun y0 y9 => by
    rw [q.mem y y0 y9, List.getD_eq_getElem?_getD]
    cases e : qs[y.toNat]? with
    | none => simp
    | some o => cases o <;> simp
  constructor
  · rintro ⟨h1, h2⟩
    have : 0 ≤ y ∧ y < 9 := by
      simp only [List.mem_cons, List.not_mem_nil, or_false] at h1
      omega
    exact (key this.1 this.2).mp h2
  · intro h
    obtain ⟨y0, y9⟩ := q.pl.bounds.1 y h
    refine ⟨?_, (key y0 y9).mpr h⟩
    simp only [List.mem_cons, List.not_mem_nil, or_false]
    omega
theorem weights_in {s : S3} {qs : List (Option (Int × Int))} {ds : List Int} {pv : List Value} {pts : List (Addr × Obj)} {T : Tr} (q : QInv s qs ds pv pts T) : ∀ y ∈ T.ino, 2 ≤ ds.getD y.toNat 0 ∧ ds.getD y.toNat 0 ≤ 12 := by
  intro y hy
  obtain ⟨y0, y9⟩ := q.pl.bounds.1 y hy
  obtain ⟨⟨pa, le⟩, hq⟩ := (q.mem y y0 y9).mp hy
  obtain ⟨p0, p2, l1, l5, hd, -⟩ := q.yes _ _ _ hq
  rw [hd]
  have : pa = 0 ∨ pa = 1 := by omega
  rcases this with rfl | rfl <;> omega

structure LpSt where
  us : List Value
  ls : List Value
  hs : List Value
  s : S3
  T : Tr
  B : Addr
  f : Addr
  k1 : Tok
  k2 : Tok
  lo : Obj
  tb : Option (Addr × Obj)
/-- the table of code objects, and the lambda's code object if it has been made -/
def codeLed : Option (Addr × Obj) → List (Addr × Obj)
  | none => [(121, tabObj #[])]
  | some (c', oc) => [(121, tabObj #[rawInt 185, rawInt 44, .ref c']), (c', oc)]
def LamQual : Str := Str.ofString "law.<locals>.<lambda>"
def CodeOk (oc : Obj) : Prop := ∃ vs t, oc.data = .fields vs ∧ vs[1]? = some (.str LamQual t)
abbrev LLed (Tt D4 D3 D2 D1 Dw Dt Di c4 c3 c2 c1 : Addr) (dl : List Int) (wys ys pv wv : List Value) (ndw : Nat) (o4 o3 o2 : Obj) (pts : List (Addr × Obj)) (c : LpSt) : List (Addr × Obj) :=
  (c.B, tup [.ref c.f, .int (c.T.tot dl) c.k1, .int (c.T.prd dl) c.k2]) :: (Tt, tup [.ref D4, .ref D3, .ref D2]) :: (D3, listOf c.ls.toArray 0) :: (D2, listOf c.hs.toArray 0) :: (Dt, listOf wys.toArray wys.length) :: (Di, listOf ys.toArray ys.length) ::
    (D4, listOf c.us.toArray 0) :: (D1, listOf pv.toArray 0) :: (Dw, listOf wv.toArray ndw) :: (c4, o4) :: (c3, o3) :: (c2, o2) :: (c1, c.lo) :: (codeLed c.tb ++ pts)
structure LP (adr : List Addr) (T₀ : Tr) (c : LpSt) : Prop where
  Iu : IntsAre c.us c.s.1
  Il : IntsAre c.ls c.s.2.1
  Ih : IntsAre c.hs c.s.2.2
  pl : Plant c.s c.T
  ino : c.T.ino = T₀.ino
  off : ∀ b ∈ adr, @Ne Addr c.B b
  cell : ∃ v, c.lo.data = .cell v
  tbok : ∀ c' oc, c.tb = some (c', oc) → (∀ b ∈ adr, @Ne Addr c' b) ∧ CodeOk oc
abbrev LStored : List Str := [Str.ofString "number", Str.ofString "asked", Str.ofString "under", Str.ofString "told", Str.ofString "after", Str.ofString "turns"]
theorem getD_mem {l : List Int} {n : Nat} (h : n < l.length) : l.getD n 0 ∈ l := by
  rw [List.getD_eq_getElem?_getD, List.getElem?_eq_getElem h]
  exact List.getElem_mem h
theorem fmod_lt_len {a : Int} {n : Nat} (h : 0 < n) : (a.fmod (n : Int)).toNat < n := by
  have h1 := Int.fmod_nonneg_of_pos a (show (0 : Int) < n by omega)
  have h2 := Int.fmod_lt_of_pos a (show (0 : Int) < n by omega)
  omega
theorem codeLed_off {tb : Option (Addr × Obj)} {adr : List Addr} (h1 : ∀ b ∈ adr, @Ne Addr 121 b) (h2 : ∀ c' oc, tb = some (c', oc) → ∀ b ∈ adr, @Ne Addr c' b) : OwnOff (codeLed tb) adr := by
  cases tb with
  | none =>
    intro p hp b hb
    rw [List.mem_singleton.mp hp]
    exact h1 b hb
  | some q =>
    obtain ⟨c', oc⟩ := q
    intro p hp b hb
    rcases List.mem_cons.mp hp with rfl | hp
    · exact h1 b hb
    · rw [List.mem_singleton.mp hp]
      exact h2 c' oc rfl b hb
section
variable {prog : Program} {w : World} {A : Around} {E : Value → Shared → Prop} {s : Shared} {h₀ : Heap} {L : Addr} {m mg mb : Str → Option Value} {rest : List (Addr × Obj)} {cn : Str} {cs : Scope} {a c : Addr} {ccd : Value} {cl : List (Str × Addr)}
  {p : Program} {loose : List Str} {mean : ExcName → Option Value} {name : Str} {params : Arguments} {body : PySem.Expr} {scope : Scope} {pos : Pos} {firstLine : Nat} {clos : List (Str × Addr)}
theorem lam_step {Q : Value → Shared → Prop} {tb : Option (Addr × Obj)} (F : Fr h₀ L s.heap m) (N : News h₀ L s.heap (codeLed tb ++ rest)) (T : Top p loose mean mg mb h₀) (C : CodeHd h₀ c 121) (hcd : ccd = .ref c)
    (hpos : pos.line = 185) (hpos2 : pos.col = 44) (hcl : closureFor scope (envX cn cs L a ccd cl) = pure clos) (hno : ∀ q ∈ rest, q.1 ≠ 121) (htb : ∀ c' oc, tb = some (c', oc) → CodeOk oc)
    (h : ∀ f c' oc ctv h' tk, Fr h₀ L h' m → News h₀ L h' ((f, kla_obj name LamQual params body scope clos ((mg "__name__").getD .none) c' ctv) :: (c', oc) :: (121, tabObj #[rawInt 185, rawInt 44, .ref c']) :: rest) →
      CodeOk oc → (∀ q ∈ rest, q.1 < f) → @LT.lt Nat _ c' f → @LT.lt Nat _ 121 f → (∀ X : Addr → Prop, (∀ x, @LT.lt Nat _ 121 x → (∀ q ∈ rest, q.1 < x) → X x) → (∀ c'' oc'', tb = some (c'', oc'') → X c'') → X c') → Q (.ref f) { s with heap := h', toks := tk }) :
    wpAny (model prog w) A (makeFunction name LamQual params (.expr body) scope (envX cn cs L a ccd cl) [] [] [] pos firstLine) Q E s := by
  cases tb with
  | none =>
    refine kla_nest F N T C hcd (UpdF.head hno) True.intro rfl hcl ?_
    intro f c' oc vs t ctv h' tk F' N' hd hv l1 l2
    rw [hpos, hpos2] at N'
    have l0 : @LT.lt Nat _ 121 c' := l1 _ (.head _)
    exact h f c' oc ctv h' tk F' N' ⟨vs, t, hd, hv⟩ (fun q hq => Nat.lt_trans (l1 q (.tail _ hq)) l2) l2 (Nat.lt_trans l0 l2) (fun X hx _ => hx c' l0 fun q hq => l1 q (.tail _ hq))
  | some q =>
    obtain ⟨c', oc⟩ := q
    refine kla_hit (c' := c') F N T C hcd (.head _) (by simp [TriplesOk, rawInt]) (by simp [codeAmong, rawInt, hpos, hpos2]) hcl ?_
    intro f ctv h' tk F' N' l1
    refine h f c' oc ctv h' tk F' (nsub N' ?_) (htb c' oc rfl) (fun q hq => l1 q (.tail _ (.tail _ hq))) (l1 _ (.tail _ (.head _))) (l1 _ (.head _)) (fun X _ hx => hx c' oc rfl)
    exact List.forall_mem_cons.mpr ⟨.head _, List.forall_mem_cons.mpr ⟨.tail _ (.tail _ (.head _)), List.forall_mem_cons.mpr ⟨.tail _ (.head _), fun q hq => .tail _ (.tail _ (.tail _ hq))⟩⟩⟩
end

theorem nat_small {a : Int} (h0 : 0 ≤ a) (h1 : a ≤ 108) : a.natAbs < 2 ^ 64 := by omega
theorem cube_ok {b a : Int} (h0 : 0 ≤ a) (h1 : a ≤ 108) : IntMulOk b (a ^ (3 : Int).toNat) := by
  refine IntMulOk.of_right (intBits_le_64 ?_ ?_)
  · have : 0 ≤ a ^ (3 : Int).toNat := Int.pow_nonneg h0
    omega
  · have e : a ^ (3 : Int).toNat = a * a * a := by show a ^ 3 = _; rw [Int.pow_succ, Int.pow_succ, Int.pow_succ, Int.pow_zero, Int.one_mul]
    rw [e]
    have h2 : a * a ≤ 108 * 108 := Int.mul_le_mul h1 h1 h0 (by decide)
    have h3 : a * a * a ≤ 108 * 108 * 108 := Int.mul_le_mul h2 h1 h0 (by decide)
    omega
theorem par_ok {b : Int} (k : Int) : IntMulOk b (1 + k.fmod 2) := by
  have h1 := Int.fmod_nonneg_of_pos k (show (0 : Int) < 2 by decide)
  have h2 := Int.fmod_lt_of_pos k (show (0 : Int) < 2 by decide)
  exact IntMulOk.of_right (intBits_le_64 (by omega) (by omega))
theorem gt_no {a b : Int} (h : a ≤ b) : decide (b < a) = false := decide_eq_false (Int.not_lt.mpr h)
theorem gt_int_false {prog : Program} {w : World} {A : Around} {E : Value → Shared → Prop} {s : Shared} {Q : Value → Shared → Prop} {a b : Int} {t u : Tok} (h : a ≤ b) (hq : Q (.bool false) s) : wpAny (model prog w) A (compareOp .Gt (.int a t) (.int b u)) Q E s :=
  gt_int (by rw [gt_no h]; exact hq)

theorem news_swap2 {h₀ h : Heap} {L : Addr} {A A' P B : List (Addr × Obj)} (N : News h₀ L h ((A ++ (A' ++ P)) ++ B)) : News h₀ L h (A ++ (A' ++ (B ++ P))) := fun p hp => N p (by
  simp only [List.mem_append] at hp ⊢
  rcases hp with h | h | h | h <;> simp [h])
theorem cross_of {nw rest : List (Addr × Obj)} (D : ∀ p ∈ nw, ∀ q ∈ rest, @Ne Nat p.1 q.1) : ∀ a ∈ nw.map (·.1), ∀ b ∈ rest.map (·.1), a ≠ b := by
  intro a ha b hb
  obtain ⟨p, hp, rfl⟩ := List.mem_map.mp ha
  obtain ⟨q, hq, rfl⟩ := List.mem_map.mp hb
  exact D p hp q hq
theorem nd_join {A B : List Addr} (a : A.Nodup) (b : B.Nodup) (c : ∀ x ∈ A, ∀ y ∈ B, x ≠ y) : (A ++ B).Nodup := List.nodup_append.mpr ⟨a, b, c⟩
theorem nd_cons {a : Addr} {l : List Addr} (h : ∀ b ∈ l, @Ne Nat a b) (n : l.Nodup) : (a :: l).Nodup := List.nodup_cons.mpr ⟨fun m => h a m rfl, n⟩
theorem off_join {P : List (Addr × Obj)} {A B : List Addr} (h : OwnOff P A) (k : OwnOff P B) : OwnOff P (A ++ B) := fun p hp b hb => (List.mem_append.mp hb).elim (h p hp b) (k p hp b)
theorem nd_two {nw rest : List (Addr × Obj)} {A P : List Addr} (ndA : A.Nodup) (D : ∀ p ∈ nw, ∀ q ∈ rest, @Ne Nat p.1 q.1) (e : nw.map (·.1) = A ++ P) (hB : (rest.map (·.1)).Nodup) : (A ++ rest.map (·.1)).Nodup :=
  nd_join ndA hB (fun a ha b hb => cross_of D a (by rw [e]; exact List.mem_append_left P ha) b hb)
theorem off_two {nw rest : List (Addr × Obj)} {A : List Addr} {pts : List (Addr × Obj)} (D : ∀ p ∈ nw, ∀ q ∈ rest, @Ne Nat p.1 q.1) (o : OwnOff pts A) (e : nw.map (·.1) = A ++ pts.map (·.1)) : OwnOff pts (A ++ rest.map (·.1)) :=
  off_join o (fun p hp b hb => cross_of D p.1 (by rw [e]; exact List.mem_append_right A (List.mem_map_of_mem hp)) b hb)
theorem nd_at {l : List Addr} (h : l.Nodup) {A B : List Addr} {a : Addr} (e : l = A ++ a :: B) : (∀ b ∈ A, @Ne Addr b a) ∧ (∀ b ∈ B, @Ne Addr a b) := by
  subst e
  have := List.nodup_append.mp h
  exact ⟨fun b hb => this.2.2 b hb a (.head _), fun b hb e => (List.nodup_cons.mp this.2.1).1 (e ▸ hb)⟩

section
variable {M : Model} {A : Around} {E : Value → Shared → Prop} {s : Shared}
theorem dict_sub : isSubtype (.type "dict") (.type "dict") = pure true := by rfl
theorem dict_iter : typeLookup (.type "dict") "__iter__" = pure (some (.builtin "dict.__iter__")) := by rw [typeLookup_type, builtinLookup_eq_fast]; kernel_rfl
theorem merge_empty {Q : Unit → Shared → Prop} {d D : Addr} {o o' : Obj} {n n' : Nat} (ho : s.heap.get? D = some o) (hc : o.cls = .type "dict") (hd : o.data = .dict #[] n) (lo : (D == sysModules) = false)
    (ho' : s.heap.get? d = some o') (hd' : o'.data = .dict #[] n') (h : Q () s) : wpAny M A (mergeMapping d (.ref D) true) Q E s := by
  unfold mergeMapping
  refine wpAny_bind (wpAny_isInstance (v := .ref D) (T := "dict") (show s.TypeIs (.ref D) "dict" from ⟨o, ho, hc⟩) dict_sub ?_)
  simp only [if_true]
  refine wpAny_bind (wpAny_specialOf (v := .ref D) (T := "dict") (show s.TypeIs (.ref D) "dict" from ⟨o, ho, hc⟩) dict_iter ?_)
  refine wpAny_bind (wpAny_pure ?_)
  simp only [beq_self_eq_true, lo, Bool.false_eq_true, if_false]
  have ent : ∀ {a : Addr} {ob : Obj} {k : Nat} {Q' : Array DictEntry → Shared → Prop}, s.heap.get? a = some ob → ob.data = .dict #[] k → Q' #[] s → wpAny M A (dictEntries a) Q' E s := fun e1 e2 hq => by
    unfold dictEntries
    refine wpAny_bind (wpAny_loadPart e1 ?_)
    rw [e2]
    exact wpAny_pure hq
  have ep : ∀ {Q' : Nat → Shared → Prop}, Q' n s → wpAny M A (dictEpoch D) Q' E s := fun hq => by
    unfold dictEpoch
    refine wpAny_bind (wpAny_loadPart ho ?_)
    rw [hd]
    exact wpAny_pure hq
  refine wpAny_bind (ent ho' hd' ?_)
  rw [if_pos (show (#[] : Array DictEntry).isEmpty = true from rfl)]
  refine wpAny_bind (ent ho hd ?_)
  rw [← Array.forIn_toList, show (#[] : Array DictEntry).toList = [] from rfl, List.forIn_nil]
  refine wpAny_bind (wpAny_pure ?_)
  refine wpAny_bind (ent ho hd ?_)
  refine wpAny_bind (ep ?_)
  show wpAny M A (forIn (List.range 0) _ _ >>= _) Q E s
  rw [List.range_zero, List.forIn_nil]
  refine wpAny_bind (wpAny_pure ?_)
  exact wpAny_pure h
theorem merged_empty {f : Value} {x : Sem Value} {Q : Addr → Shared → Prop} {D : Addr} {o : Obj} {n : Nat} (ho : s.heap.get? D = some o) (hc : o.cls = .type "dict") (hd : o.data = .dict #[] n) (lo : (D == sysModules) = false)
    (hx : ∀ Q', (Q' (.ref D) : Shared → Prop) { s with heap := s.heap.push { cls := .type "dict", data := .dict #[] } } → wpAny M A x Q' E { s with heap := s.heap.push { cls := .type "dict", data := .dict #[] } })
    (h : Q s.heap.objs.size { s with heap := s.heap.push { cls := .type "dict", data := .dict #[] } }) : wpAny M A (mergedKeywords f [(none, x)]) Q E s := by
  unfold mergedKeywords
  refine wpAny_bind (wpAny_alloc ?_)
  refine wpAny_bind (wpAny_holding ?_)
  dsimp only
  rw [List.forIn_cons]
  refine wpAny_bind (wpAny_bind ?_)
  dsimp only
  refine wpAny_bind (wpAny_pure ?_)
  refine wpAny_bind (hx _ ?_)
  refine wpAny_bind (wpAny_onRaise (wpAny_holding (wpAny_tryCatch (wpAny_onRaise ?_))))
  refine merge_empty (n := n) (o := o) (n' := 0) (o' := { cls := .type "dict", data := .dict #[] }) ?ka hc hd lo ?kb ?kc ?_
  case ka => exact Heap.get?_push_of_some _ ho
  case kb => exact Heap.get?_push_size _ rfl
  case kc => rfl
  refine wpAny_pure ?_
  dsimp only
  rw [List.forIn_nil]
  refine wpAny_pure ?_
  rw [if_pos (show ([] : List (Str × Sem Value)).isEmpty = true from rfl)]
  exact wpAny_pure (wpAny_pure h)
/-- a call with a plain argument and ** of an empty dict -/
theorem callWith_kw0 {pos : Pos} {a : Addr} {ob : Obj} {fd : FuncData} {t x : Sem Value} {Q : Value → Shared → Prop} {D : Addr} {o : Obj} {n : Nat} {v : Value}
    (hargs : ∀ Q' : List Value → Shared → Prop, Q' [v] s → wpAny M A (spliced [(false, t)]) Q' E s)
    (hoa : s.heap.get? a = some ob) (hfd : ob.data = .func fd)
    (ho : s.heap.get? D = some o) (hc : o.cls = .type "dict") (hd : o.data = .dict #[] n) (lo : (D == sysModules) = false)
    (hx : ∀ Q', (Q' (.ref D) : Shared → Prop) { s with heap := s.heap.push { cls := .type "dict", data := .dict #[] } } → wpAny M A x Q' E { s with heap := s.heap.push { cls := .type "dict", data := .dict #[] } })
    (h : wpAny M A (call (.ref a) [v]) Q E { s with heap := s.heap.push { cls := .type "dict", data := .dict #[] } }) :
    wpAny M A (callWith pos (.ref a) [] [(false, t)] [(none, x)]) Q E s := by
  refine callWith_function_kw (o := ob) (fd := fd) ?_
  unfold evalArgs
  dsimp only
  refine wpAny_bind (hargs _ ?_)
  refine wpAny_bind (wpAny_pure ?_)
  dsimp only
  refine wpAny_holding ?_
  rw [if_neg (show ¬ ([(none, x)] : List (Option Str × Sem Value)).all (·.1.isSome) = true from by simp)]
  refine wpAny_bind (merged_empty ho hc hd lo hx ?_)
  refine wpAny_bind (wpAny_pure ?_)
  refine wpAny_bind (wpAny_holding ?_)
  unfold keywordsIn dictEntries
  refine wpAny_bind (wpAny_bind (wpAny_loadPart (Heap.get?_push_size _ rfl) ?_))
  refine wpAny_pure ?_
  rw [← Array.forIn_toList, show (#[] : Array DictEntry).toList = [] from rfl, List.forIn_nil]
  refine wpAny_bind (wpAny_pure ?_)
  refine wpAny_pure (wpAny_pure ⟨⟨Heap.get?_push_of_some _ hoa, hfd⟩, ?_⟩)
  exact h
end
section
variable {prog : Program} {w : World} {A : Around} {E : Value → Shared → Prop} {s : Shared}
theorem eq_self_ref (r : Addr) : SeqAt.EqAt A s (.ref r) (.ref r) true := fun prog w E Q hq => by
  unfold eqBool
  refine wpAny_holding ?_
  rw [if_pos (by simp)]
  exact wpAny_bind (wpAny_rule (wpAny_pure hq))
/-- two tuples of the same two objects -/
theorem ne_same {a b r : Addr} {Q : Value → Shared → Prop} (hl : s.heap.IsTuple a #[.ref r, .ref r]) (hb : s.heap.IsTuple b #[.ref r, .ref r]) (hu : A.units < cLine) (h : Q (.bool false) s) :
    wpAny (model prog w) A (compareOp .NotEq (.ref a) (.ref b)) Q E s :=
  EqBoolInt.of_rcne (SeqAt.RcNeAt.tuples (e := fun _ => true) hl hb hu (fun j h1 h2 => by
    match j, h1, h2 with
    | 0, _, _ => exact eq_self_ref r
    | 1, _, _ => exact eq_self_ref r)) h
end
theorem news_cons {h₀ h : Heap} {L : Addr} {l : List (Addr × Obj)} (N : News h₀ L h l) {p : Addr × Obj} (hm : p ∈ l) : News h₀ L h (p :: l) :=
  nsub N (List.forall_mem_cons.mpr ⟨hm, fun _ h => h⟩)

section
variable {prog : Program} {w : World} {A : Around}
theorem compTurn_in (elt target iter : PySem.Expr) (g0 : Comprehension) (scope : Scope) (pos : Pos) (it acc : Value) (env : Env) :
    compTurn (.ListComp elt [g0, ⟨target, iter, [], 0⟩] scope pos) 1 it acc env = (standAt iter.pos >>= fun _ => pyNext it >>= fun r => match r with
      | none => pure (.done .next)
      | some v => letOwnedTupleGo target it v >>= fun _ => assign target env v >>= fun _ =>
        (eval elt env >>= fun x => call (.builtin "list.append") [acc, x] >>= fun _ => pure ()) >>= fun _ =>
          again (.compLoop (.ListComp elt [g0, ⟨target, iter, [], 0⟩] scope pos) 1 it acc env)) := by rfl
theorem compTurn_out (elt target iter target2 iter2 : PySem.Expr) (scope : Scope) (pos : Pos) (it acc : Value) (env : Env) :
    compTurn (.ListComp elt [⟨target, iter, [], 0⟩, ⟨target2, iter2, [], 0⟩] scope pos) 0 it acc env = (standAt iter.pos >>= fun _ => pyNext it >>= fun r => match r with
      | none => pure (.done .next)
      | some v => letOwnedTupleGo target it v >>= fun _ => assign target env v >>= fun _ =>
        eval iter2 env >>= fun x => standAt iter2.pos >>= fun _ => foldedSetIterable iter2 env x >>= fun x => holding [x] (pyIter x) >>= fun i2 =>
          runOwn (.compStart (.ListComp elt [⟨target, iter, [], 0⟩, ⟨target2, iter2, [], 0⟩] scope pos) 1 i2 acc env) env >>= fun _ =>
          again (.compLoop (.ListComp elt [⟨target, iter, [], 0⟩, ⟨target2, iter2, [], 0⟩] scope pos) 0 it acc env)) := by rfl
theorem compStart_in {elt : PySem.Expr} {g0 : Comprehension} {target iter : PySem.Expr} {scope : Scope} {pos : Pos} {it acc : Value} {env : Env} {R : Result → Shared → Prop} {s : Shared}
    (h0 : codeAny (model prog w) A (.compLoop (.ListComp elt [g0, ⟨target, iter, [], 0⟩] scope pos) 1 it acc env) R s)
    (h : wpAny (model prog w) A (pyIter it) (fun it' s' => codeAny (model prog w) A (.compLoop (.ListComp elt [g0, ⟨target, iter, [], 0⟩] scope pos) 1 it' acc env) R s') (notedBy (model prog w) A env fun x s' => R (.error x) s') s) :
    codeAny (model prog w) A (.compStart (.ListComp elt [g0, ⟨target, iter, [], 0⟩] scope pos) 1 it acc env) R s := by
  refine codeAny_of_tree ?_
  show wpAny _ _ ((compStart (.ListComp elt [g0, ⟨target, iter, [], 0⟩] scope pos) 1 it acc env).onRaise (fun x => do noteFrame x env; standAt theWindowsPlace)) _ _ s
  refine wpAny_notedAt ?_
  unfold compStart
  show wpAny _ _ (ask >>= _) _ _ s
  refine wpAny_bind (wpAny_askSetting (wpAny_ite ?_))
  split
  · first
      | exact wpAny_bind (wpAny_pure (wpAny_pure (And.intro rfl h0)))
      | exact wpAny_pure (And.intro rfl h0)
  · refine wpAny_bind (wpAny_rule ?_)
    show wpAny _ _ (standAt iter.pos >>= _) _ _ s
    exact wpAny_bind (wpAny_standAt (wpAny_bind (wpAny_mono h (fun it' s' h' => wpAny_pure (And.intro rfl h')) fun _ _ x => x)))
end

abbrev LC2 (elt : PySem.Expr) (x : Str) (px : Pos) (it1 : PySem.Expr) (y : Str) (py : Pos) (it2 : PySem.Expr) (scope : Scope) (pos : Pos) : PySem.Expr := .ListComp elt [⟨.Name x px, it1, [], 0⟩, ⟨.Name y py, it2, [], 0⟩] scope pos
def TurnOf (prog : Program) (w : World) (A : Around) (h₀ : Heap) (L : Addr) (m : Str → Option Value) (news : List (Addr × Obj)) (s : Shared) (env : Env) (scope : Scope) (cl : List (Str × Addr)) (elt : PySem.Expr) (x y : Str) (v1 v2 : Value) (g : Str) : Prop :=
  ∀ J oJ I oI C oC D oD m₂ h tk (E' : Value → Shared → Prop), LCg.NsObj oC m₂ → m₂ x = some v1 → m₂ y = some v2 → Fr h₀ L h m → News h₀ L h ((J, oJ) :: (I, oI) :: (C, oC) :: (D, oD) :: news) →
    wpAny (model prog w) A (eval elt (compEnvC scope cl C env)) (fun r s' => ∃ h' tk' t, s' = { s with heap := h', toks := tk' } ∧ Fr h₀ L h' m ∧ News h₀ L h' ((J, oJ) :: (I, oI) :: (C, oC) :: (D, oD) :: news) ∧ r = .str g t) E' { s with heap := h, toks := tk }
section
variable {prog : Program} {w : World} {A : Around} {h₀ : Heap} {L : Addr} {m : Str → Option Value} {news : List (Addr × Obj)} {s : Shared} {env : Env} {scope : Scope} {cl : List (Str × Addr)} {elt it1 it2 : PySem.Expr} {x y : Str} {px py pos : Pos}
theorem strs_snoc : ∀ {vs : List Value} {ws : List Str}, StrsAre vs ws → ∀ (g : Str) (t : Tok), StrsAre (vs ++ [.str g t]) (ws ++ [g])
  | _, _, .nil, g, t => .cons g t .nil
  | _, _, .cons a b h, g, t => .cons a b (strs_snoc h g t)
theorem strs_app : ∀ {vs : List Value} {ws : List Str} {vs' : List Value} {ws' : List Str}, StrsAre vs ws → StrsAre vs' ws' → StrsAre (vs ++ vs') (ws ++ ws')
  | _, _, _, _, .nil, h => h
  | _, _, _, _, .cons a b h, h' => .cons a b (strs_app h h')
theorem inner2 {R : Result → Shared → Prop} (hh : A.handled = none) {J I C D ax2 : Addr} {oI o2 : Obj} {v1 : Value} {vs2 : List Value} {gs : List Str}
    (hxy : x ≠ y) (hy : scope.names.lookup y = some .local) (hkind : scope.kind = .function) (hl : gs.length = vs2.length)
    (turn : ∀ (i : Nat) v2 g, vs2[i]? = some v2 → gs[i]? = some g → TurnOf prog w A h₀ L m news s env scope cl elt x y v1 v2 g)
    (h2 : (ax2, o2) ∈ news) (ht2 : o2.cls = .type "tuple") (hd2 : ∃ n, o2.data = .seq vs2.toArray n)
    (JL : J ≠ L) (J0 : h₀.get? J = none) (JI : I ≠ J) (JC : J ≠ C) (JD : D ≠ J) (Jn : ∀ p ∈ news, p.1 ≠ J)
    (CL : C ≠ L) (C0 : h₀.get? C = none) (CI : I ≠ C) (CD : D ≠ C) (Cn : ∀ p ∈ news, p.1 ≠ C) (DL : D ≠ L) (D0 : h₀.get? D = none) (DI : I ≠ D) (Dn : ∀ p ∈ news, p.1 ≠ D)
    {h : Heap} {tk : Nat} {m' : Str → Option Value} {ys : List Value} (F : Fr h₀ L h m) (hC : h.Ns C m') (hx : m' x = some v1) (N : News h₀ L h ((I, oI) :: (D, LCg.lst ys) :: news)) (hJ : h.IsTupleIter J ax2 0) (hsz : ys.length + vs2.length ≤ sizeLine)
    (fin : ∀ h' tk' m'' ys', Fr h₀ L h' m → h'.Ns C m'' → News h₀ L h' ((I, oI) :: (D, LCg.lst (ys ++ ys')) :: news) → StrsAre ys' gs → (∀ b o, h.get? b = some o → h₀.get? b = none → True) → R (.ok .next) { s with heap := h', toks := tk' }) :
    codeAny (model prog w) A (.compLoop (LC2 elt x px it1 y py it2 scope pos) 1 (.ref J) (.ref D) (compEnvC scope cl C env)) R { s with heap := h, toks := tk } := by
  have W := Walks.tuple (prog := prog) (w := w) (A := A) hh J ax2 (Jn _ h2) vs2.toArray
  refine codeAny_loop rfl (fun k s' => ∃ h' tk' j ys' m'', s' = { s with heap := h', toks := tk' } ∧ j ≤ vs2.length ∧ k = vs2.length + 1 - j ∧ Fr h₀ L h' m ∧ h'.Ns C m'' ∧ m'' x = some v1 ∧ News h₀ L h' ((I, oI) :: (D, LCg.lst (ys ++ ys')) :: news) ∧ h'.IsTupleIter J ax2 j ∧ ys'.length = j ∧ StrsAre ys' (gs.take j)) ?_ (vs2.length + 1)
    ⟨h, tk, 0, [], m', rfl, Nat.zero_le _, rfl, F, hC, hx, by simpa using N, hJ, rfl, by simp only [List.take_zero]; exact .nil⟩
  rintro k _ ⟨h', tk', j, ys', m'', rfl, hj, rfl, F', C', hx', N', J', hlen, hS⟩
  show wpAny _ A ((compTurn (LC2 elt x px it1 y py it2 scope pos) 1 (.ref J) (.ref D) (compEnvC scope cl C env)).onRaise (fun x => do noteFrame x (compEnvC scope cl C env); theTreesLotGoes x)) _ _ _
  refine wpAny_noted ?_
  rw [compTurn_in]
  refine wpAny_bind (wpAny_standAt (wpAny_bind ?_))
  have T2 : h'.IsTuple ax2 vs2.toArray := by
    obtain ⟨n, hd⟩ := hd2
    exact ⟨o2, (N' _ (.tail _ (.tail _ h2))).1, ht2, n, hd⟩
  by_cases hlt : j < vs2.length
  · refine W.item j _ _ _ (by simpa using hlt) ⟨J', T2⟩ fun v h2' tk2 hPv hst hk => ?_
    have hv : vs2[j]? = some v := by simpa using hPv
    have hg : gs[j]? = some (gs[j]'(by omega)) := List.getElem?_eq_getElem _
    dsimp only
    refine wpAny_bind (wpAny_of_eq (rfl : letOwnedTupleGo (.Name y py) (.ref J) v = pure ()) ?_)
    have CJ : h2'.Ns C m'' := C'.at' fun o e => hk _ o (by simpa using Ne.symm JC) e
    refine wpAny_bind (wpAny_assign_Name (wpAny_storeName_local (lookup_relabel_local hy) CJ (fun h3 hn3 hs3 => ?_) (by simp [compEnvC, relabel, hkind])))
    obtain ⟨oJ, eJ, -⟩ := hst.1
    obtain ⟨oC, eC, nC⟩ := LCg.ns_obj hn3
    have F3 : Fr h₀ L h3 m := (LCg.fr_but F' hk (Ne.symm JL) J0).change hs3 CL C0
    have eJ3 : h3.get? J = some oJ := hs3.extBut _ _ JC eJ
    have N2 : News h₀ L h2' ((I, oI) :: (D, LCg.lst (ys ++ ys')) :: news) := LCg.news_but N' hk fun p hp => by
      rcases List.mem_cons.mp hp with rfl | hp
      · exact JI
      · rcases List.mem_cons.mp hp with rfl | hp
        · exact JD
        · exact Jn p hp
    have N3 : News h₀ L h3 ((J, oJ) :: (I, oI) :: (C, oC) :: (D, LCg.lst (ys ++ ys')) :: news) := fun p hp => by
      rcases List.mem_cons.mp hp with rfl | hp
      · exact ⟨eJ3, JL, J0⟩
      · rcases List.mem_cons.mp hp with rfl | hp
        · have z := N2 _ (.head _); exact ⟨hs3.extBut _ _ CI z.1, z.2⟩
        · rcases List.mem_cons.mp hp with rfl | hp
          · exact ⟨eC, CL, C0⟩
          · have z := N2 p (.tail _ hp)
            refine ⟨hs3.extBut _ _ ?_ z.1, z.2⟩
            rcases List.mem_cons.mp hp with rfl | hp
            · exact CD
            · exact Cn p hp
    refine wpAny_bind (wpAny_bind (wpAny_mono (turn j v _ hv hg J oJ I oI C oC D _ _ h3 _ _ nC (by rw [if_neg hxy]; exact hx') (if_pos rfl) F3 N3) (fun r s4 h4 => ?_) fun _ _ e => e))
    obtain ⟨h4, tk4, t, rfl, F4, N4, rfl⟩ := h4
    refine wpAny_bind (append_at (hsz := by show (ys ++ ys').toArray.size ≤ sizeLine; rw [List.size_toArray, List.length_append]; omega) (N4 (D, LCg.lst (ys ++ ys')) (.tail _ (.tail _ (.tail _ (.head _))))).1 fun h5 hs5 hD5 => ?_)
    refine wpAny_pure (wpAny_pure ⟨rfl, vs2.length + 1 - (j + 1), by omega, h5, tk4, j + 1, ys' ++ [.str (gs[j]'(by omega)) t], _, rfl, hlt, rfl, F4.change hs5 DL D0, (nC.ns (N4 (C, oC) (.tail _ (.tail _ (.head _)))).1).sameBut hs5 (Ne.symm CD), by rw [if_neg hxy]; exact hx', ?_, ?_, by rw [List.length_append, hlen]; rfl, ?_⟩)
    · intro p hp
      rcases List.mem_cons.mp hp with rfl | hp
      · have z := N4 (I, oI) (.tail _ (.head _)); exact ⟨hs5.extBut _ _ DI z.1, z.2⟩
      · rcases List.mem_cons.mp hp with rfl | hp
        · refine ⟨hD5.trans (congrArg some ?_), DL, D0⟩
          rw [← List.append_assoc]
          exact LCg.lst_snoc (ys ++ ys') _
        · have z := N4 p (.tail _ (.tail _ (.tail _ (.tail _ hp))))
          exact ⟨hs5.extBut _ _ (Dn p hp) z.1, z.2⟩
    · obtain ⟨oJ', eJ', rJ'⟩ := hst.1
      have : oJ = oJ' := by rw [eJ] at eJ'; exact Option.some.inj eJ'
      subst this
      exact ⟨oJ, hs5.extBut _ _ (Ne.symm JD) (N4 (J, oJ) (.head _)).1, rJ'⟩
    · rw [List.take_add_one, hg]
      exact strs_snoc hS _ t
  · obtain rfl : j = vs2.length := Nat.le_antisymm hj (Nat.not_lt.mp hlt)
    refine W.done _ _ _ ⟨by simpa using J', T2⟩ fun h2' tk2 hk => ?_
    refine wpAny_pure (fin h2' tk2 m'' ys' (LCg.fr_but F' hk (Ne.symm JL) J0) (C'.at' fun o e => hk _ o (by simpa using Ne.symm JC) e) (LCg.news_but N' hk fun p hp => ?_) (by rwa [← hl, List.take_length] at hS) (fun _ _ _ _ => trivial))
    rcases List.mem_cons.mp hp with rfl | hp
    · exact JI
    · rcases List.mem_cons.mp hp with rfl | hp
      · exact JD
      · exact Jn p hp
end

section
variable {prog : Program} {w : World} {A : Around} {E : Value → Shared → Prop} {h₀ : Heap} {L : Addr} {m : Str → Option Value} {news : List (Addr × Obj)} {s : Shared} {env : Env} {scope : Scope} {cl : List (Str × Addr)} {elt it1 it2 : PySem.Expr} {x y : Str} {px py pos : Pos}
theorem mark_none (hh : A.handled = none) : A.mark none = A := by
  obtain ⟨a, b, c, d, e⟩ := A
  have : a = none := hh
  subst this
  rfl
theorem tup_size {h : Heap} {a : Addr} {its : Array Value} (x : h.IsTuple a its) : a < h.objs.size := by obtain ⟨_, e, _⟩ := x; exact Heap.lt_size e
theorem list2 {Q : Value → Shared → Prop} {ax1 ax2 : Addr} {o1 o2 : Obj} {vs1 vs2 : List Value} {gss : List (List Str)} (hh : A.handled = none) (F₀ : Fr h₀ L s.heap m) (N₀ : News h₀ L s.heap news)
    (hclos : closureFor scope env = pure cl) (hcell : ∀ z ∈ scope.names, z.2 ≠ .cell) (hkind : scope.kind = .function) (hnames : ∀ z ∈ scope.names, z.2 = .local → scope.names.lookup z.1 = some .local)
    (hx : scope.names.lookup x = some .local) (hy : scope.names.lookup y = some .local) (hxy : x ≠ y)
    (e1 : ∀ Q' : Value → Shared → Prop, Q' (.ref ax1) s → wpAny (model prog w) A (eval it1 env) Q' E s)
    (h1 : (ax1, o1) ∈ news) (ht1 : o1.cls = .type "tuple") (hd1 : ∃ n, o1.data = .seq vs1.toArray n) (h2 : (ax2, o2) ∈ news) (ht2 : o2.cls = .type "tuple") (hd2 : ∃ n, o2.data = .seq vs2.toArray n)
    (e2 : ∀ C h tk (Q' E' : Value → Shared → Prop), Fr h₀ L h m → News h₀ L h news → Q' (.ref ax2) { s with heap := h, toks := tk } → wpAny (model prog w) A (eval it2 (compEnvC scope cl C env)) Q' E' { s with heap := h, toks := tk })
    (hs1 : ∀ x, foldedSetIterable it1 env x = pure x) (hs2 : ∀ C x, foldedSetIterable it2 (compEnvC scope cl C env) x = pure x)
    (hl1 : gss.length = vs1.length) (hl2 : ∀ gs ∈ gss, gs.length = vs2.length) (hsz : vs1.length * vs2.length + vs2.length ≤ sizeLine)
    (turn : ∀ (i : Nat) v1 gs (j : Nat) v2 g, vs1[i]? = some v1 → gss[i]? = some gs → vs2[j]? = some v2 → gs[j]? = some g → TurnOf prog w A h₀ L m news s env scope cl elt x y v1 v2 g)
    (fin : ∀ D h tk ys, Fr h₀ L h m → News h₀ L h ((D, LCg.lst ys) :: news) → (∀ p ∈ news, p.1 ≠ D) → StrsAre ys gss.flatten → Q (.ref D) { s with heap := h, toks := tk }) :
    wpAny (model prog w) A (eval (LC2 elt x px it1 y py it2 scope pos) env) Q E s := by
  rw [eval_ListComp]
  refine wpAny_comprehension_free (use := none) rfl hs1 hclos hkind hnames (e1 _ ?_)
  have tup : ∀ {h : Heap} {a : Addr} {o : Obj} {vs : List Value} {nx : List (Addr × Obj)}, News h₀ L h nx → (a, o) ∈ nx → o.cls = .type "tuple" → (∃ n, o.data = .seq vs.toArray n) → h.IsTuple a vs.toArray := fun N hm hc ⟨n, hd⟩ => ⟨_, (N _ hm).1, hc, n, hd⟩
  have T1 := tup N₀ h1 ht1 hd1
  refine wpAny_pyIter_tuple T1 ?_
  generalize hI : s.heap.objs.size = I
  generalize hH1 : s.heap.push { cls := .type "tuple_iterator", data := .fields #[.ref ax1, .int 0 0] } = H1
  refine wpAny_newObj_type (wpAny_newFunctionEnv hcell (by intro z hz; simp at hz) (fun h₁ hns₁ hsb₁ => ?_) hkind)
  dsimp only at hns₁ hsb₁ ⊢
  generalize hH2 : H1.push { cls := .type "list", dict := none, data := .seq ([] : List Value).toArray } = H2 at hns₁ hsb₁ ⊢
  have z1 : H1.objs.size = I + 1 := by rw [← hH1, Heap.size_push, hI]
  have z2 : H2.objs.size = I + 2 := by rw [← hH2, Heap.size_push, z1]
  have below : ∀ b, b < I → b ≠ H1.objs.size ∧ b ≠ H2.objs.size ∧ b ≠ I := fun b hb => ⟨by rw [z1]; exact Nat.ne_of_lt (by omega), by rw [z2]; exact Nat.ne_of_lt (by omega), Nat.ne_of_lt hb⟩
  have up1 : ∀ b o, s.heap.get? b = some o → H1.get? b = some o := fun b o e => by rw [← hH1]; exact Heap.get?_push_of_some _ e
  have up2 : ∀ b o, H1.get? b = some o → H2.get? b = some o := fun b o e => by rw [← hH2]; exact Heap.get?_push_of_some _ e
  have eI1 : H1.get? I = some { cls := .type "tuple_iterator", data := .fields #[.ref ax1, .int 0 0] } := by rw [← hH1, ← hI]; exact Heap.get?_push_size _ rfl
  have eD2 : H2.get? H1.objs.size = some (LCg.lst []) := by rw [← hH2]; exact Heap.get?_push_size _ rfl
  have old : ∀ b o, s.heap.get? b = some o → h₁.get? b = some o := fun b o e => hsb₁.extBut b o (below b (hI ▸ Heap.lt_size e)).2.1 (Heap.get?_push_of_some _ (up2 _ _ (up1 _ _ e)))
  have CI : I ≠ H2.objs.size := by rw [z2]; exact Nat.ne_of_lt (by omega)
  have DI : I ≠ H1.objs.size := by rw [z1]; exact Nat.ne_of_lt (by omega)
  have CD : H1.objs.size ≠ H2.objs.size := by rw [z1, z2]; exact Nat.ne_of_lt (by omega)
  have hit0 : h₁.IsTupleIter I ax1 0 := ⟨_, hsb₁.extBut _ _ CI (Heap.get?_push_of_some _ (up2 _ _ eI1)), rfl, rfl⟩
  have hacc : h₁.get? H1.objs.size = some (LCg.lst []) := hsb₁.extBut _ _ CD (Heap.get?_push_of_some _ eD2)
  have fresh₀ : ∀ b, I ≤ b → h₀.get? b = none := fun b hb => by
    cases e : h₀.get? b with
    | none => rfl
    | some o' =>
      have := Heap.lt_size (F₀.keep b o' e)
      rw [hI] at this
      exact absurd this (Nat.not_lt.mpr hb)
  have Llt : L < I := hI ▸ F₀.ns.lt
  have I0 := fresh₀ I (Nat.le_refl _)
  have D0 := fresh₀ H1.objs.size (by rw [z1]; exact Nat.le_succ _)
  have C0 := fresh₀ H2.objs.size (by rw [z2]; exact Nat.le_add_right _ _)
  have IL : I ≠ L := Ne.symm (below L Llt).2.2
  have DL : H1.objs.size ≠ L := Ne.symm (below L Llt).1
  have CL : H2.objs.size ≠ L := Ne.symm (below L Llt).2.1
  have nlt : ∀ p ∈ news, p.1 < I := fun p hp => hI ▸ Heap.lt_size (N₀ p hp).1
  have In : ∀ p ∈ news, p.1 ≠ I := fun p hp => (below _ (nlt p hp)).2.2
  have Dn : ∀ p ∈ news, p.1 ≠ H1.objs.size := fun p hp => (below _ (nlt p hp)).1
  have Cn : ∀ p ∈ news, p.1 ≠ H2.objs.size := fun p hp => (below _ (nlt p hp)).2.1
  have W := Walks.tuple (prog := prog) (w := w) (A := A) hh I ax1 (In _ h1) vs1.toArray
  generalize hD : H1.objs.size = D at *
  generalize hC : H2.objs.size = C at *
  have loop : ∀ tk0 : Nat, codeAny (model prog w) A (.compLoop (LC2 elt x px it1 y py it2 scope pos) 0 (.ref I) (.ref D) (compEnvC scope cl C env)) (compPost (model prog w) A E none Q (.ref D) C) { s with heap := h₁, toks := tk0 } := by
    intro tk0
    refine codeAny_loop rfl (fun k s' => ∃ h' tk' i ys m'', s' = { s with heap := h', toks := tk' } ∧ i ≤ vs1.length ∧ k = vs1.length + 1 - i ∧ Fr h₀ L h' m ∧ h'.Ns C m'' ∧ News h₀ L h' ((D, LCg.lst ys) :: news) ∧ h'.IsTupleIter I ax1 i ∧ ys.length = i * vs2.length ∧ StrsAre ys (gss.take i).flatten) ?_ (vs1.length + 1)
      ⟨h₁, tk0, 0, [], _, rfl, Nat.zero_le _, rfl, F₀.keeps old, hns₁, fun p hp => ?_, hit0, by simp, by simp only [List.take_zero, List.flatten_nil]; exact .nil⟩
    · rintro k _ ⟨h', tk', i, ys, m'', rfl, hi, rfl, F', C', N', J', hlen, hS⟩
      show wpAny _ A ((compTurn (LC2 elt x px it1 y py it2 scope pos) 0 (.ref I) (.ref D) (compEnvC scope cl C env)).onRaise (fun x => do noteFrame x (compEnvC scope cl C env); theTreesLotGoes x)) _ _ _
      refine wpAny_noted ?_
      rw [compTurn_out]
      refine wpAny_bind (wpAny_standAt (wpAny_bind ?_))
      have T1' := tup N' (.tail _ h1) ht1 hd1
      by_cases hlt : i < vs1.length
      · refine W.item i _ _ _ (by simpa using hlt) ⟨J', T1'⟩ fun v h2' tk2 hPv hst hk => ?_
        have hv : vs1[i]? = some v := by simpa using hPv
        have hg : gss[i]? = some (gss[i]'(by omega)) := List.getElem?_eq_getElem _
        have hgl : (gss[i]'(by omega)).length = vs2.length := hl2 _ (List.getElem_mem _)
        dsimp only
        refine wpAny_bind (wpAny_of_eq (rfl : letOwnedTupleGo (.Name x px) (.ref I) v = pure ()) ?_)
        have CJ : h2'.Ns C m'' := C'.at' fun o e => hk _ o (by simpa using Ne.symm CI) e
        refine wpAny_bind (wpAny_assign_Name (wpAny_storeName_local (lookup_relabel_local hx) CJ (fun h3 hn3 hs3 => ?_) (by simp [compEnvC, relabel, hkind])))
        obtain ⟨oI, eI, rI⟩ := hst.1
        have F3 : Fr h₀ L h3 m := (LCg.fr_but F' hk (Ne.symm IL) I0).change hs3 CL C0
        have eI3 : h3.get? I = some oI := hs3.extBut _ _ CI eI
        have N2 : News h₀ L h2' ((D, LCg.lst ys) :: news) := LCg.news_but N' hk fun p hp => by
          rcases List.mem_cons.mp hp with rfl | hp
          · exact Ne.symm DI
          · exact In p hp
        have N3 : News h₀ L h3 ((I, oI) :: (D, LCg.lst ys) :: news) := fun p hp => by
          rcases List.mem_cons.mp hp with rfl | hp
          · exact ⟨eI3, IL, I0⟩
          · have z := N2 p hp
            refine ⟨hs3.extBut _ _ ?_ z.1, z.2⟩
            rcases List.mem_cons.mp hp with rfl | hp
            · exact CD
            · exact Cn p hp
        refine wpAny_bind (e2 C h3 _ _ _ F3 (nsub N3 fun p hp => .tail _ (.tail _ hp)) ?_)
        refine wpAny_bind (wpAny_standAt (wpAny_bind (wpAny_of_eq (hs2 C _) (wpAny_bind (wpAny_holding (wpAny_pyIter_tuple (tup N3 (.tail _ (.tail _ h2)) ht2 hd2) ?_))))))
        have up : ∀ b o, h3.get? b = some o → (h3.push { cls := .type "tuple_iterator", data := .fields #[.ref ax2, .int 0 0] }).get? b = some o := fun b o e => Heap.get?_push_of_some _ e
        have lt3 : ∀ {b : Addr} {o : Obj}, h3.get? b = some o → b ≠ h3.objs.size := fun e => Nat.ne_of_lt (Heap.lt_size e)
        have JL : h3.objs.size ≠ L := by obtain ⟨_, _, _, e', _⟩ := F3.ns; exact Ne.symm (lt3 e')
        have JC : h3.objs.size ≠ C := by obtain ⟨_, _, _, e', _⟩ := hn3; exact Ne.symm (lt3 e')
        refine wpAny_bind (wpAny_runOwn (h := none) ?_)
        rw [mark_none hh]
        have inner : ∀ tkx : Nat, codeAny (model prog w) A (.compLoop (LC2 elt x px it1 y py it2 scope pos) 1 (.ref h3.objs.size) (.ref D) (compEnvC scope cl C env)) _ { s with heap := h3.push { cls := .type "tuple_iterator", data := .fields #[.ref ax2, .int 0 0] }, toks := tkx } := fun tkx =>
          inner2 (R := (fun r s' => match r with
            | .ok f => wpAny (model prog w) A (again (.compLoop (LC2 elt x px it1 y py it2 scope pos) 0 (.ref I) (.ref D) (compEnvC scope cl C env))) (fun fin s' => match fin with
              | .done f => compPost (model prog w) A E none Q (.ref D) C (.ok f) s'
              | .again c' => c' = .compLoop (LC2 elt x px it1 y py it2 scope pos) 0 (.ref I) (.ref D) (compEnvC scope cl C env) ∧ ∃ mm, mm < vs1.length + 1 - i ∧ ∃ h' tk' i ys m'', s' = { s with heap := h', toks := tk' } ∧ i ≤ vs1.length ∧ mm = vs1.length + 1 - i ∧ Fr h₀ L h' m ∧ h'.Ns C m'' ∧ News h₀ L h' ((D, LCg.lst ys) :: news) ∧ h'.IsTupleIter I ax1 i ∧ ys.length = i * vs2.length ∧ StrsAre ys (gss.take i).flatten)
              (notedBy (model prog w) A (compEnvC scope cl C env) fun e s' => compPost (model prog w) A E none Q (.ref D) C (.error e) s') s'
            | .error e => cameBackBy (model prog w) A (compEnvC scope cl C env) (notedBy (model prog w) A (compEnvC scope cl C env) fun e s' => compPost (model prog w) A E none Q (.ref D) C (.error e) s') e s'))
          hh (J := h3.objs.size) (I := I) (C := C) (D := D) (ax2 := ax2) (oI := oI) (o2 := o2) (v1 := v) (vs2 := vs2) (gs := gss[i]'(by omega)) hxy hy hkind hgl (fun j v2 g hv2 hg2 => turn i v _ j v2 g hv hg hv2 hg2) h2 ht2 hd2
            JL (Heap.get?_none_of_le (Nat.le_trans F3.above (Nat.le_of_lt F3.ns.lt))) (lt3 (N3 _ (.head _)).1) JC (lt3 (N3 _ (.tail _ (.head _))).1) (fun p hp => lt3 (N3 p (.tail _ (.tail _ hp))).1)
            CL C0 CI CD Cn DL D0 DI Dn (F3.keeps up) (hn3.at' fun o e => up _ o e) (if_pos rfl) (N3.grown up) ⟨_, Heap.get?_push_size _ rfl, rfl, rfl⟩ (by
              have : i * vs2.length ≤ vs1.length * vs2.length := Nat.mul_le_mul_right _ hi
              omega)
            (fun h5 tk5 m5 ys' F5 C5 N5 S5 _ => wpAny_pure ⟨rfl, vs1.length + 1 - (i + 1), by omega, h5, tk5, i + 1, ys ++ ys', m5, rfl, hlt, rfl, F5, C5, fun p hp => N5 p (.tail _ hp), ⟨oI, (N5 (I, oI) (.head _)).1, rI⟩, by rw [List.length_append, hlen, S5.length, hgl, Nat.succ_mul], by
              rw [List.take_add_one, hg]
              simp only [Option.toList_some, List.flatten_append, List.flatten_cons, List.flatten_nil, List.append_nil]
              exact strs_app hS S5⟩)
        exact compStart_in (inner _) (wpAny_pyIter_tupleiter ⟨_, Heap.get?_push_size _ rfl, rfl, rfl⟩ (inner _))
      · obtain rfl : i = vs1.length := Nat.le_antisymm hi (Nat.not_lt.mp hlt)
        refine W.done _ _ _ ⟨by simpa using J', T1'⟩ fun h2' tk2 hk => ?_
        refine wpAny_pure ?_
        have CJ : h2'.Ns C m'' := C'.at' fun o e => hk _ o (by simpa using Ne.symm CI) e
        have N2 : News h₀ L h2' ((D, LCg.lst ys) :: news) := LCg.news_but N' hk fun p hp => by
          rcases List.mem_cons.mp hp with rfl | hp
          · exact Ne.symm DI
          · exact In p hp
        refine ⟨m'', CJ, fun h'' hs'' => fin D h'' tk2 ys ((LCg.fr_but F' hk (Ne.symm IL) I0).change hs'' CL C0) (fun p hp => ?_) Dn (by rwa [← hl1, List.take_length] at hS)⟩
        refine ⟨hs''.extBut _ _ ?_ (N2 p hp).1, (N2 p hp).2⟩
        rcases List.mem_cons.mp hp with rfl | hp
        · exact CD
        · exact Cn p hp
    · rcases List.mem_cons.mp hp with rfl | hp
      · exact ⟨hacc, DL, D0⟩
      · exact ⟨old _ _ (N₀ p hp).1, (N₀ p hp).2⟩
  exact codeAny_compStart_list (loop _) (wpAny_pyIter_tupleiter hit0 (loop _))
end

structure DpSt where
  i : Int
  a : Int
  sd : Int
  n : Nat
  t1 : Tok
  t2 : Tok
  t3 : Tok

structure PlSt where
  us : List Value
  ls : List Value
  hs : List Value
  pv : List Value
  dv : List Value
  s : S3
  ds : List Int
  qs : List (Option (Int × Int))
  pts : List (Addr × Obj)

structure PInv (c : PlSt) (T : Tr) : Prop where
  Iu : IntsAre c.us c.s.1
  Il : IntsAre c.ls c.s.2.1
  Ih : IntsAre c.hs c.s.2.2
  Id : IntsAre c.dv c.ds
  q : QInv c.s c.qs c.ds c.pv c.pts T

theorem off_more {own pts : List (Addr × Obj)} {A : List Addr} {R : Addr} {o : Obj} (h : OwnOff own (A ++ pts.map (·.1))) (hr : ∀ q ∈ own, @Ne Nat R q.1) : OwnOff own (A ++ ((R, o) :: pts).map (·.1)) := by
  intro p hp b hb
  rw [List.map_cons] at hb
  rcases List.mem_append.mp hb with z | z
  · exact h p hp b (List.mem_append_left _ z)
  · rcases List.mem_cons.mp z with rfl | z
    · exact fun e => hr p hp e.symm
    · exact h p hp b (List.mem_append_right _ z)

abbrev PLed (D4 D3 D2 D1 D0 wa : Addr) (wv : List Value) (nw : Nat) (c : PlSt) : List (Addr × Obj) :=
  [(D4, listOf c.us.toArray 0), (D3, listOf c.ls.toArray 0), (D2, listOf c.hs.toArray 0), (D1, listOf c.pv.toArray 0), (D0, listOf c.dv.toArray 0), (wa, listOf wv.toArray nw)] ++ c.pts
abbrev PP (D4 D3 D2 D1 D0 wa : Addr) (i : Nat) (c : PlSt) : Prop := ∃ T, PInv c T ∧ OwnOff c.pts [D4, D3, D2, D1, D0, wa] ∧ (0 < i → T ≠ .nil)
abbrev PStored : List Str := [Str.ofString "number", Str.ofString "place", Str.ofString "pale", Str.ofString "level", Str.ofString "here", Str.ofString "above", Str.ofString "side"]

theorem plant_end {D4 D3 D2 D1 D0 wa R : Addr} {wv : List Value} {nw : Nat} {h₀ h' : Heap} {L : Addr} {s₁ : Shared} {m₀ m' : Str → Option Value} {own pts tl : List (Addr × Obj)} {tk : Nat} {i : Nat}
    {us' ls' hs' dv dv' pv : List Value} {s s' : S3} {ds ds' : List Int} {qs : List (Option (Int × Int))} {T T' : Tr} {x pa le : Int} {cx cy cz : UInt64} {k1 k2 k3 : Tok}
    (F : Fr h₀ L h' m') (N : News h₀ L h' ((R, tup [.float cx k1, .float cy k2, .float cz k3]) :: (D4, listOf us'.toArray 0) :: (D3, listOf ls'.toArray 0) :: (D2, listOf hs'.toArray 0) :: (D1, listOf (pv.set x.toNat (.ref R)).toArray 0) :: (D0, listOf dv'.toArray 0) :: (wa, listOf wv.toArray nw) :: tl))
    (htl : tl = pts ++ own) (hoff : OwnOff own ((PLed D4 D3 D2 D1 D0 wa wv nw ⟨[], [], [], [], dv, s, ds, qs, pts⟩).map (·.1))) (hpts : OwnOff pts [D4, D3, D2, D1, D0, wa]) (rtl : ∀ q ∈ tl, @Ne Nat R q.1)
    (r4 : @Ne Nat R D4) (r3 : @Ne Nat R D3) (r2 : @Ne Nat R D2) (r1 : @Ne Nat R D1) (r0 : @Ne Nat R D0) (rw0 : @Ne Nat R wa)
    (hr : ∀ z, (∀ p ∈ ([] : List (Str × Value)), z ≠ p.1) → PStored.contains z = false → m' z = m₀ z)
    (hQ : QInv s qs ds pv pts T) (x0 : 0 ≤ x) (x9 : x < 9) (pl : Plant s' T') (hm : ∀ y, y ∈ T'.ino ↔ y = x ∨ y ∈ T.ino) (p0 : 0 ≤ pa) (p2 : pa < 2) (l1 : 1 ≤ le) (l5 : le < 5) (he : (cx, cy, cz) = paintF x pa le)
    (Iu : IntsAre us' s'.1) (Il : IntsAre ls' s'.2.1) (Ih : IntsAre hs' s'.2.2) (Id : IntsAre dv' ds') (hds : ds' = ds.set x.toNat (le * (2 + pa))) :
    TurnEnd h₀ L s₁ (PLed D4 D3 D2 D1 D0 wa wv nw) (fun _ => []) PStored m₀ (PP D4 D3 D2 D1 D0 wa (i + 1)) own { s₁ with heap := h', toks := tk } := by
  subst hds
  refine turn_end ⟨us', ls', hs', pv.set x.toNat (.ref R), dv', s', ds.set x.toNat (le * (2 + pa)), qs.set x.toNat (some (pa, le)), (R, tup [.float cx k1, .float cy k2, .float cz k3]) :: pts⟩ F N ?_ ?_ ?_ (List.forall_mem_nil _) hr
    ⟨T', ⟨Iu, Il, Ih, Id, hQ.step x0 x9 pl hm p0 p2 l1 l5 he⟩, ?_, fun _ e => ?_⟩
  · intro p hp
    rw [htl]
    simp only [List.mem_append, List.mem_cons, List.not_mem_nil, or_false] at hp ⊢
    rcases hp with (h | h | h | h | h | h) | h | h <;> simp [h]
  · intro p z
    rw [htl]
    simp [z]
  · exact off_more (A := [D4, D3, D2, D1, D0, wa]) (fun p hp b hb => hoff p hp b (by rw [List.map_append]; exact hb)) (fun q hq => rtl q (htl ▸ List.mem_append_right _ hq))
  · exact List.forall_mem_cons.mpr ⟨List.forall_mem_cons.mpr ⟨r4, List.forall_mem_cons.mpr ⟨r3, List.forall_mem_cons.mpr ⟨r2, List.forall_mem_cons.mpr ⟨r1, List.forall_mem_cons.mpr ⟨r0, List.forall_mem_cons.mpr ⟨rw0, List.forall_mem_nil _⟩⟩⟩⟩⟩⟩, hpts⟩
  · have := (hm x).mpr (.inl rfl)
    rw [show T' = .nil from e] at this
    simp [Tr.ino] at this

theorem plant_end0 {D4 D3 D2 D1 D0 wa : Addr} {wv : List Value} {nw : Nat} {h₀ h' : Heap} {L : Addr} {s₁ : Shared} {m₀ m' : Str → Option Value} {own tl : List (Addr × Obj)} {tk : Nat} {i : Nat} (c : PlSt) {T : Tr}
    (F : Fr h₀ L h' m') (N : News h₀ L h' ((D4, listOf c.us.toArray 0) :: (D3, listOf c.ls.toArray 0) :: (D2, listOf c.hs.toArray 0) :: (D1, listOf c.pv.toArray 0) :: (D0, listOf c.dv.toArray 0) :: (wa, listOf wv.toArray nw) :: tl))
    (htl : tl = c.pts ++ own) (hoff : OwnOff own ((PLed D4 D3 D2 D1 D0 wa wv nw c).map (·.1))) (hpts : OwnOff c.pts [D4, D3, D2, D1, D0, wa])
    (hr : ∀ z, (∀ p ∈ ([] : List (Str × Value)), z ≠ p.1) → PStored.contains z = false → m' z = m₀ z) (hP : PInv c T) {x : Int} (hx : x ∈ T.ino) :
    TurnEnd h₀ L s₁ (PLed D4 D3 D2 D1 D0 wa wv nw) (fun _ => []) PStored m₀ (PP D4 D3 D2 D1 D0 wa (i + 1)) own { s₁ with heap := h', toks := tk } := by
  refine turn_end c F N ?_ ?_ hoff (List.forall_mem_nil _) hr ⟨T, hP, hpts, fun _ e => ?_⟩
  · intro p hp
    rw [htl]
    simp only [List.mem_append, List.mem_cons, List.not_mem_nil, or_false] at hp ⊢
    rcases hp with (h | h | h | h | h | h) | h <;> simp [h]
  · intro p z
    rw [htl]
    simp [z]
  · rw [show T = .nil from e] at hx
    simp [Tr.ino] at hx


def PlantPost (wa : Addr) (wv : List Value) (nw : Nat) (r : Value) (nw' : List (Addr × Obj)) : Prop :=
  ∃ (Rt t D4 D3 D2 D1 D0 : Addr) (c : PlSt) (T : Tr), r = .ref Rt ∧ nw' = [(Rt, tup [.ref t, .ref D1, .ref D0]), (t, tup [.ref D4, .ref D3, .ref D2])] ++ PLed D4 D3 D2 D1 D0 wa wv nw c ∧ PInv c T ∧ T ≠ .nil ∧
    @LT.lt Nat _ wa D4 ∧ @LT.lt Nat _ D4 D3 ∧ @LT.lt Nat _ D3 D2 ∧ @LT.lt Nat _ D2 D1 ∧ @LT.lt Nat _ D1 D0 ∧ @LT.lt Nat _ D0 t ∧ @LT.lt Nat _ t Rt ∧ OwnOff c.pts [Rt, t, D4, D3, D2, D1, D0, wa]

local macro_rules | `(tactic| walk_at "exec For Name Name cons nil") => `(tactic| (k_here; (rename Fr _ _ _ _ => lF'); (with_unfolding_all refine' For_invVF lF' ?k1 ?k2 ?_; (case k1 => exact rfl); (case k2 => exact rfl); k_whole)))


theorem plant_does (w : World) (na wa : Addr) (nv wv : List Value) (nn nw : Nat) (nums : List Int) (In : IntsAre nv nums) (Iw : StrsAre wv W9) (nwn : @Ne Nat na wa) (hnz : 0 < nums.length) :
    Does w 91 [.ref na, .ref wa] 4 [(na, listOf nv.toArray nn), (wa, listOf wv.toArray nw)] (PlantPost wa wv nw) := by
  unfold Does
  w_top off
  k_fill
  intro p loose mean mg mb dp un gd cn cs a ccd cl outer A₀ base h₀ L m s Q E B F X N T hk hd hu hret
  refine wpAny_call (flatUp fun fm => ?_)
  k_dflt ((refine' code_def1 ?k1 ?k2 ?k3 ?k4 ?k5 ?kA ?kF ?kK ?k6 ?k7 ?k8 ?k9 ?kB ?_ ?c2 ?c3 ?c4 ?c5; (case kA => exact rfl); (case kF => exact rfl); (case kK => assumption); (case k1 => k_asm); (case k2 => k_asm); (case k3 => k_asm); (case k4 => k_asm); (case k5 => k_asm); (case k6 => k_is); (case k7 => k_is); (case k8 => ktr_room); (case k9 => exact BindsTo.of_eq rfl); (case c5 => decide); (case kB => exact locs rfl); (case c2 => exact rfl); (case c3 => exact rfl); (case c4 => exact rfl); k_whole; intro _ _ _ _ _ _ _ _ _ _; (try dsimp only); (try k_fold)))
  k_steps
  unfold Halt
  (rename News _ _ _ _ => lN'); (rename Fr _ _ _ _ => lF')
  rename_i l4 zz0 l1a D4 zz1 i1c zz2 zz3 zz4 zz5 zz6 l1b zz7 zz8 l3 zz9 l1c D3 zz10 i1d zz11 zz12 zz13 zz14 zz15 l1d zz16 zz17 l2 zz18 l1e D2 zz19 i1e zz20 zz21 zz22 zz23 zz24 l1f zz25 zz26 lB1 zz27 l1g D1 zz28 l1h zz29 zz30 lB0 zz31 l1i D0 zz32 i1f zz33 zz34 zz35 zz36 zz37 l1j zz38
  have o1 : @LT.lt Nat _ wa D4 := by omega
  have o2 : @LT.lt Nat _ D4 D3 := by omega
  have o3 : @LT.lt Nat _ D3 D2 := by omega
  have o4 : @LT.lt Nat _ D2 D1 := by omega
  have o5 : @LT.lt Nat _ D1 D0 := by omega
  have e01 : @Ne Addr wa D4 := Nat.ne_of_lt (o1)
  have e02 : @Ne Addr wa D3 := Nat.ne_of_lt (Nat.lt_trans (o1) o2)
  have e03 : @Ne Addr wa D2 := Nat.ne_of_lt (Nat.lt_trans (Nat.lt_trans (o1) o2) o3)
  have e04 : @Ne Addr wa D1 := Nat.ne_of_lt (Nat.lt_trans (Nat.lt_trans (Nat.lt_trans (o1) o2) o3) o4)
  have e05 : @Ne Addr wa D0 := Nat.ne_of_lt (Nat.lt_trans (Nat.lt_trans (Nat.lt_trans (Nat.lt_trans (o1) o2) o3) o4) o5)
  have e12 : @Ne Addr D4 D3 := Nat.ne_of_lt (o2)
  have e13 : @Ne Addr D4 D2 := Nat.ne_of_lt (Nat.lt_trans (o2) o3)
  have e14 : @Ne Addr D4 D1 := Nat.ne_of_lt (Nat.lt_trans (Nat.lt_trans (o2) o3) o4)
  have e15 : @Ne Addr D4 D0 := Nat.ne_of_lt (Nat.lt_trans (Nat.lt_trans (Nat.lt_trans (o2) o3) o4) o5)
  have e23 : @Ne Addr D3 D2 := Nat.ne_of_lt (o3)
  have e24 : @Ne Addr D3 D1 := Nat.ne_of_lt (Nat.lt_trans (o3) o4)
  have e25 : @Ne Addr D3 D0 := Nat.ne_of_lt (Nat.lt_trans (Nat.lt_trans (o3) o4) o5)
  have e34 : @Ne Addr D2 D1 := Nat.ne_of_lt (o4)
  have e35 : @Ne Addr D2 D0 := Nat.ne_of_lt (Nat.lt_trans (o4) o5)
  have e45 : @Ne Addr D1 D0 := Nat.ne_of_lt (o5)
  with_unfolding_all refine' list_loopS (σ := PlSt) (Led := PLed D4 D3 D2 D1 D0 wa wv nw) (ps := fun _ => []) (stored := PStored) (P := PP D4 D3 D2 D1 D0 wa) (c₀ := ⟨_, _, _, _, _, ((List.replicate (Int.toNat 9) [-2]).flatten, (List.replicate (Int.toNat 9) [-1]).flatten, (List.replicate (Int.toNat 9) [-1]).flatten), (List.replicate (Int.toNat 9) [0]).flatten, List.replicate 9 none, []⟩) rfl (PySem.IsL.isList (n := nn) (lN' (na, listOf nv.toArray nn) ?hm).1) (lN' (na, listOf nv.toArray nn) ?hm).2.1 (lN' (na, listOf nv.toArray nn) ?hm).2.2 ?hln lF' (nsub lN' ?hN) (List.forall_mem_nil _) ?hp ?turn ?done
  case hm => k_mem
  case hN => with_unfolding_all k_allIn
  case hln => (repeat' (first | exact List.forall_mem_nil _ | refine List.forall_mem_cons.mpr ⟨?_, ?_⟩ | (refine neN ?_; (try dsimp only); omega)))
  case hp => exact ⟨.nil, ⟨i1c, i1d, i1e, i1f, qinv_start rfl⟩, (fun p hp => nomatch hp), fun h => absurd h (Nat.lt_irrefl _)⟩
  case turn =>
    rintro i v ⟨us, ls, hs, pv, dv, ⟨ups, lows, highs⟩, ds, qs, pts⟩ u h tk own hv hoff ⟨T, hP, hpts, hT⟩ F1 N1
    obtain ⟨num, tv, rfl, _⟩ := int_at In hv
    dsimp only at hpts F1
    have off : OwnOff (pts ++ own) [D4, D3, D2, D1, D0, wa] := fun p hp b hb => (List.mem_append.mp hp).elim (fun q => hpts p q b hb) (fun q => hoff p q b (by rw [List.map_append]; exact List.mem_append_left _ hb))
    obtain ⟨tl, htl⟩ : ∃ tl, tl = pts ++ own := ⟨_, rfl⟩
    rw [← htl] at off
    change News _ _ _ ((D4, listOf us.toArray 0) :: (D3, listOf ls.toArray 0) :: (D2, listOf hs.toArray 0) :: (D1, listOf pv.toArray 0) :: (D0, listOf dv.toArray 0) :: (wa, listOf wv.toArray nw) :: (pts ++ own)) at N1
    rw [← htl] at N1
    have Iu := hP.Iu; have Il := hP.Il; have Ih := hP.Ih; have Id := hP.Id; have hQ := hP.q; dsimp only at hQ
    have Lp := hQ.Lp; have Ld := hQ.Ld; have Lq := hQ.Lq; have Lu := hQ.pl.Lu; have Ll := hQ.pl.Ll; have Lh := hQ.pl.Lh
    dsimp only at Iu Il Ih Id Lu Ll Lh
    have b0 : 0 ≤ num.fmod 9 := Int.fmod_nonneg_of_pos _ (by decide)
    have b9 : num.fmod 9 < 9 := Int.fmod_lt_of_pos _ (by decide)
    have e0 : 0 ≤ (num.fdiv 9).fmod 2 := Int.fmod_nonneg_of_pos _ (by decide)
    have e9 : (num.fdiv 9).fmod 2 < 2 := Int.fmod_lt_of_pos _ (by decide)
    have g0 : 0 ≤ (num.fdiv 18).fmod 4 := Int.fmod_nonneg_of_pos _ (by decide)
    have g9 : (num.fdiv 18).fmod 4 < 4 := Int.fmod_lt_of_pos _ (by decide)
    clear lF' lN' l1a l1b l1c l1d l1e l1f l1g l1h l1i l1j i1c i1d i1e i1f
    (try k_fold)
    k_steps
    · (rename _ ≠ (-2 : Int) => hup)
      refine' plant_end0 ⟨us, ls, hs, pv, dv, (ups, lows, highs), ds, qs, pts⟩ (by assumption) (by assumption) htl hoff hpts ?hr hP (hQ.pl.in_of b0 b9 hup)
      case hr => (intro z h2 h3; clear h2; (simp only [List.contains_cons, List.contains_nil, Bool.or_false, Bool.or_eq_false_iff, beq_eq_false_iff_ne, ne_eq] at h3); simp [kstB, h3])
    · unfold Halt
      have okh := hsv_ok b0 b9 e0 e9
      (k_dflt (refine' Does.use0 (hsv_does _ _ _ _ _ _ _ okh) ?k1 ?k2 ?k3 ?k4 ?k5 ?kK ?kd ?ku ?_)); (case k1 => k_asm); (case k2 => k_asm); (case k3 => k_asm); (case k4 => k_asm); (case k5 => k_asm); (case kK => first | exact rfl | assumption); (case kd => ktr_room); (case ku => ktr_units)
      rintro r2 nw2 h2 tk2 F2 N2 D2' ⟨R, cx, cy, cz, k1, k2, k3, rfl, rfl, he⟩
      dsimp only [List.cons_append, List.nil_append] at N2
      replace D2' := D2' _ (.head _)
      simp only [List.forall_mem_cons] at D2'
      obtain ⟨r4, r3, r2, r1, r0, rw0, rtl⟩ := D2'
      replace r4 : @Ne Addr R D4 := r4
      replace r3 : @Ne Addr R D3 := r3
      replace r2 : @Ne Addr R D2 := r2
      replace r1 : @Ne Addr R D1 := r1
      replace r0 : @Ne Addr R D0 := r0
      replace rw0 : @Ne Addr R wa := rw0
      have lu : PyData.layable0 (.list (ups.map .int)) = true := hQ.pl.lay
      have hW : W9.length = 9 := rfl
      (try k_fold)
      k_steps
      · unfold Halt
        (rename (List.any _ _ = true) => hany); (rename _ = (-2 : Int) => hup)
        obtain ⟨n, ra, rs, T', hD, hrs, ra0, ra9, hPl, hmem⟩ := plant_more hQ.pl hany b0 b9 (hQ.pl.not_in b0 b9 hup)
        (rename News _ _ _ _ => lN'); (rename Fr _ _ _ _ => lF')
        with_unfolding_all refine' while_use0 (σ := DpSt) (ps := fun c => [(Str.ofString "here", .int c.i c.t1), (Str.ofString "above", .int c.a c.t2), (Str.ofString "side", .int c.sd c.t3)]) (stored := []) (P := fun c => Drop lows highs (num.fmod 9) ra rs c.n c.i c.a c.sd) (μ := fun c => c.n) (c₀ := ⟨(ups.idxOf (-1 : Int) : Nat), -1, 0, n, _, _, _⟩) ?kE lF' lN' ?kk ?kp ?_
        case kE => passes_own
        case kk => kst_all
        case kp => exact hD
        clear lF' lN'
        rintro ⟨i', a', sd', n', t1', t2', t3'⟩ u1 h1 tk1 FD1 F1 N1
        dsimp only at FD1 N1 F1
        cases FD1 with
        | stop hi ea es =>
          subst ea; subst es
          (try k_fold)
          k_steps
          · (rename (sd' < 0) => hneg)
            have hPl' : Plant (ups.set (num.fmod 9).toNat a', lows.set a'.toNat (num.fmod 9), highs) T' := by
              have := hPl
              unfold plantF at this
              rwa [if_pos hneg, if_pos hneg] at this
            refine' plant_end (ds' := ds.set (num.fmod 9).toNat (((num.fdiv 18).fmod 4 + 1) * (2 + (num.fdiv 9).fmod 2))) (by assumption) (by assumption) htl hoff hpts rtl r4 r3 r2 r1 r0 rw0 ?hr hQ b0 b9 hPl' hmem e0 e9 (by omega) (by omega) he (by assumption) (by assumption) (by assumption) (by assumption) rfl
            case hr => (intro z h2 h3; clear h2; (simp only [List.contains_cons, List.contains_nil, Bool.or_false, Bool.or_eq_false_iff, beq_eq_false_iff_ne, ne_eq] at h3); simp [kstB, h3])
          · have hneg : ¬ sd' < 0 := by omega
            have hpos : 0 < sd' := by omega
            have hPl' : Plant (ups.set (num.fmod 9).toNat a', lows, highs.set a'.toNat (num.fmod 9)) T' := by
              have := hPl
              unfold plantF at this
              rwa [if_neg hneg, if_neg hneg, if_pos hpos] at this
            refine' plant_end (ds' := ds.set (num.fmod 9).toNat (((num.fdiv 18).fmod 4 + 1) * (2 + (num.fdiv 9).fmod 2))) (by assumption) (by assumption) htl hoff hpts rtl r4 r3 r2 r1 r0 rw0 ?hr hQ b0 b9 hPl' hmem e0 e9 (by omega) (by omega) he (by assumption) (by assumption) (by assumption) (by assumption) rfl
            case hr => (intro z h2 h3; clear h2; (simp only [List.contains_cons, List.contains_nil, Bool.or_false, Bool.or_eq_false_iff, beq_eq_false_iff_ne, ne_eq] at h3); simp [kstB, h3])
        | @low n2 _ _ _ i0 i9 hlt FD2 =>
          have e0 := coll_is b0 b9 i0 i9
          rw [if_pos hlt] at e0
          have c1 : (collF (W9.getD (num.fmod 9).toNat Str.empty) (W9.getD i'.toNat Str.empty) < 0) := by rw [e0]; decide
          (try k_fold)
          k_steps
          unfold Halt
          refine' ksw_end ⟨lows.getD i'.toNat 0, i', collF (W9.getD (num.fmod 9).toNat Str.empty) (W9.getD i'.toNat Str.empty), n2, _, _, _⟩ (by assumption) (by assumption) (fun _ h => h) trivial ?kk ?hr ?hP ?mm
          case kk => (repeat' (first | exact List.forall_mem_nil _ | refine List.forall_mem_cons.mpr ⟨by with_unfolding_all rfl, ?_⟩))
          case hr => (intro z h2 h3; clear h3; (simp only [List.forall_mem_cons, List.not_mem_nil, false_implies, implies_true, and_true, ne_eq] at h2); simp [kstB, h2])
          case hP => (show Drop _ _ _ _ _ n2 _ _ (collF _ _)); rw [e0]; exact FD2
          case mm => exact Nat.lt_add_of_pos_right (by decide)
        | @high n2 _ _ _ i0 i9 hlt FD2 =>
          have e0 := coll_is b0 b9 i0 i9
          rw [if_neg (by omega), if_pos hlt] at e0
          have c1 : ¬ (collF (W9.getD (num.fmod 9).toNat Str.empty) (W9.getD i'.toNat Str.empty) < 0) := by rw [e0]; decide
          (try k_fold)
          k_steps
          unfold Halt
          refine' ksw_end ⟨highs.getD i'.toNat 0, i', collF (W9.getD (num.fmod 9).toNat Str.empty) (W9.getD i'.toNat Str.empty), n2, _, _, _⟩ (by assumption) (by assumption) (fun _ h => h) trivial ?kk ?hr ?hP ?mm
          case kk => (repeat' (first | exact List.forall_mem_nil _ | refine List.forall_mem_cons.mpr ⟨by with_unfolding_all rfl, ?_⟩))
          case hr => (intro z h2 h3; clear h3; (simp only [List.forall_mem_cons, List.not_mem_nil, false_implies, implies_true, and_true, ne_eq] at h2); simp [kstB, h2])
          case hP => (show Drop _ _ _ _ _ n2 _ _ (collF _ _)); rw [e0]; exact FD2
          case mm => exact Nat.lt_add_of_pos_right (by decide)
      · (rename (List.any _ _ = false) => hany)
        obtain ⟨hT0, hPl'⟩ := plant_first hQ.pl hany b0 b9
        refine' plant_end (ds' := ds.set (num.fmod 9).toNat (((num.fdiv 18).fmod 4 + 1) * (2 + (num.fdiv 9).fmod 2))) (by assumption) (by assumption) htl hoff hpts rtl r4 r3 r2 r1 r0 rw0 ?hr hQ b0 b9 hPl' (fun y => by rw [hT0]; simp [Tr.ino]) e0 e9 (by omega) (by omega) he (by assumption) (by assumption) (by assumption) (by assumption) rfl
        case hr => (intro z h2 h3; clear h2; (simp only [List.contains_cons, List.contains_nil, Bool.or_false, Bool.or_eq_false_iff, beq_eq_false_iff_ne, ne_eq] at h3); simp [kstB, h3])
  case done =>
    rintro ⟨us, ls, hs, pv, dv, ⟨ups, lows, highs⟩, ds, qs, pts⟩ u h tk ⟨T, hP, hpts, hT⟩ F1 N1
    dsimp only at hpts F1 N1
    clear lF' lN' l1a l1b l1c l1d l1e l1f l1g l1h l1i l1j i1c i1d i1e i1f
    change News _ _ _ ((D4, listOf us.toArray 0) :: (D3, listOf ls.toArray 0) :: (D2, listOf hs.toArray 0) :: (D1, listOf pv.toArray 0) :: (D0, listOf dv.toArray 0) :: (wa, listOf wv.toArray nw) :: pts) at N1
    (try k_fold)
    k_steps
    rename_i Dt g1 la DR g2 FF NN lb kF kN Tc kX
    obtain ⟨-, -, -, -, q5, -, ltp⟩ := la
    exact hret _ _ _ _ kF kN (apart_of (by assumption) FF NN) ⟨DR, Dt, D4, D3, D2, D1, D0, ⟨us, ls, hs, pv, dv, (ups, lows, highs), ds, qs, pts⟩, T, rfl, rfl, hP, hT (by rw [In.length]; exact hnz), o1, o2, o3, o4, o5, q5, lb.1,
      fun p hp => List.forall_mem_cons.mpr ⟨Nat.ne_of_lt (Nat.lt_trans (ktn_ltOf ltp p hp) lb.1), List.forall_mem_cons.mpr ⟨Nat.ne_of_lt (ktn_ltOf ltp p hp), hpts p hp⟩⟩⟩

def langF (v : Option Str) : Str := v.getD (Str.ofString "C")
def nameF (l e : Option Str) : Str := match e with
  | none => langF l
  | some e => langF l ++ Str.ofString "." ++ e
def optV (v : Option Str) (t : Tok) : Value := match v with
  | none => .none
  | some s => .str s t
theorem bl_does (w : World) (a : Addr) (l e : Option Str) (t1 t2 : Tok) (hl : ∀ x, l = some x → x.length ≤ 10) (he : ∀ x, e = some x → x.length ≤ 10) :
    Does w 72 [.ref a] 1 [(a, tup [optV l t1, optV e t2])] (fun r nw => nw = [(a, tup [optV l t1, optV e t2])] ∧ ∃ tk, r = .str (nameF l e) tk) := by
  unfold Does
  w_top off
  k_fill
  intro p loose mean mg mb dp un gd cn cs a ccd cl outer A₀ base h₀ L m s Q E B F X N T hk hd hu hret
  refine wpAny_call (flatUp fun fm => ?_)
  cases l with
  | none =>
    cases e with
    | none =>
      dsimp only [optV] at N hret
      k_dflt ((refine' code_def1 ?k1 ?k2 ?k3 ?k4 ?k5 ?kA ?kF ?kK ?k6 ?k7 ?k8 ?k9 ?kB ?_ ?c2 ?c3 ?c4 ?c5; (case kA => exact rfl); (case kF => exact rfl); (case kK => assumption); (case k1 => k_asm); (case k2 => k_asm); (case k3 => k_asm); (case k4 => k_asm); (case k5 => k_asm); (case k6 => k_is); (case k7 => k_is); (case k8 => ktr_room); (case k9 => exact BindsTo.of_eq rfl); (case c5 => decide); (case kB => exact locs rfl); (case c2 => exact rfl); (case c3 => exact rfl); (case c4 => exact rfl); k_whole; intro _ _ _ _ _ _ _ _ _ _; (try dsimp only); (try k_fold)))
      k_steps
      exact hret _ _ _ _ (by assumption) (by assumption) (apart_of (by assumption) (by assumption) (by assumption)) ⟨rfl, _, rfl⟩
    | some e =>
      have le := he e rfl
      dsimp only [optV] at N hret
      k_dflt ((refine' code_def1 ?k1 ?k2 ?k3 ?k4 ?k5 ?kA ?kF ?kK ?k6 ?k7 ?k8 ?k9 ?kB ?_ ?c2 ?c3 ?c4 ?c5; (case kA => exact rfl); (case kF => exact rfl); (case kK => assumption); (case k1 => k_asm); (case k2 => k_asm); (case k3 => k_asm); (case k4 => k_asm); (case k5 => k_asm); (case k6 => k_is); (case k7 => k_is); (case k8 => ktr_room); (case k9 => exact BindsTo.of_eq rfl); (case c5 => decide); (case kB => exact locs rfl); (case c2 => exact rfl); (case c3 => exact rfl); (case c4 => exact rfl); k_whole; intro _ _ _ _ _ _ _ _ _ _; (try dsimp only); (try k_fold)))
      k_steps
      exact hret _ _ _ _ (by assumption) (by assumption) (apart_of (by assumption) (by assumption) (by assumption)) ⟨rfl, _, rfl⟩
  | some l =>
    have ll := hl l rfl
    cases e with
    | none =>
      dsimp only [optV] at N hret
      k_dflt ((refine' code_def1 ?k1 ?k2 ?k3 ?k4 ?k5 ?kA ?kF ?kK ?k6 ?k7 ?k8 ?k9 ?kB ?_ ?c2 ?c3 ?c4 ?c5; (case kA => exact rfl); (case kF => exact rfl); (case kK => assumption); (case k1 => k_asm); (case k2 => k_asm); (case k3 => k_asm); (case k4 => k_asm); (case k5 => k_asm); (case k6 => k_is); (case k7 => k_is); (case k8 => ktr_room); (case k9 => exact BindsTo.of_eq rfl); (case c5 => decide); (case kB => exact locs rfl); (case c2 => exact rfl); (case c3 => exact rfl); (case c4 => exact rfl); k_whole; intro _ _ _ _ _ _ _ _ _ _; (try dsimp only); (try k_fold)))
      k_steps
      exact hret _ _ _ _ (by assumption) (by assumption) (apart_of (by assumption) (by assumption) (by assumption)) ⟨rfl, _, rfl⟩
    | some e =>
      have le := he e rfl
      dsimp only [optV] at N hret
      k_dflt ((refine' code_def1 ?k1 ?k2 ?k3 ?k4 ?k5 ?kA ?kF ?kK ?k6 ?k7 ?k8 ?k9 ?kB ?_ ?c2 ?c3 ?c4 ?c5; (case kA => exact rfl); (case kF => exact rfl); (case kK => assumption); (case k1 => k_asm); (case k2 => k_asm); (case k3 => k_asm); (case k4 => k_asm); (case k5 => k_asm); (case k6 => k_is); (case k7 => k_is); (case k8 => ktr_room); (case k9 => exact BindsTo.of_eq rfl); (case c5 => decide); (case kB => exact locs rfl); (case c2 => exact rfl); (case c3 => exact rfl); (case c4 => exact rfl); k_whole; intro _ _ _ _ _ _ _ _ _ _; (try dsimp only); (try k_fold)))
      k_steps
      exact hret _ _ _ _ (by assumption) (by assumption) (apart_of (by assumption) (by assumption) (by assumption)) ⟨rfl, _, rfl⟩

def WordsPost (r : Value) (nw : List (Addr × Obj)) : Prop :=
  ∃ D : Addr, ∃ n : Nat, ∃ vs : List Value, r = .ref D ∧ nw = [(D, listOf vs.toArray n)] ∧ StrsAre vs W9
def G9 : List (List Str) := [["C", "C.a", "C.b"], ["D", "D.a", "D.b"], ["a", "a.a", "a.b"]]
theorem nine {i j : Nat} {t1 t2 t3 t4 : Tok} {v1 v2 : Value} {gs : List Str} {g : Str} (h1 : ([.none, .str (Str.ofString "D") t1, .str (Str.ofString "a") t2] : List Value)[i]? = some v1) (h2 : G9[i]? = some gs)
    (h3 : ([.none, .str (Str.ofString "a") t3, .str (Str.ofString "b") t4] : List Value)[j]? = some v2) (h4 : gs[j]? = some g) :
    ∃ l e u1 u2, v1 = optV l u1 ∧ v2 = optV e u2 ∧ g = nameF l e ∧ (∀ x, l = some x → x.length ≤ 10) ∧ (∀ x, e = some x → x.length ≤ 10) := by
  have c1 : i = 0 ∨ i = 1 ∨ i = 2 := by
    have := (List.getElem?_eq_some_iff.mp h1).1
    simp at this
    omega
  have c2 : j = 0 ∨ j = 1 ∨ j = 2 := by
    have := (List.getElem?_eq_some_iff.mp h3).1
    simp at this
    omega
  rcases c1 with rfl | rfl | rfl <;> rcases c2 with rfl | rfl | rfl <;> (simp [G9] at h1 h2 h3; subst h1; subst h2; subst h3; simp at h4; subst h4)
  · exact ⟨none, none, 0, 0, rfl, rfl, by decide +kernel, (fun _ h => nomatch h), (fun _ h => nomatch h)⟩
  · exact ⟨none, some (Str.ofString "a"), 0, t3, rfl, rfl, by decide +kernel, (fun _ h => nomatch h), (fun x h => by cases h; decide +kernel)⟩
  · exact ⟨none, some (Str.ofString "b"), 0, t4, rfl, rfl, by decide +kernel, (fun _ h => nomatch h), (fun x h => by cases h; decide +kernel)⟩
  · exact ⟨some (Str.ofString "D"), none, t1, 0, rfl, rfl, by decide +kernel, (fun x h => by cases h; decide +kernel), (fun _ h => nomatch h)⟩
  · exact ⟨some (Str.ofString "D"), some (Str.ofString "a"), t1, t3, rfl, rfl, by decide +kernel, (fun x h => by cases h; decide +kernel), (fun x h => by cases h; decide +kernel)⟩
  · exact ⟨some (Str.ofString "D"), some (Str.ofString "b"), t1, t4, rfl, rfl, by decide +kernel, (fun x h => by cases h; decide +kernel), (fun x h => by cases h; decide +kernel)⟩
  · exact ⟨some (Str.ofString "a"), none, t2, 0, rfl, rfl, by decide +kernel, (fun x h => by cases h; decide +kernel), (fun _ h => nomatch h)⟩
  · exact ⟨some (Str.ofString "a"), some (Str.ofString "a"), t2, t3, rfl, rfl, by decide +kernel, (fun x h => by cases h; decide +kernel), (fun x h => by cases h; decide +kernel)⟩
  · exact ⟨some (Str.ofString "a"), some (Str.ofString "b"), t2, t4, rfl, rfl, by decide +kernel, (fun x h => by cases h; decide +kernel), (fun x h => by cases h; decide +kernel)⟩
theorem words_does (w : World) : Does w 84 [] 3 [] WordsPost := by
  unfold Does
  w_top off
  k_fill
  intro p loose mean mg mb dp un gd cn cs a ccd cl outer A₀ base h₀ L m s Q E B F X N T hk hd hu hret
  refine wpAny_call ?_
  k_dflt ((refine' code_def1C ?k1 ?k2 ?k3 ?k4 ?k5 ?kA ?kF ?kK ?k6 ?k7 ?k8 ?k9 ?kB ?kD ?_ ?c2 ?c3 ?c4; (case kA => exact rfl); (case kF => exact rfl); (case kK => assumption); (case k1 => k_asm); (case k2 => k_asm); (case k3 => k_asm); (case k4 => k_asm); (case k5 => k_asm); (case k6 => k_is); (case k7 => k_is); (case k8 => ktr_room); (case k9 => exact BindsTo.of_eq rfl); (case kB => exact rfl); (case kD => decide +kernel); (case c2 => exact rfl); (case c3 => exact rfl); (case c4 => exact rfl); k_whole; intro g' L' h' tk' cells' FG' hg' F' N' Y' B' X' T' l1; (try k_lt l1); k_cells Y'; (try simp only [List.cons_append, List.nil_append] at N'); (try dsimp only); (try k_fold)))
  k_steps
  unfold Halt
  (rename Fr _ _ _ _ => lF'); (rename News _ _ _ _ => lN')
  rename_i D1 _ la _ tkx D2 _ lb _ oc dc
  k_dflt (refine' list2 (ax1 := D1) (ax2 := D2) (gss := G9) ?hh lF' lN' ?clos ?cell ?kind ?names ?hx ?hy ?hxy ?e1 (.tail _ (.head _)) rfl ⟨_, rfl⟩ (.head _) rfl ⟨_, rfl⟩ ?e2 ?s1 ?s2 ?l1 ?l2 ?sz ?turn ?fin)
  case hh => exact rfl
  case clos => with_unfolding_all rfl
  case cell => decide
  case kind => rfl
  case names => decide
  case hx => rfl
  case hy => rfl
  case hxy => decide
  case s1 => intro _; rfl
  case s2 => intro _ _; rfl
  case l1 => rfl
  case l2 =>
    intro gs hg
    simp only [G9, List.mem_cons, List.not_mem_nil, or_false] at hg
    rcases hg with rfl | rfl | rfl <;> rfl
  case sz => rw [PySem.sizeLine_eq]; show 3 * 3 + 3 ≤ 16777216; decide
  case e1 =>
    intro Q' hq
    k_steps
    exact hq
  case e2 =>
    intro C h tk' Q' E' F2 N2 hq
    (try k_fold)
    k_steps
    exact hq
  case turn =>
    intro i v1 gs j v2 g h1 h2 h3 h4
    obtain ⟨l, e, u1, u2, rfl, rfl, rfl, le1, le2⟩ := nine h1 h2 h3 h4
    unfold TurnOf
    intro J oJ I oI C oC D oD m₂ h tk' E' hC' hx' hy' F2 N2
    clear lF' lN' h1 h2 h3 h4
    (try k_fold)
    k_steps
    unfold Halt
    k_dflt (refine' Does.useP (bl_does w _ l e u1 u2 le1 le2) [1, 2, 3, 4, 5, 6, 7] ?k1 ?k2 ?k3 ?k4 ?k5 ?kK ?kd ?ku ?hs ?hx ?_)
    (case k1 => k_asm); (case k2 => k_asm); (case k3 => k_asm); (case k4 => k_asm); (case k5 => k_asm); (case kK => first | exact rfl | assumption); (case kd => ktr_room); (case ku => ktr_units)
    case hs => with_unfolding_all k_allIn
    case hx => dsimp only [pickL, atL, List.cons_append, List.nil_append]; (repeat' (first | exact List.forall_mem_nil _ | refine List.forall_mem_cons.mpr ⟨?_, ?_⟩ | (refine neN ?_; (try dsimp only); first | with_reducible assumption | (refine Ne.symm ?_; with_reducible assumption) | omega)))
    rintro r6 nw6 h6 tk6 F6 N6 - ⟨rfl, t6, rfl⟩
    dsimp only [pickL, atL, List.cons_append, List.nil_append] at N6
    exact ⟨_, _, _, rfl, F6, nsub N6 (fun p hp => .tail _ hp), rfl⟩
  case fin =>
    intro D h tk' ys F2 N2 hD hS
    clear lF' lN'
    (try k_fold)
    k_steps
    exact hret _ [(D, listOf ys.toArray ys.length)] _ _ (by assumption) (nsub (by assumption) (List.forall_mem_cons.mpr ⟨.head _, List.forall_mem_nil _⟩)) (apart_of (by assumption) (by assumption) (nsub (by assumption) (List.forall_mem_cons.mpr ⟨.head _, List.forall_mem_nil _⟩))) ⟨D, ys.length, ys, rfl, rfl, hS⟩

local macro_rules | `(tactic| k_ne) => `(tactic| (refine neN ?_; (try dsimp only); first | with_reducible assumption | (refine Ne.symm ?_; with_reducible assumption) | omega))
local macro_rules | `(tactic| walk_at "exec Assign cons ListComp") => `(tactic| refine Halt.out ?_)
local macro_rules | `(tactic| walk_at "CompSrcT") => `(tactic| refine Halt.out ?_)
local macro_rules | `(tactic| walk_at "CompSrc") => `(tactic| refine Halt.out ?_)
local macro_rules | `(tactic| walk_at "exec For Name Subscript cons nil") => `(tactic| refine Halt.out ?_)
local macro_rules | `(tactic| walk_at "exec For") => `(tactic| refine Halt.out ?_)
local macro_rules | `(tactic| walk_at "compareOp NotEq float int") => `(tactic| refine Halt.out ?_)
local macro_rules | `(tactic| walk_at "binaryOp Pow int int") => `(tactic| refine Halt.out ?_)
local macro_rules | `(tactic| walk_at "compareOp Gt int int") => `(tactic| refine Halt.out ?_)
local macro_rules | `(tactic| walk_at "compareOp NotEq ref ref") => `(tactic| (refine Halt.outM (by with_reducible assumption) ?_))
local macro_rules | `(tactic| walk_at "binaryOp Mult int int") => `(tactic| (with_reducible refine mul_int ?_ (by with_reducible assumption); (try dsimp only)))
local macro_rules | `(tactic| walk_at "binaryOp Pow int int") => `(tactic| (with_reducible refine pow_int_small (by first | with_reducible assumption | decide) (by first | with_reducible assumption | decide) (by first | with_reducible assumption | decide) ?_; (try dsimp only)))


theorem strs_cons {vs : List Value} {x : Str} {r : List Str} (h : StrsAre vs (x :: r)) : ∃ t vs', vs = .str x t :: vs' ∧ StrsAre vs' r := by
  cases h with
  | cons _ t h => exact ⟨t, _, rfl, h⟩
theorem strs9 {vs : List Value} (h : StrsAre vs W9) : ∃ t1 t2 t3 t4 t5 t6 t7 t8 t9 : Tok, vs = [.str (Str.ofString "C") t1, .str (Str.ofString "C.a") t2, .str (Str.ofString "C.b") t3, .str (Str.ofString "D") t4, .str (Str.ofString "D.a") t5, .str (Str.ofString "D.b") t6, .str (Str.ofString "a") t7, .str (Str.ofString "a.a") t8, .str (Str.ofString "a.b") t9] := by
  obtain ⟨t1, v1, rfl, h1⟩ := strs_cons h
  obtain ⟨t2, v2, rfl, h2⟩ := strs_cons h1
  obtain ⟨t3, v3, rfl, h3⟩ := strs_cons h2
  obtain ⟨t4, v4, rfl, h4⟩ := strs_cons h3
  obtain ⟨t5, v5, rfl, h5⟩ := strs_cons h4
  obtain ⟨t6, v6, rfl, h6⟩ := strs_cons h5
  obtain ⟨t7, v7, rfl, h7⟩ := strs_cons h6
  obtain ⟨t8, v8, rfl, h8⟩ := strs_cons h7
  obtain ⟨t9, v9, rfl, h9⟩ := strs_cons h8
  cases h9
  exact ⟨_, _, _, _, _, _, _, _, _, rfl⟩

theorem post_true (xs : List Int) : PySem.Challenge.rw_kl0130_01.row.claim.post [ofPy (PyData.list (List.map PyData.int xs))] (WData.bool true) [ofPy (PyData.list (List.map PyData.int xs))] = true := by
  wrow_post

theorem law_holds : PySem.Challenge.rw_kl0130_01.Holds := Mine.hd (by
  w_top off
  k_go0
  (all_goals try k_fold)
  rename_i lo0 _ _ _ dlo _ _ _ _ _ _ _
  rename Shared => s1
  k_steps
  unfold Halt
  (rename IntsAre _ _ => hIs); (rename Heap.IsList _ _ _ => hLs)
  (rename ¬ (_ < ((List.length _ : Nat) : Int)) => hfew)
  (k_dflt (refine' DoesB.use0 (drawn_does _ _ _ _ hIs ?few) ?k1 ?k2 ?k3 ?k4 ?k5 ?kK ?kd ?ku ?hb ?_)); (case k1 => k_asm); (case k2 => k_asm); (case k3 => k_asm); (case k4 => k_asm); (case k5 => k_asm); (case kK => first | exact rfl | assumption); (case kd => ktr_room); (case ku => ktr_units)
  case few => omega
  case hb => assumption
  rintro r1 nw1 h1 tk1 F1 N1 D1' ⟨Dd, nd, dv, ds, rfl, rfl, Idr, Ldr⟩
  dsimp only [List.cons_append, List.nil_append] at N1
  (try k_fold)
  k_steps
  replace D1' := D1' _ (.head _)
  simp only [List.forall_mem_cons] at D1'
  obtain ⟨a1, a2, a3, a4, a5, -⟩ := D1'
  replace a1 : @Ne Addr _ _ := a1
  replace a2 : @Ne Addr _ _ := a2
  replace a3 : @Ne Addr _ _ := a3
  replace a4 : @Ne Addr _ _ := a4
  replace a5 : @Ne Addr _ _ := a5
  unfold Halt
  (k_dflt (refine' Does.use0 (words_does _) ?k1 ?k2 ?k3 ?k4 ?k5 ?kK ?kd ?ku ?_)); (case k1 => k_asm); (case k2 => k_asm); (case k3 => k_asm); (case k4 => k_asm); (case k5 => k_asm); (case kK => first | exact rfl | assumption); (case kd => ktr_room); (case ku => ktr_units)
  rintro r2 nw2 h2 tk2 F2 N2 D2' ⟨Dw, ndw, wv, rfl, rfl, Iw⟩
  dsimp only [List.cons_append, List.nil_append] at N2
  replace D2' := D2' _ (.head _)
  simp only [List.forall_mem_cons] at D2'
  obtain ⟨b0, b1, b2, b3, b4, b5, -⟩ := D2'
  replace b0 : @Ne Addr _ _ := b0
  replace b1 : @Ne Addr _ _ := b1
  replace b2 : @Ne Addr _ _ := b2
  replace b3 : @Ne Addr _ _ := b3
  replace b4 : @Ne Addr _ _ := b4
  replace b5 : @Ne Addr _ _ := b5
  have Iw' := Iw
  obtain ⟨wt1, wt2, wt3, wt4, wt5, wt6, wt7, wt8, wt9, rfl⟩ := strs9 Iw'
  (try k_fold)
  k_steps
  unfold Halt
  rename_i oc4 dc4 _ _ _ _ _ _ _ _ _ _ _ _
  (rename IntsAre _ (List.take 6 _) => It); (rename List.length (List.take 6 _) = _ => Lt); (rename News _ _ _ _ => lN')
  (k_dflt (refine' Does.useP (plant_does _ _ _ _ _ _ _ _ It Iw ?ne1 ?nz) [3, 4, 5, 6, 7, 8] ?k1 ?k2 ?k3 ?k4 ?k5 ?kK ?kd ?ku ?hs ?hx ?_))
  case ne1 => omega
  case nz => rw [Lt, Ldr]; decide
  (case k1 => k_asm); (case k2 => k_asm); (case k3 => k_asm); (case k4 => k_asm); (case k5 => k_asm); (case kK => first | exact rfl | assumption); (case kd => ktr_room); (case ku => ktr_units)
  case hs => with_unfolding_all k_allIn
  case hx => dsimp only [pickL, atL, List.cons_append, List.nil_append]; (repeat' (first | exact List.forall_mem_nil _ | refine List.forall_mem_cons.mpr ⟨?_, ?_⟩ | (refine neN ?_; (try dsimp only); first | with_reducible assumption | (refine Ne.symm ?_; with_reducible assumption) | omega)))
  rintro r3 nw3 h3 tk3 F3 N3 D3' ⟨Rt, Tt, D4, D3, D2, D1, D0, ⟨us, ls, hs, pv, dv', ⟨ups, lows, highs⟩, dl, qs, pts⟩, T, rfl, rfl, hP, hT, o1, o2, o3, o4, o5, o6, o7, offP⟩
  have N4 := news_swap2 N3
  dsimp only [pickL, atL, List.cons_append, List.nil_append] at N4 hP offP
  have ndA : [Rt, Tt, D4, D3, D2, D1, D0, Dw].Nodup := by
    (repeat' (first | exact List.nodup_nil | (refine nd_cons ?_ ?_; · (repeat' (first | exact List.forall_mem_nil _ | refine List.forall_mem_cons.mpr ⟨by omega, ?_⟩)))))
  (rename @LT.lt Nat _ 121 _ => l121)
  have ND := nd_two ndA D3' rfl (by
    dsimp only [pickL, atL, List.map_cons, List.map_nil]
    (repeat' (first | exact List.nodup_nil | (refine nd_cons ?_ ?_; · (repeat' (first | exact List.forall_mem_nil _ | refine List.forall_mem_cons.mpr ⟨by first | assumption | omega | (dsimp only; first | assumption | omega), ?_⟩))))))
  have offQ := off_two D3' offP rfl
  dsimp only [pickL, atL, List.cons_append, List.nil_append, List.map_cons, List.map_nil] at ND offQ
  clear N3 D3' offP ndA
  have q4 := nd_at ND (A := [Rt, Tt, D4, D3, D2, D1, D0, Dw, Dd]) rfl
  have q3 := nd_at ND (A := [Rt, Tt, D4, D3, D2, D1, D0, Dw, Dd, _]) rfl
  have q2 := nd_at ND (A := [Rt, Tt, D4, D3, D2, D1, D0, Dw, Dd, _, _]) rfl
  have q1 := nd_at ND (A := [Rt, Tt, D4, D3, D2, D1, D0, Dw, Dd, _, _, _]) rfl
  simp only [List.map_cons, List.map_nil, List.mem_cons, List.not_mem_nil, or_false, forall_eq_or_imp, forall_eq, and_assoc] at q4 q3 q2 q1
  have NDk := Keep.in ND
  have offk := Keep.in offQ
  clear ND offQ
  obtain ⟨u4_1, u4_2, u4_3, u4_4, u4_5, u4_6, u4_7, u4_8, u4_9, u4_10, u4_11, u4_12, u4_13⟩ := q4
  obtain ⟨u3_1, u3_2, u3_3, u3_4, u3_5, u3_6, u3_7, u3_8, u3_9, u3_10, u3_11, u3_12, u3_13⟩ := q3
  obtain ⟨u2_1, u2_2, u2_3, u2_4, u2_5, u2_6, u2_7, u2_8, u2_9, u2_10, u2_11, u2_12, u2_13⟩ := q2
  obtain ⟨u1_1, u1_2, u1_3, u1_4, u1_5, u1_6, u1_7, u1_8, u1_9, u1_10, u1_11, u1_12, u1_13⟩ := q1
  (try k_fold)
  as_aux_lemma =>
    w_top off
    k_steps
    unfold Halt
    rename_i oc3 dc3 _ oc2 dc2 _ _ _
    as_aux_lemma =>
      w_top off
      (k_here; lcg_calm)
      k_dflt (refine' LCt.Assign_ListComp_T (F₀ := by k_asm) (by rfl) ?k1 ?k2 (by decide) (by rfl) (by decide) (by rfl) (by rfl) (by rfl) ?_ ?k3)
      case k1 => with_unfolding_all rfl
      case k2 => with_unfolding_all rfl
      case k3 => intro _; rfl
      as_aux_lemma =>
        w_top off
        iterate 12 (try (first | walk1 | (dsimp only; walk1)))
        unfold Halt
        as_aux_lemma =>
          w_top off
          have hQ0 := hP.q
          k_dflt (refine' LCt.CompSrcT.range ?a1 ?a2 ?a3 ?a4 ?a5 ?a6 ?a7 ?_)
          case a1 => rfl
          case a2 => k_asm
          case a3 => k_asm
          case a4 => assumption
          case a5 => decide
          case a6 => exact rangeSize_nat _ _
          case a7 => exact Nat.le_of_ble_eq_true rfl
          intro g'
          refine' kci_range (keepF qs) (fun k' t' I' oI' C' oC' D' m' ys' l' h' tk' E' hlo' hhi' hI' hC' hx' F' N' off' ne' => ?_) ?_ ?_
          · (try (simp only [LCg.Off3, and_true] at off'))
            intro hMark'
            (try k_fold)
            replace hhi' : k' < 9 := by simpa using hhi'
            as_aux_lemma =>
              w_top off
              rcases q_cases hQ0.Lq hlo' hhi' with hq | ⟨pa, le, hq⟩
              · have hv := (hQ0.no _ hq).1
                dsimp only at hv
                k_steps
                refine LCg.CompEnd.intro (by assumption) (by assumption) _ (fun _ h => h) (by simp only [LCg.Off3, and_true]; exact off') trivial (kci_no (keepF_none hq) rfl)
              · obtain ⟨-, -, -, -, -, Ra, z1, z2, z3, hv, -⟩ := hQ0.yes _ _ _ hq
                dsimp only at hv
                k_steps
                refine LCg.CompEnd.intro (by assumption) (by assumption) _ (fun _ h => h) (by simp only [LCg.Off3, and_true]; exact off') trivial (kci_el (keepF_some hq) rfl rfl)
          · (try k_fold)
            as_aux_lemma =>
              w_top off
              unfold KPfDone
              intro ys hys hyl
              (try k_fold)
              k_steps
              unfold Halt
              rename_i Di hi tki Fi Ni oi
              as_aux_lemma =>
                w_top off
                (k_here; lcg_calm)
                k_dflt (refine' LCg.Assign_ListComp_U (F₀ := by k_asm) (by rfl) ?k1 ?k2 (by decide) (by rfl) (by decide) (by rfl) (by rfl) (by rfl) ?_ ?k3)
                case k1 => with_unfolding_all rfl
                case k2 => with_unfolding_all rfl
                case k3 => intro _; rfl
                iterate 12 (try (first | walk1 | (dsimp only; walk1)))
                unfold Halt
                as_aux_lemma =>
                  w_top off
                  have Lpv : pv.length = 9 := hQ0.Lp
                  have Ldl : dl.length = 9 := hQ0.Ld
                  k_dflt (refine' LCg.CompSrc.ledger ?a1 ?a2 ?a3 ?a4 ?a5 ?_)
                  case a1 => rfl
                  case a2 => k_asm
                  case a3 => k_asm
                  case a4 => k_mem
                  case a5 => rw [PySem.sizeLine_eq]; simp only [List.size_toArray]; omega
                  intro g'
                  refine' vals_rest (ns := dl) (by omega) (fun i' v' k' I' oI' C' oC' D' m' ys' h' tk' E' hv' hk' hC' hx' F' N' off' ne' => ?_) ?_
                  · (try (simp only [LCg.Off3, and_true] at off'))
                    (try k_fold)
                    as_aux_lemma =>
                      w_top off
                      have hi9 : i' < 9 := by
                        have := (List.getElem?_eq_some_iff.mp hv').1
                        omega
                      rcases q_cases (k := (i' : Int)) hQ0.Lq (by omega) (by omega) with hq | ⟨pa, le, hq⟩
                      · obtain ⟨hv, hd⟩ := hQ0.no _ hq
                        dsimp only at hv hd
                        obtain rfl : v' = .none := by
                          have e : (i' : Int).toNat = i' := by simp
                          rw [e, hv'] at hv
                          exact Option.some.inj hv
                        k_steps
                        refine kcf_el ?_ rfl rfl
                        have e : (i' : Int).toNat = i' := by simp
                        rw [e, List.getD_eq_getElem?_getD, hk'] at hd
                        exact hd
                      · obtain ⟨p0, p2, l1, l5, hd, Ra, z1, z2, z3, hv, hm⟩ := hQ0.yes _ _ _ hq
                        dsimp only at hv hd hm
                        obtain rfl : v' = .ref Ra := by
                          have e : (i' : Int).toNat = i' := by simp
                          rw [e, hv'] at hv
                          exact Option.some.inj hv
                        have N2 : News _ _ _ ((Ra, ptup (paintF ((i' : Int).toNat : Nat) pa le) z1 z2 z3) :: _) := nsub N' (List.forall_mem_cons.mpr ⟨by repeat (first | exact hm | refine List.mem_cons_of_mem _ ?_ | refine List.mem_append_right _ ?_), fun _ h => h⟩)
                        clear N'
                        k_steps
                        as_aux_lemma =>
                          w_top off
                          unfold Halt
                          have okh := hls_ok (i := ((i' : Int).toNat : Nat)) (by omega) (by omega) p0 p2 l1 l5
                          (k_dflt (refine' Does.use0 (hls_does _ _ _ _ _ _ _ okh) ?k1 ?k2 ?k3 ?k4 ?k5 ?kK ?kd ?ku ?_)); (case k1 => k_asm); (case k2 => k_asm); (case k3 => k_asm); (case k4 => k_asm); (case k5 => k_asm); (case kK => first | exact rfl | assumption); (case kd => ktr_room); (case ku => ktr_units)
                          rintro r3 nw3 h3 tk3 F3 N3 D3' ⟨Rr, hx, hy, hz, kr1, kr2, kr3, rfl, rfl, he⟩
                          obtain ⟨w1, w2, w3⟩ := light_ok (by omega) (by omega) p0 p2 l1 l5 he
                          dsimp only [List.cons_append, List.nil_append] at N3
                          (try k_fold)
                          k_steps
                          · refine kcf_el ?_ rfl rfl
                            rw [w3, ← hd]
                            have e : (i' : Int).toNat = i' := by simp
                            rw [e, List.getD_eq_getElem?_getD, hk']
                            rfl
                  · intro wys hwys
                    (try k_fold)
                    as_aux_lemma =>
                      w_top off
                      have hId := hP.Id
                      dsimp only at hId
                      have hIu := hP.Iu
                      have hIl := hP.Il
                      have hIh := hP.Ih
                      have hpl := hQ0.pl
                      have lu := hpl.lay
                      have hm1 := hpl.has_root hT
                      dsimp only at hIu hIl hIh hpl lu hm1
                      k_steps
                      unfold Halt
                      rename_i Dt ht tkt Ft Nt ot
                      as_aux_lemma =>
                        w_top off
                        have ND := NDk.out
                        have offQ := offk.out
                        have Lll := hpl.Ll
                        have Llh := hpl.Lh
                        have Llu := hpl.Lu
                        dsimp only at Lll Llh Llu
                        have t1 := (nd_at ND (A := [Rt]) rfl).2
                        have t2 := (nd_at ND (A := [Rt, Tt]) rfl).2
                        have t3 := (nd_at ND (A := [Rt, Tt, D4]) rfl).2
                        have t4 := (nd_at ND (A := [Rt, Tt, D4, D3]) rfl).2
                        have t5 := (nd_at ND (A := [Rt, Tt, D4, D3, D2]) rfl).2
                        have t7 := (nd_at ND (A := [Rt, Tt, D4, D3, D2, D1, D0]) rfl).2
                        simp only [List.map_cons, List.map_nil, List.mem_cons, List.not_mem_nil, or_false, forall_eq_or_imp, forall_eq] at t1 t2 t3 t4 t5 t7
                        obtain ⟨v1_4, v1_3, v1_2, v1_1, -, v1_w, v1_d, -, -, -, -, v1_t⟩ := t1
                        obtain ⟨v2_3, v2_2, v2_1, -, v2_w, v2_d, -, -, -, -, v2_t⟩ := t2
                        obtain ⟨v3_2, v3_1, -, v3_w, v3_d, -, -, -, -, v3_t⟩ := t3
                        obtain ⟨v4_1, -, v4_w, v4_d, -, -, -, -, v4_t⟩ := t4
                        obtain ⟨-, v5_w, v5_d, -, -, -, -, v5_t⟩ := t5
                        obtain ⟨v7_d, -, -, -, -, v7_t⟩ := t7
                        obtain ⟨i1, i2, i3, i4, i5, i6, i7, i8, i9, i10, i11, i12, i13, i14, i15⟩ := oi
                        obtain ⟨x0, x1, x2, x3, x4, x5, x6, x7, x8, x9, x10, x11, x12, x13, x14, x15⟩ := ot
                        replace i1 : @Ne Addr _ _ := i1
                        replace i2 : @Ne Addr _ _ := i2
                        replace i3 : @Ne Addr _ _ := i3
                        replace i4 : @Ne Addr _ _ := i4
                        replace i5 : @Ne Addr _ _ := i5
                        replace i6 : @Ne Addr _ _ := i6
                        replace i7 : @Ne Addr _ _ := i7
                        replace i8 : @Ne Addr _ _ := i8
                        replace i9 : @Ne Addr _ _ := i9
                        replace i10 : @Ne Addr _ _ := i10
                        replace i11 : @Ne Addr _ _ := i11
                        replace i12 : @Ne Addr _ _ := i12
                        replace i13 : @Ne Addr _ _ := i13
                        replace i14 : @Ne Addr _ _ := i14
                        replace x0 : @Ne Addr _ _ := x0
                        replace x1 : @Ne Addr _ _ := x1
                        replace x2 : @Ne Addr _ _ := x2
                        replace x3 : @Ne Addr _ _ := x3
                        replace x4 : @Ne Addr _ _ := x4
                        replace x5 : @Ne Addr _ _ := x5
                        replace x6 : @Ne Addr _ _ := x6
                        replace x7 : @Ne Addr _ _ := x7
                        replace x8 : @Ne Addr _ _ := x8
                        replace x9 : @Ne Addr _ _ := x9
                        replace x10 : @Ne Addr _ _ := x10
                        replace x11 : @Ne Addr _ _ := x11
                        replace x12 : @Ne Addr _ _ := x12
                        replace x13 : @Ne Addr _ _ := x13
                        replace x14 : @Ne Addr _ _ := x14
                        have hwt := weights_in hQ0
                        obtain ⟨hE, hO, hht, hlen9, hlen0, hbd⟩ := first_law hpl hwt hT
                        dsimp only at hE hwt
                        have zi := off1_all i15
                        have zt := off1_all x15
                        (k_dflt (refine' Does.useQ (read_does _ _ D4 _ _ _ _ _ _ 0 0 _ _ _ _ hIl hIh hwys Lll Llh Ldl T _ _ hE hO) [1, 4, 7, 9, 10, 11, 12, 13, 14, 15] pts ?k1 ?k2 ?k3 ?k4 ?k5 ?kK ?kd ?ku ?hs ?ht ?hx ?hy ?_))
                        (case k1 => k_asm); (case k2 => k_asm); (case k3 => k_asm); (case k4 => k_asm); (case k5 => k_asm); (case kK => first | exact rfl | assumption); (case kd => ktr_room); (case ku => ktr_units)
                        case hs => with_unfolding_all k_allIn
                        case ht => exact fun q hq => (by repeat (first | exact hq | refine List.mem_cons_of_mem _ ?_ | refine List.mem_append_right _ ?_))
                        case hx => dsimp only [pickL, atL, List.cons_append, List.nil_append]; (repeat' (first | exact List.forall_mem_nil _ | refine List.forall_mem_cons.mpr ⟨?_, ?_⟩ | (refine neN ?_; (try dsimp only); first | with_reducible assumption | (refine Ne.symm ?_; with_reducible assumption))))
                        case hy => exact fun q hq => List.forall_mem_cons.mpr ⟨Ne.symm (offQ q hq Tt (.tail _ (.head _))), List.forall_mem_cons.mpr ⟨Ne.symm (offQ q hq D3 (.tail _ (.tail _ (.tail _ (.head _))))), List.forall_mem_cons.mpr ⟨Ne.symm (offQ q hq D2 (.tail _ (.tail _ (.tail _ (.tail _ (.head _)))))), List.forall_mem_cons.mpr ⟨Ne.symm (zt q hq), List.forall_mem_nil _⟩⟩⟩⟩
                        rintro r4 nw4 h4 tk4 F4 N4 D4a D4b ⟨B0, f0, nf0, fs0, kb1, kb2, rfl, rfl, If0, y1, y2, y3, y4, y5, y6, y7, y8, y9⟩
                        dsimp only [pickL, atL, List.cons_append, List.nil_append] at N4 D4a
                        (try k_fold)
                        clear ND
                        as_aux_lemma =>
                          w_top off
                          simp only [List.forall_mem_cons, List.forall_mem_nil, and_true, List.not_mem_nil, false_implies, implies_true] at D4a
                          obtain ⟨⟨e1, e2, e3, e4, e5, e6, e7, e8, e9, e10⟩, -⟩ := D4a
                          replace e1 : @Ne Addr _ _ := e1
                          replace e2 : @Ne Addr _ _ := e2
                          replace e3 : @Ne Addr _ _ := e3
                          replace e4 : @Ne Addr _ _ := e4
                          replace e5 : @Ne Addr _ _ := e5
                          replace e6 : @Ne Addr _ _ := e6
                          replace e7 : @Ne Addr _ _ := e7
                          replace e8 : @Ne Addr _ _ := e8
                          replace e9 : @Ne Addr _ _ := e9
                          replace e10 : @Ne Addr _ _ := e10
                          replace y1 : @Ne Addr _ _ := y1
                          replace y2 : @Ne Addr _ _ := y2
                          replace y3 : @Ne Addr _ _ := y3
                          replace y4 : @Ne Addr _ _ := y4
                          replace y5 : @Ne Addr _ _ := y5
                          replace y6 : @Ne Addr _ _ := y6
                          replace y7 : @Ne Addr _ _ := y7
                          replace y8 : @Ne Addr _ _ := y8
                          replace y9 : @Ne Addr _ _ := y9
                          k_steps
                          as_aux_lemma =>
                            w_top off
                            unfold Halt
                            (rename Fr _ _ _ _ => lF')
                            (with_unfolding_all refine' For_invVF lF' ?k1 ?k2 ?_; (case k1 => exact rfl); (case k2 => exact rfl); k_whole)
                            k_steps
                            unfold Halt
                            as_aux_lemma =>
                              w_top off
                              rename_i Dl lv hl Fl Nl Il Cl Ll1 ll
                              obtain ⟨q0, q1, q2, q3, q4, q5, q6, q7, q8, q9, q10, q11, q12, q13, q14, q15, qp⟩ := ll
                              generalize hwv : [Value.str (Str.ofString "C") wt1, Value.str (Str.ofString "C.a") wt2, Value.str (Str.ofString "C.b") wt3, Value.str (Str.ofString "D") wt4, Value.str (Str.ofString "D.a") wt5, Value.str (Str.ofString "D.b") wt6, Value.str (Str.ofString "a") wt7, Value.str (Str.ofString "a.a") wt8, Value.str (Str.ofString "a.b") wt9] = wv at Nl Iw
                              have hind : ∃ v, lo0.data = .cell v := ⟨_, dlo⟩
                              with_unfolding_all refine' list_loopS (σ := LpSt) (Led := LLed Tt D4 D3 D2 D1 Dw Dt Di (s1.heap.objs.size + 1 + 1 + 1 + 1) (s1.heap.objs.size + 1 + 1 + 1) (s1.heap.objs.size + 1 + 1) (s1.heap.objs.size + 1) dl wys ys pv wv ndw oc4 oc3 oc2 pts) (ps := fun c => [(Str.ofString "before", .ref c.B)]) (stored := LStored) (P := fun _ c => LP [Tt, D4, D3, D2, D1, Dw, Dt, Di, (s1.heap.objs.size + 1 + 1 + 1 + 1), (s1.heap.objs.size + 1 + 1 + 1), (s1.heap.objs.size + 1 + 1), (s1.heap.objs.size + 1), 121] T c) (c₀ := ⟨us, ls, hs, (ups, lows, highs), T, B0, f0, kb1, kb2, lo0, none⟩) rfl (PySem.IsL.isList (n := 0) (Nl (Dl, listOf lv.toArray 0) (.head _)).1) (Nl (Dl, listOf lv.toArray 0) (.head _)).2.1 (Nl (Dl, listOf lv.toArray 0) (.head _)).2.2 ?hln Fl ?hN ?hk ?hp ?turn ?done
                              case hln => exact List.forall_mem_cons.mpr ⟨Nat.ne_of_lt q0, List.forall_mem_cons.mpr ⟨Nat.ne_of_lt q2, List.forall_mem_cons.mpr ⟨Nat.ne_of_lt q3, List.forall_mem_cons.mpr ⟨Nat.ne_of_lt q4, List.forall_mem_cons.mpr ⟨Nat.ne_of_lt q5, List.forall_mem_cons.mpr ⟨Nat.ne_of_lt q6, List.forall_mem_cons.mpr ⟨Nat.ne_of_lt q7, List.forall_mem_cons.mpr ⟨Nat.ne_of_lt q8, List.forall_mem_cons.mpr ⟨Nat.ne_of_lt q9, List.forall_mem_cons.mpr ⟨Nat.ne_of_lt q11, List.forall_mem_cons.mpr ⟨Nat.ne_of_lt q12, List.forall_mem_cons.mpr ⟨Nat.ne_of_lt q13, List.forall_mem_cons.mpr ⟨Nat.ne_of_lt q14, List.forall_mem_cons.mpr ⟨Nat.ne_of_lt q15, fun p hp => Nat.ne_of_lt (ktn_ltOf qp p hp)⟩⟩⟩⟩⟩⟩⟩⟩⟩⟩⟩⟩⟩⟩
                              case hN => exact nsub Nl (List.forall_mem_cons.mpr ⟨(.tail _ (.head _)), List.forall_mem_cons.mpr ⟨(.tail _ (.tail _ (.tail _ (.head _)))), List.forall_mem_cons.mpr ⟨(.tail _ (.tail _ (.tail _ (.tail _ (.head _))))), List.forall_mem_cons.mpr ⟨(.tail _ (.tail _ (.tail _ (.tail _ (.tail _ (.head _)))))), List.forall_mem_cons.mpr ⟨(.tail _ (.tail _ (.tail _ (.tail _ (.tail _ (.tail _ (.head _))))))), List.forall_mem_cons.mpr ⟨(.tail _ (.tail _ (.tail _ (.tail _ (.tail _ (.tail _ (.tail _ (.head _)))))))), List.forall_mem_cons.mpr ⟨(.tail _ (.tail _ (.tail _ (.tail _ (.tail _ (.tail _ (.tail _ (.tail _ (.head _))))))))), List.forall_mem_cons.mpr ⟨(.tail _ (.tail _ (.tail _ (.tail _ (.tail _ (.tail _ (.tail _ (.tail _ (.tail _ (.head _)))))))))), List.forall_mem_cons.mpr ⟨(.tail _ (.tail _ (.tail _ (.tail _ (.tail _ (.tail _ (.tail _ (.tail _ (.tail _ (.tail _ (.head _))))))))))), List.forall_mem_cons.mpr ⟨(.tail _ (.tail _ (.tail _ (.tail _ (.tail _ (.tail _ (.tail _ (.tail _ (.tail _ (.tail _ (.tail _ (.tail _ (.head _))))))))))))), List.forall_mem_cons.mpr ⟨(.tail _ (.tail _ (.tail _ (.tail _ (.tail _ (.tail _ (.tail _ (.tail _ (.tail _ (.tail _ (.tail _ (.tail _ (.tail _ (.head _)))))))))))))), List.forall_mem_cons.mpr ⟨(.tail _ (.tail _ (.tail _ (.tail _ (.tail _ (.tail _ (.tail _ (.tail _ (.tail _ (.tail _ (.tail _ (.tail _ (.tail _ (.tail _ (.head _))))))))))))))), List.forall_mem_cons.mpr ⟨(.tail _ (.tail _ (.tail _ (.tail _ (.tail _ (.tail _ (.tail _ (.tail _ (.tail _ (.tail _ (.tail _ (.tail _ (.tail _ (.tail _ (.tail _ (.head _)))))))))))))))), List.forall_mem_cons.mpr ⟨(.tail _ (.tail _ (.tail _ (.tail _ (.tail _ (.tail _ (.tail _ (.tail _ (.tail _ (.tail _ (.tail _ (.tail _ (.tail _ (.tail _ (.tail _ (.tail _ (.head _))))))))))))))))), fun p hp => (.tail _ (.tail _ (.tail _ (.tail _ (.tail _ (.tail _ (.tail _ (.tail _ (.tail _ (.tail _ (.tail _ (.tail _ (.tail _ (.tail _ (.tail _ (.tail _ (.tail _ hp)))))))))))))))))⟩⟩⟩⟩⟩⟩⟩⟩⟩⟩⟩⟩⟩⟩)
                              case hk => kst_all
                              case hp => exact ⟨hIu, hIl, hIh, hpl, rfl, by (repeat' (first | exact List.forall_mem_nil _ | refine List.forall_mem_cons.mpr ⟨?_, ?_⟩ | (refine neN ?_; (try dsimp only); first | with_reducible assumption | (refine Ne.symm ?_; with_reducible assumption)))), hind, (fun _ _ e => nomatch e)⟩
                              case turn =>
                                as_aux_lemma =>
                                  w_top off
                                  rintro i v ⟨us2, ls2, hs2, ⟨up2, low2, high2⟩, T2, B2, f2, kb3, kb4, lk, cb⟩ u h tk own hv hoff ⟨Iu2, Il2, Ih2, pl2, ino2, off2, ⟨cv, hcv⟩, htb⟩ F1 N1
                                  obtain ⟨num, tv, rfl, _⟩ := int_at Il hv
                                  dsimp only at F1 Iu2 Il2 Ih2 pl2 ino2 hcv off2 htb
                                  obtain ⟨tl, htl⟩ : ∃ tl, tl = (codeLed cb ++ pts) ++ own := ⟨_, rfl⟩
                                  change News _ _ _ ((B2, tup [.ref f2, .int (T2.tot dl) kb3, .int (T2.prd dl) kb4]) :: (Tt, tup [.ref D4, .ref D3, .ref D2]) :: (D3, listOf ls2.toArray 0) :: (D2, listOf hs2.toArray 0) :: (Dt, listOf wys.toArray wys.length) :: (Di, listOf ys.toArray ys.length) ::
                                    (D4, listOf us2.toArray 0) :: (D1, listOf pv.toArray 0) :: (Dw, listOf wv.toArray ndw) :: (s1.heap.objs.size + 1 + 1 + 1 + 1, oc4) :: (s1.heap.objs.size + 1 + 1 + 1, oc3) :: (s1.heap.objs.size + 1 + 1, oc2) :: (s1.heap.objs.size + 1, lk) :: ((codeLed cb ++ pts) ++ own)) at N1
                                  have offT : OwnOff tl [Tt, D3, D2, Dt, Di, D4, D1, Dw, s1.heap.objs.size + 1 + 1 + 1 + 1, s1.heap.objs.size + 1 + 1 + 1, s1.heap.objs.size + 1 + 1, s1.heap.objs.size + 1] := by
                                    rw [htl]
                                    intro p hp
                                    rcases List.mem_append.mp hp with hp | hp
                                    · rcases List.mem_append.mp hp with hp | hp
                                      · exact codeLed_off (List.forall_mem_cons.mpr ⟨Ne.symm v1_t, List.forall_mem_cons.mpr ⟨Ne.symm v3_t, List.forall_mem_cons.mpr ⟨Ne.symm v4_t, List.forall_mem_cons.mpr ⟨x14, List.forall_mem_cons.mpr ⟨i14, List.forall_mem_cons.mpr ⟨Ne.symm v2_t, List.forall_mem_cons.mpr ⟨Ne.symm v5_t, List.forall_mem_cons.mpr ⟨Ne.symm v7_t, List.forall_mem_cons.mpr ⟨Ne.symm u4_13, List.forall_mem_cons.mpr ⟨Ne.symm u3_13, List.forall_mem_cons.mpr ⟨Ne.symm u2_13, List.forall_mem_cons.mpr ⟨Ne.symm u1_13, List.forall_mem_nil _⟩⟩⟩⟩⟩⟩⟩⟩⟩⟩⟩⟩) (fun c' oc e b hb => (htb c' oc e).1 b (by simp only [List.mem_cons, List.not_mem_nil, or_false] at hb ⊢; rcases hb with h | h | h | h | h | h | h | h | h | h | h | h <;> simp [h])) p hp
                                      (repeat' (first | exact List.forall_mem_nil _ | refine List.forall_mem_cons.mpr ⟨by first | exact zt p hp | exact zi p hp | exact offQ p hp _ (by simp), ?_⟩))
                                    · exact fun b hb => hoff p hp b (.tail _ (List.mem_append_left _ hb))
                                  rw [← htl] at N1
                                  simp only [List.mem_cons, List.not_mem_nil, or_false, forall_eq_or_imp, forall_eq] at off2
                                  obtain ⟨e1, e2, e3, e4, e5, e6, e7, e8, e9, e10, e11, e12, e13⟩ := off2
                                  clear Nl Fl
                                  have hin := inside_is hQ0
                                  have hylen := hys.length
                                  rw [hin] at hys hylen
                                  (try k_fold)
                                  k_steps
                                  unfold Halt
                                  (rename Fr _ _ _ _ => Fa); (rename News _ _ _ _ => Na)
                                  have hxT : T.ino.getD (num.fmod (T.ino.length : Int)).toNat 0 ∈ T.ino := getD_mem (fmod_lt_len hlen0)
                                  generalize hx : T.ino.getD (num.fmod (T.ino.length : Int)).toNat 0 = x at Fa hxT ⊢
                                  have hx2 : x ∈ T2.ino := by rw [ino2]; exact hxT
                                  obtain ⟨x0, x9⟩ := hbd x hxT
                                  obtain ⟨ta, tb, nf, kk, ⟨up3, low3, high3⟩, ta', tb', pE, pOk, pht, pFi, pRu, pPl, pino, pE', pOk', pht', pup, pk, pin, pu0, pu1, pt0, pt1, pp0, pp1, pq0, pq1⟩ := turn_law pl2 (by rw [ino2]; exact hwt) hx2
                                  dsimp only at pE pFi pRu pPl pE' pup
                                  as_aux_lemma =>
                                    w_top off
                                    have Llu2 := pl2.Lu
                                    have Lll2 := pl2.Ll
                                    have Llh2 := pl2.Lh
                                    dsimp only at Llu2 Lll2 Llh2
                                    (k_dflt (refine' Does.useQ (read_does _ _ D4 _ _ _ _ _ _ 0 0 _ _ _ _ Il2 Ih2 hwys Lll2 Llh2 Ldl (.node ta x tb) _ _ pE pOk) [0, 5, 6, 7, 8, 9, 10, 11, 12] tl ?k1 ?k2 ?k3 ?k4 ?k5 ?kK ?kd ?ku ?hs ?ht ?hx ?hy ?_))
                                    (case k1 => k_asm); (case k2 => k_asm); (case k3 => k_asm); (case k4 => k_asm); (case k5 => k_asm); (case kK => first | exact rfl | assumption); (case kd => ktr_room); (case ku => ktr_units)
                                    case hs => with_unfolding_all k_allIn
                                    case ht => exact fun q hq => (by repeat (first | exact hq | refine List.mem_cons_of_mem _ ?_ | refine List.mem_append_right _ ?_))
                                    case hx => dsimp only [pickL, atL, List.cons_append, List.nil_append]; (repeat' (first | exact List.forall_mem_nil _ | refine List.forall_mem_cons.mpr ⟨?_, ?_⟩ | (refine neN ?_; (try dsimp only); first | with_reducible assumption | (refine Ne.symm ?_; with_reducible assumption))))
                                    case hy => exact fun q hq => List.forall_mem_cons.mpr ⟨Ne.symm (offT q hq _ (.head _)), List.forall_mem_cons.mpr ⟨Ne.symm (offT q hq _ (.tail _ (.head _))), List.forall_mem_cons.mpr ⟨Ne.symm (offT q hq _ (.tail _ (.tail _ (.head _)))), List.forall_mem_cons.mpr ⟨Ne.symm (offT q hq _ (.tail _ (.tail _ (.tail _ (.head _))))), List.forall_mem_nil _⟩⟩⟩⟩
                                    rintro r5 nw5 h5 tk5 F5 N5 D5a - ⟨R5, f5, nf5, fs5, kc1, kc2, rfl, rfl, If5, -, n1, n2, n3, n4, -, -, -, -⟩
                                    dsimp only [pickL, atL, List.cons_append, List.nil_append] at N5 D5a
                                    replace D5a := D5a _ (.head _)
                                    simp only [List.forall_mem_cons] at D5a
                                    obtain ⟨r1, r2, r3, r4, r5, r6, r7, r8, r9, -⟩ := D5a
                                    replace r1 : @Ne Addr _ _ := r1
                                    replace r2 : @Ne Addr _ _ := r2
                                    replace r3 : @Ne Addr _ _ := r3
                                    replace r4 : @Ne Addr _ _ := r4
                                    replace r5 : @Ne Addr _ _ := r5
                                    replace r6 : @Ne Addr _ _ := r6
                                    replace r7 : @Ne Addr _ _ := r7
                                    replace r8 : @Ne Addr _ _ := r8
                                    replace r9 : @Ne Addr _ _ := r9
                                    replace n1 : @Ne Addr _ _ := n1
                                    replace n2 : @Ne Addr _ _ := n2
                                    replace n3 : @Ne Addr _ _ := n3
                                    replace n4 : @Ne Addr _ _ := n4
                                    clear Fa Na
                                    replace N5 : News _ _ _ ((R5, _) :: _) := nsub N5 (List.forall_mem_cons.mpr ⟨.head _, fun p hp => .tail _ (.tail _ hp)⟩)
                                    (try k_fold)
                                    as_aux_lemma =>
                                      w_top off
                                      have hW : W9.length = 9 := rfl
                                      k_steps
                                      rename_i la hb1 lla hb2 oc1 Fb Nb dc1 tkw
                                      as_aux_lemma =>
                                        w_top off
                                        obtain ⟨w0, w1, w2, w3, w4, w5, w6, w7, w8, w9, w10, w11, w12, w13, wtl⟩ := lla
                                        have wtl' := ktn_ltOf wtl
                                        have h121 : ∃ o, (121, o) ∈ codeLed cb := by
                                          cases cb with
                                          | none => exact ⟨_, .head _⟩
                                          | some q => exact ⟨_, .head _⟩
                                        obtain ⟨o121, m121⟩ := h121
                                        have w121 : @LT.lt Nat _ 121 la := wtl' (121, o121) (by rw [htl]; exact List.mem_append_left _ (List.mem_append_left _ m121))
                                        have ho121 : (121 : Addr) ∈ (LLed Tt D4 D3 D2 D1 Dw Dt Di (s1.heap.objs.size + 1 + 1 + 1 + 1) (s1.heap.objs.size + 1 + 1 + 1) (s1.heap.objs.size + 1 + 1) (s1.heap.objs.size + 1) dl wys ys pv wv ndw oc4 oc3 oc2 pts ⟨us2, ls2, hs2, (up2, low2, high2), T2, B2, f2, kb3, kb4, lk, cb⟩).map (·.1) := by
                                          refine List.mem_map.mpr ⟨(121, o121), ?_, rfl⟩
                                          (repeat apply List.mem_cons_of_mem)
                                          exact List.mem_append_left _ m121
                                        (k_here; k_dflt (refine' kla_eval ?d0 ?_; (case d0 => exact rfl)))
                                        rw [htl] at Nb
                                        have Nr := nsub (a := codeLed cb ++ ((la, listOf #[] 0) :: (B2, tup [.ref f2, .int (T2.tot dl) kb3, .int (T2.prd dl) kb4]) :: (Tt, tup [.ref D4, .ref D3, .ref D2]) :: (D3, listOf ls2.toArray 0) :: (D2, listOf hs2.toArray 0) :: (Dt, listOf wys.toArray wys.length) :: (Di, listOf ys.toArray ys.length) :: (D4, listOf us2.toArray 0) :: (D1, listOf pv.toArray 0) :: (Dw, listOf wv.toArray ndw) :: (s1.heap.objs.size + 1 + 1 + 1 + 1, oc4) :: (s1.heap.objs.size + 1 + 1 + 1, oc3) :: (s1.heap.objs.size + 1 + 1, oc2) :: (s1.heap.objs.size + 1, oc1) :: (pts ++ own))) Nb (by
                                          refine List.forall_mem_append.mpr ⟨fun p hp => ?_, ?_⟩
                                          · (repeat apply List.mem_cons_of_mem)
                                            exact List.mem_append_left _ (List.mem_append_left _ hp)
                                          · refine List.forall_mem_cons.mpr ⟨(.head _), List.forall_mem_cons.mpr ⟨(.tail _ (.tail _ (.tail _ (.tail _ (.tail _ (.tail _ (.head _))))))), List.forall_mem_cons.mpr ⟨(.tail _ (.tail _ (.head _))), List.forall_mem_cons.mpr ⟨(.tail _ (.tail _ (.tail _ (.head _)))), List.forall_mem_cons.mpr ⟨(.tail _ (.tail _ (.tail _ (.tail _ (.head _))))), List.forall_mem_cons.mpr ⟨(.tail _ (.tail _ (.tail _ (.tail _ (.tail _ (.head _)))))), List.forall_mem_cons.mpr ⟨(.tail _ (.tail _ (.tail _ (.tail _ (.tail _ (.tail _ (.tail _ (.head _)))))))), List.forall_mem_cons.mpr ⟨(.tail _ (.tail _ (.tail _ (.tail _ (.tail _ (.tail _ (.tail _ (.tail _ (.head _))))))))), List.forall_mem_cons.mpr ⟨(.tail _ (.tail _ (.tail _ (.tail _ (.tail _ (.tail _ (.tail _ (.tail _ (.tail _ (.head _)))))))))), List.forall_mem_cons.mpr ⟨(.tail _ (.tail _ (.tail _ (.tail _ (.tail _ (.tail _ (.tail _ (.tail _ (.tail _ (.tail _ (.head _))))))))))), List.forall_mem_cons.mpr ⟨(.tail _ (.tail _ (.tail _ (.tail _ (.tail _ (.tail _ (.tail _ (.tail _ (.tail _ (.tail _ (.tail _ (.head _)))))))))))), List.forall_mem_cons.mpr ⟨(.tail _ (.tail _ (.tail _ (.tail _ (.tail _ (.tail _ (.tail _ (.tail _ (.tail _ (.tail _ (.tail _ (.tail _ (.head _))))))))))))), List.forall_mem_cons.mpr ⟨(.tail _ (.tail _ (.tail _ (.tail _ (.tail _ (.tail _ (.tail _ (.tail _ (.tail _ (.tail _ (.tail _ (.tail _ (.tail _ (.head _)))))))))))))), List.forall_mem_cons.mpr ⟨(.tail _ (.tail _ (.tail _ (.tail _ (.tail _ (.tail _ (.tail _ (.tail _ (.tail _ (.tail _ (.tail _ (.tail _ (.tail _ (.tail _ (.head _))))))))))))))), ?_⟩⟩⟩⟩⟩⟩⟩⟩⟩⟩⟩⟩⟩⟩
                                            intro p hp
                                            (repeat apply List.mem_cons_of_mem)
                                            exact (List.mem_append.mp hp).elim (fun z => List.mem_append_left _ (List.mem_append_right _ z)) (fun z => List.mem_append_right _ z))
                                        clear Nb
                                        k_dflt (refine' lam_step ?F Nr ?T ?C ?cd ?p1 ?p2 ?cl ?no ?tb ?_)
                                        case F => k_asm
                                        case T => k_asm
                                        case C => kn_code
                                        case cd => exact rfl
                                        case p1 => exact rfl
                                        case p2 => exact rfl
                                        case cl => exact rfl
                                        case no => exact List.forall_mem_cons.mpr ⟨Nat.ne_of_gt w121, List.forall_mem_cons.mpr ⟨e13, List.forall_mem_cons.mpr ⟨v1_t, List.forall_mem_cons.mpr ⟨v3_t, List.forall_mem_cons.mpr ⟨v4_t, List.forall_mem_cons.mpr ⟨Ne.symm x14, List.forall_mem_cons.mpr ⟨Ne.symm i14, List.forall_mem_cons.mpr ⟨v2_t, List.forall_mem_cons.mpr ⟨v5_t, List.forall_mem_cons.mpr ⟨v7_t, List.forall_mem_cons.mpr ⟨u4_13, List.forall_mem_cons.mpr ⟨u3_13, List.forall_mem_cons.mpr ⟨u2_13, List.forall_mem_cons.mpr ⟨u1_13, fun q hq => (List.mem_append.mp hq).elim (fun z => offQ q z 121 (by simp)) (fun z => hoff q z 121 ho121)⟩⟩⟩⟩⟩⟩⟩⟩⟩⟩⟩⟩⟩⟩
                                        case tb => exact fun c' oc e => (htb c' oc e).2
                                        k_whole
                                        intro fl cc occ ctv h6 tk6 F6 N6 cok lf cf f121 cX
                                        as_aux_lemma =>
                                          w_top off
                                          have cA : ∀ b ∈ [Tt, D4, D3, D2, D1, Dw, Dt, Di, s1.heap.objs.size + 1 + 1 + 1 + 1, s1.heap.objs.size + 1 + 1 + 1, s1.heap.objs.size + 1 + 1, s1.heap.objs.size + 1, 121], @Ne Addr cc b := cX (fun x => ∀ b ∈ [Tt, D4, D3, D2, D1, Dw, Dt, Di, s1.heap.objs.size + 1 + 1 + 1 + 1, s1.heap.objs.size + 1 + 1 + 1, s1.heap.objs.size + 1 + 1, s1.heap.objs.size + 1, 121], @Ne Addr x b)
                                            (fun x h1 hx => List.forall_mem_cons.mpr ⟨Nat.ne_of_gt (hx (_, _) (.tail _ (.tail _ (.head _)))), List.forall_mem_cons.mpr ⟨Nat.ne_of_gt (hx (_, _) (.tail _ (.tail _ (.tail _ (.tail _ (.tail _ (.tail _ (.tail _ (.head _))))))))), List.forall_mem_cons.mpr ⟨Nat.ne_of_gt (hx (_, _) (.tail _ (.tail _ (.tail _ (.head _))))), List.forall_mem_cons.mpr ⟨Nat.ne_of_gt (hx (_, _) (.tail _ (.tail _ (.tail _ (.tail _ (.head _)))))), List.forall_mem_cons.mpr ⟨Nat.ne_of_gt (hx (_, _) (.tail _ (.tail _ (.tail _ (.tail _ (.tail _ (.tail _ (.tail _ (.tail _ (.head _)))))))))), List.forall_mem_cons.mpr ⟨Nat.ne_of_gt (hx (_, _) (.tail _ (.tail _ (.tail _ (.tail _ (.tail _ (.tail _ (.tail _ (.tail _ (.tail _ (.head _))))))))))), List.forall_mem_cons.mpr ⟨Nat.ne_of_gt (hx (_, _) (.tail _ (.tail _ (.tail _ (.tail _ (.tail _ (.head _))))))), List.forall_mem_cons.mpr ⟨Nat.ne_of_gt (hx (_, _) (.tail _ (.tail _ (.tail _ (.tail _ (.tail _ (.tail _ (.head _)))))))), List.forall_mem_cons.mpr ⟨Nat.ne_of_gt (hx (_, _) (.tail _ (.tail _ (.tail _ (.tail _ (.tail _ (.tail _ (.tail _ (.tail _ (.tail _ (.tail _ (.head _)))))))))))), List.forall_mem_cons.mpr ⟨Nat.ne_of_gt (hx (_, _) (.tail _ (.tail _ (.tail _ (.tail _ (.tail _ (.tail _ (.tail _ (.tail _ (.tail _ (.tail _ (.tail _ (.head _))))))))))))), List.forall_mem_cons.mpr ⟨Nat.ne_of_gt (hx (_, _) (.tail _ (.tail _ (.tail _ (.tail _ (.tail _ (.tail _ (.tail _ (.tail _ (.tail _ (.tail _ (.tail _ (.tail _ (.head _)))))))))))))), List.forall_mem_cons.mpr ⟨Nat.ne_of_gt (hx (_, _) (.tail _ (.tail _ (.tail _ (.tail _ (.tail _ (.tail _ (.tail _ (.tail _ (.tail _ (.tail _ (.tail _ (.tail _ (.tail _ (.head _))))))))))))))), List.forall_mem_cons.mpr ⟨Nat.ne_of_gt h1, List.forall_mem_nil _⟩⟩⟩⟩⟩⟩⟩⟩⟩⟩⟩⟩⟩)
                                            (fun c'' oc'' e => (htb c'' oc'' e).1)
                                          have cown : ∀ q ∈ own, @Ne Addr q.1 cc := cX (fun x => ∀ q ∈ own, @Ne Addr q.1 x) (fun x h1 hx q hq => Nat.ne_of_lt (hx q (by (repeat apply List.mem_cons_of_mem); exact List.mem_append_right _ hq)))
                                            (fun c'' oc'' e q hq => hoff q hq c'' (List.mem_map.mpr ⟨(c'', oc''), by (repeat apply List.mem_cons_of_mem); exact List.mem_append_left _ (by rw [e]; exact .tail _ (.head _)), rfl⟩))
                                          have cla : @Ne Addr cc la := cX (fun x => @Ne Addr x la) (fun x h1 hx => Nat.ne_of_gt (hx (_, _) (.head _)))
                                            (fun c'' oc'' e => Nat.ne_of_lt (wtl' (c'', oc'') (by rw [htl]; exact List.mem_append_left _ (List.mem_append_left _ (by rw [e]; exact .tail _ (.head _))))))
                                          have hofA := hoff
                                          obtain ⟨tl3, htl3⟩ : ∃ tl3, tl3 = (121, tabObj #[rawInt 185, rawInt 44, .ref cc]) :: (pts ++ own) := ⟨_, rfl⟩
                                          have offT3 : OwnOff tl3 [Tt, D3, D2, Dt, Di, D4, D1, Dw, s1.heap.objs.size + 1 + 1 + 1 + 1, s1.heap.objs.size + 1 + 1 + 1, s1.heap.objs.size + 1 + 1, s1.heap.objs.size + 1] := by
                                            rw [htl3]
                                            intro p hp
                                            rcases List.mem_cons.mp hp with rfl | hp
                                            · exact List.forall_mem_cons.mpr ⟨Ne.symm v1_t, List.forall_mem_cons.mpr ⟨Ne.symm v3_t, List.forall_mem_cons.mpr ⟨Ne.symm v4_t, List.forall_mem_cons.mpr ⟨x14, List.forall_mem_cons.mpr ⟨i14, List.forall_mem_cons.mpr ⟨Ne.symm v2_t, List.forall_mem_cons.mpr ⟨Ne.symm v5_t, List.forall_mem_cons.mpr ⟨Ne.symm v7_t, List.forall_mem_cons.mpr ⟨Ne.symm u4_13, List.forall_mem_cons.mpr ⟨Ne.symm u3_13, List.forall_mem_cons.mpr ⟨Ne.symm u2_13, List.forall_mem_cons.mpr ⟨Ne.symm u1_13, List.forall_mem_nil _⟩⟩⟩⟩⟩⟩⟩⟩⟩⟩⟩⟩
                                            · exact fun b hb => offT p (by rw [htl]; exact (List.mem_append.mp hp).elim (fun z => List.mem_append_left _ (List.mem_append_right _ z)) (fun z => List.mem_append_right _ z)) b hb
                                          have offL : ∀ q ∈ tl3, @Ne Addr q.1 la := by
                                            rw [htl3]
                                            refine List.forall_mem_cons.mpr ⟨Nat.ne_of_lt w121, fun q hq => Nat.ne_of_lt (wtl' q ?_)⟩
                                            rw [htl]
                                            exact (List.mem_append.mp hq).elim (fun z => List.mem_append_left _ (List.mem_append_right _ z)) (fun z => List.mem_append_right _ z)
                                          have N7 := nsub (a := (fl, _) :: (cc, occ) :: (la, listOf #[] 0) :: (B2, tup [.ref f2, .int (T2.tot dl) kb3, .int (T2.prd dl) kb4]) :: (Tt, tup [.ref D4, .ref D3, .ref D2]) :: (D3, listOf ls2.toArray 0) :: (D2, listOf hs2.toArray 0) :: (Dt, listOf wys.toArray wys.length) :: (Di, listOf ys.toArray ys.length) :: (D4, listOf us2.toArray 0) :: (D1, listOf pv.toArray 0) :: (Dw, listOf wv.toArray ndw) :: (s1.heap.objs.size + 1 + 1 + 1 + 1, oc4) :: (s1.heap.objs.size + 1 + 1 + 1, oc3) :: (s1.heap.objs.size + 1 + 1, oc2) :: (s1.heap.objs.size + 1, oc1) :: tl3) N6 (List.forall_mem_cons.mpr ⟨.head _, List.forall_mem_cons.mpr ⟨.tail _ (.head _), by
                                            refine List.forall_mem_cons.mpr ⟨(.tail _ (.tail _ (.tail _ (.head _)))), List.forall_mem_cons.mpr ⟨(.tail _ (.tail _ (.tail _ (.tail _ (.head _))))), List.forall_mem_cons.mpr ⟨(.tail _ (.tail _ (.tail _ (.tail _ (.tail _ (.head _)))))), List.forall_mem_cons.mpr ⟨(.tail _ (.tail _ (.tail _ (.tail _ (.tail _ (.tail _ (.head _))))))), List.forall_mem_cons.mpr ⟨(.tail _ (.tail _ (.tail _ (.tail _ (.tail _ (.tail _ (.tail _ (.head _)))))))), List.forall_mem_cons.mpr ⟨(.tail _ (.tail _ (.tail _ (.tail _ (.tail _ (.tail _ (.tail _ (.tail _ (.head _))))))))), List.forall_mem_cons.mpr ⟨(.tail _ (.tail _ (.tail _ (.tail _ (.tail _ (.tail _ (.tail _ (.tail _ (.tail _ (.head _)))))))))), List.forall_mem_cons.mpr ⟨(.tail _ (.tail _ (.tail _ (.tail _ (.tail _ (.tail _ (.tail _ (.tail _ (.tail _ (.tail _ (.head _))))))))))), List.forall_mem_cons.mpr ⟨(.tail _ (.tail _ (.tail _ (.tail _ (.tail _ (.tail _ (.tail _ (.tail _ (.tail _ (.tail _ (.tail _ (.head _)))))))))))), List.forall_mem_cons.mpr ⟨(.tail _ (.tail _ (.tail _ (.tail _ (.tail _ (.tail _ (.tail _ (.tail _ (.tail _ (.tail _ (.tail _ (.tail _ (.head _))))))))))))), List.forall_mem_cons.mpr ⟨(.tail _ (.tail _ (.tail _ (.tail _ (.tail _ (.tail _ (.tail _ (.tail _ (.tail _ (.tail _ (.tail _ (.tail _ (.tail _ (.head _)))))))))))))), List.forall_mem_cons.mpr ⟨(.tail _ (.tail _ (.tail _ (.tail _ (.tail _ (.tail _ (.tail _ (.tail _ (.tail _ (.tail _ (.tail _ (.tail _ (.tail _ (.tail _ (.head _))))))))))))))), List.forall_mem_cons.mpr ⟨(.tail _ (.tail _ (.tail _ (.tail _ (.tail _ (.tail _ (.tail _ (.tail _ (.tail _ (.tail _ (.tail _ (.tail _ (.tail _ (.tail _ (.tail _ (.head _)))))))))))))))), List.forall_mem_cons.mpr ⟨(.tail _ (.tail _ (.tail _ (.tail _ (.tail _ (.tail _ (.tail _ (.tail _ (.tail _ (.tail _ (.tail _ (.tail _ (.tail _ (.tail _ (.tail _ (.tail _ (.head _))))))))))))))))), ?_⟩⟩⟩⟩⟩⟩⟩⟩⟩⟩⟩⟩⟩⟩
                                            rw [htl3]
                                            refine List.forall_mem_cons.mpr ⟨.tail _ (.tail _ (.head _)), fun p hp => ?_⟩
                                            (repeat apply List.mem_cons_of_mem)
                                            exact hp⟩⟩)
                                          have z0 : @Ne Addr _ _ := Nat.ne_of_lt w0
                                          have z1 : @Ne Addr _ _ := Nat.ne_of_lt w1
                                          have z2 : @Ne Addr _ _ := Nat.ne_of_lt w2
                                          have z3 : @Ne Addr _ _ := Nat.ne_of_lt w3
                                          have z4 : @Ne Addr _ _ := Nat.ne_of_lt w4
                                          have z5 : @Ne Addr _ _ := Nat.ne_of_lt w5
                                          have z6 : @Ne Addr _ _ := Nat.ne_of_lt w6
                                          have z7 : @Ne Addr _ _ := Nat.ne_of_lt w7
                                          have z8 : @Ne Addr _ _ := Nat.ne_of_lt w8
                                          have z9 : @Ne Addr _ _ := Nat.ne_of_lt w9
                                          have z10 : @Ne Addr _ _ := Nat.ne_of_lt w10
                                          have z11 : @Ne Addr _ _ := Nat.ne_of_lt w11
                                          have z12 : @Ne Addr _ _ := Nat.ne_of_lt w12
                                          have z13 : @Ne Addr _ _ := Nat.ne_of_lt w13
                                          simp only [List.forall_mem_cons, List.forall_mem_nil, and_true] at cA
                                          obtain ⟨cA1, cA2, cA3, cA4, cA5, cA6, cA7, cA8, cA9, cA10, cA11, cA12, cA13⟩ := cA
                                          clear N6 hoff cX offT wtl wtl'
                                          obtain ⟨vs5, ts5, cok1, cok2⟩ := cok
                                          (try k_fold)
                                          k_steps
                                          as_aux_lemma =>
                                            w_top off
                                            (rename Fr _ _ _ _ => Fg); (rename News _ _ _ _ => Ng)
                                            rename_i Dk ok gk Lk hk tkk lok hsk fsk FGk Bk Xk Tk lk1
                                            obtain ⟨esk, epk, xk1, xk2, xk3, xk4, xk5⟩ := hsk
                                            have h0 : esk.toList = [] := by
                                              have := xk4
                                              generalize esk.toList = l at this ⊢
                                              cases this
                                              rfl
                                            have hesk : esk = #[] := Array.toList_inj.mp h0
                                            subst hesk
                                            with_unfolding_all refine' callWith_kw0 (D := Dk) (o := ok) (n := epk) (v := .str (W9.getD x.toNat Str.empty) tkw) ?h1 (Ng _ (.tail _ (.head _))).1 rfl (Ng _ (.head _)).1 xk1.1 xk2 lok ?h8 ?h9
                                            case h1 =>
                                              intro Q' hq
                                              with_unfolding_all refine Calls.spliced_cons ?_
                                              with_unfolding_all refine ld Fg (by rfl) ?_
                                              refine Calls.spliced_nil ?_
                                              exact hq
                                            case h8 =>
                                              intro Q' hq
                                              refine wpAny_bind ?_
                                              with_unfolding_all refine ld (Fg.push { cls := .type "dict", data := .dict #[] }) (by rfl) ?_
                                              refine wpAny_bind (wpAny_standAt ?_)
                                              exact wpAny_pure hq
                                            case h9 =>
                                              have Fp := Fg.push { cls := .type "dict", data := .dict #[] }
                                              have Np := Ng.grown fun _ _ e => Heap.get?_push_of_some { cls := .type "dict", data := .dict #[] } e
                                              clear Fg Ng
                                              (try k_fold)
                                              k_steps
                                              as_aux_lemma =>
                                                w_top off
                                                unfold Halt
                                                obtain ⟨qa, ql, hqx⟩ : ∃ pa le, qs[x.toNat]? = some (some (pa, le)) := by
                                                  obtain ⟨q, hq⟩ := (hQ0.mem x x0 x9).mp hxT
                                                  exact ⟨q.1, q.2, hq⟩
                                                obtain ⟨qa0, qa2, ql1, ql5, qd, Ra, kz1, kz2, kz3, hRa, hmRa⟩ := hQ0.yes _ _ _ hqx
                                                dsimp only at hRa hmRa
                                                have lu2 := pl2.lay
                                                have hm2 : (-1 : Int) ∈ up2 := pl2.has_root (by rintro rfl; simp [Tr.ino] at hx2)
                                                (k_dflt (refine' Does.useQ (find_does Iu2 Il2 Ih2 Iw hRa lu2 Lll2 Llh2 hm2 x0 x9 pFi pRu v2_3 v2_2 v3_2 v1_4 v1_3 v1_2 v1_w v2_w v3_w v4_w z1 z7 z2 z3 v1_1 v2_1 v3_1 v4_1 z9 z8) [2, 4, 8, 9, 13, 14, 15, 16] tl3 ?k1 ?k2 ?k3 ?k4 ?k5 ?kK ?kd ?ku ?hs ?ht ?hx ?hy ?_))
                                                (case k1 => k_asm); (case k2 => k_asm); (case k3 => k_asm); (case k4 => k_asm); (case k5 => k_asm); (case kK => first | exact rfl | assumption); (case kd => ktr_room); (case ku => ktr_units)
                                                case hs => with_unfolding_all k_allIn
                                                case ht => exact fun q hq => (by repeat (first | exact hq | refine List.mem_cons_of_mem _ ?_ | refine List.mem_append_right _ ?_))
                                                case hx => dsimp only [pickL, atL, List.cons_append, List.nil_append]; (repeat' (first | exact List.forall_mem_nil _ | refine List.forall_mem_cons.mpr ⟨?_, ?_⟩ | (refine neN ?_; (try dsimp only); first | with_reducible assumption | (refine Ne.symm ?_; with_reducible assumption))))
                                                case hy => exact fun q hq => List.forall_mem_cons.mpr ⟨Ne.symm (offT3 q hq _ (.head _)), List.forall_mem_cons.mpr ⟨Ne.symm (offT3 q hq _ (.tail _ (.tail _ (.tail _ (.tail _ (.tail _ (.head _))))))), List.forall_mem_cons.mpr ⟨Ne.symm (offT3 q hq _ (.tail _ (.head _))), List.forall_mem_cons.mpr ⟨Ne.symm (offT3 q hq _ (.tail _ (.tail _ (.head _)))), List.forall_mem_cons.mpr ⟨Ne.symm (offT3 q hq _ (.tail _ (.tail _ (.tail _ (.tail _ (.tail _ (.tail _ (.tail _ (.head _))))))))), List.forall_mem_cons.mpr ⟨Ne.symm (offL q hq), List.forall_mem_cons.mpr ⟨Ne.symm (offT3 q hq _ (.tail _ (.tail _ (.tail _ (.tail _ (.tail _ (.tail _ (.head _)))))))), List.forall_mem_nil _⟩⟩⟩⟩⟩⟩⟩
                                                rintro r6 nw6 h6 tk6 F6 N6 - - ⟨e6, us3, ls3, hs3, tk7, n7, rfl, Iu3, Il3, Ih3⟩
                                                subst e6
                                                dsimp only [pickL, atL, List.cons_append, List.nil_append] at N6 Iu3 Il3 Ih3
                                                (try k_fold)
                                                as_aux_lemma =>
                                                  w_top off
                                                  clear Fp Np
                                                  refine markUp fun hm => ?_
                                                  k_steps
                                                  unfold Halt
                                                  clear hm
                                                  as_aux_lemma =>
                                                    w_top off
                                                    k_dflt (refine ne_same (r := Ra) (News.isTup (by k_asm) (by k_mem)) (News.isTup (by k_asm) (by k_mem)) (by units_room) ?_)
                                                    k_steps
                                                    as_aux_lemma =>
                                                      w_top off
                                                      (rename News _ _ _ _ => Nc)
                                                      have N2 := news_cons Nc (p := (Ra, ptup (paintF ((x.toNat : Nat) : Int) qa ql) kz1 kz2 kz3)) (by (repeat apply List.mem_cons_of_mem); rw [htl3]; exact .tail _ (List.mem_append_left _ hmRa))
                                                      clear Nc
                                                      k_steps
                                                      unfold Halt
                                                      have hxn : ((x.toNat : Nat) : Int) = x := Int.toNat_of_nonneg x0
                                                      have okh := hls_ok (i := (x.toNat : Nat)) (by rw [hxn]; exact x0) (by rw [hxn]; exact x9) qa0 qa2 ql1 ql5
                                                      (k_dflt (refine' Does.use0 (hls_does _ _ _ _ _ _ _ okh) ?k1 ?k2 ?k3 ?k4 ?k5 ?kK ?kd ?ku ?_)); (case k1 => k_asm); (case k2 => k_asm); (case k3 => k_asm); (case k4 => k_asm); (case k5 => k_asm); (case kK => first | exact rfl | assumption); (case kd => ktr_room); (case ku => ktr_units)
                                                      rintro r8 nw8 h8 tk8 F8 N8 - ⟨Rh, hx8, hy8, hz8, kr1, kr2, kr3, rfl, rfl, he8⟩
                                                      dsimp only [List.cons_append, List.nil_append] at N8
                                                      (try k_fold)
                                                      k_steps
                                                      as_aux_lemma =>
                                                        w_top off
                                                        unfold Halt
                                                        have hhue := hue_ok (by rw [hxn]; exact x0) (by rw [hxn]; exact x9) qa0 qa2 ql1 ql5 he8
                                                        rw [hxn] at hhue
                                                        have Llu3 := pPl.Lu
                                                        have Lll3 := pPl.Ll
                                                        have Llh3 := pPl.Lh
                                                        dsimp only at Llu3 Lll3 Llh3
                                                        with_reducible refine ne_fi ?_
                                                        rw [hhue]
                                                        (rename _ < 2 ^ 1024 - 2 ^ 970 => hbig)
                                                        clear hbig
                                                        have hup : (up3.getD x.toNat 0 != -1) = false := by rw [pup]; rfl
                                                        clear okh hxn he8 hhue
                                                        k_steps
                                                        as_aux_lemma =>
                                                          w_top off
                                                          unfold Halt
                                                          have hino := pino.trans ino2
                                                          (k_dflt (refine' Does.useQ (read_does _ _ D4 _ _ _ _ _ _ 0 0 _ _ _ _ Il3 Ih3 hwys Lll3 Llh3 Ldl (.node ta' x tb') _ _ pE' pOk') [5, 8, 9, 10, 11, 12, 14, 15, 16, 17, 18] tl3 ?k1 ?k2 ?k3 ?k4 ?k5 ?kK ?kd ?ku ?hs ?ht ?hx ?hy ?_))
                                                          (case k1 => k_asm); (case k2 => k_asm); (case k3 => k_asm); (case k4 => k_asm); (case k5 => k_asm); (case kK => first | exact rfl | assumption); (case kd => ktr_room); (case ku => ktr_units)
                                                          case hs => with_unfolding_all k_allIn
                                                          case ht => exact fun q hq => (by repeat (first | exact hq | refine List.mem_cons_of_mem _ ?_ | refine List.mem_append_right _ ?_))
                                                          case hx => dsimp only [pickL, atL, List.cons_append, List.nil_append]; (repeat' (first | exact List.forall_mem_nil _ | refine List.forall_mem_cons.mpr ⟨?_, ?_⟩ | (refine neN ?_; (try dsimp only); first | with_reducible assumption | (refine Ne.symm ?_; with_reducible assumption))))
                                                          case hy => exact fun q hq => List.forall_mem_cons.mpr ⟨Ne.symm (offT3 q hq _ (.head _)), List.forall_mem_cons.mpr ⟨Ne.symm (offT3 q hq _ (.tail _ (.head _))), List.forall_mem_cons.mpr ⟨Ne.symm (offT3 q hq _ (.tail _ (.tail _ (.head _)))), List.forall_mem_cons.mpr ⟨Ne.symm (offT3 q hq _ (.tail _ (.tail _ (.tail _ (.head _))))), List.forall_mem_nil _⟩⟩⟩⟩
                                                          rintro r7 nw7 h7 tk7' F7 N7 D7a D7b ⟨R7, f7, nf7, fs7, ke1, ke2, rfl, rfl, If7, -, m1, m2, m3, m4, -, -, -, -⟩
                                                          dsimp only [pickL, atL, List.cons_append, List.nil_append] at N7 D7a
                                                          replace D7a := D7a _ (.head _)
                                                          replace D7b := D7b _ (.head _)
                                                          simp only [List.forall_mem_cons] at D7a
                                                          obtain ⟨g1, g2, g3, g4, g5, g6, g7, g8, g9, g10, g11, -⟩ := D7a
                                                          replace g1 : @Ne Addr _ _ := g1
                                                          replace g2 : @Ne Addr _ _ := g2
                                                          replace g3 : @Ne Addr _ _ := g3
                                                          replace g4 : @Ne Addr _ _ := g4
                                                          replace g5 : @Ne Addr _ _ := g5
                                                          replace g6 : @Ne Addr _ _ := g6
                                                          replace g7 : @Ne Addr _ _ := g7
                                                          replace g8 : @Ne Addr _ _ := g8
                                                          replace g9 : @Ne Addr _ _ := g9
                                                          replace g10 : @Ne Addr _ _ := g10
                                                          replace g11 : @Ne Addr _ _ := g11
                                                          replace m1 : @Ne Addr _ _ := m1
                                                          replace m2 : @Ne Addr _ _ := m2
                                                          replace m3 : @Ne Addr _ _ := m3
                                                          replace m4 : @Ne Addr _ _ := m4
                                                          rw [hino] at If7
                                                          clear F8 N8
                                                          (try k_fold)
                                                          k_steps
                                                          as_aux_lemma =>
                                                            w_top off
                                                            unfold Halt
                                                            (rename Fr _ _ _ _ => Fk)
                                                            generalize hkv : ([(kk : Int)] : List Int).getD (Int.toNat 0) 0 = kv at Fk ⊢
                                                            have hk2 : kv = (kk : Int) := hkv.symm
                                                            have hk3 : kv.toNat = kk := by rw [hk2]; exact Int.toNat_natCast kk
                                                            have hk0 : 0 ≤ kv := by rw [hk2]; exact Int.natCast_nonneg kk
                                                            have hk9 : kv ≤ 9 := by rw [hk2]; exact Int.ofNat_le.mpr pk
                                                            have hk6 : kv ≤ 1000000 := Int.le_trans hk9 (by decide)
                                                            clear hkv
                                                            have hunb : (Tr.tot dl (ta.node x tb)).natAbs < 2 ^ 64 := nat_small pu0 pu1
                                                            have httb : (Tr.tot dl (ta'.node x tb')).natAbs < 2 ^ 64 := nat_small pt0 pt1
                                                            have hM1 : IntMulOk (2 ^ kv.toNat) (Tr.prd dl (ta'.node x tb')) := IntMulOk.of_right (intBits_le_64 (Int.lt_of_lt_of_le (by decide) pp0) (Int.lt_of_le_of_lt pp1 (by decide)))
                                                            have hM2 : IntMulOk (2 ^ kv.toNat * Tr.prd dl (ta'.node x tb')) (Tr.tot dl (ta.node x tb) ^ (3 : Int).toNat) := cube_ok pu0 pu1
                                                            have hM3 : IntMulOk (Tr.prd dl T2) (Tr.tot dl (ta'.node x tb') ^ (3 : Int).toNat) := cube_ok pt0 pt1
                                                            have hM4 : IntMulOk (Tr.prd dl T2 * Tr.tot dl (ta'.node x tb') ^ (3 : Int).toNat) (1 + kv.fmod 2) := par_ok kv
                                                            k_steps
                                                            as_aux_lemma =>
                                                              w_top off
                                                              unfold Halt
                                                              with_reducible refine gt_int_false ?hle ?_
                                                              case hle =>
                                                                rw [hk3, hk2, show (3 : Int).toNat = 3 from rfl]
                                                                with_reducible exact pin
                                                              clear hM1 hM2 hM3 hM4 hunb httb pin pp0 pp1 pq0 pq1 pt0 pt1 pu0 pu1
                                                              (try dsimp only)
                                                              k_steps
                                                              as_aux_lemma =>
                                                                w_top off
                                                                (rename Fr _ _ _ _ => Fz); (rename News _ _ _ _ => Nz)
                                                                have h121t : (121, tabObj #[rawInt 185, rawInt 44, .ref cc]) ∈ tl3 := by rw [htl3]; exact .head _
                                                                have hownt : ∀ p ∈ own, p ∈ tl3 := fun p hp => by rw [htl3]; exact .tail _ (List.mem_append_right _ hp)
                                                                have hptst : ∀ p ∈ pts, p ∈ tl3 := fun p hp => by rw [htl3]; exact .tail _ (List.mem_append_left _ hp)
                                                                refine' turn_end ⟨us3, ls3, hs3, (up3, low3, high3), .node ta' x tb', R7, f7, ke1, ke2, oc1, some (cc, occ)⟩ Fz Nz ?hn ?ho ?hoff ?hk ?hr ⟨Iu3, Il3, Ih3, pPl, hino, List.forall_mem_cons.mpr ⟨m1, List.forall_mem_cons.mpr ⟨g1, List.forall_mem_cons.mpr ⟨m2, List.forall_mem_cons.mpr ⟨m3, List.forall_mem_cons.mpr ⟨g4, List.forall_mem_cons.mpr ⟨g2, List.forall_mem_cons.mpr ⟨m4, List.forall_mem_cons.mpr ⟨g7, List.forall_mem_cons.mpr ⟨g8, List.forall_mem_cons.mpr ⟨g9, List.forall_mem_cons.mpr ⟨g10, List.forall_mem_cons.mpr ⟨g11, List.forall_mem_cons.mpr ⟨D7b (121, _) h121t, List.forall_mem_nil _⟩⟩⟩⟩⟩⟩⟩⟩⟩⟩⟩⟩⟩, ⟨_, dc1⟩, ?tb⟩
                                                                case hn =>
                                                                  refine List.forall_mem_cons.mpr ⟨(.head _), List.forall_mem_cons.mpr ⟨(.tail _ (.tail _ (.head _))), List.forall_mem_cons.mpr ⟨(.tail _ (.tail _ (.tail _ (.head _)))), List.forall_mem_cons.mpr ⟨(.tail _ (.tail _ (.tail _ (.tail _ (.head _))))), List.forall_mem_cons.mpr ⟨(.tail _ (.tail _ (.tail _ (.tail _ (.tail _ (.head _)))))), List.forall_mem_cons.mpr ⟨(.tail _ (.tail _ (.tail _ (.tail _ (.tail _ (.tail _ (.tail _ (.tail _ (.tail _ (.tail _ (.tail _ (.tail _ (.head _))))))))))))), List.forall_mem_cons.mpr ⟨(.tail _ (.tail _ (.tail _ (.tail _ (.tail _ (.tail _ (.head _))))))), List.forall_mem_cons.mpr ⟨(.tail _ (.tail _ (.tail _ (.tail _ (.tail _ (.tail _ (.tail _ (.tail _ (.tail _ (.head _)))))))))), List.forall_mem_cons.mpr ⟨(.tail _ (.tail _ (.tail _ (.tail _ (.tail _ (.tail _ (.tail _ (.head _)))))))), List.forall_mem_cons.mpr ⟨(.tail _ (.tail _ (.tail _ (.tail _ (.tail _ (.tail _ (.tail _ (.tail _ (.tail _ (.tail _ (.tail _ (.tail _ (.tail _ (.head _)))))))))))))), List.forall_mem_cons.mpr ⟨(.tail _ (.tail _ (.tail _ (.tail _ (.tail _ (.tail _ (.tail _ (.tail _ (.tail _ (.tail _ (.tail _ (.tail _ (.tail _ (.tail _ (.head _))))))))))))))), List.forall_mem_cons.mpr ⟨(.tail _ (.tail _ (.tail _ (.tail _ (.tail _ (.tail _ (.tail _ (.tail _ (.tail _ (.tail _ (.tail _ (.tail _ (.tail _ (.tail _ (.tail _ (.head _)))))))))))))))), List.forall_mem_cons.mpr ⟨(.tail _ (.tail _ (.tail _ (.tail _ (.tail _ (.tail _ (.tail _ (.tail _ (.tail _ (.tail _ (.tail _ (.tail _ (.tail _ (.tail _ (.tail _ (.tail _ (.head _))))))))))))))))), List.forall_mem_cons.mpr ⟨(.tail _ (.tail _ (.tail _ (.tail _ (.tail _ (.tail _ (.tail _ (.tail _ (.tail _ (.tail _ (.tail _ (.tail _ (.tail _ (.tail _ (.tail _ (.tail _ (.tail _ (h121t)))))))))))))))))), List.forall_mem_cons.mpr ⟨(.tail _ (.tail _ (.tail _ (.tail _ (.tail _ (.tail _ (.tail _ (.tail _ (.tail _ (.tail _ (.head _))))))))))), ?_⟩⟩⟩⟩⟩⟩⟩⟩⟩⟩⟩⟩⟩⟩⟩
                                                                  intro p hp
                                                                  (repeat apply List.mem_cons_of_mem)
                                                                  exact hptst p hp
                                                                case ho =>
                                                                  intro p hp
                                                                  (repeat apply List.mem_cons_of_mem)
                                                                  exact hownt p hp
                                                                case hoff =>
                                                                  intro p hp
                                                                  refine List.forall_mem_cons.mpr ⟨Ne.symm (D7b p (hownt p hp)), List.forall_mem_cons.mpr ⟨hofA p hp _ (.tail _ (.head _)), List.forall_mem_cons.mpr ⟨hofA p hp _ (.tail _ (.tail _ (.head _))), List.forall_mem_cons.mpr ⟨hofA p hp _ (.tail _ (.tail _ (.tail _ (.head _)))), List.forall_mem_cons.mpr ⟨hofA p hp _ (.tail _ (.tail _ (.tail _ (.tail _ (.head _))))), List.forall_mem_cons.mpr ⟨hofA p hp _ (.tail _ (.tail _ (.tail _ (.tail _ (.tail _ (.head _)))))), List.forall_mem_cons.mpr ⟨hofA p hp _ (.tail _ (.tail _ (.tail _ (.tail _ (.tail _ (.tail _ (.head _))))))), List.forall_mem_cons.mpr ⟨hofA p hp _ (.tail _ (.tail _ (.tail _ (.tail _ (.tail _ (.tail _ (.tail _ (.head _)))))))), List.forall_mem_cons.mpr ⟨hofA p hp _ (.tail _ (.tail _ (.tail _ (.tail _ (.tail _ (.tail _ (.tail _ (.tail _ (.head _))))))))), List.forall_mem_cons.mpr ⟨hofA p hp _ (.tail _ (.tail _ (.tail _ (.tail _ (.tail _ (.tail _ (.tail _ (.tail _ (.tail _ (.head _)))))))))), List.forall_mem_cons.mpr ⟨hofA p hp _ (.tail _ (.tail _ (.tail _ (.tail _ (.tail _ (.tail _ (.tail _ (.tail _ (.tail _ (.tail _ (.head _))))))))))), List.forall_mem_cons.mpr ⟨hofA p hp _ (.tail _ (.tail _ (.tail _ (.tail _ (.tail _ (.tail _ (.tail _ (.tail _ (.tail _ (.tail _ (.tail _ (.head _)))))))))))), List.forall_mem_cons.mpr ⟨hofA p hp _ (.tail _ (.tail _ (.tail _ (.tail _ (.tail _ (.tail _ (.tail _ (.tail _ (.tail _ (.tail _ (.tail _ (.tail _ (.head _))))))))))))), List.forall_mem_cons.mpr ⟨hofA p hp 121 ho121, List.forall_mem_cons.mpr ⟨cown p hp, fun b hb => hofA p hp b ?_⟩⟩⟩⟩⟩⟩⟩⟩⟩⟩⟩⟩⟩⟩⟩
                                                                  (repeat apply List.mem_cons_of_mem)
                                                                  rw [List.map_append]
                                                                  exact List.mem_append_right _ hb
                                                                case hk => kst_all
                                                                case hr => (intro z h2 h3; (simp only [List.forall_mem_cons, List.not_mem_nil, false_implies, implies_true, and_true, ne_eq] at h2); (simp only [List.contains_cons, List.contains_nil, Bool.or_false, Bool.or_eq_false_iff, beq_eq_false_iff_ne, ne_eq] at h3); simp [kstB, h2, h3])
                                                                case tb =>
                                                                  intro c'' oc'' e
                                                                  injection e with e
                                                                  injection e with e1 e2
                                                                  subst e1; subst e2
                                                                  exact ⟨List.forall_mem_cons.mpr ⟨cA1, List.forall_mem_cons.mpr ⟨cA2, List.forall_mem_cons.mpr ⟨cA3, List.forall_mem_cons.mpr ⟨cA4, List.forall_mem_cons.mpr ⟨cA5, List.forall_mem_cons.mpr ⟨cA6, List.forall_mem_cons.mpr ⟨cA7, List.forall_mem_cons.mpr ⟨cA8, List.forall_mem_cons.mpr ⟨cA9, List.forall_mem_cons.mpr ⟨cA10, List.forall_mem_cons.mpr ⟨cA11, List.forall_mem_cons.mpr ⟨cA12, List.forall_mem_cons.mpr ⟨cA13.1, List.forall_mem_nil _⟩⟩⟩⟩⟩⟩⟩⟩⟩⟩⟩⟩⟩, ⟨vs5, ts5, cok1, cok2⟩⟩
                              case done =>
                                as_aux_lemma =>
                                  w_top off
                                  rintro ⟨us2, ls2, hs2, ⟨up2, low2, high2⟩, T2, B2, f2, kb3, kb4, lk, cb⟩ u h tk ⟨Iu2, Il2, Ih2, pl2, ino2, off2, ⟨cv, hcv⟩, htb⟩ F1 N1
                                  dsimp only at F1 N1
                                  (try k_fold)
                                  iterate 4 (first | walk1 | (dsimp only; walk1))
                                  · refine' goodW_bool F1 (by with_reducible assumption) (raisesW_false ?a3) ?a4
                                    case a3 => wrow_none_raised
                                    case a4 => exact post_true _
                                  · have h121 : ∃ ps, (121, tabObj ps) ∈ codeLed cb := by
                                      cases cb with
                                      | none => exact ⟨_, .head _⟩
                                      | some q => exact ⟨_, .head _⟩
                                    obtain ⟨ps121, m121⟩ := h121
                                    refine ⟨GrownAt.of N1 (?m : (121, tabObj ps121) ∈ _), True.intro⟩
                                    (repeat apply List.mem_cons_of_mem)
                                    exact List.mem_append_left _ m121
          · exact keepF_grows _)

end Mine

theorem PySem.Challenge.cw_kl0130_01_holds : PySem.Challenge.rw_kl0130_01.Holds :=
  Mine.law_holds
