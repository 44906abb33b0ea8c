import PyProof.Rows.All
import Wide.All
import OpenK.AllK
import Wide.FinOn
import Lean
import PySem.Challenge.RW_br0041_01
open PySem PySem.W PySem.Calls PyProof.Rows
set_option Elab.async false
set_option maxRecDepth 100000
set_option maxHeartbeats 0
/- part Top0 -/
section
local macro_rules | `(tactic| o_head (kHook $k $a $e)) => `(tactic| o_head (kmHook $k $a $e [222, 340, 167]))
open_top Mine.hd for PySem.Challenge.rw_br0041_01
end
set_option maxHeartbeats 4000000
/- part Mb -/
section
namespace Mine

/-- the written part of the heap -/
noncomputable abbrev KK (w : World) : Frag := hd.heap_39 w.params

/-- the room that a call wants -/
structure Room (A : Around) (d u : Nat) : Prop where
  hh : A.handled = none
  dp : A.depth + d < recursionLimit
  un : A.units + u < cLine

/-- every world's call c from s ends with a value, old objects kept -/
def Pays (prog : Program) (w : World) (A : Around) (c : Code) (s : Shared) (Q : Value → Heap → Prop) : Prop :=
  ∀ R : Result → Shared → Prop, (∀ v h' tk, s.heap.StaysIn h' → Q v h' → R (.ok (.ret v)) { s with heap := h', toks := tk }) → codeAny (model prog w) A c R s

theorem peek1_go {α : Type} {K : Frag} {M : Model} {A : Around} {E : Value → Shared → Prop} {Q : α → Shared → Prop} {s : Shared} {o : Obj} {r : Addr → α} (X : K.In s.heap)
    (q : Q (r s.heap.objs.size) { s with heap := s.heap.push o }) :
    ∀ (t : Sem α) (g : Addr → Option α), peek1 K ⟨M.prog, M.w.params⟩ t = some (o, g) → (∀ D, g D = some (r D)) → wpAny M A t Q E s := by
  intro t
  induction t with
  | rule _ k ih => intro g e hg Γ p hΓ; exact ih () g e hg Γ p hΓ
  | point _ k ih => intro g e hg Γ p hΓ; exact ih () g e hg Γ p hΓ
  | ask k ih => intro g e hg Γ p hΓ; exact ih _ g e hg Γ p hΓ
  | load a _ k ih =>
    intro g e hg Γ p hΓ
    simp only [peek1] at e
    split at e
    · rename_i ob ho; exact ⟨ob, X _ _ ho, ih ob g e hg Γ p hΓ⟩
    · cases e
  | alloc ob k _ =>
    intro g e hg
    have e : some (ob, fun D => peek K ⟨M.prog, M.w.params⟩ (k D)) = some (o, g) := e
    obtain ⟨e1, e2⟩ := Prod.mk.inj (Option.some.inj e)
    subst e1
    subst e2
    have X' : K.In (s.heap.push ob) := X.keeps fun b x hb => Heap.get?_push_of_some _ hb
    show wpAny M A (alloc ob >>= k) Q E s
    refine wpAny_bind (wpAny_alloc ?_)
    exact (Looks.of_peek (M := M) (h := s.heap.push ob) X' (hg s.heap.objs.size)).here (s := { s with heap := s.heap.push ob }) q
  | _ => intro g e; cases e

section
variable {K : Frag} {prog : Program} {w : World} {A : Around} {s : Shared} {R : Result → Shared → Prop} {name qual : Str} {params : Arguments} {body : List Stmt} {scope : Scope} {dV kV doc pm cdv ct oc : Value} {an od : Option Addr}
  {osl : Array (Option Value)} {f : Addr} {args : Args} {binds : List (Str × Value)} {p : Program} {loose : List Str} {mean : ExcName → Option Value} {mg mb : Str → Option Value}

theorem enter (own : List (Addr × Obj)) (X : K.In (hideAll s.heap (own.map (·.1)))) (T : Top p loose mean mg mb (hideAll s.heap (own.map (·.1)))) (hown : ∀ q ∈ own, s.heap.get? q.1 = some q.2)
    (ho : K.lookup f = some ⟨oc, od, .func (fnOf name qual params body scope dV kV doc pm an cdv ct), osl⟩) (hcd : codeIn K cdv qual = true) (hroom : A.depth < recursionLimit)
    (hbind : BindsTo s (fnOf name qual params body scope dV kV doc pm an cdv ct) args binds) (hloc : ∀ y ∈ binds, scope.names.lookup y.1 = some .local)
    (h : ∀ L' h₁, Fr (hideAll s.heap (own.map (·.1))) L' h₁ (fun y => binds.reverse.lookup y) → News (hideAll s.heap (own.map (·.1))) L' h₁ own → 
      wpAny (model prog w) (A.deeper (envOf qual scope L' f cdv)) (execs body (envOf qual scope L' f cdv))
        (fun fl s' => R (.ok (.ret (match fl with | .ret v => v | _ => .none))) s') (fun _ _ => False)
        { s with heap := h₁, toks := s.toks + binds.length })
    (hcell : ∀ x ∈ scope.names, x.2 ≠ .cell) (hco : scope.isCoroutine = false) (hgen : scope.isGenerator = false) (hk : scope.kind = .function) : codeAny (model prog w) A (.call (.ref f) args) R s := by
  have X' : K.In s.heap := fun a o e => of_hideAll _ (X a o e)
  have hlim : s.heap.NoLimit := T.nolimit.keeps fun b o e => of_hideAll _ e
  refine codeAny_call_def (fd := fnOf name qual params body scope dV kV doc pm an cdv ct) (body := body) (binds := binds) hroom (X' _ _ ho) rfl hlim (codeRec_of X' hcd) rfl hbind hcell hloc (fun h₁ hns hk₁ => ?_) hco hgen hk
  refine wpAny_mono (h s.heap.objs.size h₁ ⟨hns, fun b o e => hk₁ b o (of_hideAll _ e), Nat.le_of_eq (hideAll_size _ _)⟩
    (fun q hq => ⟨hk₁ _ _ (hown q hq), Nat.ne_of_lt (Heap.lt_size (hown q hq)), hideAll_none _ (List.mem_map_of_mem hq)⟩)) (fun fl s' hl => hl) fun _ _ y => y.elim

theorem enterR (own : List (Addr × Obj)) {vs : List Value} {g₁ : Addr → Option (List (Str × Value))} {bindsR : Addr → List (Str × Value)} (X : K.In (hideAll s.heap (own.map (·.1)))) (T : Top p loose mean mg mb (hideAll s.heap (own.map (·.1)))) (hown : ∀ q ∈ own, s.heap.get? q.1 = some q.2)
    (ho : K.lookup f = some ⟨oc, od, .func (fnOf name qual params body scope dV kV doc pm an cdv ct), osl⟩) (hcd : codeIn K cdv qual = true) (hroom : A.depth < recursionLimit)
    (hv : args.pos.drop (params.posonlyargs.length + params.args.length) = vs)
    (hp : peek1 K ⟨prog, w.params⟩ (bindArgs (fnOf name qual params body scope dV kV doc pm an cdv ct) args) = some (({ cls := .type "tuple", data := .seq vs.toArray } : Obj), g₁))
    (hg : ∀ D, g₁ D = some (bindsR D)) (hloc : ∀ D, ∀ y ∈ bindsR D, scope.names.lookup y.1 = some .local)
    (h : ∀ D L' h₁, Fr (hideAll s.heap (own.map (·.1))) L' h₁ (fun y => (bindsR D).reverse.lookup y) → News (hideAll s.heap (own.map (·.1))) L' h₁ ((D, ({ cls := .type "tuple", data := .seq vs.toArray } : Obj)) :: own) → (∀ q ∈ own, q.1 < D) →
      wpAny (model prog w) (A.deeper (envOf qual scope L' f cdv)) (execs body (envOf qual scope L' f cdv))
        (fun fl s' => R (.ok (.ret (match fl with | .ret v => v | _ => .none))) s') (fun _ _ => False)
        { s with heap := h₁, toks := s.toks + (bindsR D).length })
    (hcell : ∀ x ∈ scope.names, x.2 ≠ .cell) (hco : scope.isCoroutine = false) (hgen : scope.isGenerator = false) (hk : scope.kind = .function) : codeAny (model prog w) A (.call (.ref f) args) R s := by
  have _ := hv
  have X' : K.In s.heap := fun a o e => of_hideAll _ (X a o e)
  have hlim : s.heap.NoLimit := T.nolimit.keeps fun b o e => of_hideAll _ e
  refine codeAny_call_function (fd := fnOf name qual params body scope dV kV doc pm an cdv ct) (body := body) hroom (X' _ _ ho) rfl hco hgen rfl (codeRec_of X' hcd) ?_
  refine peek1_go X' (o := ({ cls := .type "tuple", data := .seq vs.toArray } : Obj)) (r := bindsR) ?_ _ g₁ hp hg
  have lt : ∀ q ∈ own, q.1 < s.heap.objs.size := fun q hq => Heap.lt_size (hown q hq)
  refine wpAny_newFunctionEnv (s := { s with heap := s.heap.push ({ cls := .type "tuple", data := .seq vs.toArray } : Obj) }) hcell (hloc _) (fun h₁ hns hsb => ⟨(hlim.push _).fresh _ hsb, codeAny_func ?_⟩) hk
  have hk₁ : ∀ b o, (s.heap.push ({ cls := .type "tuple", data := .seq vs.toArray } : Obj)).get? b = some o → h₁.get? b = some o := fun b o e => hsb.extBut b o (Nat.ne_of_lt (Heap.lt_size e)) (Heap.get?_push_of_some _ e)
  refine wpAny_mono (h s.heap.objs.size (s.heap.push ({ cls := .type "tuple", data := .seq vs.toArray } : Obj)).objs.size h₁ ⟨hns, fun b o e => hk₁ b o (Heap.get?_push_of_some _ (of_hideAll _ e)), by rw [hideAll_size, Heap.size_push]; exact Nat.le_succ _⟩ (fun q hq => ?_) lt) (fun fl s' hl => hl) fun _ _ y => y.elim
  rcases List.mem_cons.mp hq with rfl | hq
  · refine ⟨hk₁ _ _ (Heap.get?_push_size _ rfl), by rw [Heap.size_push]; exact Nat.ne_of_lt (Nat.lt_succ_self _), ?_⟩
    cases e : (hideAll s.heap (own.map (·.1))).get? s.heap.objs.size with
    | none => rfl
    | some o => exact absurd (Heap.lt_size (of_hideAll _ e)) (Nat.lt_irrefl _)
  · exact ⟨hk₁ _ _ (Heap.get?_push_of_some _ (hown q hq)), by rw [Heap.size_push]; exact Nat.ne_of_lt (Nat.lt_succ_of_lt (lt q hq)), hideAll_none _ (List.mem_map_of_mem hq)⟩

theorem enter0 (X : K.In s.heap) (T : Top p loose mean mg mb s.heap)
    (ho : K.lookup f = some ⟨oc, od, .func (fnOf name qual params body scope dV kV doc pm an cdv ct), osl⟩) (hcd : codeIn K cdv qual = true) (hroom : A.depth < recursionLimit)
    (hbind : BindsTo s (fnOf name qual params body scope dV kV doc pm an cdv ct) args binds) (hloc : ∀ y ∈ binds, scope.names.lookup y.1 = some .local)
    (h : ∀ L' h₁, Fr s.heap L' h₁ (fun y => binds.reverse.lookup y) → News s.heap L' h₁ [] →
      wpAny (model prog w) (A.deeper (envOf qual scope L' f cdv)) (execs body (envOf qual scope L' f cdv))
        (fun fl s' => R (.ok (.ret (match fl with | .ret v => v | _ => .none))) s') (fun _ _ => False)
        { s with heap := h₁, toks := s.toks + binds.length })
    (hcell : ∀ x ∈ scope.names, x.2 ≠ .cell) (hco : scope.isCoroutine = false) (hgen : scope.isGenerator = false) (hk : scope.kind = .function) : codeAny (model prog w) A (.call (.ref f) args) R s :=
  enter [] X T (fun _ h => nomatch h) ho hcd hroom hbind hloc h hcell hco hgen hk
theorem enterR0 {vs : List Value} {g₁ : Addr → Option (List (Str × Value))} {bindsR : Addr → List (Str × Value)} (X : K.In s.heap) (T : Top p loose mean mg mb s.heap)
    (ho : K.lookup f = some ⟨oc, od, .func (fnOf name qual params body scope dV kV doc pm an cdv ct), osl⟩) (hcd : codeIn K cdv qual = true) (hroom : A.depth < recursionLimit)
    (hv : args.pos.drop (params.posonlyargs.length + params.args.length) = vs)
    (hp : peek1 K ⟨prog, w.params⟩ (bindArgs (fnOf name qual params body scope dV kV doc pm an cdv ct) args) = some (({ cls := .type "tuple", data := .seq vs.toArray } : Obj), g₁))
    (hg : ∀ D, g₁ D = some (bindsR D)) (hloc : ∀ D, ∀ y ∈ bindsR D, scope.names.lookup y.1 = some .local)
    (h : ∀ D L' h₁, Fr s.heap L' h₁ (fun y => (bindsR D).reverse.lookup y) → News s.heap L' h₁ [(D, ({ cls := .type "tuple", data := .seq vs.toArray } : Obj))] →
      wpAny (model prog w) (A.deeper (envOf qual scope L' f cdv)) (execs body (envOf qual scope L' f cdv))
        (fun fl s' => R (.ok (.ret (match fl with | .ret v => v | _ => .none))) s') (fun _ _ => False)
        { s with heap := h₁, toks := s.toks + (bindsR D).length })
    (hcell : ∀ x ∈ scope.names, x.2 ≠ .cell) (hco : scope.isCoroutine = false) (hgen : scope.isGenerator = false) (hk : scope.kind = .function) : codeAny (model prog w) A (.call (.ref f) args) R s :=
  enterR [] X T (fun _ h => nomatch h) ho hcd hroom hv hp hg hloc (fun D L' h₁ F N _ => h D L' h₁ F N) hcell hco hgen hk

theorem fr_stay {h₀ h h' : Heap} {L : Addr} {m : Str → Option Value} (F : Fr h₀ L h m) (k : h.StaysIn h') : Fr h₀ L h' m :=
  ⟨F.ns.keeps k, fun b o e => k b o (F.keep b o e), F.above⟩
theorem news_stay {h₀ h h' : Heap} {L : Addr} {news : List (Addr × Obj)} (N : News h₀ L h news) (k : h.StaysIn h') : News h₀ L h' news :=
  fun q hq => ⟨k _ _ (N q hq).1, (N q hq).2⟩

/-- what lies in a heap h below a call: the top's objects, and all of g -/
structure On (w : World) (p : Program) (loose : List Str) (mean : ExcName → Option Value) (mg mb : Str → Option Value) (g h : Heap) : Prop where
  k : (hd.heap_39 w.params).In g
  t : Top p loose mean mg mb g
  st : g.StaysIn h

theorem hide_keep {own : List (Addr × Obj)} {g h : Heap} (st : g.StaysIn h) (hg : ∀ q ∈ own, g.get? q.1 = none) : g.StaysIn (hideAll h (own.map (·.1))) := fun b o e => hideAll_get _ (st b o e) fun q => by
  obtain ⟨r, hr, rfl⟩ := List.mem_map.mp q
  rw [hg r hr] at e; cases e
theorem hide_back {own : List (Addr × Obj)} {h h' : Heap} (k : (hideAll h (own.map (·.1))).StaysIn h') (hown : ∀ q ∈ own, h.get? q.1 = some q.2) (hown' : ∀ q ∈ own, h'.get? q.1 = some q.2) : h.StaysIn h' := fun b o e => by
  by_cases hb : b ∈ own.map (·.1)
  · obtain ⟨r, hr, rfl⟩ := List.mem_map.mp hb
    rw [hown r hr] at e; cases e
    exact hown' r hr
  · exact k b o (hideAll_get _ e hb)

structure Back (h₀ h : Heap) (own : List (Addr × Obj)) : Prop where
  keep : ∀ h', h₀.StaysIn h' → (∀ q ∈ own, h'.get? q.1 = some q.2) → h.StaysIn h'
  new : ∀ b, h₀.get? b = none → (∀ q ∈ own, b ≠ q.1) → h.get? b = none
theorem back_of {own : List (Addr × Obj)} {h : Heap} (hown : ∀ q ∈ own, h.get? q.1 = some q.2) : Back (hideAll h (own.map (·.1))) h own :=
  ⟨fun _ k z => hide_back k hown z, fun b e n => by
    cases q : h.get? b with
    | none => rfl
    | some o =>
      rw [hideAll_get _ q fun m => by obtain ⟨r, hr, rfl⟩ := List.mem_map.mp m; exact n r hr rfl] at e
      cases e⟩

theorem enterG (own : List (Addr × Obj)) {g : Heap} {binds : List (Str × Value)} (O : On w p loose mean mg mb g s.heap) (hg : ∀ q ∈ own, g.get? q.1 = none) (hown : ∀ q ∈ own, s.heap.get? q.1 = some q.2)
    (ho : (hd.heap_39 w.params).lookup f = some ⟨oc, od, .func (fnOf name qual params body scope dV kV doc pm an cdv ct), osl⟩) (hcd : codeIn (hd.heap_39 w.params) cdv qual = true) (hroom : A.depth < recursionLimit)
    (hbind : BindsTo s (fnOf name qual params body scope dV kV doc pm an cdv ct) args binds) (hloc : ∀ y ∈ binds, scope.names.lookup y.1 = some .local)
    (h : ∀ h₀ L' h₁, g.StaysIn h₀ → (hd.heap_39 w.params).In h₀ → Top p loose mean mg mb h₀ → Back h₀ s.heap own → Fr h₀ L' h₁ (fun y => binds.reverse.lookup y) → News h₀ L' h₁ own →
      wpAny (model prog w) (A.deeper (envOf qual scope L' f cdv)) (execs body (envOf qual scope L' f cdv))
        (fun fl s' => R (.ok (.ret (match fl with | .ret v => v | _ => .none))) s') (fun _ _ => False)
        { s with heap := h₁, toks := s.toks + binds.length })
    (hcell : ∀ x ∈ scope.names, x.2 ≠ .cell) (hco : scope.isCoroutine = false) (hgen : scope.isGenerator = false) (hk : scope.kind = .function) : codeAny (model prog w) A (.call (.ref f) args) R s :=
  have k := hide_keep O.st hg
  enter own (O.k.keeps k) (O.t.keeps k) hown ho hcd hroom hbind hloc (fun L' h₁ F N => h _ L' h₁ k (O.k.keeps k) (O.t.keeps k) (back_of hown) F N) hcell hco hgen hk

theorem enterRG (own : List (Addr × Obj)) {g : Heap} {vs : List Value} {g₁ : Addr → Option (List (Str × Value))} {bindsR : Addr → List (Str × Value)} (O : On w p loose mean mg mb g s.heap) (hg : ∀ q ∈ own, g.get? q.1 = none) (hown : ∀ q ∈ own, s.heap.get? q.1 = some q.2)
    (ho : (hd.heap_39 w.params).lookup f = some ⟨oc, od, .func (fnOf name qual params body scope dV kV doc pm an cdv ct), osl⟩) (hcd : codeIn (hd.heap_39 w.params) cdv qual = true) (hroom : A.depth < recursionLimit)
    (hv : args.pos.drop (params.posonlyargs.length + params.args.length) = vs)
    (hp : peek1 (hd.heap_39 w.params) ⟨prog, w.params⟩ (bindArgs (fnOf name qual params body scope dV kV doc pm an cdv ct) args) = some (({ cls := .type "tuple", data := .seq vs.toArray } : Obj), g₁))
    (hgr : ∀ D, g₁ D = some (bindsR D)) (hloc : ∀ D, ∀ y ∈ bindsR D, scope.names.lookup y.1 = some .local)
    (h : ∀ D h₀ L' h₁, g.StaysIn h₀ → (hd.heap_39 w.params).In h₀ → Top p loose mean mg mb h₀ → Back h₀ s.heap own → Fr h₀ L' h₁ (fun y => (bindsR D).reverse.lookup y) → News h₀ L' h₁ ((D, ({ cls := .type "tuple", data := .seq vs.toArray } : Obj)) :: own) → AllLt D own →
      wpAny (model prog w) (A.deeper (envOf qual scope L' f cdv)) (execs body (envOf qual scope L' f cdv))
        (fun fl s' => R (.ok (.ret (match fl with | .ret v => v | _ => .none))) s') (fun _ _ => False)
        { s with heap := h₁, toks := s.toks + (bindsR D).length })
    (hcell : ∀ x ∈ scope.names, x.2 ≠ .cell) (hco : scope.isCoroutine = false) (hgen : scope.isGenerator = false) (hk : scope.kind = .function) : codeAny (model prog w) A (.call (.ref f) args) R s :=
  have k := hide_keep O.st hg
  enterR own (O.k.keeps k) (O.t.keeps k) hown ho hcd hroom hv hp hgr hloc (fun D L' h₁ F N l => h D _ L' h₁ k (O.k.keeps k) (O.t.keeps k) (back_of hown) F N (allLt_of l)) hcell hco hgen hk
end
end Mine
end
set_option maxHeartbeats 4000000
/- part Mb2 -/
section
namespace Mine
/-- a goal at which the walk shall stop -/
def Stop (p : Prop) : Prop := p
theorem stop_it {p : Prop} (h : Stop p) : p := h
section
variable {K : Frag} {prog : Program} {w : World} {A : Around} {s : Shared} {R : Result → Shared → Prop} {name qual : Str} {params : Arguments} {body : List Stmt} {scope : Scope} {dV kV doc pm cdv ct oc : Value} {an od : Option Addr}
  {osl : Array (Option Value)} {f : Addr} {args : Args} {p : Program} {loose : List Str} {mean : ExcName → Option Value} {mg mb : Str → Option Value}

/-- the frame of a def with cells of its own -/
theorem frameC {u : Shared} {base : Heap} {more : List (Addr × Obj)} {binds : List (Str × Value)} {E : Value → Shared → Prop} (hlim : u.heap.NoLimit) (hsz : base.objs.size ≤ u.heap.objs.size)
    (hb : ∀ b o, base.get? b = some o → u.heap.get? b = some o) (hm : ∀ q ∈ more, u.heap.get? q.1 = some q.2 ∧ base.get? q.1 = none)
    (hkind : ∀ n, ∀ x ∈ binds, scope.names.lookup x.1 = some .local ∨ (scope.names.lookup x.1 = some .cell ∧ ((cellsFrom n scope.names []).lookup x.1).isSome = true))
    (hnd : ((cellsFrom 0 scope.names []).map (·.1)).Nodup)
    (h : ∀ L' h₁ tk cells, Fr base L' h₁ (bindL (envOfC qual scope L' f cdv).kindOf binds fun _ => none) → News base L' h₁ (cells ++ more) →
      CellsAre (bindC (envOfC qual scope L' f cdv).kindOf binds fun _ => none) (cellsFrom (L' + 1) scope.names []) cells → (∀ q ∈ more, q.1 < L') →
      wpAny (model prog w) (A.deeper (envOfC qual scope L' f cdv)) (execs body (envOfC qual scope L' f cdv))
        (fun fl s' => R (.ok (.ret (match fl with | .ret v => v | _ => .none))) s') (fun _ _ => False)
        { u with heap := h₁, toks := tk })
    (hk : scope.kind = .function) :
    wpAny (model prog w) A.in1 (newFunctionEnv scope mainGlobals [] binds (qual ++ ".<locals>.") (some f) cdv none builtinsNs) (fun env' s₂ => s₂.heap.NoLimit ∧ codeAny (model prog w) A (.func body env') R s₂) E u := by
  refine wpAny_newFunctionEnv_cells hk (hkind _) fun env' he s' x => ?_
  subst he
  refine ⟨hlim.keeps x.toInCall.keep, codeAny_func ?_⟩
  obtain ⟨h₁, tk, rfl, _⟩ := x.done
  have hk₁ := x.toInCall.keep
  obtain ⟨cells, NC, Y⟩ := Cl.news (h₀ := u.heap) (Nat.le_refl _) fun n c hm => ⟨x.cell n c (lookup_of_mem_nodup (cellsFrom_names scope.names 0 (u.heap.objs.size + 1) [] [] rfl ▸ hnd) hm), x.above n c hm⟩
  refine wpAny_mono (h u.heap.objs.size h₁ tk cells ⟨x.toInCall.ns, fun b o e => hk₁ b o (hb b o e), hsz⟩ (fun p hp => ?_) Y (fun p hp => Heap.lt_size (hm p hp).1)) (fun fl s' hl => hl) fun _ _ y => y.elim
  rcases List.mem_append.mp hp with hp | hp
  · refine ⟨(NC p hp).1, (NC p hp).2.1, ?_⟩
    cases q : base.get? p.1 with
    | none => rfl
    | some o => have := hb _ _ q; rw [(NC p hp).2.2] at this; cases this
  · exact ⟨hk₁ _ _ (hm p hp).1, Nat.ne_of_lt (Heap.lt_size (hm p hp).1), (hm p hp).2⟩

theorem enterCG (own : List (Addr × Obj)) {g : Heap} {binds : List (Str × Value)} (O : On w p loose mean mg mb g s.heap) (hg : ∀ q ∈ own, g.get? q.1 = none) (hown : ∀ q ∈ own, s.heap.get? q.1 = some q.2)
    (ho : (hd.heap_39 w.params).lookup f = some ⟨oc, od, .func (fnOf name qual params body scope dV kV doc pm an cdv ct), osl⟩) (hcd : codeIn (hd.heap_39 w.params) cdv qual = true) (hroom : A.depth < recursionLimit)
    (hbind : BindsTo s (fnOf name qual params body scope dV kV doc pm an cdv ct) args binds)
    (hkind : (binds.all fun y => scope.names.lookup y.1 == some .local || scope.names.lookup y.1 == some .cell) = true) (hnd : ((cellsFrom 0 scope.names []).map (·.1)).Nodup)
    (h : ∀ h₀ L' h₁ tk cells, g.StaysIn h₀ → (hd.heap_39 w.params).In h₀ → Top p loose mean mg mb h₀ → Back h₀ s.heap own →
      Fr h₀ L' h₁ (bindL (envOfC qual scope L' f cdv).kindOf binds fun _ => none) → News h₀ L' h₁ (cells ++ own) →
      CellsAre (bindC (envOfC qual scope L' f cdv).kindOf binds fun _ => none) (cellsFrom (L' + 1) scope.names []) cells → AllLt L' own →
      wpAny (model prog w) (A.deeper (envOfC qual scope L' f cdv)) (execs body (envOfC qual scope L' f cdv))
        (fun fl s' => R (.ok (.ret (match fl with | .ret v => v | _ => .none))) s') (fun _ _ => False)
        { s with heap := h₁, toks := tk })
    (hco : scope.isCoroutine = false) (hgen : scope.isGenerator = false) (hk : scope.kind = .function) : codeAny (model prog w) A (.call (.ref f) args) R s := by
  have k := hide_keep O.st hg
  have X' := O.k.keeps O.st
  have hlim : s.heap.NoLimit := O.t.nolimit.keeps O.st
  refine codeAny_call_function (fd := fnOf name qual params body scope dV kV doc pm an cdv ct) (body := body) hroom (X' _ _ ho) rfl hco hgen rfl (codeRec_of X' hcd) (hbind _ _ _ _ ?_)
  refine frameC (base := hideAll s.heap (own.map (·.1))) (more := own) hlim (Nat.le_of_eq (hideAll_size _ _)) (fun b o e => of_hideAll _ e) (fun q hq => ⟨hown q hq, hideAll_none _ (List.mem_map_of_mem hq)⟩) (kindsX hkind) hnd
    (fun L' h₁ tk cells F N Y l => h _ L' h₁ tk cells k (O.k.keeps k) (O.t.keeps k) (back_of hown) F N Y (allLt_of l)) hk

theorem enterRCG (own : List (Addr × Obj)) {g : Heap} {vs : List Value} {g₁ : Addr → Option (List (Str × Value))} {bindsR : Addr → List (Str × Value)} (O : On w p loose mean mg mb g s.heap) (hg : ∀ q ∈ own, g.get? q.1 = none) (hown : ∀ q ∈ own, s.heap.get? q.1 = some q.2)
    (ho : (hd.heap_39 w.params).lookup f = some ⟨oc, od, .func (fnOf name qual params body scope dV kV doc pm an cdv ct), osl⟩) (hcd : codeIn (hd.heap_39 w.params) cdv qual = true) (hroom : A.depth < recursionLimit)
    (hv : args.pos.drop (params.posonlyargs.length + params.args.length) = vs)
    (hp : peek1 (hd.heap_39 w.params) ⟨prog, w.params⟩ (bindArgs (fnOf name qual params body scope dV kV doc pm an cdv ct) args) = some (({ cls := .type "tuple", data := .seq vs.toArray } : Obj), g₁))
    (hgr : ∀ D, g₁ D = some (bindsR D))
    (hkind : ∀ D, ((bindsR D).all fun y => scope.names.lookup y.1 == some .local || scope.names.lookup y.1 == some .cell) = true) (hnd : ((cellsFrom 0 scope.names []).map (·.1)).Nodup)
    (h : ∀ D h₀ L' h₁ tk cells, g.StaysIn h₀ → (hd.heap_39 w.params).In h₀ → Top p loose mean mg mb h₀ → Back h₀ s.heap own →
      Fr h₀ L' h₁ (bindL (envOfC qual scope L' f cdv).kindOf (bindsR D) fun _ => none) → News h₀ L' h₁ (cells ++ (D, ({ cls := .type "tuple", data := .seq vs.toArray } : Obj)) :: own) →
      CellsAre (bindC (envOfC qual scope L' f cdv).kindOf (bindsR D) fun _ => none) (cellsFrom (L' + 1) scope.names []) cells → AllLt D own → AllLt L' ((D, ({ cls := .type "tuple", data := .seq vs.toArray } : Obj)) :: own) →
      wpAny (model prog w) (A.deeper (envOfC qual scope L' f cdv)) (execs body (envOfC qual scope L' f cdv))
        (fun fl s' => R (.ok (.ret (match fl with | .ret v => v | _ => .none))) s') (fun _ _ => False)
        { s with heap := h₁, toks := tk })
    (hco : scope.isCoroutine = false) (hgen : scope.isGenerator = false) (hk : scope.kind = .function) : codeAny (model prog w) A (.call (.ref f) args) R s := by
  have _ := hv
  have k := hide_keep O.st hg
  have X' := O.k.keeps O.st
  have hlim : s.heap.NoLimit := O.t.nolimit.keeps O.st
  have lt : ∀ q ∈ own, q.1 < s.heap.objs.size := fun q hq => Heap.lt_size (hown q hq)
  refine codeAny_call_function (fd := fnOf name qual params body scope dV kV doc pm an cdv ct) (body := body) hroom (X' _ _ ho) rfl hco hgen rfl (codeRec_of X' hcd) ?_
  refine peek1_go X' (o := ({ cls := .type "tuple", data := .seq vs.toArray } : Obj)) (r := bindsR) ?_ _ g₁ hp hgr
  refine frameC (u := { s with heap := s.heap.push ({ cls := .type "tuple", data := .seq vs.toArray } : Obj) }) (base := hideAll s.heap (own.map (·.1))) (more := (s.heap.objs.size, ({ cls := .type "tuple", data := .seq vs.toArray } : Obj)) :: own) (hlim.push _)
    (by rw [hideAll_size, Heap.size_push]; exact Nat.le_succ _) (fun b o e => Heap.get?_push_of_some _ (of_hideAll _ e)) (fun q hq => ?_) (kindsX (hkind _)) hnd
    (fun L' h₁ tk cells F N Y l => h s.heap.objs.size _ L' h₁ tk cells k (O.k.keeps k) (O.t.keeps k) (back_of hown) F N Y (allLt_of lt) (allLt_of l)) hk
  rcases List.mem_cons.mp hq with rfl | hq
  · refine ⟨Heap.get?_push_size _ rfl, ?_⟩
    cases e : (hideAll s.heap (own.map (·.1))).get? s.heap.objs.size with
    | none => rfl
    | some o => exact absurd (Heap.lt_size (of_hideAll _ e)) (Nat.lt_irrefl _)
  · exact ⟨Heap.get?_push_of_some _ (hown q hq), hideAll_none _ (List.mem_map_of_mem hq)⟩
end
end Mine
end
set_option maxHeartbeats 4000000
/- part Ms -/
section
namespace Mine
section
variable {prog : Program} {w : World} {A : Around} {E : Value → Shared → Prop} {s : Shared}

def isOpt : Option Int → Value → Bool
  | some i, .int j _ => j == i
  | none, .none => true
  | _, _ => false
def optHash : Option Int → Int
  | some i => hashInt i
  | none => reduceHash 0xFCA86420
theorem isOpt_shape {k : Option Int} {v : Value} (h : isOpt k v = true) : (∃ i t, k = some i ∧ v = .int i t) ∨ (k = none ∧ v = .none) := by
  cases k <;> cases v <;> simp_all [isOpt]
theorem pyHash_none {Q : Int → Shared → Prop} (h : Q (reduceHash 0xFCA86420) { s with toks := s.toks + 1 }) : wpAny (model prog w) A (pyHash .none) Q E s :=
  pyHash_slot (T := "NoneType") rfl F.slot_NoneType_hash F.entry_NoneType_hash (F.args_NoneType_hash_1 _) (beq_builtin_none _) (.inl rfl) (wpAny_bind (wpAny_pure (wpAny_bind (wpAny_mkInt (wpAny_pure ⟨_, _, rfl, h⟩)))))
theorem eqBool_none_none {Q : Bool → Shared → Prop} (h : Q true s) : wpAny (model prog w) A (eqBool .none .none) Q E s := by
  unfold eqBool
  refine wpAny_holding ?_
  show wpAny _ _ (if (Value.none == Value.none) = true then _ else _) Q E s
  rw [if_pos (by rfl)]
  exact wpAny_bind (wpAny_rule (wpAny_pure h))
theorem eqBool_int_none {i : Int} {t : Tok} {Q : Bool → Shared → Prop} (h : Q false s) : wpAny (model prog w) A (eqBool (.int i t) .none) Q E s := by
  unfold eqBool
  refine wpAny_holding ?_
  show wpAny _ _ (if (Value.int i t == Value.none) = true then _ else _) Q E s
  rw [if_neg (by rw [beq_eq_false_iff_ne.mpr (by intro e; cases e)]; exact Bool.false_ne_true)]
  exact wpAny_bind (EqNone.eq_int_none (wpAny_truthy_bool h))
theorem eqBool_none_int {i : Int} {t : Tok} {Q : Bool → Shared → Prop} (h : Q false s) : wpAny (model prog w) A (eqBool .none (.int i t)) Q E s := by
  unfold eqBool
  refine wpAny_holding ?_
  show wpAny _ _ (if (Value.none == Value.int i t) = true then _ else _) Q E s
  rw [if_neg (by rw [beq_eq_false_iff_ne.mpr (by intro e; cases e)]; exact Bool.false_ne_true)]
  exact wpAny_bind (EqNone.eq_none_int (wpAny_truthy_bool h))

def optKind (prog : Program) (w : World) : KeyKind prog w (Option Int) where
  is := isOpt
  hash := optHash
  inj := fun v a b ha hb => by
    rcases isOpt_shape ha with ⟨i, t, rfl, rfl⟩ | ⟨rfl, rfl⟩
    · rcases isOpt_shape hb with ⟨j, u, rfl, e⟩ | ⟨rfl, e⟩
      · cases e; rfl
      · cases e
    · rcases isOpt_shape hb with ⟨j, u, rfl, e⟩ | ⟨rfl, e⟩
      · cases e
      · rfl
  byValue := fun k v h => by
    rcases isOpt_shape h with ⟨i, t, rfl, rfl⟩ | ⟨rfl, rfl⟩ <;> rfl
  pyHash := fun hv h => by
    rcases isOpt_shape hv with ⟨i, t, rfl, rfl⟩ | ⟨rfl, rfl⟩
    · exact wpAny_pyHash_int h
    · exact pyHash_none h
  eqBool := fun hu hv h => by
    rcases isOpt_shape hu with ⟨i, t, rfl, rfl⟩ | ⟨rfl, rfl⟩ <;> rcases isOpt_shape hv with ⟨j, u, rfl, rfl⟩ | ⟨rfl, rfl⟩
    · exact wpAny_eqBool_int (by simpa [Bool.beq_eq_decide_eq] using h)
    · exact eqBool_int_none (by simpa using h)
    · exact eqBool_none_int (by simpa using h)
    · exact eqBool_none_none (by simpa using h)
  «strs» := fun k x t v h => by
    rcases isOpt_shape h with ⟨i, t, rfl, e⟩ | ⟨rfl, e⟩ <;> cases e

/-- one setAdd into the set at S, seen from a heap that keeps base -/
def AddStep (prog : Program) (w : World) (base : Heap) (A : Around) (S : Addr) (x : Value) (O O' : Obj → Prop) : Prop :=
  ∀ {E : Value → Shared → Prop} {s : Shared} {Q : Bool → Shared → Prop} {o : Obj}, base.StaysIn s.heap → base.get? S = none → s.heap.get? S = some o → O o →
    (∀ r h' tk o', h'.get? S = some o' → O' o' → Heap.SameBut S s.heap h' → Q r { s with heap := h', toks := tk }) → wpAny (model prog w) A (setAdd S x) Q E s

abbrev freshSet (led : Bool) : Obj := { cls := .type "set", dict := none, data := .set #[] 0 (.fresh 0 0 led) }
def IsFresh (o : Obj) : Prop := ∃ led, o = freshSet led
def SetLen (n : Nat) (o : Obj) : Prop := ∃ es ep t, o.ExactSet ∧ o.data = .set es ep t ∧ t.fits es.size = true ∧ es.size = n

theorem sub_tuple_set : isSubtype (.type "tuple") (.type "set") = pure false := by rw [isSubtype_type]; kernel_rfl
theorem sub_tuple_frozenset : isSubtype (.type "tuple") (.type "frozenset") = pure false := by rw [isSubtype_type]; kernel_rfl

theorem isTuple_of {h : Heap} {l : Addr} {its : Array Value} (x : IsTup h l its) : h.IsTuple l its := x

theorem set_loop2 {base : Heap} {R : Result → Shared → Prop} {S I l : Addr} {a b : Value} {O0 O1 O2 : Obj → Prop} {o : Obj} (hh : A.handled = none)
    (hst : base.StaysIn s.heap) (hS : base.get? S = none) (hI : base.get? I = none) (hSI : S ≠ I) (hl : base.IsTuple l #[a, b]) (hit : s.heap.IsTupleIter I l 0) (ho : s.heap.get? S = some o) (hO : O0 o)
    (h0 : AddStep prog w base A.in1 S a O0 O1) (h1 : AddStep prog w base A.in1 S b O1 O2)
    (hR : ∀ h' tk o', base.StaysIn h' → h'.get? S = some o' → O2 o' → R (.ok (.ret .none)) { s with heap := h', toks := tk }) :
    codeAny (model prog w) A (.builtin "set.update.loop" ⟨[.ref S, .ref I], []⟩) R s := by
  have hlI : l ≠ I := fun e => by obtain ⟨ol, hol, _⟩ := hl; rw [e, hI] at hol; cases hol
  have up : ∀ {h : Heap}, base.StaysIn h → h.IsTuple l #[a, b] := fun k => let ⟨ol, hol, r⟩ := hl; ⟨ol, k _ _ hol, r⟩
  have stI : ∀ {h h' : Heap}, base.StaysIn h → Heap.SameBut I h h' → base.StaysIn h' := fun k hs b o e => (hs.2 b fun q => by rw [q, hI] at e; cases e).trans (k b o e)
  have stS : ∀ {h h' : Heap}, base.StaysIn h → Heap.SameBut S h h' → base.StaysIn h' := fun k hs b o e => (hs.2 b fun q => by rw [q, hS] at e; cases e).trans (k b o e)
  refine codeAny_builtin F.entry_set_update_loop ?_
  rw [Around.under_plainId F.plain_set_update_loop _]
  show wpAny _ A.in1 (pyNext (.ref I) >>= _) _ _ s
  refine wpAny_bind (wpAny_pyNext_tuple_item hit (up hst) (x := a) rfl fun h₁ hit₁ hs₁ => ?_)
  have st₁ := stI hst hs₁
  show wpAny _ A.in1 (holding [a] (setAdd S a) >>= _) _ _ _
  refine wpAny_bind (wpAny_holding (h0 (s := { s with heap := h₁ }) st₁ hS ((hs₁.2 S hSI).trans ho) hO fun r h₂ tk₂ o₂ ho₂ hO₂ hs₂ => ?_))
  refine wpAny_pure ⟨plainId_quiet F.plain_set_update_loop _, ?_⟩
  have st₂ : base.StaysIn h₂ := stS st₁ hs₂
  have hit₂ : h₂.IsTupleIter I l 1 := let ⟨oi, hoi, r⟩ := hit₁; ⟨oi, (hs₂.2 I (Ne.symm hSI)).trans hoi, r⟩
  refine codeAny_builtin F.entry_set_update_loop ?_
  rw [Around.under_plainId F.plain_set_update_loop _]
  show wpAny _ A.in1 (pyNext (.ref I) >>= _) _ _ _
  refine wpAny_bind (wpAny_pyNext_tuple_item hit₂ (up st₂) (x := b) rfl fun h₃ hit₃ hs₃ => ?_)
  have st₃ := stI st₂ hs₃
  show wpAny _ A.in1 (holding [b] (setAdd S b) >>= _) _ _ _
  refine wpAny_bind (wpAny_holding (h1 (s := { s with heap := h₃, toks := tk₂ }) st₃ hS ((hs₃.2 S hSI).trans ho₂) hO₂ fun r h₄ tk₄ o₄ ho₄ hO₄ hs₄ => ?_))
  refine wpAny_pure ⟨plainId_quiet F.plain_set_update_loop _, ?_⟩
  have st₄ : base.StaysIn h₄ := stS st₃ hs₄
  have hit₄ : h₄.IsTupleIter I l 2 := let ⟨oi, hoi, r⟩ := hit₃; ⟨oi, (hs₄.2 I (Ne.symm hSI)).trans hoi, r⟩
  refine codeAny_builtin F.entry_set_update_loop ?_
  rw [Around.under_plainId F.plain_set_update_loop _]
  show wpAny _ A.in1 (pyNext (.ref I) >>= _) _ _ _
  refine wpAny_bind (wpAny_pyNext_tuple_end hh hit₄ (up st₄) rfl fun h₅ hs₅ => ?_)
  show wpAny _ A.in1 (ret Value.none) _ _ _
  exact wpAny_pure (hR h₅ _ o₄ (fun b o e => hs₅ b o (fun q => by rw [q, hI] at e; cases e) (st₄ b o e)) (hs₅ S o₄ hSI ho₄) hO₄)

local macro_rules | `(tactic| wp_step) => `(tactic| first
  | with_reducible (first | refine wpAny_bind ?_ | refine wpAny_pure ?_ | refine wpAny_holding ?_ | refine wpAny_rule ?_ | refine wpAny_standAt ?_ | refine wpAny_of_eq (by assumption) ?_ | refine wpAny_mkInt' ?_ | refine wpAny_typeOf (by assumption) ?_ | refine wpAny_isInstance (by assumption) (by assumption) ?_)
  | (with_reducible apply wpAny_ite_false; focus (rfl; done))
  | (with_reducible apply wpAny_ite_true; focus (rfl; done))
  | wp_delta)
/-- keeps a closed fact from being decided at every step -/
def Hid (p : Prop) : Prop := p
set_option maxHeartbeats 8000000 in
theorem call_set_pair {l : Addr} {a b : Value} {O1 O2 : Obj → Prop} {Q : Value → Shared → Prop} (hh : A.handled = none) (hl : s.heap.IsTuple l #[a, b])
    (h0 : ∀ A' : Around, A'.units ≤ A.units + 8 → AddStep prog w s.heap A' s.heap.objs.size a IsFresh O1) (h1 : ∀ A' : Around, A'.units ≤ A.units + 8 → AddStep prog w s.heap A' s.heap.objs.size b O1 O2)
    (h : ∀ h' tk o', s.heap.StaysIn h' → h'.get? s.heap.objs.size = some o' → O2 o' → Q (.ref s.heap.objs.size) { s with heap := h', toks := tk }) :
    wpAny (model prog w) A (call (.type "set") [.ref l]) Q E s := by
  obtain ⟨c, tl, hmro⟩ := F.called_set.mro
  have hmade := F.called_set.made
  have hsub := F.called_set.sub
  refine wpAny_call (codeAny_of_tree ?_)
  show wpAny _ _ (callAny (.type "set") _) _ _ _
  refine wpAny_pure ⟨Code.quiet_builtin _ (by decide +kernel), codeAny_builtin F.entry_type_call ?_⟩
  rw [Around.under_plain (weight_type_call_type "set" [.ref l] []) rfl]
  have h1' : Hid _ := F.called_set.notType
  have h2 : Hid _ := F.called_set.canCreate
  have hct := F.typeCall_set_1 (.ref l)
  repeat (any_goals (first | assumption | wp_step))
  refine codeAny_mono (code_set_new_1 (.ref l) (E := E) (Q₁ := fun obj s₁ => ∃ led : Bool, obj = .ref s.heap.objs.size ∧ s₁ = { s with heap := s.heap.push (freshSet led) }) fun led => ⟨led, rfl, rfl⟩) fun r s₁ hr => ?_
  cases r with
  | error e => exact hr
  | ok fl =>
    cases fl with
    | ret obj =>
      obtain ⟨led, rfl, rfl⟩ := hr
      have hS : (s.heap.push (freshSet led)).get? s.heap.objs.size = some (freshSet led) := Heap.get?_push_size _ rfl
      have hT : Shared.TypeIs { s with heap := s.heap.push (freshSet led) } (.ref s.heap.objs.size) "set" := ⟨_, hS, rfl⟩
      have hli := F.called_set.init.lookup
      have hbi := F.called_set.init.bind (.ref s.heap.objs.size)
      repeat (any_goals (first | assumption | wp_step))
      refine codeAny_mono (codeAny_call_builtin (R := wants (fun r s₂ => r = .none ∧ ∃ h' tk o', s₂ = { s with heap := h', toks := tk } ∧ s.heap.StaysIn h' ∧ h'.get? s.heap.objs.size = some o' ∧ O2 o') E) F.called_set.init.plain F.entry_set_init (check_set_init_1 hT ?_)) fun r₂ s₂ hr₂ => ?_
      · obtain ⟨ol, hol, hcl, nl, hdl⟩ := id hl
        obtain ⟨ocls, odict, odata, oslots⟩ := ol
        simp only at hcl hdl
        subst hcl; subst hdl
        have hol' : (s.heap.push (freshSet led)).get? l = some { cls := .type "tuple", dict := odict, data := .seq #[a, b] nl, slots := oslots } := Heap.get?_push_of_some _ hol
        have hsls := sub_tuple_set
        have hslf := sub_tuple_frozenset
        have hne : (Value.type "tuple" == Value.type "dict") = false := by decide
        have hl1 : (s.heap.push (freshSet led)).IsTuple l #[a, b] := ⟨_, hol', rfl, nl, rfl⟩
        unfold Builtin.«set.__init__» noKeywords Builtin.Frozenset.updateFrom
        generalize hPI : pyIter = PI
        wp_walk
        subst hPI
        refine wpAny_pyIter_tuple hl1 ?_
        refine wpAny_bind (wpAny_runValue ?_)
        have hlS : l < s.heap.objs.size := Heap.lt_size hol
        have hnone : s.heap.get? s.heap.objs.size = none := by
          cases q : s.heap.get? s.heap.objs.size with
          | none => rfl
          | some o => exact absurd (Heap.lt_size q) (Nat.lt_irrefl _)
        have hnone1 : s.heap.get? (s.heap.push (freshSet led)).objs.size = none := by
          cases q : s.heap.get? (s.heap.push (freshSet led)).objs.size with
          | none => rfl
          | some o => exact absurd (Heap.lt_size q) (by rw [Heap.size_push]; exact Nat.not_lt.mpr (Nat.le_succ _))
        refine set_loop2 (base := s.heap) (O0 := IsFresh) (O1 := O1) (O2 := O2) (o := freshSet led) (by simpa using hh) (fun b o e => Heap.get?_push_of_some _ (Heap.get?_push_of_some _ e)) hnone hnone1 (by rw [Heap.size_push]; exact Nat.ne_of_lt (Nat.lt_succ_self _)) hl
          ⟨_, Heap.get?_push_size _ rfl, rfl, rfl⟩ (Heap.get?_push_of_some _ hS) ⟨led, rfl⟩ (h0 _ (by simp)) (h1 _ (by simp)) (fun h' tk o' st ho' hO' => ?_)
        show wpAny _ _ _ _ _ _
        refine wpAny_pure ?_
        show wpAny _ _ (ret Value.none) _ _ _
        exact wpAny_pure ⟨rfl, h', tk, o', rfl, st, ho', hO'⟩
      · cases r₂ with
        | error e => exact hr₂
        | ok fl₂ =>
          cases fl₂ with
          | ret r =>
            obtain ⟨rfl, h', tk, o', rfl, st, ho', hO'⟩ := hr₂
            repeat (any_goals (first | assumption | wp_step))
            exact h _ _ _ st ho' hO'
          | _ => exact hr₂.elim
    | _ => exact hr.elim
end
end Mine
end
set_option maxHeartbeats 4000000
/- part Ms2 -/
section
namespace Mine
section
variable {prog : Program} {w : World} {A : Around} {E : Value → Shared → Prop} {s : Shared}

/-- the set's object holds what S says -/
def OptSet (prog : Program) (w : World) (S : Option Int → Bool) (n : Nat) (o : Obj) : Prop := o.SetObjOf (optKind prog w) S n

theorem setLen_of {S : Option Int → Bool} {n : Nat} {o : Obj} (h : OptSet prog w S n o) : SetLen n o := by
  obtain ⟨hex, es, ep, t, hd, _, _, hn, hf⟩ := h
  exact ⟨es, ep, t, hex, hd, hf, hn⟩

theorem add_opt {base : Heap} {S : Addr} {F : Option Int → Bool} {n : Nat} {k : Option Int} {x : Value} {O : Obj → Prop} (hk : isOpt k x = true) (hsc : x.scannable = true) (hO : ∀ o, O o → OptSet prog w F n o) (hb : n + 1 < 4096) :
    AddStep prog w base A S x O (OptSet prog w (fun k' => F k' || decide (k' = k)) (if F k then n else n + 1)) := by
  intro E s Q o st hS ho hOo h
  unfold setAdd
  refine wpAny_holding (wpAny_bind ((optKind prog w).pyHash (k := k) hk ?_))
  refine wpAny_setAddHashed_of (knd := optKind prog w) (s := { s with toks := s.toks + 1 }) hk hsc ((hO o hOo).setOf ho (by unfold scanBound; omega)) (by unfold scanBound; omega) fun h' hsb hS2 => ?_
  obtain ⟨o', ho', hso⟩ := hS2.objOf
  exact h _ h' _ o' ho' hso hsb

theorem call_len_setLen {a : Addr} {n : Nat} {o : Obj} {Q : Value → Shared → Prop} (ho : s.heap.get? a = some o) (hl : SetLen n o) (hn : (n : Int) < 2 ^ 63)
    (h : Q (.int n (s.toks + 1)) { s with toks := s.toks + 1 + 1 }) : wpAny (model prog w) A (call (.builtin "len") [.ref a]) Q E s := by
  obtain ⟨es, ep, t, hex, hd, hf, rfl⟩ := hl
  exact call_len_set ho hex hd hf hn h

/-- set((a, b)) of ints and None: its length tells whether they are the same -/
theorem set_pair_opt {l : Addr} {a b : Value} {i j : Option Int} {Q : Value → Shared → Prop} (hh : A.handled = none) (hl : s.heap.IsTuple l #[a, b]) (ha : isOpt i a = true) (hb : isOpt j b = true)
    (h : ∀ h' tk o', s.heap.StaysIn h' → h'.get? s.heap.objs.size = some o' → SetLen (if i = j then 1 else 2) o' → Q (.ref s.heap.objs.size) { s with heap := h', toks := tk }) :
    wpAny (model prog w) A (call (.type "set") [.ref l]) Q E s := by
  have sc : ∀ {k : Option Int} {v : Value}, isOpt k v = true → v.scannable = true := fun q => by
    rcases isOpt_shape q with ⟨i, t, rfl, rfl⟩ | ⟨rfl, rfl⟩ <;> rfl
  refine call_set_pair (O1 := OptSet prog w (fun k' => false || decide (k' = i)) (if false then 0 else 0 + 1)) (O2 := OptSet prog w (fun k' => (false || decide (k' = i)) || decide (k' = j)) (if (false || decide (j = i)) then (if false then 0 else 0 + 1) else (if false then 0 else 0 + 1) + 1)) hh hl
    (fun A' _ => add_opt (F := fun _ => false) (n := 0) ha (sc ha) (fun o ho => by obtain ⟨led, rfl⟩ := ho; exact setObjOf_fresh led) (by decide))
    (fun A' _ => add_opt (F := fun k' => false || decide (k' = i)) hb (sc hb) (fun o ho => ho) (by decide)) fun h' tk o' st ho' hO' => h h' tk o' st ho' ?_
  have := setLen_of hO'
  by_cases e : i = j
  · subst e; simpa using this
  · have e' : ¬ j = i := fun q => e q.symm
    simpa [e, e'] using this

/-! a set of two tuples of ints -/
abbrev tupK (prog : Program) (w : World) := tupleKind (intKind prog w)

theorem hashByValue_tuple {ks : List Int} {a : Addr} {Q : Bool → Shared → Prop} (hk : IsTupleKey (intKind prog w) s.heap ks a) (h : Q true s) : wpAny (model prog w) A (hashByValue 8 (.ref a)) Q E s := by
  have hT := hk.typeIs
  obtain ⟨o, items, n, ho, _, hd, hi⟩ := hk
  unfold hashByValue
  refine wpAny_bind (wpAny_specialOf hT F.slot_tuple_hash.lookup ?_)
  dsimp only
  refine wpAny_bind (wpAny_seqItems ho hd ?_)
  refine wpAny_bind ?_
  show wpAny _ _ (forIn items _ _) _ _ s
  rw [← Array.forIn_toList]
  refine wpAny_forIn_list _ (fun rest r s' => r.1 = none ∧ s' = s ∧ ∀ v ∈ rest, ∃ i t, v = .int i t) _ ?_ ?_ _ _ ⟨rfl, rfl, ?_⟩
  · rintro v rest r s' ⟨hr, rfl, hall⟩
    obtain ⟨i, t, rfl⟩ := hall v List.mem_cons_self
    have e : hashByValue 7 (.int i t) = pure true := by simp [hashByValue]
    rw [e]
    refine wpAny_bind (wpAny_pure ?_)
    simp only [Bool.not_true, Bool.false_eq_true, if_false]
    exact wpAny_pure ⟨rfl, rfl, fun u hu' => hall u (List.mem_cons_of_mem _ hu')⟩
  · rintro ⟨r1, r2⟩ s' ⟨hr, rfl, _⟩
    simp only at hr
    subst hr
    exact wpAny_pure h
  · intro v hv
    clear ho hd
    generalize items.toList = its at hi hv
    induction hi with
    | nil => cases hv
    | cons h1 _ ih =>
      rcases List.mem_cons.mp hv with rfl | hv
      · obtain ⟨t, rfl⟩ := Value.isInt_shape h1; exact ⟨_, _, rfl⟩
      · exact ih hv

theorem notOfAClass_tuple {ks : List Int} {a : Addr} {Q : Bool → Shared → Prop} (hk : IsTupleKey (intKind prog w) s.heap ks a) (h : Q false s) : wpAny (model prog w) A (ofAClassStatement 8 (.ref a)) Q E s := by
  have hT := hk.typeIs
  obtain ⟨o, items, n, ho, hc, hd, hi⟩ := hk
  unfold ofAClassStatement
  refine wpAny_bind (wpAny_typeOf hT ?_)
  dsimp only
  refine wpAny_bind (wpAny_pure ?_)
  simp only [Bool.not_true, Bool.false_eq_true, if_false]
  refine wpAny_bind (wpAny_seqItems ho hd ?_)
  dsimp only
  refine wpAny_bind ?_
  show wpAny _ _ (forIn items _ _) _ _ s
  rw [← Array.forIn_toList]
  refine wpAny_forIn_list _ (fun rest r s' => r.1 = none ∧ s' = s ∧ ∀ v ∈ rest, ∃ i t, v = .int i t) _ ?_ ?_ _ _ ⟨rfl, rfl, ?_⟩
  · rintro v rest r s' ⟨hr, rfl, hall⟩
    obtain ⟨i, t, rfl⟩ := hall v List.mem_cons_self
    have e : ofAClassStatement 7 (.int i t) = pure false := by simp [ofAClassStatement]
    rw [e]
    refine wpAny_bind (wpAny_pure ?_)
    simp only [Bool.false_eq_true, if_false]
    exact wpAny_pure ⟨rfl, rfl, fun u hu' => hall u (List.mem_cons_of_mem _ hu')⟩
  · rintro ⟨r1, r2⟩ s' ⟨hr, rfl, _⟩
    simp only at hr
    subst hr
    exact wpAny_pure h
  · intro v hv
    clear ho hd
    generalize items.toList = its at hi hv
    induction hi with
    | nil => cases hv
    | cons h1 _ ih =>
      rcases List.mem_cons.mp hv with rfl | hv
      · obtain ⟨t, rfl⟩ := Value.isInt_shape h1; exact ⟨_, _, rfl⟩
      · exact ih hv

/-- the table of one element at j -/
abbrev oneTab (led : Bool) (j : Nat) : SetTable := { mask := 7, place := #[j], dummies := #[], finger := 0, led, moves := 0, plain := true }
theorem slot_one (led : Bool) (j k : Nat) : (oneTab led j).slot k = if k = j then .live 0 else .empty := by
  have hb : SetTable.below #[j] k = if j < k then 1 else 0 := by
    show (SetTable.below.go #[j] k 1 0 1) = _
    unfold SetTable.below.go
    simp only [Nat.zero_lt_one, if_true]
    have : (0 + 1) / 2 = 0 := rfl
    rw [this]
    show (if (#[j] : Array Nat).getD 0 k < k then _ else _) = _
    simp only [SetTable.below.go]
    rfl
  unfold SetTable.slot
  have hd : SetTable.has (#[] : Array Nat) k = false := rfl
  simp only [hb, hd]
  by_cases h1 : k = j
  · subst h1; simp
  · by_cases h2 : j < k
    · simp [h1, h2]
    · simp [h1, h2, Ne.symm h1]

theorem adv_zero {led : Bool} {j : Nat} (p : SetTable.Probe) (hm : p.more = 0) : (oneTab led j).advance p = { j := (p.i * 5 + 1 + p.perturb / 32) % 8, more := 0, i := (p.i * 5 + 1 + p.perturb / 32) % 8, perturb := p.perturb / 32, dummy := p.dummy } := by
  unfold SetTable.advance
  rw [if_neg (by omega)]
  have e : SetTable.runEnd 7 ((p.i * 5 + 1 + p.perturb / 32) % (7 + 1)) = (p.i * 5 + 1 + p.perturb / 32) % (7 + 1) := by
    unfold SetTable.runEnd
    rw [if_neg (by omega)]
  show ({ j := (p.i * 5 + 1 + p.perturb / 32) % (7 + 1), more := SetTable.runEnd 7 ((p.i * 5 + 1 + p.perturb / 32) % (7 + 1)) - (p.i * 5 + 1 + p.perturb / 32) % (7 + 1), i := (p.i * 5 + 1 + p.perturb / 32) % (7 + 1), perturb := p.perturb / 32, dummy := p.dummy } : SetTable.Probe) = _
  rw [e, Nat.sub_self]

/-- unlike hashes: an empty slot is found -/
theorem probe_empty {led : Bool} {j : Nat} {g : Nat → Int} {h : Int} (hg : (g 0 == h) = false) : ∀ (n fuel : Nat) (p : SetTable.Probe), p.more = 0 → p.j = p.i → p.dummy = none → p.perturb < 32 ^ n → n + 2 ≤ fuel →
    ∃ k, SetTable.probe.go (oneTab led j) g h fuel p = some (.empty k none)
  | n, 0, p, _, _, _, _, hf => by omega
  | n, fuel + 1, p, hm, hj, hd, hp, hf => by
    unfold SetTable.probe.go
    rw [slot_one]
    by_cases e : p.j = j
    · rw [if_pos e]
      simp only [hg, Bool.false_eq_true, if_false]
      rw [adv_zero p hm]
      cases n with
      | zero =>
        have hp0 : p.perturb = 0 := by simpa using hp
        obtain ⟨fuel', rfl⟩ : ∃ f, fuel = f + 1 := ⟨fuel - 1, by omega⟩
        unfold SetTable.probe.go
        rw [slot_one]
        rw [if_neg (by simp only [hp0]; omega)]
        exact ⟨_, by dsimp only; rw [hd]⟩
      | succ n =>
        refine probe_empty hg n fuel _ rfl rfl hd ?_ (by omega)
        show p.perturb / 32 < 32 ^ n
        rw [Nat.pow_succ] at hp
        exact Nat.div_lt_of_lt_mul (by omega)
    · rw [if_neg e]
      exact ⟨_, by dsimp only; rw [hd]⟩

theorem probe_same {led : Bool} {j : Nat} {g : Nat → Int} {h : Int} (hg : (g 0 == h) = true) (fuel : Nat) (p : SetTable.Probe) :
    SetTable.probe.go (oneTab led j) g h (fuel + 1) p = if p.j = j then some (.candidate p.j 0 ((oneTab led j).advance p)) else some (.empty p.j p.dummy) := by
  unfold SetTable.probe.go
  rw [slot_one]
  by_cases e : p.j = j
  · rw [if_pos e, if_pos e]; simp only [hg, if_true]
  · rw [if_neg e, if_neg e]

theorem bits_lt (h : Int) : SetTable.bits h < 32 ^ 13 := by
  unfold SetTable.bits
  have h1 := Int.emod_lt_of_pos h (show (0 : Int) < 2 ^ 64 by decide)
  have h2 := Int.emod_nonneg h (show (2 ^ 64 : Int) ≠ 0 by decide)
  have : (32 ^ 13 : Nat) = 36893488147419103232 := by decide
  omega
end
end Mine
end
set_option maxHeartbeats 4000000
/- part Ms3 -/
section
namespace Mine
section
variable {prog : Program} {w : World} {A : Around} {E : Value → Shared → Prop} {s : Shared}

abbrev oneSet (led : Bool) (h : Int) (a : Addr) (ep : Nat) : Obj := { cls := .type "set", dict := none, data := .set #[(h, .ref a)] ep (oneTab led (SetTable.bits h % 8)) }
def IsOne (h : Int) (a : Addr) (o : Obj) : Prop := ∃ led ep, o = oneSet led h a ep

theorem state_one {S : Addr} {led : Bool} {h : Int} {a : Addr} {ep : Nat} {Q : (Array (Int × Value) × Nat × SetTable) → Shared → Prop} (ho : s.heap.get? S = some (oneSet led h a ep))
    (q : Q (#[(h, .ref a)], ep, oneTab led (SetTable.bits h % 8)) s) : wpAny (model prog w) A (setState S) Q E s := wpAny_setState_of ho rfl rfl q

theorem seen_false {a b : Addr} {xs ys : List Int} {Q : Bool → Shared → Prop} (ha : IsTupleKey (intKind prog w) s.heap xs a) (hb : IsTupleKey (intKind prog w) s.heap ys b) (h : Q false s) :
    wpAny (model prog w) A (searchCouldBeSeen (.ref a) [.ref b]) Q E s := by
  unfold searchCouldBeSeen
  refine wpAny_bind ?_
  refine wpAny_forIn_list _ (fun rest r s' => r.1 = none ∧ s' = s ∧ ∀ v ∈ rest, v = .ref b) _ ?_ ?_ _ _ ⟨rfl, rfl, by simp⟩
  · rintro v rest r s' ⟨hr, rfl, hall⟩
    obtain rfl := hall v List.mem_cons_self
    have hrest : ∀ v ∈ rest, v = .ref b := fun u hu => hall u (List.mem_cons_of_mem _ hu)
    dsimp only
    by_cases hab : (a == b) = true
    · simp only [hab, Bool.true_or, if_true]
      exact wpAny_pure ⟨rfl, rfl, hrest⟩
    · rw [Bool.not_eq_true] at hab
      have hc : (carriedByValue (.ref a) && carriedByValue (.ref b)) = false := rfl
      simp only [hab, hc, Bool.or_self, Bool.false_eq_true, if_false]
      refine wpAny_bind ((tupK prog w).quiet ha ?_)
      simp only [Bool.not_true, Bool.false_eq_true, if_false]
      refine wpAny_bind ((tupK prog w).quiet hb ?_)
      simp only [Bool.not_true, Bool.false_eq_true, if_false]
      refine wpAny_bind (notOfAClass_tuple ha ?_)
      simp only [Bool.false_eq_true, if_false]
      refine wpAny_bind (notOfAClass_tuple hb ?_)
      simp only [Bool.false_eq_true, if_false]
      exact wpAny_pure ⟨rfl, rfl, hrest⟩
  · rintro ⟨r1, r2⟩ s' ⟨hr, rfl, _⟩
    simp only at hr
    subst hr
    exact wpAny_pure h


theorem probe_at {led : Bool} {h : Int} {a : Addr} {st : Option SetTable.Probe} (p : SetTable.Probe) (hst : st.getD ((oneTab led (SetTable.bits h % 8)).probeStart h) = p) :
    (oneTab led (SetTable.bits h % 8)).probe (fun i => ((#[(h, Value.ref a)] : Array (Int × Value))[i]?.map (·.1)).getD 0) h (st.getD ((oneTab led (SetTable.bits h % 8)).probeStart h)) =
        if p.j = SetTable.bits h % 8 then some (.candidate p.j 0 ((oneTab led (SetTable.bits h % 8)).advance p)) else some (.empty p.j p.dummy) := by
  rw [hst]
  show SetTable.probe.go _ _ h (10 * SetTable.turns 7) p = _
  exact probe_same (by simp) 219 p
theorem tab_odd {led : Bool} {j : Nat} : (oneTab led j).gaveWay = false := by simp [SetTable.gaveWay]

theorem search_off {S a b : Addr} {led : Bool} {h : Int} {ep : Nat} {Q : SetFound → Shared → Prop} (ho : s.heap.get? S = some (oneSet led h a ep)) (fuel : Nat) {st : Option SetTable.Probe} (p : SetTable.Probe) (hst : st.getD ((oneTab led (SetTable.bits h % 8)).probeStart h) = p) (hd : p.dummy = none) (e : p.j ≠ SetTable.bits h % 8)
    (hQ : ∀ k, Q (.free k false) s) : wpAny (model prog w) A (setSearchFrom S (.ref b) h true (fuel + 1) st) Q E s := by
  unfold setSearchFrom
  refine wpAny_bind (state_one ho ?_)
  dsimp only
  rw [tab_odd]
  simp only [Bool.false_eq_true, if_false]
  show wpAny _ _ (match (oneTab led (SetTable.bits h % 8)).probe (fun i => ((#[(h, Value.ref a)] : Array (Int × Value))[i]?.map (·.1)).getD 0) h (st.getD ((oneTab led (SetTable.bits h % 8)).probeStart h)) with
    | some met => _
    | _ => _) _ _ _
  rw [probe_at p hst, if_neg e]
  dsimp only
  rw [hd]
  exact wpAny_pure (hQ _)

theorem search_hit {S a b : Addr} {led : Bool} {h : Int} {ep : Nat} {xs ys : List Int} {Q : SetFound → Shared → Prop} (hu : A.units < cLine) (ho : s.heap.get? S = some (oneSet led h a ep))
    (ha : IsTupleKey (intKind prog w) s.heap xs a) (hb : IsTupleKey (intKind prog w) s.heap ys b) (fuel : Nat) {st : Option SetTable.Probe} (p : SetTable.Probe) (hst : st.getD ((oneTab led (SetTable.bits h % 8)).probeStart h) = p) (e : p.j = SetTable.bits h % 8)
    (h1 : xs = ys → Q (.there none) s) (h2 : xs ≠ ys → wpAny (model prog w) A (setSearchFrom S (.ref b) h true fuel (some ((oneTab led (SetTable.bits h % 8)).advance p))) Q E s) :
    wpAny (model prog w) A (setSearchFrom S (.ref b) h true (fuel + 1) st) Q E s := by
  unfold setSearchFrom
  refine wpAny_bind (state_one ho ?_)
  dsimp only
  rw [tab_odd]
  simp only [Bool.false_eq_true, if_false]
  show wpAny _ _ (match (oneTab led (SetTable.bits h % 8)).probe (fun i => ((#[(h, Value.ref a)] : Array (Int × Value))[i]?.map (·.1)).getD 0) h (st.getD ((oneTab led (SetTable.bits h % 8)).probeStart h)) with
    | some met => _
    | _ => _) _ _ _
  rw [probe_at p hst, if_pos e]
  dsimp only
  cases led with
  | false =>
    rw [if_pos (show (!false) = true from rfl)]
    refine wpAny_bind ?_
    have ef : (Array.filter (fun x : Int × Value => x.fst == h) #[(h, Value.ref a)]).toList.map (fun x => x.snd) = [.ref a] := by simp
    rw [ef]
    refine seen_false hb ha ?_
    simp only [Bool.false_eq_true, if_false]
    show wpAny _ _ (holding [Value.ref a] (eqBool (Value.ref a) (.ref b)) >>= _) _ _ _
    refine wpAny_bind (wpAny_holding (wpAny_eqBool_tuple hu ha hb ?_))
    refine wpAny_bind (state_one ho ?_)
    by_cases hxy : xs = ys
    · rw [decide_eq_true hxy, if_pos (by rfl)]
      exact wpAny_pure (h1 hxy)
    · rw [decide_eq_false hxy, if_neg (by decide)]
      dsimp only
      rw [show (oneTab false (SetTable.bits h % 8)).sameMemory 0 7 = some true from rfl]
      dsimp only
      rw [if_pos rfl, slot_one, if_pos e]
      dsimp only
      show wpAny _ _ (isSame (.ref a) (.ref a) >>= _) _ _ _
      refine wpAny_bind (wpAny_isSame_ref_self ?_)
      rw [if_pos rfl]
      refine wpAny_bind (wpAny_pure ?_)
      dsimp only
      rw [if_neg (by decide)]
      exact h2 hxy
  | true =>
    rw [if_neg (by decide)]
    show wpAny _ _ (holding [Value.ref a] (eqBool (Value.ref a) (.ref b)) >>= _) _ _ _
    refine wpAny_bind (wpAny_holding (wpAny_eqBool_tuple hu ha hb ?_))
    refine wpAny_bind (state_one ho ?_)
    by_cases hxy : xs = ys
    · rw [decide_eq_true hxy, if_pos (by rfl)]
      exact wpAny_pure (h1 hxy)
    · rw [decide_eq_false hxy, if_neg (by decide)]
      dsimp only
      rw [show (oneTab true (SetTable.bits h % 8)).sameMemory 0 7 = some true from rfl]
      dsimp only
      rw [if_pos rfl, slot_one, if_pos e]
      dsimp only
      show wpAny _ _ (isSame (.ref a) (.ref a) >>= _) _ _ _
      refine wpAny_bind (wpAny_isSame_ref_self ?_)
      rw [if_pos rfl]
      refine wpAny_bind (wpAny_pure ?_)
      dsimp only
      rw [if_neg (by decide)]
      exact h2 hxy

/-- the search for a tuple in a set of one tuple of the same hash -/
theorem search_on {S a b : Addr} {led : Bool} {h : Int} {ep : Nat} {xs ys : List Int} {Q : SetFound → Shared → Prop} (hu : A.units < cLine) (ho : s.heap.get? S = some (oneSet led h a ep))
    (ha : IsTupleKey (intKind prog w) s.heap xs a) (hb : IsTupleKey (intKind prog w) s.heap ys b) (h1 : xs = ys → Q (.there none) s) (h2 : xs ≠ ys → ∀ k, Q (.free k false) s) :
    ∀ (n fuel : Nat) (p : SetTable.Probe), p.more = 0 → p.j = p.i → p.dummy = none → p.perturb < 32 ^ n → n + 2 ≤ fuel → (xs = ys → p.j = SetTable.bits h % 8) → wpAny (model prog w) A (setSearchFrom S (.ref b) h true fuel (some p)) Q E s
  | n, 0, p, _, _, _, _, hf, _ => by omega
  | n, fuel + 1, p, hm, hj, hd, hp, hf, hs => by
    by_cases e : p.j = SetTable.bits h % 8
    · refine search_hit hu ho ha hb fuel p rfl e h1 fun hne => ?_
      rw [adv_zero p hm]
      cases n with
      | zero =>
        have hp0 : p.perturb = 0 := by simpa using hp
        obtain ⟨fuel', rfl⟩ : ∃ f, fuel = f + 1 := ⟨fuel - 1, by omega⟩
        exact search_off ho fuel' _ rfl hd (by show (p.i * 5 + 1 + p.perturb / 32) % 8 ≠ _; rw [hp0]; omega) (h2 hne)
      | succ n =>
        refine search_on hu ho ha hb h1 h2 n fuel _ rfl rfl hd ?_ (by omega) fun q => absurd q hne
        show p.perturb / 32 < 32 ^ n
        rw [Nat.pow_succ] at hp
        exact Nat.div_lt_of_lt_mul (by omega)
    · exact search_off ho fuel p rfl hd e (h2 fun q => e (hs q))

theorem search_same {S a b : Addr} {led : Bool} {h : Int} {ep : Nat} {xs ys : List Int} {Q : SetFound → Shared → Prop} (hu : A.units < cLine) (ho : s.heap.get? S = some (oneSet led h a ep))
    (ha : IsTupleKey (intKind prog w) s.heap xs a) (hb : IsTupleKey (intKind prog w) s.heap ys b) (h1 : xs = ys → Q (.there none) s) (h2 : xs ≠ ys → ∀ k, Q (.free k false) s) :
    wpAny (model prog w) A (setSearch S (.ref b) h true) Q E s := by
  have hm : ((oneTab led (SetTable.bits h % 8)).probeStart h).more = 0 := by
    simp only [SetTable.probeStart, SetTable.runEnd]
    rw [if_neg (by omega)]
    omega
  show wpAny _ _ (setSearchFrom S (.ref b) h true (99999 + 1) none) _ _ _
  refine search_hit hu ho ha hb 99999 ((oneTab led (SetTable.bits h % 8)).probeStart h) rfl rfl h1 fun hne => ?_
  rw [adv_zero _ hm]
  refine search_on hu ho ha hb h1 h2 13 99999 _ rfl rfl rfl ?_ (by omega) fun q => absurd q hne
  exact Nat.lt_of_le_of_lt (Nat.div_le_self _ _) (bits_lt h)

theorem search_other {S a b : Addr} {led : Bool} {h h' : Int} {ep : Nat} {Q : SetFound → Shared → Prop} (ho : s.heap.get? S = some (oneSet led h a ep)) (hne : h ≠ h') (h2 : ∀ k, Q (.free k false) s) :
    wpAny (model prog w) A (setSearch S (.ref b) h' true) Q E s := by
  unfold setSearch setSearchFrom
  refine wpAny_bind (state_one ho ?_)
  dsimp only
  rw [tab_odd]
  simp only [Bool.false_eq_true, if_false]
  have hm : ((oneTab led (SetTable.bits h % 8)).probeStart h').more = 0 := by
    simp only [SetTable.probeStart, SetTable.runEnd]
    rw [if_neg (by omega)]
    omega
  obtain ⟨k, hk⟩ := probe_empty (led := led) (j := SetTable.bits h % 8) (g := fun i => ((#[(h, Value.ref a)] : Array (Int × Value))[i]?.map (·.1)).getD 0) (h := h') (by simpa using hne) 13 220 ((oneTab led (SetTable.bits h % 8)).probeStart h')
    hm rfl rfl (bits_lt h') (by omega)
  show wpAny _ _ (match SetTable.probe.go (oneTab led (SetTable.bits h % 8)) (fun i => ((#[(h, Value.ref a)] : Array (Int × Value))[i]?.map (·.1)).getD 0) h' 220 ((oneTab led (SetTable.bits h % 8)).probeStart h') with
    | some met => _
    | _ => _) _ _ _
  rw [hk]
  dsimp only
  exact wpAny_pure (h2 k)

theorem search_fresh {S b : Addr} {led : Bool} {h' : Int} {Q : SetFound → Shared → Prop} (ho : s.heap.get? S = some (freshSet led)) (h2 : Q (.free (SetTable.bits h' % 8) false) s) :
    wpAny (model prog w) A (setSearch S (.ref b) h' true) Q E s := by
  unfold setSearch setSearchFrom
  refine wpAny_bind (wpAny_setState_of ho rfl rfl ?_)
  dsimp only
  rw [show (SetTable.fresh 0 0 led).gaveWay = false from by simp [SetTable.gaveWay, SetTable.fresh]]
  simp only [Bool.false_eq_true, if_false]
  have hpr : ∀ g, (SetTable.fresh 0 0 led).probe g h' (none.getD ((SetTable.fresh 0 0 led).probeStart h')) = some (.empty (SetTable.bits h' % 8) none) := fun g => by
    show SetTable.probe.go _ g h' (219 + 1) _ = _
    unfold SetTable.probe.go
    have hs : ∀ k, (SetTable.fresh 0 0 led).slot k = .empty := fun k => by rfl
    rw [hs]
    rfl
  rw [hpr]
  exact wpAny_pure h2
end
end Mine
end
set_option maxHeartbeats 4000000
/- part Ms4 -/
section
namespace Mine
section
variable {prog : Program} {w : World} {A : Around} {E : Value → Shared → Prop} {s : Shared}

theorem put_fresh (led : Bool) (j : Nat) : (SetTable.fresh 0 0 led).put j = (oneTab led j, 0) := by
  unfold SetTable.put SetTable.fresh
  simp [SetTable.below, SetTable.below.go, SetTable.insertAt, SetTable.has]
theorem insert_size {α : Type} (xs : Array α) (p : Nat) (x : α) : (SetTable.insertAt xs p x).size = xs.size + 1 := by
  rw [← Array.length_toList, SetTable.toList_insertAt, List.length_append, List.length_cons, List.length_take, List.length_drop, Array.length_toList]
  omega
theorem put_one (led : Bool) (j k : Nat) : (((oneTab led j).put k).1.fits 2 = true ∧ ((oneTab led j).put k).1.tooFull = false) ∧ ((oneTab led j).put k).1.plain = true := by
  unfold SetTable.put
  have hh : SetTable.has (#[] : Array Nat) k = false := by simp [SetTable.has, SetTable.below, SetTable.below.go]
  simp only [hh, Bool.false_eq_true, if_false, SetTable.fits, SetTable.tooFull, SetTable.fill, insert_size]
  simp

theorem store_set {a : Addr} {o : Obj} {es : Array (Int × Value)} {ep : Nat} {t : SetTable} {es' : Array (Int × Value)} {t' : SetTable} {Q : Unit → Shared → Prop} (ho : s.heap.get? a = some o) (hd : o.data = .set es ep t)
    (h : Q () { s with heap := s.heap.update a (Obj.putSet es' t') }) (hsz : es'.size ≤ sizeLine) : wpAny (model prog w) A (storeSet a es' t') Q E s := wpAny_storeSet_of ho hd h hsz

theorem add_first {base : Heap} {S a : Addr} {xs : List Int} (hu : A.units < cLine) (ha : IsTupleKey (intKind prog w) base xs a) : AddStep prog w base A S (.ref a) IsFresh (IsOne (tupleKeyHash (intKind prog w) xs) a) := by
  intro E s Q o st hS ho hOo h
  obtain ⟨led, rfl⟩ := hOo
  have up : ∀ {h' : Heap}, base.StaysIn h' → IsTupleKey (intKind prog w) h' xs a := fun k => let ⟨o, its, n, e, r⟩ := ha; ⟨o, its, n, k _ _ e, r⟩
  have stS : ∀ {h h' : Heap}, base.StaysIn h → Heap.SameBut S h h' → base.StaysIn h' := fun k hs b o e => (hs.2 b fun q => by rw [q, hS] at e; cases e).trans (k b o e)
  unfold setAdd
  refine wpAny_holding (wpAny_bind (wpAny_pyHash_tuple hu (up st) ?_))
  unfold setAddHashed setAddHashedIn
  refine wpAny_holding (wpAny_bind (wpAny_setState_of (s := { s with toks := s.toks + (xs.length + 1) }) ho rfl rfl ?_))
  dsimp only
  have hb : byScan (.ref a) #[] = false := rfl
  rw [hb]
  simp only [Bool.false_eq_true, if_false]
  refine wpAny_bind (search_fresh (s := { s with toks := s.toks + (xs.length + 1) }) ho ?_)
  dsimp only
  refine wpAny_bind (wpAny_setState_of (s := { s with toks := s.toks + (xs.length + 1) }) ho rfl rfl ?_)
  dsimp only
  rw [put_fresh]
  dsimp only
  simp only [if_true]
  refine wpAny_bind (hashByValue_tuple (s := { s with toks := s.toks + (xs.length + 1) }) (up st) ?_)
  simp only [if_true]
  refine wpAny_bind (store_set (s := { s with toks := s.toks + (xs.length + 1) }) ho rfl ?_ (by simp [insert_size, sizeLine]))
  have ht : (!false && (oneTab led (SetTable.bits (tupleKeyHash (intKind prog w) xs) % 8)).tooFull) = false := by simp [SetTable.tooFull, SetTable.fill]
  rw [ht]
  simp only [Bool.false_eq_true, if_false]
  refine wpAny_pure ?_
  refine h true _ _ (oneSet led (tupleKeyHash (intKind prog w) xs) a 1) ?_ ⟨led, 1, rfl⟩ (Heap.SameBut.update _ _ _)
  have he : Obj.putSet (SetTable.insertAt #[] 0 (tupleKeyHash (intKind prog w) xs, Value.ref a)) (oneTab led (SetTable.bits (tupleKeyHash (intKind prog w) xs) % 8)) (freshSet led) = oneSet led (tupleKeyHash (intKind prog w) xs) a 1 := by
    simp [Obj.putSet, SetTable.insertAt]
  rw [← he]
  exact Heap.get?_update_self _ ho (by rw [he]; rfl)

theorem add_second {base : Heap} {S a b : Addr} {xs ys : List Int} (hu : A.units < cLine) (ha : IsTupleKey (intKind prog w) base xs a) (hb : IsTupleKey (intKind prog w) base ys b) :
    AddStep prog w base A S (.ref b) (IsOne (tupleKeyHash (intKind prog w) xs) a) (SetLen (if xs = ys then 1 else 2)) := by
  intro E s Q o st hS ho hOo h
  obtain ⟨led, ep, rfl⟩ := hOo
  have upa : ∀ {h' : Heap}, base.StaysIn h' → IsTupleKey (intKind prog w) h' xs a := fun k => let ⟨o, its, n, e, r⟩ := ha; ⟨o, its, n, k _ _ e, r⟩
  have upb : ∀ {h' : Heap}, base.StaysIn h' → IsTupleKey (intKind prog w) h' ys b := fun k => let ⟨o, its, n, e, r⟩ := hb; ⟨o, its, n, k _ _ e, r⟩
  unfold setAdd
  refine wpAny_holding (wpAny_bind (wpAny_pyHash_tuple hu (upb st) ?_))
  unfold setAddHashed setAddHashedIn
  refine wpAny_holding (wpAny_bind (wpAny_setState_of (s := { s with toks := s.toks + (ys.length + 1) }) ho rfl rfl ?_))
  dsimp only
  have hbs : byScan (.ref b) #[(tupleKeyHash (intKind prog w) xs, Value.ref a)] = false := rfl
  rw [hbs]
  simp only [Bool.false_eq_true, if_false]
  have free : xs ≠ ys → ∀ k, wpAny (model prog w) A (match SetFound.free k false with
      | .free slot wasDummy => do
        let __x ← setState S
        match __x with
        | (es, fst, t) =>
          match t.put slot with
          | (t, p) => do
            let byValue ← if t.plain = true then hashByValue 8 (.ref b) else pure true
            storeSet S (SetTable.insertAt es p (tupleKeyHash (intKind prog w) ys, .ref b)) (if byValue = true then t else { t with plain := false })
            if (!wasDummy && (if byValue = true then t else { t with plain := false }).tooFull) = true then do
              setRelay S (SetTable.grown (es.size + 1))
              pure true
            else pure true
      | x => pure false) Q E { s with toks := s.toks + (ys.length + 1) } := fun hne k => by
    dsimp only
    refine wpAny_bind (wpAny_setState_of (s := { s with toks := s.toks + (ys.length + 1) }) ho rfl rfl ?_)
    dsimp only
    obtain ⟨⟨f1, f2⟩, f3⟩ := put_one led (SetTable.bits (tupleKeyHash (intKind prog w) xs) % 8) k
    generalize (oneTab led (SetTable.bits (tupleKeyHash (intKind prog w) xs) % 8)).put k = tp at f1 f2 f3 ⊢
    obtain ⟨t, p⟩ := tp
    dsimp only at f1 f2 f3 ⊢
    rw [f3]
    simp only [if_true]
    refine wpAny_bind (hashByValue_tuple (s := { s with toks := s.toks + (ys.length + 1) }) (upb st) ?_)
    simp only [if_true]
    refine wpAny_bind (store_set (s := { s with toks := s.toks + (ys.length + 1) }) ho rfl ?_ (by simp [insert_size, sizeLine]))
    rw [f2]
    simp only [Bool.and_false, Bool.false_eq_true, if_false]
    refine wpAny_pure ?_
    refine h true _ _ (Obj.putSet (SetTable.insertAt #[(tupleKeyHash (intKind prog w) xs, Value.ref a)] p (tupleKeyHash (intKind prog w) ys, Value.ref b)) t (oneSet led (tupleKeyHash (intKind prog w) xs) a ep)) ?_ ?_ (Heap.SameBut.update _ _ _)
    · exact Heap.get?_update_self _ ho rfl
    · rw [if_neg hne]
      exact ⟨_, _, _, ⟨rfl, rfl, rfl⟩, rfl, by rw [insert_size]; exact f1, by rw [insert_size]; rfl⟩
  have there : xs = ys → Q false { s with toks := s.toks + (ys.length + 1) } := fun he => by
    have := h false s.heap (s.toks + (ys.length + 1)) _ ho (by rw [if_pos he]; exact ⟨_, _, _, ⟨rfl, rfl, rfl⟩, rfl, by simp [SetTable.fits, SetTable.fill], rfl⟩) (Heap.SameBut.refl _ _)
    exact this
  refine wpAny_bind ?_
  by_cases hh : tupleKeyHash (intKind prog w) xs = tupleKeyHash (intKind prog w) ys
  · rw [← hh]
    rw [← hh] at free
    exact search_same (s := { s with toks := s.toks + (ys.length + 1) }) hu ho (upa st) (upb st) (fun he => wpAny_pure (there he)) fun hne k => free hne k
  · exact search_other (s := { s with toks := s.toks + (ys.length + 1) }) ho hh fun k => free (fun e => hh (by rw [e])) k

/-- set((one, two)) of two tuples of ints -/
theorem set_pair_tup {l a b : Addr} {xs ys : List Int} {Q : Value → Shared → Prop} (hh : A.handled = none) (hu : A.units + 8 < cLine) (hl : s.heap.IsTuple l #[.ref a, .ref b]) (ha : IsTupleKey (intKind prog w) s.heap xs a) (hb : IsTupleKey (intKind prog w) s.heap ys b)
    (h : ∀ h' tk o', s.heap.StaysIn h' → h'.get? s.heap.objs.size = some o' → SetLen (if xs = ys then 1 else 2) o' → Q (.ref s.heap.objs.size) { s with heap := h', toks := tk }) :
    wpAny (model prog w) A (call (.type "set") [.ref l]) Q E s :=
  call_set_pair hh hl (fun A' hA => add_first (by omega) ha) (fun A' hA => add_second (by omega) ha hb) h
end
end Mine
end
set_option maxHeartbeats 4000000
/- part Mc1 -/
section
namespace Mine
theorem fillMc1 : (PySem.Challenge.rw_br0041_01 = PySem.Challenge.rw_br0041_01 ∧ hd.heap_39 = hd.heap_39) := by
  k_fill
  exact ⟨rfl, rfl⟩
section
variable {prog : Program} {w : World} {A : Around} {s : Shared} {p : Program} {loose : List Str} {mean : ExcName → Option Value} {mg mb : Str → Option Value} {g : Heap}

theorem ident_with {x y : Value} {n : Nat} (O : On w p loose mean mg mb g s.heap) (H : Room A 1 20) (hn : n ≤ 2)
    (hset : ∀ (A' : Around) (s' : Shared) (l : Addr) (E : Value → Shared → Prop) (Q : Value → Shared → Prop), A'.handled = none → A'.units + 8 < cLine → g.StaysIn s'.heap → s'.heap.IsTuple l #[x, y] →
      (∀ h' tk o', s'.heap.StaysIn h' → h'.get? s'.heap.objs.size = some o' → SetLen n o' → Q (.ref s'.heap.objs.size) { s' with heap := h', toks := tk }) →
      wpAny (model prog w) A' (call (.type "set") [.ref l]) Q E s') :
    Pays prog w A (.call (.ref 157) ⟨[x, y], []⟩) s (fun v _ => v = .bool (decide (n = 1))) := by
  w_on
  intro R hR
  refine' enterRG [] (vs := [x, y]) (bindsR := fun D => [(Str.ofString "elements", .ref D)]) O ?hg ?hown ?ho ?hcd ?hroom ?hv ?hp ?hgr ?hl ?body ?hcell ?c1 ?c2 ?c3
  (case hg => exact fun _ h => nomatch h)
  (case hown => exact fun _ h => nomatch h)
  (case ho => k_is)
  (case hcd => k_is)
  (case hroom => have := Room.dp (by assumption); omega)
  (case hl => exact fun _ => locs rfl)
  (case hcell => decide)
  (case c1 => exact rfl)
  (case c2 => exact rfl)
  (case c3 => exact rfl)
  (case hv => exact rfl)
  (case hp => exact rfl)
  (case hgr => exact fun _ => rfl)
  intro D h₀ L h₁ gst X T back F N l1
  (try k_lt l1)
  (try k_fold)
  k_steps
  refine hset _ _ _ _ _ H.hh (by have := H.un; simp; omega) (fun b o e => F.keep b o (gst b o e)) ⟨_, (N _ (.head _)).1, rfl, _, rfl⟩ ?_
  intro h₂ tk o₂ st ho₂ hl₂
  have F2 := fr_stay F st
  have N2 := news_stay N st
  clear F N
  dsimp only at st ho₂ ⊢
  k_steps
  refine call_len_setLen ho₂ hl₂ (by omega) ?_
  k_steps
  refine hR _ _ _ (back.keep _ F2.keep fun _ h => nomatch h) ?_
  show _ = _
  rw [Value.bool.injEq, Bool.eq_iff_iff, beq_iff_eq, decide_eq_true_eq]
  omega

theorem ident_opt {x y : Value} {i j : Option Int} (hx : isOpt i x = true) (hy : isOpt j y = true) (O : On w p loose mean mg mb g s.heap) (H : Room A 1 20) :
    Pays prog w A (.call (.ref 157) ⟨[x, y], []⟩) s (fun v _ => v = .bool (decide (i = j))) := by
  intro R hR
  refine ident_with (n := if i = j then 1 else 2) O H (by split <;> omega) (fun A' s' l E Q h1 h2 st hl q => set_pair_opt h1 hl hx hy q) R fun v h' tk st hv => hR v h' tk st ?_
  rw [hv]
  by_cases e : i = j <;> simp [e]
theorem ident_int {x y : Int} {t u : Tok} (O : On w p loose mean mg mb g s.heap) (H : Room A 1 20) :
    Pays prog w A (.call (.ref 157) ⟨[.int x t, .int y u], []⟩) s (fun v _ => v = .bool (decide (x = y))) := by
  intro R hR
  refine ident_opt (i := some x) (j := some y) (by simp [isOpt]) (by simp [isOpt]) O H R fun v h' tk st hv => hR v h' tk st ?_
  rw [hv]
  simp

theorem itemsAre_of {vs : List Value} {ns : List Int} (h : IntsAre vs ns) : ItemsAre (intKind prog w) ns vs := by
  induction h with
  | nil => exact .nil
  | cons n t _ ih => exact .cons (intKind_is _ _ _ _) ih
/-- a tuple of ints -/
def TupAt (h : Heap) (a : Addr) (ns : List Int) : Prop := ∃ vs, IsTup h a vs.toArray ∧ IntsAre vs ns ∧ ns.length ≤ 64
theorem TupAt.keeps {h h' : Heap} {a : Addr} {ns : List Int} (x : TupAt h a ns) (k : h.StaysIn h') : TupAt h' a ns := let ⟨vs, e, i⟩ := x; ⟨vs, e.keeps k, i⟩
theorem TupAt.key {h : Heap} {a : Addr} {ns : List Int} (x : TupAt h a ns) : IsTupleKey (intKind prog w) h ns a := let ⟨vs, ⟨o, ho, hc, n, hd⟩, i, _⟩ := x; ⟨o, vs.toArray, n, ho, hc, hd, by simpa using itemsAre_of i⟩
theorem TupAt.tup {h : Heap} {a : Addr} {ns : List Int} (x : TupAt h a ns) : ∃ items : Array Value, h.IsTuple a items ∧ items.size = ns.length ∧ items.size ≤ 64 ∧ items.isEmpty = decide (ns = []) := by
  obtain ⟨vs, e, i, z⟩ := x
  have hl : vs.length = ns.length := i.length
  refine ⟨vs.toArray, e, by simpa using hl, by simpa [hl] using z, ?_⟩
  cases vs <;> cases ns <;> simp_all

theorem ident_tup {a b : Addr} {ns ms : List Int} (ha : TupAt g a ns) (hb : TupAt g b ms) (O : On w p loose mean mg mb g s.heap) (H : Room A 1 20) :
    Pays prog w A (.call (.ref 157) ⟨[.ref a, .ref b], []⟩) s (fun v _ => v = .bool (decide (ns = ms))) := by
  intro R hR
  refine ident_with (n := if ns = ms then 1 else 2) O H (by split <;> omega) (fun A' s' l E Q h1 h2 st hl q => set_pair_tup h1 h2 hl (ha.keeps st).key (hb.keeps st).key q) R fun v h' tk st hv => hR v h' tk st ?_
  rw [hv]
  by_cases e : ns = ms <;> simp [e]
end
end Mine
end
set_option maxHeartbeats 4000000
/- part Mc2 -/
section
namespace Mine
theorem fillMc2 : (PySem.Challenge.rw_br0041_01 = PySem.Challenge.rw_br0041_01 ∧ hd.heap_39 = hd.heap_39) := by
  k_fill
  exact ⟨rfl, rfl⟩
section
variable {prog : Program} {w : World} {A : Around} {s : Shared} {p : Program} {loose : List Str} {mean : ExcName → Option Value} {mg mb : Str → Option Value} {g : Heap}

theorem makeG {C fI : Addr} {rest : List Value} {kw : List (Str × Value)} {R : Result → Shared → Prop} (O : On w p loose mean mg mb g s.heap) (hm : makesIn (hd.heap_39 w.params) C = true)
    (hi : findIn (hd.heap_39 w.params) (.ref C) "__init__" = some (some (.ref fI))) (hf : typeIn (hd.heap_39 w.params) (.ref fI) = some (.type "function"))
    (h : ∀ x dx h', s.heap.StaysIn h' → h'.get? x = some (instObj C dx) → h'.get? dx = some (dictOf [] 0) → s.heap.get? x = none → s.heap.get? dx = none → dx < x →
      codeAny (model prog w) (A.under (.builtin "type.__call__" ⟨.ref C :: rest, kw⟩)) (.call (.ref fI) ⟨.ref x :: rest, kw⟩) (InitBack x R) { s with heap := h' }) :
    codeAny (model prog w) A (.call (.ref C) ⟨rest, kw⟩) R s := by
  have X := O.k.keeps O.st
  obtain ⟨hh, gg, d, t, os⟩ := s
  have none_at : ∀ n, hh.objs.size ≤ n → hh.get? n = none := fun n hn => by
    cases q : hh.get? n with
    | none => rfl
    | some o => exact absurd (Heap.lt_size q) (Nat.not_lt.mpr hn)
  refine make_core (makes_of X hm) (looks_findIn X hi) (fun self => bind_fn X self hf) (.inl rfl) (h _ hh.objs.size _ (fun b o e => Heap.get?_push_of_some _ (Heap.get?_push_of_some _ e)) ?_ ?_ (none_at _ (Nat.le_succ _)) (none_at _ (Nat.le_refl _)) (Nat.lt_succ_self _))
  · have := Heap.get?_push_size (hh.push emptyDict) (o := instObj C hh.objs.size) rfl
    rwa [Heap.size_push] at this
  · exact Heap.get?_push_of_some _ (Heap.get?_push_size hh (o := emptyDict) rfl)

theorem attr_sm {K : Frag} {E : Value → Shared → Prop} {x C q L : Addr} {ox : Obj} {nm : Str} {h₀ : Heap} {m : Str → Option Value} {es : List DictEntry} {n : Nat} {expr : Bool} {Q : Value → Shared → Prop} {fv : Value} {rest : List Value}
    (F : Fr h₀ L s.heap m) (X₀ : K.In h₀) (I : InstAt s.heap x ox C (some (dictOf es n))) (hg : plainGet K C nm = true) (hh : hasDictIn K C = true) (ha : findIn K (.ref C) nm = some (some (.ref q)))
    (hgf : specialIn K (.ref q) "__get__" = some (some (.builtin "staticmethod.__get__"))) (hts : takesIn K (.ref q) = some false) (hc : copiedNames.contains nm = false) (hl : getL nm es = some none) (hp : recIn K q "staticmethod" = some (fv :: rest)) (hv : handedIn fv = true)
    (h : Q fv { s with toks := s.toks + 1 }) : wpAny (model prog w) A (getAttr (.ref x) nm expr) Q E s :=
  get_bind (X₀.keeps F.keep) I (plainGet_of hg).1 (findObj_fn hh ha hgf hts hc (by show lookIn nm (dictOf es n) = _; rw [lookIn_dict, hl])) (plainGet_of hg).2
    (wpAny_call (sm_get (s := { s with toks := s.toks + 1 }) (X₀.keeps F.keep) hp (handed_on hv h)))
local macro_rules | `(tactic| walk_at "last getAttr ref") => `(tactic| (k_here; k_dflt (refine' attr_sm ?k1 ?k2 ?k4 ?k5 ?k6 ?k7 ?k9 ?k10 ?k11 ?k12 ?k13 ?k14 ?_; (case k1 => k_asm); (case k2 => k_asm); (case k4 => k_inst); (case k5 => k_is); (case k6 => k_is); (case k7 => k_is); (case k9 => k_is); (case k10 => k_is); (case k11 => decide +kernel); (case k12 => k_get); (case k13 => k_is); (case k14 => k_handed); k_whole)))

theorem room_make {d u : Nat} (H : Room A (d + 1) (u + 1)) (C : Addr) (rest : List Value) (kw : List (Str × Value)) : Room (A.under (.builtin "type.__call__" ⟨.ref C :: rest, kw⟩)) d u := by
  refine ⟨H.hh, ?_, ?_⟩
  · show A.depth + 1 + d < recursionLimit
    have := H.dp; omega
  · show A.units + 1 + u < cLine
    have := H.un; omega


abbrev base329At (w : World) (t0 t1 : Tok) : List DictEntry := [⟨PyData.keyHash w.params (Str.ofString "qval"), .str (Str.ofString "qval") t0, .int 1 286⟩, ⟨PyData.keyHash w.params (Str.ofString "external"), .str (Str.ofString "external") t1, .bool true⟩]
theorem new_base329 (O : On w p loose mean mg mb g s.heap) (H : Room A 3 30) : Pays prog w A (.call (.ref 329) ⟨[], []⟩) s (fun v h' => ∃ x dx t0 t1, v = .ref x ∧ h'.get? x = some (instObj 329 dx) ∧ h'.get? dx = some (dictOf (base329At w t0 t1) 2) ∧ s.heap.get? x = none ∧ s.heap.get? dx = none ∧ dx < x) := by
  w_on
  intro R hR
  refine makeG (fI := 98) O (by k_is) (by k_is) (by k_is) ?_
  intro x dx h' st hx hdx nx ndx lt
  have lt0 := lt
  k_lt2 lt
  have O' : On w p loose mean mg mb s.heap h' := ⟨O.k.keeps O.st, O.t.keeps O.st, st⟩
  clear O
  rename On w p loose mean mg mb s.heap h' => O
  have H' := room_make (d := 2) (u := 29) H 329 [] []
  clear H
  refine' enterG [(x, instObj 329 dx), (dx, dictOf [] 0)] (binds := [(Str.ofString "self", .ref x), (Str.ofString "qval", .int 1 286), (Str.ofString "external", .bool true)]) O ?hg ?hown ?ho ?hcd ?hroom ?hb ?hl ?body ?hcell ?c1 ?c2 ?c3
  (case hg => exact List.forall_mem_cons.mpr ⟨nx, List.forall_mem_cons.mpr ⟨ndx, fun _ h => nomatch h⟩⟩)
  (case hown => exact List.forall_mem_cons.mpr ⟨hx, List.forall_mem_cons.mpr ⟨hdx, fun _ h => nomatch h⟩⟩)
  (case ho => k_is)
  (case hcd => k_is)
  (case hroom => have := Room.dp (by assumption); omega)
  (case hl => exact locs rfl)
  (case hcell => decide)
  (case c1 => exact rfl)
  (case c2 => exact rfl)
  (case c3 => exact rfl)
  (case hb => first | exact BindsTo.of_eq rfl | exact kp_binds (O.k.keeps O.st) (fun _ => rfl))
  intro h₀ L h₁ gst X T back F N
  (try k_fold)
  k_steps
  rename News _ _ _ _ => N
  rename Fr _ _ _ _ => F
  exact ⟨rfl, hR _ _ _ (fun b o e => F.keep b o (gst b o e)) ⟨x, dx, _, _, rfl, (N _ (.head _)).1, (N _ (.tail _ (.head _))).1, nx, ndx, lt0⟩⟩

abbrev base348At (w : World) (t0 t1 : Tok) : List DictEntry := [⟨PyData.keyHash w.params (Str.ofString "qval"), .str (Str.ofString "qval") t0, .int 1 286⟩, ⟨PyData.keyHash w.params (Str.ofString "external"), .str (Str.ofString "external") t1, .bool true⟩]
theorem new_base348 (O : On w p loose mean mg mb g s.heap) (H : Room A 3 30) : Pays prog w A (.call (.ref 348) ⟨[], []⟩) s (fun v h' => ∃ x dx t0 t1, v = .ref x ∧ h'.get? x = some (instObj 348 dx) ∧ h'.get? dx = some (dictOf (base348At w t0 t1) 2) ∧ s.heap.get? x = none ∧ s.heap.get? dx = none ∧ dx < x) := by
  w_on
  intro R hR
  refine makeG (fI := 98) O (by k_is) (by k_is) (by k_is) ?_
  intro x dx h' st hx hdx nx ndx lt
  have lt0 := lt
  k_lt2 lt
  have O' : On w p loose mean mg mb s.heap h' := ⟨O.k.keeps O.st, O.t.keeps O.st, st⟩
  clear O
  rename On w p loose mean mg mb s.heap h' => O
  have H' := room_make (d := 2) (u := 29) H 348 [] []
  clear H
  refine' enterG [(x, instObj 348 dx), (dx, dictOf [] 0)] (binds := [(Str.ofString "self", .ref x), (Str.ofString "qval", .int 1 286), (Str.ofString "external", .bool true)]) O ?hg ?hown ?ho ?hcd ?hroom ?hb ?hl ?body ?hcell ?c1 ?c2 ?c3
  (case hg => exact List.forall_mem_cons.mpr ⟨nx, List.forall_mem_cons.mpr ⟨ndx, fun _ h => nomatch h⟩⟩)
  (case hown => exact List.forall_mem_cons.mpr ⟨hx, List.forall_mem_cons.mpr ⟨hdx, fun _ h => nomatch h⟩⟩)
  (case ho => k_is)
  (case hcd => k_is)
  (case hroom => have := Room.dp (by assumption); omega)
  (case hl => exact locs rfl)
  (case hcell => decide)
  (case c1 => exact rfl)
  (case c2 => exact rfl)
  (case c3 => exact rfl)
  (case hb => first | exact BindsTo.of_eq rfl | exact kp_binds (O.k.keeps O.st) (fun _ => rfl))
  intro h₀ L h₁ gst X T back F N
  (try k_fold)
  k_steps
  rename News _ _ _ _ => N
  rename Fr _ _ _ _ => F
  exact ⟨rfl, hR _ _ _ (fun b o e => F.keep b o (gst b o e)) ⟨x, dx, _, _, rfl, (N _ (.head _)).1, (N _ (.tail _ (.head _))).1, nx, ndx, lt0⟩⟩

abbrev hamAt (w : World) (t0 t1 t2 t3 : Tok) : List DictEntry := [⟨PyData.keyHash w.params (Str.ofString "qval"), .str (Str.ofString "qval") t0, .int 1 454⟩, ⟨PyData.keyHash w.params (Str.ofString "test_func"), .str (Str.ofString "test_func") t1, .ref 157⟩, ⟨PyData.keyHash w.params (Str.ofString "truncate"), .str (Str.ofString "truncate") t2, .bool false⟩, ⟨PyData.keyHash w.params (Str.ofString "external"), .str (Str.ofString "external") t3, .bool true⟩]
theorem new_ham (O : On w p loose mean mg mb g s.heap) (H : Room A 3 30) : Pays prog w A (.call (.ref 228) ⟨[], []⟩) s (fun v h' => ∃ x dx t0 t1 t2 t3, v = .ref x ∧ h'.get? x = some (instObj 228 dx) ∧ h'.get? dx = some (dictOf (hamAt w t0 t1 t2 t3) 4) ∧ s.heap.get? x = none ∧ s.heap.get? dx = none ∧ dx < x) := by
  w_on
  intro R hR
  refine makeG (fI := 220) O (by k_is) (by k_is) (by k_is) ?_
  intro x dx h' st hx hdx nx ndx lt
  have lt0 := lt
  k_lt2 lt
  have O' : On w p loose mean mg mb s.heap h' := ⟨O.k.keeps O.st, O.t.keeps O.st, st⟩
  clear O
  rename On w p loose mean mg mb s.heap h' => O
  have H' := room_make (d := 2) (u := 29) H 228 [] []
  clear H
  refine' enterG [(x, instObj 228 dx), (dx, dictOf [] 0)] (binds := [(Str.ofString "self", .ref x), (Str.ofString "qval", .int 1 454), (Str.ofString "test_func", .none), (Str.ofString "truncate", .bool false), (Str.ofString "external", .bool true)]) O ?hg ?hown ?ho ?hcd ?hroom ?hb ?hl ?body ?hcell ?c1 ?c2 ?c3
  (case hg => exact List.forall_mem_cons.mpr ⟨nx, List.forall_mem_cons.mpr ⟨ndx, fun _ h => nomatch h⟩⟩)
  (case hown => exact List.forall_mem_cons.mpr ⟨hx, List.forall_mem_cons.mpr ⟨hdx, fun _ h => nomatch h⟩⟩)
  (case ho => k_is)
  (case hcd => k_is)
  (case hroom => have := Room.dp (by assumption); omega)
  (case hl => exact locs rfl)
  (case hcell => decide)
  (case c1 => exact rfl)
  (case c2 => exact rfl)
  (case c3 => exact rfl)
  (case hb => first | exact BindsTo.of_eq rfl | exact kp_binds (O.k.keeps O.st) (fun _ => rfl))
  intro h₀ L h₁ gst X T back F N
  (try k_fold)
  k_steps
  rename News _ _ _ _ => N
  rename Fr _ _ _ _ => F
  exact ⟨rfl, hR _ _ _ (fun b o e => F.keep b o (gst b o e)) ⟨x, dx, _, _, _, _, rfl, (N _ (.head _)).1, (N _ (.tail _ (.head _))).1, nx, ndx, lt0⟩⟩

abbrev levAt (w : World) (t0 t1 t2 : Tok) : List DictEntry := [⟨PyData.keyHash w.params (Str.ofString "qval"), .str (Str.ofString "qval") t0, .int 1 492⟩, ⟨PyData.keyHash w.params (Str.ofString "test_func"), .str (Str.ofString "test_func") t1, .ref 157⟩, ⟨PyData.keyHash w.params (Str.ofString "external"), .str (Str.ofString "external") t2, .bool true⟩]
theorem new_lev (O : On w p loose mean mg mb g s.heap) (H : Room A 3 30) : Pays prog w A (.call (.ref 269) ⟨[], []⟩) s (fun v h' => ∃ x dx t0 t1 t2, v = .ref x ∧ h'.get? x = some (instObj 269 dx) ∧ h'.get? dx = some (dictOf (levAt w t0 t1 t2) 3) ∧ s.heap.get? x = none ∧ s.heap.get? dx = none ∧ dx < x) := by
  w_on
  intro R hR
  refine makeG (fI := 245) O (by k_is) (by k_is) (by k_is) ?_
  intro x dx h' st hx hdx nx ndx lt
  have lt0 := lt
  k_lt2 lt
  have O' : On w p loose mean mg mb s.heap h' := ⟨O.k.keeps O.st, O.t.keeps O.st, st⟩
  clear O
  rename On w p loose mean mg mb s.heap h' => O
  have H' := room_make (d := 2) (u := 29) H 269 [] []
  clear H
  refine' enterG [(x, instObj 269 dx), (dx, dictOf [] 0)] (binds := [(Str.ofString "self", .ref x), (Str.ofString "qval", .int 1 492), (Str.ofString "test_func", .none), (Str.ofString "external", .bool true)]) O ?hg ?hown ?ho ?hcd ?hroom ?hb ?hl ?body ?hcell ?c1 ?c2 ?c3
  (case hg => exact List.forall_mem_cons.mpr ⟨nx, List.forall_mem_cons.mpr ⟨ndx, fun _ h => nomatch h⟩⟩)
  (case hown => exact List.forall_mem_cons.mpr ⟨hx, List.forall_mem_cons.mpr ⟨hdx, fun _ h => nomatch h⟩⟩)
  (case ho => k_is)
  (case hcd => k_is)
  (case hroom => have := Room.dp (by assumption); omega)
  (case hl => exact locs rfl)
  (case hcell => decide)
  (case c1 => exact rfl)
  (case c2 => exact rfl)
  (case c3 => exact rfl)
  (case hb => first | exact BindsTo.of_eq rfl | exact kp_binds (O.k.keeps O.st) (fun _ => rfl))
  intro h₀ L h₁ gst X T back F N
  (try k_fold)
  k_steps
  rename News _ _ _ _ => N
  rename Fr _ _ _ _ => F
  exact ⟨rfl, hR _ _ _ (fun b o e => F.keep b o (gst b o e)) ⟨x, dx, _, _, _, rfl, (N _ (.head _)).1, (N _ (.tail _ (.head _))).1, nx, ndx, lt0⟩⟩

abbrev dltAt (w : World) (t0 t1 t2 t3 : Tok) : List DictEntry := [⟨PyData.keyHash w.params (Str.ofString "qval"), .str (Str.ofString "qval") t0, .int 1 560⟩, ⟨PyData.keyHash w.params (Str.ofString "test_func"), .str (Str.ofString "test_func") t1, .ref 157⟩, ⟨PyData.keyHash w.params (Str.ofString "external"), .str (Str.ofString "external") t2, .bool true⟩, ⟨PyData.keyHash w.params (Str.ofString "restricted"), .str (Str.ofString "restricted") t3, .bool true⟩]
theorem new_dlt (O : On w p loose mean mg mb g s.heap) (H : Room A 3 30) : Pays prog w A (.call (.ref 310) ⟨[], []⟩) s (fun v h' => ∃ x dx t0 t1 t2 t3, v = .ref x ∧ h'.get? x = some (instObj 310 dx) ∧ h'.get? dx = some (dictOf (dltAt w t0 t1 t2 t3) 4) ∧ s.heap.get? x = none ∧ s.heap.get? dx = none ∧ dx < x) := by
  w_on
  intro R hR
  refine makeG (fI := 286) O (by k_is) (by k_is) (by k_is) ?_
  intro x dx h' st hx hdx nx ndx lt
  have lt0 := lt
  k_lt2 lt
  have O' : On w p loose mean mg mb s.heap h' := ⟨O.k.keeps O.st, O.t.keeps O.st, st⟩
  clear O
  rename On w p loose mean mg mb s.heap h' => O
  have H' := room_make (d := 2) (u := 29) H 310 [] []
  clear H
  refine' enterG [(x, instObj 310 dx), (dx, dictOf [] 0)] (binds := [(Str.ofString "self", .ref x), (Str.ofString "qval", .int 1 560), (Str.ofString "test_func", .none), (Str.ofString "external", .bool true), (Str.ofString "restricted", .bool true)]) O ?hg ?hown ?ho ?hcd ?hroom ?hb ?hl ?body ?hcell ?c1 ?c2 ?c3
  (case hg => exact List.forall_mem_cons.mpr ⟨nx, List.forall_mem_cons.mpr ⟨ndx, fun _ h => nomatch h⟩⟩)
  (case hown => exact List.forall_mem_cons.mpr ⟨hx, List.forall_mem_cons.mpr ⟨hdx, fun _ h => nomatch h⟩⟩)
  (case ho => k_is)
  (case hcd => k_is)
  (case hroom => have := Room.dp (by assumption); omega)
  (case hl => exact locs rfl)
  (case hcell => decide)
  (case c1 => exact rfl)
  (case c2 => exact rfl)
  (case c3 => exact rfl)
  (case hb => first | exact BindsTo.of_eq rfl | exact kp_binds (O.k.keeps O.st) (fun _ => rfl))
  intro h₀ L h₁ gst X T back F N
  (try k_fold)
  k_steps
  rename News _ _ _ _ => N
  rename Fr _ _ _ _ => F
  exact ⟨rfl, hR _ _ _ (fun b o e => F.keep b o (gst b o e)) ⟨x, dx, _, _, _, _, rfl, (N _ (.head _)).1, (N _ (.tail _ (.head _))).1, nx, ndx, lt0⟩⟩

abbrev dlfAt (w : World) (t0 t1 t2 t3 : Tok) : List DictEntry := [⟨PyData.keyHash w.params (Str.ofString "qval"), .str (Str.ofString "qval") t0, .int 1 560⟩, ⟨PyData.keyHash w.params (Str.ofString "test_func"), .str (Str.ofString "test_func") t1, .ref 157⟩, ⟨PyData.keyHash w.params (Str.ofString "external"), .str (Str.ofString "external") t2, .bool true⟩, ⟨PyData.keyHash w.params (Str.ofString "restricted"), .str (Str.ofString "restricted") t3, .bool false⟩]
theorem new_dlf (O : On w p loose mean mg mb g s.heap) (H : Room A 3 30) : Pays prog w A (.call (.ref 310) ⟨[], [(Str.ofString "restricted", .bool false)]⟩) s (fun v h' => ∃ x dx t0 t1 t2 t3, v = .ref x ∧ h'.get? x = some (instObj 310 dx) ∧ h'.get? dx = some (dictOf (dlfAt w t0 t1 t2 t3) 4) ∧ s.heap.get? x = none ∧ s.heap.get? dx = none ∧ dx < x) := by
  w_on
  intro R hR
  refine makeG (fI := 286) O (by k_is) (by k_is) (by k_is) ?_
  intro x dx h' st hx hdx nx ndx lt
  have lt0 := lt
  k_lt2 lt
  have O' : On w p loose mean mg mb s.heap h' := ⟨O.k.keeps O.st, O.t.keeps O.st, st⟩
  clear O
  rename On w p loose mean mg mb s.heap h' => O
  have H' := room_make (d := 2) (u := 29) H 310 [] [(Str.ofString "restricted", .bool false)]
  clear H
  refine' enterG [(x, instObj 310 dx), (dx, dictOf [] 0)] (binds := [(Str.ofString "self", .ref x), (Str.ofString "qval", .int 1 560), (Str.ofString "test_func", .none), (Str.ofString "external", .bool true), (Str.ofString "restricted", .bool false)]) O ?hg ?hown ?ho ?hcd ?hroom ?hb ?hl ?body ?hcell ?c1 ?c2 ?c3
  (case hg => exact List.forall_mem_cons.mpr ⟨nx, List.forall_mem_cons.mpr ⟨ndx, fun _ h => nomatch h⟩⟩)
  (case hown => exact List.forall_mem_cons.mpr ⟨hx, List.forall_mem_cons.mpr ⟨hdx, fun _ h => nomatch h⟩⟩)
  (case ho => k_is)
  (case hcd => k_is)
  (case hroom => have := Room.dp (by assumption); omega)
  (case hl => exact locs rfl)
  (case hcell => decide)
  (case c1 => exact rfl)
  (case c2 => exact rfl)
  (case c3 => exact rfl)
  (case hb => first | exact BindsTo.of_eq rfl | exact kp_binds (O.k.keeps O.st) (fun _ => rfl))
  intro h₀ L h₁ gst X T back F N
  (try k_fold)
  k_steps
  rename News _ _ _ _ => N
  rename Fr _ _ _ _ => F
  exact ⟨rfl, hR _ _ _ (fun b o e => F.keep b o (gst b o e)) ⟨x, dx, _, _, _, _, rfl, (N _ (.head _)).1, (N _ (.tail _ (.head _))).1, nx, ndx, lt0⟩⟩
end
end Mine
end
set_option maxHeartbeats 4000000
/- part Mc3 -/
section
namespace Mine
theorem fillMc3 : (PySem.Challenge.rw_br0041_01 = PySem.Challenge.rw_br0041_01 ∧ hd.heap_39 = hd.heap_39) := by
  k_fill
  exact ⟨rfl, rfl⟩
section
variable {prog : Program} {w : World} {A : Around} {s : Shared} {p : Program} {loose : List Str} {mean : ExcName → Option Value} {mg mb : Str → Option Value} {g : Heap}

/-- an object of a class, that g does not hold -/
structure Inst (g h : Heap) (x C dx : Addr) (es : List DictEntry) (n : Nat) : Prop where
  o : h.get? x = some (instObj C dx)
  d : h.get? dx = some (dictOf es n)
  nx : g.get? x = none
  nd : g.get? dx = none
  lt : @LT.lt Nat _ dx x
theorem Inst.keeps {g h h' : Heap} {x C dx : Addr} {es : List DictEntry} {n : Nat} (I : Inst g h x C dx es n) (k : h.StaysIn h') : Inst g h' x C dx es n := ⟨k _ _ I.o, k _ _ I.d, I.nx, I.nd, I.lt⟩

theorem own_none {g h : Heap} {x C dx : Addr} {es : List DictEntry} {n : Nat} (I : Inst g h x C dx es n) : ∀ q ∈ [(x, instObj C dx), (dx, dictOf es n)], g.get? q.1 = none := List.forall_mem_cons.mpr ⟨I.nx, List.forall_mem_cons.mpr ⟨I.nd, fun _ h => nomatch h⟩⟩
theorem own_at {g h : Heap} {x C dx : Addr} {es : List DictEntry} {n : Nat} (I : Inst g h x C dx es n) : ∀ q ∈ [(x, instObj C dx), (dx, dictOf es n)], h.get? q.1 = some q.2 := List.forall_mem_cons.mpr ⟨I.o, List.forall_mem_cons.mpr ⟨I.d, fun _ h => nomatch h⟩⟩

theorem Pays.use {f : Value} {pos : List Value} {kw : List (Str × Value)} {Q₀ : Value → Heap → Prop} {Q E : Value → Shared → Prop} (hp : Pays prog w A (.call f ⟨pos, kw⟩) s Q₀)
    (h : ∀ v h' tk, s.heap.StaysIn h' → Q₀ v h' → Q v { s with heap := h', toks := tk }) : wpAny (model prog w) A (call f pos kw) Q E s := wpAny_call (hp _ h)
theorem On.of {h₀ h : Heap} {L : Addr} {m : Str → Option Value} (X : (hd.heap_39 w.params).In h₀) (T : Top p loose mean mg mb h₀) (F : Fr h₀ L h m) : On w p loose mean mg mb h₀ h := ⟨X, T, F.keep⟩
theorem room_deep {d u : Nat} {env : Env} (H : Room A (d + 1) (u + 3)) : Room (A.deeper env) d u := by
  refine ⟨H.hh, ?_, ?_⟩
  · show A.depth + 1 + d < recursionLimit
    have := H.dp; omega
  · show A.units + 3 + u < cLine
    have := H.un; omega
theorem Room.less {d u d' u' : Nat} (H : Room A d u) (h1 : d' ≤ d) (h2 : u' ≤ u) : Room A d' u' := ⟨H.hh, by have := H.dp; omega, by have := H.un; omega⟩


theorem seqs_ham {x dx a b : Addr} {t0 t1 t2 t3 : Tok} (I : Inst g s.heap x 228 dx (hamAt w t0 t1 t2 t3) 4) (O : On w p loose mean mg mb g s.heap) (H : Room A 1 20) :
    Pays prog w A (.call (.ref 165) ⟨[.ref x, .ref a, .ref b], []⟩) s (fun v h' => ∃ l n, v = .ref l ∧ h'.get? l = some (listOf [.ref a, .ref b].toArray n) ∧ s.heap.get? l = none) := by
  w_on
  intro R hR
  have lt := I.lt
  refine' enterRCG [(x, instObj 228 dx), (dx, dictOf (hamAt w t0 t1 t2 t3) 4)] (vs := [.ref a, .ref b]) (bindsR := fun D => [(Str.ofString "self", .ref x), (Str.ofString "sequences", .ref D)]) O ?hg ?hown ?ho ?hcd ?hroom ?hv ?hp ?hgr ?hl ?hnd ?body ?c1 ?c2 ?c3
  (case hg => exact own_none I)
  (case hown => exact own_at I)
  (case ho => k_is)
  (case hcd => k_is)
  (case hroom => have := Room.dp (by assumption); omega)
  (case hl => exact fun _ => rfl)
  (case hnd => decide +kernel)
  (case c1 => exact rfl)
  (case c2 => exact rfl)
  (case c3 => exact rfl)
  (case hv => exact rfl)
  (case hp => exact rfl)
  (case hgr => exact fun _ => rfl)
  intro D h₀ L h₁ tk cells gst X T back F N Y l1 l2
  (try k_lt l1)
  (try k_lt l2)
  (first | (change CellsAre _ [] _ at Y; cases Y) | k_cells Y)
  simp only [List.cons_append, List.nil_append] at N
  (try dsimp only)
  (try k_fold)
  k_steps
  dsimp only
  rename News _ _ _ _ => N
  rename Fr _ _ _ _ => F
  refine hR _ _ _ (back.keep _ F.keep (List.forall_mem_cons.mpr ⟨(N _ (by k_mem)).1, List.forall_mem_cons.mpr ⟨(N _ (by k_mem)).1, fun _ h => nomatch h⟩⟩)) ⟨_, _, rfl, (N _ (.head _)).1, back.new _ (N _ (.head _)).2.2 (List.forall_mem_cons.mpr ⟨by k_ne, List.forall_mem_cons.mpr ⟨by k_ne, fun _ h => nomatch h⟩⟩)⟩

theorem seqs_lev {x dx a b : Addr} {t0 t1 t2 : Tok} (I : Inst g s.heap x 269 dx (levAt w t0 t1 t2) 3) (O : On w p loose mean mg mb g s.heap) (H : Room A 1 20) :
    Pays prog w A (.call (.ref 165) ⟨[.ref x, .ref a, .ref b], []⟩) s (fun v h' => ∃ l n, v = .ref l ∧ h'.get? l = some (listOf [.ref a, .ref b].toArray n) ∧ s.heap.get? l = none) := by
  w_on
  intro R hR
  have lt := I.lt
  refine' enterRCG [(x, instObj 269 dx), (dx, dictOf (levAt w t0 t1 t2) 3)] (vs := [.ref a, .ref b]) (bindsR := fun D => [(Str.ofString "self", .ref x), (Str.ofString "sequences", .ref D)]) O ?hg ?hown ?ho ?hcd ?hroom ?hv ?hp ?hgr ?hl ?hnd ?body ?c1 ?c2 ?c3
  (case hg => exact own_none I)
  (case hown => exact own_at I)
  (case ho => k_is)
  (case hcd => k_is)
  (case hroom => have := Room.dp (by assumption); omega)
  (case hl => exact fun _ => rfl)
  (case hnd => decide +kernel)
  (case c1 => exact rfl)
  (case c2 => exact rfl)
  (case c3 => exact rfl)
  (case hv => exact rfl)
  (case hp => exact rfl)
  (case hgr => exact fun _ => rfl)
  intro D h₀ L h₁ tk cells gst X T back F N Y l1 l2
  (try k_lt l1)
  (try k_lt l2)
  (first | (change CellsAre _ [] _ at Y; cases Y) | k_cells Y)
  simp only [List.cons_append, List.nil_append] at N
  (try dsimp only)
  (try k_fold)
  k_steps
  dsimp only
  rename News _ _ _ _ => N
  rename Fr _ _ _ _ => F
  refine hR _ _ _ (back.keep _ F.keep (List.forall_mem_cons.mpr ⟨(N _ (by k_mem)).1, List.forall_mem_cons.mpr ⟨(N _ (by k_mem)).1, fun _ h => nomatch h⟩⟩)) ⟨_, _, rfl, (N _ (.head _)).1, back.new _ (N _ (.head _)).2.2 (List.forall_mem_cons.mpr ⟨by k_ne, List.forall_mem_cons.mpr ⟨by k_ne, fun _ h => nomatch h⟩⟩)⟩

theorem seqs_dlt {x dx a b : Addr} {t0 t1 t2 t3 : Tok} (I : Inst g s.heap x 310 dx (dltAt w t0 t1 t2 t3) 4) (O : On w p loose mean mg mb g s.heap) (H : Room A 1 20) :
    Pays prog w A (.call (.ref 165) ⟨[.ref x, .ref a, .ref b], []⟩) s (fun v h' => ∃ l n, v = .ref l ∧ h'.get? l = some (listOf [.ref a, .ref b].toArray n) ∧ s.heap.get? l = none) := by
  w_on
  intro R hR
  have lt := I.lt
  refine' enterRCG [(x, instObj 310 dx), (dx, dictOf (dltAt w t0 t1 t2 t3) 4)] (vs := [.ref a, .ref b]) (bindsR := fun D => [(Str.ofString "self", .ref x), (Str.ofString "sequences", .ref D)]) O ?hg ?hown ?ho ?hcd ?hroom ?hv ?hp ?hgr ?hl ?hnd ?body ?c1 ?c2 ?c3
  (case hg => exact own_none I)
  (case hown => exact own_at I)
  (case ho => k_is)
  (case hcd => k_is)
  (case hroom => have := Room.dp (by assumption); omega)
  (case hl => exact fun _ => rfl)
  (case hnd => decide +kernel)
  (case c1 => exact rfl)
  (case c2 => exact rfl)
  (case c3 => exact rfl)
  (case hv => exact rfl)
  (case hp => exact rfl)
  (case hgr => exact fun _ => rfl)
  intro D h₀ L h₁ tk cells gst X T back F N Y l1 l2
  (try k_lt l1)
  (try k_lt l2)
  (first | (change CellsAre _ [] _ at Y; cases Y) | k_cells Y)
  simp only [List.cons_append, List.nil_append] at N
  (try dsimp only)
  (try k_fold)
  k_steps
  dsimp only
  rename News _ _ _ _ => N
  rename Fr _ _ _ _ => F
  refine hR _ _ _ (back.keep _ F.keep (List.forall_mem_cons.mpr ⟨(N _ (by k_mem)).1, List.forall_mem_cons.mpr ⟨(N _ (by k_mem)).1, fun _ h => nomatch h⟩⟩)) ⟨_, _, rfl, (N _ (.head _)).1, back.new _ (N _ (.head _)).2.2 (List.forall_mem_cons.mpr ⟨by k_ne, List.forall_mem_cons.mpr ⟨by k_ne, fun _ h => nomatch h⟩⟩)⟩

theorem seqs_dlf {x dx a b : Addr} {t0 t1 t2 t3 : Tok} (I : Inst g s.heap x 310 dx (dlfAt w t0 t1 t2 t3) 4) (O : On w p loose mean mg mb g s.heap) (H : Room A 1 20) :
    Pays prog w A (.call (.ref 165) ⟨[.ref x, .ref a, .ref b], []⟩) s (fun v h' => ∃ l n, v = .ref l ∧ h'.get? l = some (listOf [.ref a, .ref b].toArray n) ∧ s.heap.get? l = none) := by
  w_on
  intro R hR
  have lt := I.lt
  refine' enterRCG [(x, instObj 310 dx), (dx, dictOf (dlfAt w t0 t1 t2 t3) 4)] (vs := [.ref a, .ref b]) (bindsR := fun D => [(Str.ofString "self", .ref x), (Str.ofString "sequences", .ref D)]) O ?hg ?hown ?ho ?hcd ?hroom ?hv ?hp ?hgr ?hl ?hnd ?body ?c1 ?c2 ?c3
  (case hg => exact own_none I)
  (case hown => exact own_at I)
  (case ho => k_is)
  (case hcd => k_is)
  (case hroom => have := Room.dp (by assumption); omega)
  (case hl => exact fun _ => rfl)
  (case hnd => decide +kernel)
  (case c1 => exact rfl)
  (case c2 => exact rfl)
  (case c3 => exact rfl)
  (case hv => exact rfl)
  (case hp => exact rfl)
  (case hgr => exact fun _ => rfl)
  intro D h₀ L h₁ tk cells gst X T back F N Y l1 l2
  (try k_lt l1)
  (try k_lt l2)
  (first | (change CellsAre _ [] _ at Y; cases Y) | k_cells Y)
  simp only [List.cons_append, List.nil_append] at N
  (try dsimp only)
  (try k_fold)
  k_steps
  dsimp only
  rename News _ _ _ _ => N
  rename Fr _ _ _ _ => F
  refine hR _ _ _ (back.keep _ F.keep (List.forall_mem_cons.mpr ⟨(N _ (by k_mem)).1, List.forall_mem_cons.mpr ⟨(N _ (by k_mem)).1, fun _ h => nomatch h⟩⟩)) ⟨_, _, rfl, (N _ (.head _)).1, back.new _ (N _ (.head _)).2.2 (List.forall_mem_cons.mpr ⟨by k_ne, List.forall_mem_cons.mpr ⟨by k_ne, fun _ h => nomatch h⟩⟩)⟩

theorem seqs_base348 {x dx a b : Addr} {t0 t1 : Tok} (I : Inst g s.heap x 348 dx (base348At w t0 t1) 2) (O : On w p loose mean mg mb g s.heap) (H : Room A 1 20) :
    Pays prog w A (.call (.ref 165) ⟨[.ref x, .ref a, .ref b], []⟩) s (fun v h' => ∃ l n, v = .ref l ∧ h'.get? l = some (listOf [.ref a, .ref b].toArray n) ∧ s.heap.get? l = none) := by
  w_on
  intro R hR
  have lt := I.lt
  refine' enterRCG [(x, instObj 348 dx), (dx, dictOf (base348At w t0 t1) 2)] (vs := [.ref a, .ref b]) (bindsR := fun D => [(Str.ofString "self", .ref x), (Str.ofString "sequences", .ref D)]) O ?hg ?hown ?ho ?hcd ?hroom ?hv ?hp ?hgr ?hl ?hnd ?body ?c1 ?c2 ?c3
  (case hg => exact own_none I)
  (case hown => exact own_at I)
  (case ho => k_is)
  (case hcd => k_is)
  (case hroom => have := Room.dp (by assumption); omega)
  (case hl => exact fun _ => rfl)
  (case hnd => decide +kernel)
  (case c1 => exact rfl)
  (case c2 => exact rfl)
  (case c3 => exact rfl)
  (case hv => exact rfl)
  (case hp => exact rfl)
  (case hgr => exact fun _ => rfl)
  intro D h₀ L h₁ tk cells gst X T back F N Y l1 l2
  (try k_lt l1)
  (try k_lt l2)
  (first | (change CellsAre _ [] _ at Y; cases Y) | k_cells Y)
  simp only [List.cons_append, List.nil_append] at N
  (try dsimp only)
  (try k_fold)
  k_steps
  dsimp only
  rename News _ _ _ _ => N
  rename Fr _ _ _ _ => F
  refine hR _ _ _ (back.keep _ F.keep (List.forall_mem_cons.mpr ⟨(N _ (by k_mem)).1, List.forall_mem_cons.mpr ⟨(N _ (by k_mem)).1, fun _ h => nomatch h⟩⟩)) ⟨_, _, rfl, (N _ (.head _)).1, back.new _ (N _ (.head _)).2.2 (List.forall_mem_cons.mpr ⟨by k_ne, List.forall_mem_cons.mpr ⟨by k_ne, fun _ h => nomatch h⟩⟩)⟩
end
end Mine
end
set_option maxHeartbeats 4000000
/- part Mm0 -/
section
namespace Mine
namespace MF
theorem owner_map : Manifest.owners.lookup (String.ofList ['p', 'a', 'm'].reverse) = some Manifest.sig_map := by kernel_rfl
theorem slot_map_init : Slot "map" "__init__" "object.__init__" :=
  .of (owner := "object") (n := "__init__") (by rw [typeLookup_type, builtinLookup_eq_fast]; kernel_rfl) (by decide +kernel) (by decide +kernel) (by decide +kernel)
    (by first | exact .inl (by decide +kernel) | exact .inr (by decide +kernel)) (by rw [isSubtype_type]; kernel_rfl)
theorem slot_map_iter : Slot "map" "__iter__" "map.__iter__" :=
  .of (owner := "map") (n := "__iter__") (by rw [typeLookup_type, builtinLookup_eq_fast]; kernel_rfl) (by decide +kernel) (by decide +kernel) (by decide +kernel)
    (by first | exact .inl (by decide +kernel) | exact .inr (by decide +kernel)) (by rw [isSubtype_type]; kernel_rfl)
theorem slot_map_next : Slot "map" "__next__" "map.__next__" :=
  .of (owner := "map") (n := "__next__") (by rw [typeLookup_type, builtinLookup_eq_fast]; kernel_rfl) (by decide +kernel) (by decide +kernel) (by decide +kernel)
    (by first | exact .inl (by decide +kernel) | exact .inr (by decide +kernel)) (by rw [isSubtype_type]; kernel_rfl)
theorem args_map_iter_1 (a : Value) : argsOk "map.__iter__" ⟨[a], []⟩ := by
  unfold argsOk; rw [signature?_of (id := "map.__iter__") (n := ['_', '_', 'r', 'e', 't', 'i', '_', '_']) (o := ['p', 'a', 'm']) (by kernel_rfl) owner_map]; kernel_rfl
theorem args_map_next_1 (a : Value) : argsOk "map.__next__" ⟨[a], []⟩ := by
  unfold argsOk; rw [signature?_of (id := "map.__next__") (n := ['_', '_', 't', 'x', 'e', 'n', '_', '_']) (o := ['p', 'a', 'm']) (by kernel_rfl) owner_map]; kernel_rfl
theorem entry_map_next : entryFor table "map.__next__" = some Builtin.«map.__next__» := entryFor_of_tree (by kernel_rfl)
theorem entry_map_new : entryFor table "map.__new__" = some Builtin.«map.__new__» := entryFor_of_tree (by kernel_rfl)
theorem entry_map_iter : entryFor table "map.__iter__" = some Builtin.«dict_keyiterator.__iter__» :=
  entryFor_alias (id' := "dict_keyiterator.__iter__") (by kernel_rfl) (by first | rfl | decide +kernel | (unfold String.splitOn; simp +decide [String.splitOnAux])) (by decide +kernel) (by kernel_rfl)
theorem mro_map : mroOf (.type "map") = pure [.type "map", .type "object"] := by rw [mroOf_type]; kernel_rfl
theorem lookup_map_new : typeLookup (.type "map") "__new__" = pure (some (.builtin "map.__new__")) := by rw [typeLookup_type, builtinLookup_eq_fast]; kernel_rfl
theorem called_map : TypeCalled "map" "map.__new__" "object.__init__" :=
  ⟨by decide +kernel, by decide +kernel, ⟨_, _, mro_map⟩, madeBy_type mro_map lookup_map_new (by decide +kernel), by decide +kernel, by rw [isSubtype_type]; kernel_rfl, slot_map_init⟩
theorem typeCall_map_2 (a b : Value) : checkTypeCall "map" ⟨[a, b], []⟩ = pure () := by kernel_rfl
theorem newCall_map_2 (a b : Value) : checkBuiltinCall "map.__new__" ⟨[.type "map", a, b], []⟩ = pure () := by kernel_rfl
theorem sub_map : isSubtype (.type "map") (.type "map") = pure true := by rw [isSubtype_type]; kernel_rfl
theorem map_no_len : typeLookup (.type "map") "__len__" = pure none := by rw [typeLookup_type, builtinLookup_eq_fast]; kernel_rfl
theorem map_no_hint : typeLookup (.type "map") "__length_hint__" = pure none := by rw [typeLookup_type, builtinLookup_eq_fast]; kernel_rfl
end MF
end Mine
end
set_option maxHeartbeats 4000000
/- part Mm -/
section
namespace Mine
local macro_rules | `(tactic| wp_step) => `(tactic| first
  | with_reducible (first | refine wpAny_bind ?_ | refine wpAny_pure ?_ | refine wpAny_holding ?_ | refine wpAny_rule ?_ | refine wpAny_standAt ?_ | refine wpAny_of_eq (by assumption) ?_ | refine wpAny_mkInt' ?_ | refine wpAny_typeOf (by assumption) ?_ | refine wpAny_isInstance (by assumption) (by assumption) ?_)
  | (with_reducible apply wpAny_ite_false; focus (rfl; done))
  | (with_reducible apply wpAny_ite_true; focus (rfl; done))
  | wp_delta)
abbrev IsMap (h : Heap) (z TI : Addr) : Prop := h.get? z = some { cls := .type "map", dict := none, data := .fields #[.ref TI, .builtin "len"], slots := #[] }
abbrev IsOneT (h : Heap) (T : Addr) (a : Value) : Prop := h.get? T = some { cls := .type "tuple", data := .seq #[a] }
abbrev mapH1 (h : Heap) (it : String) (l : Addr) : Heap := h.push { cls := .type it, data := .fields #[.ref l, .int 0 0] }
abbrev mapH2 (h : Heap) (it : String) (l : Addr) : Heap := (mapH1 h it l).push { cls := .type "tuple", data := .seq #[.ref h.objs.size] }
abbrev mapH3 (h : Heap) (it : String) (l : Addr) : Heap := (mapH2 h it l).push { cls := .type "map", data := .fields #[.ref (mapH1 h it l).objs.size, .builtin "len"] }

theorem meets_map_tup (l : Addr) (xs : Array Value) :
    Meets (Builtin.«map.__new__» ⟨[.type "map", .builtin "len", .ref l], []⟩) (fun _ R s => s.heap.IsTuple l xs ∧
      R (.ok (.ret (.ref (mapH2 s.heap "tuple_iterator" l).objs.size))) { s with heap := mapH3 s.heap "tuple_iterator" l }) :=
  .of_wp fun prog w A R s h => by
    obtain ⟨hp, g, d, tk, os⟩ := s; obtain ⟨hl, h⟩ := h
    have hsub := MF.sub_map
    have hL1 : Heap.IsTuple (Shared.heap ⟨hp, g, d, tk, os⟩) l xs := hl
    wp_walk using wpAny_pyIter_tuple hL1
    exact ⟨_, rfl, h⟩
theorem meets_map_list (l : Addr) (xs : Array Value) :
    Meets (Builtin.«map.__new__» ⟨[.type "map", .builtin "len", .ref l], []⟩) (fun _ R s => s.heap.IsList l xs ∧
      R (.ok (.ret (.ref (mapH2 s.heap "list_iterator" l).objs.size))) { s with heap := mapH3 s.heap "list_iterator" l }) :=
  .of_wp fun prog w A R s h => by
    obtain ⟨hp, g, d, tk, os⟩ := s; obtain ⟨hl, h⟩ := h
    have hsub := MF.sub_map
    have hL1 : Heap.IsList (Shared.heap ⟨hp, g, d, tk, os⟩) l xs := hl
    wp_walk using wpAny_pyIter_list hL1
    exact ⟨_, rfl, h⟩

section
variable {prog : Program} {w : World} {A : Around} {E : Value → Shared → Prop} {s : Shared}

theorem map_made {it : String} {l : Addr} {Q : Value → Shared → Prop} {s : Shared}
    (h : ∀ h', IsMap h' (s.heap.objs.size + 2) (s.heap.objs.size + 1) → IsOneT h' (s.heap.objs.size + 1) (.ref s.heap.objs.size) →
      h'.get? s.heap.objs.size = some { cls := .type it, data := .fields #[.ref l, .int 0 0] } → h'.objs.size = s.heap.objs.size + 3 →
      s.heap.StaysIn h' → Q (.ref (s.heap.objs.size + 2)) { s with heap := h' }) :
    (fun obj s₁ => s₁.TypeIs obj "map" ∧ Q obj s₁) (.ref (mapH2 s.heap it l).objs.size) { s with heap := mapH3 s.heap it l } := by
  have z1 : (mapH1 s.heap it l).objs.size = s.heap.objs.size + 1 := Heap.size_push ..
  have z2 : (mapH2 s.heap it l).objs.size = s.heap.objs.size + 2 := by rw [Heap.size_push, z1]
  have z3 : (mapH3 s.heap it l).objs.size = s.heap.objs.size + 3 := by rw [Heap.size_push, z2]
  have g3 : (mapH3 s.heap it l).get? (mapH2 s.heap it l).objs.size = some _ := Heap.get?_push_size _ rfl
  have g2 : (mapH3 s.heap it l).get? (mapH1 s.heap it l).objs.size = some _ := Heap.get?_push_of_some _ (Heap.get?_push_size _ rfl)
  have g1 : (mapH3 s.heap it l).get? s.heap.objs.size = some _ := Heap.get?_push_of_some _ (Heap.get?_push_of_some _ (Heap.get?_push_size _ rfl))
  rw [z2, z1] at g3
  rw [z1] at g2
  show _ ∧ _
  rw [z2]
  exact ⟨⟨_, g3, rfl⟩, h _ g3 g2 g1 z3 fun c o x => Heap.get?_push_of_some _ (Heap.get?_push_of_some _ (Heap.get?_push_of_some _ x))⟩

theorem call_map_tup {l : Addr} {xs : Array Value} {Q : Value → Shared → Prop} (hl : s.heap.IsTuple l xs)
    (h : ∀ h', IsMap h' (s.heap.objs.size + 2) (s.heap.objs.size + 1) → IsOneT h' (s.heap.objs.size + 1) (.ref s.heap.objs.size) →
      h'.get? s.heap.objs.size = some { cls := .type "tuple_iterator", data := .fields #[.ref l, .int 0 0] } → h'.objs.size = s.heap.objs.size + 3 →
      s.heap.StaysIn h' → Q (.ref (s.heap.objs.size + 2)) { s with heap := h' }) :
    wpAny (model prog w) A (call (.type "map") [.builtin "len", .ref l]) Q E s :=
  callType_new MF.called_map (by decide) (MF.typeCall_map_2 _ _) (MF.newCall_map_2 _ _) (fun obj => F.args_object_init_3 obj _ _) MF.entry_map_new
    (meets_map_tup l xs) ⟨hl, map_made h⟩
theorem call_map_list {l : Addr} {xs : Array Value} {Q : Value → Shared → Prop} (hl : s.heap.IsList l xs)
    (h : ∀ h', IsMap h' (s.heap.objs.size + 2) (s.heap.objs.size + 1) → IsOneT h' (s.heap.objs.size + 1) (.ref s.heap.objs.size) →
      h'.get? s.heap.objs.size = some { cls := .type "list_iterator", data := .fields #[.ref l, .int 0 0] } → h'.objs.size = s.heap.objs.size + 3 →
      s.heap.StaysIn h' → Q (.ref (s.heap.objs.size + 2)) { s with heap := h' }) :
    wpAny (model prog w) A (call (.type "map") [.builtin "len", .ref l]) Q E s :=
  callType_new MF.called_map (by decide) (MF.typeCall_map_2 _ _) (MF.newCall_map_2 _ _) (fun obj => F.args_object_init_3 obj _ _) MF.entry_map_new
    (meets_map_list l xs) ⟨hl, map_made h⟩

theorem nextOf_tup_item {it t : Addr} {i : Nat} {items} {x : Value} {Q : Value → Shared → Prop} (hit : s.heap.IsTupleIter it t i)
    (ht : s.heap.IsTuple t items) (hx : items[i]? = some x)
    (hQ : ∀ h', h'.IsTupleIter it t (i + 1) → Heap.SameBut it s.heap h' → Q x { s with heap := h' }) :
    wpAny (model prog w) A (Builtin.SmallTypes.nextOf (.ref it)) Q E s := by
  obtain ⟨o, ho, hc, hd⟩ := id hit
  obtain ⟨ol, hol, _, nl, hdl⟩ := ht
  unfold Builtin.SmallTypes.nextOf
  refine wpAny_bind (wpAny_callSpecial?_slot (name := Str.ofString "__next__") hit.typeIs F.slot_tuple_iterator_next
    (wpAny_call_entry F.slot_tuple_iterator_next hit.typeIs F.entry_tuple_iterator_next ?_ (F.args_tuple_iterator_next_1 _)))
  show wpAny _ _ (field (.ref it) 0 >>= _) _ _ s
  refine wpAny_bind (wpAny_field ho hd (x := .ref t) rfl ?_)
  show wpAny _ _ (if (Value.ref t == Value.none) = true then _ else _) _ _ s
  rw [if_neg (show ¬ ((Value.ref t == Value.none) = true) from Bool.false_ne_true)]
  show wpAny _ _ (field (.ref it) 1 >>= _) _ _ s
  refine wpAny_bind (wpAny_field ho hd (x := .int i 0) rfl ?_)
  show wpAny _ _ (seqItems? (.ref t) >>= _) _ _ s
  refine wpAny_bind (wpAny_seqItems hol hdl ?_)
  simp only [Int.toNat_natCast, hx]
  refine wpAny_bind (wpAny_setField ho hd (by simp) (wpAny_pure ⟨x, rfl, wpAny_pure (hQ _ ?_ (Heap.SameBut.update ..))⟩))
  exact ⟨_, Heap.get?_update_self _ ho (Obj.isFreed_of_fields (Obj.data_mapFields hd _)), (Obj.cls_mapFields ..).trans hc, by
    rw [Obj.data_mapFields hd]; simp [rawInt]⟩

theorem nextOf_tup_end {it t : Addr} {i : Nat} {items} {Q : Value → Shared → Prop} (hh : A.handled = none)
    (hit : s.heap.IsTupleIter it t i) (ht : s.heap.IsTuple t items) (hx : items[i]? = none)
    (hE : ∀ h' e, Heap.ExtBut it s.heap h' → (∃ o, h'.get? e = some o ∧ o.cls = .type "StopIteration") → E (.ref e) { s with heap := h' }) :
    wpAny (model prog w) A (Builtin.SmallTypes.nextOf (.ref it)) Q E s := by
  obtain ⟨o, ho, hc, hd⟩ := id hit
  obtain ⟨ol, hol, _, nl, hdl⟩ := ht
  unfold Builtin.SmallTypes.nextOf
  refine wpAny_bind (wpAny_callSpecial?_slot (name := Str.ofString "__next__") hit.typeIs F.slot_tuple_iterator_next
    (wpAny_call_entry F.slot_tuple_iterator_next hit.typeIs F.entry_tuple_iterator_next ?_ (F.args_tuple_iterator_next_1 _)))
  show wpAny _ _ (field (.ref it) 0 >>= _) _ _ s
  refine wpAny_bind (wpAny_field ho hd (x := .ref t) rfl ?_)
  show wpAny _ _ (if (Value.ref t == Value.none) = true then _ else _) _ _ s
  rw [if_neg (show ¬ ((Value.ref t == Value.none) = true) from Bool.false_ne_true)]
  show wpAny _ _ (field (.ref it) 1 >>= _) _ _ s
  refine wpAny_bind (wpAny_field ho hd (x := .int i 0) rfl ?_)
  show wpAny _ _ (seqItems? (.ref t) >>= _) _ _ s
  refine wpAny_bind (wpAny_seqItems hol hdl ?_)
  simp only [Int.toNat_natCast, hx]
  refine wpAny_bind (wpAny_rule (wpAny_bind (wpAny_setField ho hd (by simp) ?_)))
  show wpAny _ _ (newExc (.type "StopIteration") [] >>= _) _ _ _
  refine wpAny_bind ?_
  simp only [newExc, newTuple]
  refine wpAny_bind (wpAny_newObj_type ?_ (by size_fits))
  refine wpAny_bind (m := firstArgMember _ _) (wpAny_of_eq (a := Value.none) (by first | rfl | (simp only [firstArgMember]; rfl)) ?_)
  refine wpAny_newObj_type ?_ (by size_fits)
  simp only [raiseNew]
  refine wpAny_bind (wpAny_handled ?_)
  first | rw [show A.in1.handled = none from hh] | rw [hh]
  refine wpAny_bind (wpAny_pure (wpAny_throw ?_))
  exact hE _ _ (((Heap.SameBut.update ..).extBut.push _).push _) ⟨_, Heap.get?_push_size _ rfl, rfl⟩

theorem Draws.tuple (hh : A.handled = none) (it l : Addr) (hne : l ≠ it) (items : Array Value) :
    Draws prog w A it [it, l] items.size (fun i v => items[i]? = some v) (fun i h => h.IsTupleIter it l i ∧ h.IsTuple l items) where
  live := fun _ _ st => let ⟨o, ho, _⟩ := st.1; ⟨o, ho⟩
  frame := fun _ _ _ st hk => ⟨st.1.at fun o e => hk it (by simp) o e, st.2.at fun o e => hk l (by simp) o e⟩
  item := fun i s Q E hi st hQ => by
    refine nextOf_tup_item st.1 st.2 (x := items[i]) (by simp [hi]) fun h' hit' hs' => ?_
    exact hQ _ h' s.toks (by simp [hi]) ⟨hit', st.2.extBut hs'.extBut hne⟩ hs'
  done := fun s Q E st hE => nextOf_tup_end hh st.1 st.2 (by simp) hE

def refOf : Value → Option Addr
  | .ref a => some a
  | _ => none
def refsOf (vs : List Value) : List Addr := vs.filterMap refOf
/-- the length of a tuple of two tuples' items -/
def LensAt (h : Heap) (refs : Array Value) (lens : Nat → Nat) : Prop := ∀ i v, refs[i]? = some v → ∃ a items, v = .ref a ∧ h.IsTuple a items ∧ items.size = lens i ∧ items.size < 2 ^ 63

theorem pyIter_map {z TI : Addr} {Q : Value → Shared → Prop} (hz : IsMap s.heap z TI) (h : Q (.ref z) s) : wpAny (model prog w) A (pyIter (.ref z)) Q E s := by
  have hT : s.TypeIs (.ref z) "map" := ⟨_, hz, rfl⟩
  refine wpAny_pyIter_slot hT MF.slot_map_iter (wpAny_call_entry MF.slot_map_iter hT MF.entry_map_iter ?_ (MF.args_map_iter_1 _))
  show wpAny _ _ (ret (.ref z)) _ _ s
  exact wpAny_pure ⟨_, rfl, "map", _, hT, MF.slot_map_next.lookup, h⟩

theorem Walks.mapLen {z TI it : Addr} {fp : List Addr} {n : Nat} {refs : Array Value} {lens : Nat → Nat} {St : Nat → Heap → Prop} (D : Draws prog w A.in1 it fp n (fun i v => refs[i]? = some v) St)
    (hit : it ∈ fp) (hz : z ≠ it) (hTI : TI ≠ it) (hr : ∀ i : Nat, refs[i]? ≠ some (Value.ref it)) :
    Walks prog w A z (z :: TI :: (fp ++ refsOf refs.toList)) [it] n (fun i v => ∃ t, v = .int (lens i) t) (fun i h => St i h ∧ IsMap h z TI ∧ IsOneT h TI (.ref it) ∧ LensAt h refs lens) where
  sub := fun b hb => by simp at hb; simp [hb, hit]
  frame := fun i h h' st hk => ⟨D.frame _ _ _ st.1 fun b hb => hk b (by simp [hb]), hk _ (by simp) _ st.2.1, hk _ (by simp) _ st.2.2.1, fun i v e => by
    obtain ⟨a, items, rfl, ht, hs, hf⟩ := st.2.2.2 i v e
    refine ⟨a, items, rfl, ht.at (hk a ?_), hs, hf⟩
    refine List.mem_cons_of_mem _ (List.mem_cons_of_mem _ (List.mem_append_right _ (List.mem_filterMap.mpr ⟨.ref a, (Array.mem_toList_iff).mpr (Array.mem_of_getElem? e), rfl⟩)))⟩
  item := fun i s Q E hi st hQ => by
    obtain ⟨st, hz', hT', hl⟩ := st
    have hT : s.TypeIs (.ref z) "map" := ⟨_, hz', rfl⟩
    unfold pyNext
    refine wpAny_bind (wpAny_attempt (wpAny_callSpecial?_slot (name := Str.ofString "__next__") hT MF.slot_map_next (wpAny_call_entry MF.slot_map_next hT MF.entry_map_next ?_ (MF.args_map_next_1 _))))
    show wpAny _ _ (field (.ref z) 0 >>= _) _ _ _
    refine wpAny_bind (wpAny_field hz' rfl (x := .ref TI) rfl ?_)
    refine wpAny_bind (wpAny_seqItems hT' rfl ?_)
    dsimp only
    refine wpAny_bind ?_
    rw [← Array.forIn_toList]
    simp only [List.forIn_cons, List.forIn_nil]
    refine wpAny_bind (wpAny_bind (wpAny_holding (D.item i s _ _ hi st fun x h' tk hP st' hs => ?_)))
    refine wpAny_pure (wpAny_pure ?_)
    have hz1 : IsMap h' z TI := hs.extBut _ _ hz hz'
    refine wpAny_bind (wpAny_field hz1 rfl (x := .builtin "len") rfl ?_)
    obtain ⟨a, items, rfl, ht, hsz, hf⟩ := hl i x hP
    have hai : a ≠ it := fun e => hr i (e ▸ hP)
    refine wpAny_bind (wpAny_holding (PyProof.Rows.len_tuple (ht.extBut hs.extBut hai) (by omega) ?_))
    refine wpAny_bind (wpAny_letGo (wpAny_pure ⟨_, rfl, ?_⟩))
    refine wpAny_pure (hQ _ h' _ ⟨_, by rw [hsz]⟩ ⟨st', hz1, hs.extBut _ _ hTI hT', fun j v e => ?_⟩ fun b o hb e => hs.extBut b o (fun x => hb (by simp [x])) e)
    obtain ⟨a', items', rfl, ht', r⟩ := hl j v e
    exact ⟨a', items', rfl, ht'.extBut hs.extBut fun x => hr j (x ▸ e), r⟩
  done := fun s Q E st hQ => by
    obtain ⟨st, hz', hT', hl⟩ := st
    have hT : s.TypeIs (.ref z) "map" := ⟨_, hz', rfl⟩
    unfold pyNext
    refine wpAny_bind (wpAny_attempt (wpAny_callSpecial?_slot (name := Str.ofString "__next__") hT MF.slot_map_next (wpAny_call_entry MF.slot_map_next hT MF.entry_map_next ?_ (MF.args_map_next_1 _))))
    show wpAny _ _ (field (.ref z) 0 >>= _) _ _ _
    refine wpAny_bind (wpAny_field hz' rfl (x := .ref TI) rfl ?_)
    refine wpAny_bind (wpAny_seqItems hT' rfl ?_)
    dsimp only
    refine wpAny_bind ?_
    rw [← Array.forIn_toList]
    simp only [List.forIn_cons, List.forIn_nil]
    refine wpAny_bind (wpAny_bind (wpAny_holding (D.done s _ _ st fun h' e hs ho => ?_)))
    obtain ⟨o, ho, hc⟩ := ho
    refine wpAny_bind (wpAny_isInstance (T := "StopIteration") (b := true) ⟨_, ho, hc⟩ isSubtype_stop ?_)
    exact wpAny_pure (hQ h' s.toks fun b o hb e => hs b o (fun x => hb (by simp [x])) e)
  self := fun _ _ _ _ st hQ => pyIter_map st.2.1 hQ

def two (n m : Nat) : Nat → Nat := fun i => if i = 0 then n else m
theorem LensAt.two {h : Heap} {a b : Addr} {xs ys : Array Value} (ha : h.IsTuple a xs) (hb : h.IsTuple b ys) (h1 : xs.size < 2 ^ 63) (h2 : ys.size < 2 ^ 63) : LensAt h #[.ref a, .ref b] (two xs.size ys.size) := fun i v e => by
  match i with
  | 0 => simp at e; exact ⟨a, xs, e.symm, ha, rfl, h1⟩
  | 1 => simp at e; exact ⟨b, ys, e.symm, hb, rfl, h2⟩
  | i + 2 => simp at e
theorem max_mapW {z it : Addr} {fp : List Addr} {n m : Nat} {St : Nat → Heap → Prop} {Q : Value → Shared → Prop} (W : Walks prog w A.in1 z fp [it] 2 (fun i v => ∃ t, v = .int (two n m i) t) St) (hst : St 0 s.heap) (hfp : ∀ b ∈ fp, b < s.heap.objs.size)
    (h : ∀ h' tk t, (∀ c o, c ≠ it → s.heap.get? c = some o → h'.get? c = some o) → Q (.int (max n m : Nat) t) { s with heap := h', toks := tk }) :
    wpAny (model prog w) A (call (.builtin "max") [.ref z]) Q E s := by
  refine call_max_walk (W.self 0 s _ _ hst ?_)
  refine ⟨z, fp, [it], 2, _, St, _, rfl, W, hst, hfp, by decide, CmpOf.ints_gt (fun i => (two n m i : Int)) (fun _ _ e => e), fun v h' tk hP hk => ?_⟩
  obtain ⟨t, rfl⟩ := hP
  have := h h' tk t fun c o hc e => hk c o (by simpa using hc) e
  have e : ((two n m (argBest (fun i j => decide ((two n m i : Int) > (two n m j : Int))) (2 - 1)) : Nat) : Int) = (max n m : Nat) := by
    show ((two n m (if decide ((two n m 1 : Int) > (two n m 0 : Int)) = true then 1 else 0) : Nat) : Int) = _
    have e0 : two n m 0 = n := rfl
    have e1 : two n m 1 = m := rfl
    rw [e0, e1]
    split
    · rename_i q
      have q := of_decide_eq_true q
      rw [e1]; omega
    · rename_i q
      have q := of_decide_eq_false (Bool.eq_false_iff.mpr q)
      rw [e0]; omega
  rw [e]
  exact this

theorem extend_map {I : Addr} {fp wr : List Addr} {n : Nat} {P : Nat → Value → Prop} {St : Nat → Heap → Prop} (W0 : Walks prog w A.in1 I fp wr n P St) (hT : ∀ i h, St i h → ∃ o, h.get? I = some o ∧ o.cls = .type "map") {R : Result → Shared → Prop} (S : Addr) (res : Value) (c₀ : Nat) (hst : St 0 s.heap) (hSf : S ∉ fp) (hI : I ∈ fp)
    (hS : s.heap.get? S = some { cls := .type "list", data := .seq #[] c₀ })
    (hR : ∀ s' acc' c', Moved (S :: wr) (fun a b => b = a) s s' → s'.heap.get? S = some { cls := .type "list", dict := none, data := .seq acc' c', slots := #[] } → ItemsOf P acc' n → R (.ok (.ret res)) s') (hn : n ≤ sizeLine) :
    wpAny (model prog w) A.in1 (Builtin.List.listExtendWith (.ref S) (.ref I) res)
      (fun fin s' => match fin with | .done f => R (.ok f) s' | .again c' => c'.quiet = true ∧ codeAny (model prog w) A c' R s') (fun e s' => R (.error e) s') s := by
  have hSI : S ≠ I := fun e => hSf (e ▸ hI)
  have W := W0.toS
  unfold Builtin.List.listExtendWith
  refine wpAny_bind (wpAny_typeOf (T := "map") (hT 0 _ hst) ?_)
  have h1 : Builtin.List.listSameRef (.ref S) (.ref I) = false := by simp [Builtin.List.listSameRef, hSI]
  have h2 : (Value.type "map" == Value.type "list") = false := by decide
  have h3 : (Value.type "map" == Value.type "tuple") = false := by decide
  simp only [h1, h2, h3, Bool.or_false, Bool.false_eq_true, if_false]
  refine wpAny_bind (W.self 0 _ _ _ hst ?_)
  refine wpAny_bind (wpAny_holding ?_)
  unfold Builtin.List.listLengthHint
  refine wpAny_bind (wpAny_specialOf (T := "map") (hT 0 _ hst) MF.map_no_len ?_)
  show wpAny _ A.in1 (specialOf (Value.ref I) (Str.ofString "__length_hint__") >>= _) _ _ _
  refine wpAny_bind (wpAny_specialOf (T := "map") (hT 0 _ hst) MF.map_no_hint ?_)
  refine wpAny_pure ?_
  show wpAny _ A.in1 (rule "list.extend.makes-room" >>= fun _ => Builtin.List.listTouch (.ref S) >>= fun _ =>
    again (.builtin "list.extend.loop" ⟨[.ref S, .ref I, res], []⟩)) _ _ _
  refine wpAny_bind (wpAny_rule ?_)
  refine wpAny_bind ?_
  show wpAny _ A.in1 (updateSeq S (·.push .none) >>= fun _ => updateSeq S (·.pop)) _ _ _
  refine wpAny_bind (wpAny_updateSeq hS rfl ?_)
  have hS₂ := Heap.get?_update_self (Obj.mapSeq (·.push Value.none)) hS rfl
  refine wpAny_updateSeq (hz := by seq_fits) hS₂ rfl ?_
  have hS₃ := Heap.get?_update_self (Obj.mapSeq (·.pop)) hS₂ rfl
  have oth : ∀ b o, b ≠ S → s.heap.get? b = some o → ((s.heap.update S (Obj.mapSeq (·.push Value.none))).update S (Obj.mapSeq (·.pop))).get? b = some o :=
    fun b o hb e => (Heap.get?_update_other _ _ (Ne.symm hb)).trans ((Heap.get?_update_other _ _ (Ne.symm hb)).trans e)
  refine wpAny_pure ⟨plainId_quiet F.plain_extend_loop _, codeAny_extend_loopS W hn _ hSf _ n 0 _ _ _ rfl (Nat.zero_le _)
    (W.frame 0 s _ s.toks hst (Nat.le_refl _) fun b hb o e => oth b o (fun h => hSf (h ▸ hb)) e) hS₃ (ItemsOf.nil P) fun s' acc' c' hm hS' hacc => ?_⟩
  exact hR s' acc' c' (Moved.trans W.gtrans ((Moved.refl (wr := S :: wr) (G := fun a b => b = a) W.grefl).then_heap (Nat.le_refl _) fun b o hb e => oth b o (fun h => hb (h ▸ List.mem_cons_self)) e) hm) hS' hacc

theorem call_list_map {I : Addr} {fp wr : List Addr} {n : Nat} {P : Nat → Value → Prop} {St : Nat → Heap → Prop} {Q : Value → Shared → Prop} (W : Walks prog w A.in1.in1 I fp wr n P St) (hT : ∀ i h, St i h → ∃ o, h.get? I = some o ∧ o.cls = .type "map") (hst : St 0 s.heap) (hfp : ∀ b ∈ fp, b < s.heap.objs.size) (hI : I ∈ fp)
    (hQ : ∀ h' tk acc' c', (∀ c o, c ∉ wr → s.heap.get? c = some o → h'.get? c = some o) → 
      h'.get? s.heap.objs.size = some { cls := .type "list", dict := none, data := .seq acc' c', slots := #[] } → ItemsOf P acc' n → Q (.ref s.heap.objs.size) { s with heap := h', toks := tk }) (hn : n ≤ sizeLine) :
    wpAny (model prog w) A (call (.type "list") [.ref I]) Q E s := by
  have hSf : s.heap.objs.size ∉ fp := fun hm => Nat.lt_irrefl _ (hfp _ hm)
  refine callType_codes (Q₁ := fun obj s₁ => obj = .ref s.heap.objs.size ∧ s₁ = { s with heap := s.heap.push { cls := .type "list", data := .seq #[] } }) F.called_list (F.typeCall_list_1 _) F.entry_list_init
    (code_list_new _ ⟨rfl, rfl⟩) fun obj s₁ h₁ => ?_
  obtain ⟨rfl, rfl⟩ := h₁
  have hS : (s.heap.push { cls := .type "list", data := .seq #[] }).get? s.heap.objs.size = some { cls := .type "list", data := .seq #[] } := Heap.get?_push_size _ rfl
  have hS₂ := Heap.get?_update_self (Obj.mapSeq (fun _ => (#[] : Array Value))) hS rfl
  have oth : ∀ b o, b ≠ s.heap.objs.size → (s.heap.push { cls := .type "list", data := .seq #[] }).get? b = some o → ((s.heap.push { cls := .type "list", data := .seq #[] }).update s.heap.objs.size (Obj.mapSeq (fun _ => (#[] : Array Value)))).get? b = some o :=
    fun b o hb e => (Heap.get?_update_other _ _ (Ne.symm hb)).trans e
  refine ⟨⟨_, hS, rfl⟩, F.args_list_init_2 _ _, ?_⟩
  show wpAny _ A.in1.in1 (do let old ← Builtin.List.listItems (.ref s.heap.objs.size); Builtin.List.listUpdate (.ref s.heap.objs.size) (fun _ => #[]); letGo old.toList.reverse; Builtin.List.listExtendWith (.ref s.heap.objs.size) (.ref I) .none) _ _ _
  refine wpAny_bind ?_
  unfold Builtin.List.listItems
  refine wpAny_bind (wpAny_seqItems hS rfl (wpAny_pure ?_))
  show wpAny _ A.in1.in1 (updateSeq s.heap.objs.size (fun _ => #[]) >>= fun _ => letGo (#[] : Array Value).toList.reverse >>= fun _ => Builtin.List.listExtendWith (.ref s.heap.objs.size) (.ref I) .none) _ _ _
  refine wpAny_bind (wpAny_updateSeq hS rfl ?_)
  refine wpAny_bind (wpAny_letGo ?_)
  refine extend_map (A := A.in1) W hT s.heap.objs.size .none _ (W.frame _ _ _ hst fun b hb o e => oth b o (fun h => hSf (h ▸ hb)) (Heap.get?_push_of_some _ e)) hSf hI hS₂ (fun s' acc' c' hm hS' hacc => ?_) hn
  obtain ⟨h', g', d', tk', os'⟩ := s'
  have e1 := hm.gens; have e2 := hm.drawn; have e3 := hm.os
  dsimp only at e1 e2 e3
  subst e1 e2 e3
  exact ⟨rfl, hQ h' tk' acc' c' (fun c o hc e => hm.heap c o (fun x => by
    rcases List.mem_cons.mp x with rfl | x
    · exact absurd (Heap.lt_size e) (Nat.lt_irrefl _)
    · exact hc x) (oth _ _ (fun x => absurd (Heap.lt_size e) (x ▸ Nat.lt_irrefl _)) (Heap.get?_push_of_some _ e))) hS' hacc⟩

theorem map_walk_tup {h : Heap} {z TI it l a b : Addr} {xs ys : Array Value} (hz : IsMap h z TI) (hT : IsOneT h TI (.ref it)) (hit : h.get? it = some { cls := .type "tuple_iterator", data := .fields #[.ref l, .int 0 0] })
    (hl : h.IsTuple l #[.ref a, .ref b]) (ha : h.IsTuple a xs) (hb : h.IsTuple b ys) (hx : xs.size ≤ 64) (hy : ys.size ≤ 64) (n1 : l ≠ it) (n2 : a ≠ it) (n3 : b ≠ it) (n4 : TI ≠ it) (n5 : z ≠ it) :
    ∃ fp St, (∀ A : Around, A.handled = none → Walks prog w A z fp [it] 2 (fun i v => ∃ t, v = .int (two xs.size ys.size i) t) St) ∧ St 0 h ∧ (∀ b ∈ fp, b < h.objs.size) ∧ z ∈ fp ∧ ∀ i h, St i h → ∃ o, h.get? z = some o ∧ o.cls = .type "map" := by
  refine ⟨_, _, fun A hh => Walks.mapLen (TI := TI) (refs := #[.ref a, .ref b]) (Draws.tuple (A := A.in1) hh it l n1 #[.ref a, .ref b]) (by simp) n5 n4 (fun i => ?_), ⟨⟨⟨_, hit, rfl, rfl⟩, hl⟩, hz, hT, LensAt.two ha hb (by omega) (by omega)⟩, fun c hc => ?_, by simp, fun i h st => ⟨_, st.2.1, rfl⟩⟩
  · match i with
    | 0 => simpa using n2
    | 1 => simpa using n3
    | i + 2 => simp
  · have mem : c = z ∨ c = TI ∨ c = it ∨ c = l ∨ c = a ∨ c = b := by simpa [refsOf, refOf] using hc
    obtain ⟨_, e1, _⟩ := hl
    obtain ⟨_, e2, _⟩ := ha
    obtain ⟨_, e3, _⟩ := hb
    rcases mem with rfl | rfl | rfl | rfl | rfl | rfl
    · exact Heap.lt_size hz
    · exact Heap.lt_size hT
    · exact Heap.lt_size hit
    · exact Heap.lt_size e1
    · exact Heap.lt_size e2
    · exact Heap.lt_size e3

theorem map_walk_list {h : Heap} {z TI it l a b : Addr} {xs ys : Array Value} (hz : IsMap h z TI) (hT : IsOneT h TI (.ref it)) (hit : h.get? it = some { cls := .type "list_iterator", data := .fields #[.ref l, .int 0 0] })
    (hl : h.IsList l #[.ref a, .ref b]) (ha : h.IsTuple a xs) (hb : h.IsTuple b ys) (hx : xs.size ≤ 64) (hy : ys.size ≤ 64) (n1 : l ≠ it) (n2 : a ≠ it) (n3 : b ≠ it) (n4 : TI ≠ it) (n5 : z ≠ it) :
    ∃ fp St, (∀ A : Around, A.handled = none → Walks prog w A z fp [it] 2 (fun i v => ∃ t, v = .int (two xs.size ys.size i) t) St) ∧ St 0 h ∧ (∀ b ∈ fp, b < h.objs.size) ∧ z ∈ fp ∧ ∀ i h, St i h → ∃ o, h.get? z = some o ∧ o.cls = .type "map" := by
  refine ⟨_, _, fun A hh => Walks.mapLen (TI := TI) (refs := #[.ref a, .ref b]) (Draws.list (A := A.in1) hh it l n1 #[.ref a, .ref b]) (by simp) n5 n4 (fun i => ?_), ⟨⟨⟨_, hit, rfl, rfl⟩, hl⟩, hz, hT, LensAt.two ha hb (by omega) (by omega)⟩, fun c hc => ?_, by simp, fun i h st => ⟨_, st.2.1, rfl⟩⟩
  · match i with
    | 0 => simpa using n2
    | 1 => simpa using n3
    | i + 2 => simp
  · have mem : c = z ∨ c = TI ∨ c = it ∨ c = l ∨ c = a ∨ c = b := by simpa [refsOf, refOf] using hc
    obtain ⟨_, e1, _⟩ := hl
    obtain ⟨_, e2, _⟩ := ha
    obtain ⟨_, e3, _⟩ := hb
    rcases mem with rfl | rfl | rfl | rfl | rfl | rfl
    · exact Heap.lt_size hz
    · exact Heap.lt_size hT
    · exact Heap.lt_size hit
    · exact Heap.lt_size e1
    · exact Heap.lt_size e2
    · exact Heap.lt_size e3
end
end Mine
end
set_option maxHeartbeats 4000000
/- part Mc4 -/
section
namespace Mine
theorem fillMc4 : (PySem.Challenge.rw_br0041_01 = PySem.Challenge.rw_br0041_01 ∧ hd.heap_39 = hd.heap_39) := by
  k_fill
  exact ⟨rfl, rfl⟩
section
variable {prog : Program} {w : World} {A : Around} {s : Shared} {p : Program} {loose : List Str} {mean : ExcName → Option Value} {mg mb : Str → Option Value} {g : Heap}

theorem methodCall_S {M : Model} {E : Value → Shared → Prop} {env : Env} {o : Expr} {nm : Str} {apos pos : Pos} {args : List Expr} {Q : Value → Shared → Prop}
    (h : wpAny M A (eval o env) (fun ov s₁ => wpAny M A (getAttr ov nm true) (fun f s₂ => wpAny M A (callWith pos f [] (backTo pos (starEach args env)) []) Q E s₂) E s₁) E s)
    (he : eval (.Call (.Attribute o nm apos) args [] pos) env = (do
      let ov ← eval o env
      standAt apos.atName
      let (f, first) ← holding [ov] (do pure (← getAttr ov nm true, []))
      let callPos ← pure pos
      callWith callPos f first (backTo pos (starEach args env)) []) := by rfl) :
    wpAny M A (eval (.Call (.Attribute o nm apos) args [] pos) env) Q E s := by
  rw [he]
  refine wpAny_bind (wpAny_mono h (fun ov s₁ h₁ => wpAny_bind (wpAny_standAt (wpAny_bind (wpAny_holding (wpAny_bind (wpAny_mono h₁ (fun f s₂ h₂ => ?_) fun _ _ x => x)))))) fun _ _ x => x)
  exact wpAny_pure (wpAny_bind (wpAny_pure h₂))
local macro_rules | `(tactic| walk_at "last getAttr ref") => `(tactic| (k_here; k_dflt (refine' attr_sm ?k1 ?k2 ?k4 ?k5 ?k6 ?k7 ?k9 ?k10 ?k11 ?k12 ?k13 ?k14 ?_; (case k1 => k_asm); (case k2 => k_asm); (case k4 => k_inst); (case k5 => k_is); (case k6 => k_is); (case k7 => k_is); (case k9 => k_is); (case k10 => k_is); (case k11 => decide +kernel); (case k12 => k_get); (case k13 => k_is); (case k14 => k_handed); k_whole)))
local macro_rules | `(tactic| walk_at "last eval Call Attribute") => `(tactic| (k_here; refine methodCall_S ?_))
local macro_rules | `(tactic| walk_at "eval Call Attribute") => `(tactic| (k_here; (with_reducible show wpAny _ _ (eval (Expr.Call (Expr.Attribute _ _ _) [Expr.Starred _ _] [] _) _) _ _ _); refine methodCall_S ?_))


theorem all_step {I t : Addr} {i : Nat} {items : Array Value} {v : Value} {b : Bool} {R : Result → Shared → Prop} (hh : A.handled = none) (hi : s.heap.IsTupleIter I t i) (ht : s.heap.IsTuple t items) (hx : items[i]? = some v)
    (htr : ∀ (s' : Shared) (Q : Bool → Shared → Prop) (E : Value → Shared → Prop), (∀ c o, c ≠ I → s.heap.get? c = some o → s'.heap.get? c = some o) → (∀ tk, Q b { s' with toks := tk }) → wpAny (model prog w) A.in1 (truthy v) Q E s')
    (h1 : b = true → ∀ h' tk, h'.IsTupleIter I t (i + 1) → (∀ c o, c ≠ I → s.heap.get? c = some o → h'.get? c = some o) → codeAny (model prog w) A (.builtin "all.loop" ⟨[.ref I], []⟩) R { s with heap := h', toks := tk })
    (h2 : b = false → ∀ h' tk, (∀ c o, c ≠ I → s.heap.get? c = some o → h'.get? c = some o) → R (.ok (.ret (.bool false))) { s with heap := h', toks := tk }) :
    codeAny (model prog w) A (.builtin "all.loop" ⟨[.ref I], []⟩) R s := by
  refine codeAny_builtin F.entry_all_loop ?_
  rw [Around.under_plainId F.plain_all_loop _]
  show wpAny _ A.in1 (pyNext (.ref I) >>= _) _ _ s
  refine wpAny_bind (wpAny_pyNext_tuple_item hi ht hx fun h' hi' hs => ?_)
  refine wpAny_bind (wpAny_holding (htr _ _ _ (fun c o e => hs.extBut c o e) fun tk => ?_))
  refine wpAny_bind (wpAny_letGo ?_)
  cases b with
  | true =>
    simp only [if_true]
    exact wpAny_pure ⟨plainId_quiet F.plain_all_loop _, h1 rfl h' tk hi' fun c o e => hs.extBut c o e⟩
  | false =>
    simp only [Bool.false_eq_true, if_false]
    exact wpAny_bind (wpAny_rule (wpAny_pure (h2 rfl h' tk fun c o e => hs.extBut c o e)))
theorem all_end {I t : Addr} {i : Nat} {items : Array Value} {R : Result → Shared → Prop} (hh : A.handled = none) (hi : s.heap.IsTupleIter I t i) (ht : s.heap.IsTuple t items) (hx : items[i]? = none)
    (h2 : ∀ h', (∀ c o, c ≠ I → s.heap.get? c = some o → h'.get? c = some o) → R (.ok (.ret (.bool true))) { s with heap := h' }) :
    codeAny (model prog w) A (.builtin "all.loop" ⟨[.ref I], []⟩) R s := by
  refine codeAny_builtin F.entry_all_loop ?_
  rw [Around.under_plainId F.plain_all_loop _]
  show wpAny _ A.in1 (pyNext (.ref I) >>= _) _ _ s
  exact wpAny_bind (wpAny_pyNext_tuple_end (A := A.in1) hh hi ht hx fun h' hs => wpAny_bind (wpAny_rule (wpAny_pure (h2 h' hs))))

theorem all_two {t a b : Addr} {xs ys : Array Value} {Q E : Value → Shared → Prop} (hh : A.handled = none) (ht : s.heap.IsTuple t #[.ref a, .ref b]) (ha : s.heap.IsTuple a xs) (hb : s.heap.IsTuple b ys) (hx : xs.size ≤ 64) (hy : ys.size ≤ 64)
    (h : ∀ h' tk, s.heap.StaysIn h' → Q (.bool (!xs.isEmpty && !ys.isEmpty)) { s with heap := h', toks := tk }) :
    wpAny (model prog w) A (call (.builtin "all") [.ref t]) Q E s := by
  refine call_function_tree F.kind_all F.plain_all F.entry_all (F.args_all1 _) ?_
  unfold Builtin.«all»
  refine wpAny_bind (m := oneArg "all" _) (wpAny_pure ?_)
  have old : ∀ c o, s.heap.get? c = some o → c ≠ s.heap.objs.size := fun c o e => Nat.ne_of_lt (Heap.lt_size e)
  have hat : ∀ {c : Addr} {zs : Array Value} {h' : Heap}, s.heap.IsTuple c zs → s.heap.StaysIn h' → h'.IsTuple c zs := fun x k => x.at fun o e => k _ o e
  refine wpAny_bind (wpAny_pyIter_tuple ht ?_)
  have k0 : s.heap.StaysIn (s.heap.push { cls := .type "tuple_iterator", data := .fields #[.ref t, .int 0 0] }) := fun c o e => Heap.get?_push_of_some _ e
  have truth : ∀ {c : Addr} {zs : Array Value} (s' : Shared) (Q : Bool → Shared → Prop) (E : Value → Shared → Prop), s.heap.IsTuple c zs → zs.size ≤ 64 → s.heap.StaysIn s'.heap → (∀ tk, Q (!zs.isEmpty) { s' with toks := tk }) → wpAny (model prog w) A.in1 (truthy (.ref c)) Q E s' :=
    fun s' Q E hc hz k q => truthy_tuple (hat hc k) (by omega) (q _)
  refine wpAny_pure ⟨plainId_quiet F.plain_all_loop _, all_step (b := !xs.isEmpty) hh ⟨_, Heap.get?_push_size _ rfl, rfl, rfl⟩ (hat ht k0) (v := .ref a) rfl (fun s' Q E k q => truth s' Q E ha hx (fun c o e => k c o (old c o e) (k0 c o e)) q)
    (fun e1 h1 tk1 hi1 k1 => ?_) (fun e1 h1 tk1 k1 => ?_)⟩
  · have k1' : s.heap.StaysIn h1 := fun c o e => k1 c o (old c o e) (k0 c o e)
    refine all_step (b := !ys.isEmpty) hh hi1 (hat ht k1') (v := .ref b) rfl (fun s' Q E k q => truth s' Q E hb hy (fun c o e => k c o (old c o e) (k1' c o e)) q)
      (fun e2 h2 tk2 hi2 k2 => ?_) (fun e2 h2 tk2 k2 => ?_)
    · have k2' : s.heap.StaysIn h2 := fun c o e => k2 c o (old c o e) (k1' c o e)
      refine all_end hh hi2 (hat ht k2') rfl fun h3 k3 => ?_
      have := h h3 tk2 fun c o e => k3 c o (old c o e) (k2' c o e)
      rw [e1, e2] at this
      exact this
    · have := h h2 tk2 fun c o e => k2 c o (old c o e) (k1' c o e)
      rw [e1, e2] at this
      exact this
  · have := h h1 tk1 fun c o e => k1 c o (old c o e) (k0 c o e)
    rw [e1] at this
    exact this

theorem maximum {a b : Addr} {ns ms : List Int} (ha : TupAt g a ns) (hb : TupAt g b ms) (O : On w p loose mean mg mb g s.heap) (H : Room A 1 20) :
    Pays prog w A (.call (.ref 112) ⟨[.ref a, .ref b], []⟩) s (fun v _ => ∃ t, v = .int (max ns.length ms.length : Nat) t) := by
  w_on
  intro R hR
  refine' enterRG [] (vs := [.ref a, .ref b]) (bindsR := fun D => [(Str.ofString "sequences", .ref D)]) O ?hg ?hown ?ho ?hcd ?hroom ?hv ?hp ?hgr ?hl ?body ?hcell ?c1 ?c2 ?c3
  (case hg => exact fun _ h => nomatch h)
  (case hown => exact fun _ h => nomatch h)
  (case ho => k_is)
  (case hcd => k_is)
  (case hroom => have := Room.dp (by assumption); omega)
  (case hl => exact fun _ => locs rfl)
  (case hcell => decide)
  (case c1 => exact rfl)
  (case c2 => exact rfl)
  (case c3 => exact rfl)
  (case hv => exact rfl)
  (case hp => exact rfl)
  (case hgr => exact fun _ => rfl)
  intro D h₀ L h₁ gst X T back F N l1
  (try k_lt l1)
  (try k_fold)
  k_steps
  obtain ⟨xs, hxs, zx, sx, ex⟩ := ha.tup
  obtain ⟨ys, hys, zy, sy, ey⟩ := hb.tup
  have gk : g.StaysIn h₁ := fun b o e => F.keep b o (gst b o e)
  have hD : h₁.IsTuple D #[.ref a, .ref b] := ⟨_, (N _ (.head _)).1, rfl, _, rfl⟩
  have old : ∀ c zs, h₁.IsTuple c zs → c ≠ h₁.objs.size := fun c zs e => by obtain ⟨_, e, _⟩ := e; exact Nat.ne_of_lt (Heap.lt_size e)
  have hxs₁ : h₁.IsTuple a xs := hxs.at fun o e => gk _ o e
  have hys₁ : h₁.IsTuple b ys := hys.at fun o e => gk _ o e
  refine call_map_tup hD ?_
  intro h₂ hz hT hit hsz st
  dsimp only at hz hT hit hsz st ⊢
  have F2 := fr_stay F st
  have N2 := news_stay N st
  k_steps
  obtain ⟨fp, St, W, hst, hfp, -, -⟩ := map_walk_tup (prog := prog) (w := w) hz hT hit (hD.at fun o e => st _ o e) (hxs₁.at fun o e => st _ o e) (hys₁.at fun o e => st _ o e) sx sy (old _ _ hD) (old _ _ hxs₁) (old _ _ hys₁) (Nat.ne_of_gt (Nat.lt_succ_self _)) (Nat.ne_of_gt (Nat.lt_succ_of_lt (Nat.lt_succ_self _)))
  refine max_mapW (W _ H.hh) hst hfp fun h₃ tk₃ t k => ?_
  have st3 : h₁.StaysIn h₃ := fun c o e => k c o (Nat.ne_of_lt (Heap.lt_size e)) (st c o e)
  have F3 := fr_stay F st3
  (try dsimp only)
  refine hR _ _ _ (back.keep _ F3.keep fun _ h => nomatch h) ⟨t, by rw [zx, zy]⟩

def quickV (ns ms : List Int) (v : Value) : Prop := if ns = ms then ∃ t, v = .int 0 t else if ns = [] ∨ ms = [] then ∃ t, v = .int (max ns.length ms.length : Nat) t else v = .none


theorem quick_ham {x dx a b : Addr} {ns ms : List Int} {t0 t1 t2 t3 : Tok} (ha : TupAt g a ns) (hb : TupAt g b ms) (I : Inst g s.heap x 228 dx (hamAt w t0 t1 t2 t3) 4) (O : On w p loose mean mg mb g s.heap) (H : Room A 3 60) :
    Pays prog w A (.call (.ref 150) ⟨[.ref x, .ref a, .ref b], []⟩) s (fun v _ => quickV ns ms v) := by
  w_on
  intro R hR
  have lt := I.lt
  refine' enterRG [(x, instObj 228 dx), (dx, dictOf (hamAt w t0 t1 t2 t3) 4)] (vs := [.ref a, .ref b]) (bindsR := fun D => [(Str.ofString "self", .ref x), (Str.ofString "sequences", .ref D)]) O ?hg ?hown ?ho ?hcd ?hroom ?hv ?hp ?hgr ?hl ?body ?hcell ?c1 ?c2 ?c3
  (case hg => exact own_none I)
  (case hown => exact own_at I)
  (case ho => k_is)
  (case hcd => k_is)
  (case hroom => have := Room.dp (by assumption); omega)
  (case hl => exact fun _ => locs rfl)
  (case hcell => decide)
  (case c1 => exact rfl)
  (case c2 => exact rfl)
  (case c3 => exact rfl)
  (case hv => exact rfl)
  (case hp => exact rfl)
  (case hgr => exact fun _ => rfl)
  intro D h₀ L h₁ gst X T back F N l1
  (try k_lt l1)
  (try k_fold)
  k_steps
  rename News _ _ _ _ => N
  rename Fr _ _ _ _ => F
  refine Pays.use (ident_tup (ha.keeps gst) (hb.keeps gst) (On.of X T F) (room_deep (H.less (by omega) (by omega)))) ?_
  intro v h₂ tk st hv
  subst hv
  have F2 := fr_stay F st
  have N2 := news_stay N st
  clear F N
  dsimp only at st ⊢
  by_cases e : ns = ms
  · subst e
    simp only [decide_true]
    k_steps
    (try dsimp only)
    refine hR _ _ _ (back.keep _ F2.keep (List.forall_mem_cons.mpr ⟨(N2 _ (by k_mem)).1, List.forall_mem_cons.mpr ⟨(N2 _ (by k_mem)).1, fun _ h => nomatch h⟩⟩)) ?_
    show quickV ns ns _
    rw [quickV, if_pos rfl]; exact ⟨_, rfl⟩
  · simp only [e, decide_false]
    k_steps
    obtain ⟨xs, hxs, zx, sx, ex⟩ := ha.tup
    obtain ⟨ys, hys, zy, sy, ey⟩ := hb.tup
    have gk : g.StaysIn h₂ := fun b o e => F2.keep b o (gst b o e)
    refine all_two H.hh ⟨_, (N2 _ (.head _)).1, rfl, _, rfl⟩ (hxs.at fun o e => gk _ o e) (hys.at fun o e => gk _ o e) sx sy ?_
    intro h₃ tk₃ st3
    dsimp only at st3 ⊢
    have F := fr_stay F2 st3
    have N := news_stay N2 st3
    clear F2 N2
    by_cases e2 : ns = [] ∨ ms = []
    · have e3 : (!xs.isEmpty && !ys.isEmpty) = false := by rw [ex, ey]; rcases e2 with e2 | e2 <;> simp [e2]
      rw [e3]
      k_steps
      rename News _ _ _ _ => N3
      rename Fr _ _ _ _ => F3
      refine Pays.use (maximum (ha.keeps gst) (hb.keeps gst) (On.of X T F3) (room_deep (H.less (by omega) (by omega)))) ?_
      intro v h₄ tk₄ st4 hv
      obtain ⟨t, rfl⟩ := hv
      have F4 := fr_stay F3 st4
      have N4 := news_stay N3 st4
      clear F3 N3
      (try dsimp only)
      refine hR _ _ _ (back.keep _ F4.keep (List.forall_mem_cons.mpr ⟨(N4 _ (by k_mem)).1, List.forall_mem_cons.mpr ⟨(N4 _ (by k_mem)).1, fun _ h => nomatch h⟩⟩)) ?_
      show quickV ns ms _
      rw [quickV, if_neg e, if_pos e2]
      exact ⟨_, rfl⟩
    · have e3 : (!xs.isEmpty && !ys.isEmpty) = true := by rw [ex, ey]; simpa using e2
      rw [e3]
      k_steps
      rename News _ _ _ _ => N3
      rename Fr _ _ _ _ => F3
      (try dsimp only)
      refine hR _ _ _ (back.keep _ F3.keep (List.forall_mem_cons.mpr ⟨(N3 _ (by k_mem)).1, List.forall_mem_cons.mpr ⟨(N3 _ (by k_mem)).1, fun _ h => nomatch h⟩⟩)) ?_
      show quickV ns ms _
      rw [quickV, if_neg e, if_neg e2]

theorem quick_lev {x dx a b : Addr} {ns ms : List Int} {t0 t1 t2 : Tok} (ha : TupAt g a ns) (hb : TupAt g b ms) (I : Inst g s.heap x 269 dx (levAt w t0 t1 t2) 3) (O : On w p loose mean mg mb g s.heap) (H : Room A 3 60) :
    Pays prog w A (.call (.ref 150) ⟨[.ref x, .ref a, .ref b], []⟩) s (fun v _ => quickV ns ms v) := by
  w_on
  intro R hR
  have lt := I.lt
  refine' enterRG [(x, instObj 269 dx), (dx, dictOf (levAt w t0 t1 t2) 3)] (vs := [.ref a, .ref b]) (bindsR := fun D => [(Str.ofString "self", .ref x), (Str.ofString "sequences", .ref D)]) O ?hg ?hown ?ho ?hcd ?hroom ?hv ?hp ?hgr ?hl ?body ?hcell ?c1 ?c2 ?c3
  (case hg => exact own_none I)
  (case hown => exact own_at I)
  (case ho => k_is)
  (case hcd => k_is)
  (case hroom => have := Room.dp (by assumption); omega)
  (case hl => exact fun _ => locs rfl)
  (case hcell => decide)
  (case c1 => exact rfl)
  (case c2 => exact rfl)
  (case c3 => exact rfl)
  (case hv => exact rfl)
  (case hp => exact rfl)
  (case hgr => exact fun _ => rfl)
  intro D h₀ L h₁ gst X T back F N l1
  (try k_lt l1)
  (try k_fold)
  k_steps
  rename News _ _ _ _ => N
  rename Fr _ _ _ _ => F
  refine Pays.use (ident_tup (ha.keeps gst) (hb.keeps gst) (On.of X T F) (room_deep (H.less (by omega) (by omega)))) ?_
  intro v h₂ tk st hv
  subst hv
  have F2 := fr_stay F st
  have N2 := news_stay N st
  clear F N
  dsimp only at st ⊢
  by_cases e : ns = ms
  · subst e
    simp only [decide_true]
    k_steps
    (try dsimp only)
    refine hR _ _ _ (back.keep _ F2.keep (List.forall_mem_cons.mpr ⟨(N2 _ (by k_mem)).1, List.forall_mem_cons.mpr ⟨(N2 _ (by k_mem)).1, fun _ h => nomatch h⟩⟩)) ?_
    show quickV ns ns _
    rw [quickV, if_pos rfl]; exact ⟨_, rfl⟩
  · simp only [e, decide_false]
    k_steps
    obtain ⟨xs, hxs, zx, sx, ex⟩ := ha.tup
    obtain ⟨ys, hys, zy, sy, ey⟩ := hb.tup
    have gk : g.StaysIn h₂ := fun b o e => F2.keep b o (gst b o e)
    refine all_two H.hh ⟨_, (N2 _ (.head _)).1, rfl, _, rfl⟩ (hxs.at fun o e => gk _ o e) (hys.at fun o e => gk _ o e) sx sy ?_
    intro h₃ tk₃ st3
    dsimp only at st3 ⊢
    have F := fr_stay F2 st3
    have N := news_stay N2 st3
    clear F2 N2
    by_cases e2 : ns = [] ∨ ms = []
    · have e3 : (!xs.isEmpty && !ys.isEmpty) = false := by rw [ex, ey]; rcases e2 with e2 | e2 <;> simp [e2]
      rw [e3]
      k_steps
      rename News _ _ _ _ => N3
      rename Fr _ _ _ _ => F3
      refine Pays.use (maximum (ha.keeps gst) (hb.keeps gst) (On.of X T F3) (room_deep (H.less (by omega) (by omega)))) ?_
      intro v h₄ tk₄ st4 hv
      obtain ⟨t, rfl⟩ := hv
      have F4 := fr_stay F3 st4
      have N4 := news_stay N3 st4
      clear F3 N3
      (try dsimp only)
      refine hR _ _ _ (back.keep _ F4.keep (List.forall_mem_cons.mpr ⟨(N4 _ (by k_mem)).1, List.forall_mem_cons.mpr ⟨(N4 _ (by k_mem)).1, fun _ h => nomatch h⟩⟩)) ?_
      show quickV ns ms _
      rw [quickV, if_neg e, if_pos e2]
      exact ⟨_, rfl⟩
    · have e3 : (!xs.isEmpty && !ys.isEmpty) = true := by rw [ex, ey]; simpa using e2
      rw [e3]
      k_steps
      rename News _ _ _ _ => N3
      rename Fr _ _ _ _ => F3
      (try dsimp only)
      refine hR _ _ _ (back.keep _ F3.keep (List.forall_mem_cons.mpr ⟨(N3 _ (by k_mem)).1, List.forall_mem_cons.mpr ⟨(N3 _ (by k_mem)).1, fun _ h => nomatch h⟩⟩)) ?_
      show quickV ns ms _
      rw [quickV, if_neg e, if_neg e2]

theorem quick_dlt {x dx a b : Addr} {ns ms : List Int} {t0 t1 t2 t3 : Tok} (ha : TupAt g a ns) (hb : TupAt g b ms) (I : Inst g s.heap x 310 dx (dltAt w t0 t1 t2 t3) 4) (O : On w p loose mean mg mb g s.heap) (H : Room A 3 60) :
    Pays prog w A (.call (.ref 150) ⟨[.ref x, .ref a, .ref b], []⟩) s (fun v _ => quickV ns ms v) := by
  w_on
  intro R hR
  have lt := I.lt
  refine' enterRG [(x, instObj 310 dx), (dx, dictOf (dltAt w t0 t1 t2 t3) 4)] (vs := [.ref a, .ref b]) (bindsR := fun D => [(Str.ofString "self", .ref x), (Str.ofString "sequences", .ref D)]) O ?hg ?hown ?ho ?hcd ?hroom ?hv ?hp ?hgr ?hl ?body ?hcell ?c1 ?c2 ?c3
  (case hg => exact own_none I)
  (case hown => exact own_at I)
  (case ho => k_is)
  (case hcd => k_is)
  (case hroom => have := Room.dp (by assumption); omega)
  (case hl => exact fun _ => locs rfl)
  (case hcell => decide)
  (case c1 => exact rfl)
  (case c2 => exact rfl)
  (case c3 => exact rfl)
  (case hv => exact rfl)
  (case hp => exact rfl)
  (case hgr => exact fun _ => rfl)
  intro D h₀ L h₁ gst X T back F N l1
  (try k_lt l1)
  (try k_fold)
  k_steps
  rename News _ _ _ _ => N
  rename Fr _ _ _ _ => F
  refine Pays.use (ident_tup (ha.keeps gst) (hb.keeps gst) (On.of X T F) (room_deep (H.less (by omega) (by omega)))) ?_
  intro v h₂ tk st hv
  subst hv
  have F2 := fr_stay F st
  have N2 := news_stay N st
  clear F N
  dsimp only at st ⊢
  by_cases e : ns = ms
  · subst e
    simp only [decide_true]
    k_steps
    (try dsimp only)
    refine hR _ _ _ (back.keep _ F2.keep (List.forall_mem_cons.mpr ⟨(N2 _ (by k_mem)).1, List.forall_mem_cons.mpr ⟨(N2 _ (by k_mem)).1, fun _ h => nomatch h⟩⟩)) ?_
    show quickV ns ns _
    rw [quickV, if_pos rfl]; exact ⟨_, rfl⟩
  · simp only [e, decide_false]
    k_steps
    obtain ⟨xs, hxs, zx, sx, ex⟩ := ha.tup
    obtain ⟨ys, hys, zy, sy, ey⟩ := hb.tup
    have gk : g.StaysIn h₂ := fun b o e => F2.keep b o (gst b o e)
    refine all_two H.hh ⟨_, (N2 _ (.head _)).1, rfl, _, rfl⟩ (hxs.at fun o e => gk _ o e) (hys.at fun o e => gk _ o e) sx sy ?_
    intro h₃ tk₃ st3
    dsimp only at st3 ⊢
    have F := fr_stay F2 st3
    have N := news_stay N2 st3
    clear F2 N2
    by_cases e2 : ns = [] ∨ ms = []
    · have e3 : (!xs.isEmpty && !ys.isEmpty) = false := by rw [ex, ey]; rcases e2 with e2 | e2 <;> simp [e2]
      rw [e3]
      k_steps
      rename News _ _ _ _ => N3
      rename Fr _ _ _ _ => F3
      refine Pays.use (maximum (ha.keeps gst) (hb.keeps gst) (On.of X T F3) (room_deep (H.less (by omega) (by omega)))) ?_
      intro v h₄ tk₄ st4 hv
      obtain ⟨t, rfl⟩ := hv
      have F4 := fr_stay F3 st4
      have N4 := news_stay N3 st4
      clear F3 N3
      (try dsimp only)
      refine hR _ _ _ (back.keep _ F4.keep (List.forall_mem_cons.mpr ⟨(N4 _ (by k_mem)).1, List.forall_mem_cons.mpr ⟨(N4 _ (by k_mem)).1, fun _ h => nomatch h⟩⟩)) ?_
      show quickV ns ms _
      rw [quickV, if_neg e, if_pos e2]
      exact ⟨_, rfl⟩
    · have e3 : (!xs.isEmpty && !ys.isEmpty) = true := by rw [ex, ey]; simpa using e2
      rw [e3]
      k_steps
      rename News _ _ _ _ => N3
      rename Fr _ _ _ _ => F3
      (try dsimp only)
      refine hR _ _ _ (back.keep _ F3.keep (List.forall_mem_cons.mpr ⟨(N3 _ (by k_mem)).1, List.forall_mem_cons.mpr ⟨(N3 _ (by k_mem)).1, fun _ h => nomatch h⟩⟩)) ?_
      show quickV ns ms _
      rw [quickV, if_neg e, if_neg e2]

theorem quick_dlf {x dx a b : Addr} {ns ms : List Int} {t0 t1 t2 t3 : Tok} (ha : TupAt g a ns) (hb : TupAt g b ms) (I : Inst g s.heap x 310 dx (dlfAt w t0 t1 t2 t3) 4) (O : On w p loose mean mg mb g s.heap) (H : Room A 3 60) :
    Pays prog w A (.call (.ref 150) ⟨[.ref x, .ref a, .ref b], []⟩) s (fun v _ => quickV ns ms v) := by
  w_on
  intro R hR
  have lt := I.lt
  refine' enterRG [(x, instObj 310 dx), (dx, dictOf (dlfAt w t0 t1 t2 t3) 4)] (vs := [.ref a, .ref b]) (bindsR := fun D => [(Str.ofString "self", .ref x), (Str.ofString "sequences", .ref D)]) O ?hg ?hown ?ho ?hcd ?hroom ?hv ?hp ?hgr ?hl ?body ?hcell ?c1 ?c2 ?c3
  (case hg => exact own_none I)
  (case hown => exact own_at I)
  (case ho => k_is)
  (case hcd => k_is)
  (case hroom => have := Room.dp (by assumption); omega)
  (case hl => exact fun _ => locs rfl)
  (case hcell => decide)
  (case c1 => exact rfl)
  (case c2 => exact rfl)
  (case c3 => exact rfl)
  (case hv => exact rfl)
  (case hp => exact rfl)
  (case hgr => exact fun _ => rfl)
  intro D h₀ L h₁ gst X T back F N l1
  (try k_lt l1)
  (try k_fold)
  k_steps
  rename News _ _ _ _ => N
  rename Fr _ _ _ _ => F
  refine Pays.use (ident_tup (ha.keeps gst) (hb.keeps gst) (On.of X T F) (room_deep (H.less (by omega) (by omega)))) ?_
  intro v h₂ tk st hv
  subst hv
  have F2 := fr_stay F st
  have N2 := news_stay N st
  clear F N
  dsimp only at st ⊢
  by_cases e : ns = ms
  · subst e
    simp only [decide_true]
    k_steps
    (try dsimp only)
    refine hR _ _ _ (back.keep _ F2.keep (List.forall_mem_cons.mpr ⟨(N2 _ (by k_mem)).1, List.forall_mem_cons.mpr ⟨(N2 _ (by k_mem)).1, fun _ h => nomatch h⟩⟩)) ?_
    show quickV ns ns _
    rw [quickV, if_pos rfl]; exact ⟨_, rfl⟩
  · simp only [e, decide_false]
    k_steps
    obtain ⟨xs, hxs, zx, sx, ex⟩ := ha.tup
    obtain ⟨ys, hys, zy, sy, ey⟩ := hb.tup
    have gk : g.StaysIn h₂ := fun b o e => F2.keep b o (gst b o e)
    refine all_two H.hh ⟨_, (N2 _ (.head _)).1, rfl, _, rfl⟩ (hxs.at fun o e => gk _ o e) (hys.at fun o e => gk _ o e) sx sy ?_
    intro h₃ tk₃ st3
    dsimp only at st3 ⊢
    have F := fr_stay F2 st3
    have N := news_stay N2 st3
    clear F2 N2
    by_cases e2 : ns = [] ∨ ms = []
    · have e3 : (!xs.isEmpty && !ys.isEmpty) = false := by rw [ex, ey]; rcases e2 with e2 | e2 <;> simp [e2]
      rw [e3]
      k_steps
      rename News _ _ _ _ => N3
      rename Fr _ _ _ _ => F3
      refine Pays.use (maximum (ha.keeps gst) (hb.keeps gst) (On.of X T F3) (room_deep (H.less (by omega) (by omega)))) ?_
      intro v h₄ tk₄ st4 hv
      obtain ⟨t, rfl⟩ := hv
      have F4 := fr_stay F3 st4
      have N4 := news_stay N3 st4
      clear F3 N3
      (try dsimp only)
      refine hR _ _ _ (back.keep _ F4.keep (List.forall_mem_cons.mpr ⟨(N4 _ (by k_mem)).1, List.forall_mem_cons.mpr ⟨(N4 _ (by k_mem)).1, fun _ h => nomatch h⟩⟩)) ?_
      show quickV ns ms _
      rw [quickV, if_neg e, if_pos e2]
      exact ⟨_, rfl⟩
    · have e3 : (!xs.isEmpty && !ys.isEmpty) = true := by rw [ex, ey]; simpa using e2
      rw [e3]
      k_steps
      rename News _ _ _ _ => N3
      rename Fr _ _ _ _ => F3
      (try dsimp only)
      refine hR _ _ _ (back.keep _ F3.keep (List.forall_mem_cons.mpr ⟨(N3 _ (by k_mem)).1, List.forall_mem_cons.mpr ⟨(N3 _ (by k_mem)).1, fun _ h => nomatch h⟩⟩)) ?_
      show quickV ns ms _
      rw [quickV, if_neg e, if_neg e2]
end
end Mine
end
set_option maxHeartbeats 4000000
/- part Ml -/
section
namespace Mine
/-- names' values as a list: a name may be unbound -/
def envM (ps : List (Str × Option Value)) : Str → Option Value := fun y => (ps.lookup y).getD none
noncomputable def setP (x : Str) (v : Value) : List (Str × Option Value) → List (Str × Option Value)
  | [] => [(x, some v)]
  | q :: r => if q.1 == x then (x, some v) :: r else q :: setP x v r
theorem envM_set (x : Str) (v : Value) (ps : List (Str × Option Value)) : (fun y => if y = x then some v else envM ps y) = envM (setP x v ps) := by
  funext y
  induction ps with
  | nil =>
    show _ = (List.lookup y [(x, some v)]).getD none
    by_cases e : y = x
    · rw [if_pos e, e]; simp [List.lookup]
    · rw [if_neg e]
      have : (y == x) = false := by simpa using e
      simp [List.lookup, this, envM]
  | cons q r ih =>
    obtain ⟨z, o⟩ := q
    show _ = (List.lookup y (if z == x then (x, some v) :: r else (z, o) :: setP x v r)).getD none
    have ihe : (if y = x then some v else (List.lookup y r).getD none) = (List.lookup y (setP x v r)).getD none := ih
    by_cases hz : z = x
    · subst hz
      have : (z == z) = true := by simp
      rw [this, if_pos rfl]
      by_cases e : y = z
      · subst e; simp [List.lookup]
      · have h2 : (y == z) = false := by simpa using e
        rw [if_neg e]; simp [List.lookup, h2, envM]
    · have : (z == x) = false := by simpa using hz
      rw [this]
      simp only [Bool.false_eq_true, if_false]
      by_cases e : y = z
      · subst e
        rw [if_neg hz]; simp [List.lookup, envM]
      · have h2 : (y == z) = false := by simpa using e
        simp only [List.lookup, h2]
        rw [← ihe]
        by_cases e2 : y = x
        · rw [if_pos e2, if_pos e2]
        · rw [if_neg e2, if_neg e2]
          simp [envM, List.lookup, h2]
theorem envM_of_lookup (ps : List (Str × Value)) : (fun y => List.lookup y ps) = envM (ps.map fun q => (q.1, some q.2)) := by
  funext y
  induction ps with
  | nil => rfl
  | cons q r ih =>
    have ih : List.lookup y r = (List.lookup y (r.map fun q => (q.1, some q.2))).getD none := ih
    show List.lookup y (q :: r) = (List.lookup y ((q.1, some q.2) :: r.map _)).getD none
    simp only [List.lookup]
    cases (y == q.1) <;> simp [ih]
theorem env_set {x : Str} {v : Value} {m : Str → Option Value} {ps : List (Str × Option Value)} (h : m = envM ps) : (fun y => if y = x then some v else m y) = envM (setP x v ps) := by rw [h]; exact envM_set x v ps
theorem fr_env {h₀ h : Heap} {L : Addr} {m : Str → Option Value} {ps : List (Str × Option Value)} (F : Fr h₀ L h m) (e : m = envM ps) : Fr h₀ L h (envM ps) := e ▸ F
theorem fr_then {h₀ h : Heap} {L : Addr} {m : Str → Option Value} {ps : List (Str × Option Value)} {P : Prop} (F : Fr h₀ L h m) (e : m = envM ps) (k : Fr h₀ L h (envM ps) → P) : P := k (e ▸ F)
theorem envM_nones {ps : List (Str × Option Value)} : ∀ (qs : List Str), envM (ps ++ qs.map fun y => (y, none)) = envM ps := fun qs => by
  funext y
  show (List.lookup y (ps ++ _)).getD none = (List.lookup y ps).getD none
  induction ps with
  | nil =>
    induction qs with
    | nil => rfl
    | cons z r ih =>
      simp only [List.nil_append, List.map_cons, List.lookup] at ih ⊢
      cases (y == z)
      · exact ih
      · rfl
  | cons q r ih =>
    simp only [List.cons_append, List.lookup]
    cases (y == q.1)
    · exact ih
    · rfl
theorem fr_more {h₀ h : Heap} {L : Addr} {ps : List (Str × Option Value)} (qs : List Str) (F : Fr h₀ L h (envM ps)) : Fr h₀ L h (envM (ps ++ qs.map fun y => (y, none))) := by rw [envM_nones]; exact F

/-- ps' says all that ps says -/
theorem envM_congr {ps qs : List (Str × Option Value)} (h1 : ∀ y ∈ ps.map (·.1) ++ qs.map (·.1), (ps.lookup y).getD none = (qs.lookup y).getD none) : envM ps = envM qs := by
  funext y
  show (ps.lookup y).getD none = (qs.lookup y).getD none
  by_cases h : y ∈ ps.map (·.1) ++ qs.map (·.1)
  · exact h1 y h
  · have no : ∀ rs : List (Str × Option Value), y ∉ rs.map (·.1) → rs.lookup y = none := fun rs hn => by
      induction rs with
      | nil => rfl
      | cons q r ih =>
        have h2 : (y == q.1) = false := by
          have : y ≠ q.1 := fun e => hn (by simp [e])
          simpa using this
        simp only [List.lookup, h2]
        exact ih fun hm => hn (by simp [hm])
    rw [no ps fun e => h (List.mem_append_left _ e), no qs fun e => h (List.mem_append_right _ e)]

section
variable {prog : Program} {w : World} {A : Around} {E : Value → Shared → Prop} {s : Shared} {env : Env} {h₀ : Heap} {x : Str} {body : List Stmt} {Q : Flow → Shared → Prop}

/-- the end of a turn -/
def TurnEnd {σ : Type} (h₀ : Heap) (L I : Addr) (ob : Obj) (ps : σ → List (Str × Option Value)) (Led : σ → List (Addr × Obj)) (Inv : σ → Prop) (s : Shared) (Q : Flow → Shared → Prop) (f : Flow) (s₂ : Shared) : Prop :=
  match f with
  | .ret v => Q (.ret v) s₂
  | .brk => Q .next s₂
  | _ => ∃ c h' tk, s₂ = { s with heap := h', toks := tk } ∧ Inv c ∧ Fr h₀ L h' (envM (ps c)) ∧ News h₀ L h' ((I, ob) :: Led c) ∧ ∀ p ∈ Led c, p.1 ≠ I
theorem TurnEnd.mk {σ : Type} {L I : Addr} {ob : Obj} {ps : σ → List (Str × Option Value)} {Led : σ → List (Addr × Obj)} {Inv : σ → Prop} {f : Flow} (hf : f = .next ∨ f = .cont) (c : σ) {h' : Heap} {tk : Nat}
    (hI : Inv c) (F : Fr h₀ L h' (envM (ps c))) (N : News h₀ L h' ((I, ob) :: Led c)) (ne : ∀ p ∈ Led c, p.1 ≠ I) : TurnEnd h₀ L I ob ps Led Inv s Q f { s with heap := h', toks := tk } := by
  rcases hf with rfl | rfl <;> exact ⟨c, h', tk, rfl, hI, F, N, ne⟩

theorem loop_st {σ : Type} {I : Addr} {fp : List Addr} {n : Nat} {P : Nat → Value → Prop} {St : Nat → Heap → Prop} (W : Walks prog w A I fp [I] n P St) (hI : h₀.get? I = none) (hL : env.locals ≠ I)
    (hLf : env.locals ∉ fp) (hfp : ∀ b ∈ fp, b = I ∨ ∃ o, h₀.get? b = some o) (hlive : ∀ i h, St i h → ∃ o, h.get? I = some o)
    (ps : σ → List (Str × Option Value)) (Led : σ → List (Addr × Obj)) (Inv : Nat → σ → Prop) (c₀ : σ) (hst : St 0 s.heap) (hne : ∀ p ∈ Led c₀, p.1 ≠ I) (F : Fr h₀ env.locals s.heap (envM (ps c₀))) (N : News h₀ env.locals s.heap (Led c₀)) (h0 : Inv 0 c₀)
    (turn : ∀ i v c h tk ob, i < n → P i v → Inv i c → (∀ p ∈ Led c, p.1 ≠ I) → Fr h₀ env.locals h (envM (setP x v (ps c))) → News h₀ env.locals h ((I, ob) :: Led c) →
      wpAny (model prog w) A (execs body env) (TurnEnd h₀ env.locals I ob ps Led (Inv (i + 1)) { s with heap := h, toks := tk } Q) E { s with heap := h, toks := tk })
    (done : ∀ c h tk, Inv n c → Fr h₀ env.locals h (envM (ps c)) → News h₀ env.locals h (Led c) → Q .next { s with heap := h, toks := tk }) :
    LoopAtV prog w A h₀ env x body Q E (.ref I) s := by
  have wr1 : ∀ (c : σ), (∀ p ∈ Led c, p.1 ≠ I) → ∀ p ∈ Led c, p.1 ∉ [I] := fun c h p hp hm => h p hp (List.mem_singleton.mp hm)
  refine ⟨I, fp, [I], n, P, St, envM (ps c₀), Led c₀, (fun i m nx => ∃ c, m = envM (ps c) ∧ nx = Led c ∧ Inv i c), rfl, W, hLf, (fun b hb => List.mem_singleton.mp hb ▸ hI), wr1 _ hne, hst, F, N, ⟨c₀, rfl, rfl, h0⟩, ?_, ?_⟩
  · rintro i v m₁ nx s₁ own ⟨hh, tk, rfl⟩ hin hP ⟨c, rfl, rfl, hinv⟩ hoff hsub hget hown hst₁ F₁ N₁
    obtain ⟨ob, hob⟩ := hlive _ _ hst₁
    have hmem : (I, ob) ∈ own := hown I (W.sub I (List.mem_singleton.mpr rfl)) hI ob hob
    rw [envM_set] at F₁
    have only : ∀ q ∈ own, q = (I, ob) := fun q hq => by
      have e1 : q.1 = I := by
        rcases hfp q.1 (hsub q hq) with e | ⟨o, e⟩
        · exact e
        · have := (N₁ q (List.mem_append_left _ hq)).2.2
          rw [e] at this; cases this
      have e2 := hget q hq
      rw [e1] at e2
      have e3 : q.2 = ob := (Option.some.inj (e2.symm.trans hob))
      exact Prod.ext e1 e3
    have N₂ : News h₀ env.locals hh ((I, ob) :: Led c) := fun q hq => by
      rcases List.mem_cons.mp hq with rfl | hq
      · exact N₁ _ (List.mem_append_left _ hmem)
      · exact N₁ _ (List.mem_append_right _ hq)
    refine wpAny_mono (turn i v c hh tk ob hin hP hinv (fun p hp e => hoff p hp (List.mem_singleton.mpr e)) F₁ N₂) (fun f s₂ p => ?_) fun _ _ e => e
    have fin : (∃ c h' tk', s₂ = { ({ s with heap := hh, toks := tk } : Shared) with heap := h', toks := tk' } ∧ Inv (i + 1) c ∧ Fr h₀ env.locals h' (envM (ps c)) ∧ News h₀ env.locals h' ((I, ob) :: Led c) ∧ ∀ p ∈ Led c, p.1 ≠ I) →
        LoopStepU h₀ env.locals [I] own (fun m nx => ∃ c, m = envM (ps c) ∧ nx = Led c ∧ Inv (i + 1) c) { s with heap := hh, toks := tk } .next s₂ := by
      rintro ⟨c', h', tk', rfl, hi, F', N', ne⟩
      refine .intro F' (fun q hq => ?_) (wr1 c' ne) ⟨c', rfl, rfl, hi⟩
      rcases List.mem_append.mp hq with hq | hq
      · rw [only q hq]; exact N' _ (.head _)
      · exact N' _ (.tail _ hq)
    cases f with
    | ret v => exact .ret p
    | brk => exact .brk p
    | next => exact .next (fin p)
    | cont => exact .cont (fin p)
  · rintro h' tk m' nx F' N' _ ⟨c, rfl, rfl, hi⟩
    exact done c h' tk hi F' N'

/-- for x in range(a, b) -/
theorem loop_range {σ : Type} {r : Addr} {a₀ b₀ : Int} {t₀ u₀ v₀ : Tok} (n : Nat) (ps : σ → List (Str × Option Value)) (Led : σ → List (Addr × Obj)) (Inv : Nat → σ → Prop) (c₀ : σ)
    (hh : A.handled = none) (hr : IsRange s.heap r a₀ b₀ 1 t₀ u₀ v₀) (hsmall : Builtin.Range.small a₀ b₀ 1 = true) (hn : Builtin.Range.rangeSize a₀ b₀ 1 = (n : Int)) (F : Fr h₀ env.locals s.heap (envM (ps c₀))) (N : News h₀ env.locals s.heap (Led c₀)) (h0 : Inv 0 c₀)
    (turn : ∀ I i t c h tk ob, i < n → Inv i c → (∀ p ∈ Led c, p.1 ≠ I) → Fr h₀ env.locals h (envM (setP x (.int (a₀ + (i : Nat)) t) (ps c))) → News h₀ env.locals h ((I, ob) :: Led c) →
      wpAny (model prog w) A (execs body env) (TurnEnd h₀ env.locals I ob ps Led (Inv (i + 1)) { s with heap := h, toks := tk } Q) E { s with heap := h, toks := tk })
    (done : ∀ c h tk, Inv n c → Fr h₀ env.locals h (envM (ps c)) → News h₀ env.locals h (Led c) → Q .next { s with heap := h, toks := tk }) :
    wpAny (model prog w) A (pyIter (.ref r)) (fun it s₂ => LoopAtV prog w A h₀ env x body Q E it s₂) E s := by
  refine wpAny_pyIter_range hr hsmall ?_
  have hLI : env.locals ≠ s.heap.objs.size := Nat.ne_of_lt F.ns.lt
  refine loop_st (σ := σ) (Walks.range hh s.heap.objs.size a₀ 1 n) (next_is_new F) hLI (fun hm => hLI (List.mem_singleton.mp hm)) (fun b hb => .inl (List.mem_singleton.mp hb)) (fun i h st => ⟨_, st⟩) ps Led Inv c₀
    (by show IsRangeIter _ _ _ _ _; rw [hn]; simpa using Heap.get?_push_size _ rfl) (fun p hp e => ?_) (F.push _) (fun p hp => ⟨Heap.get?_push_of_some _ (N p hp).1, (N p hp).2⟩) h0 ?_ (fun c h tk => done c h tk)
  · exact absurd (Heap.lt_size (N p hp).1) (e ▸ Nat.lt_irrefl _)
  · rintro i v c h tk ob hi ⟨t, rfl⟩ hinv ne F' N'
    have e1 : a₀ + (i : Int) * 1 = a₀ + (i : Int) := by omega
    rw [e1] at F'
    exact turn _ i t c h tk ob hi hinv ne F' N'

theorem ints_of {acc : Array Value} {n : Nat} {f : Nat → Int} (h : ItemsOf (fun i v => ∃ t, v = .int (f i) t) acc n) : IntsAre acc.toList ((List.range n).map f) := by
  obtain ⟨acc⟩ := acc
  obtain ⟨h1, h2⟩ := h
  replace h2 : ∀ (j : Nat) v, acc[j]? = some v → ∃ t, v = .int (f j) t := fun j v e => h2 j v (by simpa using e)
  replace h1 : acc.length = n := by simpa using h1
  show IntsAre acc _
  induction n generalizing acc f with
  | zero => cases acc with
    | nil => exact .nil
    | cons _ _ => simp at h1
  | succ n ih => cases acc with
    | nil => simp at h1
    | cons v r =>
      obtain ⟨t, rfl⟩ := h2 0 v rfl
      rw [List.range_succ_eq_map, List.map_cons, List.map_map]
      exact .cons _ t (ih (f := f ∘ Nat.succ) r (fun j v e => h2 (j + 1) v (by simpa using e)) (by simpa using h1))

theorem news_add {h₀ h h' : Heap} {L : Addr} {m : Str → Option Value} {news : List (Addr × Obj)} {ob : Obj} (F : Fr h₀ L h m) (N : News h₀ L h news) (st : h.StaysIn h') (e : h'.get? h.objs.size = some ob) : News h₀ L h' ((h.objs.size, ob) :: news) := fun q hq => by
  rcases List.mem_cons.mp hq with rfl | hq
  · exact ⟨e, (Nat.ne_of_lt F.ns.lt).symm, next_is_new F⟩
  · exact ⟨st _ _ (N q hq).1, (N q hq).2⟩
theorem news_lt {h₀ h : Heap} {L : Addr} {news : List (Addr × Obj)} (N : News h₀ L h news) : ∀ p ∈ news, p.1 < h.objs.size := fun q hq => Heap.lt_size (N q hq).1

theorem list_range_N {L : Addr} {m : Str → Option Value} {news : List (Addr × Obj)} {r : Addr} {a b : Int} {t u v : Tok} {Q : Value → Shared → Prop} (hh : A.handled = none) (F : Fr h₀ L s.heap m) (N : News h₀ L s.heap news) (hr : IsRange s.heap r a b 1 t u v) (hab : a ≤ b)
    (hsmall : Builtin.Range.small a b 1 = true) (hlen : b - a ≤ 2 ^ 24)
    (h : ∀ D h' tk vs k, Fr h₀ L h' m → News h₀ L h' ((D, listOf vs.toArray k) :: news) → (∀ p ∈ news, p.1 < D) → IntsAre vs ((List.range (b - a).toNat).map fun (i : Nat) => a + (i : Int)) → Q (.ref D) { s with heap := h', toks := tk }) :
    wpAny (model prog w) A (call (.type "list") [.ref r]) Q E s := by
  refine call_list_range (n := (b - a).toNat) hh hr hsmall ?_ (by omega) fun h' tk acc c st hS hI => ?_
  · unfold Builtin.Range.rangeSize
    simp only [show (1 : Int) > 0 by decide, if_true]
    split <;> omega
  · have hI' : ItemsOf (fun i v => ∃ t, v = .int (a + (i : Int)) t) acc (b - a).toNat := by simpa using hI
    have e : acc = acc.toList.toArray := by simp
    rw [e] at hS
    exact h _ h' tk acc.toList c (fr_stay F st) (news_add F N st hS) (news_lt N) (ints_of hI')
theorem range_size {a b : Int} {n : Nat} (h : a ≤ b) (e : (n : Int) = b - a) : Builtin.Range.rangeSize a b 1 = (n : Int) := by
  unfold Builtin.Range.rangeSize
  simp only [show (1 : Int) > 0 by decide, if_true]
  split <;> omega
theorem news_sub {h₀ h : Heap} {L : Addr} {news : List (Addr × Obj)} (N : News h₀ L h news) (news' : List (Addr × Obj)) (e : ∀ q ∈ news', q ∈ news) : News h₀ L h news' := fun q hq => N q (e q hq)
theorem unpack_tup {t : Addr} {items : Array Value} {n : Nat} {Q : List Value → Shared → Prop} (hh : A.handled = none) (ht : s.heap.IsTuple t items) (hn : items.size = n) (h : ∀ h', s.heap.StaysIn h' → Q items.toList { s with heap := h' }) :
    wpAny (model prog w) A (unpackItems (.ref t) n none) Q E s := by
  subst hn
  exact wpAny_unpackItems_tuple hh ht fun h' k => h h' fun c o e => k c o (Nat.ne_of_lt (Heap.lt_size e)) e
theorem unpackN {L : Addr} {m : Str → Option Value} {news : List (Addr × Obj)} {D : Addr} {items : Array Value} {k n : Nat} {Q : List Value → Shared → Prop} (hh : A.handled = none) (F : Fr h₀ L s.heap m) (N : News h₀ L s.heap news) (hm : (D, ({ cls := .type "tuple", data := .seq items k } : Obj)) ∈ news) (hn : items.size = n)
    (h : ∀ h', Fr h₀ L h' m → News h₀ L h' news → Q items.toList { s with heap := h' }) :
    wpAny (model prog w) A (unpackItems (.ref D) n none) Q E s :=
  unpack_tup hh ⟨_, (N _ hm).1, rfl, _, rfl⟩ hn fun h' st => h h' (fr_stay F st) (news_stay N st)
end
end Mine
end
set_option maxHeartbeats 4000000
/- part Mn -/
section
namespace Mine
section
variable {prog : Program} {w : World} {A : Around} {E : Value → Shared → Prop} {s : Shared}
theorem args_min4 (a b c d : Value) : argsOk "min" ⟨[a, b, c, d], []⟩ := by unfold argsOk; kernel_rfl

theorem min_tup {xs : Array (Int × Tok)} {vs : List Value} {Q : Value → Shared → Prop} (hh : A.handled = none) (hv : vs.toArray = intItems xs) (h0 : 0 < xs.size) (ho : argsOk "min" ⟨vs, []⟩) (h2 : 2 ≤ vs.length) (hz : vs.length ≤ 64)
    (h : ∀ i t h' tk, i < xs.size → (∀ j, j < xs.size → numAt xs i ≤ numAt xs j) → s.heap.StaysIn h' → Q (.int (numAt xs i) t) { s with heap := h', toks := tk }) :
    wpAny (model prog w) A (call (.builtin "min") vs) Q E s := by
  rcases vs with _ | ⟨v1, _ | ⟨v2, r⟩⟩
  · exact absurd h2 (by simp)
  · exact absurd h2 (by simp)
  have hT : (s.heap.push { cls := .type "tuple", data := .seq (v1 :: v2 :: r).toArray }).IsTuple s.heap.objs.size (intItems xs) := ⟨_, Heap.get?_push_size _ rfl, rfl, 0, by rw [hv]⟩
  have hname : (toString "min" ++ toString ".loop" : String) = "min.loop" := by decide
  refine call_function_tree F.kind_min F.plain_min F.entry_min ho ?_
  show wpAny _ A.in1 (Builtin.Builtins.bindParams "min" ["key", "default"] 0 ⟨[], []⟩ >>= _) _ _ s
  refine wpAny_bind (wpAny_of_eq (show Builtin.Builtins.bindParams "min" ["key", "default"] 0 ⟨[], []⟩ = pure [none, none] from rfl) ?_)
  show wpAny _ A.in1 (newTuple (v1 :: v2 :: r) >>= _) _ _ s
  refine wpAny_bind (wpAny_newObj_type ?_ (by have hz' : r.length ≤ 62 := (by simpa using hz); have : (2:Nat)^24 ≤ sizeLine := (by decide); first | size_fits | (show (Array.size _) ≤ sizeLine; simp; omega) | (simp; omega)))
  refine wpAny_bind (wpAny_pyIter_tuple hT ?_)
  have hsz : (s.heap.push { cls := .type "tuple", data := .seq (v1 :: v2 :: r).toArray }).objs.size = s.heap.objs.size + 1 := Heap.size_push ..
  have W := Walks.tuple (prog := prog) (w := w) (A := A.in1) hh (s.heap.push { cls := .type "tuple", data := .seq (v1 :: v2 :: r).toArray }).objs.size s.heap.objs.size (by rw [hsz]; exact Nat.ne_of_lt (Nat.lt_succ_self _)) (intItems xs)
  refine wpAny_bind (wpAny_newObj_type ?_)
  rw [hname]
  have hpos : 0 < (intItems xs).size := by simpa [intItems] using h0
  refine wpAny_pure ⟨plainId_quiet F.plain_min_loop _, codeAny_min_loop_first W _ (CmpOf.ints_lt (numAt xs) (fun _ _ => intItems_at)) (Heap.objs (Heap.push (s.heap.push { cls := .type "tuple", data := .seq (v1 :: v2 :: r).toArray }) _)).size ?_ hpos ⟨⟨_, Heap.get?_push_of_some _ (Heap.get?_push_size _ rfl), rfl, rfl⟩, (hT.push _).push _⟩ (Heap.get?_push_size _ rfl) fun v h' tk hP hk => ?_⟩
  · intro hm
    rcases List.mem_cons.mp hm with e | hm
    · rw [Heap.size_push] at e; exact absurd e (Nat.succ_ne_self _)
    · have e := List.mem_singleton.mp hm
      rw [Heap.size_push, hsz] at e; exact absurd e (Nat.ne_of_gt (Nat.lt_succ_of_lt (Nat.lt_succ_self _)))
  · obtain ⟨t, rfl⟩ := intItems_at hP
    obtain ⟨a1, a2⟩ := argBest_lt (numAt xs) ((intItems xs).size - 1)
    have hs : (intItems xs).size = xs.size := by simp [intItems]
    refine h _ t h' tk (by rw [hs] at a1 ⊢; omega) (fun j hj => a2 j (by omega)) fun c o e => ?_
    have hc := Heap.lt_size e
    refine hk c o (fun hm => ?_) (fun e1 => ?_) (Heap.get?_push_of_some _ (Heap.get?_push_of_some _ (Heap.get?_push_of_some _ e)))
    · rw [List.mem_singleton.mp hm, hsz] at hc; exact absurd hc (Nat.not_lt.mpr (Nat.le_succ _))
    · rw [e1, Heap.size_push, hsz] at hc; exact absurd hc (Nat.not_lt.mpr (Nat.le_succ_of_le (Nat.le_succ _)))

theorem min2 {a b : Int} {t u : Tok} {Q : Value → Shared → Prop} (hh : A.handled = none) (h : ∀ h' tk t, s.heap.StaysIn h' → Q (.int (min a b) t) { s with heap := h', toks := tk }) :
    wpAny (model prog w) A (call (.builtin "min") [.int a t, .int b u]) Q E s := by
  refine min_tup (xs := #[(a, t), (b, u)]) hh (by simp [intItems]) (by simp) (F.args_min2 _ _) (by simp) (by simp) fun i t' h' tk hi hm st => ?_
  have h0 := hm 0 (by simp)
  have h1 := hm 1 (by simp)
  have := h h' tk t' st
  have e : min a b = numAt #[(a, t), (b, u)] i := by
    match i, hi with
    | 0, _ => simp [numAt] at h0 h1 ⊢; omega
    | 1, _ => simp [numAt] at h0 h1 ⊢; omega
  rw [e] at this; exact this
theorem min3 {a b c : Int} {t u x : Tok} {Q : Value → Shared → Prop} (hh : A.handled = none) (h : ∀ h' tk t, s.heap.StaysIn h' → Q (.int (min (min a b) c) t) { s with heap := h', toks := tk }) :
    wpAny (model prog w) A (call (.builtin "min") [.int a t, .int b u, .int c x]) Q E s := by
  refine min_tup (xs := #[(a, t), (b, u), (c, x)]) hh (by simp [intItems]) (by simp) (F.args_min3 _ _ _) (by simp) (by simp) fun i t' h' tk hi hm st => ?_
  have h0 := hm 0 (by simp)
  have h1 := hm 1 (by simp)
  have h2 := hm 2 (by simp)
  have := h h' tk t' st
  have e : min (min a b) c = numAt #[(a, t), (b, u), (c, x)] i := by
    match i, hi with
    | 0, _ => simp [numAt] at h0 h1 h2 ⊢; omega
    | 1, _ => simp [numAt] at h0 h1 h2 ⊢; omega
    | 2, _ => simp [numAt] at h0 h1 h2 ⊢; omega
  rw [e] at this; exact this
theorem min4 {a b c d : Int} {t u x y : Tok} {Q : Value → Shared → Prop} (hh : A.handled = none) (h : ∀ h' tk t, s.heap.StaysIn h' → Q (.int (min (min (min a b) c) d) t) { s with heap := h', toks := tk }) :
    wpAny (model prog w) A (call (.builtin "min") [.int a t, .int b u, .int c x, .int d y]) Q E s := by
  refine min_tup (xs := #[(a, t), (b, u), (c, x), (d, y)]) hh (by simp [intItems]) (by simp) (args_min4 _ _ _ _) (by simp) (by simp) fun i t' h' tk hi hm st => ?_
  have h0 := hm 0 (by simp)
  have h1 := hm 1 (by simp)
  have h2 := hm 2 (by simp)
  have h3 := hm 3 (by simp)
  have := h h' tk t' st
  have e : min (min (min a b) c) d = numAt #[(a, t), (b, u), (c, x), (d, y)] i := by
    match i, hi with
    | 0, _ => simp [numAt] at h0 h1 h2 h3 ⊢; omega
    | 1, _ => simp [numAt] at h0 h1 h2 h3 ⊢; omega
    | 2, _ => simp [numAt] at h0 h1 h2 h3 ⊢; omega
    | 3, _ => simp [numAt] at h0 h1 h2 h3 ⊢; omega
  rw [e] at this; exact this
theorem min2N {a b : Int} {t u : Tok} {h₀ : Heap} {L : Addr} {m : Str → Option Value} {news : List (Addr × Obj)} {Q : Value → Shared → Prop} (hh : A.handled = none) (F : Fr h₀ L s.heap m) (N : News h₀ L s.heap news) (h : ∀ h' tk t, Fr h₀ L h' m → News h₀ L h' news → Q (.int (min a b) t) { s with heap := h', toks := tk }) :
    wpAny (model prog w) A (call (.builtin "min") [.int a t, .int b u]) Q E s := min2 hh fun h' tk t st => h h' tk t (fr_stay F st) (news_stay N st)
theorem min3N {a b c : Int} {t u x : Tok} {h₀ : Heap} {L : Addr} {m : Str → Option Value} {news : List (Addr × Obj)} {Q : Value → Shared → Prop} (hh : A.handled = none) (F : Fr h₀ L s.heap m) (N : News h₀ L s.heap news) (h : ∀ h' tk t, Fr h₀ L h' m → News h₀ L h' news → Q (.int (min (min a b) c) t) { s with heap := h', toks := tk }) :
    wpAny (model prog w) A (call (.builtin "min") [.int a t, .int b u, .int c x]) Q E s := min3 hh fun h' tk t st => h h' tk t (fr_stay F st) (news_stay N st)
theorem min4N {a b c d : Int} {t u x y : Tok} {h₀ : Heap} {L : Addr} {m : Str → Option Value} {news : List (Addr × Obj)} {Q : Value → Shared → Prop} (hh : A.handled = none) (F : Fr h₀ L s.heap m) (N : News h₀ L s.heap news) (h : ∀ h' tk t, Fr h₀ L h' m → News h₀ L h' news → Q (.int (min (min (min a b) c) d) t) { s with heap := h', toks := tk }) :
    wpAny (model prog w) A (call (.builtin "min") [.int a t, .int b u, .int c x, .int d y]) Q E s := min4 hh fun h' tk t st => h h' tk t (fr_stay F st) (news_stay N st)
end
end Mine
end
set_option maxHeartbeats 4000000
/- part Lv -/
section
namespace Mine
/-- the code's matrix -/
noncomputable def levT (f : Nat → Nat → Bool) : Nat → Nat → Int
  | 0, c => c
  | r + 1, 0 => r + 1
  | r + 1, c + 1 => min (min (levT f r c + (if f r c then 0 else 1)) (levT f r (c + 1) + 1)) (levT f (r + 1) c + 1)
def eqAt (ns ms : List Int) (r c : Nat) : Bool := ns.getD r 0 == ms.getD c 0
noncomputable abbrev levRow (f : Nat → Nat → Bool) (M r : Nat) : List Int := (List.range (M + 1)).map fun c => levT f r c
/-- a row that is written up to c -/
noncomputable abbrev levPart (f : Nat → Nat → Bool) (M r c : Nat) : List Int := (List.range (M + 1)).map fun j => if j ≤ c then levT f r j else 0

theorem getD_map {f : Nat → Int} {n k : Nat} (h : k < n) : ((List.range n).map f).getD k 0 = f k := by simp [h]
theorem lev_step {ns ms : List Int} {i j : Nat} (hj : j < ms.length) : (List.map (fun q => if q = (1 + (j : Int)).toNat then min (min (levT (eqAt ns ms) i (1 + (j : Int) - 1).toNat + if (!decide (ns.getD (1 + (i : Int) - 1).toNat 0 = ms.getD (1 + (j : Int) - 1).toNat 0)) = true then 1 else 0) (levT (eqAt ns ms) i (1 + (j : Int)).toNat + 1)) ((if (1 + (j : Int) - 1).toNat ≤ j then levT (eqAt ns ms) (i + 1) (1 + (j : Int) - 1).toNat else 0) + 1) else if q ≤ j then levT (eqAt ns ms) (i + 1) q else 0) (List.range (ms.length + 1))) = levPart (eqAt ns ms) ms.length (i + 1) (j + 1) := by
  have e1 : (1 + (j : Int)).toNat = j + 1 := by omega
  have e2 : (1 + (j : Int) - 1).toNat = j := by omega
  have e3 : (1 + (i : Int) - 1).toNat = i := by omega
  rw [e1, e2, e3]
  apply List.map_congr_left
  intro q _
  by_cases h : q = j + 1
  · subst h
    rw [if_pos rfl, if_pos (Nat.le_refl (j + 1)), if_pos (Nat.le_refl j)]
    have e : levT (eqAt ns ms) (i + 1) (j + 1) = min (min (levT (eqAt ns ms) i j + (if eqAt ns ms i j then 0 else 1)) (levT (eqAt ns ms) i (j + 1) + 1)) (levT (eqAt ns ms) (i + 1) j + 1) := by rw [levT]
    rw [e]
    have e4 : (if (!decide (ns.getD i 0 = ms.getD j 0)) = true then (1 : Int) else 0) = if eqAt ns ms i j then 0 else 1 := by
      unfold eqAt
      by_cases z : ns.getD i 0 = ms.getD j 0 <;> simp [z]
    rw [e4]
  · rw [if_neg h]
    by_cases z : q ≤ j
    · rw [if_pos z, if_pos (by omega)]
    · rw [if_neg z, if_neg (by omega)]
theorem lev_first {f : Nat → Nat → Bool} {M i : Nat} : [1 + (i : Int)] ++ (List.replicate ((M : Int) + 1 - 1).toNat [(0 : Int)]).flatten = levPart f M (i + 1) 0 := by
  have e : ((M : Int) + 1 - 1).toNat = M := by omega
  rw [e]
  have e2 : (List.replicate M [(0 : Int)]).flatten = List.replicate M 0 := by induction M with
    | zero => rfl
    | succ n ih => rw [List.replicate_succ, List.flatten_cons, ih (by omega), List.replicate_succ]; rfl
  rw [e2]
  show _ = (List.range (M + 1)).map _
  rw [List.range_succ_eq_map, List.map_cons, List.map_map]
  show (1 + (i : Int)) :: List.replicate M 0 = _
  congr 1
  · rw [if_pos (Nat.le_refl 0), levT]; omega
  · apply List.ext_getElem (by simp)
    intro k h1 h2
    simp
theorem lev_last {f : Nat → Nat → Bool} {M i : Nat} : levPart f M i M = levRow f M i := by
  apply List.map_congr_left
  intro q hq
  rw [if_pos (by have := List.mem_range.mp hq; omega)]
theorem lev_zero {f : Nat → Nat → Bool} {M : Nat} : ((List.range ((M : Int) + 1 - 0).toNat).map fun (i : Nat) => 0 + (i : Int)) = levRow f M 0 := by
  have e : ((M : Int) + 1 - 0).toNat = M + 1 := by omega
  rw [e]
  apply List.map_congr_left
  intro q _
  rw [levT]; omega
theorem lev_end {f : Nat → Nat → Bool} {M r : Nat} : (levRow f M r).getD (-1 + ((levRow f M r).length : Int)).toNat 0 = levT f r M := by
  have e : (-1 + ((levRow f M r).length : Int)).toNat = M := by
    have : (levRow f M r).length = M + 1 := by simp [levRow]
    omega
  rw [e, getD_map (by omega)]
end Mine
end
set_option maxHeartbeats 4000000
/- part Mc5 -/
section
namespace Mine
theorem fillMc5 : (PySem.Challenge.rw_br0041_01 = PySem.Challenge.rw_br0041_01 ∧ hd.heap_39 = hd.heap_39) := by
  k_fill
  exact ⟨rfl, rfl⟩
section
variable {prog : Program} {w : World} {A : Around} {s : Shared} {p : Program} {loose : List Str} {mean : ExcName → Option Value} {mg mb : Str → Option Value} {g : Heap}
theorem len_TupAt {h₀ : Heap} {L a : Addr} {m : Str → Option Value} {ns : List Int} {Q E : Value → Shared → Prop} (F : Fr h₀ L s.heap m) (ha : TupAt h₀ a ns) (h : ∀ t tk, Q (.int ns.length t) { s with toks := tk }) :
    wpAny (model prog w) A (call (.builtin "len") [.ref a]) Q E s := by
  obtain ⟨vs, e, i, z⟩ := ha
  have hl : vs.length = ns.length := i.length
  have e' : IsTup s.heap a vs.toArray := e.keeps F.keep
  refine PyProof.Rows.len_tuple e' (by simp [hl]; omega) ?_
  have : (vs.toArray.size : Int) = ns.length := by simp [hl]
  rw [this]
  exact h _ _
theorem getItem_TupAt {h₀ : Heap} {L a : Addr} {m : Str → Option Value} {ns : List Int} {k : Int} {u : Tok} {Q E : Value → Shared → Prop} (F : Fr h₀ L s.heap m) (ha : TupAt h₀ a ns) (hk : 0 ≤ k ∧ k < ns.length)
    (h : ∀ t, Q (.int (ns.getD k.toNat 0) t) s) : wpAny (model prog w) A (getItem (.ref a) (.int k u)) Q E s := by
  obtain ⟨vs, e, i, z⟩ := ha
  have hl : vs.length = ns.length := i.length
  have e' : IsTup s.heap a vs.toArray := e.keeps F.keep
  have hlt : k.toNat < ns.length := by omega
  obtain ⟨t, hx⟩ := i.get k.toNat ns[k.toNat] (by simp [hlt])
  have e1 : ns.getD k.toNat 0 = ns[k.toNat] := by simp [hlt]
  have := h t
  rw [e1] at this
  refine PyProof.Rows.getItem_tuple (j := k.toNat) (x := .int ns[k.toNat] t) e' (by omega) (by omega) ?_ (by simpa using hx) this
  simp [seqIndex?, hl]
  omega
theorem item_TupAt {h₀ : Heap} {L a : Addr} {m : Str → Option Value} {ns : List Int} {k : Int} {u : Tok} {value slice : Expr} {Q E : Value → Shared → Prop} (F : Fr h₀ L s.heap m) (ha : TupAt h₀ a ns) (hk : 0 ≤ k ∧ k < ns.length)
    (h : ∀ t, Q (.int (ns.getD k.toNat 0) t) s) (hs : subscripted slice false (.ref a) (.int k u) = operate [.ref a, .int k u] (getItem (.ref a) (.int k u)) := by with_unfolding_all rfl) : wpAny (model prog w) A (subscriptTail value slice (.ref a) (.int k u)) Q E s := by
  have e' : IsTup s.heap a ha.choose.toArray := ha.choose_spec.1.keeps F.keep
  exact tail_any e'.typeIs slot_tuple_getitem.lookup (getItem_TupAt F ha hk h) hs
theorem item_fn {h₀ : Heap} {L l : Addr} {news : List (Addr × Obj)} {vs : List Value} {f : Nat → Int} {n c : Nat} {k : Int} {u : Tok} {value slice : Expr} {Q E : Value → Shared → Prop} (N : News h₀ L s.heap news) (hm : (l, listOf vs.toArray c) ∈ news) (hi : IntsAre vs ((List.range n).map f)) (hk : 0 ≤ k ∧ k < n ∧ n ≤ 1000)
    (h : ∀ t, Q (.int (f k.toNat) t) s) (hs : subscripted slice false (.ref l) (.int k u) = operate [.ref l, .int k u] (getItem (.ref l) (.int k u)) := by with_unfolding_all rfl) : wpAny (model prog w) A (subscriptTail value slice (.ref l) (.int k u)) Q E s := by
  refine item_list_intsR ⟨_, (N _ hm).1, rfl, c, rfl⟩ hi hk.1 (by simpa using hk.2.1) (by omega) (fun t => ?_) hs
  have : ((List.range n).map f).getD k.toNat 0 = f k.toNat := by
    have h1 : k.toNat < n := by omega
    simp [h1]
  rw [this]
  exact h t
theorem item_neg {h₀ : Heap} {L l : Addr} {news : List (Addr × Obj)} {vs : List Value} {ns : List Int} {c : Nat} {k : Int} {u : Tok} {value slice : Expr} {Q E : Value → Shared → Prop} (N : News h₀ L s.heap news) (hm : (l, listOf vs.toArray c) ∈ news) (hi : IntsAre vs ns) (hk : k < 0 ∧ -(ns.length : Int) ≤ k ∧ -1 ≤ k)
    (h : ∀ t, Q (.int (ns.getD (k + ns.length).toNat 0) t) s) (hs : subscripted slice false (.ref l) (.int k u) = operate [.ref l, .int k u] (getItem (.ref l) (.int k u)) := by with_unfolding_all rfl) : wpAny (model prog w) A (subscriptTail value slice (.ref l) (.int k u)) Q E s :=
  item_list_ints_negR ⟨_, (N _ hm).1, rfl, c, rfl⟩ hi hk.1 hk.2.1 (by omega) h hs
theorem ints_set {vs : List Value} {f : Nat → Int} {n : Nat} {j : Nat} {v : Int} {u : Tok} (hi : IntsAre vs ((List.range n).map f)) : IntsAre (vs.set j (.int v u)) ((List.range n).map fun i => if i = j then v else f i) := by
  have gen : ∀ (vs : List Value) (ns : List Int), IntsAre vs ns → ∀ j, IntsAre (vs.set j (.int v u)) (ns.set j v) := fun vs ns h => by
    induction h with
    | nil => intro j; exact .nil
    | cons n t r ih => intro j; cases j with
      | zero => exact .cons v u r
      | succ j => exact .cons n t (ih j)
  have e : ((List.range n).map f).set j v = (List.range n).map fun i => if i = j then v else f i := by
    apply List.ext_getElem (by simp)
    intro i h1 h2
    simp only [List.getElem_set, List.getElem_map, List.getElem_range]
    by_cases q : j = i
    · simp [q]
    · simp [q, Ne.symm q]
  rw [← e]; exact gen _ _ hi j
theorem setItem_fn {h₀ : Heap} {L D : Addr} {m : Str → Option Value} {news news' : List (Addr × Obj)} {vs : List Value} {f : Nat → Int} {n c : Nat} {k v : Int} {u t : Tok} {Q : Unit → Shared → Prop} {E : Value → Shared → Prop} (F : Fr h₀ L s.heap m) (N : News h₀ L s.heap news) (U : Upd D (listOf vs.toArray c) (listOf (vs.set k.toNat (.int v t)).toArray c) news news') (hi : IntsAre vs ((List.range n).map f)) (hk : 0 ≤ k ∧ k < n ∧ n ≤ 1000)
    (h : ∀ h', Fr h₀ L h' m → News h₀ L h' news' → IntsAre (vs.set k.toNat (.int v t)) ((List.range n).map fun i => if i = k.toNat then v else f i) → Q () { s with heap := h' }) :
    wpAny (model prog w) A (setItem (.ref D) (.int k u) (.int v t)) Q E s := by
  obtain ⟨pre, post, rfl, rfl, a, b⟩ := U.split
  have z := N (D, listOf vs.toArray c) (List.mem_append.mpr (.inr (.head _)))
  have hl : vs.length = n := by have := hi.length; simpa using this
  refine ki_setAt z.1 hk.1 (by omega) (by simp [hl]; omega) (h _ (F.change (Heap.SameBut.update ..) z.2.1 z.2.2) (ki_turn _ N a b ?_ ?_) (ints_set hi))
  · simp
  · simp
local macro_rules | `(tactic| walk_at "pyIter ref") => `(tactic| (k_here; refine stop_it ?_))
local macro_rules | `(tactic| walk_at "call ref") => `(tactic| (k_here; refine stop_it ?_))
local macro_rules | `(tactic| walk_at "setItem ref ref") => `(tactic| (k_here; refine stop_it ?_))
local macro_rules | `(tactic| walk_at "exec For Tuple") => `(tactic| (k_here; refine stop_it ?_))
local macro_rules | `(tactic| walk_at "getMethod ref") => `(tactic| (k_here; k_dflt (first
  | (refine' kmu_own ?k1 ?k2 ?k3 ?k4 ?k5 ?_; (case k1 => k_asm); (case k2 => k_asm); (case k3 => k_inst); (case k4 => k_is); (case k5 => k_is); k_whole)
  | (refine' method_inst ?k1 ?k2 ?k3 ?k4 ?k5 ?k6 ?k7 ?_; (case k1 => k_asm); (case k2 => k_asm); (case k3 => k_inst); (case k4 => k_is); (case k5 => k_is); (case k6 => k_is); (case k7 => k_get); k_whole))))
local macro_rules | `(tactic| walk_at "last getAttr ref") => `(tactic| (k_here; k_dflt (refine' attr_sm ?k1 ?k2 ?k4 ?k5 ?k6 ?k7 ?k9 ?k10 ?k11 ?k12 ?k13 ?k14 ?_; (case k1 => k_asm); (case k2 => k_asm); (case k4 => k_inst); (case k5 => k_is); (case k6 => k_is); (case k7 => k_is); (case k9 => k_is); (case k10 => k_is); (case k11 => decide +kernel); (case k12 => k_get); (case k13 => k_is); (case k14 => k_handed); k_whole)))
local macro_rules | `(tactic| walk_at "last eval Call Attribute") => `(tactic| (k_here; refine methodCall_S ?_))
local macro_rules | `(tactic| walk_at "eval Call Attribute") => `(tactic| (k_here; (with_reducible show wpAny _ _ (eval (Expr.Call (Expr.Attribute _ _ _) [Expr.Starred _ _] [] _) _) _ _ _); refine methodCall_S ?_))
local macro_rules | `(tactic| walk_at "call builtin:len") => `(tactic| (k_here; refine' len_TupAt ?k1 ?k2 ?_; (case k1 => k_asm); (case k2 => k_asm); intro _ _; k_whole))
local macro_rules | `(tactic| walk_at "getItem ref int") => `(tactic| (k_here; refine' getItem_TupAt ?k1 ?k2 ?k3 ?_; (case k1 => k_asm); (case k2 => k_asm); (case k3 => omega); intro _; k_whole))
local macro_rules | `(tactic| walk_at "subscriptTail") => `(tactic| (k_here; first
  | (refine' item_TupAt ?k1 ?k2 ?k3 ?_; (case k1 => k_asm); (case k2 => k_asm); (case k3 => omega); intro _; k_whole)
  | (refine' item_fn ?k1 ?k2 ?k3 ?k4 ?_; (case k1 => k_asm); (case k2 => k_mem); (case k3 => with_reducible assumption); (case k4 => omega); intro _; k_whole)))
local macro_rules | `(tactic| walk_at "call builtin:min") => `(tactic| (k_here; (with_reducible show wpAny _ _ (call (Value.builtin "min") [Value.int _ _, Value.int _ _]) _ _ _); (rename Around.handled _ = none => hX); refine' min2N hX ?k2 ?k3 ?_; (case k2 => k_asm); (case k3 => k_asm); k_whole; intro h' tk' t' F' N'))
local macro_rules | `(tactic| walk_at "call builtin:min") => `(tactic| (k_here; (with_reducible show wpAny _ _ (call (Value.builtin "min") [Value.int _ _, Value.int _ _, Value.int _ _]) _ _ _); (rename Around.handled _ = none => hX); refine' min3N hX ?k2 ?k3 ?_; (case k2 => k_asm); (case k3 => k_asm); k_whole; intro h' tk' t' F' N'))
local macro_rules | `(tactic| walk_at "call builtin:min") => `(tactic| (k_here; (with_reducible show wpAny _ _ (call (Value.builtin "min") [Value.int _ _, Value.int _ _, Value.int _ _, Value.int _ _]) _ _ _); (rename Around.handled _ = none => hX); refine' min4N hX ?k2 ?k3 ?_; (case k2 => k_asm); (case k3 => k_asm); k_whole; intro h' tk' t' F' N'))
local macro_rules | `(tactic| walk_at "setItem ref int int") => `(tactic| (k_here; refine' setItem_fn ?k1 ?k2 ?k3 ?k4 ?k5 ?_; (case k1 => k_asm); (case k2 => k_asm); (case k3 => k_upd); (case k4 => with_reducible assumption); (case k5 => omega); k_whole; intro h' F' N' i'))
local macro_rules | `(tactic| walk_at "assign Tuple") => `(tactic| (k_here; (with_reducible show wpAny _ _ (assign (Expr.Tuple _ _ _) _ (Value.ref _)) _ _ _); k_dflt (refine' kun_list ?k1 ?k2 ?k3 ?k4 ?k5 ?k6 ?_; (case k1 => k_asm); (case k2 => k_asm); (case k3 => kun_lst); (case k4 => assumption); (case k5 => exact rfl); (case k6 => exact rfl); k_whole); intro h' F' N'; (try k_sweep)))
local macro_rules | `(tactic| walk_at "assign Tuple") => `(tactic| (k_here; (with_reducible show wpAny _ _ (assign (Expr.Tuple _ _ _) _ (Value.ref _)) _ _ _); k_dflt (refine' unpackN_ ?k1 ?k2 ?k3 ?k4 ?k5 ?k6 ?_; (case k1 => k_asm); (case k2 => k_asm); (case k3 => kun_tup); (case k4 => assumption); (case k5 => exact rfl); (case k6 => exact rfl); k_whole); intro h' F' N'; (try k_sweep)))
local macro_rules | `(tactic| walk_at "unpackItems ref") => `(tactic| (k_here; k_dflt (refine' unpackItemsN_ ?k1 ?k2 ?k3 ?k4 ?k5 ?_; (case k1 => k_asm); (case k2 => k_asm); (case k3 => kun_tup); (case k4 => assumption); (case k5 => exact rfl); k_whole); intro h' F' N'; (try k_sweep)))
local macro_rules | `(tactic| walk_at "call type:list") => `(tactic| (k_here; refine' list_range_N ?k0 ?k1 ?k2 ?k3 ?k4 ?k5 ?k6 ?_; (case k1 => k_asm); (case k2 => k_asm); (case k0 => assumption); (case k3 => assumption); (case k4 => omega); (case k5 => exact small_one (by omega) (by omega) (by omega) (by omega)); (case k6 => omega); intro D' h' tk' vs' k' F' N' l1 i1; (try k_lt l1)))

structure LevI where
  vs : List Value
  k : Nat
  o3 : Option Value
  o4 : Option Value
  o5 : Option Value
  o6 : Option Value
  o7 : Option Value
structure LevO where
  l : Addr
  vs : List Value
  k : Nat
  tr : Tok
  tc : Tok
  o1 : Option Value
  o2 : Option Value
  o3 : Option Value
  o4 : Option Value
  o5 : Option Value
  o6 : Option Value
  o7 : Option Value

local macro_rules | `(tactic| walk_at "subscriptTail Name Name ref int") => `(tactic| (k_here; first
  | (refine' item_TupAt ?k1 ?k2 ?k3 ?_; (case k1 => k_asm); (case k2 => k_asm); (case k3 => omega); intro _; k_whole)
  | (refine' item_fn ?k1 ?k2 ?k3 ?k4 ?_; (case k1 => k_asm); (case k2 => k_mem); (case k3 => with_reducible assumption); (case k4 => omega); intro _; k_whole)))
local macro_rules | `(tactic| walk_at "subscriptTail Name BinOp ref int") => `(tactic| (k_here; first
  | (refine' item_TupAt ?k1 ?k2 ?k3 ?_; (case k1 => k_asm); (case k2 => k_asm); (case k3 => omega); intro _; k_whole)
  | (refine' item_fn ?k1 ?k2 ?k3 ?k4 ?_; (case k1 => k_asm); (case k2 => k_mem); (case k3 => with_reducible assumption); (case k4 => omega); intro _; k_whole)))
local macro_rules | `(tactic| walk_at "subscriptTail Name UnaryOp ref int") => `(tactic| (k_here; refine' item_neg ?k1 ?k2 ?k3 ?k4 ?_; (case k1 => k_asm); (case k2 => k_mem); (case k3 => with_reducible assumption); (case k4 => (simp only [levRow, List.length_map, List.length_range]; omega)); intro _; k_whole))
theorem cycled {x dx a b : Addr} {ns ms : List Int} {t0 t1 t2 : Tok} (ha : TupAt g a ns) (hb : TupAt g b ms) (I : Inst g s.heap x 269 dx (levAt w t0 t1 t2) 3) (O : On w p loose mean mg mb g s.heap) (H : Room A 3 60) :
    Pays prog w A (.call (.ref 259) ⟨[.ref x, .ref a, .ref b], []⟩) s (fun v _ => ∃ t, v = .int (levT (eqAt ns ms) ns.length ms.length) t) := by
  w_on
  intro R hR
  have lt := I.lt
  refine' enterG [(x, instObj 269 dx), (dx, dictOf (levAt w t0 t1 t2) 3)] (binds := [(Str.ofString "self", .ref x), (Str.ofString "s1", .ref a), (Str.ofString "s2", .ref b)]) O ?hg ?hown ?ho ?hcd ?hroom ?hb ?hl ?body ?hcell ?c1 ?c2 ?c3
  (case hg => exact own_none I)
  (case hown => exact own_at I)
  (case ho => k_is)
  (case hcd => k_is)
  (case hroom => have := Room.dp (by assumption); omega)
  (case hl => exact locs rfl)
  (case hcell => decide)
  (case c1 => exact rfl)
  (case c2 => exact rfl)
  (case c3 => exact rfl)
  (case hb => first | exact BindsTo.of_eq rfl | exact kp_binds (O.k.keeps O.st) (fun _ => rfl))
  intro h₀ L h₁ gst X T back F N
  (try k_fold)
  have ha₀ := ha.keeps gst
  have za : ns.length ≤ 64 := ha.choose_spec.2.2
  have zb : ms.length ≤ 64 := hb.choose_spec.2.2
  have hh := H.hh
  have hb₀ := hb.keeps gst
  k_steps
  rename News _ _ _ _ => N
  rename Fr _ _ _ _ => F
  (try dsimp only at F)
  refine' fr_then F ?e ?_
  (case e => repeat' (first | exact envM_of_lookup _ | exact envM_nil | exact rfl | apply env_set))
  clear F
  intro F
  have F := fr_more [Str.ofString "r", Str.ofString "c", Str.ofString "deletion", Str.ofString "insertion", Str.ofString "dist", Str.ofString "edit"] F
  rename IsRange _ _ _ _ _ _ _ _ => hr
  rename IntsAre _ _ => hi
  refine' loop_range (σ := LevO) (n := ns.length)
    (ps := fun c => [(Str.ofString "s2", some (.ref b)), (Str.ofString "s1", some (.ref a)), (Str.ofString "self", some (.ref x)), (Str.ofString "rows", some (.int (ns.length + 1) c.tr)), (Str.ofString "cols", some (.int (ms.length + 1) c.tc)), (Str.ofString "prev", c.o1), (Str.ofString "cur", some (.ref c.l)), (Str.ofString "r", c.o2), (Str.ofString "c", c.o3), (Str.ofString "deletion", c.o4), (Str.ofString "insertion", c.o5), (Str.ofString "dist", c.o6), (Str.ofString "edit", c.o7)])
    (Led := fun c => [(c.l, listOf c.vs.toArray c.k), (x, instObj 269 dx), (dx, dictOf (levAt w t0 t1 t2) 3)])
    (Inv := fun i c => IntsAre c.vs (levRow (eqAt ns ms) ms.length i) ∧ @Ne Nat c.l x ∧ @Ne Nat c.l dx)
    (c₀ := ⟨_, _, _, _, _, _, _, _, _, _, _, _⟩) hh hr (small_one (by omega) (by omega) (by omega) (by omega)) (range_size (by omega) (by omega)) F N ⟨?i1, ?i2, ?i3⟩ ?turn ?done
  (case i1 => (rw [lev_zero (f := eqAt ns ms)] at hi; exact hi))
  (case i2 => k_ne)
  (case i3 => k_ne)
  (case turn =>
    clear hi hr F N
    rename_i z0 z1 z2 z3 z4 z5 z6 z7 z8 z9 z10 z11 z12 z13 z14 z15 z16 z17 z18 z19
    (try clear z19)
    (try clear z18)
    (try clear z17)
    (try clear z16)
    (try clear z15)
    (try clear z14)
    (try clear z13)
    (try clear z12)
    (try clear z11)
    (try clear z10)
    (try clear z9)
    (try clear z8)
    (try clear z7)
    (try clear z6)
    (try clear z5)
    (try clear z4)
    (try clear z3)
    (try clear z2)
    (try clear z1)
    (try clear z0)
    intro I₁ i t c h tk ob hi hinv hne F N
    obtain ⟨l, vs, k, tr, tc, o1, o2, o3, o4, o5, o6, o7⟩ := c
    dsimp only at F N hinv hne ⊢
    obtain ⟨hv, n1, n2⟩ := hinv
    k_steps
    rename News _ _ _ _ => N
    rename Fr _ _ _ _ => F
    (try dsimp only at F)
    refine' fr_then F ?e ?_
    (case e => repeat' (first | exact envM_of_lookup _ | exact envM_nil | exact rfl | apply env_set))
    clear F
    intro F
    (try dsimp only at N)
    (try dsimp only)
    rename_i D2 ws _ hws lD2 D3 _ lD3 _ _ _ _ _ _ _ _ _ _ _ _ _ hr _
    have N := news_sub N [(D2, listOf ws.toArray 0), (I₁, ob), (l, listOf vs.toArray k), (x, instObj 269 dx), (dx, dictOf (levAt w t0 t1 t2) 3)] (by simp)
    have p1 : @Ne Nat x I₁ := hne _ (.tail _ (.head _))
    have p2 : @Ne Nat dx I₁ := hne _ (.tail _ (.tail _ (.head _)))
    have p3 : @Ne Nat l I₁ := hne _ (.head _)
    refine' loop_range (σ := LevI) (n := ms.length)
      (ps := fun c => [(Str.ofString "s2", some (.ref b)), (Str.ofString "s1", some (.ref a)), (Str.ofString "self", some (.ref x)), (Str.ofString "rows", some (.int (ns.length + 1) tr)), (Str.ofString "cols", some (.int (ms.length + 1) tc)), (Str.ofString "prev", some (.ref l)), (Str.ofString "cur", some (.ref D2)), (Str.ofString "r", some (.int (1 + i) t)), (Str.ofString "c", c.o3), (Str.ofString "deletion", c.o4), (Str.ofString "insertion", c.o5), (Str.ofString "dist", c.o6), (Str.ofString "edit", c.o7)])
      (Led := fun c => [(D2, listOf c.vs.toArray c.k), (I₁, ob), (l, listOf vs.toArray k), (x, instObj 269 dx), (dx, dictOf (levAt w t0 t1 t2) 3)])
      (Inv := fun j c => IntsAre c.vs (levPart (eqAt ns ms) ms.length (i + 1) j))
      (c₀ := ⟨_, _, _, _, _, _, _⟩) hh hr (small_one (by omega) (by omega) (by omega) (by omega)) (range_size (by omega) (by omega)) F N ?j1 ?jturn ?jdone
    (case j1 => (rw [lev_first (f := eqAt ns ms)] at hws; exact hws))
    (case jturn =>
      clear F N hws hr
      rename_i z0 z1 z2 z3 z4 z5 z6 z7 z8 z9 z10 z11 z12 z13 z14 z15 z16 z17 z18 z19 z20 z21 z22 z23 z24 z25 z26 z27 z28 z29 z30 z31 z32 z33 z34 z35 z36 z37 z38 z39
      (try clear z39)
      (try clear z38)
      (try clear z37)
      (try clear z36)
      (try clear z35)
      (try clear z34)
      (try clear z33)
      (try clear z32)
      (try clear z31)
      (try clear z30)
      (try clear z29)
      (try clear z28)
      (try clear z27)
      (try clear z26)
      (try clear z25)
      (try clear z24)
      (try clear z23)
      (try clear z22)
      (try clear z21)
      (try clear z20)
      (try clear z19)
      (try clear z18)
      (try clear z17)
      (try clear z16)
      (try clear z15)
      (try clear z14)
      (try clear z13)
      (try clear z12)
      (try clear z11)
      (try clear z10)
      (try clear z9)
      (try clear z8)
      (try clear z7)
      (try clear z6)
      (try clear z5)
      (try clear z4)
      (try clear z3)
      (try clear z2)
      (try clear z1)
      (try clear z0)
      intro I₂ j t₂ c h tk₂ ob₂ hj hws hne₂ F N
      obtain ⟨ws, k₂, o3, o4, o5, o6, o7⟩ := c
      dsimp only at F N hws hne₂ ⊢
      have q1 : @Ne Nat x I₂ := hne₂ (x, instObj 269 dx) (by simp)
      have q2 : @Ne Nat dx I₂ := hne₂ (dx, dictOf (levAt w t0 t1 t2) 3) (by simp)
      have q3 : @Ne Nat l I₂ := hne₂ (l, listOf vs.toArray k) (by simp)
      have q4 : @Ne Nat D2 I₂ := hne₂ (D2, listOf ws.toArray k₂) (by simp)
      have q5 : @Ne Nat I₁ I₂ := hne₂ (I₁, ob) (by simp)
      k_steps
      rename News _ _ _ _ => N
      rename Fr _ _ _ _ => F
      refine Pays.use (ident_int (On.of X T F) (room_deep (H.less (by omega) (by omega)))) ?_
      intro v h₂ tk₃ st hv
      subst hv
      dsimp only at st ⊢
      have F2 := fr_stay F st
      have N2 := news_stay N st
      clear F N
      k_steps
      rename News _ _ _ _ => N
      rename Fr _ _ _ _ => F
      (try dsimp only at F)
      refine' fr_then F ?e ?_
      (case e => repeat' (first | exact envM_of_lookup _ | exact envM_nil | exact rfl | apply env_set))
      clear F
      intro F
      rename IntsAre _ _ => hw
      rw [lev_step hj] at hw
      exact TurnEnd.mk (.inl rfl) (LevI.mk _ _ _ _ _ _ _) hw F N (List.forall_mem_cons.mpr ⟨q4, List.forall_mem_cons.mpr ⟨q5, List.forall_mem_cons.mpr ⟨q3, List.forall_mem_cons.mpr ⟨q1, List.forall_mem_cons.mpr ⟨q2, fun _ h => nomatch h⟩⟩⟩⟩⟩))
    (case jdone =>
      clear F N hws hr
      intro c h tk₂ hws F N
      obtain ⟨ws, k₂, o3, o4, o5, o6, o7⟩ := c
      dsimp only at F N hws ⊢
      rw [lev_last] at hws
      have N := news_sub N [(I₁, ob), (D2, listOf ws.toArray k₂), (x, instObj 269 dx), (dx, dictOf (levAt w t0 t1 t2) 3)] (by simp)
      refine wpAny_execs_nil ?_
      exact TurnEnd.mk (.inl rfl) (LevO.mk _ _ _ _ _ _ _ _ _ _ _ _) ⟨hws, by k_ne, by k_ne⟩ F N (List.forall_mem_cons.mpr ⟨by k_ne, List.forall_mem_cons.mpr ⟨p1, List.forall_mem_cons.mpr ⟨p2, fun _ h => nomatch h⟩⟩⟩)))
  (case done =>
    clear hi hr F N
    rename_i z0 z1 z2 z3 z4 z5 z6 z7 z8 z9 z10 z11 z12 z13 z14 z15 z16 z17 z18 z19
    (try clear z19)
    (try clear z18)
    (try clear z17)
    (try clear z16)
    (try clear z15)
    (try clear z14)
    (try clear z13)
    (try clear z12)
    (try clear z11)
    (try clear z10)
    (try clear z9)
    (try clear z8)
    (try clear z7)
    (try clear z6)
    (try clear z5)
    (try clear z4)
    (try clear z3)
    (try clear z2)
    (try clear z1)
    (try clear z0)
    intro c h tk hinv F N
    obtain ⟨l, vs, k, tr, tc, o1, o2, o3, o4, o5, o6, o7⟩ := c
    dsimp only at F N hinv ⊢
    obtain ⟨hv, n1, n2⟩ := hinv
    k_steps
    (try dsimp only)
    refine hR _ _ _ (back.keep _ F.keep (List.forall_mem_cons.mpr ⟨(N _ (by k_mem)).1, List.forall_mem_cons.mpr ⟨(N _ (by k_mem)).1, fun _ h => nomatch h⟩⟩)) ⟨_, by rw [lev_end]⟩)
end
end Mine
end
set_option maxHeartbeats 4000000
/- part Mc6 -/
section
namespace Mine
theorem fillMc6 : (PySem.Challenge.rw_br0041_01 = PySem.Challenge.rw_br0041_01 ∧ hd.heap_39 = hd.heap_39) := by
  k_fill
  exact ⟨rfl, rfl⟩
section
variable {prog : Program} {w : World} {A : Around} {s : Shared} {p : Program} {loose : List Str} {mean : ExcName → Option Value} {mg mb : Str → Option Value} {g : Heap}
local macro_rules | `(tactic| walk_at "pyIter ref") => `(tactic| (k_here; refine stop_it ?_))
local macro_rules | `(tactic| walk_at "call ref") => `(tactic| (k_here; refine stop_it ?_))
local macro_rules | `(tactic| walk_at "setItem ref ref") => `(tactic| (k_here; refine stop_it ?_))
local macro_rules | `(tactic| walk_at "exec For Tuple") => `(tactic| (k_here; refine stop_it ?_))
local macro_rules | `(tactic| walk_at "getMethod ref") => `(tactic| (k_here; k_dflt (first
  | (refine' kmu_own ?k1 ?k2 ?k3 ?k4 ?k5 ?_; (case k1 => k_asm); (case k2 => k_asm); (case k3 => k_inst); (case k4 => k_is); (case k5 => k_is); k_whole)
  | (refine' method_inst ?k1 ?k2 ?k3 ?k4 ?k5 ?k6 ?k7 ?_; (case k1 => k_asm); (case k2 => k_asm); (case k3 => k_inst); (case k4 => k_is); (case k5 => k_is); (case k6 => k_is); (case k7 => k_get); k_whole))))
local macro_rules | `(tactic| walk_at "last getAttr ref") => `(tactic| (k_here; k_dflt (refine' attr_sm ?k1 ?k2 ?k4 ?k5 ?k6 ?k7 ?k9 ?k10 ?k11 ?k12 ?k13 ?k14 ?_; (case k1 => k_asm); (case k2 => k_asm); (case k4 => k_inst); (case k5 => k_is); (case k6 => k_is); (case k7 => k_is); (case k9 => k_is); (case k10 => k_is); (case k11 => decide +kernel); (case k12 => k_get); (case k13 => k_is); (case k14 => k_handed); k_whole)))
local macro_rules | `(tactic| walk_at "last eval Call Attribute") => `(tactic| (k_here; refine methodCall_S ?_))
local macro_rules | `(tactic| walk_at "eval Call Attribute") => `(tactic| (k_here; (with_reducible show wpAny _ _ (eval (Expr.Call (Expr.Attribute _ _ _) [Expr.Starred _ _] [] _) _) _ _ _); refine methodCall_S ?_))
local macro_rules | `(tactic| walk_at "call builtin:len") => `(tactic| (k_here; refine' len_TupAt ?k1 ?k2 ?_; (case k1 => k_asm); (case k2 => k_asm); intro _ _; k_whole))
local macro_rules | `(tactic| walk_at "getItem ref int") => `(tactic| (k_here; refine' getItem_TupAt ?k1 ?k2 ?k3 ?_; (case k1 => k_asm); (case k2 => k_asm); (case k3 => omega); intro _; k_whole))
local macro_rules | `(tactic| walk_at "subscriptTail") => `(tactic| (k_here; first
  | (refine' item_TupAt ?k1 ?k2 ?k3 ?_; (case k1 => k_asm); (case k2 => k_asm); (case k3 => omega); intro _; k_whole)
  | (refine' item_fn ?k1 ?k2 ?k3 ?k4 ?_; (case k1 => k_asm); (case k2 => k_mem); (case k3 => with_reducible assumption); (case k4 => omega); intro _; k_whole)))
local macro_rules | `(tactic| walk_at "call builtin:min") => `(tactic| (k_here; (with_reducible show wpAny _ _ (call (Value.builtin "min") [Value.int _ _, Value.int _ _]) _ _ _); (rename Around.handled _ = none => hX); refine' min2N hX ?k2 ?k3 ?_; (case k2 => k_asm); (case k3 => k_asm); k_whole; intro h' tk' t' F' N'))
local macro_rules | `(tactic| walk_at "call builtin:min") => `(tactic| (k_here; (with_reducible show wpAny _ _ (call (Value.builtin "min") [Value.int _ _, Value.int _ _, Value.int _ _]) _ _ _); (rename Around.handled _ = none => hX); refine' min3N hX ?k2 ?k3 ?_; (case k2 => k_asm); (case k3 => k_asm); k_whole; intro h' tk' t' F' N'))
local macro_rules | `(tactic| walk_at "call builtin:min") => `(tactic| (k_here; (with_reducible show wpAny _ _ (call (Value.builtin "min") [Value.int _ _, Value.int _ _, Value.int _ _, Value.int _ _]) _ _ _); (rename Around.handled _ = none => hX); refine' min4N hX ?k2 ?k3 ?_; (case k2 => k_asm); (case k3 => k_asm); k_whole; intro h' tk' t' F' N'))
local macro_rules | `(tactic| walk_at "setItem ref int int") => `(tactic| (k_here; refine' setItem_fn ?k1 ?k2 ?k3 ?k4 ?k5 ?_; (case k1 => k_asm); (case k2 => k_asm); (case k3 => k_upd); (case k4 => with_reducible assumption); (case k5 => omega); k_whole; intro h' F' N' i'))
local macro_rules | `(tactic| walk_at "assign Tuple") => `(tactic| (k_here; (with_reducible show wpAny _ _ (assign (Expr.Tuple _ _ _) _ (Value.ref _)) _ _ _); k_dflt (refine' kun_list ?k1 ?k2 ?k3 ?k4 ?k5 ?k6 ?_; (case k1 => k_asm); (case k2 => k_asm); (case k3 => kun_lst); (case k4 => assumption); (case k5 => exact rfl); (case k6 => exact rfl); k_whole); intro h' F' N'; (try k_sweep)))
local macro_rules | `(tactic| walk_at "assign Tuple") => `(tactic| (k_here; (with_reducible show wpAny _ _ (assign (Expr.Tuple _ _ _) _ (Value.ref _)) _ _ _); k_dflt (refine' unpackN_ ?k1 ?k2 ?k3 ?k4 ?k5 ?k6 ?_; (case k1 => k_asm); (case k2 => k_asm); (case k3 => kun_tup); (case k4 => assumption); (case k5 => exact rfl); (case k6 => exact rfl); k_whole); intro h' F' N'; (try k_sweep)))
local macro_rules | `(tactic| walk_at "unpackItems ref") => `(tactic| (k_here; k_dflt (refine' unpackItemsN_ ?k1 ?k2 ?k3 ?k4 ?k5 ?_; (case k1 => k_asm); (case k2 => k_asm); (case k3 => kun_tup); (case k4 => assumption); (case k5 => exact rfl); k_whole); intro h' F' N'; (try k_sweep)))
local macro_rules | `(tactic| walk_at "call type:list") => `(tactic| (k_here; refine' list_range_N ?k0 ?k1 ?k2 ?k3 ?k4 ?k5 ?k6 ?_; (case k1 => k_asm); (case k2 => k_asm); (case k0 => assumption); (case k3 => assumption); (case k4 => omega); (case k5 => exact small_one (by omega) (by omega) (by omega) (by omega)); (case k6 => omega); intro D' h' tk' vs' k' F' N' l1 i1; (try k_lt l1)))
theorem inst_of {h₀ h : Heap} {L x C dx : Addr} {news : List (Addr × Obj)} {es : List DictEntry} {n : Nat} (N : News h₀ L h news) (m1 : (x, instObj C dx) ∈ news) (m2 : (dx, dictOf es n) ∈ news) (lt : @LT.lt Nat _ dx x) : Inst h₀ h x C dx es n :=
  ⟨(N _ m1).1, (N _ m2).1, (N _ m1).2.2, (N _ m2).2.2, lt⟩
theorem news_new {h₀ h h' : Heap} {L l : Addr} {m : Str → Option Value} {news : List (Addr × Obj)} {ob : Obj} (F : Fr h₀ L h m) (N : News h₀ L h news) (st : h.StaysIn h') (e : h'.get? l = some ob) (new : h.get? l = none) : News h₀ L h' ((l, ob) :: news) ∧ ∀ p ∈ news, p.1 ≠ l := by
  refine ⟨fun q hq => ?_, fun q hq e2 => ?_⟩
  · rcases List.mem_cons.mp hq with rfl | hq
    · refine ⟨e, fun e1 => ?_, ?_⟩
      · obtain ⟨oL, _, _, hL, _⟩ := F.ns
        rw [← e1, new] at hL; cases hL
      · cases q : h₀.get? l with
        | none => rfl
        | some o => have := F.keep _ _ q; rw [new] at this; cases this
    · exact ⟨st _ _ (N q hq).1, (N q hq).2⟩
  · have := (N q hq).1
    rw [e2, new] at this; cases this
def quickI (ns ms : List Int) (r : Int) : Int := if ns = ms then 0 else if ns = [] ∨ ms = [] then (max ns.length ms.length : Nat) else r

theorem lev_call {x dx a b : Addr} {ns ms : List Int} {t0 t1 t2 : Tok} (ha : TupAt g a ns) (hb : TupAt g b ms) (I : Inst g s.heap x 269 dx (levAt w t0 t1 t2) 3) (O : On w p loose mean mg mb g s.heap) (H : Room A 5 90) :
    Pays prog w A (.call (.ref 266) ⟨[.ref x, .ref a, .ref b], []⟩) s (fun v _ => ∃ t, v = .int (quickI ns ms (levT (eqAt ns ms) ns.length ms.length)) t) := by
  w_on
  intro R hR
  have lt := I.lt
  refine' enterG [(x, instObj 269 dx), (dx, dictOf (levAt w t0 t1 t2) 3)] (binds := [(Str.ofString "self", .ref x), (Str.ofString "s1", .ref a), (Str.ofString "s2", .ref b)]) O ?hg ?hown ?ho ?hcd ?hroom ?hb ?hl ?body ?hcell ?c1 ?c2 ?c3
  (case hg => exact own_none I)
  (case hown => exact own_at I)
  (case ho => k_is)
  (case hcd => k_is)
  (case hroom => have := Room.dp (by assumption); omega)
  (case hl => exact locs rfl)
  (case hcell => decide)
  (case c1 => exact rfl)
  (case c2 => exact rfl)
  (case c3 => exact rfl)
  (case hb => first | exact BindsTo.of_eq rfl | exact kp_binds (O.k.keeps O.st) (fun _ => rfl))
  intro h₀ L h₁ gst X T back F N
  (try k_fold)
  have ha₀ := ha.keeps gst
  have hh := H.hh
  have hb₀ := hb.keeps gst
  k_steps
  refine Pays.use (seqs_lev (inst_of N (by k_mem) (by k_mem) lt) (On.of X T F) (room_deep (H.less (by omega) (by omega)))) ?_
  intro v h₂ tk st hv
  obtain ⟨l, c, rfl, hl, hn⟩ := hv
  dsimp only at st hn ⊢
  obtain ⟨N2, ne2⟩ := news_new F N st hl hn
  have F2 := fr_stay F st
  clear F N
  k_steps
  rename News _ _ _ _ => N
  rename Fr _ _ _ _ => F
  refine Pays.use (quick_lev ha₀ hb₀ (inst_of N (by k_mem) (by k_mem) lt) (On.of X T F) (room_deep (H.less (by omega) (by omega)))) ?_
  intro v h₃ tk₃ st3 hv
  dsimp only at st3 ⊢
  have F3 := fr_stay F st3
  have N3 := news_stay N st3
  clear F N
  replace hv : quickV ns ms v := hv
  unfold quickV at hv
  by_cases e1 : ns = ms
  · rw [if_pos e1] at hv
    obtain ⟨t, rfl⟩ := hv
    k_steps
    rename News _ _ _ _ => N
    rename Fr _ _ _ _ => F
    (try dsimp only)
    refine hR _ _ _ (back.keep _ F.keep (List.forall_mem_cons.mpr ⟨(N _ (by k_mem)).1, List.forall_mem_cons.mpr ⟨(N _ (by k_mem)).1, fun _ h => nomatch h⟩⟩)) ⟨_, by rw [quickI, if_pos e1]⟩
  · rw [if_neg e1] at hv
    by_cases e2 : ns = [] ∨ ms = []
    · rw [if_pos e2] at hv
      obtain ⟨t, rfl⟩ := hv
      k_steps
      rename News _ _ _ _ => N
      rename Fr _ _ _ _ => F
      (try dsimp only)
      refine hR _ _ _ (back.keep _ F.keep (List.forall_mem_cons.mpr ⟨(N _ (by k_mem)).1, List.forall_mem_cons.mpr ⟨(N _ (by k_mem)).1, fun _ h => nomatch h⟩⟩)) ⟨_, by rw [quickI, if_neg e1, if_pos e2]⟩
    · rw [if_neg e2] at hv
      subst hv
      k_steps
      rename News _ _ _ _ => N
      rename Fr _ _ _ _ => F
      refine Pays.use (cycled ha₀ hb₀ (inst_of N (by k_mem) (by k_mem) lt) (On.of X T F) (room_deep (H.less (by omega) (by omega)))) ?_
      intro v h₄ tk₄ st4 hv
      obtain ⟨t, rfl⟩ := hv
      dsimp only at st4 ⊢
      have F4 := fr_stay F st4
      have N4 := news_stay N st4
      clear F N
      k_steps
      (try dsimp only)
      refine hR _ _ _ (back.keep _ F4.keep (List.forall_mem_cons.mpr ⟨(N4 _ (by k_mem)).1, List.forall_mem_cons.mpr ⟨(N4 _ (by k_mem)).1, fun _ h => nomatch h⟩⟩)) ⟨_, by rw [quickI, if_neg e1, if_neg e2]⟩
end
end Mine
end
set_option maxHeartbeats 4000000
/- part Mc7 -/
section
namespace Mine
theorem fillMc7 : (PySem.Challenge.rw_br0041_01 = PySem.Challenge.rw_br0041_01 ∧ hd.heap_39 = hd.heap_39) := by
  k_fill
  exact ⟨rfl, rfl⟩
section
variable {prog : Program} {w : World} {A : Around} {s : Shared} {p : Program} {loose : List Str} {mean : ExcName → Option Value} {mg mb : Str → Option Value} {g : Heap}
local macro_rules | `(tactic| walk_at "pyIter ref") => `(tactic| (k_here; refine stop_it ?_))
local macro_rules | `(tactic| walk_at "call ref") => `(tactic| (k_here; refine stop_it ?_))
local macro_rules | `(tactic| walk_at "setItem ref ref") => `(tactic| (k_here; refine stop_it ?_))
local macro_rules | `(tactic| walk_at "exec For Tuple") => `(tactic| (k_here; refine stop_it ?_))
local macro_rules | `(tactic| walk_at "getMethod ref") => `(tactic| (k_here; k_dflt (first
  | (refine' kmu_own ?k1 ?k2 ?k3 ?k4 ?k5 ?_; (case k1 => k_asm); (case k2 => k_asm); (case k3 => k_inst); (case k4 => k_is); (case k5 => k_is); k_whole)
  | (refine' method_inst ?k1 ?k2 ?k3 ?k4 ?k5 ?k6 ?k7 ?_; (case k1 => k_asm); (case k2 => k_asm); (case k3 => k_inst); (case k4 => k_is); (case k5 => k_is); (case k6 => k_is); (case k7 => k_get); k_whole))))
local macro_rules | `(tactic| walk_at "last getAttr ref") => `(tactic| (k_here; k_dflt (refine' attr_sm ?k1 ?k2 ?k4 ?k5 ?k6 ?k7 ?k9 ?k10 ?k11 ?k12 ?k13 ?k14 ?_; (case k1 => k_asm); (case k2 => k_asm); (case k4 => k_inst); (case k5 => k_is); (case k6 => k_is); (case k7 => k_is); (case k9 => k_is); (case k10 => k_is); (case k11 => decide +kernel); (case k12 => k_get); (case k13 => k_is); (case k14 => k_handed); k_whole)))
local macro_rules | `(tactic| walk_at "last eval Call Attribute") => `(tactic| (k_here; refine methodCall_S ?_))
local macro_rules | `(tactic| walk_at "eval Call Attribute") => `(tactic| (k_here; (with_reducible show wpAny _ _ (eval (Expr.Call (Expr.Attribute _ _ _) [Expr.Starred _ _] [] _) _) _ _ _); refine methodCall_S ?_))
local macro_rules | `(tactic| walk_at "call builtin:len") => `(tactic| (k_here; refine' len_TupAt ?k1 ?k2 ?_; (case k1 => k_asm); (case k2 => k_asm); intro _ _; k_whole))
local macro_rules | `(tactic| walk_at "getItem ref int") => `(tactic| (k_here; refine' getItem_TupAt ?k1 ?k2 ?k3 ?_; (case k1 => k_asm); (case k2 => k_asm); (case k3 => omega); intro _; k_whole))
local macro_rules | `(tactic| walk_at "subscriptTail") => `(tactic| (k_here; first
  | (refine' item_TupAt ?k1 ?k2 ?k3 ?_; (case k1 => k_asm); (case k2 => k_asm); (case k3 => omega); intro _; k_whole)
  | (refine' item_fn ?k1 ?k2 ?k3 ?k4 ?_; (case k1 => k_asm); (case k2 => k_mem); (case k3 => with_reducible assumption); (case k4 => omega); intro _; k_whole)))
local macro_rules | `(tactic| walk_at "call builtin:min") => `(tactic| (k_here; (with_reducible show wpAny _ _ (call (Value.builtin "min") [Value.int _ _, Value.int _ _]) _ _ _); (rename Around.handled _ = none => hX); refine' min2N hX ?k2 ?k3 ?_; (case k2 => k_asm); (case k3 => k_asm); k_whole; intro h' tk' t' F' N'))
local macro_rules | `(tactic| walk_at "call builtin:min") => `(tactic| (k_here; (with_reducible show wpAny _ _ (call (Value.builtin "min") [Value.int _ _, Value.int _ _, Value.int _ _]) _ _ _); (rename Around.handled _ = none => hX); refine' min3N hX ?k2 ?k3 ?_; (case k2 => k_asm); (case k3 => k_asm); k_whole; intro h' tk' t' F' N'))
local macro_rules | `(tactic| walk_at "call builtin:min") => `(tactic| (k_here; (with_reducible show wpAny _ _ (call (Value.builtin "min") [Value.int _ _, Value.int _ _, Value.int _ _, Value.int _ _]) _ _ _); (rename Around.handled _ = none => hX); refine' min4N hX ?k2 ?k3 ?_; (case k2 => k_asm); (case k3 => k_asm); k_whole; intro h' tk' t' F' N'))
local macro_rules | `(tactic| walk_at "setItem ref int int") => `(tactic| (k_here; refine' setItem_fn ?k1 ?k2 ?k3 ?k4 ?k5 ?_; (case k1 => k_asm); (case k2 => k_asm); (case k3 => k_upd); (case k4 => with_reducible assumption); (case k5 => omega); k_whole; intro h' F' N' i'))
local macro_rules | `(tactic| walk_at "assign Tuple") => `(tactic| (k_here; (with_reducible show wpAny _ _ (assign (Expr.Tuple _ _ _) _ (Value.ref _)) _ _ _); k_dflt (refine' kun_list ?k1 ?k2 ?k3 ?k4 ?k5 ?k6 ?_; (case k1 => k_asm); (case k2 => k_asm); (case k3 => kun_lst); (case k4 => assumption); (case k5 => exact rfl); (case k6 => exact rfl); k_whole); intro h' F' N'; (try k_sweep)))
local macro_rules | `(tactic| walk_at "assign Tuple") => `(tactic| (k_here; (with_reducible show wpAny _ _ (assign (Expr.Tuple _ _ _) _ (Value.ref _)) _ _ _); k_dflt (refine' unpackN_ ?k1 ?k2 ?k3 ?k4 ?k5 ?k6 ?_; (case k1 => k_asm); (case k2 => k_asm); (case k3 => kun_tup); (case k4 => assumption); (case k5 => exact rfl); (case k6 => exact rfl); k_whole); intro h' F' N'; (try k_sweep)))
local macro_rules | `(tactic| walk_at "unpackItems ref") => `(tactic| (k_here; k_dflt (refine' unpackItemsN_ ?k1 ?k2 ?k3 ?k4 ?k5 ?_; (case k1 => k_asm); (case k2 => k_asm); (case k3 => kun_tup); (case k4 => assumption); (case k5 => exact rfl); k_whole); intro h' F' N'; (try k_sweep)))
local macro_rules | `(tactic| walk_at "call type:list") => `(tactic| (k_here; refine' list_range_N ?k0 ?k1 ?k2 ?k3 ?k4 ?k5 ?k6 ?_; (case k1 => k_asm); (case k2 => k_asm); (case k0 => assumption); (case k3 => assumption); (case k4 => omega); (case k5 => exact small_one (by omega) (by omega) (by omega) (by omega)); (case k6 => omega); intro D' h' tk' vs' k' F' N' l1 i1; (try k_lt l1)))
theorem ks_callX {M : Model} {x : Addr} {ox : Obj} {first : List Value} {pos : Pos} {E Q : Value → Shared → Prop} {args : List (Bool × Sem Value)} (hst : args.any (·.1) = true) (hd : ox.data = .plain)
    (h : wpAny M A (evalArgs (.ref x) true args []) (fun a s₁ => s₁.heap.get? x = some ox ∧ wpAny M A (call (.ref x) (first ++ a.pos) a.kw) Q E s₁) E s) : wpAny M A (callWith pos (.ref x) first args []) Q E s := by
  unfold callWith
  refine wpAny_bind (wpAny_holding (wpAny_mono h (fun a s₁ h₁ => wpAny_bind (wpAny_standAt ?_)) fun _ _ x => x))
  have L : Looks M s₁.heap (keeperOf (.ref x)) .caller := by
    refine (Looks.ld (part := none) h₁.1).andThen ?_
    simp only [hd]
    exact .now
  simp only [hst, Bool.true_or]
  refine wpAny_bind (L.here ?_)
  have tail : ∀ {t : Sem Value}, wpAny M A t Q E s₁ → wpAny M A (t >>= fun r => holding [r] point >>= fun _ => pure r) Q E s₁ :=
    fun ht => wpAny_bind (wpAny_mono ht (fun r s₂ hr => wpAny_bind (wpAny_holding (wpAny_point (wpAny_pure hr)))) fun _ _ x => x)
  dsimp only
  exact tail (wpAny_operating h₁.2)
theorem callWith_XS {M : Model} {x : Addr} {ox : Obj} {first : List Value} {pos p : Pos} {e : Expr} {env : Env} {E Q : Value → Shared → Prop} (hd : ox.data = .plain) (h : wpAny M A (eval e env) (fun v s₁ => StarOf M A E v (fun vs s₂ => s₂.heap.get? x = some ox ∧ wpAny M A (call (.ref x) (first ++ vs)) Q E s₂) s₁) E s)
    (he : starEach [.Starred e p] env = [(true, eval e env)] := by rfl) :
    wpAny M A (callWith pos (.ref x) first (backTo pos (starEach [.Starred e p] env)) []) Q E s := by
  rw [he]
  exact ks_callX rfl hd (ks_lone h)


theorem dist_lev {x dx a b : Addr} {ns ms : List Int} {t0 t1 t2 : Tok} (ha : TupAt g a ns) (hb : TupAt g b ms) (I : Inst g s.heap x 269 dx (levAt w t0 t1 t2) 3) (O : On w p loose mean mg mb g s.heap) (H : Room A 7 120) :
    Pays prog w A (.call (.ref 122) ⟨[.ref x, .ref a, .ref b], []⟩) s (fun v _ => ∃ t, v = .int (quickI ns ms (levT (eqAt ns ms) ns.length ms.length)) t) := by
  w_on
  intro R hR
  have lt := I.lt
  refine' enterRG [(x, instObj 269 dx), (dx, dictOf (levAt w t0 t1 t2) 3)] (vs := [.ref a, .ref b]) (bindsR := fun D => [(Str.ofString "self", .ref x), (Str.ofString "sequences", .ref D)]) O ?hg ?hown ?ho ?hcd ?hroom ?hv ?hp ?hgr ?hl ?body ?hcell ?c1 ?c2 ?c3
  (case hg => exact own_none I)
  (case hown => exact own_at I)
  (case ho => k_is)
  (case hcd => k_is)
  (case hroom => have := Room.dp (by assumption); omega)
  (case hl => exact fun _ => locs rfl)
  (case hcell => decide)
  (case c1 => exact rfl)
  (case c2 => exact rfl)
  (case c3 => exact rfl)
  (case hv => exact rfl)
  (case hp => exact rfl)
  (case hgr => exact fun _ => rfl)
  intro D h₀ L h₁ gst X T back F N l1
  (try k_lt l1)
  (try k_fold)
  have ha₀ := ha.keeps gst
  have hb₀ := hb.keeps gst
  have hh := H.hh
  k_steps
  refine callWith_XS (ox := instObj 269 dx) rfl ?_
  k_steps
  · rename News _ _ _ _ => N
    exact (N (x, instObj 269 dx) (by k_mem)).1
  rename News _ _ _ _ => N
  rename Fr _ _ _ _ => F
  have J := inst_of N (by k_mem) (by k_mem) lt
  refine wpAny_call ?_
  refine' kco_code ?k1 ?k2 ?k3 ?k4 ?k5 ?k6 ?k7
  (case k1 => k_in)
  (case k2 => k_inst)
  (case k3 => rfl)
  (case k4 => k_is)
  (case k5 => k_is)
  (case k6 => k_is)
  refine lev_call ha₀ hb₀ J (On.of X T F) (room_deep (H.less (by omega) (by omega))) _ ?_
  intro v h₃ tk₃ st3 hv
  obtain ⟨t, rfl⟩ := hv
  dsimp only at st3 ⊢
  have F3 := fr_stay F st3
  have N3 := news_stay N st3
  clear F N
  (try dsimp only)
  refine hR _ _ _ (back.keep _ F3.keep (List.forall_mem_cons.mpr ⟨(N3 _ (by k_mem)).1, List.forall_mem_cons.mpr ⟨(N3 _ (by k_mem)).1, fun _ h => nomatch h⟩⟩)) ⟨_, rfl⟩
end
end Mine
end
set_option maxHeartbeats 4000000
/- part Ml2 -/
section
namespace Mine
section
variable {prog : Program} {w : World} {A : Around} {E : Value → Shared → Prop} {s : Shared} {env : Env} {h₀ : Heap} {body : List Stmt} {Q : Flow → Shared → Prop}

/-- the end of a turn: the walker's own objects are wo -/
def TurnEnd2 {σ : Type} (h₀ : Heap) (L : Addr) (wo : List (Addr × Obj)) (ps : σ → List (Str × Option Value)) (Led : σ → List (Addr × Obj)) (Inv : σ → Prop) (s : Shared) (Q : Flow → Shared → Prop) (f : Flow) (s₂ : Shared) : Prop :=
  match f with
  | .ret v => Q (.ret v) s₂
  | .brk => Q .next s₂
  | _ => ∃ c h' tk, s₂ = { s with heap := h', toks := tk } ∧ Inv c ∧ Fr h₀ L h' (envM (ps c)) ∧ News h₀ L h' (wo ++ Led c) ∧ ∀ p ∈ Led c, ∀ q ∈ wo, p.1 ≠ q.1
theorem TurnEnd2.mk {σ : Type} {L : Addr} {wo : List (Addr × Obj)} {ps : σ → List (Str × Option Value)} {Led : σ → List (Addr × Obj)} {Inv : σ → Prop} {f : Flow} (hf : f = .next ∨ f = .cont) (c : σ) {h' : Heap} {tk : Nat}
    (hI : Inv c) (F : Fr h₀ L h' (envM (ps c))) (N : News h₀ L h' (wo ++ Led c)) (ne : ∀ p ∈ Led c, ∀ q ∈ wo, p.1 ≠ q.1) : TurnEnd2 h₀ L wo ps Led Inv s Q f { s with heap := h', toks := tk } := by
  rcases hf with rfl | rfl <;> exact ⟨c, h', tk, rfl, hI, F, N, ne⟩

/-- two walkers' objects: the enumerator e and the iterator it -/
def PairAt (prog : Program) (w : World) (A : Around) (h₀ : Heap) (env : Env) (xi xc : Str) (body : List Stmt) (Q : Flow → Shared → Prop) (E : Value → Shared → Prop) (it : Value) (s : Shared) : Prop :=
  ∃ (σ : Type) (ps : σ → List (Str × Option Value)) (Led : σ → List (Addr × Obj)) (I₂ I : Addr) (fp : List Addr) (i₀ n : Nat) (Pt : Nat → Array Value → Prop) (St : Nat → Heap → Prop) (Mid : Nat → Addr → Heap → Prop) (P2 : Nat → Value → Value → Prop) (Inv : Nat → σ → Prop) (c₀ : σ),
    it = .ref I ∧ WalksT prog w A I fp [I, I₂] n Pt St Mid ∧ (∀ i vals, Pt i vals → ∃ v0 v1, vals = #[v0, v1] ∧ P2 i v0 v1) ∧ h₀.get? I = none ∧ h₀.get? I₂ = none ∧ env.locals ∉ fp ∧ (∀ b ∈ fp, b = I ∨ b = I₂ ∨ ∃ o, h₀.get? b = some o) ∧ (∀ i h, St i h → (∃ o, h.get? I = some o) ∧ ∃ o, h.get? I₂ = some o) ∧
    i₀ ≤ n ∧ St i₀ s.heap ∧ (∀ p ∈ Led c₀, p.1 ≠ I ∧ p.1 ≠ I₂) ∧ Fr h₀ env.locals s.heap (envM (ps c₀)) ∧ News h₀ env.locals s.heap (Led c₀) ∧ Inv i₀ c₀ ∧
    (∀ i v0 v1 c h tk ob ob₂, i < n → P2 i v0 v1 → Inv i c → (∀ p ∈ Led c, p.1 ≠ I ∧ p.1 ≠ I₂) → Fr h₀ env.locals h (envM (setP xc v1 (setP xi v0 (ps c)))) → News h₀ env.locals h ((I, ob) :: (I₂, ob₂) :: Led c) →
      wpAny (model prog w) A (execs body env) (TurnEnd2 h₀ env.locals [(I, ob), (I₂, ob₂)] ps Led (Inv (i + 1)) { s with heap := h, toks := tk } Q) E { s with heap := h, toks := tk }) ∧
    (∀ c h tk, Inv n c → Fr h₀ env.locals h (envM (ps c)) → News h₀ env.locals h (Led c) → Q .next { s with heap := h, toks := tk })

theorem forLoop_pair {σ : Type} {R : Result → Shared → Prop} {xi xc : Str} {pk pv pt : Pos} {x1 : Nat} {I I₂ : Addr} {fp : List Addr} {i₀ n : Nat} {Pt : Nat → Array Value → Prop} {St : Nat → Heap → Prop} {Mid : Nat → Addr → Heap → Prop}
    {P2 : Nat → Value → Value → Prop} (hh : A.handled = none) (W : WalksT prog w A I fp [I, I₂] n Pt St Mid) (h2 : ∀ i vals, Pt i vals → ∃ v0 v1, vals = #[v0, v1] ∧ P2 i v0 v1)
    (hxi : env.kindOf xi = some .local) (hxc : env.kindOf xc = some .local)
    (hp : (env.scope.kind == .class || (env.scope.kind == .module && env.locals != env.globals)) = false)
    (hI : h₀.get? I = none) (hI₂ : h₀.get? I₂ = none) (hLf : env.locals ∉ fp) (hfp : ∀ b ∈ fp, b = I ∨ b = I₂ ∨ ∃ o, h₀.get? b = some o) (hlive : ∀ i h, St i h → (∃ o, h.get? I = some o) ∧ ∃ o, h.get? I₂ = some o)
    (hle : i₀ ≤ n) (ps : σ → List (Str × Option Value)) (Led : σ → List (Addr × Obj)) (Inv : Nat → σ → Prop) (c₀ : σ) (hst : St i₀ s.heap) (hne : ∀ p ∈ Led c₀, p.1 ≠ I ∧ p.1 ≠ I₂) (F : Fr h₀ env.locals s.heap (envM (ps c₀))) (N : News h₀ env.locals s.heap (Led c₀)) (h0 : Inv i₀ c₀)
    (turn : ∀ i v0 v1 c h tk ob ob₂, i < n → P2 i v0 v1 → Inv i c → (∀ p ∈ Led c, p.1 ≠ I ∧ p.1 ≠ I₂) → Fr h₀ env.locals h (envM (setP xc v1 (setP xi v0 (ps c)))) → News h₀ env.locals h ((I, ob) :: (I₂, ob₂) :: Led c) →
      wpAny (model prog w) A (execs body env) (TurnEnd2 h₀ env.locals [(I, ob), (I₂, ob₂)] ps Led (Inv (i + 1)) { s with heap := h, toks := tk } (fun f s' => R (.ok f) s')) (notedBy (model prog w) A env fun e s' => R (.error e) s') { s with heap := h, toks := tk })
    (done : ∀ c h tk, Inv n c → Fr h₀ env.locals h (envM (ps c)) → News h₀ env.locals h (Led c) → R (.ok .next) { s with heap := h, toks := tk }) :
    codeAny (model prog w) A (.forLoop (.Tuple [.Name xi pk, .Name xc pv] x1 pt) (.ref I) body [] env) R s := by
  have mem : ∀ b, b ∈ [I, I₂] → b = I ∨ b = I₂ := fun b hb => by simpa using hb
  have hLw : env.locals ∉ [I, I₂] := fun h => hLf (W.sub _ h)
  have old : ∀ b o, h₀.get? b = some o → b ∉ [I, I₂] := fun b o e hb => by rcases mem b hb with rfl | rfl <;> simp_all
  refine codeAny_forLoop_any
    (fun k s' => ∃ h' tk c i, s' = { s with heap := h', toks := tk } ∧ St i h' ∧ Fr h₀ env.locals h' (envM (ps c)) ∧ News h₀ env.locals h' (Led c) ∧ (∀ p ∈ Led c, p.1 ≠ I ∧ p.1 ≠ I₂) ∧ Inv i c ∧ i ≤ n ∧ k = n + 1 - i) ?_ (n + 1 - i₀)
    ⟨s.heap, s.toks, c₀, i₀, rfl, hst, F, N, hne, h0, hle, rfl⟩
  rintro k s' ⟨H, tk, c, i, rfl, hst', F', N', hne', hJ, hi, rfl⟩
  have next : ∀ h₁ : Heap, (∀ b o, b ∉ [I, I₂] → H.get? b = some o → h₁.get? b = some o) → Fr h₀ env.locals h₁ (envM (ps c)) ∧ News h₀ env.locals h₁ (Led c) := fun h₁ hk₁ =>
    ⟨⟨F'.ns.at' fun o e => hk₁ _ o hLw e, fun b o e => hk₁ b o (old b o e) (F'.keep b o e), F'.above⟩, fun p hp => ⟨hk₁ _ _ (fun hm => by rcases mem _ hm with e | e; exact (hne' p hp).1 e; exact (hne' p hp).2 e) (N' p hp).1, (N' p hp).2⟩⟩
  by_cases hlt : i < n
  · refine W.item i _ _ _ hlt hst' fun T vals h₁ tk₁ hPt _ hT hMid hk₁ => ?_
    obtain ⟨v0, v1, rfl, hP2⟩ := h2 i vals hPt
    refine W.go _ x1 pt i T _ _ _ hMid fun h₂ hst₂ hk₂ => ?_
    have ht₂ : h₂.IsTuple T #[v0, v1] := hT.at fun o e => hk₂ T o (W.apart i T h₁ hMid) e
    refine wpAny_assign_Tuple hh ht₂ rfl rfl fun h₃ hx₃ => ?_
    replace hx₃ : Heap.ExtBut h₂.objs.size h₂ h₃ := hx₃
    have up₃ : ∀ b o, h₂.get? b = some o → h₃.get? b = some o := fun b o x => hx₃ b o (Nat.ne_of_lt (Heap.lt_size x)) x
    obtain ⟨F₃, N₃⟩ := next h₃ fun b o hb x => up₃ b o (hk₂ b o hb (hk₁ b o hb x))
    show wpAny _ A (do holding [v1] (assign (.Name xi pk) env v0); do holding [] (assign (.Name xc pv) env v1); pure ()) _ _ _
    refine wpAny_bind (wpAny_holding (wpAny_assign_Name (wpAny_storeName_local hxi F₃.ns (fun h₄ hn₄ hs₄ => ?_) hp)))
    replace hs₄ : Heap.SameBut env.locals h₃ h₄ := hs₄
    have F₄ := F₃.set hn₄ hs₄
    refine wpAny_bind (wpAny_holding (wpAny_assign_Name (wpAny_storeName_local hxc F₄.ns (fun h₅ hn₅ hs₅ => wpAny_pure ?_) hp)))
    replace hs₅ : Heap.SameBut env.locals h₄ h₅ := hs₅
    have F₅ := F₄.set hn₅ hs₅
    replace F₅ := fr_env F₅ (env_set (env_set (ps := ps c) rfl))
    have N₅ : News h₀ env.locals h₅ (Led c) := (N₃.set hs₄).set hs₅
    have hst₅ : St (i + 1) h₅ := W.frame _ _ _ hst₂ fun b hb o e => hs₅.extBut b o (fun q => hLf (q ▸ hb)) (hs₄.extBut b o (fun q => hLf (q ▸ hb)) (up₃ b o e))
    obtain ⟨⟨ob, hob⟩, ⟨ob₂, hob₂⟩⟩ := hlive _ _ hst₅
    have inf : I ∈ fp := W.sub I (by simp)
    have inf₂ : I₂ ∈ fp := W.sub I₂ (by simp)
    have nL : I ≠ env.locals := fun e => hLf (e ▸ inf)
    have nL₂ : I₂ ≠ env.locals := fun e => hLf (e ▸ inf₂)
    have N₆ : News h₀ env.locals h₅ ((I, ob) :: (I₂, ob₂) :: Led c) := fun q hq => by
      rcases List.mem_cons.mp hq with rfl | hq
      · exact ⟨hob, nL, hI⟩
      · rcases List.mem_cons.mp hq with rfl | hq
        · exact ⟨hob₂, nL₂, hI₂⟩
        · exact N₅ q hq
    refine wpAny_mono (turn i v0 v1 c h₅ _ ob ob₂ hlt hP2 hJ hne' F₅ N₆) (fun f s₃ h₆ => ?_) fun _ _ e => e
    have fin : (∃ c h' tk', s₃ = { ({ s with heap := h₅, toks := tk₁ } : Shared) with heap := h', toks := tk' } ∧ Inv (i + 1) c ∧ Fr h₀ env.locals h' (envM (ps c)) ∧ News h₀ env.locals h' ([(I, ob), (I₂, ob₂)] ++ Led c) ∧ ∀ p ∈ Led c, ∀ q ∈ [(I, ob), (I₂, ob₂)], p.1 ≠ q.1) →
        ∃ k', k' < n + 1 - i ∧ ∃ h' tk c i, s₃ = { s with heap := h', toks := tk } ∧ St i h' ∧ Fr h₀ env.locals h' (envM (ps c)) ∧ News h₀ env.locals h' (Led c) ∧ (∀ p ∈ Led c, p.1 ≠ I ∧ p.1 ≠ I₂) ∧ Inv i c ∧ i ≤ n ∧ k' = n + 1 - i := by
      rintro ⟨c', h', tk', rfl, hi', F₇, N₇, ne⟩
      refine ⟨n + 1 - (i + 1), by omega, h', tk', c', i + 1, rfl, ?_, F₇, fun q hq => N₇ q (List.mem_append_right _ hq), fun p hp => ⟨ne p hp (I, ob) (by simp), ne p hp (I₂, ob₂) (by simp)⟩, hi', hlt, rfl⟩
      refine W.frame _ _ _ hst₅ fun b hb o e => ?_
      rcases hfp b hb with rfl | rfl | ⟨o₀, hn⟩
      · rw [hob] at e; cases e; exact (N₇ (b, ob) (by simp)).1
      · rw [hob₂] at e; cases e; exact (N₇ (b, ob₂) (by simp)).1
      · have : o₀ = o := by have q := F₅.keep b o₀ hn; rw [e] at q; exact (Option.some.inj q).symm
        exact this ▸ F₇.keep b o₀ hn
    cases f with
    | ret v => exact h₆
    | brk => exact h₆
    | cont => exact fin h₆
    | next => exact fin h₆
  · have hin : i = n := by omega
    subst hin
    refine W.done _ _ _ hst' fun h₁ tk₁ hk₁ => wpAny_execs_nil ?_
    obtain ⟨F₁, N₁⟩ := next h₁ hk₁
    exact done c h₁ tk₁ hJ F₁ N₁

theorem For_pairM {xi xc : Str} {pk pv pt pos : Pos} {x1 : Nat} {iter : Expr} {m : Str → Option Value} (_F : Fr h₀ env.locals s.heap m) (hh : A.handled = none)
    (hxi : env.kindOf xi = some .local) (hxc : env.kindOf xc = some .local)
    (hp : (env.scope.kind == .class || (env.scope.kind == .module && env.locals != env.globals)) = false)
    (h : wpAny (model prog w) A (eval iter env) (fun xv s₁ => wpAny (model prog w) A (pyIter xv) (fun it s₂ => PairAt prog w A h₀ env xi xc body Q E it s₂) E s₁) E s)
    (hs : ∀ x, foldedSetIterable iter env x = pure x)
    (hE : PassesOwn (model prog w) A env E := by passes_own) :
    wpAny (model prog w) A (exec (.For (.Tuple [.Name xi pk, .Name xc pv] x1 pt) iter body [] pos) env) Q E s := by
  refine wpAny_For (wpAny_mono h (fun xv s₁ h₁ => wpAny_mono h₁ (fun it s₂ h₂ => ?_) fun _ _ e => e) fun _ _ e => e) hs
  obtain ⟨σ, ps, Led, I₂, I, fp, i₀, n, Pt, St, Mid, P2, Inv, c₀, rfl, W, h2, hI, hI₂, hLf, hfp, hlive, hle, hst, hne, F, N, h0, turn, done⟩ := h₂
  exact forLoop_pair (R := fun r s' => match r with | .ok f => Q f s' | .error e => cameBackBy (model prog w) A env E e s') hh W h2 hxi hxc hp hI hI₂ hLf hfp hlive hle ps Led Inv c₀ hst hne F N h0
    (fun i v0 v1 c h tk ob ob₂ a b d e f g => wpAny_passesOwn hE (turn i v0 v1 c h tk ob ob₂ a b d e f g)) done
end
end Mine
end
set_option maxHeartbeats 4000000
/- part Me -/
section
namespace Mine
local macro_rules | `(tactic| wp_step) => `(tactic| first
  | with_reducible (first | refine wpAny_bind ?_ | refine wpAny_pure ?_ | refine wpAny_holding ?_ | refine wpAny_rule ?_ | refine wpAny_standAt ?_ | refine wpAny_of_eq (by assumption) ?_ | refine wpAny_mkInt' ?_ | refine wpAny_typeOf (by assumption) ?_ | refine wpAny_isInstance (by assumption) (by assumption) ?_)
  | (with_reducible apply wpAny_ite_false; focus (rfl; done))
  | (with_reducible apply wpAny_ite_true; focus (rfl; done))
  | wp_delta)
open AutoSeq1 (wpAny_loadPart')
abbrev enH1 (h : Heap) (l : Addr) : Heap := h.push { cls := .type "tuple_iterator", data := .fields #[.ref l, .int 0 0] }
abbrev enH2 (h : Heap) (l : Addr) (k : Int) : Heap := (enH1 h l).push { cls := .type "enumerate", data := .fields #[.none, .bool false, .ref h.objs.size, rawInt k, .none, .none] }
theorem meets_enum_tup (l : Addr) (items : Array Value) :
    Meets (Builtin.«enumerate.__new__» ⟨[.type "enumerate", .ref l], []⟩) (fun _ R s => s.heap.IsTuple l items ∧
      R (.ok (.ret (.ref (enH1 s.heap l).objs.size))) { s with heap := enH2 s.heap l 0 }) :=
  .of_wp fun prog w A R s h => by
    obtain ⟨hp, g, d, tk, os⟩ := s; obtain ⟨hl, h⟩ := h
    have hsub := sub_enumerate
    have hL : Heap.IsTuple (Shared.heap ⟨hp, g, d, tk, os⟩) l items := hl
    wp_walk
    refine wpAny_stack_any fun st => wpAny_pure ?_
    split
    · rename_i c _ _ _ _ _
      cases (c == Value.type "enumerate")
      · wp_walk using wpAny_pyIter_tuple hL
        exact ⟨_, rfl, h⟩
      · wp_walk using wpAny_pyIter_tuple hL
        exact ⟨_, rfl, h⟩
    · wp_walk using wpAny_pyIter_tuple hL
      exact ⟨_, rfl, h⟩
theorem meets_enum_tup1 (l : Addr) (items : Array Value) (t : Tok) :
    Meets (Builtin.«enumerate.__new__» ⟨[.type "enumerate", .ref l], [(Str.ofString "start", .int 1 t)]⟩) (fun _ R s => s.heap.IsTuple l items ∧
      R (.ok (.ret (.ref (enH1 s.heap l).objs.size))) { s with heap := enH2 s.heap l 1 }) :=
  .of_wp fun prog w A R s h => by
    obtain ⟨hp, g, d, tk, os⟩ := s; obtain ⟨hl, h⟩ := h
    have hsub := sub_enumerate
    have hL : Heap.IsTuple (Shared.heap ⟨hp, g, d, tk, os⟩) l items := hl
    wp_walk
    refine wpAny_stack_any fun st => wpAny_pure ?_
    split
    · rename_i c _ _ _ _ _
      cases (c == Value.type "enumerate")
      · wp_walk using wpAny_pyIter_tuple hL
        exact ⟨_, rfl, h⟩
      · wp_walk using wpAny_pyIter_tuple hL
        exact ⟨_, rfl, h⟩
    · wp_walk using wpAny_pyIter_tuple hL
      exact ⟨_, rfl, h⟩
end Mine
end
set_option maxHeartbeats 4000000
/- part Me2 -/
section
namespace Mine
local macro_rules | `(tactic| wp_step) => `(tactic| first
  | with_reducible (first | refine wpAny_bind ?_ | refine wpAny_pure ?_ | refine wpAny_holding ?_ | refine wpAny_rule ?_ | refine wpAny_standAt ?_ | refine wpAny_of_eq (by assumption) ?_ | refine wpAny_mkInt' ?_ | refine wpAny_typeOf (by assumption) ?_ | refine wpAny_isInstance (by assumption) (by assumption) ?_)
  | (with_reducible apply wpAny_ite_false; focus (rfl; done))
  | (with_reducible apply wpAny_ite_true; focus (rfl; done))
  | wp_delta)
section
variable {prog : Program} {w : World} {A : Around} {E : Value → Shared → Prop} {s : Shared}
theorem init_start (self : Value) (l : Addr) (t : Tok) : argsOk "object.__init__" ⟨[self, .ref l], [(Str.ofString "start", .int 1 t)]⟩ := by
  unfold argsOk; rw [signature?_of (id := "object.__init__") (n := ['_', '_', 't', 'i', 'n', 'i', '_', '_']) (o := ['t', 'c', 'e', 'j', 'b', 'o']) (by kernel_rfl) F.owner_object]; kernel_rfl
theorem typeCall_start (l : Addr) (t : Tok) : checkTypeCall "enumerate" ⟨[.ref l], [(Str.ofString "start", .int 1 t)]⟩ = pure () := by kernel_rfl
theorem newCall_start (l : Addr) (t : Tok) : checkBuiltinCall "enumerate.__new__" ⟨[.type "enumerate", .ref l], [(Str.ofString "start", .int 1 t)]⟩ = pure () := by kernel_rfl

theorem obj_init_start {self : Value} {l : Addr} {t : Tok} (hl : typeLookup (.type "enumerate") "__init__" = pure (some (.builtin "object.__init__")))
    (hm : Bind.madeBy (.type "enumerate") = pure (some "enumerate.__new__")) :
    Meets (Builtin.«object.__init__» ⟨[self, .ref l], [(Str.ofString "start", .int 1 t)]⟩) (fun _ R s => s.TypeIs self "enumerate" ∧ R (.ok (.ret .none)) s) := by
  refine Meets.of_wp fun prog w A R s hs => ?_
  obtain ⟨hT, hq⟩ := hs
  have hne : (some "enumerate.__new__" != some "object.__new__") = true := by decide
  repeat (any_goals (first | assumption | wp_step))
  exact ⟨_, rfl, hq⟩

theorem call_enum_made {l : Addr} {k : Int} {Q : Value → Shared → Prop} 
    (h : ∀ h', IsEnum h' (s.heap.objs.size + 1) s.heap.objs.size k .none → h'.IsTupleIter s.heap.objs.size l 0 → h'.objs.size = s.heap.objs.size + 2 →
      s.heap.StaysIn h' → Q (.ref (s.heap.objs.size + 1)) { s with heap := h' }) :
    (fun obj s₁ => s₁.TypeIs obj "enumerate" ∧ Q obj s₁) (.ref (enH1 s.heap l).objs.size) { s with heap := enH2 s.heap l k } := by
  have hz : (enH1 s.heap l).objs.size = s.heap.objs.size + 1 := Heap.size_push ..
  have he : IsEnum (enH2 s.heap l k) (enH1 s.heap l).objs.size s.heap.objs.size k .none := Heap.get?_push_size _ rfl
  rw [hz] at he
  show _ ∧ _
  rw [hz]
  refine ⟨⟨_, he, rfl⟩, h _ he ⟨_, Heap.get?_push_of_some _ (Heap.get?_push_size _ rfl), rfl, rfl⟩ (by rw [Heap.size_push, hz]) fun b o x => Heap.get?_push_of_some _ (Heap.get?_push_of_some _ x)⟩

theorem call_enum {l : Addr} {items : Array Value} {Q : Value → Shared → Prop} (hl : s.heap.IsTuple l items)
    (h : ∀ h', IsEnum h' (s.heap.objs.size + 1) s.heap.objs.size 0 .none → h'.IsTupleIter s.heap.objs.size l 0 → h'.objs.size = s.heap.objs.size + 2 →
      s.heap.StaysIn h' → Q (.ref (s.heap.objs.size + 1)) { s with heap := h' }) :
    wpAny (model prog w) A (call (.type "enumerate") [.ref l]) Q E s :=
  callType_new F.called_enumerate (by decide) (F.typeCall_enumerate_1 _) (F.newCall_enumerate_1 _) (fun obj => F.args_object_init_2 obj _) F.entry_enumerate_new
    (meets_enum_tup l items) ⟨hl, call_enum_made h⟩

theorem call_enum1 {l : Addr} {items : Array Value} {t : Tok} {Q : Value → Shared → Prop} (hl : s.heap.IsTuple l items)
    (h : ∀ h', IsEnum h' (s.heap.objs.size + 1) s.heap.objs.size 1 .none → h'.IsTupleIter s.heap.objs.size l 0 → h'.objs.size = s.heap.objs.size + 2 →
      s.heap.StaysIn h' → Q (.ref (s.heap.objs.size + 1)) { s with heap := h' }) :
    wpAny (model prog w) A (call (.type "enumerate") [.ref l] [(Str.ofString "start", .int 1 t)]) Q E s := by
  have ft := F.called_enumerate
  obtain ⟨c, tl, hmro⟩ := ft.mro
  have hmade := ft.made
  have hsub := ft.sub
  refine wpAny_call (codeAny_of_tree ?_)
  show wpAny _ _ (callAny (.type "enumerate") _) _ _ _
  refine wpAny_pure ⟨Code.quiet_builtin _ (by decide +kernel), codeAny_builtin F.entry_type_call ?_⟩
  rw [Around.under_plain (weight_type_call_type "enumerate" [.ref l] _) (units_type_call_type "enumerate" [.ref l] _)]
  have h1 := ft.notType
  have h2 := ft.canCreate
  have hct := typeCall_start l t
  repeat (any_goals (first | assumption | wp_step))
  have hS : wants (fun obj s₁ => s₁.TypeIs obj "enumerate" ∧ Q obj s₁) E (.ok (.ret (.ref (enH1 s.heap l).objs.size))) { s with heap := enH2 s.heap l 1 } := call_enum_made (Q := Q) h
  refine codeAny_mono (codeAny_call_builtin ft.plain F.entry_enumerate_new (wpAny_of_eq (newCall_start l t) (meets_enum_tup1 l items t prog w A.in1 (wants (fun obj s₁ => s₁.TypeIs obj "enumerate" ∧ Q obj s₁) E) s ⟨hl, hS⟩))) fun r s₁ hr => ?_
  cases r with
  | error e => exact hr
  | ok fl =>
    cases fl with
    | ret obj =>
      obtain ⟨hT, hQ⟩ := hr
      have hli := ft.init.lookup
      have hbi := ft.init.bind obj
      have hsi : wants (fun r s₂ => r = .none ∧ Q obj s₂) E (.ok (.ret .none)) s₁ := ⟨rfl, hQ⟩
      repeat (any_goals (first | assumption | wp_step))
      refine codeAny_mono (codeAny_call_builtin ft.init.plain F.entry_object_init (ft.init.check _ _ _ _ _ _ _ _ hT (init_start obj l t) (obj_init_start (self := obj) (l := l) (t := t) ft.init.lookup ft.made prog w _ (wants (fun r s₂ => r = .none ∧ Q obj s₂) E) s₁ ⟨hT, hsi⟩))) fun r₂ s₂ hr₂ => ?_
      cases r₂ with
      | error e => exact hr₂
      | ok fl₂ =>
        cases fl₂ with
        | ret r =>
          obtain ⟨rfl, hq⟩ := hr₂
          repeat (any_goals (first | assumption | wp_step))
        | _ => exact hr₂.elim
    | _ => exact hr.elim
end
end Mine
end
set_option maxHeartbeats 4000000
/- part Mp -/
section
namespace Mine
section
variable {prog : Program} {w : World} {A : Around} {E : Value → Shared → Prop} {s : Shared} {env : Env} {h₀ : Heap} {body : List Stmt} {Q : Flow → Shared → Prop}

/-- the draws of a walker, numbered from one -/
theorem Draws.shift {it : Addr} {fp : List Addr} {n : Nat} {P : Nat → Value → Prop} {St : Nat → Heap → Prop} (D : Draws prog w A it fp n P St) :
    Draws prog w A it fp (n + 1) (fun i v => ∃ j, i = j + 1 ∧ P j v) (fun i h => ∃ j, i = j + 1 ∧ St j h) where
  live := fun _ h st => let ⟨j, _, s⟩ := st; D.live j h s
  frame := fun _ h h' st hk => let ⟨j, e, s⟩ := st; ⟨j, e, D.frame j h h' s hk⟩
  item := fun i s Q E hi st hQ => by
    obtain ⟨j, rfl, st⟩ := st
    exact D.item j s Q E (by omega) st fun x h' tk hP st' hs => hQ x h' tk ⟨j, rfl, hP⟩ ⟨j + 1, rfl, st'⟩ hs
  done := fun s Q E st hE => by
    obtain ⟨j, e, st⟩ := st
    obtain rfl : n = j := by omega
    exact D.done s Q E st hE

theorem enum_loop0 {σ : Type} {xi xc : Str} {l : Addr} {ns : List Int} (ps : σ → List (Str × Option Value)) (Led : σ → List (Addr × Obj)) (Inv : Nat → σ → Prop) (c₀ : σ) (hh : A.handled = none) (ha : TupAt h₀ l ns)
    (F : Fr h₀ env.locals s.heap (envM (ps c₀))) (N : News h₀ env.locals s.heap (Led c₀)) (h0 : Inv 0 c₀)
    (turn : ∀ I I₂ i t u c h tk ob ob₂, i < ns.length → Inv i c → (∀ p ∈ Led c, p.1 ≠ I ∧ p.1 ≠ I₂) → @Ne Nat I I₂ → Fr h₀ env.locals h (envM (setP xc (.int (ns.getD i 0) u) (setP xi (.int (i : Nat) t) (ps c)))) → News h₀ env.locals h ((I, ob) :: (I₂, ob₂) :: Led c) →
      wpAny (model prog w) A (execs body env) (TurnEnd2 h₀ env.locals [(I, ob), (I₂, ob₂)] ps Led (Inv (i + 1)) { s with heap := h, toks := tk } Q) E { s with heap := h, toks := tk })
    (done : ∀ c h tk, Inv ns.length c → Fr h₀ env.locals h (envM (ps c)) → News h₀ env.locals h (Led c) → Q .next { s with heap := h, toks := tk }) :
    wpAny (model prog w) A (call (.type "enumerate") [.ref l]) (fun v s₁ => wpAny (model prog w) A (pyIter v) (fun it s₂ => PairAt prog w A h₀ env xi xc body Q E it s₂) E s₁) E s := by
  obtain ⟨vs, ht, hi, hz⟩ := ha
  have hlen : vs.length = ns.length := hi.length
  have hts : IsTup s.heap l vs.toArray := ht.keeps F.keep
  obtain ⟨ol, hol, _⟩ := id ht
  have hlt : l < h₀.objs.size := Heap.lt_size hol
  have hLs : env.locals < s.heap.objs.size := F.ns.lt
  have hab : h₀.objs.size ≤ env.locals := F.above
  refine call_enum hts fun h' he hit hsz st => ?_
  refine wpAny_pyIter_enum he ?_
  have l1 : l ≠ s.heap.objs.size := Nat.ne_of_lt (Nat.lt_trans (Nat.lt_of_lt_of_le hlt hab) hLs)
  have l2 : l ≠ s.heap.objs.size + 1 := Nat.ne_of_lt (Nat.lt_succ_of_lt (Nat.lt_trans (Nat.lt_of_lt_of_le hlt hab) hLs))
  have L1 : env.locals ≠ s.heap.objs.size := Nat.ne_of_lt hLs
  have L2 : env.locals ≠ s.heap.objs.size + 1 := Nat.ne_of_lt (Nat.lt_succ_of_lt hLs)
  have L3 : env.locals ≠ l := Nat.ne_of_gt (Nat.lt_of_lt_of_le hlt hab)
  have D := Draws.tuple (prog := prog) (w := w) (A := A.in1) hh s.heap.objs.size l l1 vs.toArray
  have hts' : h'.IsTuple l vs.toArray := Heap.IsTuple.at hts fun o e => st _ o e
  have hsize : vs.toArray.size = ns.length := by simp [hlen]
  rw [hsize] at D
  have W := WalksT.enumerateD D (s.heap.objs.size + 1) (Nat.succ_ne_self _) (fun hm => by rcases List.mem_cons.mp hm with e | hm; exact Nat.succ_ne_self _ e; exact l2 (List.mem_singleton.mp hm).symm) (List.mem_cons_self ..)
  refine ⟨σ, ps, Led, s.heap.objs.size, s.heap.objs.size + 1, _, 0, ns.length, _, _, _, fun i v0 v1 => ∃ t u, True ∧ v0 = .int (i : Nat) t ∧ v1 = .int (ns.getD i 0) u, Inv, c₀, rfl, W, ?_, ?_, ?_, ?_, ?_, ?_, by omega, ?_, ?_, fr_stay F st, news_stay N st, h0, ?_, ?_⟩
  · rintro i vals ⟨t, x, hP, rfl⟩
    have hlti : i < ns.length := by
      have : i < vs.length := by
        have hP : vs[i]? = some x := by simpa using hP
        exact (List.getElem?_eq_some_iff.mp hP).1
      omega
    obtain ⟨u, hu⟩ := hi.get i ns[i] (by simp [hlti])
    have hx : x = .int ns[i] u := by
      have hP : vs[i]? = some x := by simpa using hP
      rw [hu] at hP; exact (Option.some.inj hP).symm
    exact ⟨_, _, rfl, t, u, trivial, rfl, by rw [hx]; simp [hlti]⟩
  · exact Heap.get?_none_of_le (Nat.le_trans hab (Nat.le_of_lt (Nat.lt_succ_of_lt hLs)))
  · exact Heap.get?_none_of_le (Nat.le_trans hab (Nat.le_of_lt hLs))
  · simp; exact ⟨L2, L1, L3⟩
  · intro b hb
    have hb : b = s.heap.objs.size + 1 ∨ b = s.heap.objs.size ∨ b = l := by simpa using hb
    rcases hb with rfl | rfl | rfl
    · exact .inl rfl
    · exact .inr (.inl rfl)
    · exact .inr (.inr ⟨_, hol⟩)
  · rintro i h ⟨⟨old, e1⟩, ⟨o, e2, _⟩, _⟩
    exact ⟨⟨_, e1⟩, ⟨_, e2⟩⟩
  · exact ⟨⟨_, he⟩, hit, hts'⟩
  · intro p hp
    have := Heap.lt_size (N p hp).1
    exact ⟨Nat.ne_of_lt (Nat.lt_succ_of_lt this), Nat.ne_of_lt this⟩
  · rintro i v0 v1 c h tk ob ob₂ hi' ⟨t, u, _, rfl, rfl⟩ hinv hne F' N'
    exact turn _ _ i t u c h tk ob ob₂ hi' hinv hne (Nat.succ_ne_self _) F' N'
  · exact fun c h tk hinv F' N' => done c h tk hinv F' N'

theorem enum_loop1 {σ : Type} {xi xc : Str} {l : Addr} {ns : List Int} {t₀ : Tok} (ps : σ → List (Str × Option Value)) (Led : σ → List (Addr × Obj)) (Inv : Nat → σ → Prop) (c₀ : σ) (hh : A.handled = none) (ha : TupAt h₀ l ns)
    (F : Fr h₀ env.locals s.heap (envM (ps c₀))) (N : News h₀ env.locals s.heap (Led c₀)) (h0 : Inv 0 c₀)
    (turn : ∀ I I₂ i t u c h tk ob ob₂, i < ns.length → Inv i c → (∀ p ∈ Led c, p.1 ≠ I ∧ p.1 ≠ I₂) → @Ne Nat I I₂ → Fr h₀ env.locals h (envM (setP xc (.int (ns.getD i 0) u) (setP xi (.int ((i : Nat) + 1) t) (ps c)))) → News h₀ env.locals h ((I, ob) :: (I₂, ob₂) :: Led c) →
      wpAny (model prog w) A (execs body env) (TurnEnd2 h₀ env.locals [(I, ob), (I₂, ob₂)] ps Led (Inv (i + 1)) { s with heap := h, toks := tk } Q) E { s with heap := h, toks := tk })
    (done : ∀ c h tk, Inv ns.length c → Fr h₀ env.locals h (envM (ps c)) → News h₀ env.locals h (Led c) → Q .next { s with heap := h, toks := tk }) :
    wpAny (model prog w) A (call (.type "enumerate") [.ref l] [(Str.ofString "start", .int 1 t₀)]) (fun v s₁ => wpAny (model prog w) A (pyIter v) (fun it s₂ => PairAt prog w A h₀ env xi xc body Q E it s₂) E s₁) E s := by
  obtain ⟨vs, ht, hi, hz⟩ := ha
  have hlen : vs.length = ns.length := hi.length
  have hts : IsTup s.heap l vs.toArray := ht.keeps F.keep
  obtain ⟨ol, hol, _⟩ := id ht
  have hlt : l < h₀.objs.size := Heap.lt_size hol
  have hLs : env.locals < s.heap.objs.size := F.ns.lt
  have hab : h₀.objs.size ≤ env.locals := F.above
  refine call_enum1 hts fun h' he hit hsz st => ?_
  refine wpAny_pyIter_enum he ?_
  have l1 : l ≠ s.heap.objs.size := Nat.ne_of_lt (Nat.lt_trans (Nat.lt_of_lt_of_le hlt hab) hLs)
  have l2 : l ≠ s.heap.objs.size + 1 := Nat.ne_of_lt (Nat.lt_succ_of_lt (Nat.lt_trans (Nat.lt_of_lt_of_le hlt hab) hLs))
  have L1 : env.locals ≠ s.heap.objs.size := Nat.ne_of_lt hLs
  have L2 : env.locals ≠ s.heap.objs.size + 1 := Nat.ne_of_lt (Nat.lt_succ_of_lt hLs)
  have L3 : env.locals ≠ l := Nat.ne_of_gt (Nat.lt_of_lt_of_le hlt hab)
  have D := Draws.tuple (prog := prog) (w := w) (A := A.in1) hh s.heap.objs.size l l1 vs.toArray
  have hts' : h'.IsTuple l vs.toArray := Heap.IsTuple.at hts fun o e => st _ o e
  have hsize : vs.toArray.size = ns.length := by simp [hlen]
  rw [hsize] at D
  have W := WalksT.enumerateD (Draws.shift D) (s.heap.objs.size + 1) (Nat.succ_ne_self _) (fun hm => by rcases List.mem_cons.mp hm with e | hm; exact Nat.succ_ne_self _ e; exact l2 (List.mem_singleton.mp hm).symm) (List.mem_cons_self ..)
  refine ⟨σ, ps, Led, s.heap.objs.size, s.heap.objs.size + 1, _, 1, (ns.length + 1), _, _, _, fun i v0 v1 => ∃ t u, 1 ≤ i ∧ v0 = .int (i : Nat) t ∧ v1 = .int (ns.getD (i - 1) 0) u, (fun i => Inv (i - 1)), c₀, rfl, W, ?_, ?_, ?_, ?_, ?_, ?_, by omega, ?_, ?_, fr_stay F st, news_stay N st, h0, ?_, ?_⟩
  · rintro i vals ⟨t, x, ⟨j, rfl, hP⟩, rfl⟩
    have hlti : j < ns.length := by
      have : j < vs.length := by
        have hP : vs[j]? = some x := by simpa using hP
        exact (List.getElem?_eq_some_iff.mp hP).1
      omega
    obtain ⟨u, hu⟩ := hi.get j ns[j] (by simp [hlti])
    have hx : x = .int ns[j] u := by
      have hP : vs[j]? = some x := by simpa using hP
      rw [hu] at hP; exact (Option.some.inj hP).symm
    exact ⟨_, _, rfl, t, u, by omega, rfl, by rw [hx]; simp [hlti]⟩
  · exact Heap.get?_none_of_le (Nat.le_trans hab (Nat.le_of_lt (Nat.lt_succ_of_lt hLs)))
  · exact Heap.get?_none_of_le (Nat.le_trans hab (Nat.le_of_lt hLs))
  · simp; exact ⟨L2, L1, L3⟩
  · intro b hb
    have hb : b = s.heap.objs.size + 1 ∨ b = s.heap.objs.size ∨ b = l := by simpa using hb
    rcases hb with rfl | rfl | rfl
    · exact .inl rfl
    · exact .inr (.inl rfl)
    · exact .inr (.inr ⟨_, hol⟩)
  · rintro i h ⟨⟨old, e1⟩, j, _, ⟨o, e2, _⟩, _⟩
    exact ⟨⟨_, e1⟩, ⟨_, e2⟩⟩
  · exact ⟨⟨_, he⟩, 0, rfl, hit, hts'⟩
  · intro p hp
    have := Heap.lt_size (N p hp).1
    exact ⟨Nat.ne_of_lt (Nat.lt_succ_of_lt this), Nat.ne_of_lt this⟩
  · rintro i v0 v1 c h tk ob ob₂ hi' ⟨t, u, h1, rfl, rfl⟩ hinv hne F' N'
    obtain ⟨j, rfl⟩ : ∃ j, i = j + 1 := ⟨i - 1, by omega⟩
    exact turn _ _ j t u c h tk ob ob₂ (by omega) hinv hne (Nat.succ_ne_self _) (by simpa using F') N'
  · exact fun c h tk hinv F' N' => done c h tk hinv F' N'
end
end Mine
end
set_option maxHeartbeats 4000000
/- part Md -/
section
namespace Mine
theorem atKey_map {xs : List (List Int × Addr × Value)} {k k' : List Int} {v : Value} : atKey (xs.map (putAt k v)) k' = if k' = k then (atKey xs k).map fun p => (p.1, v) else atKey xs k' := by
  induction xs with
  | nil => by_cases e : k' = k <;> simp [atKey, e]
  | cons x r ih =>
    obtain ⟨kx, ax, vx⟩ := x
    unfold atKey at ih ⊢
    simp only [List.map_cons, putAt]
    by_cases h1 : kx = k
    · subst h1
      simp only [if_true, List.find?_cons]
      by_cases h2 : kx = k'
      · subst h2; simp
      · have : ¬ k' = kx := fun e => h2 e.symm
        simp only [h2, decide_false, this, if_false] at ih ⊢
        simpa using ih
    · simp only [if_neg h1, List.find?_cons]
      by_cases h2 : kx = k'
      · subst h2; simp [h1]
      · simp only [h2, decide_false]
        rw [ih]
        by_cases h3 : k' = k
        · subst h3; simp [h2]
        · simp [h3]
theorem atKey_storedH {xs : List (List Int × Addr × Value)} {k k' : List Int} {a : Addr} {v : Value} : (k' = k → ∃ b, atKey (storedH xs k a v) k' = some (b, v)) ∧ (k' ≠ k → atKey (storedH xs k a v) k' = atKey xs k') := by
  cases h : atKey xs k with
  | none =>
    rw [storedH_new h]
    refine ⟨fun e => ⟨a, ?_⟩, fun e => ?_⟩
    · subst e
      unfold atKey at h ⊢
      simp only [Option.map_eq_none_iff] at h
      rw [List.find?_append, h]
      simp
    · unfold atKey
      rw [List.find?_append]
      have : ¬ k = k' := fun q => e q.symm
      simp [this]
  | some p =>
    rw [storedH_old h]
    refine ⟨fun e => ⟨p.1, ?_⟩, fun e => ?_⟩
    · rw [atKey_map, if_pos e, h]; rfl
    · rw [atKey_map, if_neg e]
theorem storedH_len {xs : List (List Int × Addr × Value)} {k : List Int} {a : Addr} {v : Value} : (storedH xs k a v).length ≤ xs.length + 1 := by
  unfold storedH; split <;> simp

section
variable {prog : Program} {w : World} {A : Around} {E : Value → Shared → Prop} {s : Shared} {h₀ : Heap} {L : Addr} {m : Str → Option Value} {news : List (Addr × Obj)}

theorem news_turn {h : Heap} {a b : Addr × Obj} {ks : List (Addr × Obj)} (pre mid : List (Addr × Obj)) (N : News h₀ L h (a :: b :: (pre ++ (mid ++ ks)))) : News h₀ L h (pre ++ a :: (mid ++ b :: ks)) := fun q hq => N q (by
  simp only [List.mem_append, List.mem_cons] at hq ⊢
  rcases hq with h | h | h | h | h <;> simp [h])
/-- an object that is the tuple of the key -/
def TupOb (prog : Program) (w : World) (ob : Obj) (k : List Int) : Prop := ob.cls = .type "tuple" ∧ ∃ items n, ob.data = .seq items n ∧ ItemsAre (intKind prog w) k items.toList
abbrev tup2 (i : Int) (t : Tok) (j : Int) (u : Tok) : Obj := { cls := .type "tuple", data := .seq #[.int i t, .int j u] }
theorem tup2_ob {i j : Int} {t u : Tok} : TupOb prog w (tup2 i t j u) [i, j] := ⟨rfl, _, _, rfl, .cons (intKind_is _ _ _ _) (.cons (intKind_is _ _ _ _) .nil)⟩

/-- a dictionary's object with the pairs R; ks: its keys' objects -/
def DTab (prog : Program) (w : World) (o : Obj) (ks : List (Addr × Obj)) (N : Nat) (R : Int → Int → Int → Prop) : Prop :=
  ∃ es ep xs, o.ExactDict ∧ o.data = .dict es ep ∧ es.toList = xs.map (entryOfKey (tupleKind (intKind prog w))) ∧ (∀ x ∈ xs, ∃ ob, (x.2.1, ob) ∈ ks ∧ TupOb prog w ob x.1) ∧ (xs.map (·.1)).Nodup ∧ xs.length ≤ N ∧
    ∀ i j v, R i j v → ∃ a t, atKey xs [i, j] = some (a, .int v t)
theorem DTab.mono {o : Obj} {ks : List (Addr × Obj)} {N N' : Nat} {R R' : Int → Int → Int → Prop} (T : DTab prog w o ks N R) (hN : N ≤ N') (hR : ∀ i j v, R' i j v → R i j v) : DTab prog w o ks N' R' := by
  obtain ⟨es, ep, xs, a, b, c, d, e, f, g⟩ := T
  exact ⟨es, ep, xs, a, b, c, d, e, Nat.le_trans f hN, fun i j v h => g i j v (hR i j v h)⟩
theorem DTab.empty {R : Int → Int → Int → Prop} (hR : ∀ i j v, ¬ R i j v) : DTab prog w { cls := .type "dict", data := .dict #[] } [] 0 R :=
  ⟨#[], 0, [], ⟨rfl, rfl, rfl⟩, rfl, rfl, (fun _ h => nomatch h), List.nodup_nil, Nat.le_refl _, fun i j v h => absurd h (hR i j v)⟩

theorem DTab.of_new {o : Obj} {R : Int → Int → Int → Prop} (hd : Obj.IsDictOf (intKind prog w) o []) (hR : ∀ i j v, ¬ R i j v) : DTab prog w o [] 0 R := by
  obtain ⟨es, ep, h1, h2, _, h3, _⟩ := hd
  have : es.toList = [] := by
    generalize es.toList = l at h3
    cases h3; rfl
  exact ⟨es, ep, [], h1, h2, by rw [this]; rfl, (fun _ h => nomatch h), List.nodup_nil, Nat.le_refl _, fun i j v h => absurd h (hR i j v)⟩
theorem DTab.at {o : Obj} {ks : List (Addr × Obj)} {n : Nat} {R : Int → Int → Int → Prop} {d : Addr} {h : Heap} (T : DTab prog w o ks n R) (N : News h₀ L h news) (hd : (d, o) ∈ news) (hks : ∀ q ∈ ks, q ∈ news) :
    ∃ xs, h.DictOfH (tupleKind (intKind prog w)) d xs ∧ xs.length ≤ n ∧ (∀ x ∈ xs, ∃ ob, (x.2.1, ob) ∈ ks ∧ TupOb prog w ob x.1) ∧ ∀ i j v, R i j v → ∃ a t, atKey xs [i, j] = some (a, .int v t) := by
  obtain ⟨es, ep, xs, a, b, c, e, f, g, r⟩ := T
  refine ⟨xs, ⟨o, es, ep, (N _ hd).1, a, b, c, fun x hx => ?_, f⟩, g, e, r⟩
  obtain ⟨ob, hm, hc, items, k, hdat, hi⟩ := e x hx
  exact ⟨ob, items, k, (N _ (hks _ hm)).1, hc, hdat, hi⟩

theorem dtab_get {value slice : Expr} {d a : Addr} {o ka : Obj} {ks : List (Addr × Obj)} {n : Nat} {R : Int → Int → Int → Prop} {i j v : Int} {Q : Value → Shared → Prop} (N : News h₀ L s.heap news) (hd : (d, o) ∈ news) (hks : ∀ q ∈ ks, q ∈ news) (T : DTab prog w o ks n R) (hk : (a, ka) ∈ news) (hka : TupOb prog w ka [i, j])
    (hr : R i j v) (hu : A.units + 1 < cLine) (h : ∀ t tk, Q (.int v t) { s with toks := tk })
    (hs : subscripted slice false (.ref d) (.ref a) = operate [.ref d, .ref a] (getItem (.ref d) (.ref a)) := by with_unfolding_all rfl) :
    wpAny (model prog w) A (subscriptTail value slice (.ref d) (.ref a)) Q E s := by
  obtain ⟨xs, hD, _, _, hR⟩ := T.at N hd hks
  obtain ⟨b, t, hat⟩ := hR i j v hr
  obtain ⟨hc, items, k, hdat, hi⟩ := hka
  exact tail_any hD.typeIs slot_dict_getitem.lookup (wpAny_getItem_heap (tupleKind_room_in1 hu) ⟨ka, items, k, (N _ hk).1, hc, hdat, hi⟩ hD hat (h t _)) hs

theorem dtab_set {d a : Addr} {o ka : Obj} {ks : List (Addr × Obj)} {n : Nat} {R : Int → Int → Int → Prop} {i j v : Int} {t : Tok} {Q : Unit → Shared → Prop} (keep : List (Addr × Obj)) (F : Fr h₀ L s.heap m) (N : News h₀ L s.heap news) (hd : (d, o) ∈ news) (hks : ∀ q ∈ ks, q ∈ news) (T : DTab prog w o ks n R)
    (hk : (a, ka) ∈ news) (hka : TupOb prog w ka [i, j]) (hkeep : ∀ q ∈ keep, q ∈ news ∧ q.1 ≠ d) (ha : a ≠ d) (hu : A.units + 1 < cLine) (hn : n ≤ 2 ^ 20)
    (h : ∀ h' o' tk, Fr h₀ L h' m → News h₀ L h' ((d, o') :: (a, ka) :: keep) → DTab prog w o' ((a, ka) :: ks) (n + 1) (fun i' j' v' => (i' = i ∧ j' = j ∧ v' = v) ∨ (¬ (i' = i ∧ j' = j) ∧ R i' j' v')) → Q () { s with heap := h', toks := tk }) :
    wpAny (model prog w) A (setItem (.ref d) (.ref a) (.int v t)) Q E s := by
  obtain ⟨xs, hD, hl, hxs, hR⟩ := T.at N hd hks
  obtain ⟨hc, items, k, hdat, hi⟩ := id hka
  refine wpAny_setItem_heap (hsz := by simp [sizeLine_eq]; omega) (tupleKind_room_in1 hu) ⟨ka, items, k, (N _ hk).1, hc, hdat, hi⟩ hD fun h' hm' hs => ?_
  obtain ⟨o', es', ep', ho', hc', hd', he', _, hn'⟩ := hm'
  have z := N _ hd
  refine h h' o' _ (F.change hs z.2.1 z.2.2) (fun q hq => ?_) ⟨es', ep', storedH xs [i, j] a (.int v t), hc', hd', he', fun x hx => ?_, hn', Nat.le_trans storedH_len (Nat.succ_le_succ hl), fun i' j' v' hr => ?_⟩
  · rcases List.mem_cons.mp hq with rfl | hq
    · exact ⟨ho', z.2⟩
    · rcases List.mem_cons.mp hq with rfl | hq
      · exact ⟨hs.extBut _ _ ha (N _ hk).1, (N _ hk).2⟩
      · obtain ⟨q1, q2⟩ := hkeep q hq
        exact ⟨hs.extBut _ _ q2 (N _ q1).1, (N _ q1).2⟩
  · have old : ∀ y ∈ xs, ∃ ob, (y.2.1, ob) ∈ (a, ka) :: ks ∧ TupOb prog w ob y.1 := fun y hy => let ⟨ob, h1, h2⟩ := hxs y hy; ⟨ob, .tail _ h1, h2⟩
    unfold storedH at hx
    split at hx
    · obtain ⟨y, hy, rfl⟩ := List.mem_map.mp hx
      have := old y hy
      unfold putAt
      split <;> exact this
    · rcases List.mem_append.mp hx with hx | hx
      · exact old x hx
      · rw [List.mem_singleton.mp hx]
        exact ⟨ka, .head _, hka⟩
  · obtain ⟨k1, k2⟩ := atKey_storedH (xs := xs) (k := [i, j]) (k' := [i', j']) (a := a) (v := .int v t)
    rcases hr with ⟨rfl, rfl, rfl⟩ | ⟨hne, hr⟩
    · obtain ⟨b, hb⟩ := k1 rfl
      exact ⟨b, t, hb⟩
    · rw [k2 (by simpa using hne)]
      exact hR i' j' v' hr
end
end Mine
end
set_option maxHeartbeats 4000000
/- part Lv2 -/
section
namespace Mine
/-- the code's matrix, moved by one: D r c = d[r - 1, c - 1] -/
noncomputable def osaT (f : Nat → Nat → Bool) : Nat → Nat → Int
  | 0, c => c
  | r + 1, 0 => r + 1
  | r + 1, c + 1 =>
    if 1 ≤ r ∧ 1 ≤ c ∧ f r (c - 1) = true ∧ f (r - 1) c = true then
      min (min (min (osaT f r (c + 1) + 1) (osaT f (r + 1) c + 1)) (osaT f r c + (if f r c then 0 else 1))) (osaT f (r - 1) (c - 1) + (if f r c then 0 else 1))
    else min (min (osaT f r (c + 1) + 1) (osaT f (r + 1) c + 1)) (osaT f r c + (if f r c then 0 else 1))
termination_by r c => r + c
decreasing_by all_goals omega
/-- what the dictionary is known to hold -/
def osaR (f : Nat → Nat → Bool) (dom : Int → Int → Prop) (a b v : Int) : Prop := dom a b ∧ v = osaT f (a + 1).toNat (b + 1).toNat
theorem osa_left {f : Nat → Nat → Bool} {r : Nat} : osaT f r 0 = r := by cases r <;> rw [osaT]; rfl
theorem osa_top {f : Nat → Nat → Bool} {c : Nat} : osaT f 0 c = c := by rw [osaT]
/-- what the restricted table holds when rows below i are done and row i up to j -/
def domM (n m i j : Nat) (a b : Int) : Prop := (b = -1 ∧ -1 ≤ a ∧ a ≤ n) ∨ (a = -1 ∧ -1 ≤ b ∧ b ≤ m) ∨ (0 ≤ a ∧ 0 ≤ b ∧ b < m ∧ (a < i ∨ (a = i ∧ b < j)))
/-- the first minimum of a turn, as the code writes it -/
noncomputable def osaV (ns ms : List Int) (i j : Nat) : Int :=
  min (min (osaT (eqAt ns ms) ((i : Int) - 1 + 1).toNat ((j : Int) + 1).toNat + 1) (osaT (eqAt ns ms) ((i : Int) + 1).toNat ((j : Int) - 1 + 1).toNat + 1))
    (osaT (eqAt ns ms) ((i : Int) - 1 + 1).toNat ((j : Int) - 1 + 1).toNat + if (!decide (ns.getD i 0 = ms.getD j 0)) = true then 1 else 0)
theorem cost_eq {ns ms : List Int} {i j : Nat} : (if (!decide (ns.getD i 0 = ms.getD j 0)) = true then (1 : Int) else 0) = if eqAt ns ms i j then 0 else 1 := by
  unfold eqAt
  by_cases z : ns.getD i 0 = ms.getD j 0 <;> simp [z]
theorem osaV_eq {ns ms : List Int} {i j : Nat} : osaV ns ms i j = min (min (osaT (eqAt ns ms) i (j + 1) + 1) (osaT (eqAt ns ms) (i + 1) j + 1)) (osaT (eqAt ns ms) i j + if eqAt ns ms i j then 0 else 1) := by
  unfold osaV
  rw [show ((i : Int) - 1 + 1).toNat = i by omega, show ((j : Int) + 1).toNat = j + 1 by omega, show ((i : Int) + 1).toNat = i + 1 by omega, show ((j : Int) - 1 + 1).toNat = j by omega, cost_eq]
theorem osa_plain {ns ms : List Int} {i j : Nat} (h : ¬ ((i : Int) ≠ 0 ∧ (j : Int) ≠ 0 ∧ ns.getD i 0 = ms.getD ((j : Int) - 1).toNat 0 ∧ ns.getD ((i : Int) - 1).toNat 0 = ms.getD j 0)) :
    osaV ns ms i j = osaT (eqAt ns ms) (i + 1) (j + 1) := by
  rw [osaV_eq, osaT, if_neg (c := 1 ≤ i ∧ 1 ≤ j ∧ eqAt ns ms i (j - 1) = true ∧ eqAt ns ms (i - 1) j = true)]
  rintro ⟨h1, h2, h3, h4⟩
  refine h ⟨by omega, by omega, ?_, ?_⟩
  · rw [show ((j : Int) - 1).toNat = j - 1 by omega]; simpa [eqAt] using h3
  · rw [show ((i : Int) - 1).toNat = i - 1 by omega]; simpa [eqAt] using h4
theorem osa_swap {ns ms : List Int} {i j : Nat} (h1 : (i : Int) ≠ 0) (h2 : (j : Int) ≠ 0) (h3 : ns.getD i 0 = ms.getD ((j : Int) - 1).toNat 0) (h4 : ns.getD ((i : Int) - 1).toNat 0 = ms.getD j 0) :
    min (osaV ns ms i j) (osaT (eqAt ns ms) ((i : Int) - 2 + 1).toNat ((j : Int) - 2 + 1).toNat + if (!decide (ns.getD i 0 = ms.getD j 0)) = true then 1 else 0) = osaT (eqAt ns ms) (i + 1) (j + 1) := by
  rw [osaV_eq, osaT, if_pos (c := 1 ≤ i ∧ 1 ≤ j ∧ eqAt ns ms i (j - 1) = true ∧ eqAt ns ms (i - 1) j = true), cost_eq, show ((i : Int) - 2 + 1).toNat = i - 1 by omega, show ((j : Int) - 2 + 1).toNat = j - 1 by omega]
  refine ⟨by omega, by omega, ?_, ?_⟩
  · rw [show ((j : Int) - 1).toNat = j - 1 by omega] at h3; simpa [eqAt] using h3
  · rw [show ((i : Int) - 1).toNat = i - 1 by omega] at h4; simpa [eqAt] using h4
theorem osa_done {ns ms : List Int} {n m i j : Nat} {V : Int} (hV : V = osaT (eqAt ns ms) (i + 1) (j + 1)) (i' j' v' : Int) (h : osaR (eqAt ns ms) (domM n m i (j + 1)) i' j' v') :
    (i' = i ∧ j' = j ∧ v' = V) ∨ osaR (eqAt ns ms) (domM n m i j) i' j' v' := by
  obtain ⟨h1, h2⟩ := h
  by_cases e : i' = i ∧ j' = j
  · obtain ⟨rfl, rfl⟩ := e
    refine .inl ⟨rfl, rfl, ?_⟩
    rw [h2, hV]
    rfl
  · refine .inr ⟨?_, h2⟩
    unfold domM at h1 ⊢
    omega
theorem osa_fresh {ns ms : List Int} {n m i j : Nat} {V : Int} (i' j' v' : Int) (h : (i' = i ∧ j' = j ∧ v' = V) ∨ osaR (eqAt ns ms) (domM n m i j) i' j' v') :
    (i' = i ∧ j' = j ∧ v' = V) ∨ (¬ (i' = i ∧ j' = j) ∧ osaR (eqAt ns ms) (domM n m i j) i' j' v') := by
  rcases h with h | h
  · exact .inl h
  · refine .inr ⟨?_, h⟩
    have := h.1
    unfold domM at this
    omega
theorem osa_ne {ns ms : List Int} {n m i j : Nat} {i' j' v' : Int} (h : osaR (eqAt ns ms) (domM n m i j) i' j' v') : ¬ (i' = i ∧ j' = j) := by
  have := h.1
  unfold domM at this
  omega
theorem osa_row {ns ms : List Int} {n i : Nat} (i' j' v' : Int) (h : osaR (eqAt ns ms) (domM n ms.length (i + 1) 0) i' j' v') : osaR (eqAt ns ms) (domM n ms.length i ms.length) i' j' v' := by
  refine ⟨?_, h.2⟩
  have := h.1
  unfold domM at this ⊢
  omega
end Mine
end
set_option maxHeartbeats 4000000
/- part Mc8 -/
section
namespace Mine
theorem fillMc8 : (PySem.Challenge.rw_br0041_01 = PySem.Challenge.rw_br0041_01 ∧ hd.heap_39 = hd.heap_39) := by
  k_fill
  exact ⟨rfl, rfl⟩
section
variable {prog : Program} {w : World} {A : Around} {s : Shared} {p : Program} {loose : List Str} {mean : ExcName → Option Value} {mg mb : Str → Option Value} {g : Heap}
local macro_rules | `(tactic| walk_at "pyIter ref") => `(tactic| (k_here; refine stop_it ?_))
local macro_rules | `(tactic| walk_at "call ref") => `(tactic| (k_here; refine stop_it ?_))
local macro_rules | `(tactic| walk_at "setItem ref ref") => `(tactic| (k_here; refine stop_it ?_))
local macro_rules | `(tactic| walk_at "exec For Tuple") => `(tactic| (k_here; refine stop_it ?_))
local macro_rules | `(tactic| walk_at "getMethod ref") => `(tactic| (k_here; k_dflt (first
  | (refine' kmu_own ?k1 ?k2 ?k3 ?k4 ?k5 ?_; (case k1 => k_asm); (case k2 => k_asm); (case k3 => k_inst); (case k4 => k_is); (case k5 => k_is); k_whole)
  | (refine' method_inst ?k1 ?k2 ?k3 ?k4 ?k5 ?k6 ?k7 ?_; (case k1 => k_asm); (case k2 => k_asm); (case k3 => k_inst); (case k4 => k_is); (case k5 => k_is); (case k6 => k_is); (case k7 => k_get); k_whole))))
local macro_rules | `(tactic| walk_at "last getAttr ref") => `(tactic| (k_here; k_dflt (refine' attr_sm ?k1 ?k2 ?k4 ?k5 ?k6 ?k7 ?k9 ?k10 ?k11 ?k12 ?k13 ?k14 ?_; (case k1 => k_asm); (case k2 => k_asm); (case k4 => k_inst); (case k5 => k_is); (case k6 => k_is); (case k7 => k_is); (case k9 => k_is); (case k10 => k_is); (case k11 => decide +kernel); (case k12 => k_get); (case k13 => k_is); (case k14 => k_handed); k_whole)))
local macro_rules | `(tactic| walk_at "last eval Call Attribute") => `(tactic| (k_here; refine methodCall_S ?_))
local macro_rules | `(tactic| walk_at "eval Call Attribute") => `(tactic| (k_here; (with_reducible show wpAny _ _ (eval (Expr.Call (Expr.Attribute _ _ _) [Expr.Starred _ _] [] _) _) _ _ _); refine methodCall_S ?_))
local macro_rules | `(tactic| walk_at "call builtin:len") => `(tactic| (k_here; refine' len_TupAt ?k1 ?k2 ?_; (case k1 => k_asm); (case k2 => k_asm); intro _ _; k_whole))
local macro_rules | `(tactic| walk_at "getItem ref int") => `(tactic| (k_here; refine' getItem_TupAt ?k1 ?k2 ?k3 ?_; (case k1 => k_asm); (case k2 => k_asm); (case k3 => omega); intro _; k_whole))
local macro_rules | `(tactic| walk_at "subscriptTail") => `(tactic| (k_here; first
  | (refine' item_TupAt ?k1 ?k2 ?k3 ?_; (case k1 => k_asm); (case k2 => k_asm); (case k3 => omega); intro _; k_whole)
  | (refine' item_fn ?k1 ?k2 ?k3 ?k4 ?_; (case k1 => k_asm); (case k2 => k_mem); (case k3 => with_reducible assumption); (case k4 => omega); intro _; k_whole)))
local macro_rules | `(tactic| walk_at "call builtin:min") => `(tactic| (k_here; (with_reducible show wpAny _ _ (call (Value.builtin "min") [Value.int _ _, Value.int _ _]) _ _ _); (rename Around.handled _ = none => hX); refine' min2N hX ?k2 ?k3 ?_; (case k2 => k_asm); (case k3 => k_asm); k_whole; intro h' tk' t' F' N'))
local macro_rules | `(tactic| walk_at "call builtin:min") => `(tactic| (k_here; (with_reducible show wpAny _ _ (call (Value.builtin "min") [Value.int _ _, Value.int _ _, Value.int _ _]) _ _ _); (rename Around.handled _ = none => hX); refine' min3N hX ?k2 ?k3 ?_; (case k2 => k_asm); (case k3 => k_asm); k_whole; intro h' tk' t' F' N'))
local macro_rules | `(tactic| walk_at "call builtin:min") => `(tactic| (k_here; (with_reducible show wpAny _ _ (call (Value.builtin "min") [Value.int _ _, Value.int _ _, Value.int _ _, Value.int _ _]) _ _ _); (rename Around.handled _ = none => hX); refine' min4N hX ?k2 ?k3 ?_; (case k2 => k_asm); (case k3 => k_asm); k_whole; intro h' tk' t' F' N'))
local macro_rules | `(tactic| walk_at "setItem ref int int") => `(tactic| (k_here; refine' setItem_fn ?k1 ?k2 ?k3 ?k4 ?k5 ?_; (case k1 => k_asm); (case k2 => k_asm); (case k3 => k_upd); (case k4 => with_reducible assumption); (case k5 => omega); k_whole; intro h' F' N' i'))
local macro_rules | `(tactic| walk_at "assign Tuple") => `(tactic| (k_here; (with_reducible show wpAny _ _ (assign (Expr.Tuple _ _ _) _ (Value.ref _)) _ _ _); k_dflt (refine' kun_list ?k1 ?k2 ?k3 ?k4 ?k5 ?k6 ?_; (case k1 => k_asm); (case k2 => k_asm); (case k3 => kun_lst); (case k4 => assumption); (case k5 => exact rfl); (case k6 => exact rfl); k_whole); intro h' F' N'; (try k_sweep)))
local macro_rules | `(tactic| walk_at "assign Tuple") => `(tactic| (k_here; (with_reducible show wpAny _ _ (assign (Expr.Tuple _ _ _) _ (Value.ref _)) _ _ _); k_dflt (refine' unpackN_ ?k1 ?k2 ?k3 ?k4 ?k5 ?k6 ?_; (case k1 => k_asm); (case k2 => k_asm); (case k3 => kun_tup); (case k4 => assumption); (case k5 => exact rfl); (case k6 => exact rfl); k_whole); intro h' F' N'; (try k_sweep)))
local macro_rules | `(tactic| walk_at "unpackItems ref") => `(tactic| (k_here; k_dflt (refine' unpackItemsN_ ?k1 ?k2 ?k3 ?k4 ?k5 ?_; (case k1 => k_asm); (case k2 => k_asm); (case k3 => kun_tup); (case k4 => assumption); (case k5 => exact rfl); k_whole); intro h' F' N'; (try k_sweep)))
local macro_rules | `(tactic| walk_at "call type:list") => `(tactic| (k_here; refine' list_range_N ?k0 ?k1 ?k2 ?k3 ?k4 ?k5 ?k6 ?_; (case k1 => k_asm); (case k2 => k_asm); (case k0 => assumption); (case k3 => assumption); (case k4 => omega); (case k5 => exact small_one (by omega) (by omega) (by omega) (by omega)); (case k6 => omega); intro D' h' tk' vs' k' F' N' l1 i1; (try k_lt l1)))
structure D1S where
  o : Obj
  ks : List (Addr × Obj)
  o1 : Option Value
  o2 : Option Value
structure DMS where
  o : Obj
  ks : List (Addr × Obj)
  o1 : Option Value
  o2 : Option Value
  o3 : Option Value
  o4 : Option Value
  o5 : Option Value
structure DIS where
  o : Obj
  ks : List (Addr × Obj)
  o2 : Option Value
  o4 : Option Value
  o5 : Option Value
theorem ne2 {a I I₂ : Addr} {ob ob₂ : Obj} (h : a ≠ I ∧ a ≠ I₂) : ∀ q ∈ [(I, ob), (I₂, ob₂)], a ≠ q.1 := List.forall_mem_cons.mpr ⟨h.1, List.forall_mem_cons.mpr ⟨h.2, fun _ h => nomatch h⟩⟩
local macro_rules | `(tactic| walk_at "subscriptTail Name Tuple ref ref") => `(tactic| (k_here; k_dflt (refine' dtab_get ?k1 ?k2 ?k3 ?k4 ?k5 ?k6 ?k7 ?k8 ?_; (case k4 => assumption); (case k1 => k_asm); (case k2 => k_mem); (case k3 => first | (intro q hq; (repeat (first | exact hq | apply List.mem_cons_of_mem)); done) | (refine List.forall_mem_cons.mpr ⟨by k_mem, ?_⟩; intro q hq; (repeat (first | exact hq | apply List.mem_cons_of_mem)); done)); (case k5 => k_mem); (case k6 => exact tup2_ob); (case k7 => first | (refine ⟨?_, rfl⟩; unfold domM; omega) | exact Or.inl ⟨rfl, rfl, rfl⟩ | (refine Or.inr ⟨?_, rfl⟩; unfold domM; omega)); (case k8 => assumption)); intro _ _))
theorem restricted {x dx a b : Addr} {ns ms : List Int} {t0 t1 t2 t3 : Tok} (ha : TupAt g a ns) (hb : TupAt g b ms) (I : Inst g s.heap x 310 dx (dltAt w t0 t1 t2 t3) 4) (O : On w p loose mean mg mb g s.heap) (H : Room A 3 60) :
    Pays prog w A (.call (.ref 300) ⟨[.ref x, .ref a, .ref b], []⟩) s (fun v _ => ∃ t, v = .int (osaT (eqAt ns ms) ns.length ms.length) t) := by
  w_top off
  intro R hR
  have lt := I.lt
  refine' enterG [(x, instObj 310 dx), (dx, dictOf (dltAt w t0 t1 t2 t3) 4)] (binds := [(Str.ofString "self", .ref x), (Str.ofString "s1", .ref a), (Str.ofString "s2", .ref b)]) O ?hg ?hown ?ho ?hcd ?hroom ?hb ?hl ?body ?hcell ?c1 ?c2 ?c3
  (case hg => exact own_none I)
  (case hown => exact own_at I)
  (case ho => k_is)
  (case hcd => k_is)
  (case hroom => have := Room.dp (by assumption); omega)
  (case hl => exact locs rfl)
  (case hcell => decide)
  (case c1 => exact rfl)
  (case c2 => exact rfl)
  (case c3 => exact rfl)
  (case hb => first | exact BindsTo.of_eq rfl | exact kp_binds (O.k.keeps O.st) (fun _ => rfl))
  intro h₀ L h₁ gst X T back F N
  (try k_fold)
  rename Top _ _ _ _ _ _ => T₀
  have ha₀ := ha.keeps gst
  have za : ns.length ≤ 64 := ha.choose_spec.2.2
  have zb : ms.length ≤ 64 := hb.choose_spec.2.2
  have hh := H.hh
  have hu3 : A.units + 3 + 1 < cLine := by have := H.un; omega
  have hb₀ := hb.keeps gst
  k_steps
  rename News _ _ _ _ => N
  rename Fr _ _ _ _ => F
  (try dsimp only at F)
  refine' fr_then F ?e ?_
  (case e => repeat' (first | exact envM_of_lookup _ | exact envM_nil | exact rfl | apply env_set))
  clear F
  intro F
  have F := fr_more [Str.ofString "i", Str.ofString "j", Str.ofString "cs1", Str.ofString "cs2", Str.ofString "cost"] F
  (try dsimp only at N)
  (try dsimp only)
  rename_i d _ o lo _ _ hD _ ld _ _ _ _ _ _ _ _ _ _ hr _ _
  have hxd : @Ne Nat x d := by k_ne
  have hdxd : @Ne Nat dx d := by k_ne
  have T := DTab.of_new (prog := prog) (w := w) (R := osaR (eqAt ns ms) fun a b => b = -1 ∧ -1 ≤ a ∧ a < -1) hD (fun i j v h => by have := h.1; omega)
  clear hD
  refine' loop_range (σ := D1S) (n := ns.length + 2)
    (ps := fun c => [(Str.ofString "s2", some (.ref b)), (Str.ofString "s1", some (.ref a)), (Str.ofString "self", some (.ref x)), (Str.ofString "d", some (.ref d)), (Str.ofString "i", c.o1), (Str.ofString "j", none), (Str.ofString "cs1", none), (Str.ofString "cs2", none), (Str.ofString "cost", none)])
    (Led := fun c => (d, c.o) :: (x, instObj 310 dx) :: (dx, dictOf (dltAt w t0 t1 t2 t3) 4) :: c.ks)
    (Inv := fun k c => DTab prog w c.o c.ks k (osaR (eqAt ns ms) fun a b => b = -1 ∧ -1 ≤ a ∧ a < (k : Int) - 1) ∧ ∀ q ∈ c.ks, q.1 ≠ d)
    (c₀ := D1S.mk _ _ _ none) hh hr (small_one (by omega) (by omega) (by omega) (by omega)) (range_size (by omega) (by omega)) F N ⟨T.mono (Nat.le_refl _) (fun _ _ _ h => ⟨⟨h.1.1, h.1.2.1, by have := h.1.2.2; omega⟩, h.2⟩), fun _ h => nomatch h⟩ ?turn1 ?done1
  (case turn1 =>
    clear F N hr T
    rename_i z0 z1 z2 z3 z4 z5 z6 z7
    (try clear z7)
    (try clear z6)
    (try clear z5)
    (try clear z4)
    (try clear z3)
    (try clear z2)
    (try clear z1)
    (try clear z0)
    intro I₁ k t c h tk ob hk hinv hne F N
    obtain ⟨o, ks, o1, o2⟩ := c
    dsimp only at F N hinv hne ⊢
    obtain ⟨T, hkd⟩ := hinv
    have p1 : @Ne Nat d I₁ := hne (d, o) (by simp)
    have p2 : @Ne Nat x I₁ := hne (x, instObj 310 dx) (by simp)
    have p3 : @Ne Nat dx I₁ := hne (dx, dictOf (dltAt w t0 t1 t2 t3) 4) (by simp)
    have p4 : ∀ q ∈ ks, q.1 ≠ I₁ := fun q hq => hne q (by simp [hq])
    k_steps
    rename News _ _ _ _ => N
    rename Fr _ _ _ _ => F
    (try dsimp only at N)
    (try dsimp only)
    rename _ ∧ _ ∧ _ ∧ _ ∧ AllLt _ _ => lD
    refine dtab_set ((I₁, ob) :: (x, instObj 310 dx) :: (dx, dictOf (dltAt w t0 t1 t2 t3) 4) :: ks) F N (by k_mem) (fun q hq => by repeat (first | exact hq | apply List.mem_cons_of_mem)) T (by k_mem) tup2_ob
      (List.forall_mem_cons.mpr ⟨⟨by k_mem, by k_ne⟩, List.forall_mem_cons.mpr ⟨⟨by k_mem, by k_ne⟩, List.forall_mem_cons.mpr ⟨⟨by k_mem, by k_ne⟩, fun q hq => ⟨by repeat (first | exact hq | apply List.mem_cons_of_mem), hkd q hq⟩⟩⟩⟩) (by k_ne) (by have := H.un; simp; omega) (by omega) ?_
    intro h' o' tk' F N T
    k_steps
    (try dsimp only at F)
    refine' fr_then F ?e ?_
    (case e => repeat' (first | exact envM_of_lookup _ | exact envM_nil | exact rfl | apply env_set))
    clear F
    intro F
    exact TurnEnd.mk (.inl rfl) (D1S.mk o' (_ :: ks) _ none) ⟨T.mono (Nat.le_refl _) (fun i j v h => by
        obtain ⟨⟨rfl, h1, h2⟩, rfl⟩ := h
        by_cases e : i = -1 + (k : Int)
        · refine .inl ⟨e, rfl, ?_⟩
          rw [show (-1 + 1 : Int).toNat = 0 from rfl, osa_left]; omega
        · exact .inr ⟨fun z => e z.1, ⟨rfl, h1, by omega⟩, rfl⟩), List.forall_mem_cons.mpr ⟨by k_ne, hkd⟩⟩ F (news_turn [(I₁, ob)] [(x, instObj 310 dx), (dx, dictOf (dltAt w t0 t1 t2 t3) 4)] N)
      (List.forall_mem_cons.mpr ⟨p1, List.forall_mem_cons.mpr ⟨p2, List.forall_mem_cons.mpr ⟨p3, List.forall_mem_cons.mpr ⟨by k_ne, p4⟩⟩⟩⟩)
    )
  (case done1 =>
    clear F N hr T
    rename_i z0 z1 z2 z3 z4 z5 z6 z7
    (try clear z7)
    (try clear z6)
    (try clear z5)
    (try clear z4)
    (try clear z3)
    (try clear z2)
    (try clear z1)
    (try clear z0)
    intro c h tk hinv F N
    obtain ⟨o, ks, oi, o2⟩ := c
    dsimp only at F N hinv ⊢
    obtain ⟨T, hkd⟩ := hinv
    clear o2
    k_steps
    rename News _ _ _ _ => N
    rename Fr _ _ _ _ => F
    (try dsimp only at N)
    (try dsimp only)
    rename IsRange _ _ _ _ _ _ _ _ => hr
    refine' loop_range (σ := D1S) (n := ms.length + 2)
      (ps := fun c => [(Str.ofString "s2", some (.ref b)), (Str.ofString "s1", some (.ref a)), (Str.ofString "self", some (.ref x)), (Str.ofString "d", some (.ref d)), (Str.ofString "i", oi), (Str.ofString "j", c.o2), (Str.ofString "cs1", none), (Str.ofString "cs2", none), (Str.ofString "cost", none)])
      (Led := fun c => (d, c.o) :: (x, instObj 310 dx) :: (dx, dictOf (dltAt w t0 t1 t2 t3) 4) :: c.ks)
      (Inv := fun k c => DTab prog w c.o c.ks (ns.length + 2 + k) (osaR (eqAt ns ms) fun a b => (b = -1 ∧ -1 ≤ a ∧ a < (ns.length : Int) + 1) ∨ (a = -1 ∧ -1 ≤ b ∧ b < (k : Int) - 1)) ∧ ∀ q ∈ c.ks, q.1 ≠ d)
      (c₀ := D1S.mk o ks oi none) hh hr (small_one (by omega) (by omega) (by omega) (by omega)) (range_size (by omega) (by omega)) F N ⟨T.mono (Nat.le_refl _) (fun i j _ h => ⟨by have := h.1; show j = -1 ∧ -1 ≤ i ∧ i < ((ns.length + 2 : Nat) : Int) - 1; omega, h.2⟩), hkd⟩ ?turn2 ?done2
    (case turn2 =>
      clear F N hr T hkd
      rename_i z0 z1 z2 z3 z4 z5 z6 z7 z8 z9 z10 z11 z12 z13
      (try clear z13)
      (try clear z12)
      (try clear z11)
      (try clear z10)
      (try clear z9)
      (try clear z8)
      (try clear z7)
      (try clear z6)
      (try clear z5)
      (try clear z4)
      (try clear z3)
      (try clear z2)
      (try clear z1)
      (try clear z0)
      (try clear ks)
      (try clear o)
      intro I₁ k t c h tk ob hk hinv hne F N
      obtain ⟨o, ks, o1, o2⟩ := c
      dsimp only at F N hinv hne ⊢
      obtain ⟨T, hkd⟩ := hinv
      have p1 : @Ne Nat d I₁ := hne (d, o) (by simp)
      have p2 : @Ne Nat x I₁ := hne (x, instObj 310 dx) (by simp)
      have p3 : @Ne Nat dx I₁ := hne (dx, dictOf (dltAt w t0 t1 t2 t3) 4) (by simp)
      have p4 : ∀ q ∈ ks, q.1 ≠ I₁ := fun q hq => hne q (by simp [hq])
      k_steps
      rename News _ _ _ _ => N
      rename Fr _ _ _ _ => F
      (try dsimp only at N)
      (try dsimp only)
      rename _ ∧ _ ∧ _ ∧ _ ∧ AllLt _ _ => lD
      refine dtab_set ((I₁, ob) :: (x, instObj 310 dx) :: (dx, dictOf (dltAt w t0 t1 t2 t3) 4) :: ks) F N (by k_mem) (fun q hq => by repeat (first | exact hq | apply List.mem_cons_of_mem)) T (by k_mem) tup2_ob
        (List.forall_mem_cons.mpr ⟨⟨by k_mem, by k_ne⟩, List.forall_mem_cons.mpr ⟨⟨by k_mem, by k_ne⟩, List.forall_mem_cons.mpr ⟨⟨by k_mem, by k_ne⟩, fun q hq => ⟨by repeat (first | exact hq | apply List.mem_cons_of_mem), hkd q hq⟩⟩⟩⟩) (by k_ne) (by have := H.un; simp; omega) (by omega) ?_
      intro h' o' tk' F N T
      k_steps
      (try dsimp only at F)
      refine' fr_then F ?e ?_
      (case e => repeat' (first | exact envM_of_lookup _ | exact envM_nil | exact rfl | apply env_set))
      clear F
      intro F
      exact TurnEnd.mk (.inl rfl) (D1S.mk o' (_ :: ks) none _) ⟨T.mono (Nat.le_refl _) (fun i j v h => by
          obtain ⟨h1, rfl⟩ := h
          by_cases e : i = -1 ∧ j = -1 + (k : Int)
          · refine .inl ⟨e.1, e.2, ?_⟩
            rw [e.1, show (-1 + 1 : Int).toNat = 0 from rfl, osa_top]; omega
          · exact .inr ⟨e, by omega, rfl⟩), List.forall_mem_cons.mpr ⟨by k_ne, hkd⟩⟩ F (news_turn [(I₁, ob)] [(x, instObj 310 dx), (dx, dictOf (dltAt w t0 t1 t2 t3) 4)] N)
        (List.forall_mem_cons.mpr ⟨p1, List.forall_mem_cons.mpr ⟨p2, List.forall_mem_cons.mpr ⟨p3, List.forall_mem_cons.mpr ⟨by k_ne, p4⟩⟩⟩⟩)
      )
    (case done2 =>
      clear F N hr T hkd
      rename_i z0 z1 z2 z3 z4 z5 z6 z7 z8 z9 z10 z11 z12 z13
      (try clear z13)
      (try clear z12)
      (try clear z11)
      (try clear z10)
      (try clear z9)
      (try clear z8)
      (try clear z7)
      (try clear z6)
      (try clear z5)
      (try clear z4)
      (try clear z3)
      (try clear z2)
      (try clear z1)
      (try clear z0)
      (try clear ks)
      (try clear o)
      intro c h tk hinv F N
      obtain ⟨o, ks, o1, oj⟩ := c
      dsimp only at F N hinv ⊢
      obtain ⟨T, hkd⟩ := hinv
      clear o1
      k_steps
      refine' For_pairM F ?k1 ?k2 ?k3 ?k4 ?_ ?k5
      (case k1 => exact hh)
      (case k2 => exact rfl)
      (case k3 => exact rfl)
      (case k4 => exact rfl)
      (case k5 => intro _; rfl)
      k_steps
      rename News _ _ _ _ => N
      rename Fr _ _ _ _ => F
      refine' enum_loop0 (σ := DMS) (ns := ns)
        (ps := fun c => [(Str.ofString "s2", some (.ref b)), (Str.ofString "s1", some (.ref a)), (Str.ofString "self", some (.ref x)), (Str.ofString "d", some (.ref d)), (Str.ofString "i", c.o1), (Str.ofString "j", c.o2), (Str.ofString "cs1", c.o3), (Str.ofString "cs2", c.o4), (Str.ofString "cost", c.o5)])
        (Led := fun c => (d, c.o) :: (x, instObj 310 dx) :: (dx, dictOf (dltAt w t0 t1 t2 t3) 4) :: c.ks)
        (Inv := fun i c => DTab prog w c.o c.ks (200 + 200 * i) (osaR (eqAt ns ms) (domM ns.length ms.length i 0)) ∧ ∀ q ∈ c.ks, q.1 ≠ d)
        (c₀ := DMS.mk o ks oi oj none none none) hh ha₀ F N ⟨T.mono (by omega) (fun i j _ h => ⟨by have := h.1; unfold domM at this; omega, h.2⟩), hkd⟩ ?turn3 ?done3
      (case turn3 =>
        clear F N T hkd
        rename_i z0 z1 z2
        (try clear z2)
        (try clear z1)
        (try clear z0)
        (try clear ks)
        (try clear o)
        intro I₁ I₂ i ti u1 c h tk ob ob₂ hi hinv hne nI F N
        obtain ⟨o, ks, o1, o2, o3, o4, o5⟩ := c
        dsimp only at F N hinv hne ⊢
        obtain ⟨T, hkd⟩ := hinv
        have p1 : @Ne Nat d I₁ ∧ @Ne Nat d I₂ := hne (d, o) (by simp)
        have p2 : @Ne Nat x I₁ ∧ @Ne Nat x I₂ := hne (x, instObj 310 dx) (by simp)
        have p3 : @Ne Nat dx I₁ ∧ @Ne Nat dx I₂ := hne (dx, dictOf (dltAt w t0 t1 t2 t3) 4) (by simp)
        have p4 : ∀ q ∈ ks, q.1 ≠ I₁ ∧ q.1 ≠ I₂ := fun q hq => hne q (by simp [hq])
        k_steps
        refine' For_pairM F ?l1 ?l2 ?l3 ?l4 ?_ ?l5
        (case l1 => exact hh)
        (case l2 => exact rfl)
        (case l3 => exact rfl)
        (case l4 => exact rfl)
        (case l5 => intro _; rfl)
        k_steps
        rename News _ _ _ _ => N
        rename Fr _ _ _ _ => F
        refine' enum_loop0 (σ := DIS) (ns := ms)
          (ps := fun c => [(Str.ofString "s2", some (.ref b)), (Str.ofString "s1", some (.ref a)), (Str.ofString "self", some (.ref x)), (Str.ofString "d", some (.ref d)), (Str.ofString "i", some (.int i ti)), (Str.ofString "j", c.o2), (Str.ofString "cs1", some (.int (ns.getD i 0) u1)), (Str.ofString "cs2", c.o4), (Str.ofString "cost", c.o5)])
          (Led := fun c => (d, c.o) :: (I₁, ob) :: (I₂, ob₂) :: (x, instObj 310 dx) :: (dx, dictOf (dltAt w t0 t1 t2 t3) 4) :: c.ks)
          (Inv := fun j c => DTab prog w c.o c.ks (200 + 200 * i + 2 * j) (osaR (eqAt ns ms) (domM ns.length ms.length i j)) ∧ (∀ q ∈ c.ks, q.1 ≠ d) ∧ ∀ q ∈ c.ks, q.1 ≠ I₁ ∧ q.1 ≠ I₂)
          (c₀ := DIS.mk o ks o2 o4 o5) hh hb₀ F (news_sub N _ (by intro q hq; simp only [List.mem_cons] at hq ⊢; rcases hq with h | h | h | h | h | h <;> simp [h])) ⟨T.mono (by omega) (fun i j _ h => h), hkd, p4⟩ ?turn4 ?done4
        (case turn4 =>
          clear F N T hkd hne p4
          (try clear ks)
          (try clear o)
          intro I₃ I₄ j tj u2 c h tk ob₃ ob₄ hj hinv hne nI₂ F N
          obtain ⟨o, ks, o2, o4, o5⟩ := c
          dsimp only at F N hinv hne ⊢
          obtain ⟨T, hkd, p4⟩ := hinv
          have q1 : @Ne Nat d I₃ ∧ @Ne Nat d I₄ := hne (d, o) (by simp)
          have q2 : @Ne Nat x I₃ ∧ @Ne Nat x I₄ := hne (x, instObj 310 dx) (by simp)
          have q3 : @Ne Nat dx I₃ ∧ @Ne Nat dx I₄ := hne (dx, dictOf (dltAt w t0 t1 t2 t3) 4) (by simp)
          have q5 : @Ne Nat I₁ I₃ ∧ @Ne Nat I₁ I₄ := hne (I₁, ob) (by simp)
          have q6 : @Ne Nat I₂ I₃ ∧ @Ne Nat I₂ I₄ := hne (I₂, ob₂) (by simp)
          have q4 : ∀ q ∈ ks, q.1 ≠ I₃ ∧ q.1 ≠ I₄ := fun q hq => hne q (by simp [hq])
          k_steps
          rename News _ _ _ _ => N
          rename Fr _ _ _ _ => F
          refine Pays.use (ident_int (On.of X T₀ F) (room_deep (H.less (by omega) (by omega)))) ?_
          intro v h₂ tk₃ st hv
          subst hv
          dsimp only at st ⊢
          have F2 := fr_stay F st
          have N2 := news_stay N st
          clear F N
          k_steps
          rename News _ _ _ _ => N
          rename Fr _ _ _ _ => F
          (try dsimp only at N)
          (try dsimp only)
          rename_i Dk _ lk
          refine dtab_set ((I₃, ob₃) :: (I₄, ob₄) :: (I₁, ob) :: (I₂, ob₂) :: (x, instObj 310 dx) :: (dx, dictOf (dltAt w t0 t1 t2 t3) 4) :: ks) F N (by k_mem) (fun q hq => by repeat (first | exact hq | apply List.mem_cons_of_mem)) T (by k_mem) tup2_ob
            (List.forall_mem_cons.mpr ⟨⟨by k_mem, Ne.symm q1.1⟩, List.forall_mem_cons.mpr ⟨⟨by k_mem, Ne.symm q1.2⟩, List.forall_mem_cons.mpr ⟨⟨by k_mem, Ne.symm p1.1⟩, List.forall_mem_cons.mpr ⟨⟨by k_mem, Ne.symm p1.2⟩, List.forall_mem_cons.mpr ⟨⟨by k_mem, hxd⟩, List.forall_mem_cons.mpr ⟨⟨by k_mem, hdxd⟩, fun q hq => ⟨by repeat (first | exact hq | apply List.mem_cons_of_mem), hkd q hq⟩⟩⟩⟩⟩⟩⟩) (by k_ne) hu3 (by omega) ?_
          intro h' o' tk' F N T'
          have T := T'.mono (Nat.le_refl _) (fun i' j' v' h => osa_fresh (V := osaV ns ms i j) i' j' v' h)
          clear T'
          k_steps
          rotate_left 1
          · rename ((_ : Int) = 0) => z2
            (try dsimp only at F)
            refine' fr_then F ?e ?_
            (case e => repeat' (first | exact envM_of_lookup _ | exact envM_nil | exact rfl | apply env_set))
            clear F
            intro F
            refine TurnEnd2.mk (.inr rfl) (DIS.mk o' (_ :: ks) _ _ _) ⟨T.mono (by omega) (fun i' j' v' h => osa_done (osa_plain fun h => h.2.1 z2) i' j' v' h), List.forall_mem_cons.mpr ⟨by k_ne, hkd⟩, List.forall_mem_cons.mpr ⟨⟨by k_ne, by k_ne⟩, p4⟩⟩ F
              (news_sub N _ (by intro q hq; simp only [List.cons_append, List.nil_append, List.mem_cons] at hq ⊢; rcases hq with h | h | h | h | h | h | h | h | h <;> simp [h]))
              (List.forall_mem_cons.mpr ⟨ne2 q1, List.forall_mem_cons.mpr ⟨ne2 q5, List.forall_mem_cons.mpr ⟨ne2 q6, List.forall_mem_cons.mpr ⟨ne2 q2, List.forall_mem_cons.mpr ⟨ne2 q3, List.forall_mem_cons.mpr ⟨ne2 ⟨by k_ne, by k_ne⟩, fun p hp => ne2 (q4 p hp)⟩⟩⟩⟩⟩⟩)
          · rename ((_ : Int) = 0) => z2
            (try dsimp only at F)
            refine' fr_then F ?e ?_
            (case e => repeat' (first | exact envM_of_lookup _ | exact envM_nil | exact rfl | apply env_set))
            clear F
            intro F
            refine TurnEnd2.mk (.inr rfl) (DIS.mk o' (_ :: ks) _ _ _) ⟨T.mono (by omega) (fun i' j' v' h => osa_done (osa_plain fun h => h.1 z2) i' j' v' h), List.forall_mem_cons.mpr ⟨by k_ne, hkd⟩, List.forall_mem_cons.mpr ⟨⟨by k_ne, by k_ne⟩, p4⟩⟩ F
              (news_sub N _ (by intro q hq; simp only [List.cons_append, List.nil_append, List.mem_cons] at hq ⊢; rcases hq with h | h | h | h | h | h | h | h | h <;> simp [h]))
              (List.forall_mem_cons.mpr ⟨ne2 q1, List.forall_mem_cons.mpr ⟨ne2 q5, List.forall_mem_cons.mpr ⟨ne2 q6, List.forall_mem_cons.mpr ⟨ne2 q2, List.forall_mem_cons.mpr ⟨ne2 q3, List.forall_mem_cons.mpr ⟨ne2 ⟨by k_ne, by k_ne⟩, fun p hp => ne2 (q4 p hp)⟩⟩⟩⟩⟩⟩)
          rename_i z1 z2 t₃
          refine Pays.use (ident_int (On.of X T₀ F) (room_deep (H.less (by omega) (by omega)))) ?_
          intro v h₃ tk₄ st hv
          subst hv
          dsimp only at st ⊢
          have F2 := fr_stay F st
          have N2 := news_stay N st
          clear F N
          k_steps
          rename News _ _ _ _ => N
          rename Fr _ _ _ _ => F
          rotate_left 1
          · rename ¬ (_ = _) => z3
            rename News _ _ _ _ => N
            rename Fr _ _ _ _ => F
            (try dsimp only at F)
            refine' fr_then F ?e ?_
            (case e => repeat' (first | exact envM_of_lookup _ | exact envM_nil | exact rfl | apply env_set))
            clear F
            intro F
            refine TurnEnd2.mk (.inr rfl) (DIS.mk o' (_ :: ks) _ _ _) ⟨T.mono (by omega) (fun i' j' v' h => osa_done (osa_plain fun h => z3 h.2.2.1) i' j' v' h), List.forall_mem_cons.mpr ⟨by k_ne, hkd⟩, List.forall_mem_cons.mpr ⟨⟨by k_ne, by k_ne⟩, p4⟩⟩ F
              (news_sub N _ (by intro q hq; simp only [List.cons_append, List.nil_append, List.mem_cons] at hq ⊢; rcases hq with h | h | h | h | h | h | h | h | h <;> simp [h]))
              (List.forall_mem_cons.mpr ⟨ne2 q1, List.forall_mem_cons.mpr ⟨ne2 q5, List.forall_mem_cons.mpr ⟨ne2 q6, List.forall_mem_cons.mpr ⟨ne2 q2, List.forall_mem_cons.mpr ⟨ne2 q3, List.forall_mem_cons.mpr ⟨ne2 ⟨by k_ne, by k_ne⟩, fun p hp => ne2 (q4 p hp)⟩⟩⟩⟩⟩⟩)
          rename_i z3 t₄
          refine Pays.use (ident_int (On.of X T₀ F) (room_deep (H.less (by omega) (by omega)))) ?_
          intro v h₄ tk₅ st hv
          subst hv
          dsimp only at st ⊢
          have F2 := fr_stay F st
          have N2 := news_stay N st
          clear F N
          k_steps
          rename News _ _ _ _ => N
          rename Fr _ _ _ _ => F
          rotate_left 1
          · rename ¬ (_ = _) => z4
            rename News _ _ _ _ => N
            rename Fr _ _ _ _ => F
            (try dsimp only at F)
            refine' fr_then F ?e ?_
            (case e => repeat' (first | exact envM_of_lookup _ | exact envM_nil | exact rfl | apply env_set))
            clear F
            intro F
            refine TurnEnd2.mk (.inr rfl) (DIS.mk o' (_ :: ks) _ _ _) ⟨T.mono (by omega) (fun i' j' v' h => osa_done (osa_plain fun h => z4 h.2.2.2) i' j' v' h), List.forall_mem_cons.mpr ⟨by k_ne, hkd⟩, List.forall_mem_cons.mpr ⟨⟨by k_ne, by k_ne⟩, p4⟩⟩ F
              (news_sub N _ (by intro q hq; simp only [List.cons_append, List.nil_append, List.mem_cons] at hq ⊢; rcases hq with h | h | h | h | h | h | h | h | h <;> simp [h]))
              (List.forall_mem_cons.mpr ⟨ne2 q1, List.forall_mem_cons.mpr ⟨ne2 q5, List.forall_mem_cons.mpr ⟨ne2 q6, List.forall_mem_cons.mpr ⟨ne2 q2, List.forall_mem_cons.mpr ⟨ne2 q3, List.forall_mem_cons.mpr ⟨ne2 ⟨by k_ne, by k_ne⟩, fun p hp => ne2 (q4 p hp)⟩⟩⟩⟩⟩⟩)
          rename News _ _ _ _ => N
          rename Fr _ _ _ _ => F
          (try dsimp only at N)
          (try dsimp only)
          rename List.getD _ _ _ = List.getD _ _ _ => z4
          rename_i Dk₂ _ lk₂
          refine dtab_set ((Dk, tup2 i ti j tj) :: (I₃, ob₃) :: (I₄, ob₄) :: (I₁, ob) :: (I₂, ob₂) :: (x, instObj 310 dx) :: (dx, dictOf (dltAt w t0 t1 t2 t3) 4) :: ks) F N (by k_mem) (List.forall_mem_cons.mpr ⟨by k_mem, fun q hq => by repeat (first | exact hq | apply List.mem_cons_of_mem)⟩) T (by k_mem) tup2_ob
            (List.forall_mem_cons.mpr ⟨⟨by k_mem, by k_ne⟩, List.forall_mem_cons.mpr ⟨⟨by k_mem, Ne.symm q1.1⟩, List.forall_mem_cons.mpr ⟨⟨by k_mem, Ne.symm q1.2⟩, List.forall_mem_cons.mpr ⟨⟨by k_mem, Ne.symm p1.1⟩, List.forall_mem_cons.mpr ⟨⟨by k_mem, Ne.symm p1.2⟩, List.forall_mem_cons.mpr ⟨⟨by k_mem, hxd⟩, List.forall_mem_cons.mpr ⟨⟨by k_mem, hdxd⟩, fun q hq => ⟨by repeat (first | exact hq | apply List.mem_cons_of_mem), hkd q hq⟩⟩⟩⟩⟩⟩⟩⟩) (by k_ne) hu3 (by omega) ?_
          intro h₅ o₂ tk' F N T'
          have T := T'.mono (Nat.le_refl _) (fun i' j' v' h => Or.elim (osa_done (osa_swap z1 z2 z3 z4) i' j' v' h) Or.inl fun q => .inr ⟨osa_ne q, .inr q⟩)
          clear T'
          k_steps
          (try dsimp only at F)
          refine' fr_then F ?e ?_
          (case e => repeat' (first | exact envM_of_lookup _ | exact envM_nil | exact rfl | apply env_set))
          clear F
          intro F
          refine TurnEnd2.mk (.inl rfl) (DIS.mk o₂ (_ :: _ :: ks) _ _ _) ⟨T.mono (by omega) (fun _ _ _ h => h), List.forall_mem_cons.mpr ⟨by k_ne, List.forall_mem_cons.mpr ⟨by k_ne, hkd⟩⟩, List.forall_mem_cons.mpr ⟨⟨by k_ne, by k_ne⟩, List.forall_mem_cons.mpr ⟨⟨by k_ne, by k_ne⟩, p4⟩⟩⟩ F
            (news_sub N _ (by intro q hq; simp only [List.cons_append, List.nil_append, List.mem_cons] at hq ⊢; rcases hq with h | h | h | h | h | h | h | h | h | h <;> simp [h]))
            (List.forall_mem_cons.mpr ⟨ne2 q1, List.forall_mem_cons.mpr ⟨ne2 q5, List.forall_mem_cons.mpr ⟨ne2 q6, List.forall_mem_cons.mpr ⟨ne2 q2, List.forall_mem_cons.mpr ⟨ne2 q3, List.forall_mem_cons.mpr ⟨ne2 ⟨by k_ne, by k_ne⟩, List.forall_mem_cons.mpr ⟨ne2 ⟨by k_ne, by k_ne⟩, fun p hp => ne2 (q4 p hp)⟩⟩⟩⟩⟩⟩⟩)
          )
        (case done4 =>
          clear F N T hkd hne p4
          (try clear ks)
          (try clear o)
          intro c h tk hinv F N
          obtain ⟨o, ks, o2, o4, o5⟩ := c
          dsimp only at F N hinv ⊢
          obtain ⟨T, hkd, p4⟩ := hinv
          refine wpAny_execs_nil ?_
          refine TurnEnd2.mk (.inl rfl) (DMS.mk o ks _ o2 _ o4 o5) ⟨T.mono (by omega) osa_row, hkd⟩ F
            (news_sub N _ (by intro q hq; simp only [List.cons_append, List.nil_append, List.mem_cons] at hq ⊢; rcases hq with h | h | h | h | h | h <;> simp [h]))
            (List.forall_mem_cons.mpr ⟨ne2 p1, List.forall_mem_cons.mpr ⟨ne2 p2, List.forall_mem_cons.mpr ⟨ne2 p3, fun p hp => ne2 (p4 p hp)⟩⟩⟩)
          ))
      (case done3 =>
        clear F N T hkd
        (try clear ks)
        (try clear o)
        intro c h tk hinv F N
        obtain ⟨o, ks, o1, o2, o3, o4, o5⟩ := c
        dsimp only at F N hinv ⊢
        obtain ⟨T, hkd⟩ := hinv
        k_steps
        rename News _ _ _ _ => N
        rename Fr _ _ _ _ => F
        (try dsimp only)
        refine hR _ _ _ (back.keep _ F.keep (List.forall_mem_cons.mpr ⟨(N _ (by k_mem)).1, List.forall_mem_cons.mpr ⟨(N _ (by k_mem)).1, fun _ h => nomatch h⟩⟩)) ⟨_, by rw [show ((ns.length : Int) - 1 + 1).toNat = ns.length by omega, show ((ms.length : Int) - 1 + 1).toNat = ms.length by omega]⟩
        )))
end
end Mine
end
set_option maxHeartbeats 4000000
/- part Lv3 -/
section
namespace Mine
/-- the last place (from one) below i at which c stands; 0: none -/
noncomputable def lastAt (l : List Int) (c : Int) : Nat → Nat
  | 0 => 0
  | i + 1 => if c = l.getD i 0 then i + 1 else lastAt l c i
theorem lastAt_le {l : List Int} {c : Int} {i : Nat} : lastAt l c i ≤ i := by
  induction i with
  | zero => exact Nat.le_refl _
  | succ i ih => unfold lastAt; split <;> omega
/-- the code's matrix, moved by one: D r c = d[r - 1, c - 1] -/
noncomputable def dlT (ns ms : List Int) : Nat → Nat → Int
  | 0, _ => (ns.length : Int) + ms.length
  | _ + 1, 0 => (ns.length : Int) + ms.length
  | 1, c + 1 => c
  | r + 2, 1 => r + 1
  | i + 2, j + 2 =>
    min (min (min (dlT ns ms (i + 1) (j + 1) + (if eqAt ns ms i j then 0 else 1)) (dlT ns ms (i + 2) (j + 1) + 1)) (dlT ns ms (i + 1) (j + 2) + 1))
      (dlT ns ms (lastAt ns (ms.getD j 0) i) (lastAt ms (ns.getD i 0) j) + ((i : Int) + 1 - lastAt ns (ms.getD j 0) i) - 1 + ((j : Int) + 1 - lastAt ms (ns.getD i 0) j))
termination_by r c => r + c
decreasing_by
  all_goals first
    | omega
    | (have h1 := @lastAt_le ns (ms.getD j 0) i
       have h2 := @lastAt_le ms (ns.getD i 0) j
       omega)
def dlR (ns ms : List Int) (dom : Int → Int → Prop) (a b v : Int) : Prop := dom a b ∧ v = dlT ns ms (a + 1).toNat (b + 1).toNat
/-- what the table holds when i rows are done and row i + 1 up to j -/
def domU (n m i j : Nat) (a b : Int) : Prop :=
  (a = -1 ∧ -1 ≤ b ∧ b ≤ m) ∨ (b = -1 ∧ -1 ≤ a ∧ a ≤ n) ∨ (a = 0 ∧ 0 ≤ b ∧ b ≤ m) ∨ (b = 0 ∧ 0 ≤ a ∧ a ≤ n) ∨ (1 ≤ a ∧ 1 ≤ b ∧ b ≤ m ∧ (a ≤ i ∨ (a = i + 1 ∧ b ≤ j)))
theorem dl_top {ns ms : List Int} {c : Nat} : dlT ns ms 0 c = (ns.length : Int) + ms.length := by rw [dlT]
theorem dl_left {ns ms : List Int} {r : Nat} : dlT ns ms r 0 = (ns.length : Int) + ms.length := by cases r <;> rw [dlT]
theorem dl_row {ns ms : List Int} {c : Nat} : dlT ns ms 1 (c + 1) = c := by rw [dlT]
theorem dl_col {ns ms : List Int} {r : Nat} : dlT ns ms (r + 1) 1 = r := by cases r <;> rw [dlT] <;> rfl
/-- what the table holds while the first loops run -/
def dom1 (k : Nat) (a b : Int) : Prop := (a = -1 ∧ b = -1) ∨ (0 ≤ a ∧ a < k ∧ (b = -1 ∨ b = 0))
def dom1' (k : Nat) (a b : Int) : Prop := dom1 k a b ∨ (a = k ∧ b = -1)
def dom2 (n k : Nat) (a b : Int) : Prop := dom1 (n + 1) a b ∨ (0 ≤ b ∧ b < k ∧ (a = -1 ∨ a = 0))
def dom2' (n k : Nat) (a b : Int) : Prop := dom2 n k a b ∨ (b = k ∧ a = -1)
theorem dlR_put {ns ms : List Int} {P P' : Int → Int → Prop} {i j v : Int} (hv : v = dlT ns ms (i + 1).toNat (j + 1).toNat) (hP : ∀ a b, P' a b → P a b ∨ (a = i ∧ b = j)) (i' j' v' : Int) (h : dlR ns ms P' i' j' v') :
    (i' = i ∧ j' = j ∧ v' = v) ∨ (¬ (i' = i ∧ j' = j) ∧ dlR ns ms P i' j' v') := by
  obtain ⟨h1, h2⟩ := h
  by_cases e : i' = i ∧ j' = j
  · obtain ⟨rfl, rfl⟩ := e
    exact .inl ⟨rfl, rfl, by rw [h2, hv]⟩
  · refine .inr ⟨e, ?_, h2⟩
    rcases hP _ _ h1 with q | q
    · exact q
    · exact absurd q e
theorem dl_minus {ns ms : List Int} {j : Int} : (ns.length : Int) + ms.length = dlT ns ms (-1 + 1 : Int).toNat j.toNat := by rw [show (-1 + 1 : Int).toNat = 0 from rfl, dl_top]
theorem dl_minus' {ns ms : List Int} {i : Int} : (ns.length : Int) + ms.length = dlT ns ms i.toNat (-1 + 1 : Int).toNat := by rw [show (-1 + 1 : Int).toNat = 0 from rfl, dl_left]
theorem dl_zero {ns ms : List Int} {k : Nat} : (0 + (k : Int)) = dlT ns ms ((0 + (k : Int)) + 1).toNat (0 + 1 : Int).toNat := by
  rw [show (0 + 1 : Int).toNat = 1 from rfl, show ((0 + (k : Int)) + 1).toNat = k + 1 by omega, dl_col]; omega
theorem dl_zero' {ns ms : List Int} {k : Nat} : (0 + (k : Int)) = dlT ns ms (0 + 1 : Int).toNat ((0 + (k : Int)) + 1).toNat := by
  rw [show (0 + 1 : Int).toNat = 1 from rfl, show ((0 + (k : Int)) + 1).toNat = k + 1 by omega, dl_row]; omega
theorem dl_begin {ns ms : List Int} (i j v : Int) (h : dlR ns ms (domU ns.length ms.length 0 0) i j v) : dlR ns ms (dom2 ns.length (ms.length + 1)) i j v := by
  refine ⟨?_, h.2⟩
  have := h.1
  unfold domU at this
  unfold dom2 dom1
  omega
theorem dl_next {ns ms : List Int} {n i : Nat} (i' j' v' : Int) (h : dlR ns ms (domU n ms.length (i + 1) 0) i' j' v') : dlR ns ms (domU n ms.length i ms.length) i' j' v' := by
  refine ⟨?_, h.2⟩
  have := h.1
  unfold domU at this ⊢
  omega
theorem dl_done {ns ms : List Int} {n m i j : Nat} {V : Int} (hV : V = dlT ns ms (i + 2) (j + 2)) (hj : j < m) (i' j' v' : Int) (h : dlR ns ms (domU n m i (j + 1)) i' j' v') :
    (i' = i + 1 ∧ j' = j + 1 ∧ v' = V) ∨ (¬ (i' = i + 1 ∧ j' = j + 1) ∧ dlR ns ms (domU n m i j) i' j' v') := by
  refine dlR_put (i := i + 1) (j := j + 1) ?_ (fun a b q => ?_) i' j' v' h
  · rw [hV]; rfl
  · unfold domU at q ⊢; omega
theorem dl_size {i j : Nat} : 400 + 200 * i + 2 * j + 1 ≤ 400 + 200 * i + 2 * (j + 1) := by omega
theorem dl_step {ns ms : List Int} {i j : Nat} {cost : Int} (hc : cost = if eqAt ns ms i j then 0 else 1) :
    min (min (min (dlT ns ms ((i : Int) + 1 - 1 + 1).toNat ((j : Int) + 1 - 1 + 1).toNat + cost) (dlT ns ms ((i : Int) + 1 + 1).toNat ((j : Int) + 1 - 1 + 1).toNat + 1)) (dlT ns ms ((i : Int) + 1 - 1 + 1).toNat ((j : Int) + 1 + 1).toNat + 1))
      (dlT ns ms ((lastAt ns (ms.getD j 0) i : Int) - 1 + 1).toNat ((lastAt ms (ns.getD i 0) j : Int) - 1 + 1).toNat + ((i : Int) + 1 - lastAt ns (ms.getD j 0) i) - 1 + ((j : Int) + 1 - lastAt ms (ns.getD i 0) j)) = dlT ns ms (i + 2) (j + 2) := by
  rw [show ((i : Int) + 1 - 1 + 1).toNat = i + 1 by omega, show ((j : Int) + 1 - 1 + 1).toNat = j + 1 by omega, show ((i : Int) + 1 + 1).toNat = i + 2 by omega, show ((j : Int) + 1 + 1).toNat = j + 2 by omega,
    show ((lastAt ns (ms.getD j 0) i : Int) - 1 + 1).toNat = lastAt ns (ms.getD j 0) i by omega, show ((lastAt ms (ns.getD i 0) j : Int) - 1 + 1).toNat = lastAt ms (ns.getD i 0) j by omega, hc]
  conv => rhs; rw [dlT]
end Mine
end
set_option maxHeartbeats 4000000
/- part Md2 -/
section
open PySem PySem.W PySem.Calls PyProof.Rows PyProof.V
namespace Mine
section
variable {prog : Program} {w : World} {A : Around} {E : Value → Shared → Prop} {s : Shared} {h₀ : Heap} {L : Addr} {m : Str → Option Value} {news : List (Addr × Obj)}
/-- a dictionary's object that gives the int f k for every int k, 0 where k is no key -/
def ITab (prog : Program) (w : World) (o : Obj) (n : Nat) (f : Int → Int) : Prop :=
  ∃ kvs c, o.IsDictOf (intKind prog w) kvs ∧ FlatPairs PyData.int kvs (kdfD c) ∧ c.length ≤ n ∧ ∀ k, kdfLook c k 0 = f k
theorem kdfLook_put {c : List (Int × Int)} {k v k' : Int} : kdfLook (kdfPut c k v) k' 0 = if k' = k then v else kdfLook c k' 0 := by
  unfold kdfLook kdfPut
  by_cases h : (c.any fun p => decide (p.1 = k)) = true
  · rw [if_pos h]
    induction c with
    | nil => simp at h
    | cons p r ih =>
      obtain ⟨a, b⟩ := p
      simp only [List.map_cons, List.find?_cons]
      by_cases e : a = k
      · subst e
        by_cases e2 : k' = a
        · subst e2; simp
        · have e3 : ¬ a = k' := fun q => e2 q.symm
          simp only [decide_true, if_true, e3, decide_false, e2, if_false]
          by_cases h2 : (r.any fun p => decide (p.1 = a)) = true
          · have := ih h2
            simp only [if_neg e2] at this
            exact this
          · have : r.map (fun p => if decide (p.1 = a) = true then (p.1, v) else p) = r := by
              rw [List.map_congr_left (g := id), List.map_id]
              intro q hq
              have : ¬ q.1 = a := fun z => h2 (List.any_eq_true.mpr ⟨q, hq, by simpa using z⟩)
              simp [this]
            rw [this]
      · have h2 : (r.any fun p => decide (p.1 = k)) = true := by simpa [e] using h
        simp only [e, decide_false, Bool.false_eq_true, if_false]
        by_cases e2 : a = k'
        · subst e2; simp [e]
        · simp only [e2, decide_false]
          exact ih h2
  · rw [if_neg h]
    by_cases e : k' = k
    · subst e
      rw [if_pos rfl, List.find?_append]
      have : c.find? (fun p => decide (p.1 = k')) = none := by
        rw [List.find?_eq_none]
        intro q hq z
        exact h (List.any_eq_true.mpr ⟨q, hq, z⟩)
      rw [this]; simp
    · rw [if_neg e, List.find?_append]
      have : ¬ k = k' := fun z => e z.symm
      simp [this]
theorem ITab.mono {o : Obj} {n n' : Nat} {f f' : Int → Int} (T : ITab prog w o n f) (h : n ≤ n') (e : ∀ k, f k = f' k) : ITab prog w o n' f' := by
  obtain ⟨kvs, c, a, b, l, g⟩ := T
  exact ⟨kvs, c, a, b, Nat.le_trans l h, fun k => (g k).trans (e k)⟩
theorem ITab.new {o : Obj} (hd : o.IsDictOf (intKind prog w) []) : ITab prog w o 0 (fun _ => 0) := ⟨[], [], hd, .nil, Nat.le_refl _, fun _ => rfl⟩
theorem itab_method {d : Addr} {o : Obj} {n : Nat} {f : Int → Int} {pl : Sem Bool} {Q : Value × List Value → Shared → Prop} (N : News h₀ L s.heap news) (hd : (d, o) ∈ news) (lo : (d == sysModules) = false) (T : ITab prog w o n f)
    (h : Q (.builtin "dict.get", [.ref d]) s) : wpAny (model prog w) A (getMethod (.ref d) (Str.ofString "get") pl) Q E s := by
  obtain ⟨kvs, c, a, b, _, g⟩ := T
  exact getMethod_intTab_get (TabAt.ofNews N hd lo a b) h
theorem itab_get {d : Addr} {o : Obj} {n : Nat} {f : Int → Int} {k : Int} {tk te : Tok} {Q : Value → Shared → Prop} (N : News h₀ L s.heap news) (hd : (d, o) ∈ news) (lo : (d == sysModules) = false) (T : ITab prog w o n f)
    (h : ∀ t tk, Q (.int (f k) t) { s with toks := tk }) : wpAny (model prog w) A (call (.builtin "dict.get") [.ref d, .int k tk, .int 0 te]) Q E s := by
  obtain ⟨kvs, c, a, b, _, g⟩ := T
  refine kdf_get2 (c := c) (TabAt.ofNews N hd lo a b) fun t => ?_
  rw [g k]; exact h t _
theorem itab_set {d : Addr} {o : Obj} {n : Nat} {f : Int → Int} {k v : Int} {tk te : Tok} {Q : Unit → Shared → Prop} (keep : List (Addr × Obj)) (F : Fr h₀ L s.heap m) (N : News h₀ L s.heap news) (hd : (d, o) ∈ news) (hkeep : ∀ q ∈ keep, q ∈ news ∧ q.1 ≠ d) (T : ITab prog w o n f) (hn : n ≤ 2 ^ 20)
    (h : ∀ h' o' tk, Fr h₀ L h' m → News h₀ L h' ((d, o') :: keep) → ITab prog w o' (n + 1) (fun k' => if k' = k then v else f k') → Q () { s with heap := h', toks := tk }) :
    wpAny (model prog w) A (setItem (.ref d) (.int k tk) (.int v te)) Q E s := by
  obtain ⟨kvs, c, a, b, l, g⟩ := T
  have N' : News h₀ L s.heap ([] ++ (d, o) :: keep) := fun q hq => by
    rcases List.mem_cons.mp hq with rfl | hq
    · exact N _ hd
    · exact N _ (hkeep q hq).1
  refine setItem_madeIn PyProof.V.same_int (intKind_is _ _ _ _) (PyProof.V.Flat.int v te) F N' (fun _ h => nomatch h) (fun p hp => (hkeep p hp).2) a b (fun h' o' F' N'' a' b' => h h' o' _ F' N'' ⟨_, kdfPut c k v, a', by rw [← kdfD_put]; exact b', Nat.le_trans (kdfPut_len ..) (Nat.succ_le_succ l), fun k' => ?_⟩) (hsz := by rw [kdfD_length, sizeLine_eq]; omega)
  rw [kdfLook_put, g k']
end
end Mine
end
set_option maxHeartbeats 4000000
/- part Me3 -/
section
namespace Mine
section
variable {M : Model} {A : Around} {E : Value → Shared → Prop} {s : Shared} {env : Env}
theorem callWith_type_kwB {pos : Pos} {id : String} {first : List Value} {args : List (Bool × Sem Value)} {keywords : List (Option Str × Sem Value)} {Q : Value → Shared → Prop}
    (hplain : args.any (·.1) = false) (hkw : keywords.any (·.1.isNone) = false)
    (h : wpAny M A (evalArgs (.type id) true args keywords) (fun a s₁ => wpAny M A (call (.type id) (first ++ a.pos) a.kw) Q E s₁) E s) :
    wpAny M A (callWith pos (.type id) first args keywords) Q E s := by
  unfold callWith
  refine wpAny_bind (wpAny_holding (wpAny_mono h (fun a s₁ h₁ => wpAny_bind (wpAny_standAt ?_)) fun _ _ x => x))
  simp only [hplain, hkw, Bool.or_false]
  refine wpAny_bind (wpAny_pure ?_)
  exact wpAny_bind (wpAny_mono h₁ (fun r s₂ hr => wpAny_bind (wpAny_holding (wpAny_point (wpAny_pure hr)))) fun _ _ x => x)
/-- T(x, name=int) -/
theorem callWith_type_kw1 {pos : Pos} {id : String} {e : Expr} {name : Str} {value : Expr} {kp : Pos} {Q : Value → Shared → Prop}
    (h : wpAny M A (eval e env) (fun v s₁ => wpAny M A (eval value env) (fun k s₂ => wpAny M A (call (.type id) [v] [(name, k)]) Q E s₂) E s₁) E s)
    (he : starEach [e] env = [(false, eval e env)] := by rfl) :
    wpAny M A (callWith pos (.type id) [] (backTo pos (starEach [e] env)) (backToKw pos (keywordEach [⟨some name, value, kp⟩] env))) Q E s := by
  rw [he]
  refine callWith_type_kwB rfl rfl ?_
  show wpAny M A (evalArgs (.type id) true ((false, _) :: []) _) _ E s
  refine evalArgs_kwB rfl ?_
  refine Calls.spliced_cons ?_
  show wpAny M A (eval e env) _ E s
  refine wpAny_mono h (fun v s₁ h₁ => ?_) fun _ _ x => x
  refine Calls.spliced_nil ?_
  refine kws_cons (rest := []) ?_
  refine wpAny_mono h₁ (fun k s₂ h₂ => ?_) fun _ _ x => x
  exact evalAll_nil h₂
end
end Mine
end
set_option maxHeartbeats 4000000
/- part Mc9 -/
section
namespace Mine
theorem fillMc9 : (PySem.Challenge.rw_br0041_01 = PySem.Challenge.rw_br0041_01 ∧ hd.heap_39 = hd.heap_39) := by
  k_fill
  exact ⟨rfl, rfl⟩
section
variable {prog : Program} {w : World} {A : Around} {s : Shared} {p : Program} {loose : List Str} {mean : ExcName → Option Value} {mg mb : Str → Option Value} {g : Heap}
local macro_rules | `(tactic| walk_at "pyIter ref") => `(tactic| (k_here; refine stop_it ?_))
local macro_rules | `(tactic| walk_at "call ref") => `(tactic| (k_here; refine stop_it ?_))
local macro_rules | `(tactic| walk_at "setItem ref ref") => `(tactic| (k_here; refine stop_it ?_))
local macro_rules | `(tactic| walk_at "exec For Tuple") => `(tactic| (k_here; refine stop_it ?_))
local macro_rules | `(tactic| walk_at "getMethod ref") => `(tactic| (k_here; k_dflt (first
  | (refine' kmu_own ?k1 ?k2 ?k3 ?k4 ?k5 ?_; (case k1 => k_asm); (case k2 => k_asm); (case k3 => k_inst); (case k4 => k_is); (case k5 => k_is); k_whole)
  | (refine' method_inst ?k1 ?k2 ?k3 ?k4 ?k5 ?k6 ?k7 ?_; (case k1 => k_asm); (case k2 => k_asm); (case k3 => k_inst); (case k4 => k_is); (case k5 => k_is); (case k6 => k_is); (case k7 => k_get); k_whole))))
local macro_rules | `(tactic| walk_at "last getAttr ref") => `(tactic| (k_here; k_dflt (refine' attr_sm ?k1 ?k2 ?k4 ?k5 ?k6 ?k7 ?k9 ?k10 ?k11 ?k12 ?k13 ?k14 ?_; (case k1 => k_asm); (case k2 => k_asm); (case k4 => k_inst); (case k5 => k_is); (case k6 => k_is); (case k7 => k_is); (case k9 => k_is); (case k10 => k_is); (case k11 => decide +kernel); (case k12 => k_get); (case k13 => k_is); (case k14 => k_handed); k_whole)))
local macro_rules | `(tactic| walk_at "last eval Call Attribute") => `(tactic| (k_here; refine methodCall_S ?_))
local macro_rules | `(tactic| walk_at "eval Call Attribute") => `(tactic| (k_here; (with_reducible show wpAny _ _ (eval (Expr.Call (Expr.Attribute _ _ _) [Expr.Starred _ _] [] _) _) _ _ _); refine methodCall_S ?_))
local macro_rules | `(tactic| walk_at "call builtin:len") => `(tactic| (k_here; refine' len_TupAt ?k1 ?k2 ?_; (case k1 => k_asm); (case k2 => k_asm); intro _ _; k_whole))
local macro_rules | `(tactic| walk_at "getItem ref int") => `(tactic| (k_here; refine' getItem_TupAt ?k1 ?k2 ?k3 ?_; (case k1 => k_asm); (case k2 => k_asm); (case k3 => omega); intro _; k_whole))
local macro_rules | `(tactic| walk_at "subscriptTail") => `(tactic| (k_here; first
  | (refine' item_TupAt ?k1 ?k2 ?k3 ?_; (case k1 => k_asm); (case k2 => k_asm); (case k3 => omega); intro _; k_whole)
  | (refine' item_fn ?k1 ?k2 ?k3 ?k4 ?_; (case k1 => k_asm); (case k2 => k_mem); (case k3 => with_reducible assumption); (case k4 => omega); intro _; k_whole)))
local macro_rules | `(tactic| walk_at "call builtin:min") => `(tactic| (k_here; (with_reducible show wpAny _ _ (call (Value.builtin "min") [Value.int _ _, Value.int _ _]) _ _ _); (rename Around.handled _ = none => hX); refine' min2N hX ?k2 ?k3 ?_; (case k2 => k_asm); (case k3 => k_asm); k_whole; intro h' tk' t' F' N'))
local macro_rules | `(tactic| walk_at "call builtin:min") => `(tactic| (k_here; (with_reducible show wpAny _ _ (call (Value.builtin "min") [Value.int _ _, Value.int _ _, Value.int _ _]) _ _ _); (rename Around.handled _ = none => hX); refine' min3N hX ?k2 ?k3 ?_; (case k2 => k_asm); (case k3 => k_asm); k_whole; intro h' tk' t' F' N'))
local macro_rules | `(tactic| walk_at "call builtin:min") => `(tactic| (k_here; (with_reducible show wpAny _ _ (call (Value.builtin "min") [Value.int _ _, Value.int _ _, Value.int _ _, Value.int _ _]) _ _ _); (rename Around.handled _ = none => hX); refine' min4N hX ?k2 ?k3 ?_; (case k2 => k_asm); (case k3 => k_asm); k_whole; intro h' tk' t' F' N'))
local macro_rules | `(tactic| walk_at "setItem ref int int") => `(tactic| (k_here; refine' setItem_fn ?k1 ?k2 ?k3 ?k4 ?k5 ?_; (case k1 => k_asm); (case k2 => k_asm); (case k3 => k_upd); (case k4 => with_reducible assumption); (case k5 => omega); k_whole; intro h' F' N' i'))
local macro_rules | `(tactic| walk_at "assign Tuple") => `(tactic| (k_here; (with_reducible show wpAny _ _ (assign (Expr.Tuple _ _ _) _ (Value.ref _)) _ _ _); k_dflt (refine' kun_list ?k1 ?k2 ?k3 ?k4 ?k5 ?k6 ?_; (case k1 => k_asm); (case k2 => k_asm); (case k3 => kun_lst); (case k4 => assumption); (case k5 => exact rfl); (case k6 => exact rfl); k_whole); intro h' F' N'; (try k_sweep)))
local macro_rules | `(tactic| walk_at "assign Tuple") => `(tactic| (k_here; (with_reducible show wpAny _ _ (assign (Expr.Tuple _ _ _) _ (Value.ref _)) _ _ _); k_dflt (refine' unpackN_ ?k1 ?k2 ?k3 ?k4 ?k5 ?k6 ?_; (case k1 => k_asm); (case k2 => k_asm); (case k3 => kun_tup); (case k4 => assumption); (case k5 => exact rfl); (case k6 => exact rfl); k_whole); intro h' F' N'; (try k_sweep)))
local macro_rules | `(tactic| walk_at "unpackItems ref") => `(tactic| (k_here; k_dflt (refine' unpackItemsN_ ?k1 ?k2 ?k3 ?k4 ?k5 ?_; (case k1 => k_asm); (case k2 => k_asm); (case k3 => kun_tup); (case k4 => assumption); (case k5 => exact rfl); k_whole); intro h' F' N'; (try k_sweep)))
local macro_rules | `(tactic| walk_at "call type:list") => `(tactic| (k_here; refine' list_range_N ?k0 ?k1 ?k2 ?k3 ?k4 ?k5 ?k6 ?_; (case k1 => k_asm); (case k2 => k_asm); (case k0 => assumption); (case k3 => assumption); (case k4 => omega); (case k5 => exact small_one (by omega) (by omega) (by omega) (by omega)); (case k6 => omega); intro D' h' tk' vs' k' F' N' l1 i1; (try k_lt l1)))
local macro_rules | `(tactic| walk_at "subscriptTail Name Tuple ref ref") => `(tactic| (k_here; k_dflt (refine' dtab_get ?k1 ?k2 ?k3 ?k4 ?k5 ?k6 ?k7 ?k8 ?_; (case k4 => assumption); (case k1 => k_asm); (case k2 => k_mem); (case k3 => (intro q hq; (repeat (first | exact hq | apply List.mem_cons_of_mem)); done)); (case k5 => k_mem); (case k6 => exact tup2_ob); (case k7 => (refine ⟨?_, rfl⟩; unfold domU; omega)); (case k8 => assumption)); intro _ _))
local macro_rules | `(tactic| walk_at "callWith type:enumerate") => `(tactic| (k_here; refine callWith_type_kw1 ?_))
local macro_rules | `(tactic| walk_at "getMethod ref") => `(tactic| (k_here; (with_reducible show wpAny _ _ (getMethod _ (Str.ofString "get") _) _ _ _); k_dflt (refine' itab_method ?k1 ?k2 ?k3 ?k4 ?_; (case k4 => assumption); (case k1 => k_asm); (case k2 => k_mem); (case k3 => assumption))))
local macro_rules | `(tactic| walk_at "call builtin:dict.get") => `(tactic| (k_here; k_dflt (refine' itab_get ?k1 ?k2 ?k3 ?k4 ?_; (case k4 => assumption); (case k1 => k_asm); (case k2 => k_mem); (case k3 => assumption)); intro _ _))
structure U1S where
  o : Obj
  ks : List (Addr × Obj)
  tl1 : Tok
  tl2 : Tok
  tm : Tok
  oi : Option Value
  oj : Option Value
structure UMS where
  o : Obj
  oa : Obj
  ks : List (Addr × Obj)
  oi : Option Value
  oj : Option Value
  o1 : Option Value
  o2 : Option Value
  o3 : Option Value
  o4 : Option Value
  o5 : Option Value
  o6 : Option Value
structure UIS where
  o : Obj
  ks : List (Addr × Obj)
  vd : Int
  td : Tok
  oj : Option Value
  o3 : Option Value
  o4 : Option Value
  o5 : Option Value
  o6 : Option Value
theorem unrestricted {x dx a b : Addr} {ns ms : List Int} {t0 t1 t2 t3 : Tok} (ha : TupAt g a ns) (hb : TupAt g b ms) (I : Inst g s.heap x 310 dx (dlfAt w t0 t1 t2 t3) 4) (O : On w p loose mean mg mb g s.heap) (H : Room A 3 60) :
    Pays prog w A (.call (.ref 293) ⟨[.ref x, .ref a, .ref b], []⟩) s (fun v _ => ∃ t, v = .int (dlT ns ms (ns.length + 1) (ms.length + 1)) t) := by
  w_top off
  intro R hR
  have lt := I.lt
  refine' enterG [(x, instObj 310 dx), (dx, dictOf (dlfAt w t0 t1 t2 t3) 4)] (binds := [(Str.ofString "self", .ref x), (Str.ofString "s1", .ref a), (Str.ofString "s2", .ref b)]) O ?hg ?hown ?ho ?hcd ?hroom ?hb ?hl ?body ?hcell ?c1 ?c2 ?c3
  (case hg => exact own_none I)
  (case hown => exact own_at I)
  (case ho => k_is)
  (case hcd => k_is)
  (case hroom => have := Room.dp (by assumption); omega)
  (case hl => exact locs rfl)
  (case hcell => decide)
  (case c1 => exact rfl)
  (case c2 => exact rfl)
  (case c3 => exact rfl)
  (case hb => first | exact BindsTo.of_eq rfl | exact kp_binds (O.k.keeps O.st) (fun _ => rfl))
  intro h₀ L h₁ gst X T back F N
  (try k_fold)
  rename Top _ _ _ _ _ _ => T₀
  have ha₀ := ha.keeps gst
  have za : ns.length ≤ 64 := ha.choose_spec.2.2
  have zb : ms.length ≤ 64 := hb.choose_spec.2.2
  have hh := H.hh
  have hu3 : A.units + 3 + 1 < cLine := by have := H.un; omega
  have hb₀ := hb.keeps gst
  k_steps
  rename News _ _ _ _ => N
  rename Fr _ _ _ _ => F
  (try dsimp only at N)
  (try dsimp only)
  rename_i d _ o lo _ _ hD _ ld _ da _ oa loa _ _ hDa _ lda _ _ _ _ _ _ _ _ _ Dk _ lk
  have hdd : @Ne Nat da d := by k_ne
  have hxd : @Ne Nat x d := by k_ne
  have hdxd : @Ne Nat dx d := by k_ne
  have hxda : @Ne Nat x da := by k_ne
  have hdxda : @Ne Nat dx da := by k_ne
  have T := DTab.of_new (prog := prog) (w := w) (R := dlR ns ms fun _ _ => False) hD (fun i j v h => h.1)
  have TA := ITab.new hDa
  clear hD hDa
  refine dtab_set ((da, oa) :: (x, instObj 310 dx) :: (dx, dictOf (dlfAt w t0 t1 t2 t3) 4) :: []) F N (by k_mem) (fun q hq => by cases hq) T (by k_mem) tup2_ob
    (List.forall_mem_cons.mpr ⟨⟨by k_mem, by k_ne⟩, List.forall_mem_cons.mpr ⟨⟨by k_mem, by k_ne⟩, List.forall_mem_cons.mpr ⟨⟨by k_mem, by k_ne⟩, fun _ h => nomatch h⟩⟩⟩) (by k_ne) (by have := H.un; simp; omega) (by omega) ?_
  intro h' o' tk' F N T'
  have T := T'.mono (Nat.le_refl _) (dlR_put (P' := dom1 0) (by exact dl_minus) (fun a b h => by unfold dom1 at h; omega))
  clear T'
  k_steps
  rename News _ _ _ _ => N
  rename Fr _ _ _ _ => F
  (try dsimp only at F)
  refine' fr_then F ?e ?_
  (case e => repeat' (first | exact envM_of_lookup _ | exact envM_nil | exact rfl | apply env_set))
  clear F
  intro F
  have F := fr_more [Str.ofString "i", Str.ofString "j", Str.ofString "cs1", Str.ofString "db", Str.ofString "cs2", Str.ofString "i1", Str.ofString "j1", Str.ofString "cost"] F
  (try dsimp only at N)
  (try dsimp only)
  rename IsRange _ _ _ _ _ _ _ _ => hr
  refine' loop_range (σ := U1S) (n := ns.length + 1)
    (ps := fun c => [(Str.ofString "s2", some (.ref b)), (Str.ofString "s1", some (.ref a)), (Str.ofString "self", some (.ref x)), (Str.ofString "d", some (.ref d)), (Str.ofString "da", some (.ref da)), (Str.ofString "len1", some (.int ns.length c.tl1)), (Str.ofString "len2", some (.int ms.length c.tl2)), (Str.ofString "maxdist", some (.int (ns.length + ms.length) c.tm)), (Str.ofString "i", c.oi), (Str.ofString "j", c.oj), (Str.ofString "cs1", none), (Str.ofString "db", none), (Str.ofString "cs2", none), (Str.ofString "i1", none), (Str.ofString "j1", none), (Str.ofString "cost", none)])
    (Led := fun c => (d, c.o) :: (da, oa) :: (x, instObj 310 dx) :: (dx, dictOf (dlfAt w t0 t1 t2 t3) 4) :: c.ks)
    (Inv := fun k c => DTab prog w c.o c.ks (1 + 2 * k) (dlR ns ms (dom1 k)) ∧ ∀ q ∈ c.ks, q.1 ≠ d ∧ q.1 ≠ da)
    (c₀ := U1S.mk o' [(Dk, tup2 (-1) _ (-1) _)] _ _ _ none none) hh hr (small_one (by omega) (by omega) (by omega) (by omega)) (range_size (by omega) (by omega)) F (news_sub N _ (by intro q hq; simp only [List.mem_cons] at hq ⊢; rcases hq with h | h | h | h | h | h <;> simp [h])) ⟨T, List.forall_mem_cons.mpr ⟨⟨by k_ne, by k_ne⟩, fun _ h => nomatch h⟩⟩ ?turn1 ?done1
  (case turn1 =>
    clear F N hr T
    (try clear hD)
    intro I₁ k t c h tk ob hk hinv hne F N
    obtain ⟨o, ks, tl1, tl2, tm, oi, oj⟩ := c
    dsimp only at F N hinv hne ⊢
    obtain ⟨T, hkd⟩ := hinv
    have p1 : @Ne Nat d I₁ := hne (d, o) (by simp)
    have p5 : @Ne Nat da I₁ := hne (da, oa) (by simp)
    have p2 : @Ne Nat x I₁ := hne (x, instObj 310 dx) (by simp)
    have p3 : @Ne Nat dx I₁ := hne (dx, dictOf (dlfAt w t0 t1 t2 t3) 4) (by simp)
    have p4 : ∀ q ∈ ks, q.1 ≠ I₁ := fun q hq => hne q (by simp [hq])
    k_steps
    rename News _ _ _ _ => N
    rename Fr _ _ _ _ => F
    (try dsimp only at N)
    (try dsimp only)
    rename_i Dk₁ _ lk₁
    refine dtab_set ((I₁, ob) :: (da, oa) :: (x, instObj 310 dx) :: (dx, dictOf (dlfAt w t0 t1 t2 t3) 4) :: ks) F N (by k_mem) (fun q hq => by repeat (first | exact hq | apply List.mem_cons_of_mem)) T (by k_mem) tup2_ob
      (List.forall_mem_cons.mpr ⟨⟨by k_mem, by k_ne⟩, List.forall_mem_cons.mpr ⟨⟨by k_mem, by k_ne⟩, List.forall_mem_cons.mpr ⟨⟨by k_mem, by k_ne⟩, List.forall_mem_cons.mpr ⟨⟨by k_mem, by k_ne⟩, fun q hq => ⟨by repeat (first | exact hq | apply List.mem_cons_of_mem), (hkd q hq).1⟩⟩⟩⟩⟩) (by k_ne) hu3 (by omega) ?_
    intro h' o' tk' F N T'
    have T := T'.mono (Nat.le_refl _) (dlR_put (P' := dom1' k) (by exact dl_minus') (fun a b h => by simp only [dom1', dom1, dom2', dom2] at h ⊢; omega))
    clear T'
    k_steps
    rename News _ _ _ _ => N
    rename Fr _ _ _ _ => F
    (try dsimp only at N)
    (try dsimp only)
    rename_i Dk₂ _ lk₂
    refine dtab_set ((Dk₁, tup2 (0 + (k : Int)) t (-1) _) :: (I₁, ob) :: (da, oa) :: (x, instObj 310 dx) :: (dx, dictOf (dlfAt w t0 t1 t2 t3) 4) :: ks) F N (by k_mem) (List.forall_mem_cons.mpr ⟨by k_mem, fun q hq => by repeat (first | exact hq | apply List.mem_cons_of_mem)⟩) T (by k_mem) tup2_ob
      (List.forall_mem_cons.mpr ⟨⟨by k_mem, by k_ne⟩, List.forall_mem_cons.mpr ⟨⟨by k_mem, by k_ne⟩, List.forall_mem_cons.mpr ⟨⟨by k_mem, by k_ne⟩, List.forall_mem_cons.mpr ⟨⟨by k_mem, by k_ne⟩, List.forall_mem_cons.mpr ⟨⟨by k_mem, by k_ne⟩, fun q hq => ⟨by repeat (first | exact hq | apply List.mem_cons_of_mem), (hkd q hq).1⟩⟩⟩⟩⟩⟩) (by k_ne) hu3 (by omega) ?_
    intro h₂ o₂ tk₂ F N T'
    have T := T'.mono (Nat.le_refl _) (dlR_put (P' := dom1 (k + 1)) (by exact dl_zero) (fun a b h => by simp only [dom1', dom1, dom2', dom2] at h ⊢; omega))
    clear T'
    k_steps
    (try dsimp only at F)
    refine' fr_then F ?e ?_
    (case e => repeat' (first | exact envM_of_lookup _ | exact envM_nil | exact rfl | apply env_set))
    clear F
    intro F
    exact TurnEnd.mk (.inl rfl) (U1S.mk o₂ (_ :: _ :: ks) tl1 tl2 tm _ oj) ⟨T.mono (by omega) (fun _ _ _ h => h), List.forall_mem_cons.mpr ⟨⟨by k_ne, by k_ne⟩, List.forall_mem_cons.mpr ⟨⟨by k_ne, by k_ne⟩, hkd⟩⟩⟩ F
      (news_sub N _ (by intro q hq; simp only [List.cons_append, List.nil_append, List.mem_cons] at hq ⊢; rcases hq with h | h | h | h | h | h | h | h <;> simp [h]))
      (List.forall_mem_cons.mpr ⟨p1, List.forall_mem_cons.mpr ⟨p5, List.forall_mem_cons.mpr ⟨p2, List.forall_mem_cons.mpr ⟨p3, List.forall_mem_cons.mpr ⟨by k_ne, List.forall_mem_cons.mpr ⟨by k_ne, p4⟩⟩⟩⟩⟩⟩)
    )
  (case done1 =>
    clear F N hr T
    (try clear hD)
    intro c h tk hinv F N
    obtain ⟨o, ks, tl1, tl2, tm, oi, oj⟩ := c
    dsimp only at F N hinv ⊢
    obtain ⟨T, hkd⟩ := hinv
    k_steps
    rename News _ _ _ _ => N
    rename Fr _ _ _ _ => F
    (try dsimp only at N)
    (try dsimp only)
    rename IsRange _ _ _ _ _ _ _ _ => hr
    refine' loop_range (σ := U1S) (n := ms.length + 1)
      (ps := fun c => [(Str.ofString "s2", some (.ref b)), (Str.ofString "s1", some (.ref a)), (Str.ofString "self", some (.ref x)), (Str.ofString "d", some (.ref d)), (Str.ofString "da", some (.ref da)), (Str.ofString "len1", some (.int ns.length c.tl1)), (Str.ofString "len2", some (.int ms.length c.tl2)), (Str.ofString "maxdist", some (.int (ns.length + ms.length) c.tm)), (Str.ofString "i", oi), (Str.ofString "j", c.oj), (Str.ofString "cs1", none), (Str.ofString "db", none), (Str.ofString "cs2", none), (Str.ofString "i1", none), (Str.ofString "j1", none), (Str.ofString "cost", none)])
      (Led := fun c => (d, c.o) :: (da, oa) :: (x, instObj 310 dx) :: (dx, dictOf (dlfAt w t0 t1 t2 t3) 4) :: c.ks)
      (Inv := fun k c => DTab prog w c.o c.ks (200 + 2 * k) (dlR ns ms (dom2 ns.length k)) ∧ ∀ q ∈ c.ks, q.1 ≠ d ∧ q.1 ≠ da)
      (c₀ := U1S.mk o ks _ _ _ oi oj) hh hr (small_one (by omega) (by omega) (by omega) (by omega)) (range_size (by omega) (by omega)) F N ⟨T.mono (by omega) (fun i j _ h => ⟨by have := h.1; unfold dom2 at this; unfold dom1 at *; omega, h.2⟩), hkd⟩ ?turn2 ?done2
    (case turn2 =>
      clear F N hr T
      (try clear hD)
      intro I₁ k t c h tk ob hk hinv hne F N
      obtain ⟨o, ks, tl1, tl2, tm, oi, oj⟩ := c
      dsimp only at F N hinv hne ⊢
      obtain ⟨T, hkd⟩ := hinv
      have p1 : @Ne Nat d I₁ := hne (d, o) (by simp)
      have p5 : @Ne Nat da I₁ := hne (da, oa) (by simp)
      have p2 : @Ne Nat x I₁ := hne (x, instObj 310 dx) (by simp)
      have p3 : @Ne Nat dx I₁ := hne (dx, dictOf (dlfAt w t0 t1 t2 t3) 4) (by simp)
      have p4 : ∀ q ∈ ks, q.1 ≠ I₁ := fun q hq => hne q (by simp [hq])
      k_steps
      rename News _ _ _ _ => N
      rename Fr _ _ _ _ => F
      (try dsimp only at N)
      (try dsimp only)
      rename_i Dk₁ _ lk₁
      refine dtab_set ((I₁, ob) :: (da, oa) :: (x, instObj 310 dx) :: (dx, dictOf (dlfAt w t0 t1 t2 t3) 4) :: ks) F N (by k_mem) (fun q hq => by repeat (first | exact hq | apply List.mem_cons_of_mem)) T (by k_mem) tup2_ob
        (List.forall_mem_cons.mpr ⟨⟨by k_mem, by k_ne⟩, List.forall_mem_cons.mpr ⟨⟨by k_mem, by k_ne⟩, List.forall_mem_cons.mpr ⟨⟨by k_mem, by k_ne⟩, List.forall_mem_cons.mpr ⟨⟨by k_mem, by k_ne⟩, fun q hq => ⟨by repeat (first | exact hq | apply List.mem_cons_of_mem), (hkd q hq).1⟩⟩⟩⟩⟩) (by k_ne) hu3 (by omega) ?_
      intro h' o' tk' F N T'
      have T := T'.mono (Nat.le_refl _) (dlR_put (P' := dom2' ns.length k) (by exact dl_minus) (fun a b h => by simp only [dom1', dom1, dom2', dom2] at h ⊢; omega))
      clear T'
      k_steps
      rename News _ _ _ _ => N
      rename Fr _ _ _ _ => F
      (try dsimp only at N)
      (try dsimp only)
      rename_i Dk₂ _ lk₂
      refine dtab_set ((Dk₁, tup2 (-1) _ (0 + (k : Int)) t) :: (I₁, ob) :: (da, oa) :: (x, instObj 310 dx) :: (dx, dictOf (dlfAt w t0 t1 t2 t3) 4) :: ks) F N (by k_mem) (List.forall_mem_cons.mpr ⟨by k_mem, fun q hq => by repeat (first | exact hq | apply List.mem_cons_of_mem)⟩) T (by k_mem) tup2_ob
        (List.forall_mem_cons.mpr ⟨⟨by k_mem, by k_ne⟩, List.forall_mem_cons.mpr ⟨⟨by k_mem, by k_ne⟩, List.forall_mem_cons.mpr ⟨⟨by k_mem, by k_ne⟩, List.forall_mem_cons.mpr ⟨⟨by k_mem, by k_ne⟩, List.forall_mem_cons.mpr ⟨⟨by k_mem, by k_ne⟩, fun q hq => ⟨by repeat (first | exact hq | apply List.mem_cons_of_mem), (hkd q hq).1⟩⟩⟩⟩⟩⟩) (by k_ne) hu3 (by omega) ?_
      intro h₂ o₂ tk₂ F N T'
      have T := T'.mono (Nat.le_refl _) (dlR_put (P' := dom2 ns.length (k + 1)) (by exact dl_zero') (fun a b h => by simp only [dom1', dom1, dom2', dom2] at h ⊢; omega))
      clear T'
      k_steps
      (try dsimp only at F)
      refine' fr_then F ?e ?_
      (case e => repeat' (first | exact envM_of_lookup _ | exact envM_nil | exact rfl | apply env_set))
      clear F
      intro F
      exact TurnEnd.mk (.inl rfl) (U1S.mk o₂ (_ :: _ :: ks) tl1 tl2 tm oi _) ⟨T.mono (by omega) (fun _ _ _ h => h), List.forall_mem_cons.mpr ⟨⟨by k_ne, by k_ne⟩, List.forall_mem_cons.mpr ⟨⟨by k_ne, by k_ne⟩, hkd⟩⟩⟩ F
        (news_sub N _ (by intro q hq; simp only [List.cons_append, List.nil_append, List.mem_cons] at hq ⊢; rcases hq with h | h | h | h | h | h | h | h <;> simp [h]))
        (List.forall_mem_cons.mpr ⟨p1, List.forall_mem_cons.mpr ⟨p5, List.forall_mem_cons.mpr ⟨p2, List.forall_mem_cons.mpr ⟨p3, List.forall_mem_cons.mpr ⟨by k_ne, List.forall_mem_cons.mpr ⟨by k_ne, p4⟩⟩⟩⟩⟩⟩)
      )
    (case done2 =>
      clear F N hr T hkd
      (try clear ks)
      (try clear o)
      intro c h tk hinv F N
      obtain ⟨o, ks, tl1, tl2, tm, _, oj⟩ := c
      dsimp only at F N hinv ⊢
      obtain ⟨T, hkd⟩ := hinv
      k_steps
      refine' For_pairM F ?k1 ?k2 ?k3 ?k4 ?_ ?k5
      (case k1 => exact hh)
      (case k2 => exact rfl)
      (case k3 => exact rfl)
      (case k4 => exact rfl)
      (case k5 => intro _; rfl)
      k_steps
      rename News _ _ _ _ => N
      rename Fr _ _ _ _ => F
      refine' enum_loop1 (σ := UMS) (ns := ns)
        (ps := fun c => [(Str.ofString "s2", some (.ref b)), (Str.ofString "s1", some (.ref a)), (Str.ofString "self", some (.ref x)), (Str.ofString "d", some (.ref d)), (Str.ofString "da", some (.ref da)), (Str.ofString "len1", some (.int ns.length tl1)), (Str.ofString "len2", some (.int ms.length tl2)), (Str.ofString "maxdist", some (.int (ns.length + ms.length) tm)), (Str.ofString "i", c.oi), (Str.ofString "j", c.oj), (Str.ofString "cs1", c.o1), (Str.ofString "db", c.o2), (Str.ofString "cs2", c.o3), (Str.ofString "i1", c.o4), (Str.ofString "j1", c.o5), (Str.ofString "cost", c.o6)])
        (Led := fun c => (d, c.o) :: (da, c.oa) :: (x, instObj 310 dx) :: (dx, dictOf (dlfAt w t0 t1 t2 t3) 4) :: c.ks)
        (Inv := fun i c => DTab prog w c.o c.ks (400 + 200 * i) (dlR ns ms (domU ns.length ms.length i 0)) ∧ ITab prog w c.oa i (fun c => lastAt ns c i) ∧ ∀ q ∈ c.ks, q.1 ≠ d ∧ q.1 ≠ da)
        (c₀ := UMS.mk o oa ks oi oj none none none none none none) hh ha₀ F N ⟨T.mono (by omega) dl_begin, TA.mono (Nat.le_refl _) (fun _ => rfl), hkd⟩ ?turn3 ?done3
      (case turn3 =>
        clear F N T hkd TA
        (try clear ks)
        (try clear o)
        intro I₁ I₂ i ti u1 c h tk ob ob₂ hi hinv hne nI F N
        obtain ⟨o, oa, ks, oi, oj, o1, o2, o3, o4, o5, o6⟩ := c
        dsimp only at F N hinv hne ⊢
        obtain ⟨T, TA, hkd⟩ := hinv
        have p1 : @Ne Nat d I₁ ∧ @Ne Nat d I₂ := hne (d, o) (by simp)
        have p5 : @Ne Nat da I₁ ∧ @Ne Nat da I₂ := hne (da, oa) (by simp)
        have p2 : @Ne Nat x I₁ ∧ @Ne Nat x I₂ := hne (x, instObj 310 dx) (by simp)
        have p3 : @Ne Nat dx I₁ ∧ @Ne Nat dx I₂ := hne (dx, dictOf (dlfAt w t0 t1 t2 t3) 4) (by simp)
        have p4 : ∀ q ∈ ks, q.1 ≠ I₁ ∧ q.1 ≠ I₂ := fun q hq => hne q (by simp [hq])
        k_steps
        refine' For_pairM (by assumption) ?l1 ?l2 ?l3 ?l4 ?_ ?l5
        (case l1 => exact hh)
        (case l2 => exact rfl)
        (case l3 => exact rfl)
        (case l4 => exact rfl)
        (case l5 => intro _; rfl)
        k_steps
        rename News _ _ _ _ => N
        rename Fr _ _ _ _ => F
        (try dsimp only at F)
        refine' fr_then F ?e ?_
        (case e => repeat' (first | exact envM_of_lookup _ | exact envM_nil | exact rfl | apply env_set))
        clear F
        intro F
        refine' enum_loop1 (σ := UIS) (ns := ms)
          (ps := fun c => [(Str.ofString "s2", some (.ref b)), (Str.ofString "s1", some (.ref a)), (Str.ofString "self", some (.ref x)), (Str.ofString "d", some (.ref d)), (Str.ofString "da", some (.ref da)), (Str.ofString "len1", some (.int ns.length tl1)), (Str.ofString "len2", some (.int ms.length tl2)), (Str.ofString "maxdist", some (.int (ns.length + ms.length) tm)), (Str.ofString "i", some (.int ((i : Nat) + 1) ti)), (Str.ofString "j", c.oj), (Str.ofString "cs1", some (.int (ns.getD i 0) u1)), (Str.ofString "db", some (.int c.vd c.td)), (Str.ofString "cs2", c.o3), (Str.ofString "i1", c.o4), (Str.ofString "j1", c.o5), (Str.ofString "cost", c.o6)])
          (Led := fun c => (d, c.o) :: (da, oa) :: (I₁, ob) :: (I₂, ob₂) :: (x, instObj 310 dx) :: (dx, dictOf (dlfAt w t0 t1 t2 t3) 4) :: c.ks)
          (Inv := fun j c => DTab prog w c.o c.ks (400 + 200 * i + 2 * j) (dlR ns ms (domU ns.length ms.length i j)) ∧ c.vd = lastAt ms (ns.getD i 0) j ∧ (∀ q ∈ c.ks, q.1 ≠ d ∧ q.1 ≠ da) ∧ ∀ q ∈ c.ks, q.1 ≠ I₁ ∧ q.1 ≠ I₂)
          (c₀ := UIS.mk o ks 0 _ oj o3 o4 o5 o6) hh hb₀ F (news_sub N _ (by intro q hq; simp only [List.cons_append, List.nil_append, List.mem_cons] at hq ⊢; rcases hq with h | h | h | h | h | h | h <;> simp [h])) ⟨T.mono (by omega) (fun i j _ h => h), rfl, hkd, p4⟩ ?turn4 ?done4
        (case turn4 =>
          clear F N T hkd hne p4
          (try clear ks)
          (try clear o)
          intro I₃ I₄ j tj u2 c h tk ob₃ ob₄ hj hinv hne nI₂ F N
          obtain ⟨o, ks, vd, td, oj, o3, o4, o5, o6⟩ := c
          dsimp only at F N hinv hne ⊢
          obtain ⟨T, rfl, hkd, p4⟩ := hinv
          have q1 : @Ne Nat d I₃ ∧ @Ne Nat d I₄ := hne (d, o) (by simp)
          have q7 : @Ne Nat da I₃ ∧ @Ne Nat da I₄ := hne (da, oa) (by simp)
          have q2 : @Ne Nat x I₃ ∧ @Ne Nat x I₄ := hne (x, instObj 310 dx) (by simp)
          have q3 : @Ne Nat dx I₃ ∧ @Ne Nat dx I₄ := hne (dx, dictOf (dlfAt w t0 t1 t2 t3) 4) (by simp)
          have q5 : @Ne Nat I₁ I₃ ∧ @Ne Nat I₁ I₄ := hne (I₁, ob) (by simp)
          have q6 : @Ne Nat I₂ I₃ ∧ @Ne Nat I₂ I₄ := hne (I₂, ob₂) (by simp)
          have q4 : ∀ q ∈ ks, q.1 ≠ I₃ ∧ q.1 ≠ I₄ := fun q hq => hne q (by simp [hq])
          have hsz : 400 + 200 * i + 2 * j ≤ 2 ^ 20 := by omega
          have hl1 : lastAt ns (ms.getD j 0) i ≤ i := lastAt_le
          have hl2 : lastAt ms (ns.getD i 0) j ≤ j := lastAt_le
          k_steps
          rename News _ _ _ _ => N
          rename Fr _ _ _ _ => F
          refine Pays.use (ident_int (On.of X T₀ F) (room_deep (H.less (by omega) (by omega)))) ?_
          intro v h₂ tk₃ st hv
          subst hv
          dsimp only at st ⊢
          have F2 := fr_stay F st
          have N2 := news_stay N st
          clear F N
          k_steps
          · rename List.getD _ _ _ = List.getD _ _ _ => z
            rename News _ _ _ _ => N
            rename Fr _ _ _ _ => F
            (try dsimp only at N)
            (try dsimp only)
            rename_i Dk _ lk
            refine dtab_set ((I₃, ob₃) :: (I₄, ob₄) :: (da, oa) :: (I₁, ob) :: (I₂, ob₂) :: (x, instObj 310 dx) :: (dx, dictOf (dlfAt w t0 t1 t2 t3) 4) :: ks) F N (by k_mem) (fun q hq => by repeat (first | exact hq | apply List.mem_cons_of_mem)) T (by k_mem) tup2_ob
              (List.forall_mem_cons.mpr ⟨⟨by k_mem, Ne.symm q1.1⟩, List.forall_mem_cons.mpr ⟨⟨by k_mem, Ne.symm q1.2⟩, List.forall_mem_cons.mpr ⟨⟨by k_mem, hdd⟩, List.forall_mem_cons.mpr ⟨⟨by k_mem, Ne.symm p1.1⟩, List.forall_mem_cons.mpr ⟨⟨by k_mem, Ne.symm p1.2⟩, List.forall_mem_cons.mpr ⟨⟨by k_mem, hxd⟩, List.forall_mem_cons.mpr ⟨⟨by k_mem, hdxd⟩, fun q hq => ⟨by repeat (first | exact hq | apply List.mem_cons_of_mem), (hkd q hq).1⟩⟩⟩⟩⟩⟩⟩⟩) (by k_ne) hu3 (hsz) ?_
            intro h₃ o₃ tk₄ F N T'
            have T := T'.mono (Nat.le_refl _) (dl_done (dl_step (by simp only [eqAt, beq_iff_eq]; rw [if_pos z])) hj)
            clear T'
            k_steps
            (try dsimp only at F)
            refine' fr_then F ?e ?_
            (case e => repeat' (first | exact envM_of_lookup _ | exact envM_nil | exact rfl | apply env_set))
            clear F
            intro F
            refine TurnEnd2.mk (.inl rfl) (UIS.mk o₃ (_ :: ks) (j + 1 : Nat) _ _ _ _ _ _) ⟨T.mono dl_size (fun _ _ _ h => h), (by rw [lastAt, if_pos z]), List.forall_mem_cons.mpr ⟨⟨by k_ne, by k_ne⟩, hkd⟩, List.forall_mem_cons.mpr ⟨⟨by k_ne, by k_ne⟩, p4⟩⟩ F
              (news_sub N _ (by intro q hq; simp only [List.cons_append, List.nil_append, List.mem_cons] at hq ⊢; rcases hq with h | h | h | h | h | h | h | h | h | h <;> simp [h]))
              (List.forall_mem_cons.mpr ⟨ne2 q1, List.forall_mem_cons.mpr ⟨ne2 q7, List.forall_mem_cons.mpr ⟨ne2 q5, List.forall_mem_cons.mpr ⟨ne2 q6, List.forall_mem_cons.mpr ⟨ne2 q2, List.forall_mem_cons.mpr ⟨ne2 q3, List.forall_mem_cons.mpr ⟨ne2 ⟨by k_ne, by k_ne⟩, fun p hp => ne2 (q4 p hp)⟩⟩⟩⟩⟩⟩⟩)
          · rename ¬ (List.getD _ _ _ = List.getD _ _ _) => z
            rename News _ _ _ _ => N
            rename Fr _ _ _ _ => F
            (try dsimp only at N)
            (try dsimp only)
            rename_i Dk _ lk
            refine dtab_set ((I₃, ob₃) :: (I₄, ob₄) :: (da, oa) :: (I₁, ob) :: (I₂, ob₂) :: (x, instObj 310 dx) :: (dx, dictOf (dlfAt w t0 t1 t2 t3) 4) :: ks) F N (by k_mem) (fun q hq => by repeat (first | exact hq | apply List.mem_cons_of_mem)) T (by k_mem) tup2_ob
              (List.forall_mem_cons.mpr ⟨⟨by k_mem, Ne.symm q1.1⟩, List.forall_mem_cons.mpr ⟨⟨by k_mem, Ne.symm q1.2⟩, List.forall_mem_cons.mpr ⟨⟨by k_mem, hdd⟩, List.forall_mem_cons.mpr ⟨⟨by k_mem, Ne.symm p1.1⟩, List.forall_mem_cons.mpr ⟨⟨by k_mem, Ne.symm p1.2⟩, List.forall_mem_cons.mpr ⟨⟨by k_mem, hxd⟩, List.forall_mem_cons.mpr ⟨⟨by k_mem, hdxd⟩, fun q hq => ⟨by repeat (first | exact hq | apply List.mem_cons_of_mem), (hkd q hq).1⟩⟩⟩⟩⟩⟩⟩⟩) (by k_ne) hu3 (hsz) ?_
            intro h₃ o₃ tk₄ F N T'
            have T := T'.mono (Nat.le_refl _) (dl_done (dl_step (by simp only [eqAt, beq_iff_eq]; rw [if_neg z])) hj)
            clear T'
            k_steps
            (try dsimp only at F)
            refine' fr_then F ?e ?_
            (case e => repeat' (first | exact envM_of_lookup _ | exact envM_nil | exact rfl | apply env_set))
            clear F
            intro F
            refine TurnEnd2.mk (.inl rfl) (UIS.mk o₃ (_ :: ks) _ _ _ _ _ _ _) ⟨T.mono dl_size (fun _ _ _ h => h), (by rw [lastAt, if_neg z]), List.forall_mem_cons.mpr ⟨⟨by k_ne, by k_ne⟩, hkd⟩, List.forall_mem_cons.mpr ⟨⟨by k_ne, by k_ne⟩, p4⟩⟩ F
              (news_sub N _ (by intro q hq; simp only [List.cons_append, List.nil_append, List.mem_cons] at hq ⊢; rcases hq with h | h | h | h | h | h | h | h | h | h <;> simp [h]))
              (List.forall_mem_cons.mpr ⟨ne2 q1, List.forall_mem_cons.mpr ⟨ne2 q7, List.forall_mem_cons.mpr ⟨ne2 q5, List.forall_mem_cons.mpr ⟨ne2 q6, List.forall_mem_cons.mpr ⟨ne2 q2, List.forall_mem_cons.mpr ⟨ne2 q3, List.forall_mem_cons.mpr ⟨ne2 ⟨by k_ne, by k_ne⟩, fun p hp => ne2 (q4 p hp)⟩⟩⟩⟩⟩⟩⟩)
          )
        (case done4 =>
          clear F N T hkd hne p4
          (try clear ks)
          (try clear o)
          intro c h tk hinv F N
          obtain ⟨o, ks, vd, td, oj, o3, o4, o5, o6⟩ := c
          dsimp only at F N hinv ⊢
          obtain ⟨T, rfl, hkd, p4⟩ := hinv
          k_steps
          rename News _ _ _ _ => N
          rename Fr _ _ _ _ => F
          refine itab_set ((d, o) :: (I₁, ob) :: (I₂, ob₂) :: (x, instObj 310 dx) :: (dx, dictOf (dlfAt w t0 t1 t2 t3) 4) :: ks) F N (by k_mem) (List.forall_mem_cons.mpr ⟨⟨by k_mem, Ne.symm hdd⟩, List.forall_mem_cons.mpr ⟨⟨by k_mem, Ne.symm p5.1⟩, List.forall_mem_cons.mpr ⟨⟨by k_mem, Ne.symm p5.2⟩, List.forall_mem_cons.mpr ⟨⟨by k_mem, hxda⟩, List.forall_mem_cons.mpr ⟨⟨by k_mem, hdxda⟩, fun q hq => ⟨by repeat (first | exact hq | apply List.mem_cons_of_mem), (hkd q hq).2⟩⟩⟩⟩⟩⟩) TA (by omega) ?_
          intro h₃ oa₃ tk₄ F N TA
          k_steps
          exact TurnEnd2.mk (.inl rfl) (UMS.mk o oa₃ ks _ oj _ _ o3 o4 o5 o6) ⟨T.mono (by omega) dl_next, TA.mono (Nat.le_refl _) (fun k => by rw [lastAt]; exact (apply_ite _ _ _ _).symm), hkd⟩ F
            (news_sub N _ (by intro q hq; simp only [List.cons_append, List.nil_append, List.mem_cons] at hq ⊢; rcases hq with h | h | h | h | h | h | h <;> simp [h]))
            (List.forall_mem_cons.mpr ⟨ne2 p1, List.forall_mem_cons.mpr ⟨ne2 p5, List.forall_mem_cons.mpr ⟨ne2 p2, List.forall_mem_cons.mpr ⟨ne2 p3, fun p hp => ne2 (p4 p hp)⟩⟩⟩⟩)
          )
        )
      (case done3 =>
        clear F N T hkd TA
        (try clear ks)
        (try clear o)
        intro c h tk hinv F N
        obtain ⟨o, oa, ks, oi, oj, o1, o2, o3, o4, o5, o6⟩ := c
        dsimp only at F N hinv ⊢
        obtain ⟨T, TA, hkd⟩ := hinv
        k_steps
        rename News _ _ _ _ => N
        rename Fr _ _ _ _ => F
        (try dsimp only)
        refine hR _ _ _ (back.keep _ F.keep (List.forall_mem_cons.mpr ⟨(N _ (by k_mem)).1, List.forall_mem_cons.mpr ⟨(N _ (by k_mem)).1, fun _ h => nomatch h⟩⟩)) ⟨_, rfl⟩
        )
      )
    )
end
end Mine
end
set_option maxHeartbeats 4000000
/- part Mc10 -/
section
namespace Mine
theorem fillMc10 : (PySem.Challenge.rw_br0041_01 = PySem.Challenge.rw_br0041_01 ∧ hd.heap_39 = hd.heap_39) := by
  k_fill
  exact ⟨rfl, rfl⟩
section
variable {prog : Program} {w : World} {A : Around} {s : Shared} {p : Program} {loose : List Str} {mean : ExcName → Option Value} {mg mb : Str → Option Value} {g : Heap}
local macro_rules | `(tactic| walk_at "pyIter ref") => `(tactic| (k_here; refine stop_it ?_))
local macro_rules | `(tactic| walk_at "call ref") => `(tactic| (k_here; refine stop_it ?_))
local macro_rules | `(tactic| walk_at "setItem ref ref") => `(tactic| (k_here; refine stop_it ?_))
local macro_rules | `(tactic| walk_at "exec For Tuple") => `(tactic| (k_here; refine stop_it ?_))
local macro_rules | `(tactic| walk_at "getMethod ref") => `(tactic| (k_here; k_dflt (first
  | (refine' kmu_own ?k1 ?k2 ?k3 ?k4 ?k5 ?_; (case k1 => k_asm); (case k2 => k_asm); (case k3 => k_inst); (case k4 => k_is); (case k5 => k_is); k_whole)
  | (refine' method_inst ?k1 ?k2 ?k3 ?k4 ?k5 ?k6 ?k7 ?_; (case k1 => k_asm); (case k2 => k_asm); (case k3 => k_inst); (case k4 => k_is); (case k5 => k_is); (case k6 => k_is); (case k7 => k_get); k_whole))))
local macro_rules | `(tactic| walk_at "last getAttr ref") => `(tactic| (k_here; k_dflt (refine' attr_sm ?k1 ?k2 ?k4 ?k5 ?k6 ?k7 ?k9 ?k10 ?k11 ?k12 ?k13 ?k14 ?_; (case k1 => k_asm); (case k2 => k_asm); (case k4 => k_inst); (case k5 => k_is); (case k6 => k_is); (case k7 => k_is); (case k9 => k_is); (case k10 => k_is); (case k11 => decide +kernel); (case k12 => k_get); (case k13 => k_is); (case k14 => k_handed); k_whole)))
local macro_rules | `(tactic| walk_at "last eval Call Attribute") => `(tactic| (k_here; refine methodCall_S ?_))
local macro_rules | `(tactic| walk_at "eval Call Attribute") => `(tactic| (k_here; (with_reducible show wpAny _ _ (eval (Expr.Call (Expr.Attribute _ _ _) [Expr.Starred _ _] [] _) _) _ _ _); refine methodCall_S ?_))
local macro_rules | `(tactic| walk_at "call builtin:len") => `(tactic| (k_here; refine' len_TupAt ?k1 ?k2 ?_; (case k1 => k_asm); (case k2 => k_asm); intro _ _; k_whole))
local macro_rules | `(tactic| walk_at "getItem ref int") => `(tactic| (k_here; refine' getItem_TupAt ?k1 ?k2 ?k3 ?_; (case k1 => k_asm); (case k2 => k_asm); (case k3 => omega); intro _; k_whole))
local macro_rules | `(tactic| walk_at "subscriptTail") => `(tactic| (k_here; first
  | (refine' item_TupAt ?k1 ?k2 ?k3 ?_; (case k1 => k_asm); (case k2 => k_asm); (case k3 => omega); intro _; k_whole)
  | (refine' item_fn ?k1 ?k2 ?k3 ?k4 ?_; (case k1 => k_asm); (case k2 => k_mem); (case k3 => with_reducible assumption); (case k4 => omega); intro _; k_whole)))
local macro_rules | `(tactic| walk_at "call builtin:min") => `(tactic| (k_here; (with_reducible show wpAny _ _ (call (Value.builtin "min") [Value.int _ _, Value.int _ _]) _ _ _); (rename Around.handled _ = none => hX); refine' min2N hX ?k2 ?k3 ?_; (case k2 => k_asm); (case k3 => k_asm); k_whole; intro h' tk' t' F' N'))
local macro_rules | `(tactic| walk_at "call builtin:min") => `(tactic| (k_here; (with_reducible show wpAny _ _ (call (Value.builtin "min") [Value.int _ _, Value.int _ _, Value.int _ _]) _ _ _); (rename Around.handled _ = none => hX); refine' min3N hX ?k2 ?k3 ?_; (case k2 => k_asm); (case k3 => k_asm); k_whole; intro h' tk' t' F' N'))
local macro_rules | `(tactic| walk_at "call builtin:min") => `(tactic| (k_here; (with_reducible show wpAny _ _ (call (Value.builtin "min") [Value.int _ _, Value.int _ _, Value.int _ _, Value.int _ _]) _ _ _); (rename Around.handled _ = none => hX); refine' min4N hX ?k2 ?k3 ?_; (case k2 => k_asm); (case k3 => k_asm); k_whole; intro h' tk' t' F' N'))
local macro_rules | `(tactic| walk_at "setItem ref int int") => `(tactic| (k_here; refine' setItem_fn ?k1 ?k2 ?k3 ?k4 ?k5 ?_; (case k1 => k_asm); (case k2 => k_asm); (case k3 => k_upd); (case k4 => with_reducible assumption); (case k5 => omega); k_whole; intro h' F' N' i'))
local macro_rules | `(tactic| walk_at "assign Tuple") => `(tactic| (k_here; (with_reducible show wpAny _ _ (assign (Expr.Tuple _ _ _) _ (Value.ref _)) _ _ _); k_dflt (refine' kun_list ?k1 ?k2 ?k3 ?k4 ?k5 ?k6 ?_; (case k1 => k_asm); (case k2 => k_asm); (case k3 => kun_lst); (case k4 => assumption); (case k5 => exact rfl); (case k6 => exact rfl); k_whole); intro h' F' N'; (try k_sweep)))
local macro_rules | `(tactic| walk_at "assign Tuple") => `(tactic| (k_here; (with_reducible show wpAny _ _ (assign (Expr.Tuple _ _ _) _ (Value.ref _)) _ _ _); k_dflt (refine' unpackN_ ?k1 ?k2 ?k3 ?k4 ?k5 ?k6 ?_; (case k1 => k_asm); (case k2 => k_asm); (case k3 => kun_tup); (case k4 => assumption); (case k5 => exact rfl); (case k6 => exact rfl); k_whole); intro h' F' N'; (try k_sweep)))
local macro_rules | `(tactic| walk_at "unpackItems ref") => `(tactic| (k_here; k_dflt (refine' unpackItemsN_ ?k1 ?k2 ?k3 ?k4 ?k5 ?_; (case k1 => k_asm); (case k2 => k_asm); (case k3 => kun_tup); (case k4 => assumption); (case k5 => exact rfl); k_whole); intro h' F' N'; (try k_sweep)))
local macro_rules | `(tactic| walk_at "call type:list") => `(tactic| (k_here; refine' list_range_N ?k0 ?k1 ?k2 ?k3 ?k4 ?k5 ?k6 ?_; (case k1 => k_asm); (case k2 => k_asm); (case k0 => assumption); (case k3 => assumption); (case k4 => omega); (case k5 => exact small_one (by omega) (by omega) (by omega) (by omega)); (case k6 => omega); intro D' h' tk' vs' k' F' N' l1 i1; (try k_lt l1)))

theorem dlt_call {x dx a b : Addr} {ns ms : List Int} {t0 t1 t2 t3 : Tok} (ha : TupAt g a ns) (hb : TupAt g b ms) (I : Inst g s.heap x 310 dx (dltAt w t0 t1 t2 t3) 4) (O : On w p loose mean mg mb g s.heap) (H : Room A 5 90) :
    Pays prog w A (.call (.ref 307) ⟨[.ref x, .ref a, .ref b], []⟩) s (fun v _ => ∃ t, v = .int (quickI ns ms (osaT (eqAt ns ms) ns.length ms.length)) t) := by
  w_top off
  intro R hR
  have lt := I.lt
  refine' enterG [(x, instObj 310 dx), (dx, dictOf (dltAt w t0 t1 t2 t3) 4)] (binds := [(Str.ofString "self", .ref x), (Str.ofString "s1", .ref a), (Str.ofString "s2", .ref b)]) O ?hg ?hown ?ho ?hcd ?hroom ?hb ?hl ?body ?hcell ?c1 ?c2 ?c3
  (case hg => exact own_none I)
  (case hown => exact own_at I)
  (case ho => k_is)
  (case hcd => k_is)
  (case hroom => have := Room.dp (by assumption); omega)
  (case hl => exact locs rfl)
  (case hcell => decide)
  (case c1 => exact rfl)
  (case c2 => exact rfl)
  (case c3 => exact rfl)
  (case hb => first | exact BindsTo.of_eq rfl | exact kp_binds (O.k.keeps O.st) (fun _ => rfl))
  intro h₀ L h₁ gst X T back F N
  (try k_fold)
  rename Top _ _ _ _ _ _ => T
  have ha₀ := ha.keeps gst
  have hh := H.hh
  have hb₀ := hb.keeps gst
  k_steps
  rename News _ _ _ _ => N
  rename Fr _ _ _ _ => F
  refine Pays.use (seqs_dlt (inst_of N (by k_mem) (by k_mem) lt) (On.of X T F) (room_deep (H.less (by omega) (by omega)))) ?_
  intro v h₂ tk st hv
  obtain ⟨l, c, rfl, hl, hn⟩ := hv
  dsimp only at st hn ⊢
  obtain ⟨N2, ne2⟩ := news_new F N st hl hn
  have F2 := fr_stay F st
  clear F N
  k_steps
  rename News _ _ _ _ => N
  rename Fr _ _ _ _ => F
  refine Pays.use (quick_dlt ha₀ hb₀ (inst_of N (by k_mem) (by k_mem) lt) (On.of X T F) (room_deep (H.less (by omega) (by omega)))) ?_
  intro v h₃ tk₃ st3 hv
  dsimp only at st3 ⊢
  have F3 := fr_stay F st3
  have N3 := news_stay N st3
  clear F N
  replace hv : quickV ns ms v := hv
  unfold quickV at hv
  by_cases e1 : ns = ms
  · rw [if_pos e1] at hv
    obtain ⟨t, rfl⟩ := hv
    k_steps
    rename News _ _ _ _ => N
    rename Fr _ _ _ _ => F
    (try dsimp only)
    refine hR _ _ _ (back.keep _ F.keep (List.forall_mem_cons.mpr ⟨(N _ (by k_mem)).1, List.forall_mem_cons.mpr ⟨(N _ (by k_mem)).1, fun _ h => nomatch h⟩⟩)) ⟨_, by rw [quickI, if_pos e1]⟩
  · rw [if_neg e1] at hv
    by_cases e2 : ns = [] ∨ ms = []
    · rw [if_pos e2] at hv
      obtain ⟨t, rfl⟩ := hv
      k_steps
      rename News _ _ _ _ => N
      rename Fr _ _ _ _ => F
      (try dsimp only)
      refine hR _ _ _ (back.keep _ F.keep (List.forall_mem_cons.mpr ⟨(N _ (by k_mem)).1, List.forall_mem_cons.mpr ⟨(N _ (by k_mem)).1, fun _ h => nomatch h⟩⟩)) ⟨_, by rw [quickI, if_neg e1, if_pos e2]⟩
    · rw [if_neg e2] at hv
      subst hv
      k_steps
      rename News _ _ _ _ => N
      rename Fr _ _ _ _ => F
      refine Pays.use (restricted ha₀ hb₀ (inst_of N (by k_mem) (by k_mem) lt) (On.of X T F) (room_deep (H.less (by omega) (by omega)))) ?_
      intro v h₄ tk₄ st4 hv
      obtain ⟨t, rfl⟩ := hv
      dsimp only at st4 ⊢
      have F4 := fr_stay F st4
      have N4 := news_stay N st4
      clear F N
      k_steps
      (try dsimp only)
      refine hR _ _ _ (back.keep _ F4.keep (List.forall_mem_cons.mpr ⟨(N4 _ (by k_mem)).1, List.forall_mem_cons.mpr ⟨(N4 _ (by k_mem)).1, fun _ h => nomatch h⟩⟩)) ⟨_, by rw [quickI, if_neg e1, if_neg e2]⟩

theorem dist_dlt {x dx a b : Addr} {ns ms : List Int} {t0 t1 t2 t3 : Tok} (ha : TupAt g a ns) (hb : TupAt g b ms) (I : Inst g s.heap x 310 dx (dltAt w t0 t1 t2 t3) 4) (O : On w p loose mean mg mb g s.heap) (H : Room A 7 120) :
    Pays prog w A (.call (.ref 122) ⟨[.ref x, .ref a, .ref b], []⟩) s (fun v _ => ∃ t, v = .int (quickI ns ms (osaT (eqAt ns ms) ns.length ms.length)) t) := by
  w_top off
  intro R hR
  have lt := I.lt
  refine' enterRG [(x, instObj 310 dx), (dx, dictOf (dltAt w t0 t1 t2 t3) 4)] (vs := [.ref a, .ref b]) (bindsR := fun D => [(Str.ofString "self", .ref x), (Str.ofString "sequences", .ref D)]) O ?hg ?hown ?ho ?hcd ?hroom ?hv ?hp ?hgr ?hl ?body ?hcell ?c1 ?c2 ?c3
  (case hg => exact own_none I)
  (case hown => exact own_at I)
  (case ho => k_is)
  (case hcd => k_is)
  (case hroom => have := Room.dp (by assumption); omega)
  (case hl => exact fun _ => locs rfl)
  (case hcell => decide)
  (case c1 => exact rfl)
  (case c2 => exact rfl)
  (case c3 => exact rfl)
  (case hv => exact rfl)
  (case hp => exact rfl)
  (case hgr => exact fun _ => rfl)
  intro D h₀ L h₁ gst X T back F N l1
  (try k_lt l1)
  (try k_fold)
  rename Top _ _ _ _ _ _ => T
  have ha₀ := ha.keeps gst
  have hb₀ := hb.keeps gst
  have hh := H.hh
  k_steps
  refine callWith_XS (ox := instObj 310 dx) rfl ?_
  k_steps
  · rename News _ _ _ _ => N
    exact (N (x, instObj 310 dx) (by k_mem)).1
  rename News _ _ _ _ => N
  rename Fr _ _ _ _ => F
  have J := inst_of N (by k_mem) (by k_mem) lt
  refine wpAny_call ?_
  refine' kco_code ?k1 ?k2 ?k3 ?k4 ?k5 ?k6 ?k7
  (case k1 => k_in)
  (case k2 => k_inst)
  (case k3 => rfl)
  (case k4 => k_is)
  (case k5 => k_is)
  (case k6 => k_is)
  refine dlt_call ha₀ hb₀ J (On.of X T F) (room_deep (H.less (by omega) (by omega))) _ ?_
  intro v h₃ tk₃ st3 hv
  obtain ⟨t, rfl⟩ := hv
  dsimp only at st3 ⊢
  have F3 := fr_stay F st3
  have N3 := news_stay N st3
  clear F N
  (try dsimp only)
  refine hR _ _ _ (back.keep _ F3.keep (List.forall_mem_cons.mpr ⟨(N3 _ (by k_mem)).1, List.forall_mem_cons.mpr ⟨(N3 _ (by k_mem)).1, fun _ h => nomatch h⟩⟩)) ⟨_, rfl⟩

theorem dlf_call {x dx a b : Addr} {ns ms : List Int} {t0 t1 t2 t3 : Tok} (ha : TupAt g a ns) (hb : TupAt g b ms) (I : Inst g s.heap x 310 dx (dlfAt w t0 t1 t2 t3) 4) (O : On w p loose mean mg mb g s.heap) (H : Room A 5 90) :
    Pays prog w A (.call (.ref 307) ⟨[.ref x, .ref a, .ref b], []⟩) s (fun v _ => ∃ t, v = .int (quickI ns ms (dlT ns ms (ns.length + 1) (ms.length + 1))) t) := by
  w_top off
  intro R hR
  have lt := I.lt
  refine' enterG [(x, instObj 310 dx), (dx, dictOf (dlfAt w t0 t1 t2 t3) 4)] (binds := [(Str.ofString "self", .ref x), (Str.ofString "s1", .ref a), (Str.ofString "s2", .ref b)]) O ?hg ?hown ?ho ?hcd ?hroom ?hb ?hl ?body ?hcell ?c1 ?c2 ?c3
  (case hg => exact own_none I)
  (case hown => exact own_at I)
  (case ho => k_is)
  (case hcd => k_is)
  (case hroom => have := Room.dp (by assumption); omega)
  (case hl => exact locs rfl)
  (case hcell => decide)
  (case c1 => exact rfl)
  (case c2 => exact rfl)
  (case c3 => exact rfl)
  (case hb => first | exact BindsTo.of_eq rfl | exact kp_binds (O.k.keeps O.st) (fun _ => rfl))
  intro h₀ L h₁ gst X T back F N
  (try k_fold)
  rename Top _ _ _ _ _ _ => T
  have ha₀ := ha.keeps gst
  have hh := H.hh
  have hb₀ := hb.keeps gst
  k_steps
  rename News _ _ _ _ => N
  rename Fr _ _ _ _ => F
  refine Pays.use (seqs_dlf (inst_of N (by k_mem) (by k_mem) lt) (On.of X T F) (room_deep (H.less (by omega) (by omega)))) ?_
  intro v h₂ tk st hv
  obtain ⟨l, c, rfl, hl, hn⟩ := hv
  dsimp only at st hn ⊢
  obtain ⟨N2, ne2⟩ := news_new F N st hl hn
  have F2 := fr_stay F st
  clear F N
  k_steps
  rename News _ _ _ _ => N
  rename Fr _ _ _ _ => F
  refine Pays.use (quick_dlf ha₀ hb₀ (inst_of N (by k_mem) (by k_mem) lt) (On.of X T F) (room_deep (H.less (by omega) (by omega)))) ?_
  intro v h₃ tk₃ st3 hv
  dsimp only at st3 ⊢
  have F3 := fr_stay F st3
  have N3 := news_stay N st3
  clear F N
  replace hv : quickV ns ms v := hv
  unfold quickV at hv
  by_cases e1 : ns = ms
  · rw [if_pos e1] at hv
    obtain ⟨t, rfl⟩ := hv
    k_steps
    rename News _ _ _ _ => N
    rename Fr _ _ _ _ => F
    (try dsimp only)
    refine hR _ _ _ (back.keep _ F.keep (List.forall_mem_cons.mpr ⟨(N _ (by k_mem)).1, List.forall_mem_cons.mpr ⟨(N _ (by k_mem)).1, fun _ h => nomatch h⟩⟩)) ⟨_, by rw [quickI, if_pos e1]⟩
  · rw [if_neg e1] at hv
    by_cases e2 : ns = [] ∨ ms = []
    · rw [if_pos e2] at hv
      obtain ⟨t, rfl⟩ := hv
      k_steps
      rename News _ _ _ _ => N
      rename Fr _ _ _ _ => F
      (try dsimp only)
      refine hR _ _ _ (back.keep _ F.keep (List.forall_mem_cons.mpr ⟨(N _ (by k_mem)).1, List.forall_mem_cons.mpr ⟨(N _ (by k_mem)).1, fun _ h => nomatch h⟩⟩)) ⟨_, by rw [quickI, if_neg e1, if_pos e2]⟩
    · rw [if_neg e2] at hv
      subst hv
      k_steps
      rename News _ _ _ _ => N
      rename Fr _ _ _ _ => F
      refine Pays.use (unrestricted ha₀ hb₀ (inst_of N (by k_mem) (by k_mem) lt) (On.of X T F) (room_deep (H.less (by omega) (by omega)))) ?_
      intro v h₄ tk₄ st4 hv
      obtain ⟨t, rfl⟩ := hv
      dsimp only at st4 ⊢
      have F4 := fr_stay F st4
      have N4 := news_stay N st4
      clear F N
      k_steps
      (try dsimp only)
      refine hR _ _ _ (back.keep _ F4.keep (List.forall_mem_cons.mpr ⟨(N4 _ (by k_mem)).1, List.forall_mem_cons.mpr ⟨(N4 _ (by k_mem)).1, fun _ h => nomatch h⟩⟩)) ⟨_, by rw [quickI, if_neg e1, if_neg e2]⟩

theorem dist_dlf {x dx a b : Addr} {ns ms : List Int} {t0 t1 t2 t3 : Tok} (ha : TupAt g a ns) (hb : TupAt g b ms) (I : Inst g s.heap x 310 dx (dlfAt w t0 t1 t2 t3) 4) (O : On w p loose mean mg mb g s.heap) (H : Room A 7 120) :
    Pays prog w A (.call (.ref 122) ⟨[.ref x, .ref a, .ref b], []⟩) s (fun v _ => ∃ t, v = .int (quickI ns ms (dlT ns ms (ns.length + 1) (ms.length + 1))) t) := by
  w_top off
  intro R hR
  have lt := I.lt
  refine' enterRG [(x, instObj 310 dx), (dx, dictOf (dlfAt w t0 t1 t2 t3) 4)] (vs := [.ref a, .ref b]) (bindsR := fun D => [(Str.ofString "self", .ref x), (Str.ofString "sequences", .ref D)]) O ?hg ?hown ?ho ?hcd ?hroom ?hv ?hp ?hgr ?hl ?body ?hcell ?c1 ?c2 ?c3
  (case hg => exact own_none I)
  (case hown => exact own_at I)
  (case ho => k_is)
  (case hcd => k_is)
  (case hroom => have := Room.dp (by assumption); omega)
  (case hl => exact fun _ => locs rfl)
  (case hcell => decide)
  (case c1 => exact rfl)
  (case c2 => exact rfl)
  (case c3 => exact rfl)
  (case hv => exact rfl)
  (case hp => exact rfl)
  (case hgr => exact fun _ => rfl)
  intro D h₀ L h₁ gst X T back F N l1
  (try k_lt l1)
  (try k_fold)
  rename Top _ _ _ _ _ _ => T
  have ha₀ := ha.keeps gst
  have hb₀ := hb.keeps gst
  have hh := H.hh
  k_steps
  refine callWith_XS (ox := instObj 310 dx) rfl ?_
  k_steps
  · rename News _ _ _ _ => N
    exact (N (x, instObj 310 dx) (by k_mem)).1
  rename News _ _ _ _ => N
  rename Fr _ _ _ _ => F
  have J := inst_of N (by k_mem) (by k_mem) lt
  refine wpAny_call ?_
  refine' kco_code ?k1 ?k2 ?k3 ?k4 ?k5 ?k6 ?k7
  (case k1 => k_in)
  (case k2 => k_inst)
  (case k3 => rfl)
  (case k4 => k_is)
  (case k5 => k_is)
  (case k6 => k_is)
  refine dlf_call ha₀ hb₀ J (On.of X T F) (room_deep (H.less (by omega) (by omega))) _ ?_
  intro v h₃ tk₃ st3 hv
  obtain ⟨t, rfl⟩ := hv
  dsimp only at st3 ⊢
  have F3 := fr_stay F st3
  have N3 := news_stay N st3
  clear F N
  (try dsimp only)
  refine hR _ _ _ (back.keep _ F3.keep (List.forall_mem_cons.mpr ⟨(N3 _ (by k_mem)).1, List.forall_mem_cons.mpr ⟨(N3 _ (by k_mem)).1, fun _ h => nomatch h⟩⟩)) ⟨_, rfl⟩
end
end Mine
end
set_option maxHeartbeats 4000000
/- part Mc11 -/
section
namespace Mine
theorem fillMc11 : (PySem.Challenge.rw_br0041_01 = PySem.Challenge.rw_br0041_01 ∧ hd.heap_39 = hd.heap_39) := by
  k_fill
  exact ⟨rfl, rfl⟩
section
variable {prog : Program} {w : World} {A : Around} {s : Shared} {p : Program} {loose : List Str} {mean : ExcName → Option Value} {mg mb : Str → Option Value} {g : Heap}
local macro_rules | `(tactic| walk_at "pyIter ref") => `(tactic| (k_here; refine stop_it ?_))
local macro_rules | `(tactic| walk_at "call ref") => `(tactic| (k_here; refine stop_it ?_))
local macro_rules | `(tactic| walk_at "setItem ref ref") => `(tactic| (k_here; refine stop_it ?_))
local macro_rules | `(tactic| walk_at "exec For Tuple") => `(tactic| (k_here; refine stop_it ?_))
local macro_rules | `(tactic| walk_at "getMethod ref") => `(tactic| (k_here; k_dflt (first
  | (refine' kmu_own ?k1 ?k2 ?k3 ?k4 ?k5 ?_; (case k1 => k_asm); (case k2 => k_asm); (case k3 => k_inst); (case k4 => k_is); (case k5 => k_is); k_whole)
  | (refine' method_inst ?k1 ?k2 ?k3 ?k4 ?k5 ?k6 ?k7 ?_; (case k1 => k_asm); (case k2 => k_asm); (case k3 => k_inst); (case k4 => k_is); (case k5 => k_is); (case k6 => k_is); (case k7 => k_get); k_whole))))
local macro_rules | `(tactic| walk_at "last getAttr ref") => `(tactic| (k_here; k_dflt (refine' attr_sm ?k1 ?k2 ?k4 ?k5 ?k6 ?k7 ?k9 ?k10 ?k11 ?k12 ?k13 ?k14 ?_; (case k1 => k_asm); (case k2 => k_asm); (case k4 => k_inst); (case k5 => k_is); (case k6 => k_is); (case k7 => k_is); (case k9 => k_is); (case k10 => k_is); (case k11 => decide +kernel); (case k12 => k_get); (case k13 => k_is); (case k14 => k_handed); k_whole)))
local macro_rules | `(tactic| walk_at "last eval Call Attribute") => `(tactic| (k_here; refine methodCall_S ?_))
local macro_rules | `(tactic| walk_at "eval Call Attribute") => `(tactic| (k_here; (with_reducible show wpAny _ _ (eval (Expr.Call (Expr.Attribute _ _ _) [Expr.Starred _ _] [] _) _) _ _ _); refine methodCall_S ?_))
local macro_rules | `(tactic| walk_at "call builtin:len") => `(tactic| (k_here; refine' len_TupAt ?k1 ?k2 ?_; (case k1 => k_asm); (case k2 => k_asm); intro _ _; k_whole))
local macro_rules | `(tactic| walk_at "getItem ref int") => `(tactic| (k_here; refine' getItem_TupAt ?k1 ?k2 ?k3 ?_; (case k1 => k_asm); (case k2 => k_asm); (case k3 => omega); intro _; k_whole))
local macro_rules | `(tactic| walk_at "subscriptTail") => `(tactic| (k_here; first
  | (refine' item_TupAt ?k1 ?k2 ?k3 ?_; (case k1 => k_asm); (case k2 => k_asm); (case k3 => omega); intro _; k_whole)
  | (refine' item_fn ?k1 ?k2 ?k3 ?k4 ?_; (case k1 => k_asm); (case k2 => k_mem); (case k3 => with_reducible assumption); (case k4 => omega); intro _; k_whole)))
local macro_rules | `(tactic| walk_at "call builtin:min") => `(tactic| (k_here; (with_reducible show wpAny _ _ (call (Value.builtin "min") [Value.int _ _, Value.int _ _]) _ _ _); (rename Around.handled _ = none => hX); refine' min2N hX ?k2 ?k3 ?_; (case k2 => k_asm); (case k3 => k_asm); k_whole; intro h' tk' t' F' N'))
local macro_rules | `(tactic| walk_at "call builtin:min") => `(tactic| (k_here; (with_reducible show wpAny _ _ (call (Value.builtin "min") [Value.int _ _, Value.int _ _, Value.int _ _]) _ _ _); (rename Around.handled _ = none => hX); refine' min3N hX ?k2 ?k3 ?_; (case k2 => k_asm); (case k3 => k_asm); k_whole; intro h' tk' t' F' N'))
local macro_rules | `(tactic| walk_at "call builtin:min") => `(tactic| (k_here; (with_reducible show wpAny _ _ (call (Value.builtin "min") [Value.int _ _, Value.int _ _, Value.int _ _, Value.int _ _]) _ _ _); (rename Around.handled _ = none => hX); refine' min4N hX ?k2 ?k3 ?_; (case k2 => k_asm); (case k3 => k_asm); k_whole; intro h' tk' t' F' N'))
local macro_rules | `(tactic| walk_at "setItem ref int int") => `(tactic| (k_here; refine' setItem_fn ?k1 ?k2 ?k3 ?k4 ?k5 ?_; (case k1 => k_asm); (case k2 => k_asm); (case k3 => k_upd); (case k4 => with_reducible assumption); (case k5 => omega); k_whole; intro h' F' N' i'))
local macro_rules | `(tactic| walk_at "assign Tuple") => `(tactic| (k_here; (with_reducible show wpAny _ _ (assign (Expr.Tuple _ _ _) _ (Value.ref _)) _ _ _); k_dflt (refine' kun_list ?k1 ?k2 ?k3 ?k4 ?k5 ?k6 ?_; (case k1 => k_asm); (case k2 => k_asm); (case k3 => kun_lst); (case k4 => assumption); (case k5 => exact rfl); (case k6 => exact rfl); k_whole); intro h' F' N'; (try k_sweep)))
local macro_rules | `(tactic| walk_at "assign Tuple") => `(tactic| (k_here; (with_reducible show wpAny _ _ (assign (Expr.Tuple _ _ _) _ (Value.ref _)) _ _ _); k_dflt (refine' unpackN_ ?k1 ?k2 ?k3 ?k4 ?k5 ?k6 ?_; (case k1 => k_asm); (case k2 => k_asm); (case k3 => kun_tup); (case k4 => assumption); (case k5 => exact rfl); (case k6 => exact rfl); k_whole); intro h' F' N'; (try k_sweep)))
local macro_rules | `(tactic| walk_at "unpackItems ref") => `(tactic| (k_here; k_dflt (refine' unpackItemsN_ ?k1 ?k2 ?k3 ?k4 ?k5 ?_; (case k1 => k_asm); (case k2 => k_asm); (case k3 => kun_tup); (case k4 => assumption); (case k5 => exact rfl); k_whole); intro h' F' N'; (try k_sweep)))
local macro_rules | `(tactic| walk_at "call type:list") => `(tactic| (k_here; refine' list_range_N ?k0 ?k1 ?k2 ?k3 ?k4 ?k5 ?k6 ?_; (case k1 => k_asm); (case k2 => k_asm); (case k0 => assumption); (case k3 => assumption); (case k4 => omega); (case k5 => exact small_one (by omega) (by omega) (by omega) (by omega)); (case k6 => omega); intro D' h' tk' vs' k' F' N' l1 i1; (try k_lt l1)))
theorem lens_two {acc : Array Value} {n m : Nat} (h : ItemsOf (fun i v => ∃ t, v = .int (two n m i) t) acc 2) : IntsAre acc.toList [(n : Int), (m : Int)] := by
  have := ints_of (f := fun i => (two n m i : Int)) h
  simpa [List.range_succ_eq_map, two] using this
theorem max_of2 {n m : Nat} {M : Int} (h1 : M ∈ [(n : Int), (m : Int)]) (h2 : ∀ a, a ∈ [(n : Int), (m : Int)] → a ≤ M) : M = (max n m : Nat) := by
  have a := h2 n (by simp)
  have b := h2 m (by simp)
  simp at h1
  omega
theorem min_of2 {n m : Nat} {M : Int} (h1 : M ∈ [(n : Int), (m : Int)]) (h2 : ∀ a, a ∈ [(n : Int), (m : Int)] → M ≤ a) : M = (min n m : Nat) := by
  have a := h2 n (by simp)
  have b := h2 m (by simp)
  simp at h1
  omega
theorem len_call {x dx a b : Addr} {ns ms : List Int} {t0 t1 : Tok} (ha : TupAt g a ns) (hb : TupAt g b ms) (I : Inst g s.heap x 329 dx (base329At w t0 t1) 2) (O : On w p loose mean mg mb g s.heap) (H : Room A 5 90) :
    Pays prog w A (.call (.ref 326) ⟨[.ref x, .ref a, .ref b], []⟩) s (fun v _ => ∃ t, v = .int ((max ns.length ms.length : Nat) - (min ns.length ms.length : Nat)) t) := by
  w_top off
  intro R hR
  have lt := I.lt
  refine' enterRG [(x, instObj 329 dx), (dx, dictOf (base329At w t0 t1) 2)] (vs := [.ref a, .ref b]) (bindsR := fun D => [(Str.ofString "self", .ref x), (Str.ofString "sequences", .ref D)]) O ?hg ?hown ?ho ?hcd ?hroom ?hv ?hp ?hgr ?hl ?body ?hcell ?c1 ?c2 ?c3
  (case hg => exact own_none I)
  (case hown => exact own_at I)
  (case ho => k_is)
  (case hcd => k_is)
  (case hroom => have := Room.dp (by assumption); omega)
  (case hl => exact fun _ => locs rfl)
  (case hcell => decide)
  (case c1 => exact rfl)
  (case c2 => exact rfl)
  (case c3 => exact rfl)
  (case hv => exact rfl)
  (case hp => exact rfl)
  (case hgr => exact fun _ => rfl)
  intro D h₀ L h₁ gst X T back F N l1
  (try k_lt l1)
  (try k_fold)
  rename Top _ _ _ _ _ _ => T₀
  have hh := H.hh
  k_steps
  rename News _ _ _ _ => N
  rename Fr _ _ _ _ => F
  obtain ⟨xs, hxs, zx, sx, ex⟩ := ha.tup
  obtain ⟨ys, hys, zy, sy, ey⟩ := hb.tup
  have gk : g.StaysIn h₁ := fun b o e => F.keep b o (gst b o e)
  have hD : h₁.IsTuple D #[.ref a, .ref b] := ⟨_, (N _ (.head _)).1, rfl, _, rfl⟩
  have old : ∀ c zs, h₁.IsTuple c zs → c ≠ h₁.objs.size := fun c zs e => by obtain ⟨_, e, _⟩ := e; exact Nat.ne_of_lt (Heap.lt_size e)
  have hxs₁ : h₁.IsTuple a xs := hxs.at fun o e => gk _ o e
  have hys₁ : h₁.IsTuple b ys := hys.at fun o e => gk _ o e
  refine call_map_tup hD ?_
  intro h₂ hz hT hit hsz st
  dsimp only at hz hT hit hsz st ⊢
  have F2 := fr_stay F st
  have N2 := news_stay N st
  k_steps
  obtain ⟨fp, St, W, hst, hfp, hzf, hmap⟩ := map_walk_tup (prog := prog) (w := w) hz hT hit (hD.at fun o e => st _ o e) (hxs₁.at fun o e => st _ o e) (hys₁.at fun o e => st _ o e) sx sy (old _ _ hD) (old _ _ hxs₁) (old _ _ hys₁) (Nat.ne_of_gt (Nat.lt_succ_self _)) (Nat.ne_of_gt (Nat.lt_succ_of_lt (Nat.lt_succ_self _)))
  refine call_list_map (W _ hh) hmap hst hfp hzf ?_ (by decide)
  intro h₃ tk₃ acc c k hl hacc
  dsimp only at k hl ⊢
  have st3 : h₁.StaysIn h₃ := fun c o e => k c o (by simpa using Nat.ne_of_lt (Heap.lt_size e)) (st c o e)
  have F3 := fr_stay F st3
  have N3 : News h₀ L h₃ [(h₂.objs.size, listOf acc.toList.toArray c), (D, { cls := .type "tuple", data := .seq #[.ref a, .ref b] }), (x, instObj 329 dx), (dx, dictOf (base329At w t0 t1) 2)] :=
    List.forall_mem_cons.mpr ⟨⟨by simpa using hl, (Nat.ne_of_lt F2.ns.lt).symm, next_is_new F2⟩, news_stay N st3⟩
  have hi := lens_two hacc
  rw [zx, zy] at hi
  clear F N F2 N2 W
  k_steps
  rename News _ _ _ _ => N
  rename Fr _ _ _ _ => F
  refine max_list_N hh F N ⟨_, (N _ (.head _)).1, rfl, _, rfl⟩ hi (by simp) ?_
  intro h₄ M t₄ tk₄ F N m1 m2
  obtain rfl := max_of2 m1 m2
  dsimp only
  k_steps
  rename News _ _ _ _ => N
  rename Fr _ _ _ _ => F
  refine min_list_N hh F N ⟨_, (N _ (.head _)).1, rfl, _, rfl⟩ hi (by simp) ?_
  intro h₅ M t₅ tk₅ F N m1 m2
  obtain rfl := min_of2 m1 m2
  dsimp only
  k_steps
  rename News _ _ _ _ => N
  rename Fr _ _ _ _ => F
  (try dsimp only)
  refine hR _ _ _ (back.keep _ F.keep (List.forall_mem_cons.mpr ⟨(N _ (by k_mem)).1, List.forall_mem_cons.mpr ⟨(N _ (by k_mem)).1, fun _ h => nomatch h⟩⟩)) ⟨_, rfl⟩
theorem dist_base329 {x dx a b : Addr} {ns ms : List Int} {t0 t1 : Tok} (ha : TupAt g a ns) (hb : TupAt g b ms) (I : Inst g s.heap x 329 dx (base329At w t0 t1) 2) (O : On w p loose mean mg mb g s.heap) (H : Room A 7 120) :
    Pays prog w A (.call (.ref 122) ⟨[.ref x, .ref a, .ref b], []⟩) s (fun v _ => ∃ t, v = .int ((max ns.length ms.length : Nat) - (min ns.length ms.length : Nat)) t) := by
  w_top off
  intro R hR
  have lt := I.lt
  refine' enterRG [(x, instObj 329 dx), (dx, dictOf (base329At w t0 t1) 2)] (vs := [.ref a, .ref b]) (bindsR := fun D => [(Str.ofString "self", .ref x), (Str.ofString "sequences", .ref D)]) O ?hg ?hown ?ho ?hcd ?hroom ?hv ?hp ?hgr ?hl ?body ?hcell ?c1 ?c2 ?c3
  (case hg => exact own_none I)
  (case hown => exact own_at I)
  (case ho => k_is)
  (case hcd => k_is)
  (case hroom => have := Room.dp (by assumption); omega)
  (case hl => exact fun _ => locs rfl)
  (case hcell => decide)
  (case c1 => exact rfl)
  (case c2 => exact rfl)
  (case c3 => exact rfl)
  (case hv => exact rfl)
  (case hp => exact rfl)
  (case hgr => exact fun _ => rfl)
  intro D h₀ L h₁ gst X T back F N l1
  (try k_lt l1)
  (try k_fold)
  rename Top _ _ _ _ _ _ => T
  have ha₀ := ha.keeps gst
  have hb₀ := hb.keeps gst
  have hh := H.hh
  k_steps
  refine callWith_XS (ox := instObj 329 dx) rfl ?_
  k_steps
  · rename News _ _ _ _ => N
    exact (N (x, instObj 329 dx) (by k_mem)).1
  rename News _ _ _ _ => N
  rename Fr _ _ _ _ => F
  have J := inst_of N (by k_mem) (by k_mem) lt
  refine wpAny_call ?_
  refine' kco_code ?k1 ?k2 ?k3 ?k4 ?k5 ?k6 ?k7
  (case k1 => k_in)
  (case k2 => k_inst)
  (case k3 => rfl)
  (case k4 => k_is)
  (case k5 => k_is)
  (case k6 => k_is)
  refine len_call ha₀ hb₀ J (On.of X T F) (room_deep (H.less (by omega) (by omega))) _ ?_
  intro v h₃ tk₃ st3 hv
  obtain ⟨t, rfl⟩ := hv
  dsimp only at st3 ⊢
  have F3 := fr_stay F st3
  have N3 := news_stay N st3
  clear F N
  (try dsimp only)
  refine hR _ _ _ (back.keep _ F3.keep (List.forall_mem_cons.mpr ⟨(N3 _ (by k_mem)).1, List.forall_mem_cons.mpr ⟨(N3 _ (by k_mem)).1, fun _ h => nomatch h⟩⟩)) ⟨_, rfl⟩
end
end Mine
end
set_option maxHeartbeats 4000000
/- part Mr -/
section
namespace Mine
theorem ints_erase {vs : List Value} {ns : List Int} {k : Int} (h : IntsAre vs ns) (hk : k ∈ ns) :
    ∃ j, ∃ hj : j < vs.length, isInt k vs[j] = true ∧ (∀ i (hi : i < vs.length), i < j → isInt k vs[i] = false) ∧ IntsAre (vs.eraseIdx j) (ns.erase k) := by
  induction h with
  | nil => cases hk
  | cons n t r ih =>
    rename_i vs ns
    by_cases e : n = k
    · subst e
      refine ⟨0, by simp, by simp [isInt], fun i _ h => absurd h (Nat.not_lt_zero _), ?_⟩
      simpa using r
    · have hk' : k ∈ ns := by
        rcases List.mem_cons.mp hk with q | q
        · exact absurd q.symm e
        · exact q
      obtain ⟨j, hj, h1, h2, h3⟩ := ih hk'
      refine ⟨j + 1, by simpa using hj, by simpa using h1, fun i hi hlt => ?_, ?_⟩
      · cases i with
        | zero => simpa [isInt] using e
        | succ i => simpa using h2 i (by simpa using hi) (by omega)
      · have : (n :: ns).erase k = n :: ns.erase k := by
          rw [List.erase_cons]
          have : (n == k) = false := by simpa using e
          rw [this]; rfl
        rw [this]
        exact .cons n t h3
section
variable {prog : Program} {w : World} {A : Around} {E : Value → Shared → Prop} {s : Shared} {h₀ : Heap} {L : Addr} {m : Str → Option Value} {news : List (Addr × Obj)}
theorem remove_ints {D : Addr} {vs : List Value} {ns : List Int} {n : Nat} {k : Int} {t : Tok} {Q : Value → Shared → Prop} (keep : List (Addr × Obj)) (F : Fr h₀ L s.heap m) (N : News h₀ L s.heap news) (hm : (D, listOf vs.toArray n) ∈ news)
    (hi : IntsAre vs ns) (hk : k ∈ ns) (hz : ns.length ≤ 1000) (hkeep : ∀ q ∈ keep, q ∈ news ∧ q.1 ≠ D)
    (h : ∀ h' vs' n', Fr h₀ L h' m → News h₀ L h' ((D, listOf vs'.toArray n') :: keep) → IntsAre vs' (ns.erase k) → Q .none { s with heap := h' }) :
    wpAny (model prog w) A (call (.builtin "list.remove") [.ref D, .int k t]) Q E s := by
  have z := N _ hm
  obtain ⟨j, hj, h1, h2, h3⟩ := ints_erase hi hk
  have hl : vs.length = ns.length := hi.length
  have hz' : vs.toArray.size ≤ sizeLine := by rw [sizeLine_eq]; simp; omega
  have N' : News h₀ L s.heap ([] ++ (D, listOf vs.toArray n) :: keep) := fun q hq => by
    rcases List.mem_cons.mp hq with rfl | hq
    · exact N _ hm
    · exact N _ (hkeep q hq).1
  refine call_meets PySem.F.slot_list_remove ⟨_, z.1, rfl⟩ PySem.F.entry_list_remove (PySem.F.args_list_remove_2 _ _)
    (MeetsSeq.list_remove D vs.toArray n (.int k t) (isInt k) (fun y hy => eq_isInt k t hi y (by simpa using hy)) j (by simpa using hj) (by simpa using h1) (fun i hi hlt => by simpa using h2 i (by simpa using hi) hlt) hz')
    ⟨z.1, h _ (vs.eraseIdx j) (n + 1) (F.change (Heap.SameBut.update ..) z.2.1 z.2.2) (ki_turn _ N' (fun _ h => nomatch h) (fun q hq => (hkeep q hq).2) ?_ ?_) h3⟩
  · apply Array.toList_inj.mp
    simp [Array.toList_eraseIdxIfInBounds]
  · have : (vs.eraseIdx j).length = vs.length - 1 := List.length_eraseIdx_of_lt hj
    have hne : ¬ (vs.eraseIdx j).length = vs.length := by omega
    simp [hne]
end
section
variable {prog : Program} {w : World} {A : Around} {E : Value → Shared → Prop} {s : Shared} {env : Env} {h₀ : Heap} {x : Str} {body : List Stmt} {Q : Flow → Shared → Prop}
/-- for x in a tuple of ints -/
theorem loop_tup {σ : Type} {l : Addr} {ns : List Int} (ps : σ → List (Str × Option Value)) (Led : σ → List (Addr × Obj)) (Inv : Nat → σ → Prop) (c₀ : σ)
    (hh : A.handled = none) (ha : TupAt h₀ l ns) (F : Fr h₀ env.locals s.heap (envM (ps c₀))) (N : News h₀ env.locals s.heap (Led c₀)) (h0 : Inv 0 c₀)
    (turn : ∀ I i t c h tk ob, i < ns.length → Inv i c → (∀ p ∈ Led c, p.1 ≠ I) → Fr h₀ env.locals h (envM (setP x (.int (ns.getD i 0) t) (ps c))) → News h₀ env.locals h ((I, ob) :: Led c) →
      wpAny (model prog w) A (execs body env) (TurnEnd h₀ env.locals I ob ps Led (Inv (i + 1)) { s with heap := h, toks := tk } Q) E { s with heap := h, toks := tk })
    (done : ∀ c h tk, Inv ns.length c → Fr h₀ env.locals h (envM (ps c)) → News h₀ env.locals h (Led c) → Q .next { s with heap := h, toks := tk }) :
    wpAny (model prog w) A (pyIter (.ref l)) (fun it s₂ => LoopAtV prog w A h₀ env x body Q E it s₂) E s := by
  obtain ⟨vs, ht, hi, hz⟩ := ha
  have hlen : vs.length = ns.length := hi.length
  have hts : IsTup s.heap l vs.toArray := ht.keeps F.keep
  obtain ⟨ol, hol, _⟩ := id ht
  have hlt : l < h₀.objs.size := Heap.lt_size hol
  have hLs : env.locals < s.heap.objs.size := F.ns.lt
  have hab : h₀.objs.size ≤ env.locals := F.above
  have l1 : l ≠ s.heap.objs.size := Nat.ne_of_lt (Nat.lt_trans (Nat.lt_of_lt_of_le hlt hab) hLs)
  have hLI : env.locals ≠ s.heap.objs.size := Nat.ne_of_lt hLs
  have hLl : env.locals ≠ l := Nat.ne_of_gt (Nat.lt_of_lt_of_le hlt hab)
  have hsize : vs.toArray.size = ns.length := by simp [hlen]
  refine wpAny_pyIter_tuple hts ?_
  have W := Walks.tuple (prog := prog) (w := w) (A := A) hh s.heap.objs.size l l1 vs.toArray
  rw [hsize] at W
  refine loop_st (σ := σ) W (next_is_new F) hLI (fun hm => ?_) (fun b hb => ?_) (fun i h st => ?_) ps Led Inv c₀
    ⟨⟨_, Heap.get?_push_size _ rfl, rfl, rfl⟩, Heap.IsTuple.at hts fun o e => Heap.get?_push_of_some _ e⟩ (fun p hp e => ?_) (F.push _) (fun p hp => ⟨Heap.get?_push_of_some _ (N p hp).1, (N p hp).2⟩) h0 ?_ (fun c h tk => done c h tk)
  · rcases List.mem_cons.mp hm with e | e
    · exact hLI e
    · exact hLl (List.mem_singleton.mp e)
  · rcases List.mem_cons.mp hb with e | e
    · exact .inl e
    · exact .inr ⟨ol, (List.mem_singleton.mp e) ▸ hol⟩
  · obtain ⟨⟨o, e, _⟩, _⟩ := st
    exact ⟨o, e⟩
  · exact absurd (Heap.lt_size (N p hp).1) (e ▸ Nat.lt_irrefl _)
  · rintro i v c h tk ob hi' hP hinv ne F' N'
    obtain ⟨u, hu⟩ := hi.get i ns[i] (by simp [hi'])
    have hv : v = .int ns[i] u := by
      have hP : vs[i]? = some v := by simpa using hP
      rw [hu] at hP; exact (Option.some.inj hP).symm
    subst hv
    have e1 : ns.getD i 0 = ns[i] := by simp [hi']
    exact turn _ i u c h tk ob hi' hinv ne (by rw [e1]; exact F') N'
end
end Mine
end
set_option maxHeartbeats 4000000
/- part Lm -/
section
namespace Mine
/-- one turn of the law's count of more letters -/
def moreStep (st : List Int × Int) (x : Int) : List Int × Int := if x ∈ st.1 then (st.1.erase x, st.2) else (st.1, st.2 + 1)
def moreN (ns ms : List Int) (i : Nat) : List Int × Int := (ns.take i).foldl moreStep (ms, 0)
theorem more_zero {ns ms : List Int} : moreN ns ms 0 = (ms, 0) := by simp [moreN]
theorem more_succ {ns ms : List Int} {i : Nat} (h : i < ns.length) : moreN ns ms (i + 1) = moreStep (moreN ns ms i) (ns.getD i 0) := by
  unfold moreN
  rw [List.take_add_one, List.foldl_append]
  simp [h]
theorem more_len {ns ms : List Int} {i : Nat} : (moreN ns ms i).1.length ≤ ms.length := by
  unfold moreN
  generalize ns.take i = l
  suffices h : ∀ st : List Int × Int, (l.foldl moreStep st).1.length ≤ st.1.length from h (ms, 0)
  induction l with
  | nil => intro st; exact Nat.le_refl _
  | cons x r ih =>
    intro st
    refine Nat.le_trans (ih _) ?_
    unfold moreStep
    split
    · rename_i hx
      simp only [List.length_erase_of_mem hx]; omega
    · exact Nat.le_refl _
end Mine
end
set_option maxHeartbeats 4000000
/- part Mc12 -/
section
namespace Mine
theorem fillMc12 : (PySem.Challenge.rw_br0041_01 = PySem.Challenge.rw_br0041_01 ∧ hd.heap_39 = hd.heap_39) := by
  k_fill
  exact ⟨rfl, rfl⟩
section
variable {prog : Program} {w : World} {A : Around} {s : Shared} {p : Program} {loose : List Str} {mean : ExcName → Option Value} {mg mb : Str → Option Value} {g : Heap}
local macro_rules | `(tactic| walk_at "pyIter ref") => `(tactic| (k_here; refine stop_it ?_))
local macro_rules | `(tactic| walk_at "call ref") => `(tactic| (k_here; refine stop_it ?_))
local macro_rules | `(tactic| walk_at "setItem ref ref") => `(tactic| (k_here; refine stop_it ?_))
local macro_rules | `(tactic| walk_at "exec For Tuple") => `(tactic| (k_here; refine stop_it ?_))
local macro_rules | `(tactic| walk_at "getMethod ref") => `(tactic| (k_here; k_dflt (first
  | (refine' kmu_own ?k1 ?k2 ?k3 ?k4 ?k5 ?_; (case k1 => k_asm); (case k2 => k_asm); (case k3 => k_inst); (case k4 => k_is); (case k5 => k_is); k_whole)
  | (refine' method_inst ?k1 ?k2 ?k3 ?k4 ?k5 ?k6 ?k7 ?_; (case k1 => k_asm); (case k2 => k_asm); (case k3 => k_inst); (case k4 => k_is); (case k5 => k_is); (case k6 => k_is); (case k7 => k_get); k_whole))))
local macro_rules | `(tactic| walk_at "last getAttr ref") => `(tactic| (k_here; k_dflt (refine' attr_sm ?k1 ?k2 ?k4 ?k5 ?k6 ?k7 ?k9 ?k10 ?k11 ?k12 ?k13 ?k14 ?_; (case k1 => k_asm); (case k2 => k_asm); (case k4 => k_inst); (case k5 => k_is); (case k6 => k_is); (case k7 => k_is); (case k9 => k_is); (case k10 => k_is); (case k11 => decide +kernel); (case k12 => k_get); (case k13 => k_is); (case k14 => k_handed); k_whole)))
local macro_rules | `(tactic| walk_at "last eval Call Attribute") => `(tactic| (k_here; refine methodCall_S ?_))
local macro_rules | `(tactic| walk_at "eval Call Attribute") => `(tactic| (k_here; (with_reducible show wpAny _ _ (eval (Expr.Call (Expr.Attribute _ _ _) [Expr.Starred _ _] [] _) _) _ _ _); refine methodCall_S ?_))
local macro_rules | `(tactic| walk_at "call builtin:len") => `(tactic| (k_here; refine' len_TupAt ?k1 ?k2 ?_; (case k1 => k_asm); (case k2 => k_asm); intro _ _; k_whole))
local macro_rules | `(tactic| walk_at "getItem ref int") => `(tactic| (k_here; refine' getItem_TupAt ?k1 ?k2 ?k3 ?_; (case k1 => k_asm); (case k2 => k_asm); (case k3 => omega); intro _; k_whole))
local macro_rules | `(tactic| walk_at "subscriptTail") => `(tactic| (k_here; first
  | (refine' item_TupAt ?k1 ?k2 ?k3 ?_; (case k1 => k_asm); (case k2 => k_asm); (case k3 => omega); intro _; k_whole)
  | (refine' item_fn ?k1 ?k2 ?k3 ?k4 ?_; (case k1 => k_asm); (case k2 => k_mem); (case k3 => with_reducible assumption); (case k4 => omega); intro _; k_whole)))
local macro_rules | `(tactic| walk_at "call builtin:min") => `(tactic| (k_here; (with_reducible show wpAny _ _ (call (Value.builtin "min") [Value.int _ _, Value.int _ _]) _ _ _); (rename Around.handled _ = none => hX); refine' min2N hX ?k2 ?k3 ?_; (case k2 => k_asm); (case k3 => k_asm); k_whole; intro h' tk' t' F' N'))
local macro_rules | `(tactic| walk_at "call builtin:min") => `(tactic| (k_here; (with_reducible show wpAny _ _ (call (Value.builtin "min") [Value.int _ _, Value.int _ _, Value.int _ _]) _ _ _); (rename Around.handled _ = none => hX); refine' min3N hX ?k2 ?k3 ?_; (case k2 => k_asm); (case k3 => k_asm); k_whole; intro h' tk' t' F' N'))
local macro_rules | `(tactic| walk_at "call builtin:min") => `(tactic| (k_here; (with_reducible show wpAny _ _ (call (Value.builtin "min") [Value.int _ _, Value.int _ _, Value.int _ _, Value.int _ _]) _ _ _); (rename Around.handled _ = none => hX); refine' min4N hX ?k2 ?k3 ?_; (case k2 => k_asm); (case k3 => k_asm); k_whole; intro h' tk' t' F' N'))
local macro_rules | `(tactic| walk_at "setItem ref int int") => `(tactic| (k_here; refine' setItem_fn ?k1 ?k2 ?k3 ?k4 ?k5 ?_; (case k1 => k_asm); (case k2 => k_asm); (case k3 => k_upd); (case k4 => with_reducible assumption); (case k5 => omega); k_whole; intro h' F' N' i'))
local macro_rules | `(tactic| walk_at "assign Tuple") => `(tactic| (k_here; (with_reducible show wpAny _ _ (assign (Expr.Tuple _ _ _) _ (Value.ref _)) _ _ _); k_dflt (refine' kun_list ?k1 ?k2 ?k3 ?k4 ?k5 ?k6 ?_; (case k1 => k_asm); (case k2 => k_asm); (case k3 => kun_lst); (case k4 => assumption); (case k5 => exact rfl); (case k6 => exact rfl); k_whole); intro h' F' N'; (try k_sweep)))
local macro_rules | `(tactic| walk_at "assign Tuple") => `(tactic| (k_here; (with_reducible show wpAny _ _ (assign (Expr.Tuple _ _ _) _ (Value.ref _)) _ _ _); k_dflt (refine' unpackN_ ?k1 ?k2 ?k3 ?k4 ?k5 ?k6 ?_; (case k1 => k_asm); (case k2 => k_asm); (case k3 => kun_tup); (case k4 => assumption); (case k5 => exact rfl); (case k6 => exact rfl); k_whole); intro h' F' N'; (try k_sweep)))
local macro_rules | `(tactic| walk_at "unpackItems ref") => `(tactic| (k_here; k_dflt (refine' unpackItemsN_ ?k1 ?k2 ?k3 ?k4 ?k5 ?_; (case k1 => k_asm); (case k2 => k_asm); (case k3 => kun_tup); (case k4 => assumption); (case k5 => exact rfl); k_whole); intro h' F' N'; (try k_sweep)))
local macro_rules | `(tactic| walk_at "call type:list") => `(tactic| (k_here; refine' list_range_N ?k0 ?k1 ?k2 ?k3 ?k4 ?k5 ?k6 ?_; (case k1 => k_asm); (case k2 => k_asm); (case k0 => assumption); (case k3 => assumption); (case k4 => omega); (case k5 => exact small_one (by omega) (by omega) (by omega) (by omega)); (case k6 => omega); intro D' h' tk' vs' k' F' N' l1 i1; (try k_lt l1)))
theorem in_ints_N {h₀ : Heap} {L D : Addr} {news : List (Addr × Obj)} {vs : List Value} {ns : List Int} {n : Nat} {k : Int} {t : Tok} {E Q : Value → Shared → Prop} (N : News h₀ L s.heap news) (hm : (D, listOf vs.toArray n) ∈ news) (hi : IntsAre vs ns)
    (h : Q (.bool (decide (k ∈ ns))) s) : wpAny (model prog w) A (compareOp .In (.int k t) (.ref D)) Q E s := by
  refine in_list_ints ⟨_, (N _ hm).1, rfl, _, rfl⟩ hi ?_
  have : ns.any (· == k) = decide (k ∈ ns) := by
    rw [Bool.eq_iff_iff, List.any_eq_true, decide_eq_true_iff]
    exact ⟨fun ⟨x, h1, h2⟩ => (by simpa using h2 : x = k) ▸ h1, fun h => ⟨k, h, by simp⟩⟩
  rw [this]; exact h
local macro_rules | `(tactic| walk_at "compareOp In int ref") => `(tactic| (k_here; k_dflt (refine' in_ints_N ?k1 ?k2 ?k3 ?_; (case k1 => k_asm); (case k2 => k_mem); (case k3 => assumption))))
local macro_rules | `(tactic| walk_at "call builtin:list.remove") => `(tactic| (k_here; refine stop_it ?_))
local macro_rules | `(tactic| walk_at "call type:list") => `(tactic| (k_here; refine stop_it ?_))
structure LmS where
  vs : List Value
  n : Nat
  k : Int
  t : Tok
  o : Option Value
theorem law_more {a b : Addr} {ns ms : List Int} (ha : TupAt g a ns) (hb : TupAt g b ms) (O : On w p loose mean mg mb g s.heap) (H : Room A 2 40) :
    Pays prog w A (.call (.ref 357) ⟨[.ref a, .ref b], []⟩) s (fun v _ => ∃ t, v = .int (moreN ns ms ns.length).2 t) := by
  w_top off
  intro R hR
  refine' enterG [] (binds := [(Str.ofString "one", .ref a), (Str.ofString "two", .ref b)]) O ?hg ?hown ?ho ?hcd ?hroom ?hb ?hl ?body ?hcell ?c1 ?c2 ?c3
  (case hg => exact fun _ h => nomatch h)
  (case hown => exact fun _ h => nomatch h)
  (case ho => k_is)
  (case hcd => k_is)
  (case hroom => have := Room.dp (by assumption); omega)
  (case hl => exact locs rfl)
  (case hcell => decide)
  (case c1 => exact rfl)
  (case c2 => exact rfl)
  (case c3 => exact rfl)
  (case hb => first | exact BindsTo.of_eq rfl | exact kp_binds (O.k.keeps O.st) (fun _ => rfl))
  intro h₀ L h₁ gst X T back F N
  (try k_fold)
  rename Top _ _ _ _ _ _ => T₀
  have ha₀ := ha.keeps gst
  have zb : ms.length ≤ 64 := hb.choose_spec.2.2
  have hh := H.hh
  have hb₀ := hb.keeps gst
  k_steps
  rename News _ _ _ _ => N
  rename Fr _ _ _ _ => F
  obtain ⟨vs, hvs, hi, -⟩ := id hb₀
  have hl : vs.length = ms.length := hi.length
  have hi' : True ∧ IntsAre vs ms := ⟨trivial, hi⟩
  refine list_copyKT F N (hvs.keeps F.keep) ?_ (by rw [sizeLine_eq]; simp; omega)
  clear F N
  intro D c h₂ F N lt
  dsimp only
  k_steps
  rename News _ _ _ _ => N
  rename Fr _ _ _ _ => F
  (try dsimp only at F)
  refine' fr_then F ?e ?_
  (case e => repeat' (first | exact envM_of_lookup _ | exact envM_nil | exact rfl | apply env_set))
  clear F
  intro F
  have F := fr_more [Str.ofString "letter"] F
  refine' loop_tup (σ := LmS) (ns := ns)
    (ps := fun c => [(Str.ofString "two", some (.ref b)), (Str.ofString "one", some (.ref a)), (Str.ofString "left", some (.ref D)), (Str.ofString "more", some (.int c.k c.t)), (Str.ofString "letter", c.o)])
    (Led := fun c => [(D, listOf c.vs.toArray c.n)])
    (Inv := fun i c => IntsAre c.vs (moreN ns ms i).1 ∧ c.k = (moreN ns ms i).2)
    (c₀ := LmS.mk vs c 0 _ none) hh ha₀ F N ⟨by rw [more_zero]; exact hi'.2, by rw [more_zero]⟩ ?turn ?done
  (case turn =>
    clear F N hi' lt
    intro I₁ i t c h tk ob hlt hinv hne F N
    obtain ⟨vs, n, k, tk', o⟩ := c
    dsimp only at F N hinv hne ⊢
    obtain ⟨hi, rfl⟩ := hinv
    have p1 : @Ne Nat D I₁ := hne (D, listOf vs.toArray n) (by simp)
    have zz := @more_len ns ms i
    have hi'' : True ∧ IntsAre vs (moreN ns ms i).1 := ⟨trivial, hi⟩
    k_steps
    · rename _ ∈ _ => z
      rename News _ _ _ _ => N
      rename Fr _ _ _ _ => F
      refine remove_ints [(I₁, ob)] F N (by k_mem) hi z (by omega) (List.forall_mem_cons.mpr ⟨⟨by k_mem, Ne.symm p1⟩, fun _ h => nomatch h⟩) ?_
      clear F N
      intro h₃ vs' n' F N hi'
      k_steps
      exact TurnEnd.mk (.inl rfl) (LmS.mk vs' n' _ _ _) ⟨by rw [more_succ hlt, moreStep, if_pos z]; exact hi', by rw [more_succ hlt, moreStep, if_pos z]⟩ F
        (news_sub N _ (by intro q hq; simp only [List.mem_cons] at hq ⊢; rcases hq with h | h | h <;> simp_all)) (List.forall_mem_cons.mpr ⟨p1, fun _ h => nomatch h⟩)
    · rename ¬ _ => z
      rename News _ _ _ _ => N
      rename Fr _ _ _ _ => F
      (try dsimp only at F)
      refine' fr_then F ?e ?_
      (case e => repeat' (first | exact envM_of_lookup _ | exact envM_nil | exact rfl | apply env_set))
      clear F
      intro F
      exact TurnEnd.mk (.inl rfl) (LmS.mk vs n _ _ _) ⟨by rw [more_succ hlt, moreStep, if_neg z]; exact hi''.2, by rw [more_succ hlt, moreStep, if_neg z]⟩ F N (List.forall_mem_cons.mpr ⟨p1, fun _ h => nomatch h⟩))
  (case done =>
    clear F N hi' lt
    intro c h tk hinv F N
    obtain ⟨vs, n, k, tk', o⟩ := c
    dsimp only at F N hinv ⊢
    obtain ⟨hi, rfl⟩ := hinv
    k_steps
    rename News _ _ _ _ => N
    rename Fr _ _ _ _ => F
    (try dsimp only)
    refine hR _ _ _ (back.keep _ F.keep fun _ h => nomatch h) ⟨_, rfl⟩)
end
end Mine
end
set_option maxHeartbeats 4000000
/- part Mg -/
section
namespace Mine
/-- an iterator whose items the heap describes -/
structure WalksH (prog : Program) (w : World) (A : Around) (I : Addr) (fp wr : List Addr) (n : Nat) (P : Nat → Value → Heap → Prop) (St : Nat → Heap → Prop) : Prop where
  sub : ∀ b ∈ wr, b ∈ fp
  frame : ∀ i h h', St i h → (∀ b ∈ fp, ∀ o, h.get? b = some o → h'.get? b = some o) → St i h'
  item : ∀ i (s : Shared) (Q : Option Value → Shared → Prop) (E : Value → Shared → Prop), i < n → St i s.heap →
    (∀ v h' tk, P i v h' → St (i + 1) h' → (∀ b o, b ∉ wr → s.heap.get? b = some o → h'.get? b = some o) → Q (some v) { s with heap := h', toks := tk }) → wpAny (model prog w) A (pyNext (.ref I)) Q E s
  done : ∀ (s : Shared) (Q : Option Value → Shared → Prop) (E : Value → Shared → Prop), St n s.heap →
    (∀ h' tk, (∀ b o, b ∉ wr → s.heap.get? b = some o → h'.get? b = some o) → Q none { s with heap := h', toks := tk }) → wpAny (model prog w) A (pyNext (.ref I)) Q E s
  self : ∀ i (s : Shared) (Q : Value → Shared → Prop) (E : Value → Shared → Prop), St i s.heap → Q (.ref I) s → wpAny (model prog w) A (pyIter (.ref I)) Q E s
  keepP : ∀ i v h h' C m, P i v h → h.Ns C m → (∀ b o, b ≠ C → h.get? b = some o → h'.get? b = some o) → P i v h'
theorem WalksH.of {prog : Program} {w : World} {A : Around} {I : Addr} {fp wr : List Addr} {n : Nat} {P : Nat → Value → Prop} {St : Nat → Heap → Prop} (W : Walks prog w A I fp wr n P St) : WalksH prog w A I fp wr n (fun i v _ => P i v) St :=
  ⟨W.sub, W.frame, fun i s Q E h st k => W.item i s Q E h st k, W.done, W.self, fun _ _ _ _ _ _ p _ _ => p⟩
theorem WalksH.mono_fp {prog : Program} {w : World} {A : Around} {I : Addr} {fp fp' wr : List Addr} {n : Nat} {P : Nat → Value → Heap → Prop} {St : Nat → Heap → Prop} (W : WalksH prog w A I fp wr n P St) (h : ∀ b ∈ fp, b ∈ fp') : WalksH prog w A I fp' wr n P St :=
  ⟨fun b hb => h b (W.sub b hb), fun i a b st k => W.frame i a b st fun c hc => k c (h c hc), W.item, W.done, W.self, W.keepP⟩

abbrev allPass : Nat → Bool := fun _ => true
theorem pass_len (n i : Nat) : (passing allPass n i).length = n - i := by
  unfold passing
  rw [List.filter_eq_self.mpr fun _ _ => rfl]
  simp
theorem pass_get {n j i : Nat} (h : (passing allPass n 0)[j]? = some i) : i = j ∧ j < n := by
  have e : passing allPass n 0 = List.range n := by
    unfold passing; rw [List.drop_zero]; exact List.filter_eq_self.mpr fun _ _ => rfl
  rw [e] at h
  obtain ⟨h1, h2⟩ := List.getElem?_eq_some_iff.mp h
  rw [List.getElem_range] at h2
  exact ⟨h2.symm, by simpa using h1⟩

section
variable {prog : Program} {w : World} {A : Around}
def QuietH (prog : Program) (w : World) (cenv : Env) (x : Str) (elt : Expr) (fp wr : List Addr) (P : Nat → Value → Heap → Prop) (F : Nat → Value → Prop) (href : Heap) (D U : Nat) : Prop :=
  ∀ (A' : Around) E' i v (s₂ : Shared) m₂, A'.handled = none → A'.depth ≤ D → A'.units ≤ U → P i v s₂.heap → s₂.heap.Ns cenv.locals m₂ → m₂ x = some v → (∀ b ∈ fp, b ∉ wr → ∀ o, href.get? b = some o → s₂.heap.get? b = some o) →
    wpAny (model prog w) A' (eval elt cenv) (fun y s₃ => F i y ∧ Keeps s₂ s₃) E' s₂

theorem seg_loopH {elt iter : Expr} {x : Str} {px : Pos} {scope : Scope} {pos : Pos} {I : Addr} {fp wr : List Addr} {n₀ : Nat} {P : Nat → Value → Heap → Prop} {St₀ : Nat → Heap → Prop} {cenv : Env}
    (hh : A.handled = none) (W₀ : ∀ A' : Around, A'.handled = none → WalksH prog w A' I fp wr n₀ P St₀) (F : Nat → Value → Prop) (href : Heap)
    (hx : cenv.kindOf x = some .local) (hp : (cenv.scope.kind == .class || (cenv.scope.kind == .module && cenv.locals != cenv.globals)) = false)
    (hco : cenv.scope.isCoroutine = false) (hCf : cenv.locals ∉ fp) (hq : QuietH prog w cenv x elt fp wr P F href (A.depth + 1) (A.units + 3)) :
    ∀ (k i : Nat) (s₀ s : Shared) (m : Str → Option Value), n₀ - i = k → i ≤ n₀ → St₀ i s.heap → s.heap.Ns cenv.locals m → GenSince cenv.locals wr s₀ s →
      (∀ b ∈ fp, b ∉ wr → ∀ o, href.get? b = some o → s.heap.get? b = some o) →
      Seg (model prog w) A (fun n s₀ r s₁ => r = .ok .next ∧ (n = 0 ∧ GenSince cenv.locals wr s₀ s₁)) (genProto cenv.locals fp wr allPass n₀ F) (passing allPass n₀ i).length s₀
        (.compLoop (.GeneratorExp elt [⟨.Name x px, iter, [], 0⟩] scope pos) 0 (.ref I) .none cenv)
        ((model prog w).den (.compLoop (.GeneratorExp elt [⟨.Name x px, iter, [], 0⟩] scope pos) 0 (.ref I) .none cenv)) [] s := by
  have hh' : (A.over (.compLoop (.GeneratorExp elt [⟨.Name x px, iter, [], 0⟩] scope pos) 0 (.ref I) .none cenv) []).handled = none := hh
  have hCw : cenv.locals ∉ wr := fun h => hCf ((W₀ A hh).sub _ h)
  intro k
  induction k with
  | zero =>
    intro i s₀ s m hk hi hst hn hsince hkp
    have hin : i = n₀ := by omega
    subst hin
    show Seg _ A _ _ _ s₀ _ ((compTurn (.GeneratorExp elt [⟨.Name x px, iter, [], 0⟩] scope pos) 0 (.ref I) .none cenv).onRaise (leaving cenv)) [] s
    rw [compTurn_gen, Sem.onRaise_eq_wrap]
    refine seg_bind_wrap (wpAny_standAt ?_)
    refine seg_bind_wrap ((W₀ _ hh').done s _ _ hst fun h' tk hk' => ?_)
    exact seg_end (.ok .next) ⟨rfl, by rw [passing_end]; rfl, hsince.step fun b o _ hw e => hk' b o hw e⟩
  | succ k ih =>
    intro i s₀ s m hk hi hst hn hsince hkp
    have hlt : i < n₀ := by omega
    show Seg _ A _ _ _ s₀ _ ((compTurn (.GeneratorExp elt [⟨.Name x px, iter, [], 0⟩] scope pos) 0 (.ref I) .none cenv).onRaise (leaving cenv)) [] s
    rw [compTurn_gen, Sem.onRaise_eq_wrap]
    refine seg_bind_wrap (wpAny_standAt ?_)
    refine seg_bind_wrap ((W₀ _ hh').item i s _ _ hlt hst fun v h₁ tk₁ hPv hst₁ hk₁ => ?_)
    refine seg_bind_wrap (wpAny_of_eq (rfl : letOwnedTupleGo (.Name x px) (.ref I) v = pure ()) ?_)
    have hn₁ : h₁.Ns cenv.locals m := hn.at' fun o e => hk₁ _ o hCw e
    refine seg_bind_wrap (wpAny_assign_Name (wpAny_storeName_local hx hn₁ (fun h₂ hn₂ hs₂ => ?_) hp))
    have up₂ : ∀ b o, b ≠ cenv.locals → b ∉ wr → s.heap.get? b = some o → h₂.get? b = some o := fun b o hbC hbw e => hs₂.extBut b o hbC (hk₁ b o hbw e)
    have hst₂ : St₀ (i + 1) h₂ := (W₀ A hh).frame _ _ _ hst₁ fun b hb o e => hs₂.extBut b o (fun h => hCf (h ▸ hb)) e
    have hkp₂ : ∀ b ∈ fp, b ∉ wr → ∀ o, href.get? b = some o → h₂.get? b = some o := fun b hb hbw o e => up₂ b o (fun h => hCf (h ▸ hb)) hbw (hkp b hb hbw o e)
    have hPv₂ : P i v h₂ := (W₀ A hh).keepP _ _ _ _ _ _ hPv hn₁ fun b o hb e => hs₂.extBut b o hb e
    refine seg_bind_wrap (wpAny_pure ?_)
    have hsince₂ : GenSince cenv.locals wr s₀ { s with heap := h₂, toks := tk₁ + 1 } := hsince.step up₂
    rw [passing_true hlt rfl, List.length_cons]
    simp only [if_true]
    have hy : ∀ v, yieldOut cenv v = yieldValue v := fun v => by simp only [yieldOut, hco, Bool.false_eq_true, if_false]
    simp only [hy]
    rw [Sem.bind_eq_wrap', Sem.bind_eq_wrap', Sem.wrap_wrap, Sem.wrap_wrap]
    refine seg_wrap (wpAny_mono (hq _ _ i v _ _ hh' (Nat.le_of_eq rfl) (Nat.le_of_eq rfl) hPv₂ hn₂ (by simp) hkp₂) (fun y s₄ h₄ => ?_) fun _ _ e => e)
    obtain ⟨hFy, h₄, tk₄, rfl, hk₄⟩ := h₄
    refine seg_at (seg_yield rfl rfl rfl ⟨⟨i, passing_here hlt rfl, hFy⟩, hsince₂.step fun b o _ _ e => hk₄ b o e, fun s'' hal => ?_⟩)
    refine seg_again rfl (ih (i + 1) s'' s'' _ (by omega) hlt ((W₀ A hh).frame _ _ _ hst₂ fun b hb o e => hal b (List.mem_cons_of_mem _ hb) o (hk₄ b o e))
      ((hn₂.keeps hk₄).at' fun o e => hal _ (List.mem_cons_self ..) o e) (GenSince.refl _ _ _) fun b hb hbw o e => hal b (List.mem_cons_of_mem _ hb) o (hk₄ b o (hkp₂ b hb hbw o e)))

theorem seg_startH {elt iter : Expr} {x : Str} {px : Pos} {scope : Scope} {pos : Pos} {I : Addr} {fp wr : List Addr} {n₀ : Nat} {P : Nat → Value → Heap → Prop} {St₀ : Nat → Heap → Prop} {cenv : Env}
    (hh : A.handled = none) (W₀ : ∀ A' : Around, A'.handled = none → WalksH prog w A' I fp wr n₀ P St₀) (F : Nat → Value → Prop) (href : Heap)
    (hx : cenv.kindOf x = some .local) (hp : (cenv.scope.kind == .class || (cenv.scope.kind == .module && cenv.locals != cenv.globals)) = false)
    (hco : cenv.scope.isCoroutine = false) (hCf : cenv.locals ∉ fp) (hq : QuietH prog w cenv x elt fp wr P F href (A.depth + 1) (A.units + 3))
    (s₀ s : Shared) (m : Str → Option Value) (hst : St₀ 0 s.heap) (hn : s.heap.Ns cenv.locals m) (hsince : GenSince cenv.locals wr s₀ s)
    (hkp : ∀ b ∈ fp, b ∉ wr → ∀ o, href.get? b = some o → s.heap.get? b = some o) :
    Seg (model prog w) A (fun n s₀ r s₁ => r = .ok .next ∧ (n = 0 ∧ GenSince cenv.locals wr s₀ s₁)) (genProto cenv.locals fp wr allPass n₀ F) (passing allPass n₀ 0).length s₀
      (.compStart (.GeneratorExp elt [⟨.Name x px, iter, [], 0⟩] scope pos) 0 (.ref I) .none cenv)
      ((model prog w).den (.compStart (.GeneratorExp elt [⟨.Name x px, iter, [], 0⟩] scope pos) 0 (.ref I) .none cenv)) [] s := by
  have hh' : (A.over (.compStart (.GeneratorExp elt [⟨.Name x px, iter, [], 0⟩] scope pos) 0 (.ref I) .none cenv) []).handled = none := hh
  have loop := seg_loopH (iter := iter) (px := px) (scope := scope) (pos := pos) hh W₀ F href hx hp hco hCf hq n₀ 0 s₀ s m (Nat.sub_zero _) (Nat.zero_le _) hst hn hsince hkp
  show Seg _ A _ _ _ s₀ _ ((compStart (.GeneratorExp elt [⟨.Name x px, iter, [], 0⟩] scope pos) 0 (.ref I) .none cenv).onRaise (leaving cenv)) [] s
  unfold compStart
  rw [Sem.onRaise_eq_wrap]
  show Seg _ A _ _ _ s₀ _ ((ask >>= _).wrap _ _ _ _) [] s
  refine seg_bind_wrap (wpAny_askSetting ?_)
  split
  · exact seg_again rfl loop
  · first
      | exact seg_bind_wrap (wpAny_rule (seg_bind_wrap (wpAny_standAt (seg_bind_wrap ((W₀ _ hh').self 0 s _ _ hst (seg_again rfl loop))))))
      | (refine seg_bind_wrap (wpAny_rule ?_); show Seg _ A _ _ _ s₀ _ ((standAt iter.pos >>= _).wrap _ _ _ _) [] s; exact seg_bind_wrap (wpAny_standAt (seg_bind_wrap ((W₀ _ hh').self 0 s _ _ hst (seg_again rfl loop)))))

theorem genAt_H {elt iter : Expr} {x : Str} {px : Pos} {scope : Scope} {pos : Pos} {I a : Addr} {g : Nat} {fp wr : List Addr} {n₀ : Nat} {P : Nat → Value → Heap → Prop} {St₀ : Nat → Heap → Prop} {cenv : Env}
    (hh : A.handled = none) (W₀ : ∀ A' : Around, A'.handled = none → WalksH prog w A' I fp wr n₀ P St₀) (F : Nat → Value → Prop)
    (hx : cenv.kindOf x = some .local) (hp : (cenv.scope.kind == .class || (cenv.scope.kind == .module && cenv.locals != cenv.globals)) = false)
    (hco : cenv.scope.isCoroutine = false) (hCf : cenv.locals ∉ fp) {s : Shared} {m : Str → Option Value} (hq : QuietH prog w cenv x elt fp wr P F s.heap (A.depth + 1) (A.units + 4))
    (hg : s.heap.IsGen a g) (hgs : s.gens[g]? = some (.fresh (.compStart (.GeneratorExp elt [⟨.Name x px, iter, [], 0⟩] scope pos) 0 (.ref I) .none cenv)))
    (hst : St₀ 0 s.heap) (hn : s.heap.Ns cenv.locals m) (hl : s.heap.NoLimit) : GenAt prog w A a g cenv.locals fp wr allPass n₀ F 0 s :=
  ⟨hg, hl, _, hgs, fun s'' hal => ⟨rfl, seg_startH (A := A.in1) hh W₀ F s.heap hx hp hco hCf hq s'' s'' m ((W₀ A hh).frame _ _ _ hst fun b hb o e => hal b (List.mem_cons_of_mem _ hb) o e)
    (hn.at' fun o e => hal _ (List.mem_cons_self ..) o e) (GenSince.refl _ _ _) fun b hb _ o e => hal b (List.mem_cons_of_mem _ hb) o e⟩⟩
end

section
variable {prog : Program} {w : World} {A : Around} {E : Value → Shared → Prop} {s : Shared} {h₀ : Heap} {L : Addr} {m : Str → Option Value} {p : Program} {loose : List Str} {mean : ExcName → Option Value} {mg mb : Str → Option Value}

/-- what a generator expression's source must be -/
def GenSrc (prog : Program) (w : World) (A : Around) (h₀ : Heap) (L : Addr) (m : Str → Option Value) (P : Addr) (ps : Array Value) (scope : Scope) (cl : List (Str × Addr)) (env : Env) (elt : Expr) (x : Str) (Q : Value → Shared → Prop) (it : Value) (s₂ : Shared) : Prop :=
  Fr h₀ L s₂.heap m ∧ s₂.heap.get? P = some (tabObj ps) ∧ P < L ∧ AllBare s₂.gens ∧
      ∃ I fp wr n₀ Pi St₀ F, it = .ref I ∧ (∀ A' : Around, A'.handled = none → WalksH prog w A' I fp wr n₀ Pi St₀) ∧ St₀ 0 s₂.heap ∧ (∀ b ∈ fp, b < s₂.heap.objs.size) ∧ P ∉ fp ∧ (∀ b ∈ wr, L < b) ∧
        (∀ (c' C : Addr) (A' : Around) E' i v (t : Shared) m₂, A'.handled = none → A'.depth ≤ A.depth + 1 → A'.units ≤ A.units + 8 → Pi i v t.heap → Fr h₀ C t.heap m₂ → m₂ x = some v → L < C → s₂.heap.objs.size ≤ C →
          (∀ b o, b ≠ P → b ∉ wr → s₂.heap.get? b = some o → t.heap.get? b = some o) →
          wpAny (model prog w) A' (eval elt (genEnv scope cl C (.ref c') builtinsNs env)) (fun y s₃ => F i y ∧ Keeps t s₃) E' t) ∧
        (∀ (a : Addr) h₅ tk g' ps', Fr h₀ L h₅ m → AllBare g' → (∀ b o, b ≠ P → s₂.heap.get? b = some o → h₅.get? b = some o) → h₅.get? P = some (tabObj ps') →
          Gen prog w A L a n₀ F { s₂ with heap := h₅, toks := tk, gens := g' } → Q (.ref a) { s₂ with heap := h₅, toks := tk, gens := g' })
/-- a generator expression, its code's table in the ledger -/
theorem genexp_H {env : Env} {elt iter : Expr} {x : Str} {px : Pos} {scope : Scope} {cl : List (Str × Addr)} {pos : Pos} {c P : Addr} {ps : Array Value} {Q : Value → Shared → Prop}
    (_F₀ : Fr h₀ L s.heap m) (T : Top p loose mean mg mb h₀) (hP₀ : h₀.get? P = none) (C : CodeHd h₀ c P) (hcode : env.code = .ref c) (hglob : env.globals = mainGlobals) (ht : TriplesOk ps.toList) (hnf : codeAmong pos ps.toList = none)
    (hh : A.handled = none) (hco : scope.isCoroutine = false) (hclos : closureFor scope env = pure cl) (hcell : ∀ y ∈ scope.names, y.2 ≠ .cell) (h0 : scope.names.lookup (".0" : Str) = some NameKind.local)
    (hx : scope.names.lookup x = some .local) (hkind : scope.kind = .function) (hroom : A.depth < recursionLimit)
    (h : wpAny (model prog w) A (eval iter env) (fun xv s₁ => wpAny (model prog w) A (pyIter xv) (fun it s₂ => GenSrc prog w A h₀ L m P ps scope cl env elt x Q it s₂) E s₁) E s)
    (hs : ∀ x, genFold iter env x = pure x) :
    wpAny (model prog w) A (eval (.GeneratorExp elt [⟨.Name x px, iter, [], 0⟩] scope pos) env) Q E s := by
  refine wpAny_GeneratorExp_make hco hclos hcell h0 hkind hroom (wpAny_mono h (fun xv s₁ h₁ => wpAny_mono h₁ (fun it s₂ h₂ => ?_) fun _ _ e => e) fun _ _ e => e) hs
  obtain ⟨F₂, hP₂, hPL, G₂, I, fp, wr, n₀, Pi, St₀, F, rfl, W₀, hst, hfp, hPf, hwr, hq, hQ⟩ := h₂
  have T₂ := T.keeps F₂.keep
  have C₂ : CodeHd s₂.heap c P := C.keeps F₂.keep
  have hlim := T₂.nolimit
  refine ⟨hlim, wpAny_genexprCodeX hcode (C₂.code hP₂ ht) (C₂.tab hP₂) hnf fun c' h₃ tk₃ hx₃ hge hlt hcode₃ _ htab₃ _ => ?_⟩
  have hsz : s₂.heap.objs.size ≤ h₃.objs.size := Nat.le_trans hge (Nat.le_of_lt hlt)
  have hP₃ : h₃.get? P = some (tabObj _) := htab₃.2
  have h₀P : ∀ b o, h₀.get? b = some o → h₃.get? b = some o := fun b o e => hx₃ b o (fun q => by subst q; rw [hP₀] at e; cases e) (F₂.keep b o e)
  have T₃ := T.keeps h₀P
  have hl₃ := T₃.nolimit
  obtain ⟨bm, ob, hbm, hbne, hbo, hbc, hbd, hbp⟩ := T₃.bmain
  rw [hglob]
  refine wpAny_builtinsFor T₃.g hbm hbne hbo hbc hbd hbp ?_
  have hLlt : L < s₂.heap.objs.size := F₂.ns.lt
  have hLP : L ≠ P := Nat.ne_of_gt hPL
  have F₃ : Fr h₀ L h₃ m := ⟨F₂.ns.at' fun o e => hx₃ _ o hLP e, h₀P, F₂.above⟩
  have hcw : cStatics ∉ wr := fun hm => by
    have h1 : L < cStatics := hwr _ hm
    obtain ⟨_, hns, _⟩ := T.nolimit
    have h2 : cStatics < h₀.objs.size := hns.lt
    exact Nat.lt_irrefl _ (Nat.lt_of_lt_of_le (Nat.lt_trans h1 h2) F₃.above)
  have hclt : cStatics < h₃.objs.size := let ⟨_, hn, _⟩ := hl₃; hn.lt
  dsimp only
  intro h' hn' hs'
  have hsz' : h'.objs.size = h₃.objs.size + 1 := by rw [hs'.1, Heap.size_push]
  have keep' : ∀ b o, h₃.get? b = some o → h'.get? b = some o := fun b o e => hs'.extBut b o (Nat.ne_of_lt (Heap.lt_size e)) (Heap.get?_push_of_some _ e)
  have hfp₃ : ∀ b ∈ fp, b < h₃.objs.size := fun b hb => Nat.lt_of_lt_of_le (hfp b hb) hsz
  have hsub : ∀ b ∈ wr, b ∈ List.range h₃.objs.size := fun b hb => List.mem_range.mpr (hfp₃ b ((W₀ A hh).sub b hb))
  have haC : h'.objs.size ≠ h₃.objs.size := by rw [hsz']; exact Nat.succ_ne_self _
  have haf : h'.objs.size ∉ List.range h₃.objs.size := fun hm => by have := List.mem_range.mp hm; omega
  have keep₅ : ∀ b o, h₃.get? b = some o → (h'.push { cls := .type "generator", data := .fields #[.int s₂.gens.size 0, .str "<genexpr>" (tk₃ + 1), .str (env.qual ++ "<genexpr>") (tk₃ + 1 + 1)] }).get? b = some o :=
    fun b o e => Heap.get?_push_of_some _ (keep' b o e)
  have W := WalksS.genexpQ (prog := prog) (w := w) (A := A.in4) hh h'.objs.size s₂.gens.size h₃.objs.size (List.range h₃.objs.size) wr allPass n₀ F haC haf hsub hroom (List.mem_range.mpr hclt) (Nat.ne_of_lt hclt) hcw
  have hLC : L < h₃.objs.size := Nat.lt_of_lt_of_le hLlt hsz
  refine hQ _ _ _ _ _ (F₃.keeps keep₅) (G₂.push rfl) (fun b o hb e => keep₅ b o (hx₃ b o hb e)) (keep₅ _ _ hP₃) ⟨h'.objs.size :: h₃.objs.size :: List.range h₃.objs.size, h₃.objs.size :: wr, s₂.gens.size, GenAt prog w A.in4 h'.objs.size s₂.gens.size h₃.objs.size (List.range h₃.objs.size) wr allPass n₀ F,
    (by rw [pass_len, Nat.sub_zero] at W; exact W.imp fun j y ⟨i, hi, hF⟩ => (pass_get hi).1 ▸ hF), ?_, (fun i s' st => st.1.typeIs), List.mem_cons_self, ?_, ?_⟩
  · refine genAt_H (A := A.in4) (cenv := genEnv scope cl h₃.objs.size (.ref c') builtinsNs env) (m := fun y => if y = ".0" then some (.ref I) else none) hh
      (fun A' hA => (W₀ A' hA).mono_fp fun b hb => List.mem_range.mpr (hfp₃ b hb)) F hx (by simp [genEnv, hkind]) hco
      (fun hm => Nat.lt_irrefl _ (List.mem_range.mp hm)) ?_ ⟨_, _, _, Heap.get?_push_size _ rfl, rfl, rfl, rfl⟩ (Array.getElem?_push_size ..) ?_ (hn'.push _) (hl₃.keeps keep₅)
    · intro A' E' i v t m₂ hA hD hU hPv hn hm hkp
      have old : ∀ b o, b ≠ P → b ∉ wr → s₂.heap.get? b = some o → t.heap.get? b = some o := fun b o hbP hbw e =>
        hkp b (List.mem_range.mpr (Heap.lt_size (hx₃ b o hbP e))) hbw o (keep₅ b o (hx₃ b o hbP e))
      refine hq c' _ A' E' i v t m₂ hA hD hU hPv ⟨hn, fun b o e => old b o (fun q => by subst q; rw [hP₀] at e; cases e) (fun hm => ?_) (F₂.keep b o e), Nat.le_trans F₂.above (Nat.le_of_lt hLC)⟩ hm hLC hsz old
      exact Nat.lt_irrefl _ (Nat.lt_trans (hwr b hm) (Nat.lt_of_lt_of_le (Heap.lt_size e) F₂.above))
    · exact (W₀ A hh).frame _ _ _ hst fun b hb o e => keep₅ b o (hx₃ b o (fun q => hPf (q ▸ hb)) e)
  · intro b hb
    show b < (Heap.push _ _).objs.size
    rw [Heap.size_push]
    rcases List.mem_cons.mp hb with rfl | hb
    · exact Nat.lt_succ_self _
    · rcases List.mem_cons.mp hb with rfl | hb
      · rw [hsz']; exact Nat.lt_succ_of_lt (Nat.lt_succ_self _)
      · rw [hsz']; exact Nat.lt_succ_of_lt (Nat.lt_succ_of_lt (List.mem_range.mp hb))
  · intro b hb
    rcases List.mem_cons.mp hb with rfl | hb
    · exact hLC
    · exact hwr b hb
end
end Mine
end
set_option maxHeartbeats 4000000
/- part Mz -/
section
open Sem (wp)
namespace Mine
/-- a zip of two: it may have handed out its tuple -/
abbrev IsZipG (h : Heap) (z TI TO : Addr) (f0 : Value) (f1 : Bool) : Prop :=
  h.get? z = some { cls := .type "zip", dict := none, data := .fields #[f0, .bool f1, .bool false, .ref TI, .ref TO], slots := #[] }
def Handed (f0 : Value) : Prop := f0 = .none ∨ ∃ T : Nat, f0 = rawInt (T : Int)
section
variable {prog : Program} {w : World} {A : Around} {E : Value → Shared → Prop} {s : Shared}
theorem zip_isFree {z TI TO : Addr} {f0 : Value} {f1 : Bool} {Q : Bool → Shared → Prop} (hz : IsZipG s.heap z TI TO f0 f1) (hf : Handed f0)
    (h : ∀ h' b g1, (∀ c o, c ≠ z → s.heap.get? c = some o → h'.get? c = some o) → h'.objs.size = s.heap.objs.size → IsZipG h' z TI TO f0 g1 → Q b { s with heap := h' }) : wpAny (model prog w) A (Builtin.SmallTypes.ownedTupleIsFree (.ref z)) Q E s := by
  unfold Builtin.SmallTypes.ownedTupleIsFree
  refine wpAny_bind (wpAny_field hz rfl (x := f0) rfl ?_)
  rcases hf with rfl | ⟨T, rfl⟩
  · exact wpAny_pure (h s.heap true f1 (fun _ _ _ e => e) rfl hz)
  · show wpAny _ _ (loadIfAlive _ >>= _) _ _ _
    refine wpAny_bind ?_
    have la : ∀ (R : Option Obj → Shared → Prop), R (s.heap.get? ((T : Int).toNat)) s → wpAny (model prog w) A (loadIfAlive ((T : Int).toNat)) R E s := fun R hR Γ p hΓ => by
      show wp (model prog w) Γ (.loadIfAlive _ _) _ _ p s
      rw [Sem.wp_loadIfAlive]
      exact hR
    refine la _ ?_
    cases hT : s.heap.get? ((T : Int).toNat) with
    | none =>
      simp only [Option.isNone_none, if_true]
      exact wpAny_pure (h s.heap true f1 (fun _ _ _ e => e) rfl hz)
    | some o =>
      simp only [Option.isNone_some, Bool.false_eq_true, if_false]
      refine wpAny_bind (wpAny_field hz rfl (x := .bool f1) rfl ?_)
      cases f1 with
      | true => exact wpAny_pure (h s.heap false true (fun _ _ _ e => e) rfl hz)
      | false =>
        refine wpAny_bind (wpAny_setField_rec hz (by simp) fun h₁ hz₁ hs₁ => wpAny_pure (h h₁ false true (fun c o hc e => hs₁.extBut _ _ hc e) hs₁.1 hz₁))

theorem zipG_item {z TI TO i1 i2 l1 l2 : Addr} {k1 k2 : Nat} {xs ys : Array Value} {x y a b f0 : Value} {f1 : Bool} {Q : Value → Shared → Prop} (D : ZipApart z TI TO i1 i2 l1 l2)
    (hz₀ : IsZipG s.heap z TI TO f0 f1) (hf : Handed f0) (hTI₀ : IsPair s.heap TI (.ref i1) (.ref i2)) (hTO₀ : IsPair s.heap TO a b)
    (h1₀ : s.heap.IsListIter i1 l1 k1) (h2₀ : s.heap.IsListIter i2 l2 k2) (hl1₀ : s.heap.IsList l1 xs) (hl2₀ : s.heap.IsList l2 ys) (hx : xs[k1]? = some x) (hy : ys[k2]? = some y)
    (hQ : ∀ h' g0 g1 a' b', IsZipG h' z TI TO g0 g1 → Handed g0 → IsPair h' TO a' b' → h'.IsListIter i1 l1 (k1 + 1) → h'.IsListIter i2 l2 (k2 + 1) → IsPair h' s.heap.objs.size x y →
      (∀ c o, c ≠ z → c ≠ TO → c ≠ i1 → c ≠ i2 → s.heap.get? c = some o → h'.get? c = some o) → Q (.ref s.heap.objs.size) { s with heap := h' }) :
    wpAny (model prog w) A (Builtin.«zip.__next__» ⟨[.ref z], []⟩) (fun fin s' => ∃ v, fin = .done (.ret v) ∧ Q v s') E s := by
  show wpAny _ _ (field (.ref z) 2 >>= _) _ _ _
  refine wpAny_bind (wpAny_field hz₀ rfl (x := .bool false) rfl ?_)
  show wpAny _ _ (field (.ref z) 3 >>= _) _ _ _
  refine wpAny_bind (wpAny_field hz₀ rfl (x := .ref TI) rfl ?_)
  refine wpAny_bind (wpAny_seqItems hTI₀ rfl ?_)
  show wpAny _ _ (Builtin.SmallTypes.ownedTupleIsFree (.ref z) >>= _) _ _ _
  refine wpAny_bind (zip_isFree hz₀ hf fun h₀ fr g1 k₀ sz₀ hz => ?_)
  have hTO := k₀ _ _ D.TOz hTO₀
  have h1 : h₀.IsListIter i1 l1 k1 := h1₀.at fun o e => k₀ _ o D.i1z e
  have h2 : h₀.IsListIter i2 l2 k2 := h2₀.at fun o e => k₀ _ o D.i2z e
  have hl1 : h₀.IsList l1 xs := hl1₀.at fun o e => k₀ _ o D.l1z e
  have hl2 : h₀.IsList l2 ys := hl2₀.at fun o e => k₀ _ o D.l2z e
  rw [← sz₀] at hQ
  cases fr with
  | true =>
    simp only [if_true]
    refine wpAny_bind (wpAny_rule ?_)
    refine wpAny_bind (wpAny_field hz rfl (x := .ref TO) rfl ?_)
    refine wpAny_bind (wpAny_setField_rec hz (by simp) fun h₁ hz₁ hs₁ => ?_)
    replace hz₁ : IsZipG h₁ z TI TO .ellipsis g1 := hz₁
    refine wpAny_bind ?_
    simp only [List.zipIdx_cons, List.zipIdx_nil, List.forIn_cons, List.forIn_nil]
    refine wpAny_bind (wpAny_bind (wpAny_onRaise ?_))
    show wpAny _ _ (Builtin.SmallTypes.nextOf (.ref i1) >>= _) _ _ _
    refine wpAny_bind (wpAny_nextOf_list_item (h1.extBut hs₁.extBut D.i1z) (hl1.extBut hs₁.extBut D.l1z) hx fun h₂ h1₂ hs₂ => wpAny_pure ?_)
    have hTO₂ : IsPair h₂ TO a b := hs₂.extBut _ _ D.TOi1 (hs₁.extBut _ _ D.TOz hTO)
    refine wpAny_bind (wpAny_seqItems hTO₂ rfl ?_)
    refine wpAny_bind (wpAny_updateSeq_pair hTO₂ fun h₃ hTO₃ hs₃ => ?_)
    replace hTO₃ : IsPair h₃ TO x b := hTO₃
    refine wpAny_bind (wpAny_letGo (wpAny_pure ?_))
    refine wpAny_bind (wpAny_bind (wpAny_onRaise ?_))
    show wpAny _ _ (Builtin.SmallTypes.nextOf (.ref i2) >>= _) _ _ _
    refine wpAny_bind (wpAny_nextOf_list_item (((h2.extBut hs₁.extBut D.i2z).extBut hs₂.extBut D.i12.symm).extBut hs₃.extBut D.TOi2.symm)
      (((hl2.extBut hs₁.extBut D.l2z).extBut hs₂.extBut D.l2i1).extBut hs₃.extBut D.l2TO) hy fun h₄ h2₄ hs₄ => wpAny_pure ?_)
    have hTO₄ : IsPair h₄ TO x b := hs₄.extBut _ _ D.TOi2 hTO₃
    refine wpAny_bind (wpAny_seqItems hTO₄ rfl ?_)
    refine wpAny_bind (wpAny_updateSeq_pair hTO₄ fun h₅ hTO₅ hs₅ => ?_)
    replace hTO₅ : IsPair h₅ TO x y := hTO₅
    refine wpAny_bind (wpAny_letGo (wpAny_pure (wpAny_pure ?_)))
    refine wpAny_bind (wpAny_seqItems hTO₅ rfl ?_)
    refine wpAny_bind (wpAny_newTuple ?_)
    have hsz : h₅.objs.size = h₀.objs.size := by rw [hs₅.1, hs₄.1, hs₃.1, hs₂.1, hs₁.1]
    have hz₅ : IsZipG h₅ z TI TO .ellipsis g1 := hs₅.extBut _ _ D.TOz.symm (hs₄.extBut _ _ D.i2z.symm (hs₃.extBut _ _ D.TOz.symm (hs₂.extBut _ _ D.i1z.symm hz₁)))
    have hk₅ : ∀ c o, c ≠ z → c ≠ TO → c ≠ i1 → c ≠ i2 → h₀.get? c = some o → h₅.get? c = some o := fun c o c1 c2 c3 c4 e =>
      hs₅.extBut _ _ c2 (hs₄.extBut _ _ c4 (hs₃.extBut _ _ c2 (hs₂.extBut _ _ c3 (hs₁.extBut _ _ c1 e))))
    have h1₅ : h₅.IsListIter i1 l1 (k1 + 1) := ((h1₂.extBut hs₃.extBut D.TOi1.symm).extBut hs₄.extBut D.i12).extBut hs₅.extBut D.TOi1.symm
    have h2₅ : h₅.IsListIter i2 l2 (k2 + 1) := h2₄.extBut hs₅.extBut D.TOi2.symm
    have hzlt : z < h₅.objs.size := Heap.lt_size hz₅
    show wpAny _ _ (Builtin.SmallTypes.ownedTupleHandOut (.ref z) (.ref h₅.objs.size) >>= _) _ _ _
    refine wpAny_bind ?_
    unfold Builtin.SmallTypes.ownedTupleHandOut
    have hz₆ : IsZipG (h₅.push { cls := .type "tuple", data := .seq #[x, y] }) z TI TO .ellipsis g1 := Heap.get?_push_of_some _ hz₅
    refine wpAny_bind (wpAny_setField_rec hz₆ (by simp) fun h₇ hz₇ hs₇ => ?_)
    replace hz₇ : IsZipG h₇ z TI TO (rawInt h₅.objs.size) g1 := hz₇
    refine wpAny_setField_rec hz₇ (by simp) fun h₈ hz₈ hs₈ => ?_
    replace hz₈ : IsZipG h₈ z TI TO (rawInt h₅.objs.size) false := hz₈
    have up : ∀ c o, c ≠ z → h₅.get? c = some o → h₈.get? c = some o := fun c o c1 e => hs₈.extBut _ _ c1 (hs₇.extBut _ _ c1 (Heap.get?_push_of_some _ e))
    have hT₈ : IsPair h₈ h₅.objs.size x y := hs₈.extBut _ _ (Nat.ne_of_gt hzlt) (hs₇.extBut _ _ (Nat.ne_of_gt hzlt) (Heap.get?_push_size _ rfl))
    refine wpAny_pure ⟨_, rfl, ?_⟩
    show Q (.ref h₅.objs.size) _
    rw [hsz] at hT₈ ⊢
    exact hQ h₈ _ _ _ _ hz₈ (.inr ⟨_, rfl⟩) (up _ _ D.TOz hTO₅) (h1₅.at fun o e => up _ o D.i1z e) (h2₅.at fun o e => up _ o D.i2z e) hT₈ fun c o c1 c2 c3 c4 e => up c o c1 (hk₅ c o c1 c2 c3 c4 (k₀ c o c1 e))
  | false =>
    simp only [Bool.false_eq_true, if_false]
    show wpAny _ _ (forIn _ _ _ >>= _) _ _ _
    refine wpAny_bind ?_
    simp only [List.forIn_toArray, List.forIn_cons, List.forIn_nil]
    refine wpAny_bind (wpAny_bind (wpAny_holding ?_))
    show wpAny _ _ (Builtin.SmallTypes.nextOf (.ref i1) >>= _) _ _ _
    refine wpAny_bind (wpAny_nextOf_list_item h1 hl1 hx fun h₂ h1₂ hs₂ => wpAny_pure ?_)
    refine wpAny_pure ?_
    refine wpAny_bind (wpAny_bind (wpAny_holding ?_))
    show wpAny _ _ (Builtin.SmallTypes.nextOf (.ref i2) >>= _) _ _ _
    refine wpAny_bind (wpAny_nextOf_list_item (h2.extBut hs₂.extBut D.i12.symm) (hl2.extBut hs₂.extBut D.l2i1) hy fun h₃ h2₃ hs₃ => wpAny_pure ?_)
    refine wpAny_pure (wpAny_pure ?_)
    show wpAny _ _ (newTuple [x, y] >>= _) _ _ _
    refine wpAny_bind (wpAny_newTuple ?_)
    have hsz : h₃.objs.size = h₀.objs.size := by rw [hs₃.1, hs₂.1]
    have up : ∀ c o, c ≠ i1 → c ≠ i2 → h₀.get? c = some o → (h₃.push { cls := .type "tuple", data := .seq #[x, y] }).get? c = some o := fun c o c1 c2 e => Heap.get?_push_of_some _ (hs₃.extBut _ _ c2 (hs₂.extBut _ _ c1 e))
    refine wpAny_pure ⟨_, rfl, ?_⟩
    show Q (.ref h₃.objs.size) _
    have hT := Heap.get?_push_size h₃ (o := { cls := .type "tuple", data := .seq #[x, y] }) rfl
    rw [hsz] at hT ⊢
    refine hQ _ _ _ _ _ (up _ _ D.i1z.symm D.i2z.symm hz) hf (up _ _ D.TOi1 D.TOi2 hTO) ((h1₂.extBut hs₃.extBut D.i12).at fun o e => Heap.get?_push_of_some _ e) (h2₃.at fun o e => Heap.get?_push_of_some _ e) hT fun c o c1 c2 c3 c4 e => up c o c3 c4 (k₀ c o c1 e)

theorem zipG_end {z TI TO i1 i2 l1 l2 : Addr} {k1 : Nat} {xs : Array Value} {a b f0 : Value} {f1 : Bool} {Q : Fin → Shared → Prop} (hh : A.handled = none) (D : ZipApart z TI TO i1 i2 l1 l2)
    (hz₀ : IsZipG s.heap z TI TO f0 f1) (hf : Handed f0) (hTI₀ : IsPair s.heap TI (.ref i1) (.ref i2)) (hTO₀ : IsPair s.heap TO a b)
    (h1₀ : s.heap.IsListIter i1 l1 k1) (hl1₀ : s.heap.IsList l1 xs) (hx : xs[k1]? = none)
    (hE : ∀ h' e, (∀ c o, c ≠ z → c ≠ i1 → s.heap.get? c = some o → h'.get? c = some o) → (∃ o, h'.get? e = some o ∧ o.cls = .type "StopIteration") → E (.ref e) { s with heap := h' }) :
    wpAny (model prog w) A (Builtin.«zip.__next__» ⟨[.ref z], []⟩) Q E s := by
  show wpAny _ _ (field (.ref z) 2 >>= _) _ _ _
  refine wpAny_bind (wpAny_field hz₀ rfl (x := .bool false) rfl ?_)
  show wpAny _ _ (field (.ref z) 3 >>= _) _ _ _
  refine wpAny_bind (wpAny_field hz₀ rfl (x := .ref TI) rfl ?_)
  refine wpAny_bind (wpAny_seqItems hTI₀ rfl ?_)
  show wpAny _ _ (Builtin.SmallTypes.ownedTupleIsFree (.ref z) >>= _) _ _ _
  refine wpAny_bind (zip_isFree hz₀ hf fun h₀ fr g1 k₀ sz₀ hz => ?_)
  have hTO := k₀ _ _ D.TOz hTO₀
  have h1 : h₀.IsListIter i1 l1 k1 := h1₀.at fun o e => k₀ _ o D.i1z e
  have hl1 : h₀.IsList l1 xs := hl1₀.at fun o e => k₀ _ o D.l1z e
  cases fr with
  | true =>
    simp only [if_true]
    refine wpAny_bind (wpAny_rule ?_)
    refine wpAny_bind (wpAny_field hz rfl (x := .ref TO) rfl ?_)
    refine wpAny_bind (wpAny_setField_rec hz (by simp) fun h₁ hz₁ hs₁ => ?_)
    replace hz₁ : IsZipG h₁ z TI TO .ellipsis g1 := hz₁
    refine wpAny_bind ?_
    simp only [List.zipIdx_cons, List.zipIdx_nil, List.forIn_cons, List.forIn_nil]
    refine wpAny_bind (wpAny_bind (wpAny_onRaise ?_))
    show wpAny _ _ (Builtin.SmallTypes.nextOf (.ref i1) >>= _) _ _ _
    refine wpAny_bind (wpAny_nextOf_list_end hh (h1.extBut hs₁.extBut D.i1z) (hl1.extBut hs₁.extBut D.l1z) hx fun h₂ e hs₂ he => ?_)
    obtain ⟨oe, hoe, hce⟩ := he
    have hz₂ : IsZipG h₂ z TI TO .ellipsis g1 := hs₂ _ _ D.i1z.symm hz₁
    have hez : e ≠ z := fun x => by subst x; rw [hz₂] at hoe; cases hoe; simp at hce
    refine wpAny_setField_rec hz₂ (by simp) fun h₃ _ hs₃ => hE h₃ e (fun c o c1 c3 x => hs₃.extBut _ _ c1 (hs₂ _ _ c3 (hs₁.extBut _ _ c1 (k₀ c o c1 x)))) ⟨oe, hs₃.extBut _ _ hez hoe, hce⟩
  | false =>
    simp only [Bool.false_eq_true, if_false]
    show wpAny _ _ (forIn _ _ _ >>= _) _ _ _
    refine wpAny_bind ?_
    simp only [List.forIn_toArray, List.forIn_cons, List.forIn_nil]
    refine wpAny_bind (wpAny_bind (wpAny_holding ?_))
    show wpAny _ _ (Builtin.SmallTypes.nextOf (.ref i1) >>= _) _ _ _
    refine wpAny_bind (wpAny_nextOf_list_end hh h1 hl1 hx fun h₂ e hs₂ he => hE h₂ e (fun c o c1 c3 x => hs₂ _ _ c3 (k₀ c o c1 x)) he)

/-- a zip of two equally long lists, walked by a name -/
def ZipSt (z TI TO i1 i2 l1 l2 : Addr) (xs ys : Array Value) (i : Nat) (h : Heap) : Prop :=
  (∃ f0 f1, IsZipG h z TI TO f0 f1 ∧ Handed f0) ∧ IsPair h TI (.ref i1) (.ref i2) ∧ (∃ a b, IsPair h TO a b) ∧ h.IsListIter i1 l1 i ∧ h.IsListIter i2 l2 i ∧ h.IsList l1 xs ∧ h.IsList l2 ys
theorem walk_zip (hh : A.handled = none) (z TI TO i1 i2 l1 l2 : Addr) (D : ZipApart z TI TO i1 i2 l1 l2) (xs ys : Array Value) (hsz : xs.size = ys.size) :
    WalksH prog w A z [z, TI, TO, i1, i2, l1, l2] [z, TO, i1, i2] xs.size (fun i v h => ∃ T x y, v = .ref T ∧ @LT.lt Nat _ z T ∧ xs[i]? = some x ∧ ys[i]? = some y ∧ IsPair h T x y) (ZipSt z TI TO i1 i2 l1 l2 xs ys) where
  sub := fun c hc => by simp at hc ⊢; rcases hc with rfl | rfl | rfl | rfl <;> simp
  frame := fun i h h' hst hk => by
    obtain ⟨⟨f0, f1, hz, hf⟩, hTI, ⟨a, b, hTO⟩, h1, h2, hl1, hl2⟩ := hst
    exact ⟨⟨f0, f1, hk z (by simp) _ hz, hf⟩, hk TI (by simp) _ hTI, ⟨a, b, hk TO (by simp) _ hTO⟩, h1.at fun o e => hk i1 (by simp) o e, h2.at fun o e => hk i2 (by simp) o e,
      hl1.at fun o e => hk l1 (by simp) o e, hl2.at fun o e => hk l2 (by simp) o e⟩
  item := fun i s Q E hi hst hQ => by
    obtain ⟨⟨f0, f1, hz, hf⟩, hTI, ⟨a, b, hTO⟩, h1, h2, hl1, hl2⟩ := hst
    have hiy : i < ys.size := hsz ▸ hi
    have hT : s.TypeIs (.ref z) "zip" := ⟨_, hz, rfl⟩
    unfold pyNext
    refine wpAny_bind (wpAny_attempt (wpAny_callSpecial?_slot (name := Str.ofString "__next__") hT F.slot_zip_next
      (wpAny_call_entry F.slot_zip_next hT F.entry_zip_next
        (zipG_item D hz hf hTI hTO h1 h2 hl1 hl2 (Array.getElem?_eq_getElem hi) (Array.getElem?_eq_getElem hiy) fun h' g0 g1 a' b' a1 af a2 a3 a4 a5 hk => wpAny_pure ?_) (F.args_zip_next_1 _))))
    exact hQ _ h' s.toks ⟨_, _, _, rfl, Heap.lt_size hz, Array.getElem?_eq_getElem hi, Array.getElem?_eq_getElem hiy, a5⟩
      ⟨⟨_, _, a1, af⟩, hk _ _ D.TIz D.TITO D.TIi1 D.TIi2 hTI, ⟨_, _, a2⟩, a3, a4, hl1.at fun o e => hk _ o D.l1z D.l1TO D.l1i1 D.l1i2 e, hl2.at fun o e => hk _ o D.l2z D.l2TO D.l2i1 D.l2i2 e⟩
      fun c o hc e => hk c o (fun x => hc (by simp [x])) (fun x => hc (by simp [x])) (fun x => hc (by simp [x])) (fun x => hc (by simp [x])) e
  done := fun s Q E hst hQ => by
    obtain ⟨⟨f0, f1, hz, hf⟩, hTI, ⟨a, b, hTO⟩, h1, h2, hl1, hl2⟩ := hst
    have hT : s.TypeIs (.ref z) "zip" := ⟨_, hz, rfl⟩
    unfold pyNext
    refine wpAny_bind (wpAny_attempt (wpAny_callSpecial?_slot (name := Str.ofString "__next__") hT F.slot_zip_next
      (wpAny_call_entry F.slot_zip_next hT F.entry_zip_next (zipG_end hh D hz hf hTI hTO h1 hl1 (Array.getElem?_eq_none (Nat.le_refl _)) fun h' e hk he => ?_) (F.args_zip_next_1 _))))
    obtain ⟨o, ho, hc⟩ := he
    refine wpAny_bind (wpAny_isInstance (T := "StopIteration") (b := true) ⟨o, ho, hc⟩ isSubtype_stop ?_)
    exact wpAny_pure (hQ h' s.toks fun c o hc e => hk c o (fun x => hc (by simp [x])) (fun x => hc (by simp [x])) e)
  self := fun i s Q E hst hQ => by
    obtain ⟨⟨f0, f1, hz, hf⟩, _⟩ := hst
    have hT : s.TypeIs (.ref z) "zip" := ⟨_, hz, rfl⟩
    refine wpAny_pyIter_slot hT F.slot_zip_iter (wpAny_call_entry F.slot_zip_iter hT F.entry_zip_iter ?_ (F.args_zip_iter_1 _))
    show wpAny _ _ (ret (.ref z)) _ _ s
    exact wpAny_pure ⟨_, rfl, "zip", _, hT, F.slot_zip_next.lookup, hQ⟩
  keepP := fun i v h h' C m hP hn hk => by
    obtain ⟨T, x, y, rfl, hlt, hx, hy, hT⟩ := hP
    refine ⟨T, x, y, rfl, hlt, hx, hy, hk T _ (fun q => ?_) hT⟩
    subst q
    obtain ⟨o, es, ep, e, hd, _⟩ := hn
    rw [hT] at e
    cases e
    cases hd
end
end Mine
end
set_option maxHeartbeats 4000000
/- part Mg2 -/
section
open Sem (wp)
namespace Mine
section
variable {prog : Program} {w : World} {A : Around} {R : Result → Shared → Prop} {I : Addr} {fp wr : List Addr} {G : Array GenState → Array GenState → Prop} {n : Nat} {P : Nat → Value → Prop} {St : Nat → Shared → Prop}
/-- sum over bools -/
theorem sum_loopB (W : WalksS prog w A.in1 I fp wr G n P St) (val : Nat → Bool) (hval : ∀ i v, P i v → v = .bool (val i)) (hfit : ∀ j, j < n → InLong (preSum (fun i => if val i then 1 else 0) (j + 1))) (S : Addr) (hSf : S ∉ fp) :
    ∀ (k i : Nat) (s : Shared) (tA : Tok) (c : Nat), n - i = k → i ≤ n → St i s → s.heap.get? S = some { cls := .type "list", dict := none, data := .seq #[.int (preSum (fun i => if val i then 1 else 0) i) tA] c, slots := #[] } →
    (∀ s' t', Moved (S :: wr) G s s' → R (.ok (.ret (.int (preSum (fun i => if val i then 1 else 0) n) t'))) s') → codeAny (model prog w) A (.builtin "sum.loop" ⟨[.ref I, .ref S, rawInt 0, rawInt 0], []⟩) R s := by
  have hSw : S ∉ wr := fun h => hSf (W.sub _ h)
  have hsub : ∀ b ∈ wr, b ∈ S :: wr := fun b hb => List.mem_cons_of_mem _ hb
  intro k
  induction k with
  | zero =>
    intro i s tA c hk hi hst hS hR
    have hin : i = n := by omega
    subst hin
    refine codeAny_builtin F.entry_sum_loop ?_
    rw [Around.under_plainId F.plain_sum_loop _]
    show wpAny _ A.in1 (seqItems? (.ref S) >>= _) _ _ s
    refine wpAny_bind (wpAny_seqItems hS rfl ?_)
    show wpAny _ A.in1 (tryCatch (pyNext (.ref I)) _ >>= _) _ _ s
    refine wpAny_bind (wpAny_tryCatch (W.done s _ _ hst fun s' hm => ?_))
    exact wpAny_pure (hR s' tA (hm.mono hsub))
  | succ k ih =>
    intro i s tA c hk hi hst hS hR
    have hlt : i < n := by omega
    refine codeAny_builtin F.entry_sum_loop ?_
    rw [Around.under_plainId F.plain_sum_loop _]
    show wpAny _ A.in1 (seqItems? (.ref S) >>= _) _ _ s
    refine wpAny_bind (wpAny_seqItems hS rfl ?_)
    show wpAny _ A.in1 (tryCatch (pyNext (.ref I)) _ >>= _) _ _ s
    refine wpAny_bind (wpAny_tryCatch (W.item i s _ _ hlt hst fun v s' hP hst' hm => ?_))
    obtain rfl := hval i v hP
    have hS' := hm.heap S _ hSw hS
    obtain ⟨f3, f4⟩ := hfit i hlt
    generalize hb : (if val i then (1 : Int) else 0) = b
    have hbb : b = 0 ∨ b = 1 := by rw [← hb]; cases val i <;> simp
    have hsum : preSum (fun i => if val i then 1 else 0) (i + 1) = preSum (fun i => if val i then 1 else 0) i + b := by rw [← hb]; rfl
    rw [hsum] at f3 f4
    have hc : ((decide (-(2 ^ 63) ≤ b) && decide (b < 2 ^ 63)) && (decide (-(2 ^ 63) ≤ preSum (fun i => if val i then 1 else 0) i + b) && decide (preSum (fun i => if val i then 1 else 0) i + b < 2 ^ 63))) = true := by
      simp only [Bool.and_eq_true, decide_eq_true_eq]
      refine ⟨?_, f3, f4⟩
      rcases hbb with h | h <;> subst h <;> exact ⟨by decide, by decide⟩
    show wpAny _ A.in1 (if (_ : Bool) = true then (mkInt (preSum (fun i => if val i then 1 else 0) i + if val i then (1 : Int) else 0) >>= _) else _) _ _ _
    rw [hb]
    split
    · refine wpAny_bind (wpAny_mkInt ?_)
      show wpAny _ A.in1 (updateSeq S (fun _ => #[.int (preSum (fun i => if val i then 1 else 0) i + b) s'.toks]) >>= _) _ _ _
      rw [← hsum]
      refine wpAny_bind ?_
      refine wpAny_updateSeq hS' rfl (wpAny_pure ⟨plainId_quiet F.plain_sum_loop _, ih (i + 1) _ s'.toks _ (by omega) hlt (W.frame _ s' _ _ hst' (by first | exact Nat.le_refl _ | exact Nat.le_succ _ | omega) fun b hb o e => ?_) (Heap.get?_update_self _ hS' rfl) fun s'' t'' hm'' => ?_⟩)
      · exact (Heap.get?_update_other _ _ (fun h : S = b => hSf (by rw [h]; exact hb))).trans e
      · refine hR s'' t'' (Moved.trans W.gtrans ((hm.mono hsub).then_heap (by first | exact Nat.le_refl _ | exact Nat.le_succ _ | omega) fun b o hb e => ?_) hm'')
        exact (Heap.get?_update_other _ _ (fun h : S = b => hb (by rw [h]; exact List.mem_cons_self))).trans e
    · rename_i hneg
      exact absurd hc hneg
end
section
variable {prog : Program} {w : World} {A : Around} {E : Value → Shared → Prop} {s : Shared} {h₀ : Heap} {L : Addr} {m : Str → Option Value}

theorem call_sumB {x : Value} {Q : Value → Shared → Prop}
    (h : wpAny (model prog w) A.in1 (pyIter x) (fun it s₂ => ∃ I fp wr G n P St, ∃ val : Nat → Bool, it = .ref I ∧ WalksS prog w A.in1 I fp wr G n P St ∧ St 0 s₂ ∧ (∀ b ∈ fp, b < s₂.heap.objs.size) ∧
      (∀ i v, P i v → v = .bool (val i)) ∧ (∀ j, j < n → InLong (preSum (fun i => if val i then 1 else 0) (j + 1))) ∧
      ∀ s' t', Moved wr G s₂ s' → Q (.int (preSum (fun i => if val i then 1 else 0) n) t') s') E s) :
    wpAny (model prog w) A (call (.builtin "sum") [x]) Q E s := by
  refine call_function_tree F.kind_sum F.plain_sum F.entry_sum (F.args_sum1 _) ?_
  unfold Builtin.«sum»
  simp only [List.length_cons, List.length_nil]
  rw [if_neg (by decide)]
  refine wpAny_bind (wpAny_of_eq (show Builtin.Builtins.bindParams "sum" ["start"] 0 { } = pure [none] from rfl) ?_)
  refine wpAny_bind (wpAny_mono h (fun it s₂ h₂ => ?_) fun _ _ e => e)
  obtain ⟨I, fp, wr, G, n, P, St, val, rfl, W, hst, hfp, hval, hfit, hQ⟩ := h₂
  refine wpAny_bind (wpAny_mkInt ?_)
  refine wpAny_bind (wpAny_pure ?_)
  simp only [List.forIn_cons, List.forIn_nil]
  refine wpAny_bind (wpAny_bind (wpAny_bind (wpAny_isInstance (T := "int") (b := false) (typeIs_int _ _ _) PySem.sub_int_str ?_)))
  simp only [Bool.false_eq_true, if_false]
  refine wpAny_pure (wpAny_bind (wpAny_bind (wpAny_isInstance (T := "int") (b := false) (typeIs_int _ _ _) PySem.sub_int_bytes ?_)))
  simp only [Bool.false_eq_true, if_false]
  refine wpAny_pure (wpAny_bind (wpAny_bind (wpAny_isInstance (T := "int") (b := false) (typeIs_int _ _ _) PySem.sub_int_bytearray ?_)))
  simp only [Bool.false_eq_true, if_false]
  refine wpAny_pure (wpAny_pure ?_)
  refine wpAny_bind (wpAny_newObj_type ?_)
  have hSf : s₂.heap.objs.size ∉ fp := fun hm => Nat.lt_irrefl _ (hfp _ hm)
  refine wpAny_pure ⟨plainId_quiet F.plain_sum_loop _, sum_loopB W val hval hfit s₂.heap.objs.size hSf n 0 _ s₂.toks 0 rfl (Nat.zero_le _)
    (W.frame 0 s₂ _ _ hst (by first | exact Nat.le_refl _ | exact Nat.le_succ _ | omega) fun b _ o e => Heap.get?_push_of_some _ e) (Heap.get?_push_size _ rfl) fun s' t' hm => ?_⟩
  exact hQ s' t' (hm.drop_new (by first | exact Nat.le_refl _ | exact Nat.le_succ _ | omega))

theorem preSum_count (val : Nat → Bool) : ∀ n, preSum (fun i => if val i then 1 else 0) n = (((List.range n).filter val).length : Nat)
  | 0 => rfl
  | n + 1 => by
    show preSum _ n + _ = _
    rw [preSum_count val n, List.range_succ, List.filter_append, List.length_append]
    cases h : val n <;> simp [h]

/-- what a generator's consumer leaves -/
theorem moved_out {s s' : Shared} {wr : List Addr} {g : Nat} {Q : Shared → Prop} (Fh : Fr h₀ L s.heap m) (G : AllBare s.gens) (hm : Moved wr (GenOnlyQ g) s s') (hwr : ∀ b ∈ wr, L < b)
    (h : ∀ h' tk g', Fr h₀ L h' m → AllBare g' → (∀ b o, b ≤ L → s.heap.get? b = some o → h'.get? b = some o) → Q { s with heap := h', toks := tk, gens := g' }) : Q s' := by
  have F' := Fh.moved hm hwr
  have G' := G.movedS hm
  have k : ∀ b o, b ≤ L → s.heap.get? b = some o → s'.heap.get? b = some o := fun b o hb e => hm.heap b o (fun hmem => Nat.lt_irrefl _ (Nat.lt_of_lt_of_le (hwr b hmem) hb)) e
  have h1 := hm.os
  have h2 := hm.drawn
  obtain ⟨h', g', d', t', o'⟩ := s'
  dsimp only at h1 h2
  subst h1 h2
  exact h h' t' g' F' G' k
theorem sum_gen {a : Addr} {n : Nat} {F : Nat → Value → Prop} {Q : Value → Shared → Prop} (Fh : Fr h₀ L s.heap m) (G : AllBare s.gens) (X : Gen prog w A L a n F s) (val : Nat → Bool) (hval : ∀ j v, F j v → v = .bool (val j)) (hn : n ≤ 1000)
    (h : ∀ h' tk g' t', Fr h₀ L h' m → AllBare g' → (∀ b o, b ≤ L → s.heap.get? b = some o → h'.get? b = some o) → Q (.int (((List.range n).filter val).length : Nat) t') { s with heap := h', toks := tk, gens := g' }) : wpAny (model prog w) A (call (.builtin "sum") [.ref a]) Q E s := by
  obtain ⟨fp, wr, g, St, W, hst, _, _, hfp, hwr⟩ := X
  have W := W.in4_1
  refine call_sumB (W.self 0 _ _ _ hst ⟨a, _, _, _, _, _, _, val, rfl, W, hst, hfp, hval, fun j hj => ?_, fun s' t' hm => ?_⟩)
  · rw [preSum_count]
    have : ((List.range (j + 1)).filter val).length ≤ j + 1 := by simpa using List.length_filter_le val (List.range (j + 1))
    constructor <;> omega
  · rw [preSum_count]
    exact moved_out (Q := fun s' => Q _ s') Fh G hm hwr fun h' tk g' F' G' k => h h' tk g' t' F' G' k
theorem max_gen {a : Addr} {n : Nat} {F : Nat → Value → Prop} {Q : Value → Shared → Prop} (Fh : Fr h₀ L s.heap m) (G : AllBare s.gens) (X : Gen prog w A L a n F s) (hn : 0 < n) (val : Nat → Int) (hval : ∀ j v, F j v → ∃ t, v = .int (val j) t)
    (h : ∀ h' tk g' j t', Fr h₀ L h' m → AllBare g' → (∀ b o, b ≤ L → s.heap.get? b = some o → h'.get? b = some o) → j < n → (∀ i, i < n → val i ≤ val j) → Q (.int (val j) t') { s with heap := h', toks := tk, gens := g' }) : wpAny (model prog w) A (call (.builtin "max") [.ref a]) Q E s := by
  obtain ⟨fp, wr, g, St, W, hst, _, _, hfp, hwr⟩ := X
  have W := W.in4_1
  refine call_max_walkS (W.self 0 _ _ _ hst ⟨a, _, _, _, _, _, _, _, rfl, W, hst, hfp, hn, CmpOf.ints_gt val hval, fun v s' hv hm => ?_⟩)
  obtain ⟨t, rfl⟩ := hval _ v hv
  have hb := argBest_gt val (n - 1)
  exact moved_out (Q := fun s' => Q _ s') Fh G hm hwr fun h' tk g' F' G' k => h h' tk g' _ t F' G' k (by omega) fun i hi => hb.2 i (by omega)
theorem all_gen {a : Addr} {n : Nat} {F : Nat → Value → Prop} {Q : Value → Shared → Prop} (Fh : Fr h₀ L s.heap m) (G : AllBare s.gens) (X : Gen prog w A L a n F s) (val : Nat → Bool) (hval : ∀ j v, F j v → v = .bool (val j))
    (h : ∀ h' tk g', Fr h₀ L h' m → AllBare g' → (∀ b o, b ≤ L → s.heap.get? b = some o → h'.get? b = some o) → Q (.bool ((List.range n).all val)) { s with heap := h', toks := tk, gens := g' }) : wpAny (model prog w) A (call (.builtin "all") [.ref a]) Q E s := by
  obtain ⟨fp, wr, g, St, W, hst, _, _, hfp, hwr⟩ := X
  have W := W.in4_1
  refine call_all_walkS (W.self 0 _ _ _ hst ⟨a, _, _, _, _, _, _, val, rfl, W, hst, fun i v s Q E hv hQ => ?_, fun s' hm => ?_⟩)
  · obtain rfl := hval i v hv
    exact wpAny_truthy_bool hQ
  · exact moved_out (Q := fun s' => Q _ s') Fh G hm hwr fun h' tk g' F' G' k => h h' tk g' F' G' k
end

/-- all but the tables kept -/
def Kept (Ps : List Addr) (h h' : Heap) : Prop := ∀ b o, b ∉ Ps → h.get? b = some o → h'.get? b = some o
def Tabs (Ps : List Addr) (h : Heap) : Prop := ∀ P ∈ Ps, ∃ ps, h.get? P = some (tabObj ps)
/-- a def that makes generators -/
def PaysT (prog : Program) (w : World) (A : Around) (c : Code) (s : Shared) (Ps : List Addr) (Q : Value → Heap → Prop) : Prop :=
  AllBare s.gens → ∀ R : Result → Shared → Prop, (∀ v h' tk g', Kept Ps s.heap h' → Tabs Ps h' → AllBare g' → Q v h' → R (.ok (.ret v)) { s with heap := h', toks := tk, gens := g' }) → codeAny (model prog w) A c R s
structure Tab (g h : Heap) (P : Addr) : Prop where
  at' : h.get? P = some (tabObj #[])
  no : g.get? P = none

theorem fr_keptT {h₀ h h' : Heap} {L : Addr} {m : Str → Option Value} {Ps : List Addr} (F : Fr h₀ L h m) (hP : ∀ P ∈ Ps, h₀.get? P = none ∧ P ≠ L) (k : Kept Ps h h') : Fr h₀ L h' m :=
  ⟨F.ns.at' fun o e => k L o (fun q => (hP L q).2 rfl) e, fun b o e => k b o (fun q => by rw [(hP b q).1] at e; cases e) (F.keep b o e), F.above⟩
theorem news_keptT {h₀ h h' : Heap} {L : Addr} {news : List (Addr × Obj)} {Ps : List Addr} (N : News h₀ L h news) (k : Kept Ps h h') (news' : List (Addr × Obj)) (e : ∀ q ∈ news', q ∈ news ∧ q.1 ∉ Ps) : News h₀ L h' news' :=
  fun q hq => ⟨k _ _ (e q hq).2 (N q (e q hq).1).1, (N q (e q hq).1).2⟩
theorem PaysT.use {prog : Program} {w : World} {A : Around} {s : Shared} {f : Value} {pos : List Value} {kw : List (Str × Value)} {Ps : List Addr} {Q₀ : Value → Heap → Prop} {Q E : Value → Shared → Prop} (G : AllBare s.gens) (hp : PaysT prog w A (.call f ⟨pos, kw⟩) s Ps Q₀)
    (h : ∀ v h' tk g', Kept Ps s.heap h' → Tabs Ps h' → AllBare g' → Q₀ v h' → Q v { s with heap := h', toks := tk, gens := g' }) : wpAny (model prog w) A (call f pos kw) Q E s := wpAny_call (hp G _ h)

noncomputable def fixT : List Addr → Heap → Heap
  | [], h => h
  | P :: r, h => fixT r (h.update P fun _ => tabObj #[])
theorem fixT_other : ∀ (Ps : List Addr) (h : Heap) {b : Addr}, b ∉ Ps → (fixT Ps h).get? b = h.get? b
  | [], _, _, _ => rfl
  | P :: r, h, b, hb => by
    show (fixT r _).get? b = _
    rw [fixT_other r _ (fun q => hb (List.mem_cons_of_mem _ q))]
    exact Heap.get?_update_other _ _ (fun q : P = b => hb (q ▸ List.mem_cons_self))
theorem fixT_self : ∀ (Ps : List Addr) (h : Heap), Tabs Ps h → ∀ P ∈ Ps, (fixT Ps h).get? P = some (tabObj #[])
  | P :: r, h, hT, P', hP' => by
    have e1 : (h.update P fun _ => tabObj #[]).get? P = some (tabObj #[]) := by
      obtain ⟨ps, e⟩ := hT P List.mem_cons_self
      exact Heap.get?_update_self (fun _ => tabObj #[]) e rfl
    show (fixT r _).get? P' = _
    by_cases hr : P' ∈ r
    · refine fixT_self r _ (fun Q hQ => ?_) P' hr
      by_cases e : P = Q
      · subst e; exact ⟨_, e1⟩
      · obtain ⟨ps, e2⟩ := hT Q (List.mem_cons_of_mem _ hQ)
        exact ⟨ps, (Heap.get?_update_other _ _ e).trans e2⟩
    · rw [fixT_other r _ hr]
      rcases List.mem_cons.mp hP' with rfl | q
      · exact e1
      · exact absurd q hr
theorem Back.keepT {h₀ h h' : Heap} {own : List (Addr × Obj)} (B : Back h₀ h own) (Ps : List Addr) (hP : ∀ P ∈ Ps, h₀.get? P = none) (k : h₀.StaysIn h') (hT : Tabs Ps h') (hown : ∀ q ∈ own, (q.1 ∈ Ps ∧ q.2 = tabObj #[]) ∨ (q.1 ∉ Ps ∧ h'.get? q.1 = some q.2)) : Kept Ps h h' := by
  have z := B.keep (fixT Ps h') (fun b o e => by rw [fixT_other Ps h' fun q => by rw [hP b q] at e; cases e]; exact k b o e) (fun q hq => by
    rcases hown q hq with ⟨h1, h2⟩ | ⟨h1, h2⟩
    · rw [h2]; exact fixT_self Ps h' hT _ h1
    · rw [fixT_other Ps h' h1]; exact h2)
  intro b o hb e
  have := z b o e
  rwa [fixT_other Ps h' hb] at this
end Mine
end
set_option maxHeartbeats 4000000
/- part Mh0 -/
section
namespace Mine
theorem fillMh0 : (PySem.Challenge.rw_br0041_01 = PySem.Challenge.rw_br0041_01 ∧ hd.heap_39 = hd.heap_39) := by
  k_fill
  exact ⟨rfl, rfl⟩
section
variable {M : Model} {A : Around} {E : Value → Shared → Prop} {s : Shared}
theorem nameG_free {sc : Scope} {cl : List (Str × Addr)} {C c b : Addr} {code v : Value} {env : Env} {x : Str} {pos : Pos} {o : Obj} {h₀ : Heap} {L : Addr} {news : List (Addr × Obj)} {Q : Value → Shared → Prop} (N : News h₀ L s.heap news) (hk : sc.kind = .function) (hl : sc.names.lookup x = some .free) (hc : cl.lookup x = some c)
    (hm : (c, o) ∈ news) (hd : o.data = .cell (some v)) (h : Q v s) (hn : (x == ("__classdict__" : Str)) = false) (hdb : (x == ("__debug__" : Str)) = false) : wpAny M A (eval (.Name x pos) (genEnv sc cl C code b env)) Q E s :=
  wpAny_Name (wpAny_loadName_free hk hl hc ⟨o, (N _ hm).1, hd⟩ h hn) hdb
theorem nameG_local {sc : Scope} {cl : List (Str × Addr)} {C b : Addr} {code v : Value} {env : Env} {x : Str} {pos : Pos} {h₀ : Heap} {m : Str → Option Value} {Q : Value → Shared → Prop} (F : Fr h₀ C s.heap m) (hk : sc.kind = .function) (hl : sc.names.lookup x = some .local) (hv : m x = some v) (h : Q v s) (hdb : (x == ("__debug__" : Str)) = false) :
    wpAny M A (eval (.Name x pos) (genEnv sc cl C code b env)) Q E s :=
  ldG (cenv := genEnv sc cl C code b env) F.ns hv h hk hl hdb
theorem starOf_mono {v : Value} {Q Q' : List Value → Shared → Prop} (h : StarOf M A E v Q s) (k : ∀ vs s', Q vs s' → Q' vs s') : StarOf M A E v Q' s :=
  wpAny_mono h (fun b s₂ h₂ => ⟨h₂.1, wpAny_mono h₂.2 (fun vs s₃ h₃ => k vs s₃ h₃) fun _ _ x => x⟩) fun _ _ x => x
theorem callWith_TS {T : String} {first : List Value} {pos p : Pos} {e : Expr} {env : Env} {Q : Value → Shared → Prop} (h : wpAny M A (eval e env) (fun v s₁ => StarOf M A E v (fun vs s₂ => wpAny M A (call (.type T) (first ++ vs)) Q E s₂) s₁) E s)
    (he : starEach [.Starred e p] env = [(true, eval e env)] := by rfl) : wpAny M A (callWith pos (.type T) first (backTo pos (starEach [.Starred e p] env)) []) Q E s := by
  rw [he]
  exact ks_call (P := fun _ => True) rfl (fun _ _ => ⟨.machine, .inr (.inl rfl), .now⟩) (ks_lone (wpAny_mono h (fun v s₁ h₁ => starOf_mono h₁ fun vs s₂ h₂ => ⟨trivial, h₂⟩) fun _ _ x => x))
end
section
variable {prog : Program} {w : World} {A : Around} {s : Shared} {p : Program} {loose : List Str} {mean : ExcName → Option Value} {mg mb : Str → Option Value} {g : Heap}
local macro_rules | `(tactic| walk_at "pyIter ref") => `(tactic| (k_here; refine stop_it ?_))
local macro_rules | `(tactic| walk_at "call ref") => `(tactic| (k_here; refine stop_it ?_))
local macro_rules | `(tactic| walk_at "setItem ref ref") => `(tactic| (k_here; refine stop_it ?_))
local macro_rules | `(tactic| walk_at "exec For Tuple") => `(tactic| (k_here; refine stop_it ?_))
local macro_rules | `(tactic| walk_at "getMethod ref") => `(tactic| (k_here; k_dflt (first
  | (refine' kmu_own ?k1 ?k2 ?k3 ?k4 ?k5 ?_; (case k1 => k_asm); (case k2 => k_asm); (case k3 => k_inst); (case k4 => k_is); (case k5 => k_is); k_whole)
  | (refine' method_inst ?k1 ?k2 ?k3 ?k4 ?k5 ?k6 ?k7 ?_; (case k1 => k_asm); (case k2 => k_asm); (case k3 => k_inst); (case k4 => k_is); (case k5 => k_is); (case k6 => k_is); (case k7 => k_get); k_whole))))
local macro_rules | `(tactic| walk_at "last getAttr ref") => `(tactic| (k_here; k_dflt (refine' attr_sm ?k1 ?k2 ?k4 ?k5 ?k6 ?k7 ?k9 ?k10 ?k11 ?k12 ?k13 ?k14 ?_; (case k1 => k_asm); (case k2 => k_asm); (case k4 => k_inst); (case k5 => k_is); (case k6 => k_is); (case k7 => k_is); (case k9 => k_is); (case k10 => k_is); (case k11 => decide +kernel); (case k12 => k_get); (case k13 => k_is); (case k14 => k_handed); k_whole)))
local macro_rules | `(tactic| walk_at "last eval Call Attribute") => `(tactic| (k_here; refine methodCall_S ?_))
local macro_rules | `(tactic| walk_at "eval Call Attribute") => `(tactic| (k_here; (with_reducible show wpAny _ _ (eval (Expr.Call (Expr.Attribute _ _ _) [Expr.Starred _ _] [] _) _) _ _ _); refine methodCall_S ?_))
local macro_rules | `(tactic| walk_at "call builtin:len") => `(tactic| (k_here; refine' len_TupAt ?k1 ?k2 ?_; (case k1 => k_asm); (case k2 => k_asm); intro _ _; k_whole))
local macro_rules | `(tactic| walk_at "getItem ref int") => `(tactic| (k_here; refine' getItem_TupAt ?k1 ?k2 ?k3 ?_; (case k1 => k_asm); (case k2 => k_asm); (case k3 => omega); intro _; k_whole))
local macro_rules | `(tactic| walk_at "subscriptTail") => `(tactic| (k_here; first
  | (refine' item_TupAt ?k1 ?k2 ?k3 ?_; (case k1 => k_asm); (case k2 => k_asm); (case k3 => omega); intro _; k_whole)
  | (refine' item_fn ?k1 ?k2 ?k3 ?k4 ?_; (case k1 => k_asm); (case k2 => k_mem); (case k3 => with_reducible assumption); (case k4 => omega); intro _; k_whole)))
local macro_rules | `(tactic| walk_at "call builtin:min") => `(tactic| (k_here; (with_reducible show wpAny _ _ (call (Value.builtin "min") [Value.int _ _, Value.int _ _]) _ _ _); (rename Around.handled _ = none => hX); refine' min2N hX ?k2 ?k3 ?_; (case k2 => k_asm); (case k3 => k_asm); k_whole; intro h' tk' t' F' N'))
local macro_rules | `(tactic| walk_at "call builtin:min") => `(tactic| (k_here; (with_reducible show wpAny _ _ (call (Value.builtin "min") [Value.int _ _, Value.int _ _, Value.int _ _]) _ _ _); (rename Around.handled _ = none => hX); refine' min3N hX ?k2 ?k3 ?_; (case k2 => k_asm); (case k3 => k_asm); k_whole; intro h' tk' t' F' N'))
local macro_rules | `(tactic| walk_at "call builtin:min") => `(tactic| (k_here; (with_reducible show wpAny _ _ (call (Value.builtin "min") [Value.int _ _, Value.int _ _, Value.int _ _, Value.int _ _]) _ _ _); (rename Around.handled _ = none => hX); refine' min4N hX ?k2 ?k3 ?_; (case k2 => k_asm); (case k3 => k_asm); k_whole; intro h' tk' t' F' N'))
local macro_rules | `(tactic| walk_at "setItem ref int int") => `(tactic| (k_here; refine' setItem_fn ?k1 ?k2 ?k3 ?k4 ?k5 ?_; (case k1 => k_asm); (case k2 => k_asm); (case k3 => k_upd); (case k4 => with_reducible assumption); (case k5 => omega); k_whole; intro h' F' N' i'))
local macro_rules | `(tactic| walk_at "assign Tuple") => `(tactic| (k_here; (with_reducible show wpAny _ _ (assign (Expr.Tuple _ _ _) _ (Value.ref _)) _ _ _); k_dflt (refine' kun_list ?k1 ?k2 ?k3 ?k4 ?k5 ?k6 ?_; (case k1 => k_asm); (case k2 => k_asm); (case k3 => kun_lst); (case k4 => assumption); (case k5 => exact rfl); (case k6 => exact rfl); k_whole); intro h' F' N'; (try k_sweep)))
local macro_rules | `(tactic| walk_at "assign Tuple") => `(tactic| (k_here; (with_reducible show wpAny _ _ (assign (Expr.Tuple _ _ _) _ (Value.ref _)) _ _ _); k_dflt (refine' unpackN_ ?k1 ?k2 ?k3 ?k4 ?k5 ?k6 ?_; (case k1 => k_asm); (case k2 => k_asm); (case k3 => kun_tup); (case k4 => assumption); (case k5 => exact rfl); (case k6 => exact rfl); k_whole); intro h' F' N'; (try k_sweep)))
local macro_rules | `(tactic| walk_at "unpackItems ref") => `(tactic| (k_here; k_dflt (refine' unpackItemsN_ ?k1 ?k2 ?k3 ?k4 ?k5 ?_; (case k1 => k_asm); (case k2 => k_asm); (case k3 => kun_tup); (case k4 => assumption); (case k5 => exact rfl); k_whole); intro h' F' N'; (try k_sweep)))
local macro_rules | `(tactic| walk_at "call type:list") => `(tactic| (k_here; refine' list_range_N ?k0 ?k1 ?k2 ?k3 ?k4 ?k5 ?k6 ?_; (case k1 => k_asm); (case k2 => k_asm); (case k0 => assumption); (case k3 => assumption); (case k4 => omega); (case k5 => exact small_one (by omega) (by omega) (by omega) (by omega)); (case k6 => omega); intro D' h' tk' vs' k' F' N' l1 i1; (try k_lt l1)))
local macro_rules | `(tactic| k_ne) => `(tactic| first | with_reducible assumption | (refine Ne.symm ?_; with_reducible assumption) | (refine neN ?_; (try dsimp only); omega))
theorem star_keep {a : Addr} {o : Obj} {T : String} {its : Array Value} {n : Nat} {E : Value → Shared → Prop} {Q : List Value → Shared → Prop} (D : s.heap.get? a = some o) (hc : o.cls = .type T) (hd : o.data = .seq its n) (hT : T = "list" ∨ T = "tuple")
    (hz : its.size ≤ sizeLine) (h : ∀ h', s.heap.StaysIn h' → Q its.toList { s with heap := h' }) : StarOf (model prog w) A E (.ref a) Q s := by
  have hT' : s.TypeIs (.ref a) T := ⟨o, D, hc⟩
  have z : wpAny (model prog w) A (collect (.ref a)) Q E s := wpAny_collect_seq a hT D hc hd (fun h' hk => h h' hk) hz
  unfold StarOf notIterableAtAll
  rcases hT with rfl | rfl
  · exact wpAny_bind (wpAny_specialOf hT' PySem.F.slot_list_iter.lookup (wpAny_pure ⟨rfl, z⟩))
  · exact wpAny_bind (wpAny_specialOf hT' PySem.F.slot_tuple_iter.lookup (wpAny_pure ⟨rfl, z⟩))
local macro_rules | `(tactic| walk_at "StarOf ref") => `(tactic| (k_here; refine stop_it ?_))
theorem ham_elt {h₀ : Heap} {sc : Scope} {cl : List (Str × Addr)} {C cS T x dx : Addr} {c' : Value} {env : Env} {E : Value → Shared → Prop} {t : Shared} {m₂ : Str → Option Value} {v1 v2 : Value} {i j : Option Int} {oS : Obj} {p1 p2 p3 p4 p5 p6 : Pos} {t0 t1 t2 t3 : Tok}
    (X : (hd.heap_39 w.params).In h₀) (T₀ : Top p loose mean mg mb h₀) (H : Room A 2 40) (H' : Room A 1 20)
    (hk : sc.kind = .function) (l1 : sc.names.lookup (Str.ofString "es") = some .local) (l2 : sc.names.lookup (Str.ofString "self") = some .free) (l3 : cl.lookup (Str.ofString "self") = some cS)
    (F : Fr h₀ C t.heap m₂) (hm : m₂ (Str.ofString "es") = some (.ref T)) (hS : oS.data = .cell (some (.ref x)))
    (N : News h₀ C t.heap [(T, { cls := .type "tuple", data := .seq #[v1, v2] }), (cS, oS), (x, instObj 228 dx), (dx, dictOf (hamAt w t0 t1 t2 t3) 4)])
    (h1 : isOpt i v1 = true) (h2 : isOpt j v2 = true) :
    wpAny (model prog w) A (eval (.UnaryOp .Not (.Call (.Attribute (.Name (Str.ofString "self") p1) (Str.ofString "test_func") p2) [.Starred (.Name (Str.ofString "es") p3) p4] [] p5) p6) (genEnv sc cl C c' builtinsNs env))
      (fun y s₃ => y = .bool (!decide (i = j)) ∧ Keeps t s₃) E t := by
  w_top off
  have hh := H.hh
  walk1
  walk1
  refine nameG_free N hk l2 l3 (by k_mem) hS ?_ (by decide) (by decide)
  walk1
  walk1
  refine nameG_local F hk l1 hm ?_ (by decide)
  k_steps
  refine star_keep (N _ (.head _)).1 rfl rfl (.inr rfl) (by rw [sizeLine_eq]; simp) ?_
  intro h₁ st1
  have F1 := fr_stay F st1
  have N1 := news_stay N st1
  clear F N
  dsimp only at st1 ⊢
  k_steps
  refine Pays.use (ident_opt h1 h2 (On.of X T₀ F1) H') ?_
  intro v h₂ tk st hv
  subst hv
  dsimp only at st ⊢
  have F2 := fr_stay F1 st
  k_steps
  exact ⟨h₂, tk, rfl, fun b o e => st b o (st1 b o e)⟩
theorem pad_opt {vs : List Value} {ns : List Int} (h : IntsAre vs ns) (k : Nat) (i : Nat) (v : Value) (e : (vs ++ List.replicate k Value.none)[i]? = some v) : isOpt ns[i]? v = true := by
  have hl : vs.length = ns.length := h.length
  by_cases hi : i < vs.length
  · rw [List.getElem?_append_left hi] at e
    obtain ⟨t, ht⟩ := h.get i ns[i] (by simp [hl ▸ hi])
    rw [ht] at e
    have h2 : ns[i]? = some ns[i] := by simp [hl ▸ hi]
    rw [h2]
    cases e
    simp [isOpt]
  · rw [List.getElem?_append_right (Nat.le_of_not_lt hi)] at e
    have h2 : ns[i]? = none := List.getElem?_eq_none (by omega)
    obtain ⟨h3, h4⟩ := List.getElem?_eq_some_iff.mp e
    rw [List.getElem_replicate] at h4
    rw [h2, ← h4]
    rfl
theorem ham_src {h₀ : Heap} {L : Addr} {m : Str → Option Value} {news : List (Addr × Obj)} {sc : Scope} {cl : List (Str × Addr)} {cS DA DB x dx : Addr} {env : Env} {E : Value → Shared → Prop} {us ws : List Value} {k1 k2 : Nat} {as bs : Nat → Option Int} {oS : Obj} {p1 p2 p3 p4 p5 p6 : Pos} {t0 t1 t2 t3 : Tok} {Q : Value → Shared → Prop}
    (X : (hd.heap_39 w.params).In h₀) (T₀ : Top p loose mean mg mb h₀) (H : Room A 4 60)
    (hk : sc.kind = .function) (l1 : sc.names.lookup (Str.ofString "es") = some .local) (l2 : sc.names.lookup (Str.ofString "self") = some .free) (l3 : cl.lookup (Str.ofString "self") = some cS)
    (F : Fr h₀ L s.heap m) (N : News h₀ L s.heap news) (bare : AllBare s.gens) (mA : (DA, listOf us.toArray k1) ∈ news) (mB : (DB, listOf ws.toArray k2) ∈ news) (mS : (cS, oS) ∈ news) (hS : oS.data = .cell (some (.ref x)))
    (mx : (x, instObj 228 dx) ∈ news) (md : (dx, dictOf (hamAt w t0 t1 t2 t3) 4) ∈ news) (mP : (222, tabObj #[]) ∈ news) (hP : @LT.lt Nat _ 222 L)
    (zu : us.length = ws.length) (ou : ∀ i v, us[i]? = some v → isOpt (as i) v = true) (ow : ∀ i v, ws[i]? = some v → isOpt (bs i) v = true)
    (hQ : ∀ (a : Addr) h₅ tk g' ps', Fr h₀ L h₅ m → AllBare g' → (∀ b o, b ≠ 222 → s.heap.get? b = some o → h₅.get? b = some o) → h₅.get? 222 = some (tabObj ps') →
      Gen prog w A L a us.length (fun i y => y = .bool (!decide (as i = bs i))) { s with heap := h₅, toks := tk, gens := g' } → Q (.ref a) { s with heap := h₅, toks := tk, gens := g' }) :
    wpAny (model prog w) A (call (.type "zip") [.ref DA, .ref DB]) (fun xv s₁ => wpAny (model prog w) A (pyIter xv) (fun it s₂ => GenSrc prog w A h₀ L m 222 #[] sc cl env
      (.UnaryOp .Not (.Call (.Attribute (.Name (Str.ofString "self") p1) (Str.ofString "test_func") p2) [.Starred (.Name (Str.ofString "es") p3) p4] [] p5) p6) (Str.ofString "es") Q it s₂) E s₁) E s := by
  have lt := news_lt N
  have hL : @LT.lt Nat _ L s.heap.objs.size := F.ns.lt
  have ltA : @LT.lt Nat _ DA s.heap.objs.size := lt _ mA
  have ltB : @LT.lt Nat _ DB s.heap.objs.size := lt _ mB
  refine call_zip_2 ⟨_, (N _ mA).1, rfl, _, rfl⟩ ⟨_, (N _ mB).1, rfl, _, rfl⟩ fun h9 hz hTI hTO hi1 hi2 hsz9 st9 => ?_
  have D := zipApart_new (n := s.heap.objs.size) ltA ltB
  have hsz : us.toArray.size = ws.toArray.size := by simpa using zu
  have hst : ZipSt (s.heap.objs.size + 4) (s.heap.objs.size + 2) (s.heap.objs.size + 3) s.heap.objs.size (s.heap.objs.size + 1) DA DB us.toArray ws.toArray 0 h9 :=
    ⟨⟨.none, false, hz, .inl rfl⟩, hTI, ⟨_, _, hTO⟩, hi1, hi2, ⟨_, st9 _ _ (N _ mA).1, rfl, _, rfl⟩, ⟨_, st9 _ _ (N _ mB).1, rfl, _, rfl⟩⟩
  have W := fun (A' : Around) (hA : A'.handled = none) => walk_zip (prog := prog) (w := w) hA _ _ _ _ _ _ _ D us.toArray ws.toArray hsz
  refine (W A H.hh).self 0 _ _ _ hst ?_
  have neP : ∀ c o, (c, o) ∈ news → o ≠ tabObj #[] → @Ne Nat c 222 := fun c o hm hne q => by
    subst q
    have e := (N _ hm).1
    rw [(N _ mP).1] at e
    exact hne (Option.some.inj e).symm
  refine ⟨fr_stay F st9, st9 _ _ (N _ mP).1, hP, bare, s.heap.objs.size + 4, _, _, us.toArray.size, _, _, fun i y => y = .bool (!decide (as i = bs i)), rfl, W, hst, ?_, ?_, ?_, ?_, ?_⟩
  · intro b hb
    show @LT.lt Nat _ b h9.objs.size
    rw [hsz9]
    simp only [List.mem_cons, List.not_mem_nil, or_false] at hb
    generalize s.heap.objs.size = n at *
    rcases hb with rfl | rfl | rfl | rfl | rfl | rfl | rfl <;> omega
  · intro hb
    have nA := neP _ _ mA (fun q => by cases q)
    have nB := neP _ _ mB (fun q => by cases q)
    simp only [List.mem_cons, List.not_mem_nil, or_false] at hb
    generalize s.heap.objs.size = n at *
    rcases hb with e | e | e | e | e | e | e
    · exact absurd (show @Eq Nat _ _ from e) (by omega)
    · exact absurd (show @Eq Nat _ _ from e) (by omega)
    · exact absurd (show @Eq Nat _ _ from e) (by omega)
    · exact absurd (show @Eq Nat _ _ from e) (by omega)
    · exact absurd (show @Eq Nat _ _ from e) (by omega)
    · exact nA e.symm
    · exact nB e.symm
  · intro b hb
    show @LT.lt Nat _ L b
    simp only [List.mem_cons, List.not_mem_nil, or_false] at hb
    generalize s.heap.objs.size = n at *
    rcases hb with rfl | rfl | rfl | rfl <;> omega
  · intro c' C A' E' i v t m₂ hA hD hU hPv Fc hm hLC hsC old
    obtain ⟨T, u, v', rfl, hlt, hu, hv, hT⟩ := hPv
    have hTC : T ≠ C := fun q => by
      subst q
      obtain ⟨o, es, ep, e, hd, _⟩ := Fc.ns
      rw [hT] at e
      cases e
      cases hd
    have h0T : h₀.get? T = none := Heap.get?_none_of_le (Nat.le_trans F.above (Nat.le_of_lt (Nat.lt_trans (Nat.lt_trans hL (Nat.lt_add_of_pos_right (by decide))) hlt)))
    have one : ∀ c o, (c, o) ∈ news → o ≠ tabObj #[] → t.heap.get? c = some o ∧ c ≠ C ∧ h₀.get? c = none := fun c o hmem hne => by
      have l := lt _ hmem
      refine ⟨old c o (neP c o hmem hne) (fun hw => ?_) (st9 _ _ (N _ hmem).1), fun q => ?_, (N _ hmem).2.2⟩
      · simp only [List.mem_cons, List.not_mem_nil, or_false] at hw
        replace l : @LT.lt Nat _ c s.heap.objs.size := l
        generalize s.heap.objs.size = n at *
        rcases hw with e | e | e | e <;> exact absurd (show @Eq Nat _ _ from e) (by omega)
      · replace l : @LT.lt Nat _ c s.heap.objs.size := l
        replace hsC : @LE.le Nat _ h9.objs.size C := hsC
        rw [hsz9] at hsC
        rw [q] at l
        generalize s.heap.objs.size = n at *
        omega
    have hd1 := H.dp
    have hu1 := H.un
    refine ham_elt (cS := cS) (x := x) (dx := dx) (T := T) (i := as i) (j := bs i) X T₀ ⟨hA, by omega, by omega⟩ ⟨hA, by omega, by omega⟩ hk l1 l2 l3 Fc hm hS
      (List.forall_mem_cons.mpr ⟨⟨hT, hTC, h0T⟩, List.forall_mem_cons.mpr ⟨one cS oS mS (fun q => by rw [q] at hS; cases hS), List.forall_mem_cons.mpr ⟨one _ _ mx (fun q => by cases q), List.forall_mem_cons.mpr ⟨one _ _ md (fun q => by cases q), fun _ h => nomatch h⟩⟩⟩⟩) (ou i u (by simpa using hu)) (ow i v' (by simpa using hv))
  · intro a h₅ tk g' ps' F5 B5 k5 P5 G5
    have e : us.toArray.size = us.length := by simp
    rw [e] at G5
    exact hQ a h₅ tk g' ps' F5 B5 (fun b o hb e => k5 b o hb (st9 b o e)) P5 G5
end
end Mine
end
set_option maxHeartbeats 4000000
/- part Mh1 -/
section
namespace Mine
theorem fillMh1 : (PySem.Challenge.rw_br0041_01 = PySem.Challenge.rw_br0041_01 ∧ hd.heap_39 = hd.heap_39) := by
  k_fill
  exact ⟨rfl, rfl⟩
section
variable {prog : Program} {w : World} {A : Around} {s : Shared} {p : Program} {loose : List Str} {mean : ExcName → Option Value} {mg mb : Str → Option Value} {g : Heap}
local macro_rules | `(tactic| walk_at "pyIter ref") => `(tactic| (k_here; refine stop_it ?_))
local macro_rules | `(tactic| walk_at "call ref") => `(tactic| (k_here; refine stop_it ?_))
local macro_rules | `(tactic| walk_at "setItem ref ref") => `(tactic| (k_here; refine stop_it ?_))
local macro_rules | `(tactic| walk_at "exec For Tuple") => `(tactic| (k_here; refine stop_it ?_))
local macro_rules | `(tactic| walk_at "getMethod ref") => `(tactic| (k_here; k_dflt (first
  | (refine' kmu_own ?k1 ?k2 ?k3 ?k4 ?k5 ?_; (case k1 => k_asm); (case k2 => k_asm); (case k3 => k_inst); (case k4 => k_is); (case k5 => k_is); k_whole)
  | (refine' method_inst ?k1 ?k2 ?k3 ?k4 ?k5 ?k6 ?k7 ?_; (case k1 => k_asm); (case k2 => k_asm); (case k3 => k_inst); (case k4 => k_is); (case k5 => k_is); (case k6 => k_is); (case k7 => k_get); k_whole))))
local macro_rules | `(tactic| walk_at "last getAttr ref") => `(tactic| (k_here; k_dflt (refine' attr_sm ?k1 ?k2 ?k4 ?k5 ?k6 ?k7 ?k9 ?k10 ?k11 ?k12 ?k13 ?k14 ?_; (case k1 => k_asm); (case k2 => k_asm); (case k4 => k_inst); (case k5 => k_is); (case k6 => k_is); (case k7 => k_is); (case k9 => k_is); (case k10 => k_is); (case k11 => decide +kernel); (case k12 => k_get); (case k13 => k_is); (case k14 => k_handed); k_whole)))
local macro_rules | `(tactic| walk_at "last eval Call Attribute") => `(tactic| (k_here; refine methodCall_S ?_))
local macro_rules | `(tactic| walk_at "eval Call Attribute") => `(tactic| (k_here; (with_reducible show wpAny _ _ (eval (Expr.Call (Expr.Attribute _ _ _) [Expr.Starred _ _] [] _) _) _ _ _); refine methodCall_S ?_))
local macro_rules | `(tactic| walk_at "call builtin:len") => `(tactic| (k_here; refine' len_TupAt ?k1 ?k2 ?_; (case k1 => k_asm); (case k2 => k_asm); intro _ _; k_whole))
local macro_rules | `(tactic| walk_at "getItem ref int") => `(tactic| (k_here; refine' getItem_TupAt ?k1 ?k2 ?k3 ?_; (case k1 => k_asm); (case k2 => k_asm); (case k3 => omega); intro _; k_whole))
local macro_rules | `(tactic| walk_at "subscriptTail") => `(tactic| (k_here; first
  | (refine' item_TupAt ?k1 ?k2 ?k3 ?_; (case k1 => k_asm); (case k2 => k_asm); (case k3 => omega); intro _; k_whole)
  | (refine' item_fn ?k1 ?k2 ?k3 ?k4 ?_; (case k1 => k_asm); (case k2 => k_mem); (case k3 => with_reducible assumption); (case k4 => omega); intro _; k_whole)))
local macro_rules | `(tactic| walk_at "call builtin:min") => `(tactic| (k_here; (with_reducible show wpAny _ _ (call (Value.builtin "min") [Value.int _ _, Value.int _ _]) _ _ _); (rename Around.handled _ = none => hX); refine' min2N hX ?k2 ?k3 ?_; (case k2 => k_asm); (case k3 => k_asm); k_whole; intro h' tk' t' F' N'))
local macro_rules | `(tactic| walk_at "call builtin:min") => `(tactic| (k_here; (with_reducible show wpAny _ _ (call (Value.builtin "min") [Value.int _ _, Value.int _ _, Value.int _ _]) _ _ _); (rename Around.handled _ = none => hX); refine' min3N hX ?k2 ?k3 ?_; (case k2 => k_asm); (case k3 => k_asm); k_whole; intro h' tk' t' F' N'))
local macro_rules | `(tactic| walk_at "call builtin:min") => `(tactic| (k_here; (with_reducible show wpAny _ _ (call (Value.builtin "min") [Value.int _ _, Value.int _ _, Value.int _ _, Value.int _ _]) _ _ _); (rename Around.handled _ = none => hX); refine' min4N hX ?k2 ?k3 ?_; (case k2 => k_asm); (case k3 => k_asm); k_whole; intro h' tk' t' F' N'))
local macro_rules | `(tactic| walk_at "setItem ref int int") => `(tactic| (k_here; refine' setItem_fn ?k1 ?k2 ?k3 ?k4 ?k5 ?_; (case k1 => k_asm); (case k2 => k_asm); (case k3 => k_upd); (case k4 => with_reducible assumption); (case k5 => omega); k_whole; intro h' F' N' i'))
local macro_rules | `(tactic| walk_at "assign Tuple") => `(tactic| (k_here; (with_reducible show wpAny _ _ (assign (Expr.Tuple _ _ _) _ (Value.ref _)) _ _ _); k_dflt (refine' kun_list ?k1 ?k2 ?k3 ?k4 ?k5 ?k6 ?_; (case k1 => k_asm); (case k2 => k_asm); (case k3 => kun_lst); (case k4 => assumption); (case k5 => exact rfl); (case k6 => exact rfl); k_whole); intro h' F' N'; (try k_sweep)))
local macro_rules | `(tactic| walk_at "assign Tuple") => `(tactic| (k_here; (with_reducible show wpAny _ _ (assign (Expr.Tuple _ _ _) _ (Value.ref _)) _ _ _); k_dflt (refine' unpackN_ ?k1 ?k2 ?k3 ?k4 ?k5 ?k6 ?_; (case k1 => k_asm); (case k2 => k_asm); (case k3 => kun_tup); (case k4 => assumption); (case k5 => exact rfl); (case k6 => exact rfl); k_whole); intro h' F' N'; (try k_sweep)))
local macro_rules | `(tactic| walk_at "unpackItems ref") => `(tactic| (k_here; k_dflt (refine' unpackItemsN_ ?k1 ?k2 ?k3 ?k4 ?k5 ?_; (case k1 => k_asm); (case k2 => k_asm); (case k3 => kun_tup); (case k4 => assumption); (case k5 => exact rfl); k_whole); intro h' F' N'; (try k_sweep)))
local macro_rules | `(tactic| walk_at "call type:list") => `(tactic| (k_here; refine' list_range_N ?k0 ?k1 ?k2 ?k3 ?k4 ?k5 ?k6 ?_; (case k1 => k_asm); (case k2 => k_asm); (case k0 => assumption); (case k3 => assumption); (case k4 => omega); (case k5 => exact small_one (by omega) (by omega) (by omega) (by omega)); (case k6 => omega); intro D' h' tk' vs' k' F' N' l1 i1; (try k_lt l1)))
local macro_rules | `(tactic| k_ne) => `(tactic| first | with_reducible assumption | (refine Ne.symm ?_; with_reducible assumption) | (refine neN ?_; (try dsimp only); omega))
local macro_rules | `(tactic| walk_at "call builtin:sum") => `(tactic| (k_here; refine stop_it ?_))
local macro_rules | `(tactic| walk_at "call type:zip") => `(tactic| (k_here; refine stop_it ?_))
/-- the number of unlike places -/
def hamD (ns ms : List Int) : Int := (((List.range (max ns.length ms.length)).filter fun k => ns[k]? != ms[k]?).length : Nat)
theorem callWith_MS {h₀ : Heap} {L q f : Addr} {news : List (Addr × Obj)} {self : Value} {first : List Value} {pos p : Pos} {e : Expr} {env : Env} {E Q : Value → Shared → Prop} (_N : News h₀ L s.heap news) (_q : (q, methodObj (.ref f) self) ∈ news) (hf : fnIn (hd.heap_39 w.params) f = true)
    (h : wpAny (model prog w) A (eval e env) (fun v s₁ => StarOf (model prog w) A E v (fun vs s₂ => MethP (hd.heap_39 w.params) q f self s₂.heap ∧ wpAny (model prog w) A (call (.ref q) (first ++ vs)) Q E s₂) s₁) E s)
    (he : starEach [.Starred e p] env = [(true, eval e env)] := by rfl) :
    wpAny (model prog w) A (callWith pos (.ref q) first (backTo pos (starEach [.Starred e p] env)) []) Q E s := by
  rw [he]
  exact ks_call rfl (keeps_M hf) (ks_lone h)
theorem mul_none {h₀ : Heap} {L l : Addr} {m : Str → Option Value} {news : List (Addr × Obj)} {k : Int} {u : Tok} {E Q : Value → Shared → Prop} (F : Fr h₀ L s.heap m) (N : News h₀ L s.heap news) (hm : (l, listOf #[Value.none] 0) ∈ news) (hk : 0 ≤ k ∧ k ≤ 64)
    (h : ∀ h' D, Fr h₀ L h' m → News h₀ L h' ((D, listOf (List.replicate k.toNat Value.none).toArray 0) :: news) → (∀ q ∈ news, q.1 < D) → Q (.ref D) { s with heap := h' }) :
    wpAny (model prog w) A (binaryOp .Mult (.ref l) (.int k u)) Q E s := by
  refine mul_list F N (N _ hm).1 (by omega) (by omega) (by simp; omega) fun h' F' N' => h h' _ F' ?_ (news_lt N)
  have e : (List.foldl (fun x1 x2 => x1 ++ x2) (#[] : Array Value) (List.replicate (if (#[Value.none] : Array Value).isEmpty = true then 0 else k.toNat) #[Value.none])) = (List.replicate k.toNat Value.none).toArray := by
    have gen : ∀ (n : Nat) (acc : Array Value), List.foldl (fun x1 x2 => x1 ++ x2) acc (List.replicate n #[Value.none]) = acc ++ (List.replicate n Value.none).toArray := fun n => by
      induction n with
      | zero => intro acc; simp
      | succ n ih =>
        intro acc
        rw [List.replicate_succ, List.foldl_cons, ih, List.replicate_succ]
        apply Array.toList_inj.mp
        simp
    rw [gen]
    simp
  rw [e] at N'
  exact N'
theorem add_N {h₀ : Heap} {L l b : Addr} {m : Str → Option Value} {news : List (Addr × Obj)} {vs ws : List Value} {n n' : Nat} {E Q : Value → Shared → Prop} (F : Fr h₀ L s.heap m) (N : News h₀ L s.heap news) (hl : (l, listOf vs.toArray n) ∈ news) (hb : (b, listOf ws.toArray n') ∈ news) (hz : vs.length + ws.length ≤ 1000)
    (h : ∀ h' D, Fr h₀ L h' m → News h₀ L h' ((D, listOf (vs ++ ws).toArray 0) :: news) → (∀ q ∈ news, q.1 < D) → Q (.ref D) { s with heap := h' }) :
    wpAny (model prog w) A (binaryOp .Add (.ref l) (.ref b)) Q E s :=
  add_lists (vs := vs) (ws := ws) (hsz := by rw [sizeLine_eq]; omega) F N ⟨_, (N _ hl).1, rfl, _, rfl⟩ ⟨_, (N _ hb).1, rfl, _, rfl⟩ fun h' F' N' => h h' _ F' N' (news_lt N)
theorem Pays.useM {h₀ : Heap} {L q : Addr} {news : List (Addr × Obj)} {f self : Value} {pos : List Value} {kw : List (Str × Value)} {Q₀ : Value → Heap → Prop} {Q E : Value → Shared → Prop} (N : News h₀ L s.heap news) (hq : (q, methodObj f self) ∈ news)
    (hp : Pays prog w A (.call f ⟨self :: pos, kw⟩) s Q₀) (h : ∀ v h' tk, s.heap.StaysIn h' → Q₀ v h' → Q v { s with heap := h', toks := tk }) : wpAny (model prog w) A (call (.ref q) pos kw) Q E s :=
  wpAny_call (method_call (N _ hq).1 (hp _ h))
local macro_rules | `(tactic| walk_at "callWith ref") => `(tactic| (k_here; k_dflt (refine' callWith_MS ?k1 ?k2 ?k3 ?_; (case k1 => k_asm); (case k2 => k_mem); (case k3 => k_is))))
local macro_rules | `(tactic| walk_at "CompSrc") => `(tactic| (k_here; k_dflt (refine LCg.CompSrc.ledger (by assumption) (by k_asm) (by k_asm) (by k_mem) (by first | size_fits | exact Nat.le_of_ble_eq_true rfl) ?_; intro g'; lcg_lit)))
local macro_rules | `(tactic| walk_at "call type:list") => `(tactic| (k_here; refine stop_it ?_))
local macro_rules | `(tactic| walk_at "binaryOp Mult ref int") => `(tactic| (k_here; refine stop_it ?_))
local macro_rules | `(tactic| walk_at "binaryOp Add ref ref") => `(tactic| (k_here; refine stop_it ?_))
theorem sz_tup {va : List Value} (h : va.length ≤ 64) : va.toArray.size ≤ sizeLine := by rw [sizeLine_eq]; simp; omega
theorem k_rng {M n : Nat} (h1 : M ≤ 64) (h2 : n ≤ M) : 0 ≤ (M : Int) - n ∧ (M : Int) - n ≤ 64 := by omega
theorem sz_rep {va : List Value} {v : Value} {M n : Nat} (h : va.length ≤ 64) (h1 : M ≤ 64) : va.length + (List.replicate ((M : Int) - n).toNat v).length ≤ 1000 := by simp; omega
theorem ham_count {va : List Value} {ns ms : List Int} (h : IntsAre va ns) : ((((List.range (va ++ List.replicate ((max ns.length ms.length : Nat) - (ns.length : Int)).toNat Value.none).length).filter fun i => !decide (ns[i]? = ms[i]?)).length : Nat) : Int) = hamD ns ms := by
  have hl : va.length = ns.length := h.length
  have e : (va ++ List.replicate ((max ns.length ms.length : Nat) - (ns.length : Int)).toNat Value.none).length = max ns.length ms.length := by simp; omega
  rw [e]
  unfold hamD
  congr 2
  apply List.filter_congr
  intro i _
  rw [Bool.eq_iff_iff]
  simp
theorem szs {va : List Value} {ns ms : List Int} (h : va.length = ns.length) (h1 : ns.length ≤ 64) (h2 : ms.length ≤ 64) : va.length ≤ 64 ∧ max ns.length ms.length ≤ 64 ∧ ns.length ≤ max ns.length ms.length := by omega
theorem szs' {vb : List Value} {ns ms : List Int} (h : vb.length = ms.length) (h1 : ms.length ≤ 64) (h2 : ns.length ≤ 64) : vb.length ≤ 64 ∧ max ns.length ms.length ≤ 64 ∧ ms.length ≤ max ns.length ms.length := by omega
theorem ne_tab {g h : Heap} {x P : Addr} {o : Obj} (e : h.get? x = some o) (t : Tab g h P) (hc : o.cls = .none → False) : @Ne Nat x P := fun q => by
  subst q
  rw [t.at'] at e
  cases e
  exact hc rfl
theorem own_noneT {g h : Heap} {x C dx P : Addr} {es : List DictEntry} {n : Nat} (I : Inst g h x C dx es n) (t : Tab g h P) : ∀ q ∈ [(x, instObj C dx), (dx, dictOf es n), (P, tabObj #[])], g.get? q.1 = none := List.forall_mem_cons.mpr ⟨I.nx, List.forall_mem_cons.mpr ⟨I.nd, List.forall_mem_cons.mpr ⟨t.no, fun _ h => nomatch h⟩⟩⟩
theorem own_atT {g h : Heap} {x C dx P : Addr} {es : List DictEntry} {n : Nat} (I : Inst g h x C dx es n) (t : Tab g h P) : ∀ q ∈ [(x, instObj C dx), (dx, dictOf es n), (P, tabObj #[])], h.get? q.1 = some q.2 := List.forall_mem_cons.mpr ⟨I.o, List.forall_mem_cons.mpr ⟨I.d, List.forall_mem_cons.mpr ⟨t.at', fun _ h => nomatch h⟩⟩⟩
/-- the ledger behind a call that turns a table -/
theorem news_tab {h₀ h h' : Heap} {L : Addr} {news : List (Addr × Obj)} {x dx P : Addr} {ox od : Obj} {ps ps₀ : Array Value} (N : News h₀ L h news) (k : Kept [P] h h') (hP : h'.get? P = some (tabObj ps)) (hx : @Ne Nat x P) (hd : @Ne Nat dx P) (m1 : (x, ox) ∈ news) (m2 : (dx, od) ∈ news) (m3 : (P, tabObj ps₀) ∈ news) :
    News h₀ L h' [(x, ox), (dx, od), (P, tabObj ps)] :=
  List.forall_mem_cons.mpr ⟨⟨k _ _ (by simpa using hx) (N _ m1).1, (N _ m1).2⟩, List.forall_mem_cons.mpr ⟨⟨k _ _ (by simpa using hd) (N _ m2).1, (N _ m2).2⟩, List.forall_mem_cons.mpr ⟨⟨hP, (N _ m3).2⟩, fun _ h => nomatch h⟩⟩⟩
/-- the end of a def with a table -/
theorem back_tab {h₀ h h' : Heap} {L : Addr} {x dx P : Addr} {ox od : Obj} {ps : Array Value} {news : List (Addr × Obj)} (B : Back h₀ h [(x, ox), (dx, od), (P, tabObj #[])]) (hx : @Ne Nat x P) (hd : @Ne Nat dx P) (k : h₀.StaysIn h') (N : News h₀ L h' news) (h1 : (x, ox) ∈ news) (h2 : (dx, od) ∈ news) (h3 : (P, tabObj ps) ∈ news) :
    Kept [P] h h' ∧ Tabs [P] h' := by
  have hT : Tabs [P] h' := List.forall_mem_cons.mpr ⟨⟨ps, (N _ h3).1⟩, fun _ h => nomatch h⟩
  exact ⟨B.keepT [P] (List.forall_mem_cons.mpr ⟨(N _ h3).2.2, fun _ h => nomatch h⟩) k hT
    (List.forall_mem_cons.mpr ⟨.inr ⟨by simpa using hx, (N _ h1).1⟩, List.forall_mem_cons.mpr ⟨.inr ⟨by simpa using hd, (N _ h2).1⟩, List.forall_mem_cons.mpr ⟨.inl ⟨by simp, rfl⟩, fun _ h => nomatch h⟩⟩⟩), hT⟩
theorem ham_call {x dx a b : Addr} {ns ms : List Int} {t0 t1 t2 t3 : Tok} (ha : TupAt g a ns) (hb : TupAt g b ms) (I : Inst g s.heap x 228 dx (hamAt w t0 t1 t2 t3) 4) (O : On w p loose mean mg mb g s.heap) (tb : Tab g s.heap 222) (H : Room A 5 90) :
    PaysT prog w A (.call (.ref 225) ⟨[.ref x, .ref a, .ref b], []⟩) s [222] (fun v _ => ∃ t, v = .int (quickI ns ms (hamD ns ms)) t) := by
  w_top off
  intro bare R hR
  have lt := I.lt
  have ne_x := ne_tab I.o tb nofun
  have ne_dx := ne_tab I.d tb nofun
  refine' enterRCG [(x, instObj 228 dx), (dx, dictOf (hamAt w t0 t1 t2 t3) 4), (222, tabObj #[])] (vs := [.ref a, .ref b]) (bindsR := fun D => [(Str.ofString "self", .ref x), (Str.ofString "sequences", .ref D)]) O ?hg ?hown ?ho ?hcd ?hroom ?hv ?hp ?hgr ?hl ?hnd ?body ?c1 ?c2 ?c3
  (case hg => exact own_noneT I tb)
  (case hown => exact own_atT I tb)
  (case ho => k_is)
  (case hcd => k_is)
  (case hroom => have := Room.dp (by assumption); omega)
  (case hl => exact fun _ => rfl)
  (case hnd => decide +kernel)
  (case c1 => exact rfl)
  (case c2 => exact rfl)
  (case c3 => exact rfl)
  (case hv => exact rfl)
  (case hp => exact rfl)
  (case hgr => exact fun _ => rfl)
  intro D h₀ L h₁ tk cells gst X T back F N Y l1 l2
  (try k_lt l1)
  (try k_lt l2)
  (first | (change CellsAre _ [] _ at Y; cases Y) | k_cells Y)
  simp only [List.cons_append, List.nil_append] at N
  (try dsimp only)
  (try k_fold)
  simp only [AllLt, and_true] at l1 l2
  rename Top _ _ _ _ _ _ => T₀
  have ha₀ := ha.keeps gst
  have hh := H.hh
  have hb₀ := hb.keeps gst
  k_steps
  rename News _ _ _ _ => N
  rename Fr _ _ _ _ => F
  refine Pays.useM N (by k_mem) (seqs_ham (inst_of N (by k_mem) (by k_mem) lt) (On.of X T₀ F) (room_deep (H.less (by omega) (by omega)))) ?_
  intro v h₂ tk st hv
  obtain ⟨l, c, rfl, hl, hn⟩ := hv
  dsimp only at st hn ⊢
  obtain ⟨N2, ne2⟩ := news_new F N st hl hn
  have nl1 : @Ne Nat (L + 1 + 1) l := ne2 _ (.tail _ (.head _))
  have nl2 : @Ne Nat (L + 1) l := ne2 _ (.tail _ (.tail _ (.head _)))
  have nl3 : @Ne Nat D l := ne2 _ (.tail _ (.tail _ (.tail _ (.head _))))
  have nl4 : @Ne Nat x l := ne2 _ (.tail _ (.tail _ (.tail _ (.tail _ (.head _)))))
  have nl5 : @Ne Nat dx l := ne2 _ (.tail _ (.tail _ (.tail _ (.tail _ (.tail _ (.head _))))))
  have F2 := fr_stay F st
  clear F N
  k_steps
  rename News _ _ _ _ => N
  rename Fr _ _ _ _ => F
  refine Pays.useM N (by k_mem) (quick_ham ha₀ hb₀ (inst_of N (by k_mem) (by k_mem) lt) (On.of X T₀ F) (room_deep (H.less (by omega) (by omega)))) ?_
  intro v h₃ tk₃ st3 hv
  dsimp only at st3 ⊢
  have F3 := fr_stay F st3
  have N3 := news_stay N st3
  clear F N
  replace hv : quickV ns ms v := hv
  unfold quickV at hv
  by_cases e1 : ns = ms
  · rw [if_pos e1] at hv
    obtain ⟨t, rfl⟩ := hv
    k_steps
    rename News _ _ _ _ => N
    rename Fr _ _ _ _ => F
    (try dsimp only)
    have bt := back_tab back ne_x ne_dx F.keep N (by k_mem) (by k_mem) (by k_mem)
    refine hR _ _ _ _ bt.1 bt.2 bare ⟨_, by rw [quickI, if_pos e1]⟩
  · rw [if_neg e1] at hv
    by_cases e2 : ns = [] ∨ ms = []
    · rw [if_pos e2] at hv
      obtain ⟨t, rfl⟩ := hv
      k_steps
      rename News _ _ _ _ => N
      rename Fr _ _ _ _ => F
      (try dsimp only)
      have bt := back_tab back ne_x ne_dx F.keep N (by k_mem) (by k_mem) (by k_mem)
      refine hR _ _ _ _ bt.1 bt.2 bare ⟨_, by rw [quickI, if_neg e1, if_pos e2]⟩
    · rw [if_neg e2] at hv
      subst hv
      k_steps
      rename News _ _ _ _ => N
      rename Fr _ _ _ _ => F
      obtain ⟨xs, hxs, zx, sx, ex⟩ := ha₀.tup
      obtain ⟨ys, hys, zy, sy, ey⟩ := hb₀.tup
      rename_i h₄ _
      have hl₄ : h₄.IsList l #[.ref a, .ref b] := ⟨_, (N (l, listOf #[.ref a, .ref b] c) (by k_mem)).1, rfl, _, rfl⟩
      have hxs₁ : h₄.IsTuple a xs := hxs.at fun o e => F.keep _ o e
      have hys₁ : h₄.IsTuple b ys := hys.at fun o e => F.keep _ o e
      have old : ∀ c o, h₄.get? c = some o → c ≠ h₄.objs.size := fun c o e => Nat.ne_of_lt (Heap.lt_size e)
      refine call_map_list hl₄ ?_
      intro h₅ hz hT hit hsz st
      dsimp only at hz hT hit hsz st ⊢
      have F5 := fr_stay F st
      have N5 := news_stay N st
      k_steps
      obtain ⟨fp, St, W, hst, hfp, -, -⟩ := map_walk_list (prog := prog) (w := w) hz hT hit (hl₄.at fun o e => st _ o e) (hxs₁.at fun o e => st _ o e) (hys₁.at fun o e => st _ o e) sx sy (by obtain ⟨_, e, _⟩ := hl₄; exact old _ _ e) (by obtain ⟨_, e, _⟩ := hxs₁; exact old _ _ e) (by obtain ⟨_, e, _⟩ := hys₁; exact old _ _ e) (Nat.ne_of_gt (Nat.lt_succ_self _)) (Nat.ne_of_gt (Nat.lt_succ_of_lt (Nat.lt_succ_self _)))
      refine max_mapW (W _ hh) hst hfp fun h₆ tk₆ t₆ k => ?_
      have st6 : h₄.StaysIn h₆ := fun c o e => k c o (Nat.ne_of_lt (Heap.lt_size e)) (st c o e)
      have F6 := fr_stay F st6
      have N6 := news_sub (news_stay N st6) [(l, listOf #[.ref a, .ref b] c), (L + 1 + 1, _), (L + 1, _), (x, instObj 228 dx), (dx, dictOf (hamAt w t0 t1 t2 t3) 4), (222, tabObj #[])] (List.forall_mem_cons.mpr ⟨by k_mem, List.forall_mem_cons.mpr ⟨by k_mem, List.forall_mem_cons.mpr ⟨by k_mem, List.forall_mem_cons.mpr ⟨by k_mem, List.forall_mem_cons.mpr ⟨by k_mem, List.forall_mem_cons.mpr ⟨by k_mem, fun _ h => nomatch h⟩⟩⟩⟩⟩⟩)
      clear F N F5 N5 W hz hT hit
      rw [zx, zy]
      dsimp only
      k_steps
      rename News _ _ _ _ => N
      rename Fr _ _ _ _ => F
      rename_i I7 oI7 C7 oC7 D7 m7 hh7 _ _ hC7 ne7 _ hx7 off7 _
      obtain ⟨⟨o11, o12, o13⟩, ⟨o21, o22, o23⟩, ⟨o31, o32, o33⟩, ⟨o41, o42, o43⟩, ⟨o51, o52, o53⟩, o61, o62, o63⟩ := off7
      obtain ⟨ne71, ne72, ne73⟩ := ne7
      obtain ⟨va, hva, hiva, sva⟩ := id ha₀
      have hlva : va.length = ns.length := hiva.length
      have szva := szs hlva sva hb₀.choose_spec.2.2
      have kiva : True ∧ IntsAre va ns := ⟨trivial, hiva⟩
      refine list_copyKT F N (hva.keeps F.keep) ?_ (sz_tup szva.1)
      clear F N
      intro DA cva h7 F N ltva
      k_lt ltva
      dsimp only
      k_steps
      rename News _ _ _ _ => N
      rename Fr _ _ _ _ => F
      refine mul_none F N (by k_mem) (k_rng szva.2.1 szva.2.2) ?_
      clear F N
      intro h71 DA1 F N ltva1
      k_lt ltva1
      dsimp only
      k_steps
      rename News _ _ _ _ => N
      rename Fr _ _ _ _ => F
      refine add_N F N (vs := va) (ws := List.replicate _ Value.none) (by k_mem) (by k_mem) (sz_rep szva.1 szva.2.1) ?_
      clear F N
      intro h72 DA2 F N ltva2
      k_lt ltva2
      replace N := news_sub N [(DA2, listOf (va ++ List.replicate ((max ns.length ms.length : Nat) - (ns.length : Int)).toNat Value.none).toArray 0), (I7, oI7), (C7, oC7), (D7, LCg.lst []), (l, listOf #[.ref a, .ref b] c), (L + 1 + 1, _), (L + 1, _), (x, instObj 228 dx), (dx, dictOf (hamAt w t0 t1 t2 t3) 4), (222, tabObj #[])] (List.forall_mem_cons.mpr ⟨by k_mem, List.forall_mem_cons.mpr ⟨by k_mem, List.forall_mem_cons.mpr ⟨by k_mem, List.forall_mem_cons.mpr ⟨by k_mem, List.forall_mem_cons.mpr ⟨by k_mem, List.forall_mem_cons.mpr ⟨by k_mem, List.forall_mem_cons.mpr ⟨by k_mem, List.forall_mem_cons.mpr ⟨by k_mem, List.forall_mem_cons.mpr ⟨by k_mem, List.forall_mem_cons.mpr ⟨by k_mem, fun _ h => nomatch h⟩⟩⟩⟩⟩⟩⟩⟩⟩⟩)
      obtain ⟨-, -, -, pa1, pa2, pa3, pa5, pa4, pa6, -⟩ := ltva2
      clear ltva ltva1
      replace pa1 := Nat.ne_of_lt pa1
      replace pa2 := Nat.ne_of_lt pa2
      replace pa3 := Nat.ne_of_lt pa3
      replace pa4 := Nat.ne_of_lt pa4
      replace pa5 := Nat.ne_of_lt pa5
      replace pa6 := Nat.ne_of_lt pa6
      dsimp only
      k_steps
      rename News _ _ _ _ => N
      rename Fr _ _ _ _ => F
      rename_i I8 oI8 C8 oC8 D8 m8 hh8 _ _ hC8 ne8 _ hx8 off8 _
      obtain ⟨⟨r01, r02, r03⟩, ⟨r11, r12, r13⟩, ⟨r21, r22, r23⟩, ⟨r31, r32, r33⟩, ⟨r41, r42, r43⟩, ⟨r51, r52, r53⟩, r61, r62, r63⟩ := off8
      obtain ⟨ne81, ne82, ne83⟩ := ne8
      obtain ⟨vb, hvb, hivb, svb⟩ := id hb₀
      have hlvb : vb.length = ms.length := hivb.length
      have szvb := szs' hlvb svb ha₀.choose_spec.2.2
      have kivb : True ∧ IntsAre vb ms := ⟨trivial, hivb⟩
      refine list_copyKT F N (hvb.keeps F.keep) ?_ (sz_tup szvb.1)
      clear F N
      intro DB cvb h8 F N ltvb
      k_lt ltvb
      dsimp only
      k_steps
      rename News _ _ _ _ => N
      rename Fr _ _ _ _ => F
      refine mul_none F N (by k_mem) (k_rng szvb.2.1 szvb.2.2) ?_
      clear F N
      intro h81 DB1 F N ltvb1
      k_lt ltvb1
      dsimp only
      k_steps
      rename News _ _ _ _ => N
      rename Fr _ _ _ _ => F
      refine add_N F N (vs := vb) (ws := List.replicate _ Value.none) (by k_mem) (by k_mem) (sz_rep szvb.1 szvb.2.1) ?_
      clear F N
      intro h82 DB2 F N ltvb2
      k_lt ltvb2
      replace N := news_sub N [(DB2, listOf (vb ++ List.replicate ((max ns.length ms.length : Nat) - (ms.length : Int)).toNat Value.none).toArray 0), (I8, oI8), (C8, oC8), (D8, LCg.lst [.ref DA2]), (DA2, listOf (va ++ List.replicate ((max ns.length ms.length : Nat) - (ns.length : Int)).toNat Value.none).toArray 0), (l, listOf #[.ref a, .ref b] c), (L + 1 + 1, _), (L + 1, _), (x, instObj 228 dx), (dx, dictOf (hamAt w t0 t1 t2 t3) 4), (222, tabObj #[])] (List.forall_mem_cons.mpr ⟨by k_mem, List.forall_mem_cons.mpr ⟨by k_mem, List.forall_mem_cons.mpr ⟨by k_mem, List.forall_mem_cons.mpr ⟨by k_mem, List.forall_mem_cons.mpr ⟨by k_mem, List.forall_mem_cons.mpr ⟨by k_mem, List.forall_mem_cons.mpr ⟨by k_mem, List.forall_mem_cons.mpr ⟨by k_mem, List.forall_mem_cons.mpr ⟨by k_mem, List.forall_mem_cons.mpr ⟨by k_mem, List.forall_mem_cons.mpr ⟨by k_mem, fun _ h => nomatch h⟩⟩⟩⟩⟩⟩⟩⟩⟩⟩⟩)
      obtain ⟨-, -, -, pb1, pb2, pb3, pb7, pb5, pb4, pb6, -⟩ := ltvb2
      replace pb1 := Nat.ne_of_lt pb1
      replace pb2 := Nat.ne_of_lt pb2
      replace pb3 := Nat.ne_of_lt pb3
      replace pb4 := Nat.ne_of_lt pb4
      replace pb5 := Nat.ne_of_lt pb5
      replace pb6 := Nat.ne_of_lt pb6
      replace pb7 := Nat.ne_of_lt pb7
      clear ltvb ltvb1
      dsimp only
      k_steps
      rename News _ _ _ _ => N
      rename Fr _ _ _ _ => F
      have room : (A.deeper (envOfC (Str.ofString "") default L 225 (Value.ref 224))).depth < recursionLimit := Nat.lt_of_le_of_lt (Nat.le_add_right _ _) (room_deep (env := envOfC (Str.ofString "") default L 225 (Value.ref 224)) H).dp
      refine genexp_H (c := 224) (P := 222) (ps := #[]) F T₀ (N (222, tabObj #[]) (by k_mem)).2.2 (codeHd_of_K X (by kernel_rfl)) rfl rfl trivial rfl hh rfl rfl (by decide) rfl rfl rfl room ?_ (fun _ => rfl)
      k_steps
      refine callWith_TS ?_
      k_steps
      rename News _ _ _ _ => N
      rename Fr _ _ _ _ => F
      refine ham_src X T₀ (room_deep (H.less (by omega) (by omega))) rfl rfl rfl rfl F N bare (by k_mem) (by k_mem) (oS := _) (by k_mem) (by assumption) (by k_mem) (by k_mem) (by k_mem) l2.2.2.2 (by simp; omega) (fun i v e => pad_opt hiva _ i v e) (fun i v e => pad_opt hivb _ i v e) ?_
      intro ga h9 tk9 g9 ps9 F9 B9 k9 P9 G9
      dsimp only
      k_steps
      refine sum_gen F9 B9 G9 (fun i => !decide (ns[i]? = ms[i]?)) (fun j v h => h) (by simp; omega) ?_
      intro h10 tk10 g10 t10 F10 B10 k10
      have N10 : News h₀ L h10 [(x, instObj 228 dx), (dx, dictOf (hamAt w t0 t1 t2 t3) 4), (222, tabObj ps9)] := List.forall_mem_cons.mpr
        ⟨⟨k10 _ _ (Nat.le_of_lt l2.2.1) (k9 _ _ ne_x (N _ (by k_mem)).1), Nat.ne_of_lt l2.2.1, (N (x, instObj 228 dx) (by k_mem)).2.2⟩, List.forall_mem_cons.mpr
        ⟨⟨k10 _ _ (Nat.le_of_lt l2.2.2.1) (k9 _ _ ne_dx (N _ (by k_mem)).1), Nat.ne_of_lt l2.2.2.1, (N (dx, dictOf (hamAt w t0 t1 t2 t3) 4) (by k_mem)).2.2⟩, List.forall_mem_cons.mpr
        ⟨⟨k10 _ _ (Nat.le_of_lt l2.2.2.2) P9, Nat.ne_of_lt l2.2.2.2, (N (222, tabObj #[]) (by k_mem)).2.2⟩, fun _ h => nomatch h⟩⟩⟩
      clear N
      k_steps
      (try dsimp only)
      have bt := back_tab back ne_x ne_dx F10.keep N10 (by k_mem) (by k_mem) (by k_mem)
      refine hR _ _ _ _ bt.1 bt.2 B10 ⟨_, by rw [quickI, if_neg e1, if_neg e2]; exact congrArg (fun z => Value.int z _) (ham_count hiva)⟩
end
end Mine
end
set_option maxHeartbeats 4000000
/- part Mh2 -/
section
namespace Mine
theorem fillMh2 : (PySem.Challenge.rw_br0041_01 = PySem.Challenge.rw_br0041_01 ∧ hd.heap_39 = hd.heap_39) := by
  k_fill
  exact ⟨rfl, rfl⟩
section
variable {prog : Program} {w : World} {A : Around} {s : Shared} {p : Program} {loose : List Str} {mean : ExcName → Option Value} {mg mb : Str → Option Value} {g : Heap}
local macro_rules | `(tactic| walk_at "pyIter ref") => `(tactic| (k_here; refine stop_it ?_))
local macro_rules | `(tactic| walk_at "call ref") => `(tactic| (k_here; refine stop_it ?_))
local macro_rules | `(tactic| walk_at "setItem ref ref") => `(tactic| (k_here; refine stop_it ?_))
local macro_rules | `(tactic| walk_at "exec For Tuple") => `(tactic| (k_here; refine stop_it ?_))
local macro_rules | `(tactic| walk_at "getMethod ref") => `(tactic| (k_here; k_dflt (first
  | (refine' kmu_own ?k1 ?k2 ?k3 ?k4 ?k5 ?_; (case k1 => k_asm); (case k2 => k_asm); (case k3 => k_inst); (case k4 => k_is); (case k5 => k_is); k_whole)
  | (refine' method_inst ?k1 ?k2 ?k3 ?k4 ?k5 ?k6 ?k7 ?_; (case k1 => k_asm); (case k2 => k_asm); (case k3 => k_inst); (case k4 => k_is); (case k5 => k_is); (case k6 => k_is); (case k7 => k_get); k_whole))))
local macro_rules | `(tactic| walk_at "last getAttr ref") => `(tactic| (k_here; k_dflt (refine' attr_sm ?k1 ?k2 ?k4 ?k5 ?k6 ?k7 ?k9 ?k10 ?k11 ?k12 ?k13 ?k14 ?_; (case k1 => k_asm); (case k2 => k_asm); (case k4 => k_inst); (case k5 => k_is); (case k6 => k_is); (case k7 => k_is); (case k9 => k_is); (case k10 => k_is); (case k11 => decide +kernel); (case k12 => k_get); (case k13 => k_is); (case k14 => k_handed); k_whole)))
local macro_rules | `(tactic| walk_at "last eval Call Attribute") => `(tactic| (k_here; refine methodCall_S ?_))
local macro_rules | `(tactic| walk_at "eval Call Attribute") => `(tactic| (k_here; (with_reducible show wpAny _ _ (eval (Expr.Call (Expr.Attribute _ _ _) [Expr.Starred _ _] [] _) _) _ _ _); refine methodCall_S ?_))
local macro_rules | `(tactic| walk_at "call builtin:len") => `(tactic| (k_here; refine' len_TupAt ?k1 ?k2 ?_; (case k1 => k_asm); (case k2 => k_asm); intro _ _; k_whole))
local macro_rules | `(tactic| walk_at "getItem ref int") => `(tactic| (k_here; refine' getItem_TupAt ?k1 ?k2 ?k3 ?_; (case k1 => k_asm); (case k2 => k_asm); (case k3 => omega); intro _; k_whole))
local macro_rules | `(tactic| walk_at "subscriptTail") => `(tactic| (k_here; first
  | (refine' item_TupAt ?k1 ?k2 ?k3 ?_; (case k1 => k_asm); (case k2 => k_asm); (case k3 => omega); intro _; k_whole)
  | (refine' item_fn ?k1 ?k2 ?k3 ?k4 ?_; (case k1 => k_asm); (case k2 => k_mem); (case k3 => with_reducible assumption); (case k4 => omega); intro _; k_whole)))
local macro_rules | `(tactic| walk_at "call builtin:min") => `(tactic| (k_here; (with_reducible show wpAny _ _ (call (Value.builtin "min") [Value.int _ _, Value.int _ _]) _ _ _); (rename Around.handled _ = none => hX); refine' min2N hX ?k2 ?k3 ?_; (case k2 => k_asm); (case k3 => k_asm); k_whole; intro h' tk' t' F' N'))
local macro_rules | `(tactic| walk_at "call builtin:min") => `(tactic| (k_here; (with_reducible show wpAny _ _ (call (Value.builtin "min") [Value.int _ _, Value.int _ _, Value.int _ _]) _ _ _); (rename Around.handled _ = none => hX); refine' min3N hX ?k2 ?k3 ?_; (case k2 => k_asm); (case k3 => k_asm); k_whole; intro h' tk' t' F' N'))
local macro_rules | `(tactic| walk_at "call builtin:min") => `(tactic| (k_here; (with_reducible show wpAny _ _ (call (Value.builtin "min") [Value.int _ _, Value.int _ _, Value.int _ _, Value.int _ _]) _ _ _); (rename Around.handled _ = none => hX); refine' min4N hX ?k2 ?k3 ?_; (case k2 => k_asm); (case k3 => k_asm); k_whole; intro h' tk' t' F' N'))
local macro_rules | `(tactic| walk_at "setItem ref int int") => `(tactic| (k_here; refine' setItem_fn ?k1 ?k2 ?k3 ?k4 ?k5 ?_; (case k1 => k_asm); (case k2 => k_asm); (case k3 => k_upd); (case k4 => with_reducible assumption); (case k5 => omega); k_whole; intro h' F' N' i'))
local macro_rules | `(tactic| walk_at "assign Tuple") => `(tactic| (k_here; (with_reducible show wpAny _ _ (assign (Expr.Tuple _ _ _) _ (Value.ref _)) _ _ _); k_dflt (refine' kun_list ?k1 ?k2 ?k3 ?k4 ?k5 ?k6 ?_; (case k1 => k_asm); (case k2 => k_asm); (case k3 => kun_lst); (case k4 => assumption); (case k5 => exact rfl); (case k6 => exact rfl); k_whole); intro h' F' N'; (try k_sweep)))
local macro_rules | `(tactic| walk_at "assign Tuple") => `(tactic| (k_here; (with_reducible show wpAny _ _ (assign (Expr.Tuple _ _ _) _ (Value.ref _)) _ _ _); k_dflt (refine' unpackN_ ?k1 ?k2 ?k3 ?k4 ?k5 ?k6 ?_; (case k1 => k_asm); (case k2 => k_asm); (case k3 => kun_tup); (case k4 => assumption); (case k5 => exact rfl); (case k6 => exact rfl); k_whole); intro h' F' N'; (try k_sweep)))
local macro_rules | `(tactic| walk_at "unpackItems ref") => `(tactic| (k_here; k_dflt (refine' unpackItemsN_ ?k1 ?k2 ?k3 ?k4 ?k5 ?_; (case k1 => k_asm); (case k2 => k_asm); (case k3 => kun_tup); (case k4 => assumption); (case k5 => exact rfl); k_whole); intro h' F' N'; (try k_sweep)))
local macro_rules | `(tactic| walk_at "call type:list") => `(tactic| (k_here; refine' list_range_N ?k0 ?k1 ?k2 ?k3 ?k4 ?k5 ?k6 ?_; (case k1 => k_asm); (case k2 => k_asm); (case k0 => assumption); (case k3 => assumption); (case k4 => omega); (case k5 => exact small_one (by omega) (by omega) (by omega) (by omega)); (case k6 => omega); intro D' h' tk' vs' k' F' N' l1 i1; (try k_lt l1)))
local macro_rules | `(tactic| k_ne) => `(tactic| first | with_reducible assumption | (refine Ne.symm ?_; with_reducible assumption) | (refine neN ?_; (try dsimp only); omega))
theorem dist_ham {x dx a b : Addr} {ns ms : List Int} {t0 t1 t2 t3 : Tok} (ha : TupAt g a ns) (hb : TupAt g b ms) (I : Inst g s.heap x 228 dx (hamAt w t0 t1 t2 t3) 4) (O : On w p loose mean mg mb g s.heap) (tb : Tab g s.heap 222) (H : Room A 7 120) :
    PaysT prog w A (.call (.ref 122) ⟨[.ref x, .ref a, .ref b], []⟩) s [222] (fun v _ => ∃ t, v = .int (quickI ns ms (hamD ns ms)) t) := by
  w_top off
  intro bare R hR
  have lt := I.lt
  have ne_x := ne_tab I.o tb nofun
  have ne_dx := ne_tab I.d tb nofun
  refine' enterRG [(x, instObj 228 dx), (dx, dictOf (hamAt w t0 t1 t2 t3) 4), (222, tabObj #[])] (vs := [.ref a, .ref b]) (bindsR := fun D => [(Str.ofString "self", .ref x), (Str.ofString "sequences", .ref D)]) O ?hg ?hown ?ho ?hcd ?hroom ?hv ?hp ?hgr ?hl ?body ?hcell ?c1 ?c2 ?c3
  (case hg => exact own_noneT I tb)
  (case hown => exact own_atT I tb)
  (case ho => k_is)
  (case hcd => k_is)
  (case hroom => have := Room.dp (by assumption); omega)
  (case hl => exact fun _ => locs rfl)
  (case hcell => decide)
  (case c1 => exact rfl)
  (case c2 => exact rfl)
  (case c3 => exact rfl)
  (case hv => exact rfl)
  (case hp => exact rfl)
  (case hgr => exact fun _ => rfl)
  intro D h₀ L h₁ gst X T back F N l1
  (try k_lt l1)
  (try k_fold)
  rename Top _ _ _ _ _ _ => T
  have ha₀ := ha.keeps gst
  have hb₀ := hb.keeps gst
  have hh := H.hh
  k_steps
  refine callWith_XS (ox := instObj 228 dx) rfl ?_
  k_steps
  · rename News _ _ _ _ => N
    exact (N (x, instObj 228 dx) (by k_mem)).1
  rename News _ _ _ _ => N
  rename Fr _ _ _ _ => F
  have J := inst_of N (by k_mem) (by k_mem) lt
  refine wpAny_call ?_
  refine' kco_code ?k1 ?k2 ?k3 ?k4 ?k5 ?k6 ?k7
  (case k1 => k_in)
  (case k2 => k_inst)
  (case k3 => rfl)
  (case k4 => k_is)
  (case k5 => k_is)
  (case k6 => k_is)
  refine ham_call ha₀ hb₀ J (On.of X T F) ⟨(N (222, tabObj #[]) (by k_mem)).1, (N (222, tabObj #[]) (by k_mem)).2.2⟩ (room_deep (H.less (by omega) (by omega))) (by exact bare) _ ?_
  intro v h₃ tk₃ g₃ k3 T3 B3 hv
  obtain ⟨t, rfl⟩ := hv
  dsimp only at k3 ⊢
  have F3 := fr_keptT F (Ps := [222]) (List.forall_mem_cons.mpr ⟨⟨(N (222, tabObj #[]) (by k_mem)).2.2, (N (222, tabObj #[]) (by k_mem)).2.1⟩, fun _ h => nomatch h⟩) k3
  obtain ⟨ps, hps⟩ := T3 222 (.head _)
  have N3 := news_tab N k3 hps ne_x ne_dx (by k_mem) (by k_mem) (by k_mem)
  (try dsimp only)
  have bt := back_tab back ne_x ne_dx F3.keep N3 (by k_mem) (by k_mem) (by k_mem)
  refine hR _ _ _ _ bt.1 bt.2 B3 ⟨_, rfl⟩
end
end Mine
end
set_option maxHeartbeats 4000000
/- part Mk -/
section
namespace Mine
open Sem (wp)
theorem fillMk : (PySem.Challenge.rw_br0041_01 = PySem.Challenge.rw_br0041_01 ∧ hd.heap_39 = hd.heap_39) := by
  k_fill
  exact ⟨rfl, rfl⟩
/-- a counter's class is this address -/
abbrev CtC : Addr := 74
inductive KV : List (Int × Value) → List (Int × Int) → Prop
  | nil : KV [] []
  | cons (k v : Int) (u : Tok) {r : List (Int × Value)} {c : List (Int × Int)} : KV r c → KV ((k, .int v u) :: r) ((k, v) :: c)
def cAt (c : List (Int × Int)) (k : Int) : Option Int := (c.find? fun p => decide (p.1 = k)).map (·.2)
theorem KV.keys {kvs : List (Int × Value)} {c : List (Int × Int)} (h : KV kvs c) : kvs.map (·.1) = c.map (·.1) := by
  induction h with
  | nil => rfl
  | cons k v u _ ih => simp [ih]
theorem KV.length {kvs : List (Int × Value)} {c : List (Int × Int)} (h : KV kvs c) : kvs.length = c.length := by simpa using congrArg List.length h.keys
theorem KV.none {kvs : List (Int × Value)} {c : List (Int × Int)} (h : KV kvs c) {k : Int} (e : cAt c k = .none) : valueAt kvs k = .none := by
  induction h with
  | nil => rfl
  | cons k' v u _ ih =>
    unfold cAt at e
    unfold valueAt
    simp only [List.find?_cons] at e ⊢
    by_cases hk : k' = k
    · simp [hk] at e
    · simp only [hk, decide_false] at e ⊢
      exact ih e
theorem KV.some {kvs : List (Int × Value)} {c : List (Int × Int)} (h : KV kvs c) {k v : Int} (e : cAt c k = .some v) : ∃ u, valueAt kvs k = .some (.int v u) := by
  induction h with
  | nil => cases e
  | cons k' v' u _ ih =>
    unfold cAt at e
    unfold valueAt
    simp only [List.find?_cons] at e ⊢
    by_cases hk : k' = k
    · simp only [hk, decide_true, Option.map_some, Option.some.injEq] at e ⊢
      exact ⟨u, by rw [e]⟩
    · simp only [hk, decide_false] at e ⊢
      exact ih e
theorem KV.get {kvs : List (Int × Value)} {c : List (Int × Int)} (h : KV kvs c) {i : Nat} {k v : Int} (e : c[i]? = .some (k, v)) : ∃ u, kvs[i]? = .some (k, .int v u) := by
  induction h generalizing i with
  | nil => simp at e
  | cons k' v' u _ ih =>
    cases i with
    | zero => simp at e; exact ⟨u, by simp [e.1, e.2]⟩
    | succ i => simpa using ih (by simpa using e)
theorem KV.map {kvs : List (Int × Value)} {c : List (Int × Int)} (h : KV kvs c) (k v : Int) (u : Tok) : KV (kvs.map fun kv => if kv.1 = k then (kv.1, .int v u) else kv) (c.map fun p => if decide (p.1 = k) = true then (p.1, v) else p) := by
  induction h with
  | nil => exact .nil
  | cons k' v' u' _ ih =>
    simp only [List.map_cons]
    by_cases hk : k' = k
    · simp only [hk, if_true, decide_true]; exact .cons _ _ _ (by simpa using ih)
    · simp only [hk, if_false, decide_false, Bool.false_eq_true]; exact .cons _ _ _ (by simpa using ih)
theorem KV.append {kvs : List (Int × Value)} {c : List (Int × Int)} (h : KV kvs c) (k v : Int) (u : Tok) : KV (kvs ++ [(k, .int v u)]) (c ++ [(k, v)]) := by
  induction h with
  | nil => exact .cons _ _ _ .nil
  | cons k' v' u' _ ih => exact .cons _ _ _ ih
theorem KV.any {kvs : List (Int × Value)} {c : List (Int × Int)} (h : KV kvs c) (k : Int) : kvs.any (fun kv => decide (kv.1 = k)) = c.any fun p => decide (p.1 = k) := by
  induction h with
  | nil => rfl
  | cons k' v' u' _ ih => simp [ih]
theorem KV.stored {kvs : List (Int × Value)} {c : List (Int × Int)} (h : KV kvs c) (k v : Int) (u : Tok) : KV (stored kvs k (.int v u)) (kdfPut c k v) := by
  unfold PySem.stored kdfPut
  rw [h.any k]
  split
  · exact h.map k v u
  · exact h.append k v u
theorem kdfPut_keys {c : List (Int × Int)} {k v : Int} (h : (c.map (·.1)).Nodup) : ((kdfPut c k v).map (·.1)).Nodup := by
  unfold kdfPut
  split
  · have : (c.map fun p => if decide (p.1 = k) = true then (p.1, v) else p).map (·.1) = c.map (·.1) := by
      rw [List.map_map]; apply List.map_congr_left; intro p _; show (if _ then _ else _ : Int × Int).1 = _; split <;> rfl
    rw [this]; exact h
  · rename_i hn
    rw [List.map_append, List.nodup_append]
    refine ⟨h, by simp, ?_⟩
    intro a ha b hb
    simp at hb
    subst hb
    rintro rfl
    obtain ⟨p, hp, rfl⟩ := List.mem_map.mp ha
    exact hn (List.any_eq_true.mpr ⟨p, hp, by simp⟩)

section
variable {prog : Program} {w : World} {A : Around} {E : Value → Shared → Prop} {s : Shared}
/-- an object with a dictionary's data -/
def DOb (prog : Program) (w : World) (o : Obj) (c : List (Int × Int)) (ep : Nat) : Prop :=
  ∃ es kvs, o.data = .dict es ep ∧ KeysOf (intKind prog w) es ∧ Pairs (intKind prog w) es.toList kvs ∧ KV kvs c ∧ (c.map (·.1)).Nodup
theorem d_get {d : Addr} {o : Obj} {c : List (Int × Int)} {ep : Nat} {k : Int} {t : Tok} {Q : Option Value → Shared → Prop} (ho : s.heap.get? d = some o) (D : DOb prog w o c ep)
    (h1 : ∀ v u, cAt c k = some v → Q (some (.int v u)) { s with toks := s.toks + 1 }) (h2 : cAt c k = none → Q none { s with toks := s.toks + 1 }) : wpAny (model prog w) A (dictGet d (.int k t)) Q E s := by
  obtain ⟨es, kvs, hd, hk, hp, hv, hn⟩ := D
  have hkey := intKind_is prog w k t
  unfold dictGet
  try with_reducible refine wpAny_holding ?_
  refine wpAny_bind ((intKind prog w).pyHash hkey (wpAny_bind (wpAny_dictFind_of (s := { s with toks := s.toks + 1 }) hkey ho hd hk ?_)))
  have hl : (es.findIdx? fun e => (intKind prog w).is k e.key) = es.toList.findIdx? fun e => (intKind prog w).is k e.key := by obtain ⟨l⟩ := es; simp
  rw [hl]
  cases hi : es.toList.findIdx? fun e => (intKind prog w).is k e.key with
  | none =>
    refine wpAny_pure (h2 ?_)
    cases e : cAt c k with
    | none => rfl
    | some v =>
      obtain ⟨u, hu⟩ := hv.some e
      rw [← hp.find k] at hu
      have : es.toList.find? (fun e => (intKind prog w).is k e.key) = none := by
        rw [List.find?_eq_none]
        intro x hx z
        have := List.findIdx?_eq_none_iff.mp hi x hx
        rw [z] at this; cases this
      rw [this] at hu; cases hu
  | some i =>
    refine wpAny_bind (wpAny_dictEntries (s := { s with toks := s.toks + 1 }) ho hd (wpAny_pure ?_))
    obtain ⟨e, he, _, hva⟩ := hp.at hi
    have he' : es[i]? = some e := by obtain ⟨l⟩ := es; simpa using he
    rw [he']
    cases e2 : cAt c k with
    | none => rw [hv.none e2] at hva; cases hva
    | some v =>
      obtain ⟨u, hu⟩ := hv.some e2
      rw [hva] at hu
      show Q (some e.val) _
      rw [Option.some.inj hu]
      exact h1 v u e2
theorem d_set {d : Addr} {o : Obj} {c : List (Int × Int)} {ep : Nat} {k v : Int} {t u : Tok} {Q : Unit → Shared → Prop} (ho : s.heap.get? d = some o) (D : DOb prog w o c ep) (hz : c.length ≤ 1000)
    (h : ∀ h' o' ep', h'.get? d = some o' → o'.cls = o.cls → o'.dict = o.dict → o'.slots = o.slots → DOb prog w o' (kdfPut c k v) ep' → Heap.SameBut d s.heap h' → Q () { s with heap := h', toks := s.toks + 1 }) :
    wpAny (model prog w) A (dictSet d (.int k t) (.int v u)) Q E s := by
  obtain ⟨es, kvs, hd, hk, hp, hv, hn⟩ := D
  have hkey := intKind_is prog w k t
  have hn' : (kvs.map (·.1)).Nodup := hv.keys ▸ hn
  have hes : es.size ≤ sizeLine := by
    have e1 := hp.length
    have e2 : es.toList.length = es.size := by simp
    have e3 := hv.length
    rw [sizeLine_eq]; omega
  unfold dictSet
  try with_reducible refine wpAny_holding ?_
  refine wpAny_bind ((intKind prog w).pyHash hkey ?_)
  unfold dictSetHashed
  try with_reducible refine wpAny_holding ?_
  refine wpAny_bind (wpAny_dictFind_of (s := { s with toks := s.toks + 1 }) hkey ho hd hk ?_)
  have hidx : (es.findIdx? fun e => (intKind prog w).is k e.key) = kvs.findIdx? fun kv => decide (kv.1 = k) := by
    rw [← hp.findIdx k]; obtain ⟨l⟩ := es; simp
  have cl : ∀ f, (o.mapDict f).cls = o.cls ∧ (o.mapDict f).dict = o.dict ∧ (o.mapDict f).slots = o.slots := fun f => by obtain ⟨a, b, dt, sl⟩ := o; cases dt <;> exact ⟨rfl, rfl, rfl⟩
  have cl2 : ∀ f, (o.mapDictKeys f).cls = o.cls ∧ (o.mapDictKeys f).dict = o.dict ∧ (o.mapDictKeys f).slots = o.slots := fun f => by obtain ⟨a, b, dt, sl⟩ := o; cases dt <;> exact ⟨rfl, rfl, rfl⟩
  have hst := hv.stored k v u
  cases hi : es.findIdx? fun e => (intKind prog w).is k e.key with
  | some i =>
    refine wpAny_bind (wpAny_rule (wpAny_bind (wpAny_updateDict (s := { s with toks := s.toks + 1 }) ho hd (wpAny_point (h _ _ ep (Heap.get?_update_self _ ho (Obj.isFreed_of_dict (Obj.data_mapDict hd _)))
      (cl _).1 (cl _).2.1 (cl _).2.2 ⟨_, stored kvs k (.int v u), Obj.data_mapDict hd _, hk.modify _ _, ?_, hst, kdfPut_keys hn⟩ (Heap.SameBut.update ..))))))
    rw [stored, if_pos (any_of_findIdx_some (hidx ▸ hi))]
    have hl : (es.toList.findIdx? fun e => (intKind prog w).is k e.key) = some i := by rw [← hi]; obtain ⟨l⟩ := es; simp
    have := hp.modify hn' hl (.int v u)
    obtain ⟨l⟩ := es
    simpa using this
  | none =>
    have hnot : k ∉ kvs.map (·.1) := not_mem_of_findIdx_none (hidx ▸ hi)
    have hany : ¬ (kvs.any fun kv => decide (kv.1 = k)) = true := by
      rw [List.any_eq_true]; rintro ⟨kv, hkv, he⟩
      exact hnot (List.mem_map.mpr ⟨kv, hkv, of_decide_eq_true he⟩)
    refine wpAny_bind (wpAny_rule (wpAny_updateDictKeys (hz := hes) (s := { s with toks := s.toks + 1 }) ho hd (h _ _ (ep + 1) (Heap.get?_update_self _ ho (Obj.isFreed_of_dict (Obj.data_mapDictKeys hd _)))
      (cl2 _).1 (cl2 _).2.1 (cl2 _).2.2 ⟨_, stored kvs k (.int v u), Obj.data_mapDictKeys hd _, hk.push hkey _, ?_, hst, kdfPut_keys hn⟩ (Heap.SameBut.update ..))))
    rw [stored, if_neg hany]
    have := hp.append hkey ((intKind prog w).hash k) (.int v u)
    obtain ⟨l⟩ := es
    simpa using this
end

/-- the class of a dictionary or of a counter -/
def DCl (o : Obj) : Prop := o.cls = .type "dict" ∨ o.cls = .ref CtC
section
variable {prog : Program} {w : World} {A : Around} {E : Value → Shared → Prop} {s : Shared}
structure CSlot (w : World) (name : Str) (id : String) : Prop where
  S : Slot "dict" name id
  find : findIn (hd.heap_39 w.params) (.ref CtC) name = some (some (.builtin id))
  kind : builtinKind id = some .slot ∨ builtinKind id = some .method
  split : ∃ n, splitId id = some ("dict", n)
theorem ct_inst {M : Model} {h : Heap} {x : Addr} {o : Obj} (X : (hd.heap_39 w.params).In h) (hx : h.get? x = some o) (hc : o.cls = .ref CtC) : Looks M h (isInstance (.ref x) (.type "dict")) true := by
  have e : subIn (hd.heap_39 w.params) (.ref CtC) (.type "dict") = some true := by k_is
  exact (hc ▸ (Looks.ld (part := none) hx).andThen .now : Looks M h (typeOf (.ref x)) (.ref CtC)).andThen (looks_subIn X e)
theorem ct_type {M : Model} {h : Heap} {x : Addr} {o : Obj} (hx : h.get? x = some o) (hc : o.cls = .ref CtC) : Looks M h (typeOf (.ref x)) (.ref CtC) := hc ▸ (Looks.ld (part := none) hx).andThen .now
theorem d_check {name : Str} {id : String} {x : Addr} {o : Obj} {rest : List Value} {Q : Unit → Shared → Prop} (X : (hd.heap_39 w.params).In s.heap) (C : CSlot w name id) (hx : s.heap.get? x = some o) (hc : DCl o) (ha : argsOk id ⟨.ref x :: rest, []⟩) (q : Q () s) :
    wpAny (model prog w) A (checkBuiltinCall id ⟨.ref x :: rest, []⟩) Q E s := by
  rcases hc with hc | hc
  · exact C.S.check _ _ _ _ _ _ _ _ ⟨o, hx, hc⟩ ha q
  · obtain ⟨n, hs⟩ := C.split
    rcases C.kind with hk | hk <;>
    · simp only [checkBuiltinCall, hk, hs]
      refine wpAny_bind ((ct_inst X hx hc).here ?_)
      simp only [Bool.not_true, Bool.false_eq_true, if_false]
      cases hsig : Manifest.signature? id with
      | none => exact wpAny_pure q
      | some sig =>
        simp only [argsOk, hsig] at ha
        have h2 : Bind.checkArgs id sig ⟨.ref x :: rest, []⟩ = pure () := ha
        show wpAny _ A (Bind.checkArgs id sig ⟨.ref x :: rest, []⟩) Q E s
        rw [h2]; exact wpAny_pure q
theorem d_call {name : Str} {id : String} {b : Builtin} {x : Addr} {o : Obj} {rest : List Value} {Q : Value → Shared → Prop} (X : (hd.heap_39 w.params).In s.heap) (C : CSlot w name id) (hx : s.heap.get? x = some o) (hc : DCl o)
    (hb : entryFor table id = some b) (h : wpAny (model prog w) A.in1 (b ⟨.ref x :: rest, []⟩) (fun fin s' => ∃ v, fin = .done (.ret v) ∧ Q v s') E s) (ha : argsOk id ⟨.ref x :: rest, []⟩) : wpAny (model prog w) A (call (.builtin id) (.ref x :: rest)) Q E s := by
  refine wpAny_call (codeAny_call_builtin C.S.plain hb (d_check X C hx hc ha (wpAny_mono h (fun fin s' h' => ?_) fun _ _ h' => h')))
  obtain ⟨v, rfl, hv⟩ := h'; exact hv
theorem d_specialOf {name : Str} {id : String} {x : Addr} {o : Obj} {Q : Option Value → Shared → Prop} (X : (hd.heap_39 w.params).In s.heap) (C : CSlot w name id) (hx : s.heap.get? x = some o) (hc : DCl o) (h : Q (some (.builtin id)) s) :
    wpAny (model prog w) A (specialOf (.ref x) name) Q E s := by
  rcases hc with hc | hc
  · exact wpAny_specialOf ⟨o, hx, hc⟩ C.S.lookup h
  · unfold specialOf
    exact wpAny_bind ((ct_type hx hc).here ((looks_findIn X C.find).here h))
theorem d_special {name : Str} {id : String} {b : Builtin} {x : Addr} {o : Obj} {rest : List Value} {Q : Option Value → Shared → Prop} (X : (hd.heap_39 w.params).In s.heap) (C : CSlot w name id) (hx : s.heap.get? x = some o) (hc : DCl o)
    (hb : entryFor table id = some b) (h : wpAny (model prog w) A.in1 (b ⟨.ref x :: rest, []⟩) (fun fin s' => ∃ v, fin = .done (.ret v) ∧ Q (some v) s') E s) (ha : argsOk id ⟨.ref x :: rest, []⟩) : wpAny (model prog w) A (callSpecial? (.ref x) name rest) Q E s := by
  simp only [callSpecial?]
  refine wpAny_bind (d_specialOf X C hx hc ?_)
  simp only [C.S.bind]
  exact wpAny_holding (wpAny_bind (wpAny_pure (wpAny_bind (wpAny_mono (d_call (Q := fun v => Q (some v)) X C hx hc hb h ha) (fun v s' h' => wpAny_pure h') fun _ _ h' => h'))))
theorem cs_getitem : CSlot w "__getitem__" "dict.__getitem__" := ⟨PySem.F.slot_dict_getitem, by k_is, .inr (by decide +kernel), ⟨"__getitem__", by decide +kernel⟩⟩
theorem cs_setitem : CSlot w "__setitem__" "dict.__setitem__" := ⟨PySem.F.slot_dict_setitem, by k_is, .inl (by decide +kernel), ⟨"__setitem__", by decide +kernel⟩⟩
theorem cs_contains : CSlot w "__contains__" "dict.__contains__" := ⟨PySem.F.slot_dict_contains, by k_is, .inr (by decide +kernel), ⟨"__contains__", by decide +kernel⟩⟩
theorem cs_iter : CSlot w "__iter__" "dict.__iter__" := ⟨PySem.F.slot_dict_iter, by k_is, .inl (by decide +kernel), ⟨"__iter__", by decide +kernel⟩⟩
theorem cs_get : CSlot w "get" "dict.get" := ⟨PySem.F.slot_dict_get, by k_is, .inr (by decide +kernel), ⟨"get", by decide +kernel⟩⟩
theorem cs_values : CSlot w "values" "dict.values" := ⟨PySem.F.slot_dict_values, by k_is, .inr (by decide +kernel), ⟨"values", by decide +kernel⟩⟩
theorem cs_init : Slot "dict" "__init__" "dict.__init__" := PySem.F.slot_dict_init
end
end Mine
end
set_option maxHeartbeats 4000000
/- part Mk2 -/
section
namespace Mine
open Sem (wp)
theorem fillMk2 : (PySem.Challenge.rw_br0041_01 = PySem.Challenge.rw_br0041_01 ∧ hd.heap_39 = hd.heap_39) := by
  k_fill
  exact ⟨rfl, rfl⟩
section
variable {prog : Program} {w : World} {A : Around} {E : Value → Shared → Prop} {s : Shared} {d : Addr} {o : Obj} {c : List (Int × Int)} {ep : Nat} {k : Int} {t : Tok}
theorem d_seqKey {kv : Value} {name : Str} {Q : Value → Shared → Prop} (X : (hd.heap_39 w.params).In s.heap) (ho : s.heap.get? d = some o) (hc : DCl o) (h : Q kv s) : wpAny (model prog w) A (sequenceKey (.ref d) kv name) Q E s := by
  rcases hc with hc | hc
  · exact wpAny_sequenceKey ⟨o, ho, hc⟩ (by decide) h
  · have hq : noSeq (hd.heap_39 w.params) CtC = true := by k_is
    unfold sequenceKey
    refine wpAny_bind ((ct_type ho hc).here ?_)
    refine wpAny_bind ((anyM_none X hq).here ?_)
    rw [if_pos (show (!false) = true from rfl)]
    exact wpAny_pure h
theorem d_getItem {v : Int} {Q : Value → Shared → Prop} (X : (hd.heap_39 w.params).In s.heap) (ho : s.heap.get? d = some o) (hc : DCl o) (D : DOb prog w o c ep) (hv : cAt c k = some v) (h : ∀ u, Q (.int v u) { s with toks := s.toks + 1 }) :
    wpAny (model prog w) A (getItem (.ref d) (.int k t)) Q E s := by
  unfold getItem
  refine wpAny_holding (wpAny_bind (d_seqKey X ho hc ?_))
  refine wpAny_bind (d_special X cs_getitem ho hc PySem.F.entry_dict_getitem ?_ (PySem.F.args_dict_getitem_2 _ _))
  show wpAny _ _ (dictGet d (.int k t) >>= _) _ _ s
  refine wpAny_bind (d_get ho D (fun v' u e => ?_) fun e => ?_)
  · rw [hv] at e; cases e
    exact wpAny_pure ⟨_, rfl, wpAny_pure (h u)⟩
  · rw [hv] at e; cases e
theorem d_tail {value slice : Expr} {v : Int} {Q : Value → Shared → Prop} (X : (hd.heap_39 w.params).In s.heap) (ho : s.heap.get? d = some o) (hc : DCl o) (D : DOb prog w o c ep) (hv : cAt c k = some v) (h : ∀ u, Q (.int v u) { s with toks := s.toks + 1 })
    (hs : subscripted slice false (.ref d) (.int k t) = operate [.ref d, .int k t] (getItem (.ref d) (.int k t)) := by with_unfolding_all rfl) :
    wpAny (model prog w) A (subscriptTail value slice (.ref d) (.int k t)) Q E s := by
  unfold subscriptTail
  refine wpAny_bind ?_
  rw [getitemInPython_of_ne (by intro q; cases q)]
  refine wpAny_bind (d_specialOf X cs_getitem ho hc ?_)
  have fin : wpAny (model prog w) A (subscripted slice false (.ref d) (.int k t)) (fun r s₃ => wpAny (model prog w) A (letTemporaryGo value (.ref d) r >>= fun _ => pure r) Q E s₃) E s := by
    rw [hs]
    exact wpAny_operating (wpAny_mono (d_getItem (Q := fun r s' => Q r s') X ho hc D hv h) (fun r s₃ h₃ => wpAny_bind (wpAny_letTemporaryGo (wpAny_pure h₃))) fun _ _ x => x)
  first
    | exact wpAny_pure (wpAny_bind fin)
    | exact wpAny_bind (wpAny_pure (wpAny_bind fin))
    | exact wpAny_bind fin
theorem d_notOrd {name : String} {args : Args} {Q : Unit → Shared → Prop} (X : (hd.heap_39 w.params).In s.heap) (ha : args.pos.headD .none = .ref d) (ho : s.heap.get? d = some o) (hc : DCl o) (h : Q () s) : wpAny (model prog w) A (Builtin.Dict.notOrdered name args) Q E s := by
  unfold Builtin.Dict.notOrdered
  split
  · simp only [ha]
    rcases hc with hc | hc
    · refine wpAny_bind (wpAny_typeOf ⟨o, ho, hc⟩ ?_)
      rw [if_neg (by decide)]
      exact wpAny_pure h
    · refine wpAny_bind ((ct_type ho hc).here ?_)
      rw [if_pos (by decide)]
      have e : subIn (hd.heap_39 w.params) (.ref CtC) (.type "collections.OrderedDict") = some false := by k_is
      refine wpAny_bind (Looks.here (M := model prog w) (show Looks _ s.heap (isInstance (.ref d) (.type "collections.OrderedDict")) false from (ct_type ho hc).andThen (looks_subIn X e)) ?_)
      exact wpAny_pure h
  · exact wpAny_pure h
theorem d_setItem {v : Int} {u : Tok} {Q : Unit → Shared → Prop} (X : (hd.heap_39 w.params).In s.heap) (ho : s.heap.get? d = some o) (hc : DCl o) (D : DOb prog w o c ep) (hz : c.length ≤ 1000)
    (h : ∀ h' o' ep', h'.get? d = some o' → o'.cls = o.cls → o'.dict = o.dict → o'.slots = o.slots → DOb prog w o' (kdfPut c k v) ep' → Heap.SameBut d s.heap h' → Q () { s with heap := h', toks := s.toks + 1 }) :
    wpAny (model prog w) A (setItem (.ref d) (.int k t) (.int v u)) Q E s := by
  unfold setItem
  refine wpAny_holding (wpAny_bind (d_seqKey X ho hc ?_))
  refine wpAny_bind (d_special X cs_setitem ho hc PySem.F.entry_dict_setitem ?_ (PySem.F.args_dict_setitem_3 _ _ _))
  show wpAny _ _ (Builtin.Dict.notOrdered "__setitem__" ⟨[.ref d, .int k t, .int v u], []⟩ >>= _) _ _ s
  refine wpAny_bind (d_notOrd X rfl ho hc ?_)
  show wpAny _ _ (dictSet d (.int k t) (.int v u) >>= _) _ _ s
  exact wpAny_bind (d_set ho D hz fun h' o' ep' a1 a2 a3 a4 a5 a6 => wpAny_pure ⟨.none, rfl, wpAny_pure (h h' o' ep' a1 a2 a3 a4 a5 a6)⟩)
theorem d_in {Q : Value → Shared → Prop} (X : (hd.heap_39 w.params).In s.heap) (ho : s.heap.get? d = some o) (hc : DCl o) (D : DOb prog w o c ep) (h : Q (.bool (cAt c k).isSome) { s with toks := s.toks + 1 }) :
    wpAny (model prog w) A (compareOp .In (.int k t) (.ref d)) Q E s := by
  show wpAny _ _ (do return .bool (← contains (.ref d) (.int k t))) Q E s
  refine wpAny_bind ?_
  unfold contains
  try with_reducible refine wpAny_holding ?_
  refine wpAny_bind (d_specialOf X cs_contains ho hc ?_)
  show wpAny _ _ (if (some (Value.builtin "dict.__contains__") == some Value.none) = true then _ else _) _ E s
  rw [if_neg (by rw [beq_builtin_none]; exact Bool.false_ne_true)]
  refine wpAny_bind ?_
  simp only [callSpecialUnlessNone?]
  refine wpAny_bind (d_specialOf X cs_contains ho hc ?_)
  simp only [cs_contains (w := w).S.bind]
  refine wpAny_holding (wpAny_bind (wpAny_pure ?_))
  simp only [builtin_beq_none, Bool.false_eq_true, if_false]
  refine wpAny_bind (d_call (Q := fun v s' => wpAny _ _ _ _ _ s') X cs_contains ho hc PySem.F.entry_dict_contains ?_ (PySem.F.args_dict_contains_2 _ _))
  show wpAny _ _ (dictGet d (.int k t) >>= _) _ _ s
  refine wpAny_bind (d_get ho D (fun v u e => ?_) fun e => ?_)
  · rw [e] at h
    show wpAny _ _ (ret (.bool true)) _ _ _
    exact wpAny_pure ⟨_, rfl, wpAny_pure (wpAny_truthy_bool (wpAny_pure h))⟩
  · rw [e] at h
    show wpAny _ _ (Builtin.Dict.pendingKey? d (.int k t) >>= _) _ _ _
    exact wpAny_bind (wpAny_pendingKey_int (wpAny_pure ⟨_, rfl, wpAny_pure (wpAny_truthy_bool (wpAny_pure h))⟩))
theorem d_callGet {dv : Int} {tu : Tok} {Q : Value → Shared → Prop} (X : (hd.heap_39 w.params).In s.heap) (ho : s.heap.get? d = some o) (hc : DCl o) (D : DOb prog w o c ep) (h : ∀ u, Q (.int ((cAt c k).getD dv) u) { s with toks := s.toks + 1 }) :
    wpAny (model prog w) A (call (.builtin "dict.get") [.ref d, .int k t, .int dv tu]) Q E s := by
  refine d_call X cs_get ho hc PySem.F.entry_dict_get ?_ (PySem.F.args_dict_get_3 _ _ _)
  show wpAny _ _ (dictGet d (.int k t) >>= _) _ _ s
  refine wpAny_bind (d_get ho D (fun v u e => ?_) fun e => ?_)
  · rw [e] at h
    exact wpAny_pure ⟨_, rfl, h u⟩
  · rw [e] at h
    show wpAny _ _ (Builtin.Dict.missed d (.int k t) >>= _) _ _ _
    exact wpAny_bind (wpAny_missed_int (wpAny_pure ⟨_, rfl, h tu⟩))
end
end Mine
end
set_option maxHeartbeats 4000000
/- part Mk3 -/
section
namespace Mine
open Sem (wp)
theorem fillMk3 : (PySem.Challenge.rw_br0041_01 = PySem.Challenge.rw_br0041_01 ∧ hd.heap_39 = hd.heap_39) := by
  k_fill
  exact ⟨rfl, rfl⟩
section
variable {prog : Program} {w : World} {A : Around} {E : Value → Shared → Prop} {s : Shared} {d : Addr} {o : Obj} {c : List (Int × Int)} {ep : Nat}
def DAt (prog : Program) (w : World) (h : Heap) (d : Addr) (c : List (Int × Int)) (ep : Nat) : Prop := ∃ o, h.get? d = some o ∧ DCl o ∧ DOb prog w o c ep
theorem DAt.at' {h h' : Heap} (x : DAt prog w h d c ep) (e : ∀ o, h.get? d = some o → h'.get? d = some o) : DAt prog w h' d c ep := let ⟨o, ho, r⟩ := x; ⟨o, e _ ho, r⟩
theorem DAt.keeps {h h' : Heap} (x : DAt prog w h d c ep) (k : h.StaysIn h') : DAt prog w h' d c ep := x.at' fun o e => k _ o e
theorem DOb.size {es : Array DictEntry} {kvs : List (Int × Value)} (hp : Pairs (intKind prog w) es.toList kvs) (hv : KV kvs c) : es.size = c.length := by
  have e1 := hp.length
  have e2 : es.toList.length = es.size := by simp
  have e3 := hv.length
  omega
theorem d_iter {Q : Value → Shared → Prop} (X : (hd.heap_39 w.params).In s.heap) (hd : (d == sysModules) = false) (ho : s.heap.get? d = some o) (hc : DCl o) (D : DOb prog w o c ep)
    (hQ : Q (.ref s.heap.objs.size) { s with heap := s.heap.push { cls := .type "dict_keyiterator", data := .fields #[.ref d, .int 0 0, .int c.length 0, .int ep 0] } }) :
    wpAny (model prog w) A (pyIter (.ref d)) Q E s := by
  obtain ⟨es, kvs, hdat, hk, hp, hv, hn⟩ := id D
  unfold pyIter
  refine wpAny_bind (d_specialOf X cs_iter ho hc ?_)
  show wpAny _ A (callSpecialIfBoundUnlessNone? (.ref d) "__iter__" _ >>= _) Q E s
  refine wpAny_bind ?_
  simp only [callSpecialIfBoundUnlessNone?, bindSpecialIfBound?]
  refine wpAny_holding (wpAny_bind (wpAny_bind (d_specialOf X cs_iter ho hc ?_)))
  simp only [cs_iter (w := w).S.bind]
  refine wpAny_bind (wpAny_askSetting (wpAny_ite ?_))
  have body : ∀ (Q' : Option Value → Shared → Prop), (Q' (some (.ref s.heap.objs.size)) { s with heap := s.heap.push { cls := .type "dict_keyiterator", data := .fields #[.ref d, .int 0 0, .int c.length 0, .int ep 0] } }) →
      ∀ refuse : Sem Value, wpAny (model prog w) A (if (Value.builtin "dict.__iter__" == Value.none) = true then (refuse >>= fun v => pure (some v)) else (call (.builtin "dict.__iter__") [.ref d] >>= fun v => pure (some v))) Q' E s := fun Q' hQ' refuse => by
    simp only [builtin_beq_none, Bool.false_eq_true, if_false]
    refine wpAny_bind (d_call (Q := fun v s' => wpAny _ _ _ _ _ s') X cs_iter ho hc PySem.F.entry_dict_iter ?_ (PySem.F.args_dict_iter_1 _))
    unfold Builtin.«dict.__iter__»
    refine wpAny_bind ?_
    unfold Builtin.Dict.dictSlotNone
    refine wpAny_bind (d_notOrd X rfl ho hc ?_)
    show wpAny _ _ (pure (Value.ref d)) _ _ s
    refine wpAny_pure ?_
    show wpAny _ _ (Builtin.Dict.showsAll d >>= _) _ _ s
    unfold Builtin.Dict.showsAll
    rw [if_neg (by rw [hd]; exact Bool.false_ne_true)]
    refine wpAny_bind (wpAny_pure ?_)
    refine wpAny_bind (wpAny_dictEntries ho hdat ?_)
    refine wpAny_bind (wpAny_dictEpoch ho hdat ?_)
    have hsz : es.size = c.length := DOb.size hp hv
    refine wpAny_bind (wpAny_newObj_type (wpAny_pure ⟨_, rfl, wpAny_pure ?_⟩))
    simpa [rawInt, hsz] using hQ'
  have fin := fun refuse => body (fun r s' => wpAny (model prog w) A (match r with
      | some it => (do match ← specialOf it "__next__" with
        | none => rule "iter.non-iterator"; raiseError "TypeError" s!"iter() returned non-iterator of type '{← typeNameOf it}'"
        | some _ => pure it : Sem Value)
      | none => (do match ← bindSpecialIfBound? (.ref d) "__getitem__" with
        | none => rule "iter.not-iterable"; raiseError "TypeError" s!"'{← typeNameOf (.ref d)}' object is not iterable"
        | some _ => rule "iter.getitem-fallback"; newFields "iterator" [(.ref d), ← mkInt 0] : Sem Value)) Q E s')
    (wpAny_bind (wpAny_specialOf (T := "dict_keyiterator") ⟨_, Heap.get?_push_size _ rfl, rfl⟩ F.slot_dict_keyiterator_next.lookup (wpAny_pure hQ))) refuse
  split
  · exact wpAny_bind (wpAny_pure (wpAny_pure (fin _)))
  · exact wpAny_tryCatch (wpAny_bind (wpAny_pure (wpAny_pure (fin _))))

theorem d_next {it : Addr} {i : Nat} {k v : Int} {Q : Option Value → Shared → Prop} (hit : s.heap.IsKeyIter it d i c.length ep) (hm : DAt prog w s.heap d c ep) (hx : c[i]? = some (k, v))
    (hQ : ∀ t h', h'.IsKeyIter it d (i + 1) c.length ep → Heap.SameBut it s.heap h' → Q (some (.int k t)) { s with heap := h' }) :
    wpAny (model prog w) A (pyNext (.ref it)) Q E s := by
  obtain ⟨o, ho, hc, hd⟩ := id hit
  obtain ⟨od, hod, hcd, es, kvs, hdd, hk, hp, hv, hn⟩ := id hm
  unfold pyNext
  refine wpAny_bind (wpAny_attempt (wpAny_callSpecial?_slot (name := Str.ofString "__next__") hit.typeIs F.slot_dict_keyiterator_next
    (wpAny_call_entry F.slot_dict_keyiterator_next hit.typeIs F.entry_dict_keyiterator_next ?_ (F.args_dict_keyiterator_next_1 _))))
  refine wpAny_bind (wpAny_pure ?_)
  refine wpAny_bind ?_
  refine wpAny_bind ?_
  first | refine wpAny_bind (wpAny_typeNameOfWhole_keyiter hit.typeIs (wpAny_pure ?_)) | refine wpAny_bind (wpAny_typeNameOf_keyiter hit.typeIs (wpAny_pure ?_))
  refine wpAny_bind (wpAny_fieldsOf ho hd ?_)
  have hown : Builtin.Dict_items.ownsTuple "dict_keyiterator" = false := by decide
  simp only [hown, Bool.false_eq_true, if_false]
  show wpAny _ _ (if (Value.ref d == Value.none) = true then _ else _) _ _ s
  rw [if_neg (show ¬ ((Value.ref d == Value.none) = true) from Bool.false_ne_true)]
  refine wpAny_bind (wpAny_pure ?_)
  refine wpAny_bind (wpAny_dictEntries hod hdd ?_)
  have hsz : es.size = c.length := DOb.size hp hv
  rw [if_neg (by rw [hsz]; simp)]
  refine wpAny_bind (wpAny_pure ?_)
  refine wpAny_bind (wpAny_dictEpoch hod hdd ?_)
  rw [if_neg (by simp)]
  refine wpAny_pure ?_
  have hlt : i < c.length := by
    rcases Nat.lt_or_ge i c.length with h | h
    · exact h
    · simp [List.getElem?_eq_none h] at hx
  have hlt' : i < es.size := by rw [hsz]; exact hlt
  obtain ⟨u, hu⟩ := hv.get hx
  have hkey : Value.isInt k es[i].key = true := (hp.get? (e := es[i]) (by simp [hlt']) hu).1
  obtain ⟨t, ht⟩ := Value.isInt_shape hkey
  simp only [show ¬ ((i : Int) < 0) from by omega, if_false, Int.toNat_natCast, Array.getElem?_eq_getElem hlt']
  refine wpAny_bind ?_
  first | refine wpAny_bind (wpAny_typeNameOfWhole_keyiter hit.typeIs (wpAny_pure ?_)) | refine wpAny_bind (wpAny_typeNameOf_keyiter hit.typeIs (wpAny_pure ?_))
  refine wpAny_bind (wpAny_isOneOf_keyiter hit.typeIs ?_)
  show wpAny _ _ (setField (.ref it) 1 (rawInt ((i : Int) + 1)) >>= _) _ _ s
  refine wpAny_bind (wpAny_setField ho hd (by simp) ?_)
  have hit' : (s.heap.update it (Obj.mapFields (·.setIfInBounds 1 (rawInt ((i : Int) + 1))))).IsKeyIter it d (i + 1) c.length ep :=
    ⟨_, Heap.get?_update_self _ ho (Obj.isFreed_of_fields (Obj.data_mapFields hd _)), (Obj.cls_mapFields ..).trans hc, by rw [Obj.data_mapFields hd]; simp [rawInt]⟩
  refine wpAny_bind (wpAny_holding ?_)
  refine wpAny_bind (wpAny_isOneOf_keyiter (s := { s with heap := s.heap.update it (Obj.mapFields (·.setIfInBounds 1 (rawInt ((i : Int) + 1)))) }) hit'.typeIs ?_)
  show wpAny _ _ (pure es[i].key) _ _ _
  rw [ht]
  exact wpAny_pure (wpAny_pure ⟨_, rfl, wpAny_pure (hQ _ _ hit' (Heap.SameBut.update ..))⟩)

theorem d_nextEnd {it : Addr} {i : Nat} {Q : Option Value → Shared → Prop} (hh : A.handled = none) (hit : s.heap.IsKeyIter it d i c.length ep) (hm : DAt prog w s.heap d c ep) (hx : c[i]? = none)
    (hQ : ∀ h', Heap.ExtBut it s.heap h' → Q none { s with heap := h' }) : wpAny (model prog w) A (pyNext (.ref it)) Q E s := by
  obtain ⟨o, ho, hc, hd⟩ := id hit
  obtain ⟨od, hod, hcd, es, kvs, hdd, hk, hp, hv, hn⟩ := id hm
  unfold pyNext
  refine wpAny_bind (wpAny_attempt (wpAny_callSpecial?_slot (name := Str.ofString "__next__") hit.typeIs F.slot_dict_keyiterator_next
    (wpAny_call_entry F.slot_dict_keyiterator_next hit.typeIs F.entry_dict_keyiterator_next ?_ (F.args_dict_keyiterator_next_1 _))))
  refine wpAny_bind (wpAny_pure ?_)
  refine wpAny_bind ?_
  refine wpAny_bind ?_
  first | refine wpAny_bind (wpAny_typeNameOfWhole_keyiter hit.typeIs (wpAny_pure ?_)) | refine wpAny_bind (wpAny_typeNameOf_keyiter hit.typeIs (wpAny_pure ?_))
  refine wpAny_bind (wpAny_fieldsOf ho hd ?_)
  have hown : Builtin.Dict_items.ownsTuple "dict_keyiterator" = false := by decide
  simp only [hown, Bool.false_eq_true, if_false]
  show wpAny _ _ (if (Value.ref d == Value.none) = true then _ else _) _ _ s
  rw [if_neg (show ¬ ((Value.ref d == Value.none) = true) from Bool.false_ne_true)]
  refine wpAny_bind (wpAny_pure ?_)
  refine wpAny_bind (wpAny_dictEntries hod hdd ?_)
  have hsz : es.size = c.length := DOb.size hp hv
  rw [if_neg (by rw [hsz]; simp)]
  refine wpAny_bind (wpAny_pure ?_)
  refine wpAny_bind (wpAny_dictEpoch hod hdd ?_)
  rw [if_neg (by simp)]
  refine wpAny_pure ?_
  have hge : es.size ≤ i := by rw [hsz]; simpa using hx
  simp only [show ¬ ((i : Int) < 0) from by omega, if_false, Int.toNat_natCast, Array.getElem?_eq_none hge]
  refine wpAny_bind ?_
  first | refine wpAny_bind (wpAny_typeNameOfWhole_keyiter hit.typeIs (wpAny_pure ?_)) | refine wpAny_bind (wpAny_typeNameOf_keyiter hit.typeIs (wpAny_pure ?_))
  show wpAny _ _ (setField (.ref it) 0 .none >>= _) _ _ s
  refine wpAny_bind (wpAny_setField ho hd (by simp) ?_)
  show wpAny _ _ (newExc (.type "StopIteration") [] >>= _) _ _ _
  refine wpAny_bind ?_
  simp only [newExc, newTuple]
  refine wpAny_bind (wpAny_newObj_type ?_ (by size_fits))
  refine wpAny_bind (m := firstArgMember _ _) (wpAny_of_eq (a := Value.none) (by first | rfl | (simp only [firstArgMember]; rfl)) ?_)
  refine wpAny_newObj_type ?_ (by size_fits)
  simp only [raiseNew]
  refine wpAny_bind (wpAny_handled ?_)
  rw [show A.in1.handled = none from hh]
  refine wpAny_bind (wpAny_pure (wpAny_throw ?_))
  refine wpAny_bind (wpAny_isInstance (T := "StopIteration") (b := true) ⟨_, Heap.get?_push_size _ rfl, rfl⟩ isSubtype_stop ?_)
  exact wpAny_pure (hQ _ (((Heap.SameBut.update ..).extBut.push _).push _))

theorem walk_keys (hh : A.handled = none) (I : Addr) (hne : d ≠ I) (c : List (Int × Int)) (ep : Nat) :
    Walks prog w A I [I, d] [I] c.length (fun i v => ∃ k x t, c[i]? = some (k, x) ∧ v = .int k t) (fun i h => h.IsKeyIter I d i c.length ep ∧ DAt prog w h d c ep) where
  sub := fun b hb => by simp at hb; simp [hb]
  frame := fun _ _ _ st hk => ⟨st.1.at fun o e => hk I (by simp) o e, st.2.at' fun o e => hk d (by simp) o e⟩
  item := fun i s Q E hi st hQ => by
    obtain ⟨⟨k, x⟩, hx⟩ : ∃ p, c[i]? = some p := ⟨c[i], by simp [hi]⟩
    refine d_next st.1 st.2 hx fun t h' hit' hs' => ?_
    exact hQ _ h' s.toks ⟨k, x, t, hx, rfl⟩ ⟨hit', st.2.at' fun o e => hs'.extBut _ _ hne e⟩ fun b o hb e => hs'.extBut b o (fun h => hb (by simp [h])) e
  done := fun s Q E st hQ => d_nextEnd hh st.1 st.2 (by simp) fun h' he' => hQ h' s.toks fun b o hb e => he' b o (fun h => hb (by simp [h])) e
  self := fun _ _ _ _ st hQ => wpAny_pyIter_keyiter st.1 hQ
end
end Mine
end
set_option maxHeartbeats 4000000
/- part Mk4 -/
section
namespace Mine
open Sem (wp)
theorem fillMk4 : (PySem.Challenge.rw_br0041_01 = PySem.Challenge.rw_br0041_01 ∧ hd.heap_39 = hd.heap_39) := by
  k_fill
  exact ⟨rfl, rfl⟩
section
variable {prog : Program} {w : World} {A : Around} {E : Value → Shared → Prop} {s : Shared} {d : Addr} {o : Obj} {c : List (Int × Int)} {ep : Nat}
theorem d_nextV {it : Addr} {i : Nat} {k v : Int} {Q : Option Value → Shared → Prop} (hit : s.heap.IsValIter it d i c.length ep) (hm : DAt prog w s.heap d c ep) (hx : c[i]? = some (k, v))
    (hQ : ∀ t h', h'.IsValIter it d (i + 1) c.length ep → Heap.SameBut it s.heap h' → Q (some (.int v t)) { s with heap := h' }) :
    wpAny (model prog w) A (pyNext (.ref it)) Q E s := by
  obtain ⟨o, ho, hc, hd⟩ := id hit
  obtain ⟨od, hod, hcd, es, kvs, hdd, hk, hp, hv, hn⟩ := id hm
  unfold pyNext
  refine wpAny_bind (wpAny_attempt (wpAny_callSpecial?_slot (name := Str.ofString "__next__") hit.typeIs F.slot_dict_valueiterator_next
    (wpAny_call_entry F.slot_dict_valueiterator_next hit.typeIs F.entry_dict_valueiterator_next ?_ (F.args_dict_valueiterator_next_1 _))))
  refine wpAny_bind (wpAny_pure ?_)
  refine wpAny_bind ?_
  refine wpAny_bind ?_
  first | refine wpAny_bind (wpAny_typeNameOfWhole_valiter hit.typeIs (wpAny_pure ?_)) | refine wpAny_bind (wpAny_typeNameOf_valiter hit.typeIs (wpAny_pure ?_))
  refine wpAny_bind (wpAny_fieldsOf ho hd ?_)
  have hown : Builtin.Dict_items.ownsTuple "dict_valueiterator" = false := by decide
  simp only [hown, Bool.false_eq_true, if_false]
  show wpAny _ _ (if (Value.ref d == Value.none) = true then _ else _) _ _ s
  rw [if_neg (show ¬ ((Value.ref d == Value.none) = true) from Bool.false_ne_true)]
  refine wpAny_bind (wpAny_pure ?_)
  refine wpAny_bind (wpAny_dictEntries hod hdd ?_)
  have hsz : es.size = c.length := DOb.size hp hv
  rw [if_neg (by rw [hsz]; simp)]
  refine wpAny_bind (wpAny_pure ?_)
  refine wpAny_bind (wpAny_dictEpoch hod hdd ?_)
  rw [if_neg (by simp)]
  refine wpAny_pure ?_
  have hlt : i < c.length := by
    rcases Nat.lt_or_ge i c.length with h | h
    · exact h
    · simp [List.getElem?_eq_none h] at hx
  have hlt' : i < es.size := by rw [hsz]; exact hlt
  obtain ⟨u, hu⟩ := hv.get hx
  have ht : es[i].val = .int v u := (hp.get? (e := es[i]) (by simp [hlt']) hu).2
  simp only [show ¬ ((i : Int) < 0) from by omega, if_false, Int.toNat_natCast, Array.getElem?_eq_getElem hlt']
  refine wpAny_bind ?_
  first | refine wpAny_bind (wpAny_typeNameOfWhole_valiter hit.typeIs (wpAny_pure ?_)) | refine wpAny_bind (wpAny_typeNameOf_valiter hit.typeIs (wpAny_pure ?_))
  refine wpAny_bind (wpAny_isOneOf_valiter hit.typeIs ?_)
  show wpAny _ _ (setField (.ref it) 1 (rawInt ((i : Int) + 1)) >>= _) _ _ s
  refine wpAny_bind (wpAny_setField ho hd (by simp) ?_)
  have hit' : (s.heap.update it (Obj.mapFields (·.setIfInBounds 1 (rawInt ((i : Int) + 1))))).IsValIter it d (i + 1) c.length ep :=
    ⟨_, Heap.get?_update_self _ ho (Obj.isFreed_of_fields (Obj.data_mapFields hd _)), (Obj.cls_mapFields ..).trans hc, by rw [Obj.data_mapFields hd]; simp [rawInt]⟩
  refine wpAny_bind (wpAny_holding ?_)
  refine wpAny_bind (wpAny_isOneOf_valiter (s := { s with heap := s.heap.update it (Obj.mapFields (·.setIfInBounds 1 (rawInt ((i : Int) + 1)))) }) hit'.typeIs ?_)
  refine wpAny_bind (wpAny_isOneOf_valiter (s := { s with heap := s.heap.update it (Obj.mapFields (·.setIfInBounds 1 (rawInt ((i : Int) + 1)))) }) hit'.typeIs ?_)
  show wpAny _ _ (pure es[i].val) _ _ _
  rw [ht]
  exact wpAny_pure (wpAny_pure ⟨_, rfl, wpAny_pure (hQ _ _ hit' (Heap.SameBut.update ..))⟩)

theorem d_nextVEnd {it : Addr} {i : Nat} {Q : Option Value → Shared → Prop} (hh : A.handled = none) (hit : s.heap.IsValIter it d i c.length ep) (hm : DAt prog w s.heap d c ep) (hx : c[i]? = none)
    (hQ : ∀ h', Heap.ExtBut it s.heap h' → Q none { s with heap := h' }) : wpAny (model prog w) A (pyNext (.ref it)) Q E s := by
  obtain ⟨o, ho, hc, hd⟩ := id hit
  obtain ⟨od, hod, hcd, es, kvs, hdd, hk, hp, hv, hn⟩ := id hm
  unfold pyNext
  refine wpAny_bind (wpAny_attempt (wpAny_callSpecial?_slot (name := Str.ofString "__next__") hit.typeIs F.slot_dict_valueiterator_next
    (wpAny_call_entry F.slot_dict_valueiterator_next hit.typeIs F.entry_dict_valueiterator_next ?_ (F.args_dict_valueiterator_next_1 _))))
  refine wpAny_bind (wpAny_pure ?_)
  refine wpAny_bind ?_
  refine wpAny_bind ?_
  first | refine wpAny_bind (wpAny_typeNameOfWhole_valiter hit.typeIs (wpAny_pure ?_)) | refine wpAny_bind (wpAny_typeNameOf_valiter hit.typeIs (wpAny_pure ?_))
  refine wpAny_bind (wpAny_fieldsOf ho hd ?_)
  have hown : Builtin.Dict_items.ownsTuple "dict_valueiterator" = false := by decide
  simp only [hown, Bool.false_eq_true, if_false]
  show wpAny _ _ (if (Value.ref d == Value.none) = true then _ else _) _ _ s
  rw [if_neg (show ¬ ((Value.ref d == Value.none) = true) from Bool.false_ne_true)]
  refine wpAny_bind (wpAny_pure ?_)
  refine wpAny_bind (wpAny_dictEntries hod hdd ?_)
  have hsz : es.size = c.length := DOb.size hp hv
  rw [if_neg (by rw [hsz]; simp)]
  refine wpAny_bind (wpAny_pure ?_)
  refine wpAny_bind (wpAny_dictEpoch hod hdd ?_)
  rw [if_neg (by simp)]
  refine wpAny_pure ?_
  have hge : es.size ≤ i := by rw [hsz]; simpa using hx
  simp only [show ¬ ((i : Int) < 0) from by omega, if_false, Int.toNat_natCast, Array.getElem?_eq_none hge]
  refine wpAny_bind ?_
  first | refine wpAny_bind (wpAny_typeNameOfWhole_valiter hit.typeIs (wpAny_pure ?_)) | refine wpAny_bind (wpAny_typeNameOf_valiter hit.typeIs (wpAny_pure ?_))
  show wpAny _ _ (setField (.ref it) 0 .none >>= _) _ _ s
  refine wpAny_bind (wpAny_setField ho hd (by simp) ?_)
  show wpAny _ _ (newExc (.type "StopIteration") [] >>= _) _ _ _
  refine wpAny_bind ?_
  simp only [newExc, newTuple]
  refine wpAny_bind (wpAny_newObj_type ?_ (by size_fits))
  refine wpAny_bind (m := firstArgMember _ _) (wpAny_of_eq (a := Value.none) (by first | rfl | (simp only [firstArgMember]; rfl)) ?_)
  refine wpAny_newObj_type ?_ (by size_fits)
  simp only [raiseNew]
  refine wpAny_bind (wpAny_handled ?_)
  rw [show A.in1.handled = none from hh]
  refine wpAny_bind (wpAny_pure (wpAny_throw ?_))
  refine wpAny_bind (wpAny_isInstance (T := "StopIteration") (b := true) ⟨_, Heap.get?_push_size _ rfl, rfl⟩ isSubtype_stop ?_)
  exact wpAny_pure (hQ _ (((Heap.SameBut.update ..).extBut.push _).push _))

theorem walk_vals (hh : A.handled = none) (I : Addr) (hne : d ≠ I) (c : List (Int × Int)) (ep : Nat) :
    Walks prog w A I [I, d] [I] c.length (fun i v => ∃ k x t, c[i]? = some (k, x) ∧ v = .int x t) (fun i h => h.IsValIter I d i c.length ep ∧ DAt prog w h d c ep) where
  sub := fun b hb => by simp at hb; simp [hb]
  frame := fun _ _ _ st hk => ⟨st.1.at fun o e => hk I (by simp) o e, st.2.at' fun o e => hk d (by simp) o e⟩
  item := fun i s Q E hi st hQ => by
    obtain ⟨⟨k, x⟩, hx⟩ : ∃ p, c[i]? = some p := ⟨c[i], by simp [hi]⟩
    refine d_nextV st.1 st.2 hx fun t h' hit' hs' => ?_
    exact hQ _ h' s.toks ⟨k, x, t, hx, rfl⟩ ⟨hit', st.2.at' fun o e => hs'.extBut _ _ hne e⟩ fun b o hb e => hs'.extBut b o (fun h => hb (by simp [h])) e
  done := fun s Q E st hQ => d_nextVEnd hh st.1 st.2 (by simp) fun h' he' => hQ h' s.toks fun b o hb e => he' b o (fun h => hb (by simp [h])) e
  self := fun _ _ _ _ st hQ => wpAny_pyIter_valiter st.1 hQ
theorem d_callValues {Q : Value → Shared → Prop} (X : (hd.heap_39 w.params).In s.heap) (hd : (d == sysModules) = false) (ho : s.heap.get? d = some o) (hc : DCl o)
    (h : Q (.ref s.heap.objs.size) { s with heap := s.heap.push { cls := .type "dict_values", data := .fields #[.ref d] } }) : wpAny (model prog w) A (call (.builtin "dict.values") [.ref d]) Q E s := by
  refine d_call X cs_values ho hc PySem.F.entry_dict_values ?_ (PySem.F.args_dict_values_1 _)
  refine wpAny_bind ?_
  unfold Builtin.Dict.noArgs
  refine wpAny_bind (d_notOrd X rfl ho hc ?_)
  show wpAny _ _ (pure d) _ _ s
  refine wpAny_pure ?_
  show wpAny _ _ (Builtin.Dict.showsAll d >>= _) _ _ s
  unfold Builtin.Dict.showsAll
  rw [if_neg (by rw [hd]; exact Bool.false_ne_true)]
  refine wpAny_bind (wpAny_pure ?_)
  exact wpAny_bind (wpAny_newObj_type (wpAny_pure ⟨_, rfl, h⟩))
theorem d_valIter {v : Addr} {Q : Value → Shared → Prop} (hv : s.heap.IsValuesView v d) (ho : s.heap.get? d = some o) (D : DOb prog w o c ep)
    (hQ : Q (.ref s.heap.objs.size) { s with heap := s.heap.push { cls := .type "dict_valueiterator", data := .fields #[.ref d, .int 0 0, .int c.length 0, .int ep 0] } }) :
    wpAny (model prog w) A (pyIter (.ref v)) Q E s := by
  obtain ⟨ov, hov, hcv, hdv⟩ := id hv
  obtain ⟨es, kvs, hdat, hk, hp, hvk, hn⟩ := id D
  refine wpAny_pyIter_slot hv.typeIs F.slot_dict_values_iter (wpAny_call_entry F.slot_dict_values_iter hv.typeIs F.entry_dict_values_iter ?_ (F.args_dict_values_iter_1 _))
  unfold Builtin.«dict_values.__iter__»
  refine wpAny_bind (wpAny_pure ?_)
  refine wpAny_bind ?_
  unfold Builtin.Dict_items.dictOf
  refine wpAny_bind (wpAny_field hov hdv (x := .ref d) rfl (wpAny_pure ?_))
  refine wpAny_bind ?_
  unfold Builtin.Dict_items.newIterator
  refine wpAny_bind (wpAny_dictEntries ho hdat ?_)
  refine wpAny_bind (wpAny_dictEpoch ho hdat ?_)
  have hsz : es.size = c.length := DOb.size hp hvk
  have hown : Builtin.Dict_items.ownsTuple "dict_valueiterator" = false := by decide
  simp only [hown, Bool.false_eq_true, if_false]
  refine wpAny_newObj_type (wpAny_pure ⟨_, rfl, "dict_valueiterator", _, ⟨_, Heap.get?_push_size _ rfl, rfl⟩, F.slot_dict_valueiterator_next.lookup, ?_⟩)
  simpa [rawInt, hsz] using hQ
/-- sum of a dictionary's values -/
theorem d_sum {v : Addr} {Q : Value → Shared → Prop} (hh : A.handled = none) (hv : s.heap.IsValuesView v d) (ho : s.heap.get? d = some o) (hc : DCl o) (D : DOb prog w o c ep)
    (hQ : ∀ h' tk t, s.heap.StaysIn h' → Q (.int (c.map (·.2)).sum t) { s with heap := h', toks := tk }) : wpAny (model prog w) A (call (.builtin "sum") [.ref v]) Q E s := by
  have hdl : d < s.heap.objs.size := Heap.lt_size ho
  have hne : d ≠ s.heap.objs.size := Nat.ne_of_lt hdl
  refine call_sum_walkAnyS (d_valIter hv ho D ⟨_, _, _, _, _, _, _, fun i => (c.map (·.2)).getD i 0, rfl, (walk_vals (prog := prog) (w := w) (A := A.in1) hh _ hne c ep).toS, ⟨⟨_, Heap.get?_push_size _ rfl, rfl, rfl⟩, o, Heap.get?_push_of_some _ ho, hc, D⟩, ?_, ?_, ?_⟩)
  · intro b hb
    show b < (Heap.push _ _).objs.size
    rw [Heap.size_push]
    rcases List.mem_cons.mp hb with rfl | hb
    · exact Nat.lt_succ_self _
    · rw [List.mem_singleton.mp hb]; exact Nat.lt_succ_of_lt hdl
  · rintro i v ⟨k, x, t, hx, rfl⟩
    exact ⟨t, by simp [hx]⟩
  · intro s' t' hm
    have e : preSum (fun i => (c.map (·.2)).getD i 0) c.length = (c.map (·.2)).sum := by
      have gen : ∀ (l : List Int) (n : Nat), n ≤ l.length → preSum (fun i => l.getD i 0) n = (l.take n).sum := fun l n => by
        induction n with
        | zero => intro _; rfl
        | succ n ih =>
          intro hn
          show preSum _ n + _ = _
          rw [ih (Nat.le_of_succ_le hn), List.take_add_one, List.sum_append]
          have : n < l.length := hn
          simp [this]
      have := gen (c.map (·.2)) c.length (by simp)
      rw [this, List.take_of_length_le (by simp)]
    rw [e]
    have h1 := hm.os
    have h2 := hm.drawn
    have h3 := hm.gens
    have k : s.heap.StaysIn s'.heap := fun b ob e => hm.heap b ob (by simpa using Nat.ne_of_lt (Heap.lt_size e)) (Heap.get?_push_of_some _ e)
    obtain ⟨h', g', d', tk', os'⟩ := s'
    dsimp only at h1 h2 h3 k
    subst h1 h2 h3
    exact hQ h' tk' t' k
/-- a counter's method, as a call's callee -/
theorem d_method {name : Str} {f : Value} {dx : Addr} {pl : Sem Bool} {Q : Value × List Value → Shared → Prop} (X : (hd.heap_39 w.params).In s.heap) (ho : s.heap.get? d = some o) (hc : o.cls = .ref CtC) (hdx : o.dict = some dx) (hde : s.heap.get? dx = some emptyDict)
    (hf : findIn (hd.heap_39 w.params) (.ref CtC) name = some (some f)) {tf : Value} (ht : Looks (model prog w) s.heap (typeOf f) tf) (htf : tf = .type "function" ∨ tf = .type "method_descriptor") (h : Q (f, [.ref d]) s) : wpAny (model prog w) A (getMethod (.ref d) name pl) Q E s := by
  have e1 : findIn (hd.heap_39 w.params) (.ref CtC) "__getattribute__" = some (some (.builtin "dict.__getattribute__")) := by k_is
  have e2 : findIn (hd.heap_39 w.params) (.ref CtC) "__getattr__" = some none := by k_is
  have hcan : Manifest.canonical "dict.__getattribute__" = "object.__getattribute__" := by decide +kernel
  have ty := ct_type (M := model prog w) ho hc
  unfold getMethod specialOf
  refine wpAny_bind (wpAny_bind (ty.here ((looks_findIn X e1).here ?_)))
  dsimp only
  rw [hcan, if_neg (by decide)]
  refine wpAny_bind (wpAny_bind (ty.here ((looks_findIn X e2).here ?_)))
  refine wpAny_bind (wpAny_bind (ty.here ((looks_findIn X hf).here ?_)))
  refine wpAny_bind (ht.here ?_)
  rw [if_neg (by rcases htf with rfl | rfl <;> decide +kernel)]
  refine wpAny_bind (wpAny_loadPart ho ?_)
  rw [hdx]
  refine wpAny_bind (wpAny_bind (wpAny_loadPart hde ?_))
  have hl : lookIn name emptyDict = some none := by rfl
  obtain ⟨r, a, b⟩ : ∃ r, lookIn name emptyDict = some r ∧ r.isSome = false := ⟨none, hl, rfl⟩
  rw [nsLook_of a]
  refine wpAny_pure ?_
  rw [b]
  exact wpAny_bind (wpAny_rule (wpAny_pure h))
end
end Mine
end
set_option maxHeartbeats 4000000
/- part Mk5 -/
section
namespace Mine
open Sem (wp)
theorem fillMk5 : (PySem.Challenge.rw_br0041_01 = PySem.Challenge.rw_br0041_01 ∧ hd.heap_39 = hd.heap_39) := by
  k_fill
  exact ⟨rfl, rfl⟩
abbrev ctObj (dx : Addr) : Obj := { cls := .ref CtC, dict := some dx, data := .dict #[] }
section
variable {prog : Program} {w : World} {A : Around} {R : Result → Shared → Prop} {h : Heap} {g : Array GenState} {d : Drawn} {t : Nat} {os : OsState}
structure CtMakes (M : Model) (h : Heap) : Prop where
  obj : ∃ oc od cd sl, h.get? CtC = some ⟨oc, od, .cls cd, sl⟩ ∧ cd.hasDel = false ∧ cd.mro = [.ref CtC, .type "dict", .type "object"]
  made : Looks M h (Bind.madeBy (.ref CtC)) (some "dict.__new__")
  base : Looks M h (Bind.staticBase (.ref CtC)) (.ref CtC)
  self : Looks M h (isSubtype (.ref CtC) (.ref CtC)) true
  top : Looks M h (isSubtype (.ref CtC) (.type "dict")) true
  call : Looks M h (specialOf (.ref CtC) "__call__") (some (.builtin "type.__call__"))
  typ : Looks M h (isInstance (.ref CtC) (.type "type")) true
  isT : Looks M h (isType (.ref CtC)) true
  init : Looks M h (typeLookup (.ref CtC) "__init__") (some (.ref 37))
theorem ct_makes {M : Model} (w : World) (X : (hd.heap_39 w.params).In h) : CtMakes M h := by
  have ho : (hd.heap_39 w.params).lookup CtC = some ⟨.type "type", none, .cls { name := Str.ofString "Counter", bases := [.type "dict"], mro := [.ref CtC, .type "dict", .type "object"], ns := 73, qualname := Str.ofString "Counter" },
      #[some (.ref 22), none, some (.str (Str.ofString "Counter") 196), some (.str (Str.ofString "Counter") 204), some (.builtin "dict.__new__"), some (.bool true)]⟩ := by kernel_rfl
  have hC := X _ _ ho
  have hm : Looks M h (mroOf (.ref CtC)) [.ref CtC, .type "dict", .type "object"] := ((Looks.ld (part := none) hC).andThen .now).andThen .now
  have made : Looks M h (Bind.madeBy (.ref CtC)) (some "dict.__new__") := by
    intro A Q E s k q
    unfold Bind.madeBy
    refine wpAny_bind (hm A _ E s k ?_)
    rw [List.forIn_cons]
    refine wpAny_bind (wpAny_bind (wpAny_bind (wpAny_bind (wpAny_loadPart (k _ _ hC) (wpAny_pure ?_)))))
    exact wpAny_pure (wpAny_pure (wpAny_pure q))
  refine ⟨⟨_, _, _, _, hC, rfl, rfl⟩, made, ?_, looks_subIn X (by k_is), looks_subIn X (by k_is), looks_specialIn X (by k_is), looks_instIn X (by k_is), ?_, looks_findIn X (by k_is)⟩
  · intro A Q E s k q
    unfold Bind.staticBase
    refine wpAny_bind (hm A _ E s k ?_)
    rw [List.forIn_cons]
    exact wpAny_bind (wpAny_bind (wpAny_bind (made A _ E s k (wpAny_pure (wpAny_pure (wpAny_pure q))))))
  · exact (Looks.ld hC).andThen .now

theorem new_ct {rest : List Value} {kw : List (Str × Value)} (Y : CtMakes (model prog w) h)
    (hq : R (.ok (.ret (.ref (h.objs.size + 1)))) ⟨(h.push emptyDict).push (ctObj h.objs.size), g, d, t, os⟩) :
    codeAny (model prog w) A (.call (.builtin "dict.__new__") ⟨.ref CtC :: rest, kw⟩) R ⟨h, g, d, t, os⟩ := by
  obtain ⟨⟨oc, od, cd, sl, hC, e2, hmro⟩, made, base, self, top, call, typ, isT, init⟩ := Y
  have hq1 : plainId "dict.__new__" = true := by decide +kernel
  have hk : builtinKind "dict.__new__" = some .builtinFn := by decide +kernel
  have hs : splitId "dict.__new__" = some ("dict", "__new__") := by decide +kernel
  have hb : entryFor table "dict.__new__" = some Builtin.«dict.__new__» := entryFor_of_tree (by kernel_rfl)
  refine codeAny_call_builtin hq1 hb ?_
  simp only [checkBuiltinCall, hk, hs]
  have hm : Looks (model prog w) h (mroOf (.ref CtC)) cd.mro := ((Looks.ld (part := none) hC).andThen .now).andThen .now
  repeat (first | simp only [bne_self_eq_false, Bool.false_eq_true, if_false, Bool.not_true, beq_self_eq_true, if_true] | lk)
  rw [hmro, if_neg (by decide)]
  have fin : ∀ A', wpAny (model prog w) A' (do
      let d ← alloc { cls := .type "dict", data := .dict #[] }
      ret (← newObj (.ref CtC) (.dict #[]) (some d))) (fun fin s' => match fin with | .done f => R (.ok f) s' | .again c' => c'.quiet = true ∧ codeAny (model prog w) A c' R s') (fun e s' => R (.error e) s') ⟨h, g, d, t, os⟩ := by
    intro A'
    refine wpAny_bind (wpAny_alloc (wpAny_bind ?_))
    show wpAny _ _ (newObjAsIs _ _ _) _ _ _
    unfold newObjAsIs classHasDel
    refine wpAny_bind (wpAny_alloc (wpAny_bind (wpAny_bind (wpAny_load (Heap.get?_push_of_some _ (Heap.get?_push_of_some _ hC)) (wpAny_pure ?_)))))
    rw [e2]
    refine wpAny_pure (wpAny_pure ?_)
    show R _ _
    rw [Heap.size_push]
    exact hq
  exact fin _

theorem make_ct {rest : List Value} {kw : List (Str × Value)} (Y : CtMakes (model prog w) h) (X : (hd.heap_39 w.params).In h)
    (hq : codeAny (model prog w) (A.under (.builtin "type.__call__" ⟨.ref CtC :: rest, kw⟩)) (.call (.ref 37) ⟨.ref (h.objs.size + 1) :: rest, kw⟩) (InitBack (h.objs.size + 1) R) ⟨(h.push emptyDict).push (ctObj h.objs.size), g, d, t, os⟩) :
    codeAny (model prog w) A (.call (.ref CtC) ⟨rest, kw⟩) R ⟨h, g, d, t, os⟩ := by
  have Y' := Y
  obtain ⟨⟨oc, od, cd, sl, hC, e2, hmro⟩, made, base, self, top, call, typ, isT, init⟩ := Y
  have e4 : cd.mro.isEmpty = false := by rw [hmro]; rfl
  refine codeAny_of_tree ?_
  show wpAny _ _ (callAny (.ref CtC) _) _ _ _
  refine nd_load hC ?_
  show wpAny _ _ (callAny.viaDunder (.ref CtC) _) _ _ _
  unfold callAny.viaDunder
  refine wpAny_bind (call.at ?_)
  dsimp only
  rw [tc_bind]
  refine wpAny_bind (wpAny_pure (wpAny_bind (wpAny_pure ?_)))
  refine wpAny_pure (a := Fin.again (.call (.builtin "type.__call__") ⟨.ref CtC :: rest, kw⟩)) (And.intro rfl ?_)
  refine codeAny_call_builtin_at (Code.quiet_builtin _ (by decide +kernel)) entry_typeCall (check_slot tc_kind tc_split typ (tc_args _ _ _) ?_)
  unfold Builtin.«type.__call__»
  have hm : Looks (model prog w) h (mroOf (.ref CtC)) cd.mro := ((Looks.ld (part := none) hC).andThen .now).andThen .now
  repeat (first | simp only [e4, Bool.false_eq_true, if_false] | with_reducible refine wpAny_call ?_ | lk)
  refine new_ct Y' ?_
  have k : ∀ b o, h.get? b = some o → ((h.push emptyDict).push (ctObj h.objs.size)).get? b = some o := fun b o e => Heap.get?_push_of_some _ (Heap.get?_push_of_some _ e)
  have hx : ((h.push emptyDict).push (ctObj h.objs.size)).get? (h.objs.size + 1) = some (ctObj h.objs.size) := by
    have := Heap.get?_push_size (h.push emptyDict) (o := ctObj h.objs.size) rfl
    rwa [Heap.size_push] at this
  have t1 : Looks (model prog w) ((h.push emptyDict).push (ctObj h.objs.size)) (typeOf (.ref (h.objs.size + 1))) (.ref CtC) := (Looks.ld hx).andThen .now
  have s1 := self.keeps k
  have i1 := init.keeps k
  have b1 := (bind_fn (M := model prog w) X (f := 37) (.ref (h.objs.size + 1)) (by k_is)).keeps k
  unfold isInstance callSpecial? specialOf
  repeat (first | with_reducible refine wpAny_call ?_ | lk)
  refine codeAny_mono hq fun r s' z => ?_
  rcases r with e | (v | _ | _ | _) <;> first | exact z | exact z.elim | skip
  obtain ⟨rfl, z⟩ := z
  exact wpAny_pure (wpAny_pure z)
end
/-- a counter's object -/
structure CtOb (prog : Program) (w : World) (o : Obj) (dx : Addr) (c : List (Int × Int)) (ep : Nat) : Prop where
  cls : o.cls = .ref CtC
  dict : o.dict = some dx
  slots : o.slots = #[]
  ob : DOb prog w o c ep
theorem CtOb.empty {prog : Program} {w : World} {dx : Addr} : CtOb prog w (ctObj dx) dx [] 0 := ⟨rfl, rfl, rfl, #[], [], rfl, fun _ he => by simp at he, .nil, .nil, List.nodup_nil⟩
/-- a counter that holds c, its own dictionary at dx -/
def CtFull (prog : Program) (w : World) (h : Heap) (x dx : Addr) (c : List (Int × Int)) : Prop := ∃ o ep, h.get? x = some o ∧ CtOb prog w o dx c ep ∧ h.get? dx = some emptyDict ∧ c.length ≤ 64 ∧ (x == sysModules) = false
def CtAt (prog : Program) (w : World) (h : Heap) (x : Addr) (c : List (Int × Int)) : Prop := ∃ dx, CtFull prog w h x dx c
def CtNew (prog : Program) (w : World) (old h : Heap) (x : Addr) (c : List (Int × Int)) : Prop := ∃ dx, CtFull prog w h x dx c ∧ old.get? x = none ∧ old.get? dx = none ∧ @LT.lt Nat _ dx x
theorem CtFull.keeps {prog : Program} {w : World} {h h' : Heap} {x dx : Addr} {c : List (Int × Int)} (I : CtFull prog w h x dx c) (k : h.StaysIn h') : CtFull prog w h' x dx c :=
  let ⟨o, ep, a, b, i, j⟩ := I; ⟨o, ep, k _ _ a, b, k _ _ i, j⟩
theorem CtAt.keeps {prog : Program} {w : World} {h h' : Heap} {x : Addr} {c : List (Int × Int)} (I : CtAt prog w h x c) (k : h.StaysIn h') : CtAt prog w h' x c := let ⟨dx, I⟩ := I; ⟨dx, I.keeps k⟩
theorem CtNew.at' {prog : Program} {w : World} {old h : Heap} {x : Addr} {c : List (Int × Int)} (I : CtNew prog w old h x c) : CtAt prog w h x c := let ⟨dx, I, _⟩ := I; ⟨dx, I⟩
theorem low_lt {w : World} {h : Heap} (X : (hd.heap_39 w.params).In h) : @LT.lt Nat _ 3 h.objs.size := by
  have e : (hd.heap_39 w.params).lookup 15 = some ⟨.type "tuple", none, .seq #[], #[]⟩ := by kernel_rfl
  have h : @LT.lt Nat _ 15 h.objs.size := Heap.lt_size (X _ _ e)
  omega
theorem low_ne {w : World} {h : Heap} (X : (hd.heap_39 w.params).In h) : (h.objs.size + 1 == sysModules) = false := by
  have := low_lt X
  simp only [beq_eq_false_iff_ne, ne_eq]
  intro e
  have e : @Eq Nat (h.objs.size + 1) 1 := e
  omega
section
variable {prog : Program} {w : World} {A : Around} {s : Shared} {p : Program} {loose : List Str} {mean : ExcName → Option Value} {mg mb : Str → Option Value} {g : Heap}
theorem makeCtG {rest : List Value} {kw : List (Str × Value)} {R : Result → Shared → Prop} (O : On w p loose mean mg mb g s.heap)
    (h : ∀ x dx h', s.heap.StaysIn h' → h'.get? x = some (ctObj dx) → h'.get? dx = some emptyDict → s.heap.get? x = none → s.heap.get? dx = none → dx < x → (x == sysModules) = false →
      codeAny (model prog w) (A.under (.builtin "type.__call__" ⟨.ref CtC :: rest, kw⟩)) (.call (.ref 37) ⟨.ref x :: rest, kw⟩) (InitBack x R) { s with heap := h' }) :
    codeAny (model prog w) A (.call (.ref CtC) ⟨rest, kw⟩) R s := by
  have X := O.k.keeps O.st
  obtain ⟨hh, gg, d, t, os⟩ := s
  have none_at : ∀ n, hh.objs.size ≤ n → hh.get? n = none := fun n hn => by
    cases q : hh.get? n with
    | none => rfl
    | some o => exact absurd (Heap.lt_size q) (Nat.not_lt.mpr hn)
  refine make_ct (ct_makes w X) X (h _ hh.objs.size _ (fun b o e => Heap.get?_push_of_some _ (Heap.get?_push_of_some _ e)) ?_ ?_ (none_at _ (Nat.le_succ _)) (none_at _ (Nat.le_refl _)) (Nat.lt_succ_self _) (low_ne X))
  · have := Heap.get?_push_size (hh.push emptyDict) (o := ctObj hh.objs.size) rfl
    rwa [Heap.size_push] at this
  · exact Heap.get?_push_of_some _ (Heap.get?_push_size hh (o := emptyDict) rfl)
end
end Mine
end
set_option maxHeartbeats 4000000
/- part Mk6 -/
section
namespace Mine
theorem fillMk6 : (PySem.Challenge.rw_br0041_01 = PySem.Challenge.rw_br0041_01 ∧ hd.heap_39 = hd.heap_39) := by
  k_fill
  exact ⟨rfl, rfl⟩
/-- a row's letters counted -/
def cntStep (c : List (Int × Int)) (n : Int) : List (Int × Int) := kdfPut c n ((cAt c n).getD 0 + 1)
def cntN (ns : List Int) (i : Nat) : List (Int × Int) := (ns.take i).foldl cntStep []
theorem cnt_zero {ns : List Int} : cntN ns 0 = [] := by simp [cntN]
theorem cnt_succ {ns : List Int} {i : Nat} (h : i < ns.length) : cntN ns (i + 1) = cntStep (cntN ns i) (ns.getD i 0) := by
  unfold cntN
  rw [List.take_add_one, List.foldl_append]
  simp [h]
theorem cnt_len {ns : List Int} {i : Nat} : (cntN ns i).length ≤ (ns.take i).length := by
  unfold cntN
  generalize ns.take i = l
  suffices h : ∀ c : List (Int × Int), (l.foldl cntStep c).length ≤ c.length + l.length by simpa using h []
  induction l with
  | nil => intro c; exact Nat.le_refl _
  | cons x r ih =>
    intro c
    have := ih (cntStep c x)
    have h2 := kdfPut_len c x ((cAt c x).getD 0 + 1)
    simp only [List.foldl_cons, List.length_cons]
    unfold cntStep at this ⊢
    omega
structure CtS where
  o : Obj
  ep : Nat
  k : Option Value
theorem ct_typeGet {M : Model} {h : Heap} : Looks M h (typeOf (.builtin "dict.get")) (.type "method_descriptor") := Looks.of_pure (by kernel_rfl)
theorem ct_small {ns : List Int} {i : Nat} (h : i < ns.length) (z : ns.length ≤ 64) : (cntN ns i).length ≤ 1000 := by
  have := @cnt_len ns i
  simp at this
  omega
theorem ct_meta : typeOf (.type "dict") = pure (.type "type") := by kernel_rfl
theorem ct_stub : Manifest.isStub "dict" = false := by decide +kernel
theorem ct_clsInit (w : World) : findCls (hd.heap_39 w.params) (.type "dict") (.type "type") (Str.ofString "__init__") = some (.val (.builtin "dict.__init__")) := by k_dflt k_is
theorem ct_hInit : handedIn (.builtin "dict.__init__") = true := by decide +kernel
section
variable {prog : Program} {w : World} {A : Around} {s : Shared} {p : Program} {loose : List Str} {mean : ExcName → Option Value} {mg mb : Str → Option Value} {g : Heap}
theorem ct_callInit {E Q : Value → Shared → Prop} {x : Addr} {o : Obj} (X : (hd.heap_39 w.params).In s.heap) (hx : s.heap.get? x = some o) (hc : o.cls = .ref CtC) (h : Q .none s) : wpAny (model prog w) A (call (.builtin "dict.__init__") [.ref x]) Q E s := by
  have hk : builtinKind "dict.__init__" = some .slot := by decide +kernel
  have hs : splitId "dict.__init__" = some ("dict", "__init__") := by decide +kernel
  refine wpAny_call (codeAny_call_builtin PySem.F.slot_dict_init.plain PySem.F.entry_dict_init (check_slot hk hs (ct_inst X hx hc) (PySem.F.args_dict_init_1 _) ?_))
  refine wpAny_bind ?_
  unfold Builtin.Dict.selfAndRest
  refine wpAny_bind (d_notOrd X rfl hx (.inr hc) ?_)
  exact wpAny_pure (wpAny_pure h)
theorem ct_isDict {E Q : Value → Shared → Prop} {x : Addr} {o : Obj} (X : (hd.heap_39 w.params).In s.heap) (hx : s.heap.get? x = some o) (hc : o.cls = .ref CtC) (h : ∀ tk, Q (.bool true) { s with toks := tk }) :
    wpAny (model prog w) A (call (.builtin "isinstance") [.ref x, .type "dict"]) Q E s := by
  have e1 : subIn (hd.heap_39 w.params) (.ref CtC) (.type "dict") = some true := by k_is
  have ans : Answers (fun s => (hd.heap_39 w.params).In s.heap ∧ ∃ o, s.heap.get? x = some o ∧ o.cls = .ref CtC) (.ref x) (.type "dict") true := by
    intro dep tk prog w' A R s hs
    obtain ⟨h0, g, d, tt, os⟩ := s
    obtain ⟨⟨X, o, hx, hc⟩, hq⟩ := hs
    have LT : Looks (model prog w') h0 (typeOf (.ref x)) (.ref CtC) := ct_type hx hc
    unfold Builtin.«isinstance.nested»
    refine wpAny_bind (LT.at ?_)
    rw [if_neg (by decide)]
    have hty : Looks (model prog w') h0 (typeOf (.type "dict")) (.type "type") := Looks.of_pure ct_meta
    have his : Looks (model prog w') h0 (isType (.type "dict")) true := Looks.of_pure rfl
    have LI : Looks (model prog w') h0 (isInstance (.ref x) (.type "dict")) true := LT.andThen (looks_subIn X e1)
    refine wpAny_bind (hty.at ?_)
    rw [if_pos (by decide)]
    k_delta "plainIsInstance"
    refine wpAny_bind (wpAny_bind (his.at ?_))
    simp only [Bool.not_true, Bool.false_eq_true, if_false]
    refine wpAny_bind (LI.at ?_)
    first
      | exact wpAny_pure (wpAny_pure (hq tt))
      | (simp only [if_true]; first | exact wpAny_pure (wpAny_pure (hq tt)) | exact wpAny_pure (hq tt) | exact wpAny_bind (wpAny_pure (wpAny_pure (hq tt))))
  exact call_isinstance (S := fun _ R s => ((hd.heap_39 w.params).In s.heap ∧ ∃ o, s.heap.get? x = some o ∧ o.cls = .ref CtC) ∧ ∀ tk, R (.ok (.ret (.bool true))) { s with toks := tk })
    (fun prog w' A R s hs => isinstance_outer (ans 0 _ prog w' A R s hs) (by intro q; cases q)) ⟨⟨X, o, hx, hc⟩, h⟩
theorem tup_isDict {E Q : Value → Shared → Prop} {a : Addr} {o : Obj} (X : (hd.heap_39 w.params).In s.heap) (ha : s.heap.get? a = some o) (hc : o.cls = .type "tuple") (h : ∀ tk, Q (.bool false) { s with toks := tk }) :
    wpAny (model prog w) A (call (.builtin "isinstance") [.ref a, .type "dict"]) Q E s :=
  kia_one (K := hd.heap_39 w.params) (kitx_tuple (a := a)) X ⟨o, ha, hc⟩ (by kit_is) (by intro q; cases q) h
theorem dict_isDict {E Q : Value → Shared → Prop} {a : Addr} {o : Obj} (X : (hd.heap_39 w.params).In s.heap) (ha : s.heap.get? a = some o) (hc : o.cls = .type "dict") (h : ∀ tk, Q (.bool true) { s with toks := tk }) :
    wpAny (model prog w) A (call (.builtin "isinstance") [.ref a, .type "dict"]) Q E s :=
  kia_one (K := hd.heap_39 w.params) (kitx_dict (a := a)) X ⟨o, ha, hc⟩ (by kit_is) (by intro q; cases q) h
theorem d_isDict {E Q : Value → Shared → Prop} {a : Addr} {o : Obj} (X : (hd.heap_39 w.params).In s.heap) (ha : s.heap.get? a = some o) (hc : DCl o) (h : ∀ tk, Q (.bool true) { s with toks := tk }) :
    wpAny (model prog w) A (call (.builtin "isinstance") [.ref a, .type "dict"]) Q E s := by
  rcases hc with hc | hc
  · exact dict_isDict X ha hc h
  · exact ct_isDict X ha hc h
theorem tup_isCt {E Q : Value → Shared → Prop} {a : Addr} {o : Obj} (X : (hd.heap_39 w.params).In s.heap) (ha : s.heap.get? a = some o) (hc : o.cls = .type "tuple") (h : ∀ tk, Q (.bool false) { s with toks := tk }) :
    wpAny (model prog w) A (call (.builtin "isinstance") [.ref a, .ref CtC]) Q E s :=
  kia_one (K := hd.heap_39 w.params) (kitx_tuple (a := a)) X ⟨o, ha, hc⟩ (by kit_is) (by intro q; cases q) h
local macro_rules | `(tactic| walk_at "pyIter ref") => `(tactic| (k_here; refine stop_it ?_))
local macro_rules | `(tactic| walk_at "call ref") => `(tactic| (k_here; refine stop_it ?_))
local macro_rules | `(tactic| walk_at "setItem ref ref") => `(tactic| (k_here; refine stop_it ?_))
local macro_rules | `(tactic| walk_at "exec For Tuple") => `(tactic| (k_here; refine stop_it ?_))
local macro_rules | `(tactic| walk_at "getMethod ref") => `(tactic| (k_here; k_dflt (first
  | (refine' kmu_own ?k1 ?k2 ?k3 ?k4 ?k5 ?_; (case k1 => k_asm); (case k2 => k_asm); (case k3 => k_inst); (case k4 => k_is); (case k5 => k_is); k_whole)
  | (refine' method_inst ?k1 ?k2 ?k3 ?k4 ?k5 ?k6 ?k7 ?_; (case k1 => k_asm); (case k2 => k_asm); (case k3 => k_inst); (case k4 => k_is); (case k5 => k_is); (case k6 => k_is); (case k7 => k_get); k_whole))))
local macro_rules | `(tactic| walk_at "last getAttr ref") => `(tactic| (k_here; k_dflt (refine' attr_sm ?k1 ?k2 ?k4 ?k5 ?k6 ?k7 ?k9 ?k10 ?k11 ?k12 ?k13 ?k14 ?_; (case k1 => k_asm); (case k2 => k_asm); (case k4 => k_inst); (case k5 => k_is); (case k6 => k_is); (case k7 => k_is); (case k9 => k_is); (case k10 => k_is); (case k11 => decide +kernel); (case k12 => k_get); (case k13 => k_is); (case k14 => k_handed); k_whole)))
local macro_rules | `(tactic| walk_at "last eval Call Attribute") => `(tactic| (k_here; refine methodCall_S ?_))
local macro_rules | `(tactic| walk_at "eval Call Attribute") => `(tactic| (k_here; (with_reducible show wpAny _ _ (eval (Expr.Call (Expr.Attribute _ _ _) [Expr.Starred _ _] [] _) _) _ _ _); refine methodCall_S ?_))
local macro_rules | `(tactic| walk_at "call builtin:len") => `(tactic| (k_here; refine' len_TupAt ?k1 ?k2 ?_; (case k1 => k_asm); (case k2 => k_asm); intro _ _; k_whole))
local macro_rules | `(tactic| walk_at "getItem ref int") => `(tactic| (k_here; refine' getItem_TupAt ?k1 ?k2 ?k3 ?_; (case k1 => k_asm); (case k2 => k_asm); (case k3 => omega); intro _; k_whole))
local macro_rules | `(tactic| walk_at "subscriptTail") => `(tactic| (k_here; first
  | (refine' item_TupAt ?k1 ?k2 ?k3 ?_; (case k1 => k_asm); (case k2 => k_asm); (case k3 => omega); intro _; k_whole)
  | (refine' item_fn ?k1 ?k2 ?k3 ?k4 ?_; (case k1 => k_asm); (case k2 => k_mem); (case k3 => with_reducible assumption); (case k4 => omega); intro _; k_whole)))
local macro_rules | `(tactic| walk_at "call builtin:min") => `(tactic| (k_here; (with_reducible show wpAny _ _ (call (Value.builtin "min") [Value.int _ _, Value.int _ _]) _ _ _); (rename Around.handled _ = none => hX); refine' min2N hX ?k2 ?k3 ?_; (case k2 => k_asm); (case k3 => k_asm); k_whole; intro h' tk' t' F' N'))
local macro_rules | `(tactic| walk_at "call builtin:min") => `(tactic| (k_here; (with_reducible show wpAny _ _ (call (Value.builtin "min") [Value.int _ _, Value.int _ _, Value.int _ _]) _ _ _); (rename Around.handled _ = none => hX); refine' min3N hX ?k2 ?k3 ?_; (case k2 => k_asm); (case k3 => k_asm); k_whole; intro h' tk' t' F' N'))
local macro_rules | `(tactic| walk_at "call builtin:min") => `(tactic| (k_here; (with_reducible show wpAny _ _ (call (Value.builtin "min") [Value.int _ _, Value.int _ _, Value.int _ _, Value.int _ _]) _ _ _); (rename Around.handled _ = none => hX); refine' min4N hX ?k2 ?k3 ?_; (case k2 => k_asm); (case k3 => k_asm); k_whole; intro h' tk' t' F' N'))
local macro_rules | `(tactic| walk_at "setItem ref int int") => `(tactic| (k_here; refine' setItem_fn ?k1 ?k2 ?k3 ?k4 ?k5 ?_; (case k1 => k_asm); (case k2 => k_asm); (case k3 => k_upd); (case k4 => with_reducible assumption); (case k5 => omega); k_whole; intro h' F' N' i'))
local macro_rules | `(tactic| walk_at "assign Tuple") => `(tactic| (k_here; (with_reducible show wpAny _ _ (assign (Expr.Tuple _ _ _) _ (Value.ref _)) _ _ _); k_dflt (refine' kun_list ?k1 ?k2 ?k3 ?k4 ?k5 ?k6 ?_; (case k1 => k_asm); (case k2 => k_asm); (case k3 => kun_lst); (case k4 => assumption); (case k5 => exact rfl); (case k6 => exact rfl); k_whole); intro h' F' N'; (try k_sweep)))
local macro_rules | `(tactic| walk_at "assign Tuple") => `(tactic| (k_here; (with_reducible show wpAny _ _ (assign (Expr.Tuple _ _ _) _ (Value.ref _)) _ _ _); k_dflt (refine' unpackN_ ?k1 ?k2 ?k3 ?k4 ?k5 ?k6 ?_; (case k1 => k_asm); (case k2 => k_asm); (case k3 => kun_tup); (case k4 => assumption); (case k5 => exact rfl); (case k6 => exact rfl); k_whole); intro h' F' N'; (try k_sweep)))
local macro_rules | `(tactic| walk_at "unpackItems ref") => `(tactic| (k_here; k_dflt (refine' unpackItemsN_ ?k1 ?k2 ?k3 ?k4 ?k5 ?_; (case k1 => k_asm); (case k2 => k_asm); (case k3 => kun_tup); (case k4 => assumption); (case k5 => exact rfl); k_whole); intro h' F' N'; (try k_sweep)))
local macro_rules | `(tactic| walk_at "call type:list") => `(tactic| (k_here; refine' list_range_N ?k0 ?k1 ?k2 ?k3 ?k4 ?k5 ?k6 ?_; (case k1 => k_asm); (case k2 => k_asm); (case k0 => assumption); (case k3 => assumption); (case k4 => omega); (case k5 => exact small_one (by omega) (by omega) (by omega) (by omega)); (case k6 => omega); intro D' h' tk' vs' k' F' N' l1 i1; (try k_lt l1)))
local macro_rules | `(tactic| k_ne) => `(tactic| first | with_reducible assumption | (refine Ne.symm ?_; with_reducible assumption) | (refine neN ?_; (try dsimp only); omega))
local macro_rules | `(tactic| walk_at "getMethod ref") => `(tactic| (k_here; refine stop_it ?_))
local macro_rules | `(tactic| walk_at "call builtin:dict.get") => `(tactic| (k_here; refine stop_it ?_))
local macro_rules | `(tactic| walk_at "setItem ref int int") => `(tactic| (k_here; refine stop_it ?_))
local macro_rules | `(tactic| walk_at "call builtin:dict.__init__") => `(tactic| (k_here; refine stop_it ?_))
local macro_rules | `(tactic| walk_at "call builtin:isinstance") => `(tactic| (k_here; refine stop_it ?_))
local macro_rules | `(tactic| walk_at "exec For") => `(tactic| (k_here; refine stop_it ?_))
theorem init_tup {x dx a : Addr} {ns : List Int} {R : Result → Shared → Prop} (ha : TupAt g a ns) (hx : s.heap.get? x = some (ctObj dx)) (hdx : s.heap.get? dx = some emptyDict) (nx : g.get? x = none) (nd : g.get? dx = none) (lt : @LT.lt Nat _ dx x) (lo : (x == sysModules) = false)
    (O : On w p loose mean mg mb g s.heap) (H : Room A 2 40) (hR : ∀ h' tk, g.StaysIn h' → CtFull prog w h' x dx (cntN ns ns.length) → R (.ok (.ret .none)) { s with heap := h', toks := tk }) :
    codeAny (model prog w) A (.call (.ref 37) ⟨[.ref x, .ref a], []⟩) R s := by
  w_top off
  refine' enterG [(x, ctObj dx), (dx, emptyDict)] (binds := [(Str.ofString "self", .ref x), (Str.ofString "items", .ref a)]) O ?hg ?hown ?ho ?hcd ?hroom ?hb ?hl ?body ?hcell ?c1 ?c2 ?c3
  (case hg => exact List.forall_mem_cons.mpr ⟨nx, List.forall_mem_cons.mpr ⟨nd, fun _ h => nomatch h⟩⟩)
  (case hown => exact List.forall_mem_cons.mpr ⟨hx, List.forall_mem_cons.mpr ⟨hdx, fun _ h => nomatch h⟩⟩)
  (case ho => k_is)
  (case hcd => k_is)
  (case hroom => have := Room.dp (by assumption); omega)
  (case hl => exact locs rfl)
  (case hcell => decide)
  (case c1 => exact rfl)
  (case c2 => exact rfl)
  (case c3 => exact rfl)
  (case hb => first | exact BindsTo.of_eq rfl | exact kp_binds (O.k.keeps O.st) (fun _ => rfl))
  intro h₀ L h₁ gst X T back F N
  (try k_fold)
  rename Top _ _ _ _ _ _ => T₀
  have ha₀ := ha.keeps gst
  have hh := H.hh
  k_steps
  rename News _ _ _ _ => N
  rename Fr _ _ _ _ => F
  refine' method_type (T := "dict") (v := .builtin "dict.__init__") ?F ?X ?a ?b ?c ?d ?_
  (case F => exact F)
  (case X => exact X)
  (case a => exact ct_meta)
  (case b => exact ct_stub)
  (case c => exact ct_clsInit w)
  (case d => exact ct_hInit)
  k_steps
  refine ct_callInit (X.keeps F.keep) (N _ (.head _)).1 rfl ?_
  k_steps
  obtain ⟨va, hva, -, -⟩ := id ha₀
  obtain ⟨oa, hoa, hca, -⟩ := hva
  refine tup_isDict (X.keeps F.keep) (F.keep _ _ hoa) hca ?_
  intro tk1
  k_steps

  rename News _ _ _ _ => N
  rename Fr _ _ _ _ => F
  refine' For_invVF F ?k1 ?k2 ?_
  (case k1 => exact rfl)
  (case k2 => exact rfl)
  k_steps
  rename News _ _ _ _ => N
  rename Fr _ _ _ _ => F
  (try dsimp only at F)
  refine' fr_then F ?e ?_
  (case e => repeat' (first | exact envM_of_lookup _ | exact envM_nil | exact rfl | apply env_set))
  clear F
  intro F
  have F := fr_more [Str.ofString "key"] F
  have zl := ha₀.choose_spec.2.2
  refine' loop_tup (σ := CtS) (ns := ns)
    (ps := fun c => [(Str.ofString "items", some (.ref a)), (Str.ofString "self", some (.ref x)), (Str.ofString "key", c.k)])
    (Led := fun c => [(x, c.o), (dx, emptyDict)])
    (Inv := fun i c => CtOb prog w c.o dx (cntN ns i) c.ep)
    (c₀ := CtS.mk (ctObj dx) 0 none) hh ha₀ F N (by rw [cnt_zero]; exact CtOb.empty) ?turn ?done
  (case turn =>
    clear F N
    intro I₁ i t c h tk ob hlt hinv hne F N
    obtain ⟨oc, epc, kc⟩ := c
    dsimp only at F N hinv hne ⊢
    have p1 : @Ne Nat x I₁ := hne (x, oc) (by simp)
    have p2 : @Ne Nat dx I₁ := hne (dx, emptyDict) (by simp)
    k_steps
    rename News _ _ _ _ => N
    rename Fr _ _ _ _ => F
    refine' d_method (f := .builtin "dict.get") (tf := .type "method_descriptor") ?X ?a ?b ?c ?d ?e ?f ?g ?_
    (case X => exact X.keeps F.keep)
    (case a => exact (N (x, oc) (by k_mem)).1)
    (case b => exact hinv.cls)
    (case c => exact hinv.dict)
    (case d => exact (N (dx, emptyDict) (by k_mem)).1)
    (case e => exact cs_get.find)
    (case f => exact ct_typeGet)
    (case g => exact .inr rfl)
    k_steps
    rename News _ _ _ _ => N
    rename Fr _ _ _ _ => F
    refine d_callGet (X.keeps F.keep) (N (x, oc) (by k_mem)).1 (.inr hinv.cls) hinv.ob ?_
    intro u1
    k_steps
    rename News _ _ _ _ => N
    rename Fr _ _ _ _ => F
    refine d_setItem (X.keeps F.keep) (N (x, oc) (by k_mem)).1 (.inr hinv.cls) hinv.ob (ct_small hlt zl) ?_
    intro h' o' ep' e1 e2 e3 e4 e5 sb
    have z := N (x, oc) (by k_mem)
    have F' := F.change sb z.2.1 z.2.2
    have N' : News h₀ _ h' [(I₁, ob), (x, o'), (dx, emptyDict)] := List.forall_mem_cons.mpr ⟨⟨sb.extBut _ _ (Ne.symm p1) (N (I₁, ob) (by k_mem)).1, (N (I₁, ob) (by k_mem)).2⟩, List.forall_mem_cons.mpr ⟨⟨e1, z.2⟩,
      List.forall_mem_cons.mpr ⟨⟨sb.extBut _ _ (Nat.ne_of_lt lt) (N (dx, emptyDict) (by k_mem)).1, (N (dx, emptyDict) (by k_mem)).2⟩, fun _ h => nomatch h⟩⟩⟩
    clear F N
    k_steps
    exact TurnEnd.mk (.inl rfl) (CtS.mk o' ep' _) ⟨e2.trans hinv.cls, e3.trans hinv.dict, e4.trans hinv.slots, by rw [cnt_succ hlt]; exact e5⟩ F' N' (List.forall_mem_cons.mpr ⟨p1, List.forall_mem_cons.mpr ⟨p2, fun _ h => nomatch h⟩⟩))
  (case done =>
    clear F N
    intro c h tk hinv F N
    obtain ⟨oc, epc, kc⟩ := c
    dsimp only at F N hinv ⊢
    k_steps
    refine hR _ _ (fun b o e => F.keep b o (gst b o e)) ⟨oc, epc, (N _ (.head _)).1, hinv, (N _ (.tail _ (.head _))).1, ?_, lo⟩
    refine Nat.le_trans cnt_len ?_
    rw [List.take_length]
    exact zl)
/-- a dictionary or a counter that is an argument -/
def DArg (prog : Program) (w : World) (h : Heap) (d : Addr) (c : List (Int × Int)) : Prop := ∃ o ep, h.get? d = some o ∧ DCl o ∧ DOb prog w o c ep ∧ c.length ≤ 64 ∧ (d == sysModules) = false
theorem DArg.keeps {h h' : Heap} {d : Addr} {c : List (Int × Int)} (x : DArg prog w h d c) (k : h.StaysIn h') : DArg prog w h' d c := let ⟨o, ep, a, r⟩ := x; ⟨o, ep, k _ _ a, r⟩
theorem CtAt.arg {h : Heap} {x : Addr} {c : List (Int × Int)} (I : CtAt prog w h x c) : DArg prog w h x c := let ⟨_, o, ep, a, b, _, j, k⟩ := I; ⟨o, ep, a, .inr b.cls, b.ob, j, k⟩
theorem DArg.nodup {h : Heap} {d : Addr} {c : List (Int × Int)} (x : DArg prog w h d c) : (c.map (·.1)).Nodup := by
  obtain ⟨o, ep, _, _, ⟨es, kvs, _, _, _, _, hn⟩, _⟩ := x
  exact hn
/-- for x in a dictionary -/
theorem loop_keys {h₀ : Heap} {env : Env} {x : Str} {body : List Stmt} {E : Value → Shared → Prop} {Q : Flow → Shared → Prop} {σ : Type} {d : Addr} {c : List (Int × Int)} (ps : σ → List (Str × Option Value)) (Led : σ → List (Addr × Obj)) (Inv : Nat → σ → Prop) (c₀ : σ)
    (hh : A.handled = none) (X : (hd.heap_39 w.params).In h₀) (ha : DArg prog w h₀ d c) (F : Fr h₀ env.locals s.heap (envM (ps c₀))) (N : News h₀ env.locals s.heap (Led c₀)) (h0 : Inv 0 c₀)
    (turn : ∀ I i t y h tk ob, i < c.length → Inv i y → (∀ p ∈ Led y, p.1 ≠ I) → Fr h₀ env.locals h (envM (setP x (.int ((c.map (·.1)).getD i 0) t) (ps y))) → News h₀ env.locals h ((I, ob) :: Led y) →
      wpAny (model prog w) A (execs body env) (TurnEnd h₀ env.locals I ob ps Led (Inv (i + 1)) { s with heap := h, toks := tk } Q) E { s with heap := h, toks := tk })
    (done : ∀ y h tk, Inv c.length y → Fr h₀ env.locals h (envM (ps y)) → News h₀ env.locals h (Led y) → Q .next { s with heap := h, toks := tk }) :
    wpAny (model prog w) A (pyIter (.ref d)) (fun it s₂ => LoopAtV prog w A h₀ env x body Q E it s₂) E s := by
  obtain ⟨ol, ep, hol, hcl, hob, hz, lo⟩ := ha
  have ho := F.keep _ _ hol
  have hlt : d < h₀.objs.size := Heap.lt_size hol
  have hLs : env.locals < s.heap.objs.size := F.ns.lt
  have hab : h₀.objs.size ≤ env.locals := F.above
  have l1 : d ≠ s.heap.objs.size := Nat.ne_of_lt (Nat.lt_trans (Nat.lt_of_lt_of_le hlt hab) hLs)
  have hLI : env.locals ≠ s.heap.objs.size := Nat.ne_of_lt hLs
  have hLl : env.locals ≠ d := Nat.ne_of_gt (Nat.lt_of_lt_of_le hlt hab)
  refine d_iter (X.keeps F.keep) lo ho hcl hob ?_
  have W := walk_keys (prog := prog) (w := w) (A := A) hh s.heap.objs.size l1 c ep
  refine loop_st (σ := σ) W (next_is_new F) hLI (fun hm => ?_) (fun b hb => ?_) (fun i h st => ?_) ps Led Inv c₀
    ⟨⟨_, Heap.get?_push_size _ rfl, rfl, rfl⟩, ol, Heap.get?_push_of_some _ ho, hcl, hob⟩ (fun p hp e => ?_) (F.push _) (fun p hp => ⟨Heap.get?_push_of_some _ (N p hp).1, (N p hp).2⟩) h0 ?_ (fun c h tk => done c h tk)
  · rcases List.mem_cons.mp hm with e | e
    · exact hLI e
    · exact hLl (List.mem_singleton.mp e)
  · rcases List.mem_cons.mp hb with e | e
    · exact .inl e
    · exact .inr ⟨ol, (List.mem_singleton.mp e) ▸ hol⟩
  · obtain ⟨⟨o, e, _⟩, _⟩ := st
    exact ⟨o, e⟩
  · exact absurd (Heap.lt_size (N p hp).1) (e ▸ Nat.lt_irrefl _)
  · rintro i v y h tk ob hi' ⟨k, x', t, hx, rfl⟩ hinv ne F' N'
    have e1 : (c.map (·.1)).getD i 0 = k := by simp [hx]
    exact turn _ i t y h tk ob hi' hinv ne (by rw [e1]; exact F') N'
theorem at_get {c : List (Int × Int)} (hn : (c.map (·.1)).Nodup) {i : Nat} (hi : i < c.length) : cAt c ((c.map (·.1)).getD i 0) = some ((c.map (·.2)).getD i 0) := by
  induction c generalizing i with
  | nil => simp at hi
  | cons p r ih =>
    obtain ⟨a, b⟩ := p
    rw [List.map_cons, List.nodup_cons] at hn
    cases i with
    | zero => simp [cAt]
    | succ i =>
      have hi' : i < r.length := by simpa using hi
      have := ih hn.2 hi'
      simp only [List.map_cons, List.getD_cons_succ]
      unfold cAt at this ⊢
      have hne : ¬ a = (r.map (·.1)).getD i 0 := fun e => hn.1 (by
        have e : a = (r.map (·.1)).getD i 0 := e
        rw [e]
        have : i < (r.map (·.1)).length := by simpa using hi'
        rw [List.getD_eq_getElem?_getD, List.getElem?_eq_getElem this]
        exact List.getElem_mem this)
      simp only [List.find?_cons, hne, decide_false]
      exact this
theorem take_put {c : List (Int × Int)} (hn : (c.map (·.1)).Nodup) {i : Nat} (hi : i < c.length) : kdfPut (c.take i) ((c.map (·.1)).getD i 0) ((c.map (·.2)).getD i 0) = c.take (i + 1) := by
  have e1 : (c.map (·.1)).getD i 0 = c[i].1 := by simp [hi]
  have e2 : (c.map (·.2)).getD i 0 = c[i].2 := by simp [hi]
  rw [e1, e2]
  unfold kdfPut
  rw [if_neg]
  · rw [List.take_add_one, List.getElem?_eq_getElem hi]
    rfl
  · intro h
    obtain ⟨p, hp, he⟩ := List.any_eq_true.mp h
    have he : p.1 = c[i].1 := by simpa using he
    obtain ⟨j, hj, rfl⟩ := List.mem_iff_getElem.mp hp
    have hj' : j < i := by
      have : j < (c.take i).length := hj
      simp at this; omega
    rw [List.getElem_take] at he
    have hj2 : j < c.length := by omega
    have h2 := List.pairwise_iff_getElem.mp hn j i (by simpa using hj2) (by simpa using hi) hj'
    exact h2 (by simpa using he)
theorem init_d {x dx d : Addr} {c : List (Int × Int)} {R : Result → Shared → Prop} (ha : DArg prog w g d c) (hx : s.heap.get? x = some (ctObj dx)) (hdx : s.heap.get? dx = some emptyDict) (nx : g.get? x = none) (nd : g.get? dx = none) (lt : @LT.lt Nat _ dx x) (lo : (x == sysModules) = false)
    (O : On w p loose mean mg mb g s.heap) (H : Room A 2 40) (hR : ∀ h' tk, g.StaysIn h' → CtFull prog w h' x dx c → R (.ok (.ret .none)) { s with heap := h', toks := tk }) :
    codeAny (model prog w) A (.call (.ref 37) ⟨[.ref x, .ref d], []⟩) R s := by
  w_top off
  refine' enterG [(x, ctObj dx), (dx, emptyDict)] (binds := [(Str.ofString "self", .ref x), (Str.ofString "items", .ref d)]) O ?hg ?hown ?ho ?hcd ?hroom ?hb ?hl ?body ?hcell ?c1 ?c2 ?c3
  (case hg => exact List.forall_mem_cons.mpr ⟨nx, List.forall_mem_cons.mpr ⟨nd, fun _ h => nomatch h⟩⟩)
  (case hown => exact List.forall_mem_cons.mpr ⟨hx, List.forall_mem_cons.mpr ⟨hdx, fun _ h => nomatch h⟩⟩)
  (case ho => k_is)
  (case hcd => k_is)
  (case hroom => have := Room.dp (by assumption); omega)
  (case hl => exact locs rfl)
  (case hcell => decide)
  (case c1 => exact rfl)
  (case c2 => exact rfl)
  (case c3 => exact rfl)
  (case hb => first | exact BindsTo.of_eq rfl | exact kp_binds (O.k.keeps O.st) (fun _ => rfl))
  intro h₀ L h₁ gst X T back F N
  (try k_fold)
  rename Top _ _ _ _ _ _ => T₀
  have ha₀ := ha.keeps gst
  have hh := H.hh
  k_steps
  rename News _ _ _ _ => N
  rename Fr _ _ _ _ => F
  refine' method_type (T := "dict") (v := .builtin "dict.__init__") ?F ?X ?a ?b ?c ?d ?_
  (case F => exact F)
  (case X => exact X)
  (case a => exact ct_meta)
  (case b => exact ct_stub)
  (case c => exact ct_clsInit w)
  (case d => exact ct_hInit)
  k_steps
  refine ct_callInit (X.keeps F.keep) (N _ (.head _)).1 rfl ?_
  k_steps
  obtain ⟨od, epd, hod, hcd, hobd, zl, -⟩ := id ha₀
  refine d_isDict (X.keeps F.keep) (F.keep _ _ hod) hcd ?_
  intro tk1
  k_steps
  rename News _ _ _ _ => N
  rename Fr _ _ _ _ => F
  refine' For_invVF F ?k1 ?k2 ?_
  (case k1 => exact rfl)
  (case k2 => exact rfl)
  k_steps
  rename News _ _ _ _ => N
  rename Fr _ _ _ _ => F
  (try dsimp only at F)
  refine' fr_then F ?e ?_
  (case e => repeat' (first | exact envM_of_lookup _ | exact envM_nil | exact rfl | apply env_set))
  clear F
  intro F
  have F := fr_more [Str.ofString "key"] F
  refine' loop_keys (σ := CtS) (c := c)
    (ps := fun y => [(Str.ofString "items", some (.ref d)), (Str.ofString "self", some (.ref x)), (Str.ofString "key", y.k)])
    (Led := fun y => [(x, y.o), (dx, emptyDict)])
    (Inv := fun i y => CtOb prog w y.o dx (c.take i) y.ep)
    (c₀ := CtS.mk (ctObj dx) 0 none) hh X ha₀ F N (by rw [List.take_zero]; exact CtOb.empty) ?turn ?done
  (case turn =>
    clear F N
    intro I₁ i t y h tk ob hlt hinv hne F N
    obtain ⟨oc, epc, kc⟩ := y
    dsimp only at F N hinv hne ⊢
    have p1 : @Ne Nat x I₁ := hne (x, oc) (by simp)
    have p2 : @Ne Nat dx I₁ := hne (dx, emptyDict) (by simp)
    k_steps
    rename News _ _ _ _ => N
    rename Fr _ _ _ _ => F
    refine' d_tail (v := (c.map (·.2)).getD i 0) ?X ?a ?b ?c ?d ?_
    (case X => exact X.keeps F.keep)
    (case a => exact F.keep _ _ hod)
    (case b => exact hcd)
    (case c => exact hobd)
    (case d => exact at_get ha₀.nodup hlt)
    intro u1
    k_steps
    rename News _ _ _ _ => N
    rename Fr _ _ _ _ => F
    refine d_setItem (X.keeps F.keep) (N (x, oc) (by k_mem)).1 (.inr hinv.cls) hinv.ob (by simp; omega) ?_
    intro h' o' ep' e1 e2 e3 e4 e5 sb
    have z := N (x, oc) (by k_mem)
    have F' := F.change sb z.2.1 z.2.2
    have N' : News h₀ _ h' [(I₁, ob), (x, o'), (dx, emptyDict)] := List.forall_mem_cons.mpr ⟨⟨sb.extBut _ _ (Ne.symm p1) (N (I₁, ob) (by k_mem)).1, (N (I₁, ob) (by k_mem)).2⟩, List.forall_mem_cons.mpr ⟨⟨e1, z.2⟩,
      List.forall_mem_cons.mpr ⟨⟨sb.extBut _ _ (Nat.ne_of_lt lt) (N (dx, emptyDict) (by k_mem)).1, (N (dx, emptyDict) (by k_mem)).2⟩, fun _ h => nomatch h⟩⟩⟩
    clear F N
    k_steps
    exact TurnEnd.mk (.inl rfl) (CtS.mk o' ep' _) ⟨e2.trans hinv.cls, e3.trans hinv.dict, e4.trans hinv.slots, by rw [← take_put ha₀.nodup hlt]; exact e5⟩ F' N' (List.forall_mem_cons.mpr ⟨p1, List.forall_mem_cons.mpr ⟨p2, fun _ h => nomatch h⟩⟩))
  (case done =>
    clear F N
    intro y h tk hinv F N
    obtain ⟨oc, epc, kc⟩ := y
    dsimp only at F N hinv ⊢
    k_steps
    rw [List.take_length] at hinv
    exact hR _ _ (fun b o e => F.keep b o (gst b o e)) ⟨oc, epc, (N _ (.head _)).1, hinv, (N _ (.tail _ (.head _))).1, zl, lo⟩)
/-- Counter(a row) -/
theorem new_tup {a : Addr} {ns : List Int} (ha : TupAt s.heap a ns) (O : On w p loose mean mg mb g s.heap) (H : Room A 4 60) :
    Pays prog w A (.call (.ref CtC) ⟨[.ref a], []⟩) s (fun v h' => ∃ x, v = .ref x ∧ CtNew prog w s.heap h' x (cntN ns ns.length)) := by
  intro R hR
  refine makeCtG O ?_
  intro x dx h' st hx hdx nx ndx lt lo
  have O' : On w p loose mean mg mb s.heap h' := ⟨O.k.keeps O.st, O.t.keeps O.st, st⟩
  refine init_tup ha hx hdx nx ndx lt lo O' ((room_make (d := 3) (u := 59) H CtC [.ref a] []).less (by omega) (by omega)) fun h'' tk st2 I => ?_
  exact ⟨rfl, hR _ _ _ (fun b o e => st2 b o e) ⟨x, rfl, dx, I, nx, ndx, lt⟩⟩
/-- Counter(a dictionary or a counter) -/
theorem new_d {d : Addr} {c : List (Int × Int)} (ha : DArg prog w s.heap d c) (O : On w p loose mean mg mb g s.heap) (H : Room A 4 60) :
    Pays prog w A (.call (.ref CtC) ⟨[.ref d], []⟩) s (fun v h' => ∃ x, v = .ref x ∧ CtNew prog w s.heap h' x c) := by
  intro R hR
  refine makeCtG O ?_
  intro x dx h' st hx hdx nx ndx lt lo
  have O' : On w p loose mean mg mb s.heap h' := ⟨O.k.keeps O.st, O.t.keeps O.st, st⟩
  refine init_d ha hx hdx nx ndx lt lo O' ((room_make (d := 3) (u := 59) H CtC [.ref d] []).less (by omega) (by omega)) fun h'' tk st2 I => ?_
  exact ⟨rfl, hR _ _ _ (fun b o e => st2 b o e) ⟨x, rfl, dx, I, nx, ndx, lt⟩⟩
end
end Mine
end
set_option maxHeartbeats 4000000
/- part Mk7 -/
section
namespace Mine
theorem fillMk7 : (PySem.Challenge.rw_br0041_01 = PySem.Challenge.rw_br0041_01 ∧ hd.heap_39 = hd.heap_39) := by
  k_fill
  exact ⟨rfl, rfl⟩
section
variable {prog : Program} {w : World} {K : Type} [DecidableEq K] {knd : KeyKind prog w K} {A : Around} {E : Value → Shared → Prop} {env : Env}
theorem comp_blockD {kx vx iter : Expr} {x : Str} {px : Pos} {ifs : List Expr} {scope : Scope} {cl : List (Str × Addr)} {pos : Pos} {s₂ : Shared} {I : Addr} {fp wr : List Addr} {n : Nat} {P : Nat → Value → Prop}
    {St : Nat → Heap → Prop} (W : Walks prog w A I fp wr n P St) (hsz : n ≤ sizeLine) (p : Value → Bool) (FK : Value → K → Prop) (FV : Value → Value → Prop) {RR : Value → Addr → Result → Shared → Prop}
    (hcell : ∀ y ∈ scope.names, y.2 ≠ .cell) (hkind : scope.kind = .function) (hx : scope.names.lookup x = some .local) (hst : St 0 s₂.heap) (hfp : ∀ b ∈ fp, b < s₂.heap.objs.size)
    (hq : QuietOnCD knd A env scope cl x ifs kx vx wr P p FK FV s₂)
    (hRR : ∀ D C h' tk m' kvs (vs : List Value), s₂.heap.objs.size ≤ D → s₂.heap.get? C = none → D ≠ C → h'.Ns C m' → h'.DictOf knd D kvs → vs.length = n → (∀ j v, vs[j]? = some v → P j v) → StoredAll FK FV (vs.filter p) kvs →
      (∀ b o, b ∉ wr → s₂.heap.get? b = some o → h'.get? b = some o) → RR (.ref D) C (.ok .next) { s₂ with heap := h', toks := tk }) :
    wpAny (model prog w) A newDict (fun acc s₃ => wpAny (model prog w) A (newFunctionEnv scope env.globals cl [] env.qual none .none (some env)) (fun cenv s₄ =>
      codeAny (model prog w) A (.compStart (.DictComp kx vx [⟨.Name x px, iter, ifs, 0⟩] scope pos) 0 (.ref I) acc { cenv with scope := relabel scope env }) (RR acc cenv.locals) s₄) E s₃) E s₂ := by
  refine wpAny_newObj_type (wpAny_newFunctionEnv hcell (by intro y hy; simp at hy) (fun h₁ hns₁ hsb₁ => ?_) hkind)
  dsimp only at hns₁ hsb₁ ⊢
  have hnew : (s₂.heap.push { cls := .type "dict", dict := none, data := .dict #[] }).DictOf knd s₂.heap.objs.size [] := Heap.DictOf.new s₂.heap
  generalize hH2 : s₂.heap.push { cls := .type "dict", dict := none, data := .dict #[] } = H2 at hns₁ hsb₁ hnew ⊢
  have hC : H2.objs.size = s₂.heap.objs.size + 1 := by rw [← hH2, Heap.size_push]
  have hDC : s₂.heap.objs.size ≠ H2.objs.size := by rw [hC]; exact Nat.ne_of_lt (Nat.lt_succ_self _)
  have below : ∀ b, b < s₂.heap.objs.size → b ≠ H2.objs.size ∧ b ≠ s₂.heap.objs.size := fun b hb => ⟨by rw [hC]; exact Nat.ne_of_lt (Nat.lt_succ_of_lt hb), Nat.ne_of_lt hb⟩
  have hDf : s₂.heap.objs.size ∉ fp := fun hm => Nat.lt_irrefl _ (hfp _ hm)
  have hCf : H2.objs.size ∉ fp := fun hm => by have := hfp _ hm; rw [hC] at this; exact Nat.lt_irrefl _ (Nat.lt_of_succ_lt this)
  have old : ∀ b o, s₂.heap.get? b = some o → h₁.get? b = some o := fun b o e => hsb₁.extBut b o (below b (Heap.lt_size e)).1 (Heap.get?_push_of_some _ (hH2 ▸ Heap.get?_push_of_some _ e))
  have hacc : h₁.DictOf knd s₂.heap.objs.size [] := hnew.at fun o e => hsb₁.extBut _ _ hDC (Heap.get?_push_of_some _ e)
  have hst₁ : St 0 h₁ := W.frame _ _ _ hst fun b _ o e => old b o e
  have fresh : ∀ a, s₂.heap.objs.size ≤ a → s₂.heap.get? a = none := fun a ha => by
    cases e : s₂.heap.get? a with
    | none => rfl
    | some o' => exact absurd (Heap.lt_size e) (Nat.not_lt.mpr ha)
  have loop : ∀ s₃ : Shared, s₃ = { s₂ with heap := h₁, toks := s₂.toks + ([] : List (Str × Value)).length } →
      codeAny (model prog w) A (.compLoop (.DictComp kx vx [⟨.Name x px, iter, ifs, 0⟩] scope pos) 0 (.ref I) (.ref s₂.heap.objs.size) (compEnvC scope cl H2.objs.size env))
        (RR (.ref s₂.heap.objs.size) H2.objs.size) s₃ := by
    rintro s₃ rfl
    refine codeAny_compLoop_walkD (hsz := hsz) (knd := knd) (cenv := compEnvC scope cl H2.objs.size env) W p FK FV (lookup_relabel_local hx) (by simp [compEnvC, relabel, hkind]) hDC hDf hCf hst₁ hacc hns₁
      (fun i v s₃ m₃ hv hn hm hk => hq.tests _ i v s₃ m₃ _ hv hn hm fun b o hbf e => hk b o (below b (Heap.lt_size e)).1 hbf (below b (Heap.lt_size e)).2 (old b o e))
      (fun i v s₃ m₃ hv hpv hn hm hk => hq.key _ i v s₃ m₃ _ hv hpv hn hm fun b o hbf e => hk b o (below b (Heap.lt_size e)).1 hbf (below b (Heap.lt_size e)).2 (old b o e))
      (fun i v s₃ m₃ hv hpv hn hm hk => hq.val _ i v s₃ m₃ _ hv hpv hn hm fun b o hbf e => hk b o (below b (Heap.lt_size e)).1 hbf (below b (Heap.lt_size e)).2 (old b o e)) fun h' tk m' kvs vs hn ha hlen hP hF hk => ?_
    exact hRR _ _ h' tk m' kvs vs (Nat.le_refl _) (fresh _ (by rw [hC]; exact Nat.le_succ _)) hDC hn ha hlen hP hF fun b o hbf e =>
      hk b o (below b (Heap.lt_size e)).1 hbf (below b (Heap.lt_size e)).2 (old b o e)
  exact codeAny_compStart_dict (loop _ rfl) (W.self 0 _ _ _ hst₁ (loop _ rfl))

theorem dictComp_D {s : Shared} {kx vx iter : Expr} {x : Str} {px : Pos} {ifs : List Expr} {scope : Scope} {cl : List (Str × Addr)} {pos : Pos} {Q : Value → Shared → Prop} (knd : KeyKind prog w K) (p : Value → Bool)
    (FK : Value → K → Prop) (FV : Value → Value → Prop)
    (hclos : closureFor scope env = pure cl) (hcell : ∀ y ∈ scope.names, y.2 ≠ .cell) (hkind : scope.kind = .function)
    (hnames : ∀ y ∈ scope.names, y.2 = .local → scope.names.lookup y.1 = some .local) (hx : scope.names.lookup x = some .local)
    (h : wpAny (model prog w) A (eval iter env) (fun xv s₁ => wpAny (model prog w) A (pyIter xv) (fun it s₂ => ∃ I fp wr n P St, it = .ref I ∧ Walks prog w A I fp wr n P St ∧ n ≤ sizeLine ∧ St 0 s₂.heap ∧ (∀ b ∈ fp, b < s₂.heap.objs.size) ∧
      QuietOnCD knd A env scope cl x ifs kx vx wr P p FK FV s₂ ∧
      (∀ D h' tk kvs (vs : List Value), s₂.heap.objs.size ≤ D → h'.DictOf knd D kvs → vs.length = n → (∀ j v, vs[j]? = some v → P j v) → StoredAll FK FV (vs.filter p) kvs →
        (∀ b o, b ∉ wr → s₂.heap.get? b = some o → h'.get? b = some o) → Q (.ref D) { s₂ with heap := h', toks := tk })) E s₁) E s)
    (hs : ∀ x, foldedSetIterable iter env x = pure x := by intro _; rfl) :
    wpAny (model prog w) A (eval (.DictComp kx vx [⟨.Name x px, iter, ifs, 0⟩] scope pos) env) Q E s := by
  rw [arm_eval_DictComp]
  refine wpAny_comprehension_free (use := none) rfl hs hclos hkind hnames (wpAny_mono h (fun xv s₁ h₁ => wpAny_mono h₁ (fun it s₂ h₂ => ?_) fun _ _ e => e) fun _ _ e => e)
  obtain ⟨I, fp, wr, n, P, St, rfl, W, hsz, hst, hfp, hq, hQ⟩ := h₂
  refine comp_blockD (knd := knd) (RR := fun acc C => compPost (model prog w) A E none Q acc C) W hsz p FK FV hcell hkind hx hst hfp hq ?_
  intro D C h' tk m' kvs vs hD hC hDC hn hl hlen hP hF hk
  exact ⟨m', hn, fun h'' hs'' => hQ D h'' tk kvs vs hD (hl.extBut hs''.extBut hDC) hlen hP hF fun b o hbf e => hs''.extBut b o (by rintro rfl; rw [hC] at e; cases e) (hk b o hbf e)⟩
end
def intP (p : Int → Bool) : Value → Bool
  | .int k _ => p k
  | _ => false
theorem intsAre_filter {vs : List Value} {ns : List Int} (h : IntsAre vs ns) (p : Int → Bool) : IntsAre (vs.filter (intP p)) (ns.filter p) := by
  induction h with
  | nil => exact .nil
  | cons n t _ ih =>
    have hp : intP p (.int n t) = p n := rfl
    cases e : p n with
    | true =>
      rw [List.filter_cons_of_pos (by rw [hp, e]), List.filter_cons_of_pos e]
      exact .cons n t ih
    | false =>
      rw [List.filter_cons_of_neg (by rw [hp, e]; simp), List.filter_cons_of_neg (by rw [e]; simp)]
      exact ih
theorem intsAre_snoc {l : List Value} {v : Value} {ns : List Int} (h : IntsAre (l ++ [v]) ns) : ∃ ns' n t, ns = ns' ++ [n] ∧ IntsAre l ns' ∧ v = .int n t := by
  induction l generalizing ns with
  | nil =>
    cases h with
    | cons n t h' => cases h'; exact ⟨[], n, t, rfl, .nil, rfl⟩
  | cons a r ih =>
    cases h with
    | cons n t h' =>
      obtain ⟨ns', n', t', e, h1, h2⟩ := ih h'
      exact ⟨n :: ns', n', t', by rw [e]; rfl, .cons n t h1, h2⟩
theorem stored_kv (f : Int → Int) {l : List Value} {kvs : List (Int × Value)} (h : StoredAll (fun v k => ∃ t, v = .int k t) (fun v y => ∃ k t u, v = .int k t ∧ y = .int (f k) u) l kvs) : ∀ {ks : List Int}, IntsAre l ks → ks.Nodup → KV kvs (ks.map fun k => (k, f k)) := by
  induction h with
  | nil => intro ks hi _; cases hi; exact .nil
  | @snoc l kvs v k y _ hk hy ih =>
    intro ks hi hn
    obtain ⟨ks', n, t, rfl, h1, rfl⟩ := intsAre_snoc hi
    obtain ⟨t1, e1⟩ := hk
    injection e1 with e1 _
    subst e1
    obtain ⟨k2, t2, u, e2, rfl⟩ := hy
    injection e2 with e2 _
    subst e2
    rw [List.nodup_append] at hn
    have hkv := ih h1 hn.1
    have hnot : ¬ (kvs.any fun kv => decide (kv.1 = n)) = true := by
      rw [hkv.any n, List.any_eq_true]
      rintro ⟨q, hq, e⟩
      obtain ⟨k', hk', rfl⟩ := List.mem_map.mp hq
      have e : k' = n := by simpa using e
      exact hn.2.2 k' hk' n (by simp) e
    rw [stored, if_neg hnot, List.map_append]
    exact hkv.append n (f n) u
section
variable {prog : Program} {w : World} {A : Around} {s : Shared} {p : Program} {loose : List Str} {mean : ExcName → Option Value} {mg mb : Str → Option Value} {g : Heap}
theorem keys_ints {c : List (Int × Int)} {vs : List Value} (hl : vs.length = c.length) (h : ∀ (j : Nat) (v : Value), vs[j]? = some v → ∃ (k x : Int) (t : Tok), c[j]? = some (k, x) ∧ v = Value.int k t) : IntsAre vs (c.map (·.1)) := by
  induction c generalizing vs with
  | nil => cases vs with
    | nil => exact .nil
    | cons _ _ => simp at hl
  | cons p r ih => cases vs with
    | nil => simp at hl
    | cons v vs =>
      obtain ⟨k, x, t, e, rfl⟩ := h 0 v rfl
      have e : p = (k, x) := by simpa using e
      subst e
      exact .cons k t (ih (by simpa using hl) fun j v e => by simpa using h (j + 1) v (by simpa using e))
/-- a dictionary comprehension over a dictionary's keys -/
theorem dcomp {env : Env} {E : Value → Shared → Prop} {kx vx iter : Expr} {x : Str} {px : Pos} {ifs : List Expr} {scope : Scope} {cl : List (Str × Addr)} {pos : Pos} {Q : Value → Shared → Prop} (pk : Int → Bool) (f : Int → Int) {d : Addr} {c : List (Int × Int)}
    (hh : A.handled = none) (hclos : closureFor scope env = pure cl) (hcell : ∀ y ∈ scope.names, y.2 ≠ .cell) (hkind : scope.kind = .function)
    (hnames : ∀ y ∈ scope.names, y.2 = .local → scope.names.lookup y.1 = some .local) (hx : scope.names.lookup x = some .local)
    (h : wpAny (model prog w) A (eval iter env) (fun xv s₁ => xv = .ref d ∧ (hd.heap_39 w.params).In s₁.heap ∧ DArg prog w s₁.heap d c ∧
      (∀ C k x' t (s₃ : Shared) m₃ E', (k, x') ∈ c → s₃.heap.Ns C m₃ → m₃ x = some (.int k t) → s₁.heap.StaysIn s₃.heap →
        wpAny (model prog w) A (forIn ifs true fun c r => if r = true then do let ok ← isTrue c (compEnvC scope cl C env) (eval c (compEnvC scope cl C env)); pure (ForInStep.yield ok) else pure (ForInStep.yield r)) (fun ok s₄ => ok = pk k ∧ Keeps s₃ s₄) E' s₃) ∧
      (∀ C k x' t (s₃ : Shared) m₃ E', (k, x') ∈ c → pk k = true → s₃.heap.Ns C m₃ → m₃ x = some (.int k t) → s₁.heap.StaysIn s₃.heap →
        wpAny (model prog w) A (eval kx (compEnvC scope cl C env)) (fun y s₄ => (∃ t, y = .int k t) ∧ Keeps s₃ s₄) E' s₃) ∧
      (∀ C k x' t (s₃ : Shared) m₃ E', (k, x') ∈ c → pk k = true → s₃.heap.Ns C m₃ → m₃ x = some (.int k t) → s₁.heap.StaysIn s₃.heap →
        wpAny (model prog w) A (eval vx (compEnvC scope cl C env)) (fun y s₄ => (∃ u, y = .int (f k) u) ∧ Keeps s₃ s₄) E' s₃) ∧
      (∀ D h' tk, s₁.heap.StaysIn h' → s₁.heap.get? D = none → DArg prog w h' D ((c.filter fun q => pk q.1).map fun q => (q.1, f q.1)) → Q (.ref D) { s₁ with heap := h', toks := tk })) E s)
    (hs : ∀ x, foldedSetIterable iter env x = pure x) :
    wpAny (model prog w) A (eval (.DictComp kx vx [⟨.Name x px, iter, ifs, 0⟩] scope pos) env) Q E s := by
  refine dictComp_D (intKind prog w) (intP pk) (fun v k => ∃ t, v = .int k t) (fun v y => ∃ k t u, v = .int k t ∧ y = .int (f k) u) hclos hcell hkind hnames hx (wpAny_mono h (fun xv s₁ h₁ => ?_) fun _ _ e => e) hs
  obtain ⟨rfl, X, ha, ht, hk, hv, hQ⟩ := h₁
  have hnd := ha.nodup
  obtain ⟨o, ep, ho, hc, hob, hz, lo⟩ := ha
  have hdl : d < s₁.heap.objs.size := Heap.lt_size ho
  have hne : d ≠ s₁.heap.objs.size := Nat.ne_of_lt hdl
  have up : ∀ (h₃ : Heap), (∀ b o, b ∉ [s₁.heap.objs.size] → (s₁.heap.push { cls := .type "dict_keyiterator", data := .fields #[.ref d, .int 0 0, .int c.length 0, .int ep 0] }).get? b = some o → h₃.get? b = some o) → s₁.heap.StaysIn h₃ := fun h₃ k b o e =>
    k b o (by simpa using Nat.ne_of_lt (Heap.lt_size e)) (Heap.get?_push_of_some _ e)
  refine d_iter X lo ho hc hob ⟨s₁.heap.objs.size, [s₁.heap.objs.size, d], [s₁.heap.objs.size], c.length, _, _, rfl, walk_keys (prog := prog) (w := w) hh _ hne c ep, by rw [sizeLine_eq]; omega, ⟨⟨_, Heap.get?_push_size _ rfl, rfl, rfl⟩, o, Heap.get?_push_of_some _ ho, hc, hob⟩, ?_, ⟨?_, ?_, ?_⟩, ?_⟩
  · intro b hb
    show b < (Heap.push _ _).objs.size
    rw [Heap.size_push]
    rcases List.mem_cons.mp hb with rfl | hb
    · exact Nat.lt_succ_self _
    · rw [List.mem_singleton.mp hb]; exact Nat.lt_succ_of_lt hdl
  · rintro C i v s₃ m₃ E' ⟨k, x', t, hx', rfl⟩ hn hm k3
    exact ht C k x' t s₃ m₃ E' (List.mem_of_getElem? hx') hn hm (up _ k3)
  · rintro C i v s₃ m₃ E' ⟨k, x', t, hx', rfl⟩ hp hn hm k3
    exact wpAny_mono (hk C k x' t s₃ m₃ E' (List.mem_of_getElem? hx') hp hn hm (up _ k3)) (fun y s₄ ⟨⟨t', e⟩, z⟩ => ⟨⟨k, by rw [e]; exact intKind_is prog w k t', t, rfl⟩, z⟩) fun _ _ e => e
  · rintro C i v s₃ m₃ E' ⟨k, x', t, hx', rfl⟩ hp hn hm k3
    exact wpAny_mono (hv C k x' t s₃ m₃ E' (List.mem_of_getElem? hx') hp hn hm (up _ k3)) (fun y s₄ ⟨⟨u, e⟩, z⟩ => ⟨⟨k, t, u, rfl, e⟩, z⟩) fun _ _ e => e
  · intro D h' tk kvs vs hD hdict hlen hP hF hkp
    have hI := keys_ints hlen hP
    have hI2 := intsAre_filter hI pk
    have e1 : (c.map (·.1)).filter pk = (c.filter fun q => pk q.1).map (·.1) := by rw [List.filter_map]; rfl
    rw [e1] at hI2
    have hnd2 : ((c.filter fun q => pk q.1).map (·.1)).Nodup := List.Sublist.nodup (List.Sublist.map _ List.filter_sublist) hnd
    have kv := stored_kv f hF hI2 hnd2
    rw [List.map_map] at kv
    have kv : KV kvs ((c.filter fun q => pk q.1).map fun q => (q.1, f q.1)) := kv
    obtain ⟨oD, es, ep', hoD, hex, hdat, hks, hps, _⟩ := hdict
    have hDs : @LT.lt Nat _ s₁.heap.objs.size D := by
      have : (s₁.heap.push { cls := .type "dict_keyiterator", data := .fields #[.ref d, .int 0 0, .int c.length 0, .int ep 0] }).objs.size ≤ D := hD
      rw [Heap.size_push] at this
      exact this
    have l3 := low_lt X
    refine hQ D h' tk (up _ hkp) (Heap.get?_none_of_le (Nat.le_of_lt hDs)) ⟨oD, ep', hoD, .inl hex.1, ⟨es, kvs, hdat, hks, hps, kv, ?_⟩, ?_, ?_⟩
    · rw [List.map_map]; exact hnd2
    · rw [List.length_map]
      exact Nat.le_trans (List.length_filter_le _ _) hz
    · simp only [beq_eq_false_iff_ne, ne_eq]
      intro e
      have e : @Eq Nat D 1 := e
      omega
end
end Mine
end
set_option maxHeartbeats 4000000
/- part Mk8 -/
section
namespace Mine
theorem fillMk8 : (PySem.Challenge.rw_br0041_01 = PySem.Challenge.rw_br0041_01 ∧ hd.heap_39 = hd.heap_39) := by
  k_fill
  exact ⟨rfl, rfl⟩
/-- one counter less another: rows, then those above nothing -/
def subRows (c e : List (Int × Int)) : List (Int × Int) := (c.filter fun _ => true).map fun q => (q.1, (cAt c q.1).getD 0 - (cAt e q.1).getD 0)
def posRows (r : List (Int × Int)) : List (Int × Int) := (r.filter fun q => decide (0 < (cAt r q.1).getD 0)).map fun q => (q.1, (cAt r q.1).getD 0)
def subC (c e : List (Int × Int)) : List (Int × Int) := posRows (subRows c e)
def andC (c e : List (Int × Int)) : List (Int × Int) := (c.filter fun q => (cAt e q.1).isSome && decide (0 < min ((cAt c q.1).getD 0) ((cAt e q.1).getD 0))).map fun q => (q.1, min ((cAt c q.1).getD 0) ((cAt e q.1).getD 0))
section
variable {M : Model} {A : Around} {E : Value → Shared → Prop} {s : Shared}
theorem nmC_local {sc : Scope} {cl : List (Str × Addr)} {C : Addr} {env : Env} {x : Str} {pos : Pos} {m : Str → Option Value} {v : Value} {Q : Value → Shared → Prop} (hn : s.heap.Ns C m) (hv : m x = some v) (h : Q v s)
    (hk : (compEnvC sc cl C env).scope.kind = .function := by rfl) (hl : (compEnvC sc cl C env).scope.names.lookup x = some .local := by rfl) (hd : (x == ("__debug__" : Str)) = false := by decide) : wpAny M A (eval (.Name x pos) (compEnvC sc cl C env)) Q E s :=
  ldG (cenv := compEnvC sc cl C env) hn hv h hk hl hd
theorem nmC_cell {sc : Scope} {cl : List (Str × Addr)} {C c : Addr} {env : Env} {x : Str} {pos : Pos} {v : Value} {Q : Value → Shared → Prop} (hv : s.heap.IsCell c (some v)) (h : Q v s) (hc : cl.lookup x = some c := by rfl)
    (hk : (compEnvC sc cl C env).scope.kind = .function := by rfl) (hl : (compEnvC sc cl C env).kindOf x = some .cell := by rfl) (hd : (x == ("__debug__" : Str)) = false := by decide) : wpAny M A (eval (.Name x pos) (compEnvC sc cl C env)) Q E s :=
  wpAny_Name (wpAny_loadName_cell hk hl hc hv h) hd
end
section
variable {prog : Program} {w : World} {A : Around} {s : Shared} {p : Program} {loose : List Str} {mean : ExcName → Option Value} {mg mb : Str → Option Value} {g : Heap}
local macro_rules | `(tactic| walk_at "pyIter ref") => `(tactic| (k_here; refine stop_it ?_))
local macro_rules | `(tactic| walk_at "call ref") => `(tactic| (k_here; refine stop_it ?_))
local macro_rules | `(tactic| walk_at "setItem ref ref") => `(tactic| (k_here; refine stop_it ?_))
local macro_rules | `(tactic| walk_at "exec For Tuple") => `(tactic| (k_here; refine stop_it ?_))
local macro_rules | `(tactic| walk_at "getMethod ref") => `(tactic| (k_here; k_dflt (first
  | (refine' kmu_own ?k1 ?k2 ?k3 ?k4 ?k5 ?_; (case k1 => k_asm); (case k2 => k_asm); (case k3 => k_inst); (case k4 => k_is); (case k5 => k_is); k_whole)
  | (refine' method_inst ?k1 ?k2 ?k3 ?k4 ?k5 ?k6 ?k7 ?_; (case k1 => k_asm); (case k2 => k_asm); (case k3 => k_inst); (case k4 => k_is); (case k5 => k_is); (case k6 => k_is); (case k7 => k_get); k_whole))))
local macro_rules | `(tactic| walk_at "last getAttr ref") => `(tactic| (k_here; k_dflt (refine' attr_sm ?k1 ?k2 ?k4 ?k5 ?k6 ?k7 ?k9 ?k10 ?k11 ?k12 ?k13 ?k14 ?_; (case k1 => k_asm); (case k2 => k_asm); (case k4 => k_inst); (case k5 => k_is); (case k6 => k_is); (case k7 => k_is); (case k9 => k_is); (case k10 => k_is); (case k11 => decide +kernel); (case k12 => k_get); (case k13 => k_is); (case k14 => k_handed); k_whole)))
local macro_rules | `(tactic| walk_at "last eval Call Attribute") => `(tactic| (k_here; refine methodCall_S ?_))
local macro_rules | `(tactic| walk_at "eval Call Attribute") => `(tactic| (k_here; (with_reducible show wpAny _ _ (eval (Expr.Call (Expr.Attribute _ _ _) [Expr.Starred _ _] [] _) _) _ _ _); refine methodCall_S ?_))
local macro_rules | `(tactic| walk_at "call builtin:len") => `(tactic| (k_here; refine' len_TupAt ?k1 ?k2 ?_; (case k1 => k_asm); (case k2 => k_asm); intro _ _; k_whole))
local macro_rules | `(tactic| walk_at "getItem ref int") => `(tactic| (k_here; refine' getItem_TupAt ?k1 ?k2 ?k3 ?_; (case k1 => k_asm); (case k2 => k_asm); (case k3 => omega); intro _; k_whole))
local macro_rules | `(tactic| walk_at "subscriptTail") => `(tactic| (k_here; first
  | (refine' item_TupAt ?k1 ?k2 ?k3 ?_; (case k1 => k_asm); (case k2 => k_asm); (case k3 => omega); intro _; k_whole)
  | (refine' item_fn ?k1 ?k2 ?k3 ?k4 ?_; (case k1 => k_asm); (case k2 => k_mem); (case k3 => with_reducible assumption); (case k4 => omega); intro _; k_whole)))
local macro_rules | `(tactic| walk_at "call builtin:min") => `(tactic| (k_here; (with_reducible show wpAny _ _ (call (Value.builtin "min") [Value.int _ _, Value.int _ _]) _ _ _); (rename Around.handled _ = none => hX); refine' min2N hX ?k2 ?k3 ?_; (case k2 => k_asm); (case k3 => k_asm); k_whole; intro h' tk' t' F' N'))
local macro_rules | `(tactic| walk_at "call builtin:min") => `(tactic| (k_here; (with_reducible show wpAny _ _ (call (Value.builtin "min") [Value.int _ _, Value.int _ _, Value.int _ _]) _ _ _); (rename Around.handled _ = none => hX); refine' min3N hX ?k2 ?k3 ?_; (case k2 => k_asm); (case k3 => k_asm); k_whole; intro h' tk' t' F' N'))
local macro_rules | `(tactic| walk_at "call builtin:min") => `(tactic| (k_here; (with_reducible show wpAny _ _ (call (Value.builtin "min") [Value.int _ _, Value.int _ _, Value.int _ _, Value.int _ _]) _ _ _); (rename Around.handled _ = none => hX); refine' min4N hX ?k2 ?k3 ?_; (case k2 => k_asm); (case k3 => k_asm); k_whole; intro h' tk' t' F' N'))
local macro_rules | `(tactic| walk_at "setItem ref int int") => `(tactic| (k_here; refine' setItem_fn ?k1 ?k2 ?k3 ?k4 ?k5 ?_; (case k1 => k_asm); (case k2 => k_asm); (case k3 => k_upd); (case k4 => with_reducible assumption); (case k5 => omega); k_whole; intro h' F' N' i'))
local macro_rules | `(tactic| walk_at "assign Tuple") => `(tactic| (k_here; (with_reducible show wpAny _ _ (assign (Expr.Tuple _ _ _) _ (Value.ref _)) _ _ _); k_dflt (refine' kun_list ?k1 ?k2 ?k3 ?k4 ?k5 ?k6 ?_; (case k1 => k_asm); (case k2 => k_asm); (case k3 => kun_lst); (case k4 => assumption); (case k5 => exact rfl); (case k6 => exact rfl); k_whole); intro h' F' N'; (try k_sweep)))
local macro_rules | `(tactic| walk_at "assign Tuple") => `(tactic| (k_here; (with_reducible show wpAny _ _ (assign (Expr.Tuple _ _ _) _ (Value.ref _)) _ _ _); k_dflt (refine' unpackN_ ?k1 ?k2 ?k3 ?k4 ?k5 ?k6 ?_; (case k1 => k_asm); (case k2 => k_asm); (case k3 => kun_tup); (case k4 => assumption); (case k5 => exact rfl); (case k6 => exact rfl); k_whole); intro h' F' N'; (try k_sweep)))
local macro_rules | `(tactic| walk_at "unpackItems ref") => `(tactic| (k_here; k_dflt (refine' unpackItemsN_ ?k1 ?k2 ?k3 ?k4 ?k5 ?_; (case k1 => k_asm); (case k2 => k_asm); (case k3 => kun_tup); (case k4 => assumption); (case k5 => exact rfl); k_whole); intro h' F' N'; (try k_sweep)))
local macro_rules | `(tactic| walk_at "call type:list") => `(tactic| (k_here; refine' list_range_N ?k0 ?k1 ?k2 ?k3 ?k4 ?k5 ?k6 ?_; (case k1 => k_asm); (case k2 => k_asm); (case k0 => assumption); (case k3 => assumption); (case k4 => omega); (case k5 => exact small_one (by omega) (by omega) (by omega) (by omega)); (case k6 => omega); intro D' h' tk' vs' k' F' N' l1 i1; (try k_lt l1)))
local macro_rules | `(tactic| k_ne) => `(tactic| first | with_reducible assumption | (refine Ne.symm ?_; with_reducible assumption) | (refine neN ?_; (try dsimp only); omega))
local macro_rules | `(tactic| walk_at "getMethod ref") => `(tactic| (k_here; refine stop_it ?_))
local macro_rules | `(tactic| walk_at "call builtin:dict.get") => `(tactic| (k_here; refine stop_it ?_))
local macro_rules | `(tactic| walk_at "call builtin:min") => `(tactic| (k_here; refine stop_it ?_))
theorem keeps_refl {s : Shared} : Keeps s s := ⟨s.heap, s.toks, rfl, fun _ _ e => e⟩
theorem CtNew.of {old old' h' : Heap} {x : Addr} {c : List (Int × Int)} (I : CtNew prog w old h' x c) (k : old'.StaysIn old) : CtNew prog w old' h' x c := by
  obtain ⟨dx, I, a, b, l⟩ := I
  have up : ∀ z, old.get? z = none → old'.get? z = none := fun z e => by
    cases q : old'.get? z with
    | none => rfl
    | some o => rw [k _ _ q] at e; cases e
  exact ⟨dx, I, up _ a, up _ b, l⟩
theorem at_mem {c : List (Int × Int)} (hn : (c.map (·.1)).Nodup) {k v : Int} (h : (k, v) ∈ c) : cAt c k = some v := by
  induction c with
  | nil => cases h
  | cons p r ih =>
    rw [List.map_cons, List.nodup_cons] at hn
    unfold cAt at ih ⊢
    rcases List.mem_cons.mp h with rfl | h
    · simp
    · have hne : ¬ p.1 = k := fun e => hn.1 (List.mem_map.mpr ⟨(k, v), h, e.symm⟩)
      simp only [List.find?_cons, hne, decide_false]
      exact ih hn.2 h
theorem da_tail {E Q : Value → Shared → Prop} {value slice : Expr} {d : Addr} {c : List (Int × Int)} {k v : Int} {t : Tok} (X : (hd.heap_39 w.params).In s.heap) (ha : DArg prog w s.heap d c) (hv : cAt c k = some v) (h : ∀ u, Q (.int v u) { s with toks := s.toks + 1 })
    (hs : subscripted slice false (.ref d) (.int k t) = operate [.ref d, .int k t] (getItem (.ref d) (.int k t)) := by with_unfolding_all rfl) : wpAny (model prog w) A (subscriptTail value slice (.ref d) (.int k t)) Q E s := by
  obtain ⟨o, ep, a, b, e, _⟩ := ha
  exact d_tail X a b e hv h hs
theorem da_callGet {E Q : Value → Shared → Prop} {d : Addr} {c : List (Int × Int)} {k dv : Int} {t tu : Tok} (X : (hd.heap_39 w.params).In s.heap) (ha : DArg prog w s.heap d c) (h : ∀ u, Q (.int ((cAt c k).getD dv) u) { s with toks := s.toks + 1 }) : wpAny (model prog w) A (call (.builtin "dict.get") [.ref d, .int k t, .int dv tu]) Q E s := by
  obtain ⟨o, ep, a, b, e, _⟩ := ha
  exact d_callGet X a b e h
theorem da_in {E Q : Value → Shared → Prop} {d : Addr} {c : List (Int × Int)} {k : Int} {t : Tok} (X : (hd.heap_39 w.params).In s.heap) (ha : DArg prog w s.heap d c) (h : Q (.bool (cAt c k).isSome) { s with toks := s.toks + 1 }) : wpAny (model prog w) A (compareOp .In (.int k t) (.ref d)) Q E s := by
  obtain ⟨o, ep, a, b, e, _⟩ := ha
  exact d_in X a b e h
theorem ct_getMethod {E : Value → Shared → Prop} {d : Addr} {c : List (Int × Int)} {name : Str} {f tf : Value} {pl : Sem Bool} {Q : Value × List Value → Shared → Prop} (X : (hd.heap_39 w.params).In s.heap) (ha : CtAt prog w s.heap d c)
    (hf : findIn (hd.heap_39 w.params) (.ref CtC) name = some (some f)) (ht : Looks (model prog w) s.heap (typeOf f) tf) (htf : tf = .type "function" ∨ tf = .type "method_descriptor") (h : Q (f, [.ref d]) s) : wpAny (model prog w) A (getMethod (.ref d) name pl) Q E s := by
  obtain ⟨dx, o, ep, a, b, e, _⟩ := ha
  exact d_method X a b.cls b.dict e hf ht htf h
theorem nmC_built {h₀ : Heap} {E : Value → Shared → Prop} {sc : Scope} {cl : List (Str × Addr)} {C : Addr} {env : Env} {x : Str} {pos : Pos} {v : Value} {Q : Value → Shared → Prop} (X : (hd.heap_39 w.params).In h₀) (T : Top p loose mean mg mb h₀) (k : h₀.StaysIn s.heap) (e : nsIn (hd.heap_39 w.params) mainGlobals x = some none) (hv : bootBuiltins x = some v) (hn : x ≠ "__name__") (h : Q v s)
    (hg : env.globals = mainGlobals := by rfl) (hb : env.builtins = builtinsNs := by rfl)
    (hk : (compEnvC sc cl C env).scope.kind = .function := by rfl) (hx : (compEnvC sc cl C env).kindOf x = some .globalImplicit := by rfl) (hd : (x == ("__debug__" : Str)) = false := by decide) :
    wpAny (model prog w) A (eval (.Name x pos) (compEnvC sc cl C env)) Q E s :=
  Name_function_global hk hx (loadGlobal_builtin (env := compEnvC sc cl C env) (show s.heap.Ns env.globals mg from hg ▸ (T.keeps k).g) (mg_none_of X T.g e) (show s.heap.Ns env.builtins mb from hb ▸ (T.keeps k).b) ((T.builtins x hn).trans hv) h) hd
theorem boot_min' : bootBuiltins (Str.ofString "min") = some (.builtin "min") := by decide +kernel
theorem el_min {E : Value → Shared → Prop} {cenv : Env} {x y : Addr} {c e : List (Int × Int)} {k v1 v2 : Int} {t : Tok} {p0 p1 p2 p3 p4 p5 p6 p7 : Pos} {Q : Value → Shared → Prop} (hh : A.handled = none) (X3 : (hd.heap_39 w.params).In s.heap) (hx : CtAt prog w s.heap x c) (hy : CtAt prog w s.heap y e)
    (h1 : cAt c k = some v1) (h2 : cAt e k = some v2)
    (nmin : ∀ p Q' (s' : Shared), s.heap.StaysIn s'.heap → Q' (Value.builtin "min") s' → wpAny (model prog w) A (eval (.Name (Str.ofString "min") p) cenv) Q' E s')
    (nself : ∀ p Q' (s' : Shared), s.heap.StaysIn s'.heap → Q' (Value.ref x) s' → wpAny (model prog w) A (eval (.Name (Str.ofString "self") p) cenv) Q' E s')
    (nother : ∀ p Q' (s' : Shared), s.heap.StaysIn s'.heap → Q' (Value.ref y) s' → wpAny (model prog w) A (eval (.Name (Str.ofString "other") p) cenv) Q' E s')
    (nkey : ∀ p Q' (s' : Shared), s.heap.StaysIn s'.heap → Q' (Value.int k t) s' → wpAny (model prog w) A (eval (.Name (Str.ofString "key") p) cenv) Q' E s')
    (h : ∀ u h' tk, s.heap.StaysIn h' → Q (.int (min v1 v2) u) { s with heap := h', toks := tk }) :
    wpAny (model prog w) A (eval (.Call (.Name (Str.ofString "min") p0) [.Subscript (.Name (Str.ofString "self") p1) (.Name (Str.ofString "key") p2) p3, .Subscript (.Name (Str.ofString "other") p4) (.Name (Str.ofString "key") p5) p6] [] p7) cenv) Q E s := by
  walk1
  refine nmin _ _ _ (fun _ _ e => e) ?_
  walk1
  walk1
  refine Subscript_ ?_
  refine nself _ _ _ (fun _ _ e => e) ?_
  refine nkey _ _ _ (fun _ _ e => e) ?_
  refine da_tail X3 hx.arg h1 ?_
  intro u1
  walk1
  refine Subscript_ ?_
  refine nother _ _ _ (fun _ _ e => e) ?_
  refine nkey _ _ _ (fun _ _ e => e) ?_
  refine da_tail X3 hy.arg h2 ?_
  intro u2
  walk1
  refine min2 hh ?_
  intro h' tk u st
  exact h u h' tk st
theorem ct_copy {x : Addr} {c : List (Int × Int)} (hx : CtAt prog w s.heap x c) (O : On w p loose mean mg mb g s.heap) (H : Room A 6 90) :
    Pays prog w A (.call (.ref 44) ⟨[.ref x], []⟩) s (fun v h' => ∃ z, v = .ref z ∧ CtNew prog w s.heap h' z c) := by
  w_top off
  intro R hR
  have O' : On w p loose mean mg mb s.heap s.heap := ⟨O.k.keeps O.st, O.t.keeps O.st, fun _ _ e => e⟩
  clear O
  rename On w p loose mean mg mb s.heap s.heap => O
  refine' enterG [] (binds := [(Str.ofString "self", .ref x)]) O ?hg ?hown ?ho ?hcd ?hroom ?hb ?hl ?body ?hcell ?c1 ?c2 ?c3
  (case hg => exact fun _ h => nomatch h)
  (case hown => exact fun _ h => nomatch h)
  (case ho => k_is)
  (case hcd => k_is)
  (case hroom => have := Room.dp (by assumption); omega)
  (case hl => exact locs rfl)
  (case hcell => decide)
  (case c1 => exact rfl)
  (case c2 => exact rfl)
  (case c3 => exact rfl)
  (case hb => first | exact BindsTo.of_eq rfl | exact kp_binds (O.k.keeps O.st) (fun _ => rfl))
  intro h₀ L h₁ gst X T back F N
  (try k_fold)
  rename Top _ _ _ _ _ _ => T₀
  have hh := H.hh
  k_steps
  rename News _ _ _ _ => N
  rename Fr _ _ _ _ => F
  have st1 := fun b o e => F.keep b o (gst b o e)
  refine Pays.use (new_d ((hx.keeps st1).arg) (On.of X T₀ F) (room_deep (H.less (by omega) (by omega)))) ?_
  intro v h₂ tk st hv
  obtain ⟨z, rfl, I⟩ := hv
  dsimp only at st ⊢
  have F2 := fr_stay F st
  k_steps
  refine hR _ _ _ (fun b o e => st _ _ (st1 _ _ e)) ⟨z, rfl, I.of st1⟩
theorem ct_sub {x y : Addr} {c e : List (Int × Int)} (hx : CtAt prog w s.heap x c) (hy : CtAt prog w s.heap y e) (O : On w p loose mean mg mb g s.heap) (H : Room A 6 90) :
    Pays prog w A (.call (.ref 71) ⟨[.ref x, .ref y], []⟩) s (fun v h' => ∃ z, v = .ref z ∧ CtNew prog w s.heap h' z (subC c e)) := by
  w_top off
  intro R hR
  have O' : On w p loose mean mg mb s.heap s.heap := ⟨O.k.keeps O.st, O.t.keeps O.st, fun _ _ e => e⟩
  clear O
  rename On w p loose mean mg mb s.heap s.heap => O
  refine' enterCG [] (binds := [(Str.ofString "self", .ref x), (Str.ofString "other", .ref y)]) O ?hg ?hown ?ho ?hcd ?hroom ?hb ?hl ?hnd ?body ?c1 ?c2 ?c3
  (case hg => exact fun _ h => nomatch h)
  (case hown => exact fun _ h => nomatch h)
  (case ho => k_is)
  (case hcd => k_is)
  (case hroom => have := Room.dp (by assumption); omega)
  (case hl => exact rfl)
  (case hnd => decide +kernel)
  (case c1 => exact rfl)
  (case c2 => exact rfl)
  (case c3 => exact rfl)
  (case hb => first | exact BindsTo.of_eq rfl | exact kp_binds (O.k.keeps O.st) (fun _ => rfl))
  intro h₀ L h₁ tk cells gst X T back F N Y l2
  (try k_lt l2)
  (first | (change CellsAre _ [] _ at Y; cases Y) | k_cells Y)
  simp only [List.cons_append, List.nil_append] at N
  (try dsimp only)
  (try k_fold)
  rename Top _ _ _ _ _ _ => T₀
  have hh := H.hh
  k_steps
  rename_i oR oO oS dR dO dS
  rename News _ _ _ _ => N
  rename Fr _ _ _ _ => F
  have st1 := fun b o e => F.keep b o (gst b o e)
  refine dcomp (fun _ => true) (fun k => (cAt c k).getD 0 - (cAt e k).getD 0) (d := x) (c := c) hh rfl (by decide) rfl (by decide) rfl ?_ (fun _ => rfl)
  walk1
  refine ⟨rfl, X.keeps F.keep, (hx.keeps st1).arg, ?_, ?_, ?_, ?_⟩
  · intro C k x' t s₃ m₃ E' hmem hn hm st
    exact wpAny_pure ⟨rfl, keeps_refl⟩
  · intro C k x' t s₃ m₃ E' hmem _ hn hm st
    exact nmC_local hn hm ⟨⟨_, rfl⟩, keeps_refl⟩
  · intro C k x' t s₃ m₃ E' hmem _ hn hm st
    refine wpAny_BinOp (Subscript_ ?_)
    refine nmC_cell ⟨oS, st _ _ (N (L + 1, oS) (by k_mem)).1, dS⟩ ?_
    refine nmC_local hn hm ?_
    have X3 := (X.keeps F.keep).keeps st
    have hx3 := (hx.keeps st1).keeps st
    have hy3 := (hy.keeps st1).keeps st
    refine da_tail X3 hx3.arg (at_mem hx3.arg.nodup hmem) ?_
    intro u1
    walk1
    refine nmC_cell ⟨oO, st _ _ (N (L + 1 + 1, oO) (by k_mem)).1, dO⟩ ?_
    refine' ct_getMethod (f := .builtin "dict.get") (tf := .type "method_descriptor") ?X ?a ?b ?c ?d ?_
    (case X => exact X3)
    (case a => exact hy3)
    (case b => exact cs_get.find)
    (case c => exact ct_typeGet)
    (case d => exact .inr rfl)
    walk1
    walk1
    refine nmC_local hn hm ?_
    k_steps
    refine da_callGet X3 hy3.arg ?_
    intro u2
    walk1
    exact ⟨⟨_, by rw [at_mem hx3.arg.nodup hmem]; rfl⟩, _, _, rfl, fun _ _ e => e⟩
  · intro D h₂ tk st2 hD hDa
    dsimp only at st2 hD ⊢
    obtain ⟨oD, epD, hoD, hcD, hobD, hzD, loD⟩ := hDa
    obtain ⟨N2, ne2⟩ := news_new F N st2 hoD hD
    have F2 := fr_stay F st2
    have q1 : @Ne Nat (L + 1 + 1 + 1) D := ne2 _ (.head _)
    have q2 : @Ne Nat (L + 1 + 1) D := ne2 _ (.tail _ (.head _))
    have q3 : @Ne Nat (L + 1) D := ne2 _ (.tail _ (.tail _ (.head _)))
    clear F N
    k_steps
    rename News _ _ _ _ => N
    rename Fr _ _ _ _ => F
    rename_i h₃ oR2 dR2
    have hDn := hobD
    obtain ⟨_, _, _, _, _, _, hnd⟩ := hDn
    have aD : ∀ h', h₃.StaysIn h' → DArg prog w h' D (subRows c e) := fun h' k => ⟨oD, epD, k _ _ (N (D, oD) (by k_mem)).1, hcD, hobD, hzD, loD⟩
    refine dcomp (fun k => decide (0 < (cAt (subRows c e) k).getD 0)) (fun k => (cAt (subRows c e) k).getD 0) (d := D) (c := subRows c e) hh rfl (by decide) rfl (by decide) rfl ?_ (fun _ => rfl)
    walk1
    refine ⟨rfl, X.keeps F.keep, aD _ fun _ _ e => e, ?_, ?_, ?_, ?_⟩
    · intro C k x' t s₃ m₃ E' hmem hn hm st
      have X3 := (X.keeps F.keep).keeps st
      have hg : cAt (subRows c e) k = some x' := at_mem hnd hmem
      simp only [List.forIn_cons, List.forIn_nil, if_true]
      refine wpAny_bind (wpAny_bind ?_)
      walk1
      refine Subscript_ ?_
      refine nmC_cell ⟨oR2, st _ _ (N (L + 1 + 1 + 1, oR2) (by k_mem)).1, dR2⟩ ?_
      refine nmC_local hn hm ?_
      refine da_tail X3 (aD _ st) hg ?_
      intro u1
      walk1
      walk1
      exact wpAny_truthy_bool (wpAny_pure (wpAny_pure ⟨by rw [hg]; rfl, _, _, rfl, fun _ _ e => e⟩))
    · intro C k x' t s₃ m₃ E' hmem _ hn hm st
      exact nmC_local hn hm ⟨⟨_, rfl⟩, keeps_refl⟩
    · intro C k x' t s₃ m₃ E' hmem _ hn hm st
      have X3 := (X.keeps F.keep).keeps st
      have hg : cAt (subRows c e) k = some x' := at_mem hnd hmem
      refine Subscript_ ?_
      refine nmC_cell ⟨oR2, st _ _ (N (L + 1 + 1 + 1, oR2) (by k_mem)).1, dR2⟩ ?_
      refine nmC_local hn hm ?_
      refine da_tail X3 (aD _ st) hg ?_
      intro u1
      exact ⟨⟨_, by rw [hg]; rfl⟩, _, _, rfl, fun _ _ e => e⟩
    · intro D2 h₄ tk4 st4 hD2 hDa
      dsimp only at st4 hD2 ⊢
      have F4 := fr_stay F st4
      clear F
      k_steps
      refine Pays.use (new_d hDa (On.of X T₀ F4) (room_deep (H.less (by omega) (by omega)))) ?_
      intro v h₅ tk5 st5 hv
      obtain ⟨z, rfl, I⟩ := hv
      dsimp only at st5 ⊢
      have st6 : s.heap.StaysIn h₄ := fun b o e => F4.keep _ _ (gst _ _ e)
      k_steps
      refine hR _ _ _ (fun b o e => st5 _ _ (st6 _ _ e)) ⟨z, rfl, I.of st6⟩
theorem ct_and {x y : Addr} {c e : List (Int × Int)} (hx : CtAt prog w s.heap x c) (hy : CtAt prog w s.heap y e) (O : On w p loose mean mg mb g s.heap) (H : Room A 6 90) :
    Pays prog w A (.call (.ref 49) ⟨[.ref x, .ref y], []⟩) s (fun v h' => ∃ z, v = .ref z ∧ CtNew prog w s.heap h' z (andC c e)) := by
  w_top off
  intro R hR
  have O' : On w p loose mean mg mb s.heap s.heap := ⟨O.k.keeps O.st, O.t.keeps O.st, fun _ _ e => e⟩
  clear O
  rename On w p loose mean mg mb s.heap s.heap => O
  refine' enterCG [] (binds := [(Str.ofString "self", .ref x), (Str.ofString "other", .ref y)]) O ?hg ?hown ?ho ?hcd ?hroom ?hb ?hl ?hnd ?body ?c1 ?c2 ?c3
  (case hg => exact fun _ h => nomatch h)
  (case hown => exact fun _ h => nomatch h)
  (case ho => k_is)
  (case hcd => k_is)
  (case hroom => have := Room.dp (by assumption); omega)
  (case hl => exact rfl)
  (case hnd => decide +kernel)
  (case c1 => exact rfl)
  (case c2 => exact rfl)
  (case c3 => exact rfl)
  (case hb => first | exact BindsTo.of_eq rfl | exact kp_binds (O.k.keeps O.st) (fun _ => rfl))
  intro h₀ L h₁ tk cells gst X T back F N Y l2
  (try k_lt l2)
  (first | (change CellsAre _ [] _ at Y; cases Y) | k_cells Y)
  simp only [List.cons_append, List.nil_append] at N
  (try dsimp only)
  (try k_fold)
  rename Top _ _ _ _ _ _ => T₀
  have hh := H.hh
  k_steps
  rename_i oO oS dO dS
  rename News _ _ _ _ => N
  rename Fr _ _ _ _ => F
  have st1 := fun b o e => F.keep b o (gst b o e)
  refine dcomp (fun k => (cAt e k).isSome && decide (0 < min ((cAt c k).getD 0) ((cAt e k).getD 0))) (fun k => min ((cAt c k).getD 0) ((cAt e k).getD 0)) (d := x) (c := c) hh rfl (by decide) rfl (by decide) rfl ?_ (fun _ => rfl)
  walk1
  refine ⟨rfl, X.keeps F.keep, (hx.keeps st1).arg, ?_, ?_, ?_, ?_⟩
  · intro C k x' t s₃ m₃ E' hmem hn hm st
    have X3 := (X.keeps F.keep).keeps st
    have hx3 := (hx.keeps st1).keeps st
    have hy3 := (hy.keeps st1).keeps st
    have hg := at_mem hx3.arg.nodup hmem
    simp only [List.forIn_cons, List.forIn_nil, if_true]
    refine wpAny_bind (wpAny_bind ?_)
    walk1
    walk1
    refine nmC_local hn hm ?_
    refine nmC_cell ⟨oO, st _ _ (N (L + 1 + 1, oO) (by k_mem)).1, dO⟩ ?_
    refine da_in X3 hy3.arg ?_
    refine wpAny_truthy_bool ?_
    cases he : cAt e k with
    | none =>
      simp only [Option.isSome_none, Bool.false_eq_true, if_false]
      exact wpAny_pure (wpAny_pure ⟨rfl, _, _, rfl, fun _ _ e => e⟩)
    | some v2 =>
      simp only [Option.isSome_some, if_true]
      walk1
      walk1
      refine el_min (x := x) (y := y) (t := t) hh X3 hx3 hy3 hg he (fun p' Q' s' ks hQ => nmC_built X T₀ (fun b o e => ks _ _ (st _ _ (F.keep _ _ e))) (by k_is) boot_min' (by decide) hQ) (fun p' Q' s' ks hQ => nmC_cell ⟨oS, ks _ _ (st _ _ (N (L + 1, oS) (by k_mem)).1), dS⟩ hQ)
        (fun p' Q' s' ks hQ => nmC_cell ⟨oO, ks _ _ (st _ _ (N (L + 1 + 1, oO) (by k_mem)).1), dO⟩ hQ) (fun p' Q' s' ks hQ => nmC_local (hn.keeps ks) hm hQ) ?_
      intro u h' tk ks
      walk1
      walk1
      refine wpAny_truthy_bool ?_
      have hv : decide (0 < min x' v2) = (true && decide (0 < min ((cAt c k).getD 0) ((some v2).getD 0))) := by rw [hg]; rfl
      cases hd : decide (0 < min x' v2) with
      | false =>
        simp only [Bool.false_eq_true, if_false]
        exact wpAny_pure (wpAny_pure ⟨hd ▸ hv, _, _, rfl, ks⟩)
      | true =>
        simp only [if_true]
        walk1
        exact wpAny_pure (wpAny_pure ⟨hd ▸ hv, _, _, rfl, ks⟩)
  · intro C k x' t s₃ m₃ E' hmem _ hn hm st
    exact nmC_local hn hm ⟨⟨_, rfl⟩, keeps_refl⟩
  · intro C k x' t s₃ m₃ E' hmem hpk hn hm st
    have X3 := (X.keeps F.keep).keeps st
    have hx3 := (hx.keeps st1).keeps st
    have hy3 := (hy.keeps st1).keeps st
    have hg := at_mem hx3.arg.nodup hmem
    simp only [Bool.and_eq_true] at hpk
    obtain ⟨v2, he⟩ := Option.isSome_iff_exists.mp hpk.1
    have k3 : h₀.StaysIn s₃.heap := fun b o e => st _ _ (F.keep _ _ e)
    refine el_min (x := x) (y := y) (t := t) hh X3 hx3 hy3 hg he (fun p' Q' s' ks hQ => nmC_built X T₀ (fun b o e => ks _ _ (k3 _ _ e)) (by k_is) boot_min' (by decide) hQ) (fun p' Q' s' ks hQ => nmC_cell ⟨oS, ks _ _ (st _ _ (N (L + 1, oS) (by k_mem)).1), dS⟩ hQ)
      (fun p' Q' s' ks hQ => nmC_cell ⟨oO, ks _ _ (st _ _ (N (L + 1 + 1, oO) (by k_mem)).1), dO⟩ hQ) (fun p' Q' s' ks hQ => nmC_local (hn.keeps ks) hm hQ) ?_
    intro u h' tk ks
    exact ⟨⟨_, by rw [hg, he]; rfl⟩, _, _, rfl, ks⟩
  · intro D2 h₄ tk4 st4 hD2 hDa
    dsimp only at st4 hD2 ⊢
    have F4 := fr_stay F st4
    clear F
    k_steps
    refine Pays.use (new_d hDa (On.of X T₀ F4) (room_deep (H.less (by omega) (by omega)))) ?_
    intro v h₅ tk5 st5 hv
    obtain ⟨z, rfl, I⟩ := hv
    dsimp only at st5 ⊢
    have st6 : s.heap.StaysIn h₄ := fun b o e => F4.keep _ _ (gst _ _ e)
    k_steps
    refine hR _ _ _ (fun b o e => st5 _ _ (st6 _ _ e)) ⟨z, rfl, I.of st6⟩
end
end Mine
end
set_option maxHeartbeats 4000000
/- part Mk9 -/
section
namespace Mine
theorem fillMk9 : (PySem.Challenge.rw_br0041_01 = PySem.Challenge.rw_br0041_01 ∧ hd.heap_39 = hd.heap_39) := by
  k_fill
  exact ⟨rfl, rfl⟩
section
variable {prog : Program} {w : World} {A : Around} {s : Shared} {p : Program} {loose : List Str} {mean : ExcName → Option Value} {mg mb : Str → Option Value} {g : Heap}
theorem args_getattr_3 (a b c : Value) : argsOk "getattr" ⟨[a, b, c], []⟩ := by unfold argsOk; kernel_rfl
/-- getattr(an object, 'as_set', x) where neither it nor its class has the name -/
theorem getattr_miss {y : Addr} {oy od : Obj} {t : Tok} {dv : Value} {E Q : Value → Shared → Prop} (hh : A.handled = none) (X : (hd.heap_39 w.params).In s.heap) (I : InstAt s.heap y oy 348 (some od))
    (hf : findObj (hd.heap_39 w.params) 348 (some od) (Str.ofString "as_set") = some .missing) (h : ∀ h' tk, s.heap.StaysIn h' → Q dv { s with heap := h', toks := tk }) :
    wpAny (model prog w) A (call (.builtin "getattr") [.ref y, .str (Str.ofString "as_set") t, dv]) Q E s := by
  have hga : findIn (hd.heap_39 w.params) (.ref 348) "__getattribute__" = some (some (.builtin "object.__getattribute__")) := by k_is
  have hgt : findIn (hd.heap_39 w.params) (.ref 348) "__getattr__" = some none := by k_is
  have hm : subIn (hd.heap_39 w.params) (.ref 348) (.type "module") = some false := by k_is
  obtain ⟨hp, gg, d, tk, os⟩ := s
  have L0 := I.type (M := model prog w)
  have L1 := looks_findIn (M := model prog w) X hga
  have L2 := looks_findIn (M := model prog w) X hgt
  have L3 := looks_find (M := model prog w) X I hf
  have Lm : Looks (model prog w) hp (isInstance (.ref y) (.type "module")) false := L0.andThen (looks_subIn X hm)
  refine Calls.call_function_entry KB.kind_getattr KB.plain_getattr KB.entry_getattr (args_getattr_3 _ _ _) ?_
  unfold Builtin.«getattr»
  refine wpAny_bind (wpAny_of_eq (a := [.ref y, .str (Str.ofString "as_set") t, dv]) (by first | rfl | kernel_rfl) ?_)
  dsimp only
  refine wpAny_bind (wpAny_of_eq (a := ()) (by first | rfl | kernel_rfl) ?_)
  refine wpAny_bind (wpAny_of_eq (a := none) (by first | rfl | kernel_rfl) ?_)
  dsimp only
  refine wpAny_bind ?_
  k_delta "optionalOnAModule"
  refine wpAny_bind (wpAny_of_eq (a := some (Str.ofString "as_set")) (by first | rfl | kernel_rfl) ?_)
  dsimp only
  refine wpAny_bind (Lm.at ?_)
  refine wpAny_pure ?_
  rw [if_neg (by decide)]
  refine wpAny_bind ?_
  unfold getAttrBy? getAttrBy
  refine wpAny_bind (wpAny_attempt (wpAny_holding (wpAny_bind (L0.at (wpAny_bind (L1.at ?_))))))
  show wpAny _ _ (getAttrEveryday _ _ _) _ _ _
  refine wpAny_bind (wpAny_onRaise (wpAny_runValue (codeAny_builtin F.plainObj_entry_getattr_hooked ?_)))
  refine wpAny_bind (wpAny_pure (wpAny_bind (L0.at (wpAny_bind (L3.at (wpAny_bind (L2.at ?_)))))))
  show wpAny _ _ (Builtin.ObjectAttr.noSuchAttribute _ _) _ _ _
  unfold Builtin.ObjectAttr.noSuchAttribute
  obtain ⟨oC, cd, hC, hcd, hcn⟩ : ∃ oC cd, (hd.heap_39 w.params).lookup 348 = some oC ∧ oC.data = .cls cd ∧ cd.name = Str.ofString "Bag" := by
    have e : (((hd.heap_39 w.params).lookup 348).bind fun o => match o.data with | .cls c => some c.name | _ => none) = some (Str.ofString "Bag") := by kernel_rfl
    obtain ⟨o, ho, e⟩ := Option.bind_eq_some_iff.mp e
    refine ⟨o, ?_⟩
    cases hdat : o.data with
    | cls c => rw [hdat] at e; exact ⟨c, ho, rfl, Option.some.inj e⟩
    | _ => rw [hdat] at e; cases e
  refine wpAny_bind ?_
  unfold typeNameOfCut shownTypeOf
  refine wpAny_bind (wpAny_bind (L0.at ?_))
  rw [if_neg (by decide)]
  refine wpAny_pure ?_
  unfold typeNameCut classData
  refine wpAny_bind (wpAny_bind (wpAny_load (X _ _ hC) ?_))
  rw [hcd]
  refine wpAny_pure ?_
  rw [hcn]
  rw [if_pos (by decide +kernel)]
  refine wpAny_pure ?_
  refine wpAny_raiseAttrError hh ?_ ?_
  · intro h' tk' e hx
    obtain ⟨t', u', he⟩ := hx.there
    show wpAny _ _ (noteIf false _ _ _) _ _ _
    refine wpAny_pure ?_
    show wpAny _ _ (isInstance _ _ >>= _) _ _ _
    refine wpAny_bind (wpAny_isInstance (T := "AttributeError") ⟨_, he, rfl⟩ sub_AttributeError ?_)
    rw [if_pos rfl]
    refine wpAny_pure ?_
    show wpAny _ _ (if (0 == 2) = true then _ else _) _ _ _
    rw [if_neg (by decide)]
    exact wpAny_pure ⟨_, rfl, h _ _ hx.keeps⟩
  · exact attrMsg_fits (by decide +kernel) (by decide +kernel)
theorem ct_typeVal {M : Model} {h : Heap} : Looks M h (typeOf (.builtin "dict.values")) (.type "method_descriptor") := Looks.of_pure (by kernel_rfl)
/-- the elements of a counter, counted (definition 198) -/
def sumC (c : List (Int × Int)) : Int := (c.map (·.2)).sum
local macro_rules | `(tactic| walk_at "pyIter ref") => `(tactic| (k_here; refine stop_it ?_))
local macro_rules | `(tactic| walk_at "call ref") => `(tactic| (k_here; refine stop_it ?_))
local macro_rules | `(tactic| walk_at "setItem ref ref") => `(tactic| (k_here; refine stop_it ?_))
local macro_rules | `(tactic| walk_at "exec For Tuple") => `(tactic| (k_here; refine stop_it ?_))
local macro_rules | `(tactic| walk_at "getMethod ref") => `(tactic| (k_here; k_dflt (first
  | (refine' kmu_own ?k1 ?k2 ?k3 ?k4 ?k5 ?_; (case k1 => k_asm); (case k2 => k_asm); (case k3 => k_inst); (case k4 => k_is); (case k5 => k_is); k_whole)
  | (refine' method_inst ?k1 ?k2 ?k3 ?k4 ?k5 ?k6 ?k7 ?_; (case k1 => k_asm); (case k2 => k_asm); (case k3 => k_inst); (case k4 => k_is); (case k5 => k_is); (case k6 => k_is); (case k7 => k_get); k_whole))))
local macro_rules | `(tactic| walk_at "last getAttr ref") => `(tactic| (k_here; k_dflt (refine' attr_sm ?k1 ?k2 ?k4 ?k5 ?k6 ?k7 ?k9 ?k10 ?k11 ?k12 ?k13 ?k14 ?_; (case k1 => k_asm); (case k2 => k_asm); (case k4 => k_inst); (case k5 => k_is); (case k6 => k_is); (case k7 => k_is); (case k9 => k_is); (case k10 => k_is); (case k11 => decide +kernel); (case k12 => k_get); (case k13 => k_is); (case k14 => k_handed); k_whole)))
local macro_rules | `(tactic| walk_at "last eval Call Attribute") => `(tactic| (k_here; refine methodCall_S ?_))
local macro_rules | `(tactic| walk_at "eval Call Attribute") => `(tactic| (k_here; (with_reducible show wpAny _ _ (eval (Expr.Call (Expr.Attribute _ _ _) [Expr.Starred _ _] [] _) _) _ _ _); refine methodCall_S ?_))
local macro_rules | `(tactic| walk_at "call builtin:len") => `(tactic| (k_here; refine' len_TupAt ?k1 ?k2 ?_; (case k1 => k_asm); (case k2 => k_asm); intro _ _; k_whole))
local macro_rules | `(tactic| walk_at "getItem ref int") => `(tactic| (k_here; refine' getItem_TupAt ?k1 ?k2 ?k3 ?_; (case k1 => k_asm); (case k2 => k_asm); (case k3 => omega); intro _; k_whole))
local macro_rules | `(tactic| walk_at "subscriptTail") => `(tactic| (k_here; first
  | (refine' item_TupAt ?k1 ?k2 ?k3 ?_; (case k1 => k_asm); (case k2 => k_asm); (case k3 => omega); intro _; k_whole)
  | (refine' item_fn ?k1 ?k2 ?k3 ?k4 ?_; (case k1 => k_asm); (case k2 => k_mem); (case k3 => with_reducible assumption); (case k4 => omega); intro _; k_whole)))
local macro_rules | `(tactic| walk_at "call builtin:min") => `(tactic| (k_here; (with_reducible show wpAny _ _ (call (Value.builtin "min") [Value.int _ _, Value.int _ _]) _ _ _); (rename Around.handled _ = none => hX); refine' min2N hX ?k2 ?k3 ?_; (case k2 => k_asm); (case k3 => k_asm); k_whole; intro h' tk' t' F' N'))
local macro_rules | `(tactic| walk_at "call builtin:min") => `(tactic| (k_here; (with_reducible show wpAny _ _ (call (Value.builtin "min") [Value.int _ _, Value.int _ _, Value.int _ _]) _ _ _); (rename Around.handled _ = none => hX); refine' min3N hX ?k2 ?k3 ?_; (case k2 => k_asm); (case k3 => k_asm); k_whole; intro h' tk' t' F' N'))
local macro_rules | `(tactic| walk_at "call builtin:min") => `(tactic| (k_here; (with_reducible show wpAny _ _ (call (Value.builtin "min") [Value.int _ _, Value.int _ _, Value.int _ _, Value.int _ _]) _ _ _); (rename Around.handled _ = none => hX); refine' min4N hX ?k2 ?k3 ?_; (case k2 => k_asm); (case k3 => k_asm); k_whole; intro h' tk' t' F' N'))
local macro_rules | `(tactic| walk_at "setItem ref int int") => `(tactic| (k_here; refine' setItem_fn ?k1 ?k2 ?k3 ?k4 ?k5 ?_; (case k1 => k_asm); (case k2 => k_asm); (case k3 => k_upd); (case k4 => with_reducible assumption); (case k5 => omega); k_whole; intro h' F' N' i'))
local macro_rules | `(tactic| walk_at "assign Tuple") => `(tactic| (k_here; (with_reducible show wpAny _ _ (assign (Expr.Tuple _ _ _) _ (Value.ref _)) _ _ _); k_dflt (refine' kun_list ?k1 ?k2 ?k3 ?k4 ?k5 ?k6 ?_; (case k1 => k_asm); (case k2 => k_asm); (case k3 => kun_lst); (case k4 => assumption); (case k5 => exact rfl); (case k6 => exact rfl); k_whole); intro h' F' N'; (try k_sweep)))
local macro_rules | `(tactic| walk_at "assign Tuple") => `(tactic| (k_here; (with_reducible show wpAny _ _ (assign (Expr.Tuple _ _ _) _ (Value.ref _)) _ _ _); k_dflt (refine' unpackN_ ?k1 ?k2 ?k3 ?k4 ?k5 ?k6 ?_; (case k1 => k_asm); (case k2 => k_asm); (case k3 => kun_tup); (case k4 => assumption); (case k5 => exact rfl); (case k6 => exact rfl); k_whole); intro h' F' N'; (try k_sweep)))
local macro_rules | `(tactic| walk_at "unpackItems ref") => `(tactic| (k_here; k_dflt (refine' unpackItemsN_ ?k1 ?k2 ?k3 ?k4 ?k5 ?_; (case k1 => k_asm); (case k2 => k_asm); (case k3 => kun_tup); (case k4 => assumption); (case k5 => exact rfl); k_whole); intro h' F' N'; (try k_sweep)))
local macro_rules | `(tactic| walk_at "call type:list") => `(tactic| (k_here; refine' list_range_N ?k0 ?k1 ?k2 ?k3 ?k4 ?k5 ?k6 ?_; (case k1 => k_asm); (case k2 => k_asm); (case k0 => assumption); (case k3 => assumption); (case k4 => omega); (case k5 => exact small_one (by omega) (by omega) (by omega) (by omega)); (case k6 => omega); intro D' h' tk' vs' k' F' N' l1 i1; (try k_lt l1)))
local macro_rules | `(tactic| k_ne) => `(tactic| first | with_reducible assumption | (refine Ne.symm ?_; with_reducible assumption) | (refine neN ?_; (try dsimp only); omega))
local macro_rules | `(tactic| walk_at "getMethod ref") => `(tactic| (k_here; refine stop_it ?_))
local macro_rules | `(tactic| walk_at "call builtin:dict.values") => `(tactic| (k_here; refine stop_it ?_))
local macro_rules | `(tactic| walk_at "call builtin:sum") => `(tactic| (k_here; refine stop_it ?_))
local macro_rules | `(tactic| walk_at "call builtin:getattr") => `(tactic| (k_here; refine stop_it ?_))
theorem ct_count {y dy x : Addr} {t0 t1 : Tok} {c : List (Int × Int)} (I : Inst g s.heap y 348 dy (base348At w t0 t1) 2) (hx : CtNew prog w g s.heap x c) (O : On w p loose mean mg mb g s.heap) (H : Room A 2 40) :
    Pays prog w A (.call (.ref 198) ⟨[.ref y, .ref x], []⟩) s (fun v h' => ∃ t, v = .int (sumC c) t) := by
  w_on
  intro R hR
  have lt := I.lt
  obtain ⟨dx, ⟨o, ep, ho, ob, hdx, _, hs⟩, nx, ndx, ltx⟩ := hx
  refine' enterG [(y, instObj 348 dy), (dy, dictOf (base348At w t0 t1) 2), (x, o), (dx, emptyDict)] (binds := [(Str.ofString "self", .ref y), (Str.ofString "counter", .ref x)]) O ?hg ?hown ?ho ?hcd ?hroom ?hb ?hl ?body ?hcell ?c1 ?c2 ?c3
  (case hg => exact List.forall_mem_cons.mpr ⟨I.nx, List.forall_mem_cons.mpr ⟨I.nd, List.forall_mem_cons.mpr ⟨nx, List.forall_mem_cons.mpr ⟨ndx, fun _ h => nomatch h⟩⟩⟩⟩)
  (case hown => exact List.forall_mem_cons.mpr ⟨I.o, List.forall_mem_cons.mpr ⟨I.d, List.forall_mem_cons.mpr ⟨ho, List.forall_mem_cons.mpr ⟨hdx, fun _ h => nomatch h⟩⟩⟩⟩)
  (case ho => k_is)
  (case hcd => k_is)
  (case hroom => have := Room.dp (by assumption); omega)
  (case hl => exact locs rfl)
  (case hcell => decide)
  (case c1 => exact rfl)
  (case c2 => exact rfl)
  (case c3 => exact rfl)
  (case hb => first | exact BindsTo.of_eq rfl | exact kp_binds (O.k.keeps O.st) (fun _ => rfl))
  intro h₀ L h₁ gst X T back F N
  (try k_fold)
  have hh := H.hh
  k_steps
  rename News _ _ _ _ => N
  rename Fr _ _ _ _ => F
  refine' getattr_miss (oy := instObj 348 dy) (od := dictOf (base348At w t0 t1) 2) hh ?a ?b ?c ?_
  (case a => exact X.keeps F.keep)
  (case b => exact InstAt.of_news N (by k_mem) (by k_mem))
  (case c => rfl)
  intro h₂ tk2 st2
  dsimp only at st2 ⊢
  have F2 := fr_stay F st2
  have N2 := news_stay N st2
  clear F N
  k_steps
  rename News _ _ _ _ => N
  rename Fr _ _ _ _ => F
  refine' d_method (o := o) (dx := dx) (f := .builtin "dict.values") (tf := .type "method_descriptor") ?X ?a ?b ?b2 ?b3 ?c ?d ?e ?_
  (case X => exact X.keeps F.keep)
  (case a => exact (N (x, o) (by k_mem)).1)
  (case b => exact ob.cls)
  (case b2 => exact ob.dict)
  (case b3 => exact (N (dx, emptyDict) (by k_mem)).1)
  (case c => exact cs_values.find)
  (case d => exact ct_typeVal)
  (case e => exact .inr rfl)
  k_steps
  rename News _ _ _ _ => N
  rename Fr _ _ _ _ => F
  refine d_callValues (X.keeps F.keep) hs (N (x, o) (by k_mem)).1 (.inr ob.cls) ?_
  have F3 := F.push { cls := .type "dict_values", data := .fields #[.ref x] }
  have N3 := N.push F { cls := .type "dict_values", data := .fields #[.ref x] }
  clear F N
  k_steps
  rename News _ _ _ _ => N
  rename Fr _ _ _ _ => F
  refine d_sum hh ⟨_, (N (h₂.objs.size, _) (.head _)).1, rfl, rfl⟩ (N (x, o) (by k_mem)).1 (.inr ob.cls) ob.ob ?_
  intro h₃ tk3 u3 st3
  dsimp only at st3 ⊢
  have F3 := fr_stay F st3
  have st4 := back.keep _ F3.keep (List.forall_mem_cons.mpr ⟨st3 _ _ (N (y, instObj 348 dy) (by k_mem)).1, List.forall_mem_cons.mpr ⟨st3 _ _ (N (dy, dictOf (base348At w t0 t1) 2) (by k_mem)).1, List.forall_mem_cons.mpr ⟨st3 _ _ (N (x, o) (by k_mem)).1, List.forall_mem_cons.mpr ⟨st3 _ _ (N (dx, emptyDict) (by k_mem)).1, fun _ h => nomatch h⟩⟩⟩⟩)
  clear F N
  k_steps
  exact hR _ _ _ st4 ⟨_, rfl⟩
end
end Mine
end
set_option maxHeartbeats 4000000
/- part Mq -/
section
namespace Mine
theorem fillMq : (PySem.Challenge.rw_br0041_01 = PySem.Challenge.rw_br0041_01 ∧ hd.heap_39 = hd.heap_39) := by
  k_fill
  exact ⟨rfl, rfl⟩
section
variable {prog : Program} {w : World} {A : Around} {s : Shared} {p : Program} {loose : List Str} {mean : ExcName → Option Value} {mg mb : Str → Option Value} {g : Heap}
def tupPick (items : Array Value) (lo hi : Option Int) : Array Value :=
  ((List.range (Builtin.Slice.slicePlaces (Builtin.Slice.sliceAdjust lo hi 1 items.size).1 (Builtin.Slice.sliceAdjust lo hi 1 items.size).2 1)).filterMap fun (k : Nat) => items[((Builtin.Slice.sliceAdjust lo hi 1 items.size).1 + (k : Int) * 1).toNat]?).toArray
theorem part_index {M : Model} {E : Value → Shared → Prop} {v : Value} {k : Option Int} {Q : Option Int → Shared → Prop} (hv : IsPart v k) (h : Q k s) : wpAny M A (Builtin.Slice.slicePartIndex v) Q E s := by
  cases hv with
  | none => exact wpAny_pure h
  | int i t =>
    unfold Builtin.Slice.slicePartIndex
    rw [if_neg (show ¬ ((Value.int i t == Value.none) = true) from Bool.false_ne_true)]
    refine wpAny_bind (wpAny_specialOf (T := "int") (typeIs_int s i t) int_index ?_)
    simp only [Option.isNone_some, Bool.false_eq_true, if_false]
    exact wpAny_bind (wpAny_of_eq (a := i) rfl (wpAny_pure h))
theorem pick_list {α : Type} (l : List α) : ((List.range l.length).filterMap fun k => l[k]?) = l := by
  induction l with
  | nil => rfl
  | cons x r ih =>
    rw [List.length_cons, List.range_succ_eq_map, List.filterMap_cons, List.filterMap_map]
    simp only [List.getElem?_cons_zero]
    congr 1
theorem pick_all (items : Array Value) : ((List.range items.size).filterMap fun (k : Nat) => items[(0 + (k : Int) * 1).toNat]?).toArray = items := by
  have e : ((List.range items.size).filterMap fun (k : Nat) => items[(0 + (k : Int) * 1).toNat]?) = items.toList := by
    rw [← pick_list items.toList, Array.length_toList]
    congr 1
    funext k
    have : (0 + (k : Int) * 1).toNat = k := by omega
    rw [this, Array.getElem?_toList]
  rw [e]
/-- a slice of a tuple -/
theorem tup_slice {E Q : Value → Shared → Prop} {t sl : Addr} {items : Array Value} {vl vu : Value} {lo hi : Option Int} (ht : IsTup s.heap t items) (hs : s.heap.IsSliceOf sl vl vu .none) (pl : IsPart vl lo) (pu : IsPart vu hi)
    (h1 : tupPick items lo hi = items → Q (.ref t) s) (h2 : Q (.ref s.heap.objs.size) { s with heap := s.heap.push { cls := .type "tuple", data := .seq (tupPick items lo hi) } }) (hz : (tupPick items lo hi).size ≤ sizeLine) :
    wpAny (model prog w) A (getItem (.ref t) (.ref sl)) Q E s := by
  obtain ⟨o, ho, hc, n, hd⟩ := id ht
  obtain ⟨os, hos, hcs, hds⟩ := id hs
  have hTs : s.TypeIs (.ref sl) "slice" := ⟨os, hos, hcs⟩
  have hTt : s.TypeIs (.ref t) "tuple" := ⟨o, ho, hc⟩
  unfold getItem
  try with_reducible refine wpAny_holding ?_
  first | refine wpAny_bind (wpAny_pure ?_) | skip
  refine wpAny_bind (wpAny_sequenceKey hTt (by decide) ?_)
  refine wpAny_bind (wpAny_callSpecial?_slot (name := Str.ofString "__getitem__") hTt slot_tuple_getitem
    (wpAny_call_entry slot_tuple_getitem hTt entry_tuple_getitem ?_ (args_tuple_getitem _ _)))
  show wpAny _ _ (Builtin.Tuple.tupleItemsOf (.ref t) >>= _) _ _ s
  unfold Builtin.Tuple.tupleItemsOf
  refine wpAny_bind (wpAny_bind (wpAny_seqItems ho hd (wpAny_pure ?_)))
  refine wpAny_bind (wpAny_typeOf hTs ?_)
  rw [if_pos (by decide)]
  unfold Builtin.Slice.sliceApplied Builtin.Slice.sliceFields
  refine wpAny_bind (wpAny_bind (wpAny_bind (wpAny_field hos hds (x := vl) rfl (wpAny_bind (wpAny_field hos hds (x := vu) rfl (wpAny_bind (wpAny_field hos hds (x := .none) rfl (wpAny_pure ?_))))))))
  dsimp only
  refine wpAny_bind (part_index .none ?_)
  rw [if_neg (by decide)]
  refine wpAny_bind (part_index pl (wpAny_bind (part_index pu (wpAny_bind (wpAny_pure ?_)))))
  refine wpAny_pure ?_
  simp only [Option.getD_none]
  generalize hp : Builtin.Slice.sliceAdjust lo hi 1 (items.size : Int) = pr at *
  have hpick : tupPick items lo hi = ((List.range (Builtin.Slice.slicePlaces pr.1 pr.2 1)).filterMap fun (k : Nat) => items[(pr.1 + (k : Int) * 1).toNat]?).toArray := by unfold tupPick; rw [hp]
  rw [hpick] at h1 h2 hz
  split
  · rename_i hw
    simp only [Bool.and_eq_true, beq_iff_eq] at hw
    refine wpAny_bind ?_
    unfold Builtin.Tuple.tupleIsExact
    refine wpAny_bind (wpAny_typeOf hTt (wpAny_pure ?_))
    rw [if_pos (by decide)]
    refine wpAny_bind (wpAny_rule (wpAny_pure ⟨_, rfl, wpAny_pure (h1 ?_)⟩))
    rw [hw.2, hw.1.1]
    exact pick_all items
  · exact wpAny_bind (wpAny_newObj_type (wpAny_pure ⟨_, rfl, wpAny_pure h2⟩) hz)
theorem IsTup.keep {h h' : Heap} {a : Addr} {its : Array Value} (x : IsTup h a its) (k : h.StaysIn h') : IsTup h' a its := let ⟨o, e, r⟩ := x; ⟨o, k _ _ e, r⟩
theorem slice_tup {E Q : Value → Shared → Prop} {h₀ : Heap} {L t : Addr} {m : Str → Option Value} {news : List (Addr × Obj)} {value slice : Expr} {items : Array Value} {vl vu : Value} {lo hi : Option Int} (F : Fr h₀ L s.heap m) (N : News h₀ L s.heap news) (ht : IsTup s.heap t items) (pl : IsPart vl lo) (pu : IsPart vu hi)
    (h1 : tupPick items lo hi = items → ∀ h', s.heap.StaysIn h' → Fr h₀ L h' m → News h₀ L h' news → Q (.ref t) { s with heap := h' })
    (h2 : ∀ D h', s.heap.StaysIn h' → Fr h₀ L h' m → News h₀ L h' ((D, { cls := .type "tuple", data := .seq (tupPick items lo hi) }) :: news) → (∀ p ∈ news, p.1 < D) → Q (.ref D) { s with heap := h' })
    (hs : subscripted slice false (.ref t) (.ref s.heap.objs.size) = operate [.ref s.heap.objs.size, .ref t] (getItem (.ref t) (.ref s.heap.objs.size)) := by with_unfolding_all rfl)
    (ht' : ∀ r, letTemporaryGo value (.ref t) r = pure () := by intro _; with_unfolding_all rfl)
    (hsz : (tupPick items lo hi).size ≤ sizeLine) :
    wpAny (model prog w) A (subscriptTail value slice (.ref t) (.ref s.heap.objs.size)) Q E { s with heap := s.heap.push { cls := .type "slice", data := .fields #[vl, vu, .none] } } := by
  have k : s.heap.StaysIn (s.heap.push { cls := .type "slice", data := .fields #[vl, vu, .none] }) := fun b o e => Heap.get?_push_of_some _ e
  obtain ⟨o, ho, hc, _⟩ := id ht
  refine subscriptTail_ops (T := "tuple") (id := "tuple.__getitem__") ⟨o, k _ _ ho, hc⟩ slot_tuple_getitem.lookup
    (tup_slice (IsTup.keep ht k) (Heap.IsSliceOf.new ..) pl pu (fun e => ?_) ?_ hsz) hs ht'
  · exact h1 e _ k (F.push _) (N.grown k)
  · have N1 := News.push (F.push { cls := .type "slice", data := .fields #[vl, vu, .none] }) (N.grown k) { cls := .type "tuple", data := .seq (tupPick items lo hi) }
    rw [Heap.size_push] at N1
    show Q (.ref (s.heap.push _).objs.size) _
    rw [Heap.size_push]
    exact h2 _ _ (fun b o e => Heap.get?_push_of_some _ (k b o e)) ((F.push _).push _) N1 fun p hp => Nat.lt_succ_of_lt (Heap.lt_size (N p hp).1)
end
end Mine
end
set_option maxHeartbeats 4000000
/- part Mk10 -/
section
namespace Mine
theorem fillMk10 : (PySem.Challenge.rw_br0041_01 = PySem.Challenge.rw_br0041_01 ∧ hd.heap_39 = hd.heap_39) := by
  k_fill
  exact ⟨rfl, rfl⟩
section
variable {prog : Program} {w : World} {A : Around} {s : Shared} {p : Program} {loose : List Str} {mean : ExcName → Option Value} {mg mb : Str → Option Value} {g : Heap}
theorem pick_last (a b : Value) : tupPick #[a, b] (some 1) none = #[b] := by
  have e : Builtin.Slice.sliceAdjust (some 1) none 1 ((#[a, b] : Array Value).size : Int) = (1, 2) := by
    show Builtin.Slice.sliceAdjust (some 1) none 1 ((2 : Nat) : Int) = _
    decide
  have e2 : Builtin.Slice.slicePlaces 1 2 1 = 1 := by decide
  unfold tupPick
  rw [e]
  dsimp only
  rw [e2]
  rfl
abbrev tup1 (v : Value) : Obj := { cls := .type "tuple", data := .seq #[v] }
/-- the end of the one turn -/
def OneEnd (h₀ : Heap) (L I D2 : Addr) (ob oD : Obj) (Q : Flow → Shared → Prop) (s s₁ : Shared) (f : Flow) (s₂ : Shared) : Prop :=
  f = .next ∧ ∃ h' tk' m' news', s₂ = { s₁ with heap := h', toks := tk' } ∧ Fr h₀ L h' m' ∧ News h₀ L h' ((I, ob) :: (D2, oD) :: news') ∧ (∀ p ∈ news', p.1 ≠ I) ∧ ∀ h'' tk'', Fr h₀ L h'' m' → News h₀ L h'' news' → Q .next { s with heap := h'', toks := tk'' }
/-- for x in a new tuple of one item -/
theorem loop_one {env : Env} {h₀ : Heap} {x : Str} {body : List Stmt} {Q : Flow → Shared → Prop} {E : Value → Shared → Prop} {D2 : Addr} {v : Value} {m : Str → Option Value} {news : List (Addr × Obj)} (hh : A.handled = none) (F : Fr h₀ env.locals s.heap m) (N : News h₀ env.locals s.heap ((D2, tup1 v) :: news))
    (turn : ∀ I ob oD s₁, @Ne Nat D2 I → (∀ p ∈ news, p.1 ≠ I) → Fr h₀ env.locals s₁.heap (fun y => if y = x then some v else m y) → News h₀ env.locals s₁.heap ((I, ob) :: (D2, oD) :: news) →
      wpAny (model prog w) A (execs body env) (OneEnd h₀ env.locals I D2 ob oD Q s s₁) E s₁) :
    wpAny (model prog w) A (pyIter (.ref D2)) (fun it s₂ => LoopAtU prog w A h₀ env x body Q E it s₂) E s := by
  have ⟨hD, hDL, hDn⟩ := N _ (.head _)
  have hts : IsTup s.heap D2 #[v] := ⟨_, hD, rfl, 0, rfl⟩
  have hLs : env.locals < s.heap.objs.size := F.ns.lt
  have hab : h₀.objs.size ≤ env.locals := F.above
  have l1 : D2 ≠ s.heap.objs.size := Nat.ne_of_lt (Heap.lt_size hD)
  have hLI : env.locals ≠ s.heap.objs.size := Nat.ne_of_lt hLs
  have hnI : ∀ p ∈ news, p.1 ≠ s.heap.objs.size := fun p hp => Nat.ne_of_lt (Heap.lt_size (N p (.tail _ hp)).1)
  refine wpAny_pyIter_tuple hts ?_
  have W := Walks.tuple (prog := prog) (w := w) (A := A) hh s.heap.objs.size D2 l1 #[v]
  refine ⟨s.heap.objs.size, _, [s.heap.objs.size], 1, _, _, m, news, (fun i m' news' => (i = 0 ∧ m' = m ∧ news' = news) ∨ (i = 1 ∧ ∀ h'' tk'', Fr h₀ env.locals h'' m' → News h₀ env.locals h'' news' → Q .next { s with heap := h'', toks := tk'' })), rfl, W, ?_, ?_, ?_, ?_, F.push _, fun p hp => ⟨Heap.get?_push_of_some _ (N p (.tail _ hp)).1, (N p (.tail _ hp)).2⟩, .inl ⟨rfl, rfl, rfl⟩, ?_, ?_⟩
  · intro hm
    rcases List.mem_cons.mp hm with e | e
    · exact hLI e
    · exact hDL (List.mem_singleton.mp e).symm
  · intro b hb
    rw [List.mem_singleton.mp hb]
    exact next_is_new F
  · intro p hp hm
    exact hnI p hp (List.mem_singleton.mp hm)
  · exact ⟨⟨_, Heap.get?_push_size _ rfl, rfl, rfl⟩, Heap.IsTuple.at hts fun o e => Heap.get?_push_of_some _ e⟩
  · rintro i v' m₁ nx s₁ own hin hP hJ hoff hsub hget hown hst₁ F₁ N₁
    have hi0 : i = 0 := by omega
    obtain ⟨⟨ob, hob, _⟩, oD, hoD, _⟩ := hst₁
    have hmI := hown _ (List.mem_cons_self ..) (next_is_new F) ob hob
    have hmD := hown D2 (by simp) hDn oD hoD
    have only : ∀ q ∈ own, q = (s.heap.objs.size, ob) ∨ q = (D2, oD) := fun q hq => by
      have g := hget q hq
      rcases List.mem_cons.mp (hsub q hq) with e | e
      · rw [e, hob] at g
        exact .inl (Prod.ext e (Option.some.inj g).symm)
      · have e := List.mem_singleton.mp e
        rw [e, hoD] at g
        exact .inr (Prod.ext e (Option.some.inj g).symm)
    rcases hJ with ⟨h0, hm, hnx⟩ | ⟨hc, -⟩
    · rw [hm] at F₁
      rw [hnx] at N₁ hoff
      have hv : v' = v := by rw [hi0] at hP; simpa using hP.symm
      rw [hv] at F₁
      have N₂ : News h₀ env.locals s₁.heap ((s.heap.objs.size, ob) :: (D2, oD) :: news) := fun q hq => by
        rcases List.mem_cons.mp hq with rfl | hq
        · exact N₁ _ (List.mem_append_left _ hmI)
        · rcases List.mem_cons.mp hq with rfl | hq
          · exact N₁ _ (List.mem_append_left _ hmD)
          · exact N₁ _ (List.mem_append_right _ hq)
      refine wpAny_mono (turn s.heap.objs.size ob oD s₁ l1 hnI F₁ N₂) (fun f s₂ p => ?_) fun _ _ e => e
      obtain ⟨rfl, h', tk', m', news', rfl, F', N', off', q⟩ := p
      refine .intro F' (fun p hp => ?_) (fun p hp hm => off' p hp (List.mem_singleton.mp hm)) (.inr ⟨by omega, q⟩)
      rcases List.mem_append.mp hp with hp | hp
      · rcases only p hp with rfl | rfl
        · exact N' _ (.head _)
        · exact N' _ (.tail _ (.head _))
      · exact N' _ (.tail _ (.tail _ hp))
    · omega
  · rintro h' tk m' nx F' N' _ (⟨hc, -⟩ | ⟨-, hq⟩)
    · cases hc
    · exact hq h' tk F' N'
theorem CtFull.inst {h : Heap} {x dx : Addr} {c : List (Int × Int)} (I : CtFull prog w h x dx c) : ∃ ox od, InstAt h x ox CtC (some od) := by
  obtain ⟨o, ep, a, b, i, j⟩ := I
  obtain ⟨es, kvs, hdat, _⟩ := b.ob
  exact ⟨o, emptyDict, a, b.cls, by unfold notCls; rw [hdat], by rw [b.dict]; exact i⟩
/-- a &= b, two counters -/
theorem ct_iand {h₀ : Heap} {L : Addr} {m : Str → Option Value} {x y : Addr} {c e : List (Int × Int)} {E Q : Value → Shared → Prop} (F : Fr h₀ L s.heap m) (X₀ : (hd.heap_39 w.params).In h₀) (hx : CtAt prog w s.heap x c) (hy : CtAt prog w s.heap y e)
    (h : wpAny (model prog w) A (call (.ref 49) [.ref x, .ref y]) (W.CmpBack Q) E s) : wpAny (model prog w) A (inplaceOp .BitAnd (.ref x) (.ref y)) Q E s := by
  have X := X₀.keeps F.keep
  obtain ⟨_, hx⟩ := hx
  obtain ⟨_, hy⟩ := hy
  obtain ⟨ox, od, I⟩ := hx.inst
  obtain ⟨oy, oe, J⟩ := hy.inst
  have hc : selfFirst (hd.heap_39 w.params) CtC = true := by k_is
  have hs : findIn (hd.heap_39 w.params) (.ref CtC) (PySem.dunder Operator.BitAnd.info.2) = some (some (.ref 49)) := by k_is
  have hf : isFn (hd.heap_39 w.params) (.ref 49) = true := by k_is
  obtain ⟨cd, hcd, hm⟩ := any_some hc
  obtain ⟨rest, hm⟩ : ∃ rest, cd.mro = .ref CtC :: rest := by
    cases q : cd.mro with
    | nil => rw [q] at hm; cases hm
    | cons a r => rw [q] at hm; exact ⟨r, by rw [List.head?_cons] at hm; cases (beq_iff_eq.mp hm); rfl⟩
  have hmro : cd.mro = [.ref CtC, .type "dict", .type "object"] := by
    have q : (clsIn (hd.heap_39 w.params) CtC).map (·.mro) = some [.ref CtC, .type "dict", .type "object"] := by kernel_rfl
    rw [hcd] at q; exact Option.some.inj q
  have n1 : findIn (hd.heap_39 w.params) (.ref CtC) (dunderI Operator.BitAnd.info.2) = some none := by k_is
  have n2 : typeLookup (.type "dict") (dunderI Operator.BitAnd.info.2) = pure none := by rw [typeLookup_type, builtinLookup_eq_fast]; kernel_rfl
  have n3 : typeLookup (.type "object") (dunderI Operator.BitAnd.info.2) = pure none := by rw [typeLookup_type, builtinLookup_eq_fast]; kernel_rfl
  unfold inplaceOp
  refine wpAny_holding ?_
  refine wpAny_bind (I.type.here ?_)
  refine wpAny_bind ?_
  · unfold fillsInplaceSlot
    refine wpAny_bind ((looks_clsIn X hcd).andThen (f := fun cd => pure cd.mro) .now A _ E s (fun _ _ e => e) ?_)
    rw [hmro, List.anyM_cons]
    refine wpAny_bind (wpAny_bind ((looks_findIn X n1).here (wpAny_pure ?_)))
    simp only [Bool.false_eq_true, if_false]
    rw [List.anyM_cons]
    refine wpAny_bind (wpAny_bind ?_)
    rw [n2]
    refine wpAny_pure (wpAny_pure ?_)
    simp only [Bool.false_eq_true, if_false]
    rw [List.anyM_cons]
    refine wpAny_bind (wpAny_bind ?_)
    rw [n3]
    refine wpAny_pure (wpAny_pure ?_)
    simp only [Bool.false_eq_true, if_false, List.anyM_nil]
    refine wpAny_pure ?_
    simp only [Bool.false_eq_true, if_false]
    refine wpAny_bind ?_
    unfold binaryOp1
    refine wpAny_bind (I.type.here (wpAny_bind (J.type.here (wpAny_bind ((fills_K X hcd hm hs).here ?_)))))
    simp only [beq_self_eq_true, if_true]
    refine wpAny_bind (wpAny_pure ?_)
    simp only [Bool.and_false, Bool.false_eq_true, if_false, Bool.false_and]
    refine wpAny_bind (wpAny_pure ?_)
    simp only [Bool.false_eq_true, if_false]
    refine wpAny_bind (m := tryMethod (.ref x) _ (.ref y)) ?_
    unfold tryMethod
    refine wpAny_bind (special_fn X I hs (beq_iff_eq.mp hf) (wpAny_mono h (fun v s' hv => ?_) fun _ _ e => e))
    cases v <;> first | exact hv.elim | exact wpAny_pure (wpAny_pure (wpAny_pure hv))
local macro_rules | `(tactic| walk_at "pyIter ref") => `(tactic| (k_here; refine stop_it ?_))
local macro_rules | `(tactic| walk_at "call ref") => `(tactic| (k_here; refine stop_it ?_))
local macro_rules | `(tactic| walk_at "setItem ref ref") => `(tactic| (k_here; refine stop_it ?_))
local macro_rules | `(tactic| walk_at "exec For Tuple") => `(tactic| (k_here; refine stop_it ?_))
local macro_rules | `(tactic| walk_at "getMethod ref") => `(tactic| (k_here; k_dflt (first
  | (refine' kmu_own ?k1 ?k2 ?k3 ?k4 ?k5 ?_; (case k1 => k_asm); (case k2 => k_asm); (case k3 => k_inst); (case k4 => k_is); (case k5 => k_is); k_whole)
  | (refine' method_inst ?k1 ?k2 ?k3 ?k4 ?k5 ?k6 ?k7 ?_; (case k1 => k_asm); (case k2 => k_asm); (case k3 => k_inst); (case k4 => k_is); (case k5 => k_is); (case k6 => k_is); (case k7 => k_get); k_whole))))
local macro_rules | `(tactic| walk_at "last getAttr ref") => `(tactic| (k_here; k_dflt (refine' attr_sm ?k1 ?k2 ?k4 ?k5 ?k6 ?k7 ?k9 ?k10 ?k11 ?k12 ?k13 ?k14 ?_; (case k1 => k_asm); (case k2 => k_asm); (case k4 => k_inst); (case k5 => k_is); (case k6 => k_is); (case k7 => k_is); (case k9 => k_is); (case k10 => k_is); (case k11 => decide +kernel); (case k12 => k_get); (case k13 => k_is); (case k14 => k_handed); k_whole)))
local macro_rules | `(tactic| walk_at "last eval Call Attribute") => `(tactic| (k_here; refine methodCall_S ?_))
local macro_rules | `(tactic| walk_at "eval Call Attribute") => `(tactic| (k_here; (with_reducible show wpAny _ _ (eval (Expr.Call (Expr.Attribute _ _ _) [Expr.Starred _ _] [] _) _) _ _ _); refine methodCall_S ?_))
local macro_rules | `(tactic| walk_at "call builtin:len") => `(tactic| (k_here; refine' len_TupAt ?k1 ?k2 ?_; (case k1 => k_asm); (case k2 => k_asm); intro _ _; k_whole))
local macro_rules | `(tactic| walk_at "getItem ref int") => `(tactic| (k_here; refine' getItem_TupAt ?k1 ?k2 ?k3 ?_; (case k1 => k_asm); (case k2 => k_asm); (case k3 => omega); intro _; k_whole))
local macro_rules | `(tactic| walk_at "subscriptTail") => `(tactic| (k_here; first
  | (refine' item_TupAt ?k1 ?k2 ?k3 ?_; (case k1 => k_asm); (case k2 => k_asm); (case k3 => omega); intro _; k_whole)
  | (refine' item_fn ?k1 ?k2 ?k3 ?k4 ?_; (case k1 => k_asm); (case k2 => k_mem); (case k3 => with_reducible assumption); (case k4 => omega); intro _; k_whole)))
local macro_rules | `(tactic| walk_at "call builtin:min") => `(tactic| (k_here; (with_reducible show wpAny _ _ (call (Value.builtin "min") [Value.int _ _, Value.int _ _]) _ _ _); (rename Around.handled _ = none => hX); refine' min2N hX ?k2 ?k3 ?_; (case k2 => k_asm); (case k3 => k_asm); k_whole; intro h' tk' t' F' N'))
local macro_rules | `(tactic| walk_at "call builtin:min") => `(tactic| (k_here; (with_reducible show wpAny _ _ (call (Value.builtin "min") [Value.int _ _, Value.int _ _, Value.int _ _]) _ _ _); (rename Around.handled _ = none => hX); refine' min3N hX ?k2 ?k3 ?_; (case k2 => k_asm); (case k3 => k_asm); k_whole; intro h' tk' t' F' N'))
local macro_rules | `(tactic| walk_at "call builtin:min") => `(tactic| (k_here; (with_reducible show wpAny _ _ (call (Value.builtin "min") [Value.int _ _, Value.int _ _, Value.int _ _, Value.int _ _]) _ _ _); (rename Around.handled _ = none => hX); refine' min4N hX ?k2 ?k3 ?_; (case k2 => k_asm); (case k3 => k_asm); k_whole; intro h' tk' t' F' N'))
local macro_rules | `(tactic| walk_at "setItem ref int int") => `(tactic| (k_here; refine' setItem_fn ?k1 ?k2 ?k3 ?k4 ?k5 ?_; (case k1 => k_asm); (case k2 => k_asm); (case k3 => k_upd); (case k4 => with_reducible assumption); (case k5 => omega); k_whole; intro h' F' N' i'))
local macro_rules | `(tactic| walk_at "assign Tuple") => `(tactic| (k_here; (with_reducible show wpAny _ _ (assign (Expr.Tuple _ _ _) _ (Value.ref _)) _ _ _); k_dflt (refine' kun_list ?k1 ?k2 ?k3 ?k4 ?k5 ?k6 ?_; (case k1 => k_asm); (case k2 => k_asm); (case k3 => kun_lst); (case k4 => assumption); (case k5 => exact rfl); (case k6 => exact rfl); k_whole); intro h' F' N'; (try k_sweep)))
local macro_rules | `(tactic| walk_at "assign Tuple") => `(tactic| (k_here; (with_reducible show wpAny _ _ (assign (Expr.Tuple _ _ _) _ (Value.ref _)) _ _ _); k_dflt (refine' unpackN_ ?k1 ?k2 ?k3 ?k4 ?k5 ?k6 ?_; (case k1 => k_asm); (case k2 => k_asm); (case k3 => kun_tup); (case k4 => assumption); (case k5 => exact rfl); (case k6 => exact rfl); k_whole); intro h' F' N'; (try k_sweep)))
local macro_rules | `(tactic| walk_at "unpackItems ref") => `(tactic| (k_here; k_dflt (refine' unpackItemsN_ ?k1 ?k2 ?k3 ?k4 ?k5 ?_; (case k1 => k_asm); (case k2 => k_asm); (case k3 => kun_tup); (case k4 => assumption); (case k5 => exact rfl); k_whole); intro h' F' N'; (try k_sweep)))
local macro_rules | `(tactic| walk_at "call type:list") => `(tactic| (k_here; refine' list_range_N ?k0 ?k1 ?k2 ?k3 ?k4 ?k5 ?k6 ?_; (case k1 => k_asm); (case k2 => k_asm); (case k0 => assumption); (case k3 => assumption); (case k4 => omega); (case k5 => exact small_one (by omega) (by omega) (by omega) (by omega)); (case k6 => omega); intro D' h' tk' vs' k' F' N' l1 i1; (try k_lt l1)))
local macro_rules | `(tactic| k_ne) => `(tactic| first | with_reducible assumption | (refine Ne.symm ?_; with_reducible assumption) | (refine neN ?_; (try dsimp only); omega))
local macro_rules | `(tactic| walk_at "getMethod ref") => `(tactic| (k_here; refine stop_it ?_))
theorem ct_inter {y x1 x2 : Addr} {c e : List (Int × Int)} (hx : CtAt prog w s.heap x1 c) (hy : CtAt prog w s.heap x2 e) (O : On w p loose mean mg mb g s.heap) (H : Room A 12 120) :
    Pays prog w A (.call (.ref 177) ⟨[.ref y, .ref x1, .ref x2], []⟩) s (fun v h' => ∃ z, v = .ref z ∧ CtNew prog w s.heap h' z (andC c e)) := by
  w_top off
  intro R hR
  have O' : On w p loose mean mg mb s.heap s.heap := ⟨O.k.keeps O.st, O.t.keeps O.st, fun _ _ e => e⟩
  clear O
  rename On w p loose mean mg mb s.heap s.heap => O
  refine' enterRG [] (vs := [.ref x1, .ref x2]) (bindsR := fun D => [(Str.ofString "self", .ref y), (Str.ofString "sequences", .ref D)]) O ?hg ?hown ?ho ?hcd ?hroom ?hv ?hp ?hgr ?hl ?body ?hcell ?c1 ?c2 ?c3
  (case hg => exact fun _ h => nomatch h)
  (case hown => exact fun _ h => nomatch h)
  (case ho => k_is)
  (case hcd => k_is)
  (case hroom => have := Room.dp (by assumption); omega)
  (case hl => exact fun _ => locs rfl)
  (case hcell => decide)
  (case c1 => exact rfl)
  (case c2 => exact rfl)
  (case c3 => exact rfl)
  (case hv => exact rfl)
  (case hp => exact rfl)
  (case hgr => exact fun _ => rfl)
  intro D h₀ L h₁ gst X T back F N l1
  (try k_lt l1)
  (try k_fold)
  rename Top _ _ _ _ _ _ => T₀
  have hh := H.hh
  k_steps
  rename News _ _ _ _ => N
  rename Fr _ _ _ _ => F
  have st1 := fun b o e => F.keep b o (gst b o e)
  refine' ct_getMethod (c := c) (f := .ref 44) (tf := .type "function") ?X ?a ?b ?c ?d ?_
  (case X => exact X.keeps F.keep)
  (case a => exact hx.keeps st1)
  (case b => k_is)
  (case c => exact looks_typeIn (X.keeps F.keep) (by k_is))
  (case d => exact .inl rfl)
  k_steps
  refine Pays.use (ct_copy (hx.keeps st1) (On.of X T₀ F) (room_deep (H.less (by omega) (by omega)))) ?_
  intro v h₂ tk2 st2 hv
  obtain ⟨z, rfl, dz, ⟨oz, epz, hoz, obz, hdz, lez, sz⟩, nz, ndz, ltz⟩ := hv
  dsimp only at st2 hoz hdz ⊢
  obtain ⟨N2, ne2⟩ := news_new F N st2 hdz ndz
  have F2 := fr_stay F st2
  obtain ⟨N3, ne3⟩ := news_new F N st2 hoz nz
  have st3 := fun b o e => st2 b o (st1 b o e)
  have N4 : News h₀ L h₂ ((z, oz) :: (dz, emptyDict) :: (D, { cls := .type "tuple", data := .seq #[.ref x1, .ref x2] }) :: []) := List.forall_mem_cons.mpr ⟨N3 _ (.head _), N2⟩
  clear F N N2 N3
  k_steps
  rename News _ _ _ _ => N
  rename Fr _ _ _ _ => F
  have hpk : tupPick #[.ref x1, .ref x2] (some 1) none = #[.ref x2] := pick_last _ _
  refine slice_tup F N (items := #[.ref x1, .ref x2]) ⟨_, (N (D, _) (by k_mem)).1, rfl, 0, rfl⟩ (.int 1 _) .none (fun e => by rw [hpk] at e; cases (congrArg Array.size e)) ?_ (hsz := by rw [hpk]; show 1 ≤ sizeLine; decide)
  rw [hpk]
  intro D2 h' st4 F' N' lt2
  clear F N
  k_lt lt2
  k_steps
  rename News _ _ _ _ => N
  rename Fr _ _ _ _ => F
  refine loop_one hh F N ?_
  clear F N
  intro I ob oD s₁ p1 p2 F N
  change Fr h₀ L s₁.heap _ at F
  change News h₀ L s₁.heap _ at N
  have r1 : @Ne Nat z I := p2 _ (.head _)
  have r2 : @Ne Nat dz I := p2 _ (.tail _ (.head _))
  have r3 : @Ne Nat D I := p2 _ (.tail _ (.tail _ (.head _)))
  have r4 : @Ne Nat D dz := ne2 _ (.head _)
  have r5 : @Ne Nat D z := ne3 _ (.head _)
  have r6 : @Ne Nat dz z := Nat.ne_of_lt ltz
  have r7 : @Ne Nat z D2 := Nat.ne_of_lt lt2.1
  have r8 : @Ne Nat dz D2 := Nat.ne_of_lt lt2.2.1
  have r9 : @Ne Nat D D2 := Nat.ne_of_lt lt2.2.2
  k_steps
  rename News _ _ _ _ => N
  rename Fr _ _ _ _ => F
  refine ct_iand F X ⟨dz, oz, epz, (N (z, oz) (by k_mem)).1, obz, (N (dz, emptyDict) (by k_mem)).1, lez, sz⟩ (hy.keeps fun b o e => F.keep _ _ (gst _ _ e)) ?_
  refine Pays.use (ct_and ⟨dz, oz, epz, (N (z, oz) (by k_mem)).1, obz, (N (dz, emptyDict) (by k_mem)).1, lez, sz⟩ (hy.keeps fun b o e => F.keep _ _ (gst _ _ e)) (On.of X T₀ F) (room_deep (H.less (by omega) (by omega)))) ?_
  intro v h₅ tk5 st5 hv
  obtain ⟨z5, rfl, dz5, ⟨oz5, epz5, hoz5, obz5, hdz5, lez5, sz5⟩, nz5, ndz5, ltz5⟩ := hv
  dsimp only at st5 hoz5 hdz5 nz5 ndz5 ⊢
  obtain ⟨N6, ne6⟩ := news_new F N st5 hdz5 ndz5
  obtain ⟨N7, ne7⟩ := news_new F N st5 hoz5 nz5
  have F5 := fr_stay F st5
  have N8 : News h₀ L h₅ [(I, ob), (D2, oD), (z5, oz5), (dz5, emptyDict)] := List.forall_mem_cons.mpr ⟨N7 _ (by k_mem), List.forall_mem_cons.mpr ⟨N7 _ (by k_mem), List.forall_mem_cons.mpr ⟨N7 _ (.head _), List.forall_mem_cons.mpr ⟨N6 _ (.head _), fun _ h => nomatch h⟩⟩⟩⟩
  have s1 : @Ne Nat I z5 := ne7 (I, ob) (by k_mem)
  have s2 : @Ne Nat D2 z5 := ne7 (D2, oD) (by k_mem)
  have s3 : @Ne Nat I dz5 := ne6 (I, ob) (by k_mem)
  have s4 : @Ne Nat D2 dz5 := ne6 (D2, oD) (by k_mem)
  have s5 : @Ne Nat dz5 z5 := Nat.ne_of_lt ltz5
  have nz6 : s.heap.get? z5 = none := by
    cases q : s.heap.get? z5 with
    | none => rfl
    | some o => rw [F.keep _ _ (gst _ _ q)] at nz5; cases nz5
  have ndz6 : s.heap.get? dz5 = none := by
    cases q : s.heap.get? dz5 with
    | none => rfl
    | some o => rw [F.keep _ _ (gst _ _ q)] at ndz5; cases ndz5
  show wpAny _ _ (storeName _ _ _) _ _ _
  clear F N N6 N7
  k_steps
  rename News _ _ _ _ => N
  rename Fr _ _ _ _ => F
  refine ⟨rfl, _, _, _, [(z5, oz5), (dz5, emptyDict)], rfl, F, N, ?_, ?_⟩
  · exact List.forall_mem_cons.mpr ⟨Ne.symm s1, List.forall_mem_cons.mpr ⟨Ne.symm s3, fun _ h => nomatch h⟩⟩
  · clear F N
    intro h'' tk'' F N
    change Fr h₀ L h'' _ at F
    change News h₀ L h'' _ at N
    k_steps
    exact hR _ _ _ (fun b o e => F.keep _ _ (gst _ _ e)) ⟨z5, rfl, dz5, ⟨oz5, epz5, (N _ (.head _)).1, obz5, (N _ (.tail _ (.head _))).1, lez5, sz5⟩, nz6, ndz6, ltz5⟩
end
end Mine
end
set_option maxHeartbeats 4000000
/- part Mk11 -/
section
namespace Mine
theorem fillMk11 : (PySem.Challenge.rw_br0041_01 = PySem.Challenge.rw_br0041_01 ∧ hd.heap_39 = hd.heap_39) := by
  k_fill
  exact ⟨rfl, rfl⟩
section
variable {prog : Program} {w : World} {A : Around} {s : Shared} {p : Program} {loose : List Str} {mean : ExcName → Option Value} {mg mb : Str → Option Value} {g : Heap}
/-- a new list of two new counters -/
def TwoCts (prog : Program) (w : World) (old h : Heap) (v : Value) (c1 c2 : List (Int × Int)) : Prop :=
  ∃ l x1 d1 x2 d2 : Addr, v = .ref l ∧ h.get? l = some (LCg.lst [.ref x1, .ref x2]) ∧ CtFull prog w h x1 d1 c1 ∧ CtFull prog w h x2 d2 c2 ∧
    old.get? l = none ∧ old.get? x1 = none ∧ old.get? d1 = none ∧ old.get? x2 = none ∧ old.get? d2 = none ∧
    @Ne Nat x1 l ∧ @Ne Nat d1 l ∧ @Ne Nat x2 l ∧ @Ne Nat d2 l ∧ @Ne Nat d1 x1 ∧ @Ne Nat x1 x2 ∧ @Ne Nat x1 d2 ∧ @Ne Nat d1 x2 ∧ @Ne Nat d1 d2 ∧ @Ne Nat d2 x2
/-- a tuple as a generator's source -/
theorem src_tup {h₀ : Heap} {L P D : Addr} {m : Str → Option Value} {ps : Array Value} {scope : Scope} {cl : List (Str × Addr)} {env : Env} {elt : Expr} {x : Str} {its : Array Value} {F : Nat → Value → Prop} {Q E : Value → Shared → Prop}
    (hh : A.handled = none) (Fh : Fr h₀ L s.heap m) (ht : IsTup s.heap D its) (hP : s.heap.get? P = some (tabObj ps)) (lt : P < L) (B : AllBare s.gens)
    (he : ∀ (c' C : Addr) (A' : Around) E' i v (t : Shared) m₂, A'.handled = none → A'.depth ≤ A.depth + 1 → A'.units ≤ A.units + 8 → its[i]? = some v → Fr h₀ C t.heap m₂ → m₂ x = some v → L < C → s.heap.objs.size ≤ C → (∀ b o, b ≠ P → s.heap.get? b = some o → t.heap.get? b = some o) →
      wpAny (model prog w) A' (eval elt (genEnv scope cl C (.ref c') builtinsNs env)) (fun y s₃ => F i y ∧ Keeps t s₃) E' t)
    (hQ : ∀ (a : Addr) h₅ tk g' ps', Fr h₀ L h₅ m → AllBare g' → (∀ b o, b ≠ P → s.heap.get? b = some o → h₅.get? b = some o) → h₅.get? P = some (tabObj ps') → Gen prog w A L a its.size F { s with heap := h₅, toks := tk, gens := g' } → Q (.ref a) { s with heap := h₅, toks := tk, gens := g' }) :
    wpAny (model prog w) A (pyIter (.ref D)) (fun it s₂ => GenSrc prog w A h₀ L m P ps scope cl env elt x Q it s₂) E s := by
  obtain ⟨oD, hD, hcD, nD, hdD⟩ := id ht
  have hL : @LT.lt Nat _ L s.heap.objs.size := Fh.ns.lt
  have l1 : D ≠ s.heap.objs.size := Nat.ne_of_lt (Heap.lt_size hD)
  have k : ∀ b o, s.heap.get? b = some o → ∀ ob, (s.heap.push ob).get? b = some o := fun b o e _ => Heap.get?_push_of_some _ e
  refine wpAny_pyIter_tuple ht ?_
  refine ⟨Fh.push _, k _ _ hP _, lt, B, s.heap.objs.size, _, [s.heap.objs.size], its.size, _, _, F, rfl, fun A' hA => WalksH.of (Walks.tuple (prog := prog) (w := w) (A := A') hA s.heap.objs.size D l1 its), ⟨⟨_, Heap.get?_push_size _ rfl, rfl, rfl⟩, Heap.IsTuple.at ht fun o e => Heap.get?_push_of_some _ e⟩, ?_, ?_, ?_, ?_, ?_⟩
  · intro b hb
    show @LT.lt Nat _ b (Heap.push _ _).objs.size
    rw [Heap.size_push]
    rcases List.mem_cons.mp hb with rfl | hb
    · exact Nat.lt_succ_self _
    · rw [List.mem_singleton.mp hb]; exact Nat.lt_succ_of_lt (Heap.lt_size hD)
  · intro hb
    rcases List.mem_cons.mp hb with e | hb
    · exact absurd (Nat.lt_trans lt hL) (by rw [e]; exact Nat.lt_irrefl _)
    · rw [← List.mem_singleton.mp hb, hP] at hD
      cases hD
      cases hcD
  · intro b hb
    rw [List.mem_singleton.mp hb]
    exact hL
  · intro c' C A' E' i v t m₂ hA hd hu hv Fc hm hLC hsC old
    refine he c' C A' E' i v t m₂ hA hd hu hv Fc hm hLC ?_ fun b o hb e => old b o hb (fun hw => ?_) (k _ _ e _)
    · refine Nat.le_trans ?_ hsC
      show s.heap.objs.size ≤ (Heap.push _ _).objs.size
      rw [Heap.size_push]
      exact Nat.le_succ _
    · rw [List.mem_singleton.mp hw] at e
      exact Nat.lt_irrefl _ (Heap.lt_size e)
  · intro a h₅ tk g' ps' F5 B5 k5 P5 G5
    exact hQ a h₅ tk g' ps' F5 B5 (fun b o hb e => k5 b o hb (k _ _ e _)) P5 G5
/-- a list as a generator's source -/
theorem src_list {h₀ : Heap} {L P D : Addr} {m : Str → Option Value} {ps : Array Value} {scope : Scope} {cl : List (Str × Addr)} {env : Env} {elt : Expr} {x : Str} {its : Array Value} {F : Nat → Value → Prop} {Q E : Value → Shared → Prop}
    (hh : A.handled = none) (Fh : Fr h₀ L s.heap m) (ht : s.heap.IsList D its) (hP : s.heap.get? P = some (tabObj ps)) (lt : P < L) (B : AllBare s.gens)
    (he : ∀ (c' C : Addr) (A' : Around) E' i v (t : Shared) m₂, A'.handled = none → A'.depth ≤ A.depth + 1 → A'.units ≤ A.units + 8 → its[i]? = some v → Fr h₀ C t.heap m₂ → m₂ x = some v → L < C → s.heap.objs.size ≤ C → (∀ b o, b ≠ P → s.heap.get? b = some o → t.heap.get? b = some o) →
      wpAny (model prog w) A' (eval elt (genEnv scope cl C (.ref c') builtinsNs env)) (fun y s₃ => F i y ∧ Keeps t s₃) E' t)
    (hQ : ∀ (a : Addr) h₅ tk g' ps', Fr h₀ L h₅ m → AllBare g' → (∀ b o, b ≠ P → s.heap.get? b = some o → h₅.get? b = some o) → h₅.get? P = some (tabObj ps') → Gen prog w A L a its.size F { s with heap := h₅, toks := tk, gens := g' } → Q (.ref a) { s with heap := h₅, toks := tk, gens := g' }) :
    wpAny (model prog w) A (pyIter (.ref D)) (fun it s₂ => GenSrc prog w A h₀ L m P ps scope cl env elt x Q it s₂) E s := by
  obtain ⟨oD, hD, hcD, neD, hdD⟩ := id ht
  have hL : @LT.lt Nat _ L s.heap.objs.size := Fh.ns.lt
  have l1 : D ≠ s.heap.objs.size := Nat.ne_of_lt (Heap.lt_size hD)
  have k : ∀ b o, s.heap.get? b = some o → ∀ ob, (s.heap.push ob).get? b = some o := fun b o e _ => Heap.get?_push_of_some _ e
  refine wpAny_pyIter_list ht ?_
  refine ⟨Fh.push _, k _ _ hP _, lt, B, s.heap.objs.size, _, [s.heap.objs.size], its.size, _, _, F, rfl, fun A' hA => WalksH.of (Walks.list (prog := prog) (w := w) (A := A') hA s.heap.objs.size D l1 its), ⟨⟨_, Heap.get?_push_size _ rfl, rfl, rfl⟩, Heap.IsList.at ht fun o e => Heap.get?_push_of_some _ e⟩, ?_, ?_, ?_, ?_, ?_⟩
  · intro b hb
    show @LT.lt Nat _ b (Heap.push _ _).objs.size
    rw [Heap.size_push]
    rcases List.mem_cons.mp hb with rfl | hb
    · exact Nat.lt_succ_self _
    · rw [List.mem_singleton.mp hb]; exact Nat.lt_succ_of_lt (Heap.lt_size hD)
  · intro hb
    rcases List.mem_cons.mp hb with e | hb
    · exact absurd (Nat.lt_trans lt hL) (by rw [e]; exact Nat.lt_irrefl _)
    · rw [← List.mem_singleton.mp hb, hP] at hD
      cases hD
      cases hcD
  · intro b hb
    rw [List.mem_singleton.mp hb]
    exact hL
  · intro c' C A' E' i v t m₂ hA hd hu hv Fc hm hLC hsC old
    refine he c' C A' E' i v t m₂ hA hd hu hv Fc hm hLC ?_ fun b o hb e => old b o hb (fun hw => ?_) (k _ _ e _)
    · refine Nat.le_trans ?_ hsC
      show s.heap.objs.size ≤ (Heap.push _ _).objs.size
      rw [Heap.size_push]
      exact Nat.le_succ _
    · rw [List.mem_singleton.mp hw] at e
      exact Nat.lt_irrefl _ (Heap.lt_size e)
  · intro a h₅ tk g' ps' F5 B5 k5 P5 G5
    exact hQ a h₅ tk g' ps' F5 B5 (fun b o hb e => k5 b o hb (k _ _ e _)) P5 G5
theorem nameG_built {h₀ : Heap} {sc : Scope} {cl : List (Str × Addr)} {C : Addr} {code v : Value} {env : Env} {x : Str} {pos : Pos} {E Q : Value → Shared → Prop} (X : (hd.heap_39 w.params).In h₀) (T : Top p loose mean mg mb h₀) (k : h₀.StaysIn s.heap) (e : nsIn (hd.heap_39 w.params) mainGlobals x = some none) (hv : bootBuiltins x = some v) (hn : x ≠ "__name__") (h : Q v s)
    (hg : env.globals = mainGlobals) (hk : sc.kind = .function) (hx : sc.names.lookup x = some .globalImplicit) (hd : (x == ("__debug__" : Str)) = false := by decide) :
    wpAny (model prog w) A (eval (.Name x pos) (genEnv sc cl C code builtinsNs env)) Q E s :=
  Name_function_global (env := genEnv sc cl C code builtinsNs env) hk hx (loadGlobal_builtin (env := genEnv sc cl C code builtinsNs env) (show s.heap.Ns env.globals mg from hg ▸ (T.keeps k).g) (mg_none_of X T.g e) (show s.heap.Ns builtinsNs mb from (T.keeps k).b) ((T.builtins x hn).trans hv) h) hd
theorem nameG_glob {h₀ : Heap} {sc : Scope} {cl : List (Str × Addr)} {C : Addr} {code v : Value} {env : Env} {x : Str} {pos : Pos} {E Q : Value → Shared → Prop} (X : (hd.heap_39 w.params).In h₀) (T : Top p loose mean mg mb h₀) (k : h₀.StaysIn s.heap) (e : nsIn (hd.heap_39 w.params) mainGlobals x = some (some v)) (h : Q v s)
    (hg : env.globals = mainGlobals) (hk : sc.kind = .function) (hx : sc.names.lookup x = some .globalImplicit) (hd : (x == ("__debug__" : Str)) = false := by decide) :
    wpAny (model prog w) A (eval (.Name x pos) (genEnv sc cl C code builtinsNs env)) Q E s :=
  Name_function_global (env := genEnv sc cl C code builtinsNs env) hk hx (loadGlobal_global (env := genEnv sc cl C code builtinsNs env) (show s.heap.Ns env.globals mg from hg ▸ (T.keeps k).g) (mg_of X T.g e) h) hd
theorem boot_isinst : bootBuiltins (Str.ofString "isinstance") = some (.builtin "isinstance") := by decide +kernel
end
section
variable {prog : Program} {w : World} {A : Around} {s : Shared} {p : Program} {loose : List Str} {mean : ExcName → Option Value} {mg mb : Str → Option Value} {g : Heap}
local macro_rules | `(tactic| walk_at "pyIter ref") => `(tactic| (k_here; refine stop_it ?_))
local macro_rules | `(tactic| walk_at "call ref") => `(tactic| (k_here; refine stop_it ?_))
local macro_rules | `(tactic| walk_at "setItem ref ref") => `(tactic| (k_here; refine stop_it ?_))
local macro_rules | `(tactic| walk_at "exec For Tuple") => `(tactic| (k_here; refine stop_it ?_))
local macro_rules | `(tactic| walk_at "getMethod ref") => `(tactic| (k_here; k_dflt (first
  | (refine' kmu_own ?k1 ?k2 ?k3 ?k4 ?k5 ?_; (case k1 => k_asm); (case k2 => k_asm); (case k3 => k_inst); (case k4 => k_is); (case k5 => k_is); k_whole)
  | (refine' method_inst ?k1 ?k2 ?k3 ?k4 ?k5 ?k6 ?k7 ?_; (case k1 => k_asm); (case k2 => k_asm); (case k3 => k_inst); (case k4 => k_is); (case k5 => k_is); (case k6 => k_is); (case k7 => k_get); k_whole))))
local macro_rules | `(tactic| walk_at "last getAttr ref") => `(tactic| (k_here; k_dflt (refine' attr_sm ?k1 ?k2 ?k4 ?k5 ?k6 ?k7 ?k9 ?k10 ?k11 ?k12 ?k13 ?k14 ?_; (case k1 => k_asm); (case k2 => k_asm); (case k4 => k_inst); (case k5 => k_is); (case k6 => k_is); (case k7 => k_is); (case k9 => k_is); (case k10 => k_is); (case k11 => decide +kernel); (case k12 => k_get); (case k13 => k_is); (case k14 => k_handed); k_whole)))
local macro_rules | `(tactic| walk_at "last eval Call Attribute") => `(tactic| (k_here; refine methodCall_S ?_))
local macro_rules | `(tactic| walk_at "eval Call Attribute") => `(tactic| (k_here; (with_reducible show wpAny _ _ (eval (Expr.Call (Expr.Attribute _ _ _) [Expr.Starred _ _] [] _) _) _ _ _); refine methodCall_S ?_))
local macro_rules | `(tactic| walk_at "call builtin:len") => `(tactic| (k_here; refine' len_TupAt ?k1 ?k2 ?_; (case k1 => k_asm); (case k2 => k_asm); intro _ _; k_whole))
local macro_rules | `(tactic| walk_at "getItem ref int") => `(tactic| (k_here; refine' getItem_TupAt ?k1 ?k2 ?k3 ?_; (case k1 => k_asm); (case k2 => k_asm); (case k3 => omega); intro _; k_whole))
local macro_rules | `(tactic| walk_at "subscriptTail") => `(tactic| (k_here; first
  | (refine' item_TupAt ?k1 ?k2 ?k3 ?_; (case k1 => k_asm); (case k2 => k_asm); (case k3 => omega); intro _; k_whole)
  | (refine' item_fn ?k1 ?k2 ?k3 ?k4 ?_; (case k1 => k_asm); (case k2 => k_mem); (case k3 => with_reducible assumption); (case k4 => omega); intro _; k_whole)))
local macro_rules | `(tactic| walk_at "call builtin:min") => `(tactic| (k_here; (with_reducible show wpAny _ _ (call (Value.builtin "min") [Value.int _ _, Value.int _ _]) _ _ _); (rename Around.handled _ = none => hX); refine' min2N hX ?k2 ?k3 ?_; (case k2 => k_asm); (case k3 => k_asm); k_whole; intro h' tk' t' F' N'))
local macro_rules | `(tactic| walk_at "call builtin:min") => `(tactic| (k_here; (with_reducible show wpAny _ _ (call (Value.builtin "min") [Value.int _ _, Value.int _ _, Value.int _ _]) _ _ _); (rename Around.handled _ = none => hX); refine' min3N hX ?k2 ?k3 ?_; (case k2 => k_asm); (case k3 => k_asm); k_whole; intro h' tk' t' F' N'))
local macro_rules | `(tactic| walk_at "call builtin:min") => `(tactic| (k_here; (with_reducible show wpAny _ _ (call (Value.builtin "min") [Value.int _ _, Value.int _ _, Value.int _ _, Value.int _ _]) _ _ _); (rename Around.handled _ = none => hX); refine' min4N hX ?k2 ?k3 ?_; (case k2 => k_asm); (case k3 => k_asm); k_whole; intro h' tk' t' F' N'))
local macro_rules | `(tactic| walk_at "setItem ref int int") => `(tactic| (k_here; refine' setItem_fn ?k1 ?k2 ?k3 ?k4 ?k5 ?_; (case k1 => k_asm); (case k2 => k_asm); (case k3 => k_upd); (case k4 => with_reducible assumption); (case k5 => omega); k_whole; intro h' F' N' i'))
local macro_rules | `(tactic| walk_at "assign Tuple") => `(tactic| (k_here; (with_reducible show wpAny _ _ (assign (Expr.Tuple _ _ _) _ (Value.ref _)) _ _ _); k_dflt (refine' kun_list ?k1 ?k2 ?k3 ?k4 ?k5 ?k6 ?_; (case k1 => k_asm); (case k2 => k_asm); (case k3 => kun_lst); (case k4 => assumption); (case k5 => exact rfl); (case k6 => exact rfl); k_whole); intro h' F' N'; (try k_sweep)))
local macro_rules | `(tactic| walk_at "assign Tuple") => `(tactic| (k_here; (with_reducible show wpAny _ _ (assign (Expr.Tuple _ _ _) _ (Value.ref _)) _ _ _); k_dflt (refine' unpackN_ ?k1 ?k2 ?k3 ?k4 ?k5 ?k6 ?_; (case k1 => k_asm); (case k2 => k_asm); (case k3 => kun_tup); (case k4 => assumption); (case k5 => exact rfl); (case k6 => exact rfl); k_whole); intro h' F' N'; (try k_sweep)))
local macro_rules | `(tactic| walk_at "unpackItems ref") => `(tactic| (k_here; k_dflt (refine' unpackItemsN_ ?k1 ?k2 ?k3 ?k4 ?k5 ?_; (case k1 => k_asm); (case k2 => k_asm); (case k3 => kun_tup); (case k4 => assumption); (case k5 => exact rfl); k_whole); intro h' F' N'; (try k_sweep)))
local macro_rules | `(tactic| walk_at "call type:list") => `(tactic| (k_here; refine' list_range_N ?k0 ?k1 ?k2 ?k3 ?k4 ?k5 ?k6 ?_; (case k1 => k_asm); (case k2 => k_asm); (case k0 => assumption); (case k3 => assumption); (case k4 => omega); (case k5 => exact small_one (by omega) (by omega) (by omega) (by omega)); (case k6 => omega); intro D' h' tk' vs' k' F' N' l1 i1; (try k_lt l1)))
local macro_rules | `(tactic| k_ne) => `(tactic| first | with_reducible assumption | (refine Ne.symm ?_; with_reducible assumption) | (refine neN ?_; (try dsimp only); omega))
local macro_rules | `(tactic| walk_at "call builtin:isinstance") => `(tactic| (k_here; refine stop_it ?_))
theorem isct_elt {h₀ : Heap} {sc : Scope} {cl : List (Str × Addr)} {C b : Addr} {c' : Value} {env : Env} {E : Value → Shared → Prop} {m₂ : Str → Option Value} {ns : List Int} {p1 p2 p3 p5 : Pos} (X : (hd.heap_39 w.params).In h₀) (T₀ : Top p loose mean mg mb h₀) (ha : TupAt h₀ b ns)
    (hk : sc.kind = .function) (l1 : sc.names.lookup (Str.ofString "s") = some .local) (l2 : sc.names.lookup (Str.ofString "isinstance") = some .globalImplicit) (l3 : sc.names.lookup (Str.ofString "Counter") = some .globalImplicit) (hg : env.globals = mainGlobals)
    (F : Fr h₀ C s.heap m₂) (hm : m₂ (Str.ofString "s") = some (.ref b)) :
    wpAny (model prog w) A (eval (.Call (.Name (Str.ofString "isinstance") p1) [.Name (Str.ofString "s") p2, .Name (Str.ofString "Counter") p3] [] p5) (genEnv sc cl C c' builtinsNs env)) (fun y s₃ => y = .bool false ∧ Keeps s s₃) E s := by
  obtain ⟨va, ⟨oa, hoa, hca, -⟩, -, -⟩ := id ha
  walk1
  refine' nameG_built X T₀ F.keep ?k boot_isinst ?d ?_ hg hk l2
  (case k => k_is)
  (case d => decide)
  walk1
  walk1
  refine nameG_local F hk l1 hm ?_ (by decide)
  walk1
  refine' nameG_glob (v := .ref CtC) X T₀ F.keep ?k ?_ hg hk l3
  (case k => k_is)
  walk1
  refine tup_isCt (X.keeps F.keep) (F.keep _ _ hoa) hca ?_
  intro tk
  exact ⟨rfl, _, _, rfl, fun _ _ e => e⟩
local macro_rules | `(tactic| walk_at "call builtin:all") => `(tactic| (k_here; refine stop_it ?_))
local macro_rules | `(tactic| walk_at "callWith ref") => `(tactic| (k_here; k_dflt (refine' callWith_MS ?k1 ?k2 ?k3 ?_; (case k1 => k_asm); (case k2 => k_mem); (case k3 => k_is))))
local macro_rules | `(tactic| walk_at "CompSrc") => `(tactic| (k_here; k_dflt (refine LCg.CompSrc.ledger (by assumption) (by k_asm) (by k_asm) (by k_mem) (by first | size_fits | exact Nat.le_of_ble_eq_true rfl) ?_; intro g'; lcg_lit)))
local macro_rules | `(tactic| walk_at "eval ListComp") => `(tactic| (k_here; k_dflt (refine LCg.ListComp_U (F₀ := by k_asm) (by with_unfolding_all rfl) (by decide) (by rfl) (by decide) (by rfl) ?_)))
theorem get_cts {y dy a b : Addr} {ns ms : List Int} {t0 t1 : Tok} (ha : TupAt g a ns) (hb : TupAt g b ms) (I : Inst g s.heap y 348 dy (base348At w t0 t1) 2) (O : On w p loose mean mg mb g s.heap) (tb : Tab g s.heap 167) (H : Room A 10 110) :
    PaysT prog w A (.call (.ref 170) ⟨[.ref y, .ref a, .ref b], []⟩) s [167] (fun v h' => TwoCts prog w s.heap h' v (cntN ns ns.length) (cntN ms ms.length)) := by
  w_top off
  intro bare R hR
  have lt := I.lt
  have ne_y := ne_tab I.o tb nofun
  have ne_dy := ne_tab I.d tb nofun
  refine' enterRCG [(y, instObj 348 dy), (dy, dictOf (base348At w t0 t1) 2), (167, tabObj #[])] (vs := [.ref a, .ref b]) (bindsR := fun D => [(Str.ofString "self", .ref y), (Str.ofString "sequences", .ref D)]) O ?hg ?hown ?ho ?hcd ?hroom ?hv ?hp ?hgr ?hl ?hnd ?body ?c1 ?c2 ?c3
  (case hg => exact own_noneT I tb)
  (case hown => exact own_atT I tb)
  (case ho => k_is)
  (case hcd => k_is)
  (case hroom => have := Room.dp (by assumption); omega)
  (case hl => exact fun _ => rfl)
  (case hnd => decide +kernel)
  (case c1 => exact rfl)
  (case c2 => exact rfl)
  (case c3 => exact rfl)
  (case hv => exact rfl)
  (case hp => exact rfl)
  (case hgr => exact fun _ => rfl)
  intro D h₀ L h₁ tk cells gst X T back F N Y l1 l2
  (try k_lt l1)
  (try k_lt l2)
  (first | (change CellsAre _ [] _ at Y; cases Y) | k_cells Y)
  simp only [List.cons_append, List.nil_append] at N
  (try dsimp only)
  (try k_fold)
  simp only [AllLt, and_true] at l1 l2
  rename Top _ _ _ _ _ _ => T₀
  have ha₀ := ha.keeps gst
  have hh := H.hh
  have hb₀ := hb.keeps gst
  k_steps
  rename News _ _ _ _ => N
  rename Fr _ _ _ _ => F
  have room : (A.deeper (envOfC (Str.ofString "") default L 170 (Value.ref 169))).depth < recursionLimit := Nat.lt_of_le_of_lt (Nat.le_add_right _ _) (room_deep (env := envOfC (Str.ofString "") default L 170 (Value.ref 169)) (H.less (d' := 2) (u' := 20) (by omega) (by omega))).dp
  refine genexp_H (c := 169) (P := 167) (ps := #[]) F T₀ (N (167, tabObj #[]) (by k_mem)).2.2 (codeHd_of_K X (by kernel_rfl)) rfl rfl trivial rfl hh rfl rfl (by decide) rfl rfl rfl room ?_ (fun _ => rfl)
  k_steps
  rename News _ _ _ _ => N
  rename Fr _ _ _ _ => F
  have h167 := N (167, tabObj #[]) (by k_mem)
  refine src_tup hh F ⟨_, (N (D, _) (.head _)).1, rfl, 0, rfl⟩ h167.1 l2.2.2.2 bare (F := fun _ v => v = .bool false) ?el ?_
  (case el =>
    intro c' C A' E' i v t m₂ hA hd hu hv Fc hm hLC hsC old
    rcases i with _ | _ | i
    · simp at hv
      subst hv
      exact isct_elt X T₀ ha₀ rfl rfl rfl rfl rfl Fc hm
    · simp at hv
      subst hv
      exact isct_elt X T₀ hb₀ rfl rfl rfl rfl rfl Fc hm
    · simp at hv)
  intro ga h9 tk9 g9 ps9 F9 B9 k9 P9 G9
  dsimp only
  k_steps
  refine all_gen F9 B9 G9 (fun _ => false) (fun j v h => h) ?_
  intro h10 tk10 g10 F10 B10 k10
  have neD : @Ne Nat D 167 := Nat.ne_of_gt l1.2.2
  have N10 : News h₀ L h10 [(D, { cls := .type "tuple", data := .seq #[.ref a, .ref b] }), (y, instObj 348 dy), (dy, dictOf (base348At w t0 t1) 2), (167, tabObj ps9)] := List.forall_mem_cons.mpr
    ⟨⟨k10 _ _ (Nat.le_of_lt l2.1) (k9 _ _ neD (N (D, _) (.head _)).1), Nat.ne_of_lt l2.1, (N (D, _) (.head _)).2.2⟩, List.forall_mem_cons.mpr
    ⟨⟨k10 _ _ (Nat.le_of_lt l2.2.1) (k9 _ _ ne_y (N _ (by k_mem)).1), Nat.ne_of_lt l2.2.1, (N (y, instObj 348 dy) (by k_mem)).2.2⟩, List.forall_mem_cons.mpr
    ⟨⟨k10 _ _ (Nat.le_of_lt l2.2.2.1) (k9 _ _ ne_dy (N _ (by k_mem)).1), Nat.ne_of_lt l2.2.2.1, (N (dy, dictOf (base348At w t0 t1) 2) (by k_mem)).2.2⟩, List.forall_mem_cons.mpr
    ⟨⟨k10 _ _ (Nat.le_of_lt l2.2.2.2) P9, h167.2⟩, fun _ h => nomatch h⟩⟩⟩⟩
  clear N
  have e0 : ((List.range (#[Value.ref a, Value.ref b] : Array Value).size).all fun _ => false) = false := rfl
  rw [e0]
  k_steps
  rename News _ _ _ _ => N
  rename Fr _ _ _ _ => F
  refine Pays.useM N (by k_mem) (seqs_base348 (inst_of N (by k_mem) (by k_mem) lt) (On.of X T₀ F) (room_deep (H.less (by omega) (by omega)))) ?_
  intro v h₂ tk st hv
  obtain ⟨l, c, rfl, hl, hn⟩ := hv
  dsimp only at st hn ⊢
  obtain ⟨N2, ne2⟩ := news_new F N st hl hn
  have nl4 : @Ne Nat y l := ne2 _ (.tail _ (.tail _ (.head _)))
  have nl5 : @Ne Nat dy l := ne2 _ (.tail _ (.tail _ (.tail _ (.head _))))
  have nl6 : @Ne Nat 167 l := ne2 _ (.tail _ (.tail _ (.tail _ (.tail _ (.head _)))))
  have F2 := fr_stay F st
  replace N2 := news_sub N2 [(l, listOf [.ref a, .ref b].toArray c), (y, instObj 348 dy), (dy, dictOf (base348At w t0 t1) 2), (167, tabObj ps9)] (List.forall_mem_cons.mpr ⟨by k_mem, List.forall_mem_cons.mpr ⟨by k_mem, List.forall_mem_cons.mpr ⟨by k_mem, List.forall_mem_cons.mpr ⟨by k_mem, fun _ h => nomatch h⟩⟩⟩⟩)
  clear F N
  k_steps
  rename News _ _ _ _ => N
  rename Fr _ _ _ _ => F
  rename_i I7 oI7 C7 oC7 D7 m7 hh7 _ _ hC7 ne7 _ hx7 off7 _
  obtain ⟨⟨o11, o12, o13⟩, ⟨o21, o22, o23⟩, ⟨o31, o32, o33⟩, o61, o62, o63⟩ := off7
  obtain ⟨ne71, ne72, ne73⟩ := ne7
  refine Pays.use (new_tup (ha₀.keeps F.keep) (On.of X T₀ F) (room_deep (H.less (by omega) (by omega)))) ?_
  intro v h3 tk3 st3 hv
  obtain ⟨x1, rfl, d1, ⟨ox1, ep1, hox1, ob1, hd1, le1, sx1⟩, nx1, nd1, lt1⟩ := hv
  dsimp only at st3 hox1 hd1 nx1 nd1 ⊢
  obtain ⟨N6, ne6⟩ := news_new F N st3 hd1 nd1
  obtain ⟨N7, ne7⟩ := news_new F N st3 hox1 nx1
  have F3 := fr_stay F st3
  have N8 : News h₀ L h3 [(I7, oI7), (C7, oC7), (D7, LCg.lst []), (x1, ox1), (d1, emptyDict), (l, listOf [.ref a, .ref b].toArray c), (y, instObj 348 dy), (dy, dictOf (base348At w t0 t1) 2), (167, tabObj ps9)] :=
    List.forall_mem_cons.mpr ⟨N7 _ (by k_mem), List.forall_mem_cons.mpr ⟨N7 _ (by k_mem), List.forall_mem_cons.mpr ⟨N7 _ (by k_mem), List.forall_mem_cons.mpr ⟨N7 _ (.head _), List.forall_mem_cons.mpr ⟨N6 _ (.head _), List.forall_mem_cons.mpr ⟨N7 _ (by k_mem), List.forall_mem_cons.mpr ⟨N7 _ (by k_mem), List.forall_mem_cons.mpr ⟨N7 _ (by k_mem), List.forall_mem_cons.mpr ⟨N7 _ (by k_mem), fun _ h => nomatch h⟩⟩⟩⟩⟩⟩⟩⟩⟩
  have r1 : @Ne Nat I7 x1 := ne7 (I7, oI7) (by k_mem)
  have r2 : @Ne Nat C7 x1 := ne7 (C7, oC7) (by k_mem)
  have r3 : @Ne Nat D7 x1 := ne7 (D7, LCg.lst []) (by k_mem)
  have r4 : @Ne Nat l x1 := ne7 (l, listOf [.ref a, .ref b].toArray c) (by k_mem)
  have r5 : @Ne Nat y x1 := ne7 (y, instObj 348 dy) (by k_mem)
  have r6 : @Ne Nat dy x1 := ne7 (dy, dictOf (base348At w t0 t1) 2) (by k_mem)
  have r7 : @Ne Nat 167 x1 := ne7 (167, tabObj ps9) (by k_mem)
  have u1 : @Ne Nat I7 d1 := ne6 (I7, oI7) (by k_mem)
  have u2 : @Ne Nat C7 d1 := ne6 (C7, oC7) (by k_mem)
  have u3 : @Ne Nat D7 d1 := ne6 (D7, LCg.lst []) (by k_mem)
  have u4 : @Ne Nat l d1 := ne6 (l, listOf [.ref a, .ref b].toArray c) (by k_mem)
  have u5 : @Ne Nat y d1 := ne6 (y, instObj 348 dy) (by k_mem)
  have u6 : @Ne Nat dy d1 := ne6 (dy, dictOf (base348At w t0 t1) 2) (by k_mem)
  have u7 : @Ne Nat 167 d1 := ne6 (167, tabObj ps9) (by k_mem)
  have r0 : @Ne Nat d1 x1 := Nat.ne_of_lt lt1
  clear F N N6 N7 ne6 ne7
  k_steps
  rename News _ _ _ _ => N
  rename Fr _ _ _ _ => F
  rename_i I8 oI8 C8 oC8 D8 m8 hh8 _ _ hC8 ne8 _ hx8 off8 _
  obtain ⟨⟨p11, p12, p13⟩, ⟨p21, p22, p23⟩, ⟨p31, p32, p33⟩, ⟨p41, p42, p43⟩, ⟨p51, p52, p53⟩, p61, p62, p63⟩ := off8
  obtain ⟨ne81, ne82, ne83⟩ := ne8
  refine Pays.use (new_tup (hb₀.keeps F.keep) (On.of X T₀ F) (room_deep (H.less (by omega) (by omega)))) ?_
  intro v h4 tk4 st4 hv
  obtain ⟨x2, rfl, d2, ⟨ox2, ep2, hox2, ob2, hd2, le2, sx2⟩, nx2, nd2, lt2⟩ := hv
  dsimp only at st4 hox2 hd2 nx2 nd2 ⊢
  obtain ⟨N6, ne6⟩ := news_new F N st4 hd2 nd2
  obtain ⟨N7, ne7⟩ := news_new F N st4 hox2 nx2
  have F4 := fr_stay F st4
  have N8 : News h₀ L h4 [(I8, oI8), (C8, oC8), (D8, LCg.lst ([] ++ [.ref x1])), (x2, ox2), (d2, emptyDict), (x1, ox1), (d1, emptyDict), (l, listOf [.ref a, .ref b].toArray c), (y, instObj 348 dy), (dy, dictOf (base348At w t0 t1) 2), (167, tabObj ps9)] := List.forall_mem_cons.mpr ⟨N7 (I8, oI8) (by k_mem), List.forall_mem_cons.mpr ⟨N7 (C8, oC8) (by k_mem), List.forall_mem_cons.mpr ⟨N7 (D8, LCg.lst ([] ++ [.ref x1])) (by k_mem), List.forall_mem_cons.mpr ⟨N7 _ (.head _), List.forall_mem_cons.mpr ⟨N6 _ (.head _), List.forall_mem_cons.mpr ⟨N7 (x1, ox1) (by k_mem), List.forall_mem_cons.mpr ⟨N7 (d1, emptyDict) (by k_mem), List.forall_mem_cons.mpr ⟨N7 (l, listOf [.ref a, .ref b].toArray c) (by k_mem), List.forall_mem_cons.mpr ⟨N7 (y, instObj 348 dy) (by k_mem), List.forall_mem_cons.mpr ⟨N7 (dy, dictOf (base348At w t0 t1) 2) (by k_mem), List.forall_mem_cons.mpr ⟨N7 (167, tabObj ps9) (by k_mem), fun _ h => nomatch h⟩⟩⟩⟩⟩⟩⟩⟩⟩⟩⟩
  have v0 : @Ne Nat I8 x2 := ne7 (I8, oI8) (by k_mem)
  have w0 : @Ne Nat I8 d2 := ne6 (I8, oI8) (by k_mem)
  have v1 : @Ne Nat C8 x2 := ne7 (C8, oC8) (by k_mem)
  have w1 : @Ne Nat C8 d2 := ne6 (C8, oC8) (by k_mem)
  have v2 : @Ne Nat D8 x2 := ne7 (D8, LCg.lst ([] ++ [.ref x1])) (by k_mem)
  have w2 : @Ne Nat D8 d2 := ne6 (D8, LCg.lst ([] ++ [.ref x1])) (by k_mem)
  have v3 : @Ne Nat x1 x2 := ne7 (x1, ox1) (by k_mem)
  have w3 : @Ne Nat x1 d2 := ne6 (x1, ox1) (by k_mem)
  have v4 : @Ne Nat d1 x2 := ne7 (d1, emptyDict) (by k_mem)
  have w4 : @Ne Nat d1 d2 := ne6 (d1, emptyDict) (by k_mem)
  have v5 : @Ne Nat l x2 := ne7 (l, listOf [.ref a, .ref b].toArray c) (by k_mem)
  have w5 : @Ne Nat l d2 := ne6 (l, listOf [.ref a, .ref b].toArray c) (by k_mem)
  have v6 : @Ne Nat y x2 := ne7 (y, instObj 348 dy) (by k_mem)
  have w6 : @Ne Nat y d2 := ne6 (y, instObj 348 dy) (by k_mem)
  have v7 : @Ne Nat dy x2 := ne7 (dy, dictOf (base348At w t0 t1) 2) (by k_mem)
  have w7 : @Ne Nat dy d2 := ne6 (dy, dictOf (base348At w t0 t1) 2) (by k_mem)
  have v8 : @Ne Nat 167 x2 := ne7 (167, tabObj ps9) (by k_mem)
  have w8 : @Ne Nat 167 d2 := ne6 (167, tabObj ps9) (by k_mem)
  have v99 : @Ne Nat d2 x2 := Nat.ne_of_lt lt2
  clear F N N6 N7 ne6 ne7
  k_steps
  rename News _ _ _ _ => N
  rename Fr _ _ _ _ => F
  rename_i D9 h9' tk9' z9
  obtain ⟨z1, z2, z3, z4, -, z6, z7, z8⟩ := z9
  have bt := back_tab back ne_y ne_dy F.keep N (by k_mem) (by k_mem) (by k_mem)
  have gl : ∀ q o, (q, o) ∈ ([(D9, LCg.lst [.ref x1, .ref x2]), (x2, ox2), (d2, emptyDict), (x1, ox1), (d1, emptyDict)] : List (Addr × Obj)) → s.heap.get? q = none := by
    intro q o hq
    rcases List.mem_cons.mp hq with e | hq
    · cases e; exact back.new _ (N (D9, LCg.lst [.ref x1, .ref x2]) (by k_mem)).2.2 (List.forall_mem_cons.mpr ⟨by k_ne, List.forall_mem_cons.mpr ⟨by k_ne, List.forall_mem_cons.mpr ⟨by k_ne, fun _ h => nomatch h⟩⟩⟩)
    rcases List.mem_cons.mp hq with e | hq
    · cases e; exact back.new _ (N (x2, ox2) (by k_mem)).2.2 (List.forall_mem_cons.mpr ⟨by k_ne, List.forall_mem_cons.mpr ⟨by k_ne, List.forall_mem_cons.mpr ⟨by k_ne, fun _ h => nomatch h⟩⟩⟩)
    rcases List.mem_cons.mp hq with e | hq
    · cases e; exact back.new _ (N (d2, emptyDict) (by k_mem)).2.2 (List.forall_mem_cons.mpr ⟨by k_ne, List.forall_mem_cons.mpr ⟨by k_ne, List.forall_mem_cons.mpr ⟨by k_ne, fun _ h => nomatch h⟩⟩⟩)
    rcases List.mem_cons.mp hq with e | hq
    · cases e; exact back.new _ (N (x1, ox1) (by k_mem)).2.2 (List.forall_mem_cons.mpr ⟨by k_ne, List.forall_mem_cons.mpr ⟨by k_ne, List.forall_mem_cons.mpr ⟨by k_ne, fun _ h => nomatch h⟩⟩⟩)
    rcases List.mem_cons.mp hq with e | hq
    · cases e; exact back.new _ (N (d1, emptyDict) (by k_mem)).2.2 (List.forall_mem_cons.mpr ⟨by k_ne, List.forall_mem_cons.mpr ⟨by k_ne, List.forall_mem_cons.mpr ⟨by k_ne, fun _ h => nomatch h⟩⟩⟩)
    · cases hq
  have f1 : CtFull prog w h9' x1 d1 (cntN ns ns.length) := ⟨ox1, ep1, (N (x1, ox1) (by k_mem)).1, ob1, (N (d1, emptyDict) (by k_mem)).1, le1, sx1⟩
  have f2 : CtFull prog w h9' x2 d2 (cntN ms ms.length) := ⟨ox2, ep2, (N (x2, ox2) (by k_mem)).1, ob2, (N (d2, emptyDict) (by k_mem)).1, le2, sx2⟩
  exact hR _ _ _ _ bt.1 bt.2 B10 ⟨D9, x1, d1, x2, d2, rfl, (N _ (.head _)).1, f1, f2, gl D9 _ (.head _), gl x1 ox1 (by simp), gl d1 emptyDict (by simp), gl x2 ox2 (by simp), gl d2 emptyDict (by simp), z3, z4, z1, z2, r0, by k_ne, by k_ne, by k_ne, by k_ne, v99⟩
end
end Mine
end
set_option maxHeartbeats 4000000
/- part Mk12 -/
section
namespace Mine
theorem fillMk12 : (PySem.Challenge.rw_br0041_01 = PySem.Challenge.rw_br0041_01 ∧ hd.heap_39 = hd.heap_39) := by
  k_fill
  exact ⟨rfl, rfl⟩
section
variable {prog : Program} {w : World} {A : Around} {s : Shared} {p : Program} {loose : List Str} {mean : ExcName → Option Value} {mg mb : Str → Option Value} {g : Heap}
local macro_rules | `(tactic| walk_at "pyIter ref") => `(tactic| (k_here; refine stop_it ?_))
local macro_rules | `(tactic| walk_at "call ref") => `(tactic| (k_here; refine stop_it ?_))
local macro_rules | `(tactic| walk_at "setItem ref ref") => `(tactic| (k_here; refine stop_it ?_))
local macro_rules | `(tactic| walk_at "exec For Tuple") => `(tactic| (k_here; refine stop_it ?_))
local macro_rules | `(tactic| walk_at "getMethod ref") => `(tactic| (k_here; k_dflt (first
  | (refine' kmu_own ?k1 ?k2 ?k3 ?k4 ?k5 ?_; (case k1 => k_asm); (case k2 => k_asm); (case k3 => k_inst); (case k4 => k_is); (case k5 => k_is); k_whole)
  | (refine' method_inst ?k1 ?k2 ?k3 ?k4 ?k5 ?k6 ?k7 ?_; (case k1 => k_asm); (case k2 => k_asm); (case k3 => k_inst); (case k4 => k_is); (case k5 => k_is); (case k6 => k_is); (case k7 => k_get); k_whole))))
local macro_rules | `(tactic| walk_at "last getAttr ref") => `(tactic| (k_here; k_dflt (refine' attr_sm ?k1 ?k2 ?k4 ?k5 ?k6 ?k7 ?k9 ?k10 ?k11 ?k12 ?k13 ?k14 ?_; (case k1 => k_asm); (case k2 => k_asm); (case k4 => k_inst); (case k5 => k_is); (case k6 => k_is); (case k7 => k_is); (case k9 => k_is); (case k10 => k_is); (case k11 => decide +kernel); (case k12 => k_get); (case k13 => k_is); (case k14 => k_handed); k_whole)))
local macro_rules | `(tactic| walk_at "last eval Call Attribute") => `(tactic| (k_here; refine methodCall_S ?_))
local macro_rules | `(tactic| walk_at "eval Call Attribute") => `(tactic| (k_here; (with_reducible show wpAny _ _ (eval (Expr.Call (Expr.Attribute _ _ _) [Expr.Starred _ _] [] _) _) _ _ _); refine methodCall_S ?_))
local macro_rules | `(tactic| walk_at "call builtin:len") => `(tactic| (k_here; refine' len_TupAt ?k1 ?k2 ?_; (case k1 => k_asm); (case k2 => k_asm); intro _ _; k_whole))
local macro_rules | `(tactic| walk_at "getItem ref int") => `(tactic| (k_here; refine' getItem_TupAt ?k1 ?k2 ?k3 ?_; (case k1 => k_asm); (case k2 => k_asm); (case k3 => omega); intro _; k_whole))
local macro_rules | `(tactic| walk_at "subscriptTail") => `(tactic| (k_here; first
  | (refine' item_TupAt ?k1 ?k2 ?k3 ?_; (case k1 => k_asm); (case k2 => k_asm); (case k3 => omega); intro _; k_whole)
  | (refine' item_fn ?k1 ?k2 ?k3 ?k4 ?_; (case k1 => k_asm); (case k2 => k_mem); (case k3 => with_reducible assumption); (case k4 => omega); intro _; k_whole)))
local macro_rules | `(tactic| walk_at "call builtin:min") => `(tactic| (k_here; (with_reducible show wpAny _ _ (call (Value.builtin "min") [Value.int _ _, Value.int _ _]) _ _ _); (rename Around.handled _ = none => hX); refine' min2N hX ?k2 ?k3 ?_; (case k2 => k_asm); (case k3 => k_asm); k_whole; intro h' tk' t' F' N'))
local macro_rules | `(tactic| walk_at "call builtin:min") => `(tactic| (k_here; (with_reducible show wpAny _ _ (call (Value.builtin "min") [Value.int _ _, Value.int _ _, Value.int _ _]) _ _ _); (rename Around.handled _ = none => hX); refine' min3N hX ?k2 ?k3 ?_; (case k2 => k_asm); (case k3 => k_asm); k_whole; intro h' tk' t' F' N'))
local macro_rules | `(tactic| walk_at "call builtin:min") => `(tactic| (k_here; (with_reducible show wpAny _ _ (call (Value.builtin "min") [Value.int _ _, Value.int _ _, Value.int _ _, Value.int _ _]) _ _ _); (rename Around.handled _ = none => hX); refine' min4N hX ?k2 ?k3 ?_; (case k2 => k_asm); (case k3 => k_asm); k_whole; intro h' tk' t' F' N'))
local macro_rules | `(tactic| walk_at "setItem ref int int") => `(tactic| (k_here; refine' setItem_fn ?k1 ?k2 ?k3 ?k4 ?k5 ?_; (case k1 => k_asm); (case k2 => k_asm); (case k3 => k_upd); (case k4 => with_reducible assumption); (case k5 => omega); k_whole; intro h' F' N' i'))
local macro_rules | `(tactic| walk_at "assign Tuple") => `(tactic| (k_here; (with_reducible show wpAny _ _ (assign (Expr.Tuple _ _ _) _ (Value.ref _)) _ _ _); k_dflt (refine' kun_list ?k1 ?k2 ?k3 ?k4 ?k5 ?k6 ?_; (case k1 => k_asm); (case k2 => k_asm); (case k3 => kun_lst); (case k4 => assumption); (case k5 => exact rfl); (case k6 => exact rfl); k_whole); intro h' F' N'; (try k_sweep)))
local macro_rules | `(tactic| walk_at "assign Tuple") => `(tactic| (k_here; (with_reducible show wpAny _ _ (assign (Expr.Tuple _ _ _) _ (Value.ref _)) _ _ _); k_dflt (refine' unpackN_ ?k1 ?k2 ?k3 ?k4 ?k5 ?k6 ?_; (case k1 => k_asm); (case k2 => k_asm); (case k3 => kun_tup); (case k4 => assumption); (case k5 => exact rfl); (case k6 => exact rfl); k_whole); intro h' F' N'; (try k_sweep)))
local macro_rules | `(tactic| walk_at "unpackItems ref") => `(tactic| (k_here; k_dflt (refine' unpackItemsN_ ?k1 ?k2 ?k3 ?k4 ?k5 ?_; (case k1 => k_asm); (case k2 => k_asm); (case k3 => kun_tup); (case k4 => assumption); (case k5 => exact rfl); k_whole); intro h' F' N'; (try k_sweep)))
local macro_rules | `(tactic| walk_at "call type:list") => `(tactic| (k_here; refine' list_range_N ?k0 ?k1 ?k2 ?k3 ?k4 ?k5 ?k6 ?_; (case k1 => k_asm); (case k2 => k_asm); (case k0 => assumption); (case k3 => assumption); (case k4 => omega); (case k5 => exact small_one (by omega) (by omega) (by omega) (by omega)); (case k6 => omega); intro D' h' tk' vs' k' F' N' l1 i1; (try k_lt l1)))
local macro_rules | `(tactic| k_ne) => `(tactic| first | with_reducible assumption | (refine Ne.symm ?_; with_reducible assumption) | (refine neN ?_; (try dsimp only); omega))
/-- a - b, two counters -/
theorem ct_minus {h₀ : Heap} {L : Addr} {m : Str → Option Value} {x y : Addr} {c e : List (Int × Int)} {E Q : Value → Shared → Prop} (F : Fr h₀ L s.heap m) (X₀ : (hd.heap_39 w.params).In h₀) (hx : CtAt prog w s.heap x c) (hy : CtAt prog w s.heap y e)
    (h : wpAny (model prog w) A (call (.ref 71) [.ref x, .ref y]) (W.CmpBack Q) E s) : wpAny (model prog w) A (binaryOp .Sub (.ref x) (.ref y)) Q E s := by
  obtain ⟨_, hx⟩ := hx
  obtain ⟨_, hy⟩ := hy
  obtain ⟨ox, od, I⟩ := hx.inst
  obtain ⟨oy, oe, J⟩ := hy.inst
  have hc : selfFirst (hd.heap_39 w.params) CtC = true := by k_is
  have hs : findIn (hd.heap_39 w.params) (.ref CtC) (PySem.dunder Operator.Sub.info.2) = some (some (.ref 71)) := by k_is
  have hf : isFn (hd.heap_39 w.params) (.ref 71) = true := by k_is
  exact binop_K F X₀ I J.type hc hs hf h
local macro_rules | `(tactic| walk_at "binaryOp Sub ref ref") => `(tactic| (k_here; refine stop_it ?_))
theorem bag_elt {h₀ : Heap} {sc : Scope} {cl : List (Str × Addr)} {C cS cI x y dy z : Addr} {c' : Value} {env : Env} {E : Value → Shared → Prop} {m₂ : Str → Option Value} {c e : List (Int × Int)} {oS oI : Obj} {p1 p2 p3 p4 p5 p6 : Pos} {t0 t1 : Tok} {pl : Sem Bool}
    (he : eval (.Call (.Attribute (.Name (Str.ofString "self") p1) (Str.ofString "_count_counters") p2) [.BinOp (.Name (Str.ofString "sequence") p3) .Sub (.Name (Str.ofString "intersection") p4) p5] [] p6) (genEnv sc cl C c' builtinsNs env) = (do
      let ov ← eval (.Name (Str.ofString "self") p1) (genEnv sc cl C c' builtinsNs env)
      standAt p2.atName
      let (f, first) ← holding [ov] (getMethod ov (Str.ofString "_count_counters") pl)
      callWith p6 f first (backTo p6 (starEach [.BinOp (.Name (Str.ofString "sequence") p3) .Sub (.Name (Str.ofString "intersection") p4) p5] (genEnv sc cl C c' builtinsNs env))) []))
    (X : (hd.heap_39 w.params).In h₀) (T₀ : Top p loose mean mg mb h₀) (H : Room A 12 110)
    (hk : sc.kind = .function) (l1 : sc.names.lookup (Str.ofString "sequence") = some .local) (l2 : sc.names.lookup (Str.ofString "self") = some .free) (l3 : sc.names.lookup (Str.ofString "intersection") = some .free) (l4 : cl.lookup (Str.ofString "self") = some cS) (l5 : cl.lookup (Str.ofString "intersection") = some cI)
    (F : Fr h₀ C s.heap m₂) (hm : m₂ (Str.ofString "sequence") = some (.ref x)) (hS : oS.data = .cell (some (.ref y))) (hI : oI.data = .cell (some (.ref z)))
    (lt : @LT.lt Nat _ dy y) (N : News h₀ C s.heap [(cS, oS), (cI, oI), (y, instObj 348 dy), (dy, dictOf (base348At w t0 t1) 2)]) (hx : CtAt prog w s.heap x c) (hz : CtAt prog w s.heap z e) :
    wpAny (model prog w) A (eval (.Call (.Attribute (.Name (Str.ofString "self") p1) (Str.ofString "_count_counters") p2) [.BinOp (.Name (Str.ofString "sequence") p3) .Sub (.Name (Str.ofString "intersection") p4) p5] [] p6) (genEnv sc cl C c' builtinsNs env))
      (fun v s₃ => (∃ t, v = .int (sumC (subC c e)) t) ∧ Keeps s s₃) E s := by
  w_top off
  have hh := H.hh
  refine MethodCall_ ?_ he
  refine nameG_free N hk l2 l4 (by k_mem) hS ?_ (by decide) (by decide)
  walk1
  walk1
  walk1
  walk1
  refine nameG_local F hk l1 hm ?_ (by decide)
  refine nameG_free N hk l3 l5 (by k_mem) hI ?_ (by decide) (by decide)
  refine ct_minus F X hx hz ?_
  have hk0 := F.keep
  have O' : On w p loose mean mg mb s.heap s.heap := ⟨X.keeps F.keep, T₀.keeps F.keep, fun _ _ e => e⟩
  refine Pays.use (ct_sub hx hz O' (H.less (by omega) (by omega))) ?_
  intro v h2 tk2 st2 hv
  obtain ⟨d, rfl, Id⟩ := hv
  dsimp only at st2 Id ⊢
  have F2 := fr_stay F st2
  have N2 := news_stay N st2
  show wpAny _ _ (spliced _) _ _ _
  clear F N
  walk1
  refine ⟨X.keeps F2.keep, ?_⟩
  refine Pays.use (ct_count (inst_of N2 (by k_mem) (by k_mem) lt) (Id.of (fun b o e => ?kp)) (On.of X T₀ F2) (H.less (by omega) (by omega))) ?_
  (case kp => exact hk0 b o e)
  intro v h3 tk3 st3 hv
  exact ⟨hv, h3, tk3, rfl, fun b o e => st3 b o (st2 b o e)⟩
end
end Mine
end
set_option maxHeartbeats 4000000
/- part Mk13 -/
section
namespace Mine
theorem fillMk13 : (PySem.Challenge.rw_br0041_01 = PySem.Challenge.rw_br0041_01 ∧ hd.heap_39 = hd.heap_39) := by
  k_fill
  exact ⟨rfl, rfl⟩
section
variable {prog : Program} {w : World} {A : Around} {s : Shared} {p : Program} {loose : List Str} {mean : ExcName → Option Value} {mg mb : Str → Option Value} {g : Heap}
/-- the bag distance, as the code counts it -/
def bagD (ns ms : List Int) : Int := max (sumC (subC (cntN ns ns.length) (andC (cntN ns ns.length) (cntN ms ms.length)))) (sumC (subC (cntN ms ms.length) (andC (cntN ns ns.length) (cntN ms ms.length))))
theorem own_noneT2 {g h : Heap} {x C dx P P' : Addr} {es : List DictEntry} {n : Nat} (I : Inst g h x C dx es n) (t : Tab g h P) (t' : Tab g h P') : ∀ q ∈ [(x, instObj C dx), (dx, dictOf es n), (P, tabObj #[]), (P', tabObj #[])], g.get? q.1 = none := List.forall_mem_cons.mpr ⟨I.nx, List.forall_mem_cons.mpr ⟨I.nd, List.forall_mem_cons.mpr ⟨t.no, List.forall_mem_cons.mpr ⟨t'.no, fun _ h => nomatch h⟩⟩⟩⟩
theorem own_atT2 {g h : Heap} {x C dx P P' : Addr} {es : List DictEntry} {n : Nat} (I : Inst g h x C dx es n) (t : Tab g h P) (t' : Tab g h P') : ∀ q ∈ [(x, instObj C dx), (dx, dictOf es n), (P, tabObj #[]), (P', tabObj #[])], h.get? q.1 = some q.2 := List.forall_mem_cons.mpr ⟨I.o, List.forall_mem_cons.mpr ⟨I.d, List.forall_mem_cons.mpr ⟨t.at', List.forall_mem_cons.mpr ⟨t'.at', fun _ h => nomatch h⟩⟩⟩⟩
theorem back_tab2 {h₀ h h' : Heap} {L : Addr} {x dx P P' : Addr} {ox od : Obj} {ps ps' : Array Value} {news : List (Addr × Obj)} (B : Back h₀ h [(x, ox), (dx, od), (P, tabObj #[]), (P', tabObj #[])]) (hx : @Ne Nat x P) (hd : @Ne Nat dx P) (hx' : @Ne Nat x P') (hd' : @Ne Nat dx P') (k : h₀.StaysIn h') (N : News h₀ L h' news) (h1 : (x, ox) ∈ news) (h2 : (dx, od) ∈ news) (h3 : (P, tabObj ps) ∈ news) (h4 : (P', tabObj ps') ∈ news) :
    Kept [P, P'] h h' ∧ Tabs [P, P'] h' := by
  have hT : Tabs [P, P'] h' := List.forall_mem_cons.mpr ⟨⟨ps, (N _ h3).1⟩, List.forall_mem_cons.mpr ⟨⟨ps', (N _ h4).1⟩, fun _ h => nomatch h⟩⟩
  exact ⟨B.keepT [P, P'] (List.forall_mem_cons.mpr ⟨(N _ h3).2.2, List.forall_mem_cons.mpr ⟨(N _ h4).2.2, fun _ h => nomatch h⟩⟩) k hT
    (List.forall_mem_cons.mpr ⟨.inr ⟨by simp; exact ⟨hx, hx'⟩, (N _ h1).1⟩, List.forall_mem_cons.mpr ⟨.inr ⟨by simp; exact ⟨hd, hd'⟩, (N _ h2).1⟩, List.forall_mem_cons.mpr ⟨.inl ⟨by simp, rfl⟩, List.forall_mem_cons.mpr ⟨.inl ⟨by simp, rfl⟩, fun _ h => nomatch h⟩⟩⟩⟩), hT⟩
theorem PaysT.useM {h₀ : Heap} {L q : Addr} {news : List (Addr × Obj)} {f self : Value} {pos : List Value} {kw : List (Str × Value)} {Ps : List Addr} {Q₀ : Value → Heap → Prop} {Q E : Value → Shared → Prop} (G : AllBare s.gens) (N : News h₀ L s.heap news) (hq : (q, methodObj f self) ∈ news)
    (hp : PaysT prog w A (.call f ⟨self :: pos, kw⟩) s Ps Q₀) (h : ∀ v h' tk g', Kept Ps s.heap h' → Tabs Ps h' → AllBare g' → Q₀ v h' → Q v { s with heap := h', toks := tk, gens := g' }) : wpAny (model prog w) A (call (.ref q) pos kw) Q E s :=
  wpAny_call (method_call (N _ hq).1 (hp G _ h))
theorem max_two (a b : Int) (j : Nat) (hj : j < 2) (h : ∀ i, i < 2 → (if i = 0 then a else b) ≤ if j = 0 then a else b) : (if j = 0 then a else b) = max a b := by
  have h0 := h 0 (by decide)
  have h1 := h 1 (by decide)
  simp only [if_true] at h0
  rw [if_neg (by decide)] at h1
  by_cases e : j = 0
  · rw [if_pos e] at h0 h1 ⊢; omega
  · rw [if_neg e] at h0 h1 ⊢; omega
theorem new_at {h₀ h h' : Heap} {L b : Addr} {m : Str → Option Value} {o : Obj} (F : Fr h₀ L h m) (n : h.get? b = none) (e : h'.get? b = some o) : h'.get? b = some o ∧ b ≠ L ∧ h₀.get? b = none := by
  refine ⟨e, fun q => ?_, ?_⟩
  · obtain ⟨oL, _, _, eL, _⟩ := F.ns
    rw [q, eL] at n
    cases n
  · cases q : h₀.get? b with
    | none => rfl
    | some o' => rw [F.keep _ _ q] at n; cases n
theorem ne_live {h₀ h : Heap} {L b : Addr} {news : List (Addr × Obj)} (N : News h₀ L h news) (n : h.get? b = none) : ∀ p ∈ news, @Ne Nat p.1 b := fun p hp q => by
  have e := (N p hp).1
  rw [show p.1 = b from q, n] at e
  cases e
local macro_rules | `(tactic| walk_at "pyIter ref") => `(tactic| (k_here; refine stop_it ?_))
local macro_rules | `(tactic| walk_at "call ref") => `(tactic| (k_here; refine stop_it ?_))
local macro_rules | `(tactic| walk_at "setItem ref ref") => `(tactic| (k_here; refine stop_it ?_))
local macro_rules | `(tactic| walk_at "exec For Tuple") => `(tactic| (k_here; refine stop_it ?_))
local macro_rules | `(tactic| walk_at "getMethod ref") => `(tactic| (k_here; k_dflt (first
  | (refine' kmu_own ?k1 ?k2 ?k3 ?k4 ?k5 ?_; (case k1 => k_asm); (case k2 => k_asm); (case k3 => k_inst); (case k4 => k_is); (case k5 => k_is); k_whole)
  | (refine' method_inst ?k1 ?k2 ?k3 ?k4 ?k5 ?k6 ?k7 ?_; (case k1 => k_asm); (case k2 => k_asm); (case k3 => k_inst); (case k4 => k_is); (case k5 => k_is); (case k6 => k_is); (case k7 => k_get); k_whole))))
local macro_rules | `(tactic| walk_at "last getAttr ref") => `(tactic| (k_here; k_dflt (refine' attr_sm ?k1 ?k2 ?k4 ?k5 ?k6 ?k7 ?k9 ?k10 ?k11 ?k12 ?k13 ?k14 ?_; (case k1 => k_asm); (case k2 => k_asm); (case k4 => k_inst); (case k5 => k_is); (case k6 => k_is); (case k7 => k_is); (case k9 => k_is); (case k10 => k_is); (case k11 => decide +kernel); (case k12 => k_get); (case k13 => k_is); (case k14 => k_handed); k_whole)))
local macro_rules | `(tactic| walk_at "last eval Call Attribute") => `(tactic| (k_here; refine methodCall_S ?_))
local macro_rules | `(tactic| walk_at "eval Call Attribute") => `(tactic| (k_here; (with_reducible show wpAny _ _ (eval (Expr.Call (Expr.Attribute _ _ _) [Expr.Starred _ _] [] _) _) _ _ _); refine methodCall_S ?_))
local macro_rules | `(tactic| walk_at "call builtin:len") => `(tactic| (k_here; refine' len_TupAt ?k1 ?k2 ?_; (case k1 => k_asm); (case k2 => k_asm); intro _ _; k_whole))
local macro_rules | `(tactic| walk_at "getItem ref int") => `(tactic| (k_here; refine' getItem_TupAt ?k1 ?k2 ?k3 ?_; (case k1 => k_asm); (case k2 => k_asm); (case k3 => omega); intro _; k_whole))
local macro_rules | `(tactic| walk_at "subscriptTail") => `(tactic| (k_here; first
  | (refine' item_TupAt ?k1 ?k2 ?k3 ?_; (case k1 => k_asm); (case k2 => k_asm); (case k3 => omega); intro _; k_whole)
  | (refine' item_fn ?k1 ?k2 ?k3 ?k4 ?_; (case k1 => k_asm); (case k2 => k_mem); (case k3 => with_reducible assumption); (case k4 => omega); intro _; k_whole)))
local macro_rules | `(tactic| walk_at "call builtin:min") => `(tactic| (k_here; (with_reducible show wpAny _ _ (call (Value.builtin "min") [Value.int _ _, Value.int _ _]) _ _ _); (rename Around.handled _ = none => hX); refine' min2N hX ?k2 ?k3 ?_; (case k2 => k_asm); (case k3 => k_asm); k_whole; intro h' tk' t' F' N'))
local macro_rules | `(tactic| walk_at "call builtin:min") => `(tactic| (k_here; (with_reducible show wpAny _ _ (call (Value.builtin "min") [Value.int _ _, Value.int _ _, Value.int _ _]) _ _ _); (rename Around.handled _ = none => hX); refine' min3N hX ?k2 ?k3 ?_; (case k2 => k_asm); (case k3 => k_asm); k_whole; intro h' tk' t' F' N'))
local macro_rules | `(tactic| walk_at "call builtin:min") => `(tactic| (k_here; (with_reducible show wpAny _ _ (call (Value.builtin "min") [Value.int _ _, Value.int _ _, Value.int _ _, Value.int _ _]) _ _ _); (rename Around.handled _ = none => hX); refine' min4N hX ?k2 ?k3 ?_; (case k2 => k_asm); (case k3 => k_asm); k_whole; intro h' tk' t' F' N'))
local macro_rules | `(tactic| walk_at "setItem ref int int") => `(tactic| (k_here; refine' setItem_fn ?k1 ?k2 ?k3 ?k4 ?k5 ?_; (case k1 => k_asm); (case k2 => k_asm); (case k3 => k_upd); (case k4 => with_reducible assumption); (case k5 => omega); k_whole; intro h' F' N' i'))
local macro_rules | `(tactic| walk_at "assign Tuple") => `(tactic| (k_here; (with_reducible show wpAny _ _ (assign (Expr.Tuple _ _ _) _ (Value.ref _)) _ _ _); k_dflt (refine' kun_list ?k1 ?k2 ?k3 ?k4 ?k5 ?k6 ?_; (case k1 => k_asm); (case k2 => k_asm); (case k3 => kun_lst); (case k4 => assumption); (case k5 => exact rfl); (case k6 => exact rfl); k_whole); intro h' F' N'; (try k_sweep)))
local macro_rules | `(tactic| walk_at "assign Tuple") => `(tactic| (k_here; (with_reducible show wpAny _ _ (assign (Expr.Tuple _ _ _) _ (Value.ref _)) _ _ _); k_dflt (refine' unpackN_ ?k1 ?k2 ?k3 ?k4 ?k5 ?k6 ?_; (case k1 => k_asm); (case k2 => k_asm); (case k3 => kun_tup); (case k4 => assumption); (case k5 => exact rfl); (case k6 => exact rfl); k_whole); intro h' F' N'; (try k_sweep)))
local macro_rules | `(tactic| walk_at "unpackItems ref") => `(tactic| (k_here; k_dflt (refine' unpackItemsN_ ?k1 ?k2 ?k3 ?k4 ?k5 ?_; (case k1 => k_asm); (case k2 => k_asm); (case k3 => kun_tup); (case k4 => assumption); (case k5 => exact rfl); k_whole); intro h' F' N'; (try k_sweep)))
local macro_rules | `(tactic| walk_at "call type:list") => `(tactic| (k_here; refine' list_range_N ?k0 ?k1 ?k2 ?k3 ?k4 ?k5 ?k6 ?_; (case k1 => k_asm); (case k2 => k_asm); (case k0 => assumption); (case k3 => assumption); (case k4 => omega); (case k5 => exact small_one (by omega) (by omega) (by omega) (by omega)); (case k6 => omega); intro D' h' tk' vs' k' F' N' l1 i1; (try k_lt l1)))
local macro_rules | `(tactic| k_ne) => `(tactic| first | with_reducible assumption | (refine Ne.symm ?_; with_reducible assumption) | (refine neN ?_; (try dsimp only); omega))
local macro_rules | `(tactic| walk_at "call builtin:max") => `(tactic| (k_here; refine stop_it ?_))
local macro_rules | `(tactic| walk_at "callWith ref") => `(tactic| (k_here; k_dflt (refine' callWith_MS ?k1 ?k2 ?k3 ?_; (case k1 => k_asm); (case k2 => k_mem); (case k3 => k_is))))
theorem bag_call {y dy a b : Addr} {ns ms : List Int} {t0 t1 : Tok} (ha : TupAt g a ns) (hb : TupAt g b ms) (I : Inst g s.heap y 348 dy (base348At w t0 t1) 2) (O : On w p loose mean mg mb g s.heap) (tb : Tab g s.heap 340) (tb' : Tab g s.heap 167) (H : Room A 16 150) :
    PaysT prog w A (.call (.ref 345) ⟨[.ref y, .ref a, .ref b], []⟩) s [340, 167] (fun v _ => ∃ t, v = .int (bagD ns ms) t) := by
  w_top off
  intro bare R hR
  have lt := I.lt
  have ne_y := ne_tab I.o tb nofun
  have ne_dy := ne_tab I.d tb nofun
  have ne_y' := ne_tab I.o tb' nofun
  have ne_dy' := ne_tab I.d tb' nofun
  have ne_tt : @Ne Nat 340 167 := by decide
  refine' enterRCG [(y, instObj 348 dy), (dy, dictOf (base348At w t0 t1) 2), (340, tabObj #[]), (167, tabObj #[])] (vs := [.ref a, .ref b]) (bindsR := fun D => [(Str.ofString "self", .ref y), (Str.ofString "sequences", .ref D)]) O ?hg ?hown ?ho ?hcd ?hroom ?hv ?hp ?hgr ?hl ?hnd ?body ?c1 ?c2 ?c3
  (case hg => exact own_noneT2 I tb tb')
  (case hown => exact own_atT2 I tb tb')
  (case ho => k_is)
  (case hcd => k_is)
  (case hroom => have := Room.dp (by assumption); omega)
  (case hl => exact fun _ => rfl)
  (case hnd => decide +kernel)
  (case c1 => exact rfl)
  (case c2 => exact rfl)
  (case c3 => exact rfl)
  (case hv => exact rfl)
  (case hp => exact rfl)
  (case hgr => exact fun _ => rfl)
  intro D h₀ L h₁ tk cells gst X T back F N Y l1 l2
  (try k_lt l1)
  (try k_lt l2)
  (first | (change CellsAre _ [] _ at Y; cases Y) | k_cells Y)
  simp only [List.cons_append, List.nil_append] at N
  (try dsimp only)
  (try k_fold)
  simp only [AllLt, and_true] at l1 l2
  rename_i oI oS dI dS
  rename Top _ _ _ _ _ _ => T₀
  have ha₀ := ha.keeps gst
  have hh := H.hh
  have hb₀ := hb.keeps gst
  k_steps
  rename News _ _ _ _ => N
  rename Fr _ _ _ _ => F
  have h167 := N (167, tabObj #[]) (by k_mem)
  have c1 : @Ne Nat (L + 1 + 1) 167 := Nat.ne_of_gt (Nat.lt_succ_of_lt (Nat.lt_succ_of_lt l2.2.2.2.2))
  have c2 : @Ne Nat (L + 1) 167 := Nat.ne_of_gt (Nat.lt_succ_of_lt l2.2.2.2.2)
  refine PaysT.useM (by exact bare) N (by k_mem) (get_cts ha₀ hb₀ (inst_of N (by k_mem) (by k_mem) lt) (On.of X T₀ F) ⟨h167.1, h167.2.2⟩ (room_deep (H.less (by omega) (by omega)))) ?_
  intro v h₂ tk2 g2 k2 T2 B2 hv
  obtain ⟨l, x1, d1, x2, d2, rfl, hl, ⟨ox1, ep1, hox1, ob1, hd1, le1, sx1⟩, ⟨ox2, ep2, hox2, ob2, hd2, le2, sx2⟩, nl, nx1, nd1, nx2, nd2, a1, a2, a3, a4, a5, a6, a7, a8, a9, a10⟩ := hv
  dsimp only at k2 hl hox1 hd1 hox2 hd2 nl nx1 nd1 nx2 nd2 ⊢
  have F2 := fr_keptT F (Ps := [167]) (List.forall_mem_cons.mpr ⟨⟨h167.2.2, h167.2.1⟩, fun _ h => nomatch h⟩) k2
  obtain ⟨ps2, hps2⟩ := T2 167 (.head _)
  have N2 : News h₀ L h₂ [(l, LCg.lst [.ref x1, .ref x2]), (x1, ox1), (d1, emptyDict), (x2, ox2), (d2, emptyDict), (L + 1 + 1, oI), (L + 1, oS), (y, instObj 348 dy), (dy, dictOf (base348At w t0 t1) 2), (340, tabObj #[]), (167, tabObj ps2)] :=
    List.forall_mem_cons.mpr ⟨new_at F nl hl, List.forall_mem_cons.mpr ⟨new_at F nx1 hox1, List.forall_mem_cons.mpr ⟨new_at F nd1 hd1, List.forall_mem_cons.mpr ⟨new_at F nx2 hox2, List.forall_mem_cons.mpr ⟨new_at F nd2 hd2, List.forall_mem_cons.mpr ⟨⟨k2 _ _ (by simpa using c1) (N (L + 1 + 1, oI) (by k_mem)).1, (N (L + 1 + 1, oI) (by k_mem)).2⟩, List.forall_mem_cons.mpr ⟨⟨k2 _ _ (by simpa using c2) (N (L + 1, oS) (by k_mem)).1, (N (L + 1, oS) (by k_mem)).2⟩, List.forall_mem_cons.mpr ⟨⟨k2 _ _ (by simpa using ne_y') (N (y, instObj 348 dy) (by k_mem)).1, (N (y, instObj 348 dy) (by k_mem)).2⟩, List.forall_mem_cons.mpr ⟨⟨k2 _ _ (by simpa using ne_dy') (N (dy, dictOf (base348At w t0 t1) 2) (by k_mem)).1, (N (dy, dictOf (base348At w t0 t1) 2) (by k_mem)).2⟩, List.forall_mem_cons.mpr ⟨⟨k2 _ _ (by simpa using ne_tt) (N (340, tabObj #[]) (by k_mem)).1, (N (340, tabObj #[]) (by k_mem)).2⟩, List.forall_mem_cons.mpr ⟨⟨hps2, h167.2⟩, fun _ h => nomatch h⟩⟩⟩⟩⟩⟩⟩⟩⟩⟩⟩
  have m0 : @Ne Nat (L + 1 + 1) l := ne_live N nl (L + 1 + 1, oI) (by k_mem)
  have m1 : @Ne Nat (L + 1) l := ne_live N nl (L + 1, oS) (by k_mem)
  have m2 : @Ne Nat (y) l := ne_live N nl (y, instObj 348 dy) (by k_mem)
  have m3 : @Ne Nat (dy) l := ne_live N nl (dy, dictOf (base348At w t0 t1) 2) (by k_mem)
  have m4 : @Ne Nat (340) l := ne_live N nl (340, tabObj #[]) (by k_mem)
  have m5 : @Ne Nat (167) l := ne_live N nl (167, tabObj #[]) (by k_mem)
  have m6 : @Ne Nat (L + 1 + 1) x1 := ne_live N nx1 (L + 1 + 1, oI) (by k_mem)
  have m7 : @Ne Nat (L + 1) x1 := ne_live N nx1 (L + 1, oS) (by k_mem)
  have m8 : @Ne Nat (y) x1 := ne_live N nx1 (y, instObj 348 dy) (by k_mem)
  have m9 : @Ne Nat (dy) x1 := ne_live N nx1 (dy, dictOf (base348At w t0 t1) 2) (by k_mem)
  have m10 : @Ne Nat (340) x1 := ne_live N nx1 (340, tabObj #[]) (by k_mem)
  have m11 : @Ne Nat (167) x1 := ne_live N nx1 (167, tabObj #[]) (by k_mem)
  have m12 : @Ne Nat (L + 1 + 1) d1 := ne_live N nd1 (L + 1 + 1, oI) (by k_mem)
  have m13 : @Ne Nat (L + 1) d1 := ne_live N nd1 (L + 1, oS) (by k_mem)
  have m14 : @Ne Nat (y) d1 := ne_live N nd1 (y, instObj 348 dy) (by k_mem)
  have m15 : @Ne Nat (dy) d1 := ne_live N nd1 (dy, dictOf (base348At w t0 t1) 2) (by k_mem)
  have m16 : @Ne Nat (340) d1 := ne_live N nd1 (340, tabObj #[]) (by k_mem)
  have m17 : @Ne Nat (167) d1 := ne_live N nd1 (167, tabObj #[]) (by k_mem)
  have m18 : @Ne Nat (L + 1 + 1) x2 := ne_live N nx2 (L + 1 + 1, oI) (by k_mem)
  have m19 : @Ne Nat (L + 1) x2 := ne_live N nx2 (L + 1, oS) (by k_mem)
  have m20 : @Ne Nat (y) x2 := ne_live N nx2 (y, instObj 348 dy) (by k_mem)
  have m21 : @Ne Nat (dy) x2 := ne_live N nx2 (dy, dictOf (base348At w t0 t1) 2) (by k_mem)
  have m22 : @Ne Nat (340) x2 := ne_live N nx2 (340, tabObj #[]) (by k_mem)
  have m23 : @Ne Nat (167) x2 := ne_live N nx2 (167, tabObj #[]) (by k_mem)
  have m24 : @Ne Nat (L + 1 + 1) d2 := ne_live N nd2 (L + 1 + 1, oI) (by k_mem)
  have m25 : @Ne Nat (L + 1) d2 := ne_live N nd2 (L + 1, oS) (by k_mem)
  have m26 : @Ne Nat (y) d2 := ne_live N nd2 (y, instObj 348 dy) (by k_mem)
  have m27 : @Ne Nat (dy) d2 := ne_live N nd2 (dy, dictOf (base348At w t0 t1) 2) (by k_mem)
  have m28 : @Ne Nat (340) d2 := ne_live N nd2 (340, tabObj #[]) (by k_mem)
  have m29 : @Ne Nat (167) d2 := ne_live N nd2 (167, tabObj #[]) (by k_mem)
  clear F N
  k_steps
  rename News _ _ _ _ => N
  rename Fr _ _ _ _ => F
  refine Pays.useM N (by k_mem) (ct_inter (c := cntN ns ns.length) (e := cntN ms ms.length) ⟨d1, ox1, ep1, (N (x1, ox1) (by k_mem)).1, ob1, (N (d1, emptyDict) (by k_mem)).1, le1, sx1⟩ ⟨d2, ox2, ep2, (N (x2, ox2) (by k_mem)).1, ob2, (N (d2, emptyDict) (by k_mem)).1, le2, sx2⟩ (On.of X T₀ F) (room_deep (H.less (by omega) (by omega)))) ?_
  intro v h3 tk3 st3 hv
  obtain ⟨z, rfl, dz, ⟨oz, epz, hoz, obz, hdz, lez, sz⟩, nz, ndz, ltz⟩ := hv
  dsimp only at st3 hoz hdz nz ndz ⊢
  obtain ⟨N6, ne6⟩ := news_new F N st3 hdz ndz
  obtain ⟨N7, ne7⟩ := news_new F N st3 hoz nz
  have F3 := fr_stay F st3
  have N8 : News h₀ L h3 [(z, oz), (dz, emptyDict), (l, LCg.lst [.ref x1, .ref x2]), (x1, ox1), (d1, emptyDict), (x2, ox2), (d2, emptyDict), (L + 1 + 1, oI), (L + 1, oS), (y, instObj 348 dy), (dy, dictOf (base348At w t0 t1) 2), (340, tabObj #[]), (167, tabObj ps2)] :=
    List.forall_mem_cons.mpr ⟨N7 _ (.head _), List.forall_mem_cons.mpr ⟨N6 _ (.head _), List.forall_mem_cons.mpr ⟨N7 (l, LCg.lst [.ref x1, .ref x2]) (by k_mem), List.forall_mem_cons.mpr ⟨N7 (x1, ox1) (by k_mem), List.forall_mem_cons.mpr ⟨N7 (d1, emptyDict) (by k_mem), List.forall_mem_cons.mpr ⟨N7 (x2, ox2) (by k_mem), List.forall_mem_cons.mpr ⟨N7 (d2, emptyDict) (by k_mem), List.forall_mem_cons.mpr ⟨N7 (L + 1 + 1, oI) (by k_mem), List.forall_mem_cons.mpr ⟨N7 (L + 1, oS) (by k_mem), List.forall_mem_cons.mpr ⟨N7 (y, instObj 348 dy) (by k_mem), List.forall_mem_cons.mpr ⟨N7 (dy, dictOf (base348At w t0 t1) 2) (by k_mem), List.forall_mem_cons.mpr ⟨N7 (340, tabObj #[]) (by k_mem), List.forall_mem_cons.mpr ⟨N7 (167, tabObj ps2) (by k_mem), fun _ h => nomatch h⟩⟩⟩⟩⟩⟩⟩⟩⟩⟩⟩⟩⟩
  have y0 : @Ne Nat (l) z := ne7 (l, LCg.lst [.ref x1, .ref x2]) (by k_mem)
  have z0 : @Ne Nat (l) dz := ne6 (l, LCg.lst [.ref x1, .ref x2]) (by k_mem)
  have y1 : @Ne Nat (x1) z := ne7 (x1, ox1) (by k_mem)
  have z1 : @Ne Nat (x1) dz := ne6 (x1, ox1) (by k_mem)
  have y2 : @Ne Nat (d1) z := ne7 (d1, emptyDict) (by k_mem)
  have z2 : @Ne Nat (d1) dz := ne6 (d1, emptyDict) (by k_mem)
  have y3 : @Ne Nat (x2) z := ne7 (x2, ox2) (by k_mem)
  have z3 : @Ne Nat (x2) dz := ne6 (x2, ox2) (by k_mem)
  have y4 : @Ne Nat (d2) z := ne7 (d2, emptyDict) (by k_mem)
  have z4 : @Ne Nat (d2) dz := ne6 (d2, emptyDict) (by k_mem)
  have y5 : @Ne Nat (L + 1 + 1) z := ne7 (L + 1 + 1, oI) (by k_mem)
  have z5 : @Ne Nat (L + 1 + 1) dz := ne6 (L + 1 + 1, oI) (by k_mem)
  have y6 : @Ne Nat (L + 1) z := ne7 (L + 1, oS) (by k_mem)
  have z6 : @Ne Nat (L + 1) dz := ne6 (L + 1, oS) (by k_mem)
  have y7 : @Ne Nat (y) z := ne7 (y, instObj 348 dy) (by k_mem)
  have z7 : @Ne Nat (y) dz := ne6 (y, instObj 348 dy) (by k_mem)
  have y8 : @Ne Nat (dy) z := ne7 (dy, dictOf (base348At w t0 t1) 2) (by k_mem)
  have z8 : @Ne Nat (dy) dz := ne6 (dy, dictOf (base348At w t0 t1) 2) (by k_mem)
  have y9 : @Ne Nat (340) z := ne7 (340, tabObj #[]) (by k_mem)
  have z9 : @Ne Nat (340) dz := ne6 (340, tabObj #[]) (by k_mem)
  have y10 : @Ne Nat (167) z := ne7 (167, tabObj ps2) (by k_mem)
  have z10 : @Ne Nat (167) dz := ne6 (167, tabObj ps2) (by k_mem)
  have zz : @Ne Nat dz z := Nat.ne_of_lt ltz
  clear F N N6 N7 ne6 ne7
  k_steps
  rename News _ _ _ _ => N
  rename Fr _ _ _ _ => F
  rename_i h8 oI2 dI2
  have h340 := N (340, tabObj #[]) (by k_mem)
  have b1 : @Ne Nat (L + 1 + 1) 340 := Nat.ne_of_gt (Nat.lt_succ_of_lt (Nat.lt_succ_of_lt l2.2.2.2.1))
  have b2 : @Ne Nat (L + 1) 340 := Nat.ne_of_gt (Nat.lt_succ_of_lt l2.2.2.2.1)
  have n_x1 : @Ne Nat x1 340 := by k_ne
  have n_d1 : @Ne Nat d1 340 := by k_ne
  have n_x2 : @Ne Nat x2 340 := by k_ne
  have n_d2 : @Ne Nat d2 340 := by k_ne
  have n_z : @Ne Nat z 340 := by k_ne
  have n_dz : @Ne Nat dz 340 := by k_ne
  have hd1 := H.dp
  have hu1 := H.un
  have room : (A.deeper (envOfC (Str.ofString "") default L 345 (Value.ref 344))).depth < recursionLimit := Nat.lt_of_le_of_lt (Nat.le_add_right _ _) (room_deep (env := envOfC (Str.ofString "") default L 345 (Value.ref 344)) (H.less (d' := 2) (u' := 20) (by omega) (by omega))).dp
  refine genexp_H (c := 344) (P := 340) (ps := #[]) F T₀ h340.2.2 (codeHd_of_K X (by kernel_rfl)) rfl rfl trivial rfl hh rfl rfl (by decide) rfl rfl rfl room ?_ (fun _ => rfl)
  k_steps
  refine src_list hh F ⟨_, (N (l, LCg.lst [.ref x1, .ref x2]) (by k_mem)).1, rfl, _, rfl⟩ h340.1 l2.2.2.2.1 B2 (F := fun i v => ∃ t, v = .int (if i = 0 then sumC (subC (cntN ns ns.length) (andC (cntN ns ns.length) (cntN ms ms.length))) else sumC (subC (cntN ms ms.length) (andC (cntN ns ns.length) (cntN ms ms.length)))) t) ?el ?_
  (case el =>
    intro c' C A' E' i v t m₂ hA hd hu hv Fc hm hLC hsC old
    have hd' : A'.depth ≤ A.depth + 1 + 1 := hd
    have hu' : A'.units ≤ A.units + 3 + 8 := hu
    clear hd hu
    have N' : News h₀ C t.heap [(L + 1, oS), (L + 1 + 1, oI2), (y, instObj 348 dy), (dy, dictOf (base348At w t0 t1) 2)] :=
      List.forall_mem_cons.mpr ⟨⟨old _ _ b2 (N (L + 1, oS) (by k_mem)).1, Nat.ne_of_lt (Nat.lt_of_lt_of_le (Heap.lt_size (N (L + 1, oS) (by k_mem)).1) hsC), (N (L + 1, oS) (by k_mem)).2.2⟩, List.forall_mem_cons.mpr ⟨⟨old _ _ b1 (N (L + 1 + 1, oI2) (by k_mem)).1, Nat.ne_of_lt (Nat.lt_of_lt_of_le (Heap.lt_size (N (L + 1 + 1, oI2) (by k_mem)).1) hsC), (N (L + 1 + 1, oI2) (by k_mem)).2.2⟩, List.forall_mem_cons.mpr ⟨⟨old _ _ ne_y (N (y, instObj 348 dy) (by k_mem)).1, Nat.ne_of_lt (Nat.lt_of_lt_of_le (Heap.lt_size (N (y, instObj 348 dy) (by k_mem)).1) hsC), (N (y, instObj 348 dy) (by k_mem)).2.2⟩, List.forall_mem_cons.mpr ⟨⟨old _ _ ne_dy (N (dy, dictOf (base348At w t0 t1) 2) (by k_mem)).1, Nat.ne_of_lt (Nat.lt_of_lt_of_le (Heap.lt_size (N (dy, dictOf (base348At w t0 t1) 2) (by k_mem)).1) hsC), (N (dy, dictOf (base348At w t0 t1) 2) (by k_mem)).2.2⟩, fun _ h => nomatch h⟩⟩⟩⟩
    rcases i with _ | _ | i
    · simp at hv
      subst hv
      refine wpAny_mono (bag_elt (by rfl) X T₀ ⟨hA, by omega, by omega⟩ rfl rfl rfl rfl rfl rfl Fc hm dS dI2 lt N' ⟨d1, ox1, ep1, old _ _ n_x1 (N (x1, ox1) (by k_mem)).1, ob1, old _ _ n_d1 (N (d1, emptyDict) (by k_mem)).1, le1, sx1⟩ ⟨dz, oz, epz, old _ _ n_z (N (z, oz) (by k_mem)).1, obz, old _ _ n_dz (N (dz, emptyDict) (by k_mem)).1, lez, sz⟩) (fun v s' q => ⟨q.1, q.2⟩) fun _ _ e => e
    · simp at hv
      subst hv
      refine wpAny_mono (bag_elt (by rfl) X T₀ ⟨hA, by omega, by omega⟩ rfl rfl rfl rfl rfl rfl Fc hm dS dI2 lt N' ⟨d2, ox2, ep2, old _ _ n_x2 (N (x2, ox2) (by k_mem)).1, ob2, old _ _ n_d2 (N (d2, emptyDict) (by k_mem)).1, le2, sx2⟩ ⟨dz, oz, epz, old _ _ n_z (N (z, oz) (by k_mem)).1, obz, old _ _ n_dz (N (dz, emptyDict) (by k_mem)).1, lez, sz⟩) (fun v s' q => ⟨q.1, q.2⟩) fun _ _ e => e
    · simp at hv)
  intro ga h9 tk9 g9 ps9 F9 B9 k9 P9 G9
  dsimp only
  k_steps
  refine max_gen F9 B9 G9 (by show 0 < 2; decide) (fun i => if i = 0 then sumC (subC (cntN ns ns.length) (andC (cntN ns ns.length) (cntN ms ms.length))) else sumC (subC (cntN ms ms.length) (andC (cntN ns ns.length) (cntN ms ms.length)))) (fun j v h => h) ?_
  intro h10 tk10 g10 j t10 F10 B10 k10 hj hmax
  have N10 : News h₀ L h10 [(y, instObj 348 dy), (dy, dictOf (base348At w t0 t1) 2), (340, tabObj ps9), (167, tabObj ps2)] :=
    List.forall_mem_cons.mpr ⟨⟨k10 _ _ (Nat.le_of_lt l2.2.1) (k9 _ _ ne_y (N (y, instObj 348 dy) (by k_mem)).1), (N (y, instObj 348 dy) (by k_mem)).2⟩, List.forall_mem_cons.mpr ⟨⟨k10 _ _ (Nat.le_of_lt l2.2.2.1) (k9 _ _ ne_dy (N (dy, dictOf (base348At w t0 t1) 2) (by k_mem)).1), (N (dy, dictOf (base348At w t0 t1) 2) (by k_mem)).2⟩, List.forall_mem_cons.mpr ⟨⟨k10 _ _ (Nat.le_of_lt l2.2.2.2.1) P9, h340.2⟩, List.forall_mem_cons.mpr ⟨⟨k10 _ _ (Nat.le_of_lt l2.2.2.2.2) (k9 _ _ (Ne.symm ne_tt) (N (167, tabObj ps2) (by k_mem)).1), (N (167, tabObj ps2) (by k_mem)).2⟩, fun _ h => nomatch h⟩⟩⟩⟩
  dsimp only
  have bt := back_tab2 back ne_y ne_dy ne_y' ne_dy' F10.keep N10 (by k_mem) (by k_mem) (by k_mem) (by k_mem)
  refine hR _ _ _ _ bt.1 bt.2 B10 ⟨t10, congrArg (fun z => Value.int z t10) ?_⟩
  exact max_two _ _ j hj hmax

end
end Mine
end
set_option maxHeartbeats 4000000
/- part Mk14 -/
section
namespace Mine
theorem fillMk14 : (PySem.Challenge.rw_br0041_01 = PySem.Challenge.rw_br0041_01 ∧ hd.heap_39 = hd.heap_39) := by
  k_fill
  exact ⟨rfl, rfl⟩
section
variable {prog : Program} {w : World} {A : Around} {s : Shared} {p : Program} {loose : List Str} {mean : ExcName → Option Value} {mg mb : Str → Option Value} {g : Heap}
local macro_rules | `(tactic| walk_at "pyIter ref") => `(tactic| (k_here; refine stop_it ?_))
local macro_rules | `(tactic| walk_at "call ref") => `(tactic| (k_here; refine stop_it ?_))
local macro_rules | `(tactic| walk_at "setItem ref ref") => `(tactic| (k_here; refine stop_it ?_))
local macro_rules | `(tactic| walk_at "exec For Tuple") => `(tactic| (k_here; refine stop_it ?_))
local macro_rules | `(tactic| walk_at "getMethod ref") => `(tactic| (k_here; k_dflt (first
  | (refine' kmu_own ?k1 ?k2 ?k3 ?k4 ?k5 ?_; (case k1 => k_asm); (case k2 => k_asm); (case k3 => k_inst); (case k4 => k_is); (case k5 => k_is); k_whole)
  | (refine' method_inst ?k1 ?k2 ?k3 ?k4 ?k5 ?k6 ?k7 ?_; (case k1 => k_asm); (case k2 => k_asm); (case k3 => k_inst); (case k4 => k_is); (case k5 => k_is); (case k6 => k_is); (case k7 => k_get); k_whole))))
local macro_rules | `(tactic| walk_at "last getAttr ref") => `(tactic| (k_here; k_dflt (refine' attr_sm ?k1 ?k2 ?k4 ?k5 ?k6 ?k7 ?k9 ?k10 ?k11 ?k12 ?k13 ?k14 ?_; (case k1 => k_asm); (case k2 => k_asm); (case k4 => k_inst); (case k5 => k_is); (case k6 => k_is); (case k7 => k_is); (case k9 => k_is); (case k10 => k_is); (case k11 => decide +kernel); (case k12 => k_get); (case k13 => k_is); (case k14 => k_handed); k_whole)))
local macro_rules | `(tactic| walk_at "last eval Call Attribute") => `(tactic| (k_here; refine methodCall_S ?_))
local macro_rules | `(tactic| walk_at "eval Call Attribute") => `(tactic| (k_here; (with_reducible show wpAny _ _ (eval (Expr.Call (Expr.Attribute _ _ _) [Expr.Starred _ _] [] _) _) _ _ _); refine methodCall_S ?_))
local macro_rules | `(tactic| walk_at "call builtin:len") => `(tactic| (k_here; refine' len_TupAt ?k1 ?k2 ?_; (case k1 => k_asm); (case k2 => k_asm); intro _ _; k_whole))
local macro_rules | `(tactic| walk_at "getItem ref int") => `(tactic| (k_here; refine' getItem_TupAt ?k1 ?k2 ?k3 ?_; (case k1 => k_asm); (case k2 => k_asm); (case k3 => omega); intro _; k_whole))
local macro_rules | `(tactic| walk_at "subscriptTail") => `(tactic| (k_here; first
  | (refine' item_TupAt ?k1 ?k2 ?k3 ?_; (case k1 => k_asm); (case k2 => k_asm); (case k3 => omega); intro _; k_whole)
  | (refine' item_fn ?k1 ?k2 ?k3 ?k4 ?_; (case k1 => k_asm); (case k2 => k_mem); (case k3 => with_reducible assumption); (case k4 => omega); intro _; k_whole)))
local macro_rules | `(tactic| walk_at "call builtin:min") => `(tactic| (k_here; (with_reducible show wpAny _ _ (call (Value.builtin "min") [Value.int _ _, Value.int _ _]) _ _ _); (rename Around.handled _ = none => hX); refine' min2N hX ?k2 ?k3 ?_; (case k2 => k_asm); (case k3 => k_asm); k_whole; intro h' tk' t' F' N'))
local macro_rules | `(tactic| walk_at "call builtin:min") => `(tactic| (k_here; (with_reducible show wpAny _ _ (call (Value.builtin "min") [Value.int _ _, Value.int _ _, Value.int _ _]) _ _ _); (rename Around.handled _ = none => hX); refine' min3N hX ?k2 ?k3 ?_; (case k2 => k_asm); (case k3 => k_asm); k_whole; intro h' tk' t' F' N'))
local macro_rules | `(tactic| walk_at "call builtin:min") => `(tactic| (k_here; (with_reducible show wpAny _ _ (call (Value.builtin "min") [Value.int _ _, Value.int _ _, Value.int _ _, Value.int _ _]) _ _ _); (rename Around.handled _ = none => hX); refine' min4N hX ?k2 ?k3 ?_; (case k2 => k_asm); (case k3 => k_asm); k_whole; intro h' tk' t' F' N'))
local macro_rules | `(tactic| walk_at "setItem ref int int") => `(tactic| (k_here; refine' setItem_fn ?k1 ?k2 ?k3 ?k4 ?k5 ?_; (case k1 => k_asm); (case k2 => k_asm); (case k3 => k_upd); (case k4 => with_reducible assumption); (case k5 => omega); k_whole; intro h' F' N' i'))
local macro_rules | `(tactic| walk_at "assign Tuple") => `(tactic| (k_here; (with_reducible show wpAny _ _ (assign (Expr.Tuple _ _ _) _ (Value.ref _)) _ _ _); k_dflt (refine' kun_list ?k1 ?k2 ?k3 ?k4 ?k5 ?k6 ?_; (case k1 => k_asm); (case k2 => k_asm); (case k3 => kun_lst); (case k4 => assumption); (case k5 => exact rfl); (case k6 => exact rfl); k_whole); intro h' F' N'; (try k_sweep)))
local macro_rules | `(tactic| walk_at "assign Tuple") => `(tactic| (k_here; (with_reducible show wpAny _ _ (assign (Expr.Tuple _ _ _) _ (Value.ref _)) _ _ _); k_dflt (refine' unpackN_ ?k1 ?k2 ?k3 ?k4 ?k5 ?k6 ?_; (case k1 => k_asm); (case k2 => k_asm); (case k3 => kun_tup); (case k4 => assumption); (case k5 => exact rfl); (case k6 => exact rfl); k_whole); intro h' F' N'; (try k_sweep)))
local macro_rules | `(tactic| walk_at "unpackItems ref") => `(tactic| (k_here; k_dflt (refine' unpackItemsN_ ?k1 ?k2 ?k3 ?k4 ?k5 ?_; (case k1 => k_asm); (case k2 => k_asm); (case k3 => kun_tup); (case k4 => assumption); (case k5 => exact rfl); k_whole); intro h' F' N'; (try k_sweep)))
local macro_rules | `(tactic| walk_at "call type:list") => `(tactic| (k_here; refine' list_range_N ?k0 ?k1 ?k2 ?k3 ?k4 ?k5 ?k6 ?_; (case k1 => k_asm); (case k2 => k_asm); (case k0 => assumption); (case k3 => assumption); (case k4 => omega); (case k5 => exact small_one (by omega) (by omega) (by omega) (by omega)); (case k6 => omega); intro D' h' tk' vs' k' F' N' l1 i1; (try k_lt l1)))
local macro_rules | `(tactic| k_ne) => `(tactic| first | with_reducible assumption | (refine Ne.symm ?_; with_reducible assumption) | (refine neN ?_; (try dsimp only); omega))
theorem dist_bag {y dy a b : Addr} {ns ms : List Int} {t0 t1 : Tok} (ha : TupAt g a ns) (hb : TupAt g b ms) (I : Inst g s.heap y 348 dy (base348At w t0 t1) 2) (O : On w p loose mean mg mb g s.heap) (tb : Tab g s.heap 340) (tb' : Tab g s.heap 167) (H : Room A 18 180) :
    PaysT prog w A (.call (.ref 122) ⟨[.ref y, .ref a, .ref b], []⟩) s [340, 167] (fun v _ => ∃ t, v = .int (bagD ns ms) t) := by
  w_top off
  intro bare R hR
  have lt := I.lt
  have ne_y := ne_tab I.o tb nofun
  have ne_dy := ne_tab I.d tb nofun
  have ne_y' := ne_tab I.o tb' nofun
  have ne_dy' := ne_tab I.d tb' nofun
  have ne_tt : @Ne Nat 340 167 := by decide
  refine' enterRG [(y, instObj 348 dy), (dy, dictOf (base348At w t0 t1) 2), (340, tabObj #[]), (167, tabObj #[])] (vs := [.ref a, .ref b]) (bindsR := fun D => [(Str.ofString "self", .ref y), (Str.ofString "sequences", .ref D)]) O ?hg ?hown ?ho ?hcd ?hroom ?hv ?hp ?hgr ?hl ?body ?hcell ?c1 ?c2 ?c3
  (case hg => exact own_noneT2 I tb tb')
  (case hown => exact own_atT2 I tb tb')
  (case ho => k_is)
  (case hcd => k_is)
  (case hroom => have := Room.dp (by assumption); omega)
  (case hl => exact fun _ => locs rfl)
  (case hcell => decide)
  (case c1 => exact rfl)
  (case c2 => exact rfl)
  (case c3 => exact rfl)
  (case hv => exact rfl)
  (case hp => exact rfl)
  (case hgr => exact fun _ => rfl)
  intro D h₀ L h₁ gst X T back F N l1
  (try k_lt l1)
  (try k_fold)
  rename Top _ _ _ _ _ _ => T
  have ha₀ := ha.keeps gst
  have hb₀ := hb.keeps gst
  have hh := H.hh
  k_steps
  refine callWith_XS (ox := instObj 348 dy) rfl ?_
  k_steps
  · rename News _ _ _ _ => N
    exact (N (y, instObj 348 dy) (by k_mem)).1
  rename News _ _ _ _ => N
  rename Fr _ _ _ _ => F
  have J := inst_of N (by k_mem) (by k_mem) lt
  refine wpAny_call ?_
  refine' kco_code ?k1 ?k2 ?k3 ?k4 ?k5 ?k6 ?k7
  (case k1 => k_in)
  (case k2 => k_inst)
  (case k3 => rfl)
  (case k4 => k_is)
  (case k5 => k_is)
  (case k6 => k_is)
  have n340 := N (340, tabObj #[]) (by k_mem)
  have n167 := N (167, tabObj #[]) (by k_mem)
  refine bag_call ha₀ hb₀ J (On.of X T F) ⟨n340.1, n340.2.2⟩ ⟨n167.1, n167.2.2⟩ (room_deep (H.less (by omega) (by omega))) (by exact bare) _ ?_
  intro v h₃ tk₃ g₃ k3 T3 B3 hv
  obtain ⟨t, rfl⟩ := hv
  dsimp only at k3 ⊢
  have F3 := fr_keptT F (Ps := [340, 167]) (List.forall_mem_cons.mpr ⟨⟨n340.2.2, n340.2.1⟩, List.forall_mem_cons.mpr ⟨⟨n167.2.2, n167.2.1⟩, fun _ h => nomatch h⟩⟩) k3
  obtain ⟨ps, hps⟩ := T3 340 (.head _)
  obtain ⟨ps', hps'⟩ := T3 167 (.tail _ (.head _))
  have N3 : News h₀ L h₃ [(y, instObj 348 dy), (dy, dictOf (base348At w t0 t1) 2), (340, tabObj ps), (167, tabObj ps')] :=
    List.forall_mem_cons.mpr ⟨⟨k3 _ _ (by simp; exact ⟨ne_y, ne_y'⟩) (N (y, instObj 348 dy) (by k_mem)).1, (N (y, instObj 348 dy) (by k_mem)).2⟩, List.forall_mem_cons.mpr ⟨⟨k3 _ _ (by simp; exact ⟨ne_dy, ne_dy'⟩) (N (dy, dictOf (base348At w t0 t1) 2) (by k_mem)).1, (N (dy, dictOf (base348At w t0 t1) 2) (by k_mem)).2⟩, List.forall_mem_cons.mpr ⟨⟨hps, n340.2⟩, List.forall_mem_cons.mpr ⟨⟨hps', n167.2⟩, fun _ h => nomatch h⟩⟩⟩⟩
  have bt := back_tab2 back ne_y ne_dy ne_y' ne_dy' F3.keep N3 (by k_mem) (by k_mem) (by k_mem) (by k_mem)
  exact hR _ _ _ _ bt.1 bt.2 B3 ⟨_, rfl⟩
end
end Mine
end
set_option maxHeartbeats 4000000
/- part Mw0 -/
section
namespace Mine
theorem fillMw0 : (PySem.Challenge.rw_br0041_01 = PySem.Challenge.rw_br0041_01 ∧ hd.heap_39 = hd.heap_39) := by
  k_fill
  exact ⟨rfl, rfl⟩
/-- a law's good end, its generators bare -/
def GoodWB (c : ClaimW) (cl : Str → Option Addr) (mean : ExcName → Option Value) (args : List WData) (s₁ : Shared) (res : Result) (s' : Shared) : Prop :=
  (∃ v d as, res = .ok (.ret v) ∧ (∀ cls, c.raises args cls = false) ∧ ReadsW c.records cl s'.heap v d as ∧ c.post args d args = true ∧ (c.unshared = true → as.Nodup ∧ ∀ a ∈ as, s₁.heap.get? a = none)) ∧
  (∀ b o, s₁.heap.get? b = some o → s'.heap.get? b = some o) ∧ s'.os = s₁.os ∧ AllBare s'.gens
theorem kn_postB {M : Model} {A : Around} {cd : Code} {s s₁ : Shared} {cw : ClaimW} {cl : Str → Option Addr} {mean : ExcName → Option Value} {args : List WData} {tabs : List (Addr × Addr)} (hT : TabsAt tabs s₁.heap)
    (h : codeAny M A cd (fun r s' => GoodWB cw cl mean args { s₁ with heap := ghostOf s₁.heap tabs } r s' ∧ GrownAll tabs s'.heap) s) : codeAny M A cd (GoodWG cw cl mean args s₁) s :=
  codeAny_mono h fun r s' ⟨⟨hc, hk, hos, hg⟩, hgr⟩ => by
    have keep : ∀ b o, b ∉ tabs.map (·.2) → s₁.heap.get? b = some o → s'.heap.get? b = some o := fun b o hb e => hk b o (ghost_ne e hb)
    have grown : ∀ b o, b ∈ tabs.map (·.2) → s₁.heap.get? b = some o → isCodeTable s₁.heap b ∧ o = tabObj #[] ∧ ∃ ps, s'.heap.get? b = some (tabObj ps) := fun b o hb e => by
      obtain ⟨q, hq, rfl⟩ := List.mem_map.mp hb
      have e2 := (hT q hq).2
      rw [e] at e2
      exact ⟨((hT q hq).1.tab (hT q hq).2).isCodeTable, Option.some.inj e2, hgr.get q hq⟩
    refine ⟨?_, ⟨fun b o e => ?_, fun b o e => ?_⟩, hos, hg⟩
    · obtain ⟨v, d, as, r1, r2, r3, r4, r5⟩ := hc
      refine .inl ⟨v, d, as, r1, r2, r3, r4, fun q => ⟨(r5 q).1, fun a ha => ?_⟩⟩
      cases q1 : s₁.heap.get? a with
      | none => rfl
      | some o =>
        by_cases hb : a ∈ tabs.map (·.2)
        · obtain ⟨_, _, ps, hP⟩ := grown a o hb q1
          exact absurd ha (readsW_apart hP rfl r3)
        · have e3 := (r5 q).2 a ha
          rw [show (ghostOf s₁.heap tabs).get? a = some o from ghost_ne q1 hb] at e3
          cases e3
    · by_cases hb : b ∈ tabs.map (·.2)
      · obtain ⟨ht, rfl, ps, hP⟩ := grown b o hb e
        exact .inr (.inl ⟨ht, rfl, #[], ps, rfl, by rw [Array.empty_append]; exact hP⟩)
      · exact .inl (keep b o hb e)
    · by_cases hb : b ∈ tabs.map (·.2)
      · obtain ⟨_, _, ps, hP⟩ := grown b o hb e
        exact ⟨_, hP⟩
      · exact ⟨o, keep b o hb e⟩
end Mine
end
set_option maxHeartbeats 4000000
/- part Ml3 -/
section
namespace Mine
theorem fillMl3 : (PySem.Challenge.rw_br0041_01 = PySem.Challenge.rw_br0041_01 ∧ hd.heap_39 = hd.heap_39) := by
  k_fill
  exact ⟨rfl, rfl⟩
section
variable {prog : Program} {w : World} {A : Around} {E : Value → Shared → Prop} {s : Shared} {env : Env} {h₀ : Heap} {x : Str} {body : List Stmt} {Q : Flow → Shared → Prop}
theorem loop_stL {σ : Type} {I : Addr} {fp : List Addr} {n : Nat} {P : Nat → Value → Prop} {St : Nat → Heap → Prop} (W : Walks prog w A I fp [I] n P St) (hI : h₀.get? I = none) (hL : env.locals ≠ I)
    (hLf : env.locals ∉ fp) (hlive : ∀ i h, St i h → ∃ o, h.get? I = some o)
    (ps : σ → List (Str × Option Value)) (Led : σ → List (Addr × Obj)) (Inv : Nat → σ → Prop) (c₀ : σ) (hfp : ∀ b ∈ fp, b = I ∨ (∃ o, h₀.get? b = some o) ∨ ∃ o, ∀ c, (b, o) ∈ Led c) (hst : St 0 s.heap) (hne : ∀ p ∈ Led c₀, p.1 ≠ I) (F : Fr h₀ env.locals s.heap (envM (ps c₀))) (N : News h₀ env.locals s.heap (Led c₀)) (h0 : Inv 0 c₀)
    (turn : ∀ i v c h tk ob, i < n → P i v → Inv i c → (∀ p ∈ Led c, p.1 ≠ I) → Fr h₀ env.locals h (envM (setP x v (ps c))) → News h₀ env.locals h ((I, ob) :: Led c) →
      wpAny (model prog w) A (execs body env) (TurnEnd h₀ env.locals I ob ps Led (Inv (i + 1)) { s with heap := h, toks := tk } Q) E { s with heap := h, toks := tk })
    (done : ∀ c h tk, Inv n c → Fr h₀ env.locals h (envM (ps c)) → News h₀ env.locals h (Led c) → Q .next { s with heap := h, toks := tk }) :
    LoopAtV prog w A h₀ env x body Q E (.ref I) s := by
  have wr1 : ∀ (c : σ), (∀ p ∈ Led c, p.1 ≠ I) → ∀ p ∈ Led c, p.1 ∉ [I] := fun c h p hp hm => h p hp (List.mem_singleton.mp hm)
  refine ⟨I, fp, [I], n, P, St, envM (ps c₀), Led c₀, (fun i m nx => ∃ c, m = envM (ps c) ∧ nx = Led c ∧ Inv i c), rfl, W, hLf, (fun b hb => List.mem_singleton.mp hb ▸ hI), wr1 _ hne, hst, F, N, ⟨c₀, rfl, rfl, h0⟩, ?_, ?_⟩
  · rintro i v m₁ nx s₁ own ⟨hh, tk, rfl⟩ hin hP ⟨c, rfl, rfl, hinv⟩ hoff hsub hget hown hst₁ F₁ N₁
    obtain ⟨ob, hob⟩ := hlive _ _ hst₁
    have hmem : (I, ob) ∈ own := hown I (W.sub I (List.mem_singleton.mpr rfl)) hI ob hob
    rw [envM_set] at F₁
    have only : ∀ q ∈ own, q = (I, ob) ∨ ∀ c, q ∈ Led c := fun q hq => by
      have e2 := hget q hq
      rcases hfp q.1 (hsub q hq) with e | ⟨o, e⟩ | ⟨o, e⟩
      · rw [e] at e2
        exact .inl (Prod.ext e (Option.some.inj (e2.symm.trans hob)))
      · have := (N₁ q (List.mem_append_left _ hq)).2.2
        rw [e] at this; cases this
      · have e3 := (N₁ _ (List.mem_append_right _ (e c))).1
        have e4 : q.2 = o := Option.some.inj (e2.symm.trans e3)
        have e5 : q = (q.1, o) := Prod.ext rfl e4
        exact .inr fun c' => e5 ▸ e c'
    have N₂ : News h₀ env.locals hh ((I, ob) :: Led c) := fun q hq => by
      rcases List.mem_cons.mp hq with rfl | hq
      · exact N₁ _ (List.mem_append_left _ hmem)
      · exact N₁ _ (List.mem_append_right _ hq)
    refine wpAny_mono (turn i v c hh tk ob hin hP hinv (fun p hp e => hoff p hp (List.mem_singleton.mpr e)) F₁ N₂) (fun f s₂ p => ?_) fun _ _ e => e
    have fin : (∃ c h' tk', s₂ = { ({ s with heap := hh, toks := tk } : Shared) with heap := h', toks := tk' } ∧ Inv (i + 1) c ∧ Fr h₀ env.locals h' (envM (ps c)) ∧ News h₀ env.locals h' ((I, ob) :: Led c) ∧ ∀ p ∈ Led c, p.1 ≠ I) →
        LoopStepU h₀ env.locals [I] own (fun m nx => ∃ c, m = envM (ps c) ∧ nx = Led c ∧ Inv (i + 1) c) { s with heap := hh, toks := tk } .next s₂ := by
      rintro ⟨c', h', tk', rfl, hi, F', N', ne⟩
      refine .intro F' (fun q hq => ?_) (wr1 c' ne) ⟨c', rfl, rfl, hi⟩
      rcases List.mem_append.mp hq with hq | hq
      · rcases only q hq with e | e
        · rw [e]; exact N' _ (.head _)
        · exact N' _ (.tail _ (e c'))
      · exact N' _ (.tail _ hq)
    cases f with
    | ret v => exact .ret p
    | brk => exact .brk p
    | next => exact .next (fin p)
    | cont => exact .cont (fin p)
  · rintro h' tk m' nx F' N' _ ⟨c, rfl, rfl, hi⟩
    exact done c h' tk hi F' N'
/-- for x in a new list of ints -/
theorem loop_listL {σ : Type} {S : Addr} {ws : List Value} {k : Nat} {ms : List Int} (ps : σ → List (Str × Option Value)) (Led : σ → List (Addr × Obj)) (Inv : Nat → σ → Prop) (c₀ : σ)
    (hh : A.handled = none) (hS : ∀ c, (S, listOf ws.toArray k) ∈ Led c) (hi : IntsAre ws ms) (F : Fr h₀ env.locals s.heap (envM (ps c₀))) (N : News h₀ env.locals s.heap (Led c₀)) (h0 : Inv 0 c₀)
    (turn : ∀ I i t c h tk ob, i < ms.length → Inv i c → (∀ p ∈ Led c, p.1 ≠ I) → Fr h₀ env.locals h (envM (setP x (.int (ms.getD i 0) t) (ps c))) → News h₀ env.locals h ((I, ob) :: Led c) →
      wpAny (model prog w) A (execs body env) (TurnEnd h₀ env.locals I ob ps Led (Inv (i + 1)) { s with heap := h, toks := tk } Q) E { s with heap := h, toks := tk })
    (done : ∀ c h tk, Inv ms.length c → Fr h₀ env.locals h (envM (ps c)) → News h₀ env.locals h (Led c) → Q .next { s with heap := h, toks := tk }) :
    wpAny (model prog w) A (pyIter (.ref S)) (fun it s₂ => LoopAtV prog w A h₀ env x body Q E it s₂) E s := by
  have hlen : ws.length = ms.length := hi.length
  have z := N _ (hS c₀)
  have hts : s.heap.IsList S ws.toArray := ⟨_, z.1, rfl, _, rfl⟩
  have hLs : env.locals < s.heap.objs.size := F.ns.lt
  have l1 : S ≠ s.heap.objs.size := Nat.ne_of_lt (Heap.lt_size z.1)
  have hLI : env.locals ≠ s.heap.objs.size := Nat.ne_of_lt hLs
  have hsize : ws.toArray.size = ms.length := by simp [hlen]
  refine wpAny_pyIter_list hts ?_
  have W := Walks.list (prog := prog) (w := w) (A := A) hh s.heap.objs.size S l1 ws.toArray
  rw [hsize] at W
  refine loop_stL (σ := σ) W (next_is_new F) hLI (fun hm => ?_) (fun i h st => ?_) ps Led Inv c₀ (fun b hb => ?_)
    ⟨⟨_, Heap.get?_push_size _ rfl, rfl, rfl⟩, Heap.IsList.at hts fun o e => Heap.get?_push_of_some _ e⟩ (fun p hp e => ?_) (F.push _) (fun p hp => ⟨Heap.get?_push_of_some _ (N p hp).1, (N p hp).2⟩) h0 ?_ (fun c h tk => done c h tk)
  · rcases List.mem_cons.mp hm with e | e
    · exact hLI e
    · exact z.2.1 (List.mem_singleton.mp e).symm
  · obtain ⟨⟨o, e, _⟩, _⟩ := st
    exact ⟨o, e⟩
  · rcases List.mem_cons.mp hb with e | e
    · exact .inl e
    · exact .inr (.inr ⟨_, fun c => List.mem_singleton.mp e ▸ hS c⟩)
  · exact absurd (Heap.lt_size (N p hp).1) (e ▸ Nat.lt_irrefl _)
  · rintro i v c h tk ob hi' hP hinv ne F' N'
    obtain ⟨u, hu⟩ := hi.get i ms[i] (by simp [hi'])
    have hv : v = .int ms[i] u := by
      have hP : ws[i]? = some v := by simpa using hP
      rw [hu] at hP; exact (Option.some.inj hP).symm
    subst hv
    have e1 : ms.getD i 0 = ms[i] := by simp [hi']
    exact turn _ i u c h tk ob hi' hinv ne (by rw [e1]; exact F') N'
end
section
variable {prog : Program} {w : World} {A : Around} {E : Value → Shared → Prop} {s : Shared} {h₀ : Heap} {L : Addr} {m : Str → Option Value}
theorem append_K {D : Addr} {vs : List Value} {n : Nat} {v : Value} {Q : Value → Shared → Prop} (pre : List (Addr × Obj)) {post : List (Addr × Obj)} (F : Fr h₀ L s.heap m) (N : News h₀ L s.heap (pre ++ (D, listOf vs.toArray n) :: post)) (a : ∀ p ∈ pre, p.1 ≠ D) (b : ∀ p ∈ post, p.1 ≠ D) (hz : vs.length ≤ 1000)
    (h : ∀ h', Fr h₀ L h' m → News h₀ L h' (pre ++ (D, listOf (vs ++ [v]).toArray (n + 1)) :: post) → Q .none { s with heap := h' }) : wpAny (model prog w) A (call (.builtin "list.append") [.ref D, v]) Q E s := by
  have z := N (D, listOf vs.toArray n) (List.mem_append.mpr (.inr (.head _)))
  have hz' : vs.toArray.size ≤ sizeLine := by rw [sizeLine_eq]; simp; omega
  refine call_meets PySem.F.slot_list_append ⟨_, z.1, rfl⟩ PySem.F.entry_list_append (PySem.F.args_list_append_2 _ _) (PySem.list_append D vs.toArray n v hz')
    ⟨z.1, h _ (F.change (Heap.SameBut.update ..) z.2.1 z.2.2) (ki_turn _ N a b ?_ ?_)⟩
  · apply Array.toList_inj.mp
    simp
  · rw [if_neg]
    simp
end
end Mine
end
set_option maxHeartbeats 4000000
/- part Mq2 -/
section
namespace Mine
theorem fillMq2 : (PySem.Challenge.rw_br0041_01 = PySem.Challenge.rw_br0041_01 ∧ hd.heap_39 = hd.heap_39) := by
  k_fill
  exact ⟨rfl, rfl⟩
section
variable {prog : Program} {w : World} {A : Around} {s : Shared} {p : Program} {loose : List Str} {mean : ExcName → Option Value} {mg mb : Str → Option Value} {g : Heap}
theorem eq_all {ns ms : List Int} : ((List.range (min ns.length ms.length)).all (fun j => decide (ns[j]? = ms[j]?)) && ns.length == ms.length) = decide (ns = ms) := by
  rw [Bool.eq_iff_iff]
  simp only [Bool.and_eq_true, List.all_eq_true, List.mem_range, decide_eq_true_eq, beq_iff_eq]
  constructor
  · rintro ⟨h1, h2⟩
    refine List.ext_getElem? fun j => ?_
    by_cases hj : j < ns.length
    · exact h1 j (by omega)
    · rw [List.getElem?_eq_none (by omega), List.getElem?_eq_none (by omega)]
  · rintro rfl
    exact ⟨fun _ _ => rfl, rfl⟩
theorem ints_eqAt {vs ws : List Value} {ns ms : List Int} (hi : IntsAre vs ns) (hj : IntsAre ws ms) : ∀ j (h1 : j < vs.toArray.size) (h2 : j < ws.toArray.size), SeqAt.EqAt A s vs.toArray[j] ws.toArray[j] (decide (ns[j]? = ms[j]?)) := by
  intro j h1 h2
  have e1 : vs.length = ns.length := hi.length
  have e2 : ws.length = ms.length := hj.length
  have l1 : j < ns.length := by simpa [e1] using h1
  have l2 : j < ms.length := by simpa [e2] using h2
  obtain ⟨t, ht⟩ := hi.get j ns[j] (by simp [l1])
  obtain ⟨u, hu⟩ := hj.get j ms[j] (by simp [l2])
  have a1 : vs.toArray[j] = .int ns[j] t := by
    have : vs[j]'(by omega) = .int ns[j] t := by
      rw [List.getElem?_eq_getElem (by omega)] at ht
      exact Option.some.inj ht
    simpa using this
  have a2 : ws.toArray[j] = .int ms[j] u := by
    have : ws[j]'(by omega) = .int ms[j] u := by
      rw [List.getElem?_eq_getElem (by omega)] at hu
      exact Option.some.inj hu
    simpa using this
  rw [a1, a2, List.getElem?_eq_getElem l1, List.getElem?_eq_getElem l2]
  have e3 : decide (some ns[j] = some ms[j]) = (ns[j] == ms[j]) := by
    rw [Bool.eq_iff_iff]; simp
  rw [e3]
  exact (MeetsSeq.EqGives.int _ _ _ _).at _ _
theorem ne_tups {a b : Addr} {vs ws : List Value} {ns ms : List Int} {E Q : Value → Shared → Prop} (ha : IsTup s.heap a vs.toArray) (hb : IsTup s.heap b ws.toArray) (hi : IntsAre vs ns) (hj : IntsAre ws ms) (hu : A.units < cLine) (h : Q (.bool (decide (ns ≠ ms))) s) :
    wpAny (model prog w) A (compareOp .NotEq (.ref a) (.ref b)) Q E s := by
  refine SeqAt.RcNeAt.tuples (e := fun j => decide (ns[j]? = ms[j]?)) ha hb hu (ints_eqAt hi hj) prog w E Q ?_
  rw [List.size_toArray, List.size_toArray, hi.length, hj.length, eq_all]
  simpa using h
theorem eq_tups {a b : Addr} {vs ws : List Value} {ns ms : List Int} {E Q : Value → Shared → Prop} (ha : IsTup s.heap a vs.toArray) (hb : IsTup s.heap b ws.toArray) (hi : IntsAre vs ns) (hj : IntsAre ws ms) (hu : A.units < cLine) (h : Q (.bool (decide (ns = ms))) s) :
    wpAny (model prog w) A (compareOp .Eq (.ref a) (.ref b)) Q E s := by
  refine SeqAt.RcAt.tuples (e := fun j => decide (ns[j]? = ms[j]?)) ha hb hu (ints_eqAt hi hj) prog w E Q ?_
  rw [List.size_toArray, List.size_toArray, hi.length, hj.length, eq_all]
  exact h
theorem max2 {a b : Int} {t u : Tok} {E Q : Value → Shared → Prop} (hh : A.handled = none) (h : ∀ h' tk t, s.heap.StaysIn h' → Q (.int (max a b) t) { s with heap := h', toks := tk }) :
    wpAny (model prog w) A (call (.builtin "max") [.int a t, .int b u]) Q E s := by
  refine max_two_ints hh fun h' tk k => ?_
  by_cases e : b > a
  · rw [if_pos e]
    have := h h' tk u k
    rwa [show max a b = b by omega] at this
  · rw [if_neg e]
    have := h h' tk t k
    rwa [show max a b = a by omega] at this
theorem pick_one (vs : List Value) (k : Nat) : tupPick vs.toArray (some (k : Int)) (some ((k : Int) + 1)) = (vs[k]?.toList).toArray := by
  have sz : vs.toArray.size = vs.length := List.size_toArray ..
  unfold tupPick
  rw [sz]
  by_cases h : k < vs.length
  · have e : Builtin.Slice.sliceAdjust (some (k : Int)) (some ((k : Int) + 1)) 1 (vs.length : Int) = ((k : Int), (k : Int) + 1) := by
      simp only [Builtin.Slice.sliceAdjust, if_neg (show ¬ (1 : Int) < 0 by decide), if_neg (show ¬ (k : Int) < 0 by omega), if_neg (show ¬ (k : Int) + 1 < 0 by omega)]
      congr 1 <;> omega
    have e2 : Builtin.Slice.slicePlaces (k : Int) ((k : Int) + 1) 1 = 1 := by
      unfold Builtin.Slice.slicePlaces
      rw [if_pos (by decide), if_pos (by omega), show (k : Int) + 1 - k - 1 = 0 by omega]
      rfl
    rw [e]
    dsimp only
    rw [e2]
    have e3 : ((k : Int) + ((0 : Nat) : Int) * 1).toNat = k := by omega
    simp [List.getElem?_eq_getElem h]
  · have e : Builtin.Slice.sliceAdjust (some (k : Int)) (some ((k : Int) + 1)) 1 (vs.length : Int) = ((vs.length : Int), (vs.length : Int)) := by
      simp only [Builtin.Slice.sliceAdjust, if_neg (show ¬ (1 : Int) < 0 by decide), if_neg (show ¬ (k : Int) < 0 by omega), if_neg (show ¬ (k : Int) + 1 < 0 by omega)]
      congr 1 <;> omega
    have e2 : Builtin.Slice.slicePlaces (vs.length : Int) (vs.length : Int) 1 = 0 := by
      unfold Builtin.Slice.slicePlaces
      rw [if_pos (by decide), if_neg (by omega)]
      rfl
    rw [e]
    dsimp only
    rw [e2, List.getElem?_eq_none (by omega)]
    rfl
theorem ints_at {vs : List Value} {ns : List Int} (hi : IntsAre vs ns) (k : Nat) : IntsAre (vs[k]?.toList) (ns[k]?.toList) := by
  have e1 : vs.length = ns.length := hi.length
  by_cases h : k < ns.length
  · obtain ⟨t, ht⟩ := hi.get k ns[k] (by simp [h])
    rw [ht, List.getElem?_eq_getElem h]
    exact .cons _ t .nil
  · rw [List.getElem?_eq_none (by omega), List.getElem?_eq_none (by omega)]
    exact .nil
theorem slice_any {E Q : Value → Shared → Prop} {h₀ : Heap} {L t : Addr} {m : Str → Option Value} {news : List (Addr × Obj)} {value slice : Expr} {items zs : Array Value} {vl vu : Value} {lo hi : Option Int} (F : Fr h₀ L s.heap m) (N : News h₀ L s.heap news) (ht : IsTup s.heap t items) (pl : IsPart vl lo) (pu : IsPart vu hi) (e : tupPick items lo hi = zs) (hsz : zs.size ≤ sizeLine)
    (h : ∀ z h', s.heap.StaysIn h' → Fr h₀ L h' m → News h₀ L h' news → IsTup h' z zs → Q (.ref z) { s with heap := h' })
    (hs : subscripted slice false (.ref t) (.ref s.heap.objs.size) = operate [.ref s.heap.objs.size, .ref t] (getItem (.ref t) (.ref s.heap.objs.size)) := by with_unfolding_all rfl)
    (ht' : ∀ r, letTemporaryGo value (.ref t) r = pure () := by intro _; with_unfolding_all rfl) :
    wpAny (model prog w) A (subscriptTail value slice (.ref t) (.ref s.heap.objs.size)) Q E { s with heap := s.heap.push { cls := .type "slice", data := .fields #[vl, vu, .none] } } := by
  subst e
  exact slice_tup F N ht pl pu (fun e h' st F' N' => h t h' st F' N' (by rw [e]; exact IsTup.keep ht st)) (fun D h' st F' N' _ => h D h' st F' (fun q hq => N' q (.tail _ hq)) ⟨_, (N' _ (.head _)).1, rfl, 0, rfl⟩) hs ht' hsz
theorem at_size {α : Type} (o : Option α) : o.toList.toArray.size ≤ sizeLine := by
  cases o <;> simp [sizeLine_eq]
theorem at_ne {a b : Option Int} : (a.toList ≠ b.toList) ↔ a ≠ b := by
  cases a <;> cases b <;> simp
end
end Mine
end
set_option maxHeartbeats 4000000
/- part Mq3 -/
section
namespace Mine
theorem fillMq3 : (PySem.Challenge.rw_br0041_01 = PySem.Challenge.rw_br0041_01 ∧ hd.heap_39 = hd.heap_39) := by
  k_fill
  exact ⟨rfl, rfl⟩
section
variable {prog : Program} {w : World} {A : Around} {s : Shared} {p : Program} {loose : List Str} {mean : ExcName → Option Value} {mg mb : Str → Option Value} {g : Heap}
theorem abs_len (n m : Nat) : ((max n m : Nat) : Int) - (min n m : Nat) = if (n : Int) - (m : Int) < 0 then -((n : Int) - (m : Int)) else (n : Int) - (m : Int) := by
  split <;> omega
theorem hamD_le (ns ms : List Int) : hamD ns ms ≤ (max ns.length ms.length : Nat) := by
  unfold hamD
  have h := List.length_filter_le (fun k => ns[k]? != ms[k]?) (List.range (max ns.length ms.length))
  rw [List.length_range] at h
  omega
theorem hamD_zero (ns : List Int) : hamD ns ns = 0 := by
  unfold hamD
  simp
theorem hamD_nil {ns ms : List Int} (h : ns = [] ∨ ms = []) : hamD ns ms = (max ns.length ms.length : Nat) := by
  have all : ∀ l : List Int, ((List.range l.length).filter fun k => l[k]? != none).length = l.length := fun l => by
    have e : ((List.range l.length).filter fun k => l[k]? != none) = List.range l.length := List.filter_eq_self.mpr fun k hk => by
      have : k < l.length := List.mem_range.mp hk
      simp [this]
    rw [e, List.length_range]
  unfold hamD
  rcases h with rfl | rfl
  · have e : max ([] : List Int).length ms.length = ms.length := by simp
    rw [e]
    have := all ms
    have e2 : ((List.range ms.length).filter fun k => ([] : List Int)[k]? != ms[k]?) = ((List.range ms.length).filter fun k => ms[k]? != none) := by
      apply List.filter_congr
      intro k _
      cases ms[k]? <;> first | rfl | simp
    rw [e2, this]
  · have e : max ns.length ([] : List Int).length = ns.length := by simp
    rw [e]
    have := all ns
    have e2 : ((List.range ns.length).filter fun k => ns[k]? != ([] : List Int)[k]?) = ((List.range ns.length).filter fun k => ns[k]? != none) := by
      apply List.filter_congr
      intro k _
      cases ns[k]? <;> first | rfl | simp
    rw [e2, this]
theorem quick_hamD (ns ms : List Int) : quickI ns ms (hamD ns ms) = hamD ns ms := by
  unfold quickI
  split
  · rename_i h; rw [h, hamD_zero]
  · split
    · rename_i h; rw [hamD_nil h]
    · rfl
theorem ex_int {v : Value} {X : Int} (h : ∃ t, v = .int X t) : ∃ A t, v = .int A t ∧ A = X := let ⟨t, e⟩ := h; ⟨X, t, e, rfl⟩
/-- all but some new objects of the ledger, as a ground to call from -/
abbrev shade (h : Heap) (own : List (Addr × Obj)) : Heap := hideAll h (own.map (·.1))
theorem On.hid {h₀ h : Heap} {L : Addr} {m : Str → Option Value} {news : List (Addr × Obj)} (own : List (Addr × Obj)) (X : (hd.heap_39 w.params).In h₀) (T : Top p loose mean mg mb h₀) (F : Fr h₀ L h m) (N : News h₀ L h news) (ho : ∀ q ∈ own, q ∈ news) : On w p loose mean mg mb (shade h own) h := by
  have k : h₀.StaysIn (shade h own) := hide_keep F.keep fun q hq => (N q (ho q hq)).2.2
  exact ⟨X.keeps k, T.keeps k, fun b o e => of_hideAll _ e⟩
theorem TupAt.hid {h₀ h : Heap} {L D : Addr} {news : List (Addr × Obj)} {vs : List Value} {ns : List Int} (own : List (Addr × Obj)) (N : News h₀ L h news) (hm : (D, ({ cls := .type "tuple", data := .seq vs.toArray } : Obj)) ∈ news) (hi : IntsAre vs ns) (hz : ns.length ≤ 64) (ne : ∀ q ∈ own, @Ne Nat q.1 D) : TupAt (shade h own) D ns := by
  refine ⟨vs, ⟨_, hideAll_get _ (N _ hm).1 fun q => ?_, rfl, 0, rfl⟩, hi, hz⟩
  obtain ⟨r, hr, e⟩ := List.mem_map.mp q
  exact ne r hr e
theorem Inst.hid {h₀ h : Heap} {L x C dx : Addr} {news : List (Addr × Obj)} {es : List DictEntry} {n : Nat} (own : List (Addr × Obj)) (N : News h₀ L h news) (h1 : (x, instObj C dx) ∈ own) (h2 : (dx, dictOf es n) ∈ own) (ho : ∀ q ∈ own, q ∈ news) (lt : @LT.lt Nat _ dx x) : Inst (shade h own) h x C dx es n :=
  ⟨(N _ (ho _ h1)).1, (N _ (ho _ h2)).1, hideAll_none _ (List.mem_map_of_mem h1), hideAll_none _ (List.mem_map_of_mem h2), lt⟩
theorem Tab.hid {h₀ h : Heap} {L P : Addr} {news : List (Addr × Obj)} (own : List (Addr × Obj)) (N : News h₀ L h news) (h1 : (P, tabObj #[]) ∈ own) (ho : ∀ q ∈ own, q ∈ news) : Tab (shade h own) h P :=
  ⟨(N _ (ho _ h1)).1, hideAll_none _ (List.mem_map_of_mem h1)⟩
theorem news_two {h₀ h h' : Heap} {L x dx : Addr} {m : Str → Option Value} {news : List (Addr × Obj)} {ox od : Obj} (F : Fr h₀ L h m) (N : News h₀ L h news) (st : h.StaysIn h') (hx : h'.get? x = some ox) (nx : h.get? x = none) (hd : h'.get? dx = some od) (nd : h.get? dx = none) :
    News h₀ L h' ((x, ox) :: (dx, od) :: news) ∧ ∀ q ∈ news, @Ne Nat q.1 x ∧ @Ne Nat q.1 dx := by
  obtain ⟨N1, ne1⟩ := news_new F N st hd nd
  obtain ⟨N2, ne2⟩ := news_new F N st hx nx
  exact ⟨List.forall_mem_cons.mpr ⟨N2 _ (.head _), N1⟩, fun q hq => ⟨ne2 q hq, ne1 q hq⟩⟩
end
end Mine
end
set_option maxHeartbeats 4000000
/- part Pl1 -/
section
namespace Mine
/- plain facts of the three edit distances -/
section
variable {f : Nat → Nat → Bool}
theorem lev_diag (r c : Nat) : levT f (r + 1) (c + 1) ≤ levT f r c + (if f r c then 0 else 1) := by rw [levT]; omega
theorem lev_del (r c : Nat) : levT f (r + 1) c ≤ levT f r c + 1 := by
  cases c with
  | zero => cases r <;> simp only [levT] <;> omega
  | succ c => rw [levT]; omega
theorem lev_ins (r c : Nat) : levT f r (c + 1) ≤ levT f r c + 1 := by
  cases r with
  | zero => simp only [levT]; omega
  | succ r => rw [levT]; omega
theorem lev_dels (r c a : Nat) : levT f (r + a) c ≤ levT f r c + a := by
  induction a with
  | zero => simp
  | succ a ih =>
    have := lev_del (f := f) (r + a) c
    rw [show r + (a + 1) = r + a + 1 by omega]
    omega
theorem lev_inss (r c b : Nat) : levT f r (c + b) ≤ levT f r c + b := by
  induction b with
  | zero => simp
  | succ b ih =>
    have := lev_ins (f := f) r (c + b)
    rw [show c + (b + 1) = c + b + 1 by omega]
    omega
theorem lev_diags (r c a : Nat) : levT f (r + a) (c + a) ≤ levT f r c + a := by
  induction a with
  | zero => simp
  | succ a ih =>
    have := lev_diag (f := f) (r + a) (c + a)
    rw [show r + (a + 1) = r + a + 1 by omega, show c + (a + 1) = c + a + 1 by omega]
    split at this <;> omega
/-- a block of a letters turned into one of b -/
theorem lev_block (r c a b : Nat) : levT f (r + a) (c + b) ≤ levT f r c + (max a b : Nat) := by
  have h1 := lev_diags (f := f) r c (min a b)
  rcases Nat.le_total a b with h | h
  · have h2 := lev_inss (f := f) (r + a) (c + a) (b - a)
    rw [Nat.min_eq_left h] at h1
    rw [show c + a + (b - a) = c + b by omega] at h2
    omega
  · have h2 := lev_dels (f := f) (r + b) (c + b) (a - b)
    rw [Nat.min_eq_right h] at h1
    rw [show r + b + (a - b) = r + a by omega] at h2
    omega
theorem lev_max (r c : Nat) : levT f r c ≤ (max r c : Nat) := by
  have := lev_block (f := f) 0 0 r c
  simp only [levT, Nat.zero_add] at this
  omega
theorem lev_nonneg (r c : Nat) : 0 ≤ levT f r c := by
  induction r generalizing c with
  | zero => simp only [levT]; omega
  | succ r ih =>
    induction c with
    | zero => simp only [levT]; omega
    | succ c ihc =>
      have a1 := ih c
      have a2 := ih (c + 1)
      rw [levT]
      split <;> omega
/-- Levenshtein's is 0 at like rows alone -/
theorem lev_zero_at (r c : Nat) (h : levT f r c = 0) : r = c ∧ ∀ k, k < r → f k k = true := by
  induction r generalizing c with
  | zero =>
    simp only [levT] at h
    exact ⟨by omega, fun k hk => absurd hk (Nat.not_lt_zero k)⟩
  | succ r ih =>
    cases c with
    | zero => simp only [levT] at h; omega
    | succ c =>
      have a1 := lev_nonneg (f := f) r c
      have a2 := lev_nonneg (f := f) r (c + 1)
      have a3 := lev_nonneg (f := f) (r + 1) c
      rw [levT] at h
      cases e : f r c with
      | true =>
        rw [e, if_pos rfl] at h
        obtain ⟨rfl, h2⟩ := ih c (by omega)
        refine ⟨rfl, fun k hk => ?_⟩
        rcases Nat.lt_succ_iff_lt_or_eq.mp hk with q | rfl
        · exact h2 k q
        · exact e
      | false =>
        rw [e, if_neg (by decide)] at h
        omega
/-- the restricted is at most Levenshtein's -/
theorem osa_lev (r c : Nat) : osaT f r c ≤ levT f r c := by
  induction r generalizing c with
  | zero => rw [osaT, levT]; exact Int.le_refl _
  | succ r ih =>
    induction c with
    | zero => rw [osaT, levT]; exact Int.le_refl _
    | succ c ihc =>
      have a1 := ih c
      have a2 := ih (c + 1)
      rw [osaT, levT]
      split <;> omega
end
section
variable {ns ms : List Int}
theorem dl_diag (r c : Nat) : dlT ns ms (r + 2) (c + 2) ≤ dlT ns ms (r + 1) (c + 1) + (if eqAt ns ms r c then 0 else 1) := by rw [dlT]; omega
theorem dl_ins (r c : Nat) : dlT ns ms (r + 2) (c + 2) ≤ dlT ns ms (r + 2) (c + 1) + 1 := by rw [dlT]; omega
theorem dl_del (r c : Nat) : dlT ns ms (r + 2) (c + 2) ≤ dlT ns ms (r + 1) (c + 2) + 1 := by rw [dlT]; omega
theorem eqAt_iff {r c : Nat} : eqAt ns ms r c = true ↔ ns.getD r 0 = ms.getD c 0 := by unfold eqAt; exact beq_iff_eq
theorem lastAt_hit {l : List Int} {c : Int} {i : Nat} (h : c = l.getD i 0) : lastAt l c (i + 1) = i + 1 := by rw [lastAt, if_pos h]
/-- the free is at most the restricted -/
theorem dl_osa : ∀ k r c : Nat, r + c ≤ k → dlT ns ms (r + 1) (c + 1) ≤ osaT (eqAt ns ms) r c := by
  intro k
  induction k with
  | zero =>
    intro r c h
    obtain rfl : r = 0 := by omega
    obtain rfl : c = 0 := by omega
    rw [dl_row, osa_top]; exact Int.le_refl _
  | succ k ih =>
    intro r c h
    cases r with
    | zero => rw [dl_row, osa_top]; exact Int.le_refl _
    | succ r =>
      cases c with
      | zero => rw [dl_col, osa_left]; exact Int.le_refl _
      | succ c =>
        have b1 := ih r c (by omega)
        have b2 := ih r (c + 1) (by omega)
        have b3 := ih (r + 1) c (by omega)
        have d1 := dl_diag (ns := ns) (ms := ms) r c
        have d2 := dl_ins (ns := ns) (ms := ms) r c
        have d3 := dl_del (ns := ns) (ms := ms) r c
        rw [osaT]
        split
        · rename_i q
          obtain ⟨q1, q2, q3, q4⟩ := q
          obtain ⟨r, rfl⟩ : ∃ r', r = r' + 1 := ⟨r - 1, by omega⟩
          obtain ⟨c, rfl⟩ : ∃ c', c = c' + 1 := ⟨c - 1, by omega⟩
          rw [Nat.add_sub_cancel] at q3 q4 ⊢
          rw [Nat.add_sub_cancel]
          have b4 := ih r c (by omega)
          have swap : dlT ns ms (r + 1 + 2) (c + 1 + 2) ≤ dlT ns ms (r + 1) (c + 1) + (if eqAt ns ms (r + 1) (c + 1) then 0 else 1) := by
            rw [eqAt_iff] at q3 q4
            cases e : eqAt ns ms (r + 1) (c + 1) with
            | true =>
              have e2 := eqAt_iff.mp e
              have e3 : eqAt ns ms r c = true := eqAt_iff.mpr (by rw [q4, ← e2, q3])
              have d4 := dl_diag (ns := ns) (ms := ms) r c
              rw [e3] at d4
              rw [e] at d1
              simp only [if_true] at d1 d4 ⊢
              simp only [Nat.add_assoc, Nat.reduceAdd] at *
              omega
            | false =>
              simp only [Bool.false_eq_true, if_false]
              rw [dlT, lastAt_hit (l := ns) q4.symm, lastAt_hit (l := ms) q3]
              omega
          simp only [Nat.add_assoc, Nat.reduceAdd] at *
          omega
        · simp only [Nat.add_assoc, Nat.reduceAdd] at *
          omega
theorem dl_lev (r c : Nat) : dlT ns ms (r + 1) (c + 1) ≤ levT (eqAt ns ms) r c := Int.le_trans (dl_osa _ r c (Nat.le_refl _)) (osa_lev r c)
/-- Levenshtein's is at most twice the free -/
theorem lev_two : ∀ k r c : Nat, r + c ≤ k → r ≤ ns.length → c ≤ ms.length → levT (eqAt ns ms) r c ≤ 2 * dlT ns ms (r + 1) (c + 1) := by
  intro k
  induction k with
  | zero =>
    intro r c h _ _
    obtain rfl : r = 0 := by omega
    obtain rfl : c = 0 := by omega
    rw [dl_row, levT]; decide
  | succ k ih =>
    intro r c h hr hc
    cases r with
    | zero => rw [dl_row, levT]; omega
    | succ r =>
      cases c with
      | zero => rw [dl_col, levT]; omega
      | succ c =>
        have b1 := ih r c (by omega) (by omega) (by omega)
        have b2 := ih r (c + 1) (by omega) (by omega) hc
        have b3 := ih (r + 1) c (by omega) hr (by omega)
        have c1 := lev_diag (f := eqAt ns ms) r c
        have c2 := lev_ins (f := eqAt ns ms) (r + 1) c
        have c3 := lev_del (f := eqAt ns ms) r (c + 1)
        have l1 := @lastAt_le ns (ms.getD c 0) r
        have l2 := @lastAt_le ms (ns.getD r 0) c
        rw [dlT]
        generalize lastAt ns (ms.getD c 0) r = p at *
        generalize lastAt ms (ns.getD r 0) c = q at *
        have sw : levT (eqAt ns ms) (r + 1) (c + 1) ≤ 2 * (dlT ns ms p q + ((r : Int) + 1 - p) - 1 + ((c : Int) + 1 - q)) := by
          have top := lev_max (f := eqAt ns ms) (r + 1) (c + 1)
          cases p with
          | zero => rw [dl_top]; omega
          | succ p =>
            cases q with
            | zero => rw [dl_left]; omega
            | succ q =>
              have b4 := ih p q (by omega) (by omega) (by omega)
              have b5 := lev_block (f := eqAt ns ms) p q (r + 1 - p) (c + 1 - q)
              rw [show p + (r + 1 - p) = r + 1 by omega, show q + (c + 1 - q) = c + 1 by omega] at b5
              omega
        simp only [Nat.add_assoc, Nat.reduceAdd] at *
        omega
/-- the free distance is 0 at like rows alone -/
theorem dl_zero_eq (h : dlT ns ms (ns.length + 1) (ms.length + 1) = 0) : ns = ms := by
  have a := lev_two (ns := ns) (ms := ms) _ ns.length ms.length (Nat.le_refl _) (Nat.le_refl _) (Nat.le_refl _)
  have b := lev_nonneg (f := eqAt ns ms) ns.length ms.length
  obtain ⟨e, all⟩ := lev_zero_at (f := eqAt ns ms) ns.length ms.length (by omega)
  refine List.ext_getElem e fun i h1 h2 => ?_
  have := eqAt_iff.mp (all i h1)
  simpa [h1, h2] using this
end
end Mine
end
set_option maxHeartbeats 4000000
/- part Pl2 -/
section
namespace Mine
/- plain facts of the counting of letters -/
section
/-- a sum over an alphabet -/
def sumK (K : List Int) (φ : Int → Int) : Int := (K.map φ).sum
theorem sumK_nil (φ : Int → Int) : sumK [] φ = 0 := rfl
theorem sumK_cons (x : Int) (r : List Int) (φ : Int → Int) : sumK (x :: r) φ = φ x + sumK r φ := by simp [sumK]
theorem sumK_congr {K : List Int} {φ ψ : Int → Int} (h : ∀ k ∈ K, φ k = ψ k) : sumK K φ = sumK K ψ := by
  unfold sumK
  rw [List.map_congr_left h]
theorem sumK_le {K : List Int} {φ ψ : Int → Int} (h : ∀ k ∈ K, φ k ≤ ψ k) : sumK K φ ≤ sumK K ψ := by
  induction K with
  | nil => exact Int.le_refl _
  | cons x r ih =>
    rw [sumK_cons, sumK_cons]
    have := h x (.head _)
    have := ih fun k hk => h k (.tail _ hk)
    omega
theorem sumK_add {K : List Int} {φ ψ : Int → Int} : sumK K (fun k => φ k + ψ k) = sumK K φ + sumK K ψ := by
  induction K with
  | nil => rfl
  | cons x r ih => simp only [sumK_cons]; rw [ih]; omega
theorem sumK_zero {K : List Int} {φ : Int → Int} (h : ∀ k ∈ K, φ k = 0) : sumK K φ = 0 := by
  induction K with
  | nil => rfl
  | cons x r ih => rw [sumK_cons, h x (.head _), ih fun k hk => h k (.tail _ hk)]; rfl
theorem sumK_erase {K : List Int} {φ : Int → Int} {x : Int} (h : x ∈ K) : sumK K φ = φ x + sumK (K.erase x) φ := by
  induction K with
  | nil => cases h
  | cons y r ih =>
    by_cases e : y = x
    · subst e; rw [List.erase_cons_head, sumK_cons]
    · rw [List.erase_cons_tail (by simpa using e), sumK_cons, sumK_cons, ih ((List.mem_cons.mp h).resolve_left (Ne.symm e))]
      omega
/-- the sum rests on the letters at which the terms are not 0 -/
theorem sumK_supp {K J : List Int} {φ : Int → Int} (hK : K.Nodup) (hJ : J.Nodup) (h : ∀ k, φ k ≠ 0 → k ∈ K ∧ k ∈ J) : sumK K φ = sumK J φ := by
  induction K generalizing J φ with
  | nil =>
    rw [sumK_nil, sumK_zero]
    intro k _
    by_cases e : φ k = 0
    · exact e
    · exact absurd (h k e).1 (by simp)
  | cons x r ih =>
    rw [List.nodup_cons] at hK
    rw [sumK_cons]
    by_cases e : φ x = 0
    · rw [e, Int.zero_add]
      refine ih hK.2 hJ fun k hk => ⟨?_, (h k hk).2⟩
      rcases List.mem_cons.mp (h k hk).1 with rfl | q
      · exact absurd e hk
      · exact q
    · rw [sumK_erase (h x e).2]
      congr 1
      have a1 : sumK r φ = sumK r (fun k => if k = x then 0 else φ k) := sumK_congr fun k hk => by
        rw [if_neg]; rintro rfl; exact hK.1 hk
      have a2 : sumK (J.erase x) φ = sumK (J.erase x) (fun k => if k = x then 0 else φ k) := sumK_congr fun k hk => by
        rw [if_neg]; rintro rfl; exact hJ.not_mem_erase hk
      rw [a1, a2]
      refine ih hK.2 (hJ.erase x) fun k hk => ?_
      by_cases q : k = x
      · rw [if_pos q] at hk; exact absurd rfl hk
      · rw [if_neg q] at hk
        exact ⟨(List.mem_cons.mp (h k hk).1).resolve_left q, (List.mem_erase_of_ne q).mpr (h k hk).2⟩
/-- how often a letter stands -/
def cN (k : Int) (l : List Int) : Int := (l.count k : Nat)
theorem cN_nil {k : Int} : cN k [] = 0 := by simp [cN]
theorem cN_app {k : Int} {a b : List Int} : cN k (a ++ b) = cN k a + cN k b := by simp [cN]
theorem cN_cons {k x : Int} {l : List Int} : cN k (x :: l) = (if x = k then 1 else 0) + cN k l := by
  unfold cN
  rw [List.count_cons]
  by_cases e : x = k
  · simp [e]; omega
  · simp [e]
theorem cN_nonneg {k : Int} {l : List Int} : 0 ≤ cN k l := by unfold cN; omega
theorem cN_mem {k : Int} {l : List Int} : 0 < cN k l ↔ k ∈ l := by
  unfold cN
  rw [← List.count_pos_iff (l := l)]
  omega
theorem sumK_one {K : List Int} {x : Int} (hK : K.Nodup) (hx : x ∈ K) : sumK K (fun k => if x = k then 1 else 0) = 1 := by
  rw [sumK_erase hx, if_pos rfl, sumK_zero]
  · rfl
  · intro k hk
    rw [if_neg]; rintro rfl; exact hK.not_mem_erase hk
theorem sumK_len {K l : List Int} (hK : K.Nodup) (hl : ∀ x ∈ l, x ∈ K) : sumK K (fun k => cN k l) = l.length := by
  induction l with
  | nil => rw [sumK_zero fun k _ => cN_nil]; rfl
  | cons x r ih =>
    rw [sumK_congr (ψ := fun k => (if x = k then 1 else 0) + cN k r) fun k _ => cN_cons, sumK_add, sumK_one hK (hl x (.head _)), ih fun y hy => hl y (.tail _ hy), List.length_cons]
    omega
/-- the letters that xs has more than ys -/
def overK (K xs ys : List Int) : Int := sumK K fun k => max 0 (cN k xs - cN k ys)
theorem over_self {K xs : List Int} : overK K xs xs = 0 := sumK_zero fun k _ => by omega
theorem over_sub {K a b c d : List Int} : overK K (a ++ c) (b ++ d) ≤ overK K a b + overK K c d := by
  unfold overK
  rw [← sumK_add]
  refine sumK_le fun k _ => ?_
  rw [cN_app, cN_app]
  omega
theorem over_len {K xs ys : List Int} (hK : K.Nodup) (hl : ∀ x ∈ xs, x ∈ K) : overK K xs ys ≤ xs.length := by
  rw [← sumK_len hK hl]
  refine sumK_le fun k _ => ?_
  have := @cN_nonneg k xs
  have := @cN_nonneg k ys
  omega
theorem over_diff {K xs ys : List Int} (hK : K.Nodup) (hx : ∀ x ∈ xs, x ∈ K) (hy : ∀ x ∈ ys, x ∈ K) : (xs.length : Int) - ys.length ≤ overK K xs ys := by
  have a := sumK_len hK hx
  have b := sumK_len hK hy
  have c : sumK K (fun k => cN k xs) ≤ sumK K (fun k => max 0 (cN k xs - cN k ys) + cN k ys) := sumK_le fun k _ => by omega
  rw [sumK_add] at c
  unfold overK
  omega
theorem over_swap {K u v : List Int} {x y : Int} : overK K ([x] ++ u ++ [y]) ([y] ++ v ++ [x]) = overK K u v := sumK_congr fun k _ => by
  simp only [cN_app, cN_cons, cN_nil]
  omega
/-- the law's own count -/
theorem over_more {K : List Int} (hK : K.Nodup) : ∀ (xs ys : List Int) (n : Int), (∀ x ∈ xs, x ∈ K) → (xs.foldl moreStep (ys, n)).2 = n + overK K xs ys := by
  intro xs
  induction xs with
  | nil =>
    intro ys n _
    have : overK K [] ys = 0 := sumK_zero fun k _ => by
      have := @cN_nonneg k ys
      rw [cN_nil]; omega
    rw [this, Int.add_zero]; rfl
  | cons x r ih =>
    intro ys n hx
    rw [List.foldl_cons]
    have hr : ∀ y ∈ r, y ∈ K := fun y hy => hx y (.tail _ hy)
    by_cases e : x ∈ ys
    · have e1 : moreStep (ys, n) x = (ys.erase x, n) := by unfold moreStep; rw [if_pos e]
      rw [e1, ih _ _ hr]
      congr 1
      refine sumK_congr fun k _ => ?_
      rw [cN_cons]
      by_cases q : x = k
      · subst q
        have h1 := cN_mem.mpr e
        have h2 : cN x (ys.erase x) = cN x ys - 1 := by unfold cN at h1 ⊢; rw [List.count_erase_self]; omega
        rw [h2, if_pos rfl]; omega
      · have h2 : cN k (ys.erase x) = cN k ys := by unfold cN; rw [List.count_erase_of_ne (Ne.symm q)]
        rw [h2, if_neg q]; omega
    · have e1 : moreStep (ys, n) x = (ys, n + 1) := by unfold moreStep; rw [if_neg e]
      rw [e1, ih _ _ hr]
      have h3 : overK K (x :: r) ys = 1 + overK K r ys := by
        unfold overK
        rw [← sumK_one hK (hx x (.head _)), ← sumK_add]
        refine sumK_congr fun k _ => ?_
        rw [cN_cons]
        by_cases q : x = k
        · subst q
          have h1 : ¬ 0 < cN x ys := fun h => e (cN_mem.mp h)
          have := @cN_nonneg x ys
          have := @cN_nonneg x r
          rw [if_pos rfl]; omega
        · rw [if_neg q]; omega
      omega
theorem more_over {K ns ms : List Int} (hK : K.Nodup) (h : ∀ x ∈ ns, x ∈ K) : (moreN ns ms ns.length).2 = overK K ns ms := by
  unfold moreN
  rw [List.take_length, over_more hK _ _ _ h, Int.zero_add]
/-- counters -/
def vAt (c : List (Int × Int)) (k : Int) : Int := (cAt c k).getD 0
theorem cAt_nil {k : Int} : cAt [] k = none := rfl
theorem cAt_cons {p : Int × Int} {r : List (Int × Int)} {k : Int} : cAt (p :: r) k = if p.1 = k then some p.2 else cAt r k := by
  unfold cAt
  rw [List.find?_cons]
  by_cases e : p.1 = k <;> simp [e]
theorem cAt_none {c : List (Int × Int)} {k : Int} (h : k ∉ c.map (·.1)) : cAt c k = none := by
  induction c with
  | nil => rfl
  | cons p r ih =>
    rw [List.map_cons, List.mem_cons, not_or] at h
    rw [cAt_cons, if_neg (Ne.symm h.1), ih h.2]
theorem cAt_mem {c : List (Int × Int)} {k : Int} (h : vAt c k ≠ 0) : k ∈ c.map (·.1) := by
  by_cases e : k ∈ c.map (·.1)
  · exact e
  · unfold vAt at h; rw [cAt_none e] at h; exact absurd rfl h
theorem cAt_put {c : List (Int × Int)} {n v k : Int} : cAt (kdfPut c n v) k = if n = k then some v else cAt c k := by
  have app : ∀ (c : List (Int × Int)), n ∉ c.map (·.1) → cAt (c ++ [(n, v)]) k = if n = k then some v else cAt c k := by
    intro c h
    induction c with
    | nil => rw [List.nil_append, cAt_cons]
    | cons p r ih =>
      rw [List.map_cons, List.mem_cons, not_or] at h
      rw [List.cons_append, cAt_cons, cAt_cons, ih h.2]
      by_cases e : p.1 = k
      · rw [if_pos e, if_pos e, if_neg (e ▸ h.1)]
      · rw [if_neg e, if_neg e]
  have upd : ∀ (c : List (Int × Int)), n ∈ c.map (·.1) → cAt (c.map fun p => if decide (p.1 = n) then (p.1, v) else p) k = if n = k then some v else cAt c k := by
    intro c h
    have not : ∀ c : List (Int × Int), n ≠ k → cAt (c.map fun p => if decide (p.1 = n) then (p.1, v) else p) k = cAt c k := by
      intro c hne
      induction c with
      | nil => rfl
      | cons p r ih =>
        rw [List.map_cons, cAt_cons, cAt_cons, ih]
        by_cases e : p.1 = n
        · simp only [e, decide_true, if_true, if_neg hne]
        · simp only [e, decide_false, Bool.false_eq_true, if_false]
    by_cases q : n = k
    · subst q
      rw [if_pos rfl]
      induction c with
      | nil => cases h
      | cons p r ih =>
        rw [List.map_cons, cAt_cons]
        by_cases e : p.1 = n
        · simp [e]
        · simp only [e, decide_false, Bool.false_eq_true, if_false]
          exact ih ((List.mem_cons.mp h).resolve_left (Ne.symm e))
    · rw [if_neg q]; exact not c q
  unfold kdfPut
  by_cases h : c.any (fun p => decide (p.1 = n)) = true
  · rw [if_pos h]
    refine upd c ?_
    obtain ⟨p, hp, e⟩ := List.any_eq_true.mp h
    exact List.mem_map.mpr ⟨p, hp, of_decide_eq_true e⟩
  · rw [if_neg h]
    refine app c fun q => h ?_
    obtain ⟨p, hp, e⟩ := List.mem_map.mp q
    exact List.any_eq_true.mpr ⟨p, hp, decide_eq_true e⟩
theorem vAt_fold (l : List Int) (c : List (Int × Int)) (k : Int) : vAt (l.foldl cntStep c) k = vAt c k + cN k l := by
  induction l generalizing c with
  | nil => rw [cN_nil]; simp
  | cons x r ih =>
    rw [List.foldl_cons, ih, cN_cons]
    have : vAt (cntStep c x) k = vAt c k + if x = k then 1 else 0 := by
      unfold vAt cntStep
      rw [cAt_put]
      by_cases e : x = k
      · subst e; simp
      · simp [e]
    omega
theorem vAt_cnt {ns : List Int} {k : Int} : vAt (cntN ns ns.length) k = cN k ns := by
  unfold cntN
  rw [List.take_length, vAt_fold]
  simp [vAt, cAt]
theorem put_keys {c : List (Int × Int)} {n v : Int} (h : (c.map (·.1)).Nodup) : ((kdfPut c n v).map (·.1)).Nodup := by
  unfold kdfPut
  split
  · have e : (c.map fun p => if decide (p.1 = n) then (p.1, v) else p).map (·.1) = c.map (·.1) := by
      rw [List.map_map]
      refine List.map_congr_left fun p _ => ?_
      show (if decide (p.1 = n) then (p.1, v) else p).1 = p.1
      split <;> rfl
    rw [e]; exact h
  · rename_i q
    rw [List.map_append, List.nodup_append]
    refine ⟨h, by simp, fun a ha b hb => ?_⟩
    obtain ⟨p, hp, e⟩ := List.mem_map.mp ha
    simp only [List.map_cons, List.map_nil, List.mem_singleton] at hb
    subst hb
    rintro rfl
    exact q (List.any_eq_true.mpr ⟨p, hp, decide_eq_true e⟩)
theorem cnt_keys {ns : List Int} : ((cntN ns ns.length).map (·.1)).Nodup := by
  unfold cntN
  generalize ns.take ns.length = l
  suffices h : ∀ c : List (Int × Int), (c.map (·.1)).Nodup → ((l.foldl cntStep c).map (·.1)).Nodup from h [] .nil
  induction l with
  | nil => exact fun c h => h
  | cons x r ih => exact fun c h => ih _ (put_keys h)
/-- what a row of letters is filtered and rewritten to -/
theorem cAt_comp {c : List (Int × Int)} {P : Int → Bool} {G : Int → Int} {k : Int} : cAt ((c.filter fun q => P q.1).map fun q => (q.1, G q.1)) k = if k ∈ c.map (·.1) ∧ P k = true then some (G k) else none := by
  induction c with
  | nil => simp [cAt]
  | cons p r ih =>
    rw [List.filter_cons]
    cases e : P p.1 with
    | true =>
      rw [if_pos rfl, List.map_cons, cAt_cons, ih]
      by_cases q : p.1 = k
      · subst q
        rw [if_pos rfl, if_pos ⟨by simp, e⟩]
      · rw [if_neg q, List.map_cons]
        simp only [List.mem_cons, Ne.symm q, false_or]
    | false =>
      rw [if_neg (by decide), ih]
      by_cases q : p.1 = k
      · subst q
        rw [if_neg (by rw [e]; rintro ⟨_, h⟩; cases h), if_neg (by rw [e]; rintro ⟨_, h⟩; cases h)]
      · rw [List.map_cons]
        simp only [List.mem_cons, Ne.symm q, false_or]
theorem vAt_and {c e : List (Int × Int)} {k : Int} (h : ∀ k, 0 ≤ vAt c k) (h' : ∀ k, 0 ≤ vAt e k) : vAt (andC c e) k = min (vAt c k) (vAt e k) := by
  have e1 : cAt (andC c e) k = if k ∈ c.map (·.1) ∧ ((cAt e k).isSome && decide (0 < min ((cAt c k).getD 0) ((cAt e k).getD 0))) = true then some (min ((cAt c k).getD 0) ((cAt e k).getD 0)) else none :=
    cAt_comp (P := fun k => (cAt e k).isSome && decide (0 < min ((cAt c k).getD 0) ((cAt e k).getD 0))) (G := fun k => min ((cAt c k).getD 0) ((cAt e k).getD 0))
  show (cAt (andC c e) k).getD 0 = _
  rw [e1]
  have a := h k
  have b := h' k
  by_cases q : 0 < min (vAt c k) (vAt e k)
  · rw [if_pos]
    · rfl
    · refine ⟨cAt_mem (by omega), ?_⟩
      rw [Bool.and_eq_true]
      refine ⟨?_, decide_eq_true q⟩
      cases z : cAt e k with
      | none => have : vAt e k = 0 := by unfold vAt; rw [z]; rfl
                omega
      | some v => rfl
  · rw [if_neg]
    · show (0 : Int) = _
      omega
    · rintro ⟨_, z⟩
      rw [Bool.and_eq_true] at z
      exact q (of_decide_eq_true z.2)
theorem sum_filter {α : Type} {l : List α} {P : α → Bool} {G : α → Int} : (((l.filter P).map G).sum : Int) = (l.map fun x => if P x = true then G x else 0).sum := by
  induction l with
  | nil => rfl
  | cons x r ih =>
    rw [List.filter_cons, List.map_cons, List.sum_cons, ← ih]
    split
    · rw [List.map_cons, List.sum_cons]
    · omega
theorem sum_sub {c e : List (Int × Int)} : sumC (subC c e) = sumK (c.map (·.1)) fun k => max 0 (vAt c k - vAt e k) := by
  have at_r : ∀ k, k ∈ c.map (·.1) → (cAt (subRows c e) k).getD 0 = vAt c k - vAt e k := fun k hk => by
    have : cAt (subRows c e) k = _ := cAt_comp (P := fun _ => true) (G := fun k => vAt c k - vAt e k)
    rw [this, if_pos ⟨hk, rfl⟩]
    rfl
  unfold sumC subC posRows
  rw [List.map_map, sum_filter]
  have keys : (subRows c e).map (·.1) = c.map (·.1) := by
    unfold subRows
    rw [List.map_map, List.filter_eq_self.mpr fun _ _ => rfl]
    rfl
  unfold sumK
  rw [← keys, List.map_map]
  congr 1
  refine List.map_congr_left fun q hq => ?_
  have hk : q.1 ∈ c.map (·.1) := keys ▸ List.mem_map_of_mem hq
  simp only [Function.comp, at_r _ hk]
  by_cases z : 0 < vAt c q.1 - vAt e q.1
  · rw [if_pos (decide_eq_true z)]; omega
  · rw [if_neg (by simpa using z)]; omega
/-- the bag distance by counts -/
theorem bag_over {K ns ms : List Int} (hK : K.Nodup) (hn : ∀ x ∈ ns, x ∈ K) (hm : ∀ x ∈ ms, x ∈ K) : bagD ns ms = max (overK K ns ms) (overK K ms ns) := by
  have side : ∀ as bs : List Int, (∀ k, vAt (andC (cntN ns ns.length) (cntN ms ms.length)) k = min (cN k as) (cN k bs)) → (∀ x ∈ as, x ∈ K) →
      sumC (subC (cntN as as.length) (andC (cntN ns ns.length) (cntN ms ms.length))) = overK K as bs := by
    intro as bs h ha
    rw [sum_sub]
    have e1 : sumK ((cntN as as.length).map (·.1)) (fun k => max 0 (vAt (cntN as as.length) k - vAt (andC (cntN ns ns.length) (cntN ms ms.length)) k)) = sumK ((cntN as as.length).map (·.1)) (fun k => max 0 (cN k as - cN k bs)) := sumK_congr fun k _ => by
      rw [vAt_cnt, h]; omega
    rw [e1]
    refine sumK_supp cnt_keys hK fun k hk => ?_
    have b := @cN_nonneg k bs
    have p : 0 < cN k as := by omega
    exact ⟨cAt_mem (by rw [vAt_cnt]; omega), ha k (cN_mem.mp p)⟩
  have base : ∀ k, vAt (andC (cntN ns ns.length) (cntN ms ms.length)) k = min (cN k ns) (cN k ms) := fun k => by
    rw [vAt_and (fun k => by rw [vAt_cnt]; exact cN_nonneg) (fun k => by rw [vAt_cnt]; exact cN_nonneg), vAt_cnt, vAt_cnt]
  unfold bagD
  rw [side ns ms base hn, side ms ns (fun k => by rw [base]; omega) hm]
end
section
variable {K ns ms : List Int}
theorem lastAt_at {l : List Int} {c : Int} {i p : Nat} (h : lastAt l c i = p + 1) : p < i ∧ c = l.getD p 0 := by
  induction i with
  | zero => rw [lastAt] at h; omega
  | succ i ih =>
    rw [lastAt] at h
    split at h
    · rename_i e
      obtain rfl : i = p := by omega
      exact ⟨by omega, e⟩
    · have := ih h
      exact ⟨by omega, this.2⟩
theorem take_snoc {l : List Int} {i : Nat} (h : i < l.length) : l.take (i + 1) = l.take i ++ [l.getD i 0] := by
  rw [List.take_add_one, List.getElem?_eq_getElem h]
  congr 1
  simp [h]
/-- a row up to i, from one letter p of it on -/
theorem take_block {l : List Int} {p i : Nat} (hp : p < i) (h : i < l.length) : ∃ u, u.length = i - (p + 1) ∧ l.take (i + 1) = l.take p ++ ([l.getD p 0] ++ u ++ [l.getD i 0]) ∧ ∀ x ∈ u, x ∈ l := by
  refine ⟨(l.take i).drop (p + 1), by simp; omega, ?_, fun x hx => List.mem_of_mem_take (List.mem_of_mem_drop hx)⟩
  rw [take_snoc h, ← List.append_assoc, ← List.append_assoc]
  congr 1
  rw [← take_snoc (by omega)]
  have e : l.take (p + 1) = (l.take i).take (p + 1) := by rw [List.take_take]; congr 1; omega
  rw [e, List.take_append_drop]
theorem getD_in {l : List Int} {i : Nat} (h : i < l.length) : l.getD i 0 ∈ l := by
  have : l.getD i 0 = l[i] := by simp [h]
  rw [this]; exact List.getElem_mem h
/-- Bag's is at most the free Damerau's -/
theorem over_dl (hK : K.Nodup) (hn : ∀ x ∈ ns, x ∈ K) (hm : ∀ x ∈ ms, x ∈ K) : ∀ k r c : Nat, r + c ≤ k → r ≤ ns.length → c ≤ ms.length →
    overK K (ns.take r) (ms.take c) ≤ dlT ns ms (r + 1) (c + 1) ∧ overK K (ms.take c) (ns.take r) ≤ dlT ns ms (r + 1) (c + 1) := by
  have ln : ∀ r zs, overK K (ns.take r) zs ≤ (min r ns.length : Nat) := fun r zs => by
    have := over_len (ys := zs) hK (xs := ns.take r) fun x hx => hn x (List.mem_of_mem_take hx)
    rwa [List.length_take] at this
  have lm : ∀ c zs, overK K (ms.take c) zs ≤ (min c ms.length : Nat) := fun c zs => by
    have := over_len (ys := zs) hK (xs := ms.take c) fun x hx => hm x (List.mem_of_mem_take hx)
    rwa [List.length_take] at this
  have em : ∀ zs : List Int, overK K [] zs ≤ 0 := fun zs => over_len (ys := zs) hK (xs := []) nofun
  have one : ∀ x ∈ K, ∀ zs, overK K [x] zs ≤ 1 := fun x hx zs => over_len (ys := zs) hK (xs := [x]) fun y hy => by
    rw [List.mem_singleton] at hy; rw [hy]; exact hx
  intro k
  induction k with
  | zero =>
    intro r c h _ _
    obtain rfl : r = 0 := by omega
    obtain rfl : c = 0 := by omega
    rw [dl_row]
    exact ⟨em _, em _⟩
  | succ k ih =>
    intro r c h hr hc
    cases r with
    | zero =>
      rw [dl_row]
      have a := em (ms.take c)
      have b := lm c (ns.take 0)
      exact ⟨by rw [List.take_zero]; omega, by omega⟩
    | succ r =>
      cases c with
      | zero =>
        rw [dl_col]
        have a := em (ns.take (r + 1))
        have b := ln (r + 1) (ms.take 0)
        exact ⟨by omega, by rw [List.take_zero]; omega⟩
      | succ c =>
        have b1 := ih r c (by omega) (by omega) (by omega)
        have b2 := ih r (c + 1) (by omega) (by omega) hc
        have b3 := ih (r + 1) c (by omega) hr (by omega)
        have hx : ns.getD r 0 ∈ K := hn _ (getD_in (by omega))
        have hy : ms.getD c 0 ∈ K := hm _ (getD_in (by omega))
        have tn := take_snoc (l := ns) (i := r) (by omega)
        have tm := take_snoc (l := ms) (i := c) (by omega)
        have d1 : overK K (ns.take (r + 1)) (ms.take (c + 1)) ≤ overK K (ns.take r) (ms.take c) + (if eqAt ns ms r c then 0 else 1) := by
          rw [tn, tm]
          refine Int.le_trans over_sub (Int.add_le_add_left ?_ _)
          split
          · rename_i e; rw [eqAt_iff.mp e, over_self]; exact Int.le_refl _
          · exact one _ hx _
        have d2 : overK K (ms.take (c + 1)) (ns.take (r + 1)) ≤ overK K (ms.take c) (ns.take r) + (if eqAt ns ms r c then 0 else 1) := by
          rw [tn, tm]
          refine Int.le_trans over_sub (Int.add_le_add_left ?_ _)
          split
          · rename_i e; rw [eqAt_iff.mp e, over_self]; exact Int.le_refl _
          · exact one _ hy _
        have n1 : overK K (ns.take (r + 1)) (ms.take (c + 1)) ≤ overK K (ns.take r) (ms.take (c + 1)) + 1 := by
          have := over_sub (K := K) (a := ns.take r) (b := ms.take (c + 1)) (c := [ns.getD r 0]) (d := [])
          rw [List.append_nil, ← tn] at this
          have := one _ hx []
          omega
        have n2 : overK K (ms.take (c + 1)) (ns.take (r + 1)) ≤ overK K (ms.take (c + 1)) (ns.take r) + 1 := by
          have := over_sub (K := K) (a := ms.take (c + 1)) (b := ns.take r) (c := []) (d := [ns.getD r 0])
          rw [List.append_nil, ← tn] at this
          have := em [ns.getD r 0]
          omega
        have m1 : overK K (ns.take (r + 1)) (ms.take (c + 1)) ≤ overK K (ns.take (r + 1)) (ms.take c) + 1 := by
          have := over_sub (K := K) (a := ns.take (r + 1)) (b := ms.take c) (c := []) (d := [ms.getD c 0])
          rw [List.append_nil, ← tm] at this
          have := em [ms.getD c 0]
          omega
        have m2 : overK K (ms.take (c + 1)) (ns.take (r + 1)) ≤ overK K (ms.take c) (ns.take (r + 1)) + 1 := by
          have := over_sub (K := K) (a := ms.take c) (b := ns.take (r + 1)) (c := [ms.getD c 0]) (d := [])
          rw [List.append_nil, ← tm] at this
          have := one _ hy []
          omega
        have l1 := @lastAt_le ns (ms.getD c 0) r
        have l2 := @lastAt_le ms (ns.getD r 0) c
        rw [dlT]
        have sw : overK K (ns.take (r + 1)) (ms.take (c + 1)) ≤ dlT ns ms (lastAt ns (ms.getD c 0) r) (lastAt ms (ns.getD r 0) c) + ((r : Int) + 1 - lastAt ns (ms.getD c 0) r) - 1 + ((c : Int) + 1 - lastAt ms (ns.getD r 0) c) ∧
            overK K (ms.take (c + 1)) (ns.take (r + 1)) ≤ dlT ns ms (lastAt ns (ms.getD c 0) r) (lastAt ms (ns.getD r 0) c) + ((r : Int) + 1 - lastAt ns (ms.getD c 0) r) - 1 + ((c : Int) + 1 - lastAt ms (ns.getD r 0) c) := by
          have t1 := ln (r + 1) (ms.take (c + 1))
          have t2 := lm (c + 1) (ns.take (r + 1))
          cases ep : lastAt ns (ms.getD c 0) r with
          | zero => rw [ep] at l1; rw [dl_top]; omega
          | succ p =>
            cases eq : lastAt ms (ns.getD r 0) c with
            | zero => rw [ep] at l1; rw [eq] at l2; rw [dl_left]; omega
            | succ q =>
              obtain ⟨p1, p2⟩ := lastAt_at ep
              obtain ⟨q1, q2⟩ := lastAt_at eq
              have b4 := ih p q (by omega) (by omega) (by omega)
              obtain ⟨u, u1, u2, u3⟩ := take_block p1 (show r < ns.length by omega)
              obtain ⟨v, v1, v2, v3⟩ := take_block q1 (show c < ms.length by omega)
              rw [u2, v2, ← p2, ← q2]
              have s1 := over_sub (K := K) (a := ns.take p) (b := ms.take q) (c := [ms.getD c 0] ++ u ++ [ns.getD r 0]) (d := [ns.getD r 0] ++ v ++ [ms.getD c 0])
              have s2 := over_sub (K := K) (a := ms.take q) (b := ns.take p) (c := [ns.getD r 0] ++ v ++ [ms.getD c 0]) (d := [ms.getD c 0] ++ u ++ [ns.getD r 0])
              rw [over_swap] at s1 s2
              have w1 := over_len (ys := v) hK fun x hx => hn x (u3 x hx)
              have w2 := over_len (ys := u) hK fun x hx => hm x (v3 x hx)
              omega
        simp only [Nat.add_assoc, Nat.reduceAdd] at *
        omega
/-- Levenshtein's is at most the number of unlike places -/
theorem lev_ham : levT (eqAt ns ms) ns.length ms.length ≤ hamD ns ms := by
  have low : ∀ i, i ≤ ns.length → i ≤ ms.length → levT (eqAt ns ms) i i ≤ (((List.range i).filter fun k => ns[k]? != ms[k]?).length : Nat) := by
    intro i
    induction i with
    | zero => intro _ _; rw [levT]; simp
    | succ i ih =>
      intro h1 h2
      have a := ih (by omega) (by omega)
      have b := lev_diag (f := eqAt ns ms) i i
      rw [List.range_succ, List.filter_append, List.length_append]
      have e : (([i].filter fun k => ns[k]? != ms[k]?).length : Int) = if eqAt ns ms i i then 0 else 1 := by
        have l1 : i < ns.length := by omega
        have l2 : i < ms.length := by omega
        have q : eqAt ns ms i i = !(ns[i]? != ms[i]?) := by
          unfold eqAt
          by_cases z : ns[i] = ms[i]
          · simp [l1, l2, z]
          · have z2 : (ns[i]? != ms[i]?) = true := by simp [l1, l2, z]
            rw [z2]
            simp [l1, l2, z]
        rw [q, List.filter_cons]
        cases ns[i]? != ms[i]? <;> rfl
      omega
  have a := low (min ns.length ms.length) (by omega) (by omega)
  have b := lev_block (f := eqAt ns ms) (min ns.length ms.length) (min ns.length ms.length) (ns.length - min ns.length ms.length) (ms.length - min ns.length ms.length)
  rw [show min ns.length ms.length + (ns.length - min ns.length ms.length) = ns.length by omega, show min ns.length ms.length + (ms.length - min ns.length ms.length) = ms.length by omega] at b
  have high : ∀ j, min ns.length ms.length + j ≤ max ns.length ms.length →
      ((List.range (min ns.length ms.length + j)).filter fun k => ns[k]? != ms[k]?).length = ((List.range (min ns.length ms.length)).filter fun k => ns[k]? != ms[k]?).length + j := by
    intro j
    induction j with
    | zero => intro _; rfl
    | succ j ih =>
      intro h
      rw [← Nat.add_assoc, List.range_succ, List.filter_append, List.length_append, ih (by omega)]
      have q : (ns[min ns.length ms.length + j]? != ms[min ns.length ms.length + j]?) = true := by
        rcases Nat.lt_or_ge (min ns.length ms.length + j) ns.length with z | z
        · have z2 : ms.length ≤ min ns.length ms.length + j := by omega
          rw [List.getElem?_eq_getElem z, List.getElem?_eq_none z2]; rfl
        · have z2 : min ns.length ms.length + j < ms.length := by omega
          rw [List.getElem?_eq_getElem z2, List.getElem?_eq_none z]; rfl
      rw [List.filter_cons, if_pos q]
      simp only [List.filter_nil, List.length_cons, List.length_nil]
      omega
  have c := high (max ns.length ms.length - min ns.length ms.length) (by omega)
  rw [show min ns.length ms.length + (max ns.length ms.length - min ns.length ms.length) = max ns.length ms.length by omega] at c
  unfold hamD
  omega
end
section
variable {ns ms : List Int}
/-- an alphabet for both -/
theorem alphabet (ns ms : List Int) : ∃ K : List Int, K.Nodup ∧ (∀ x ∈ ns, x ∈ K) ∧ ∀ x ∈ ms, x ∈ K := by
  refine ⟨(cntN (ns ++ ms) (ns ++ ms).length).map (·.1), cnt_keys, fun x hx => ?_, fun x hx => ?_⟩
  · refine cAt_mem ?_
    rw [vAt_cnt]
    have := cN_mem.mpr (List.mem_append_left ms hx)
    omega
  · refine cAt_mem ?_
    rw [vAt_cnt]
    have := cN_mem.mpr (List.mem_append_right ns hx)
    omega
theorem bag_more : bagD ns ms = max (moreN ns ms ns.length).2 (moreN ms ns ms.length).2 := by
  obtain ⟨K, hK, hn, hm⟩ := alphabet ns ms
  rw [bag_over hK hn hm, more_over hK hn, more_over hK hm]
theorem quick_mono {a b : Int} (h : a ≤ b) : quickI ns ms a ≤ quickI ns ms b := by
  unfold quickI
  split
  · exact Int.le_refl _
  · split
    · exact Int.le_refl _
    · exact h
theorem quick_two {a b : Int} (h : a ≤ 2 * b) : quickI ns ms a ≤ 2 * quickI ns ms b := by
  unfold quickI
  split
  · decide
  · split <;> omega
theorem len_bag : ((max ns.length ms.length : Nat) : Int) - (min ns.length ms.length : Nat) ≤ bagD ns ms := by
  obtain ⟨K, hK, hn, hm⟩ := alphabet ns ms
  rw [bag_over hK hn hm]
  have a := over_diff hK hn hm
  have b := over_diff hK hm hn
  omega
theorem bag_dl : bagD ns ms ≤ quickI ns ms (dlT ns ms (ns.length + 1) (ms.length + 1)) := by
  obtain ⟨K, hK, hn, hm⟩ := alphabet ns ms
  rw [bag_over hK hn hm]
  unfold quickI
  split
  · rename_i e
    rw [e, over_self]; decide
  · split
    · have a := over_len (ys := ms) hK hn
      have b := over_len (ys := ns) hK hm
      omega
    · have a := over_dl hK hn hm _ ns.length ms.length (Nat.le_refl _) (Nat.le_refl _) (Nat.le_refl _)
      rw [List.take_length, List.take_length] at a
      omega
theorem quick_zero : quickI ns ms (dlT ns ms (ns.length + 1) (ms.length + 1)) = 0 ↔ ns = ms := by
  unfold quickI
  constructor
  · intro h
    by_cases e : ns = ms
    · exact e
    · rw [if_neg e] at h
      by_cases q : ns = [] ∨ ms = []
      · rw [if_pos q] at h
        have h1 : ns.length = 0 := by omega
        have h2 : ms.length = 0 := by omega
        rw [List.length_eq_zero_iff.mp h1, List.length_eq_zero_iff.mp h2]
      · rw [if_neg q] at h
        exact dl_zero_eq h
  · intro e; rw [if_pos e]
end
end Mine
end
set_option maxHeartbeats 4000000
/- part Mq4 -/
section
namespace Mine
theorem fillMq4 : (PySem.Challenge.rw_br0041_01 = PySem.Challenge.rw_br0041_01 ∧ hd.heap_39 = hd.heap_39) := by
  k_fill
  exact ⟨rfl, rfl⟩
section
variable {prog : Program} {w : World} {A : Around} {s : Shared} {p : Program} {loose : List Str} {mean : ExcName → Option Value} {mg mb : Str → Option Value} {g : Heap}
theorem ne_lists {l b : Addr} {vs ws : List Value} {ns ms : List Int} {E Q : Value → Shared → Prop} (ha : s.heap.IsList l vs.toArray) (hb : s.heap.IsList b ws.toArray) (hi : IntsAre vs ns) (hj : IntsAre ws ms) (hz : ns.length = ms.length) (hu : A.units < cLine) (h : Q (.bool (decide (ns ≠ ms))) s) :
    wpAny (model prog w) A (compareOp .NotEq (.ref l) (.ref b)) Q E s := by
  refine SeqAt.RcNeAt.lists (e := fun j => decide (ns[j]? = ms[j]?)) ha hb (by rw [List.size_toArray, List.size_toArray, hi.length, hj.length, hz]) hu (ints_eqAt hi hj) prog w E Q ?_
  have e := @eq_all ns ms
  rw [← hz, Nat.min_self, beq_self_eq_true, Bool.and_true] at e
  rw [List.size_toArray, hi.length, e]
  simpa using h
theorem ne_lists_same {l b : Addr} {vs ws : List Value} {ns : List Int} {E Q : Value → Shared → Prop} (ha : s.heap.IsList l vs.toArray) (hb : s.heap.IsList b ws.toArray) (hi : IntsAre vs ns) (hj : IntsAre ws ns) (hu : A.units < cLine) (h : Q (.bool false) s) :
    wpAny (model prog w) A (compareOp .NotEq (.ref l) (.ref b)) Q E s :=
  ne_lists ha hb hi hj rfl hu (by rw [decide_eq_false (fun h => h rfl)]; exact h)
theorem back_tab3 {h₀ h h' : Heap} {L : Addr} {p1 p2 p3 : Array Value} {news : List (Addr × Obj)} (B : Back h₀ h [((222 : Addr), tabObj #[]), (340, tabObj #[]), (167, tabObj #[])]) (k : h₀.StaysIn h') (N : News h₀ L h' news) (h1 : ((222 : Addr), tabObj p1) ∈ news) (h2 : ((340 : Addr), tabObj p2) ∈ news) (h3 : ((167 : Addr), tabObj p3) ∈ news) :
    Kept [222, 340, 167] h h' ∧ Tabs [222, 340, 167] h' := by
  have hT : Tabs [222, 340, 167] h' := List.forall_mem_cons.mpr ⟨⟨p1, (N _ h1).1⟩, List.forall_mem_cons.mpr ⟨⟨p2, (N _ h2).1⟩, List.forall_mem_cons.mpr ⟨⟨p3, (N _ h3).1⟩, fun _ h => nomatch h⟩⟩⟩
  exact ⟨B.keepT [222, 340, 167] (List.forall_mem_cons.mpr ⟨(N _ h1).2.2, List.forall_mem_cons.mpr ⟨(N _ h2).2.2, List.forall_mem_cons.mpr ⟨(N _ h3).2.2, fun _ h => nomatch h⟩⟩⟩) k hT
    (List.forall_mem_cons.mpr ⟨.inl ⟨by simp, rfl⟩, List.forall_mem_cons.mpr ⟨.inl ⟨by simp, rfl⟩, List.forall_mem_cons.mpr ⟨.inl ⟨by simp, rfl⟩, fun _ h => nomatch h⟩⟩⟩), hT⟩
/-- rows that stand in order are what sorting gives -/
theorem sort_same {l r : List Int} (hp : r.Perm l) (hr : r.Pairwise (· ≤ ·)) (hl : l.Pairwise (· ≤ ·)) : r = l := by
  refine List.Perm.eq_of_pairwise (fun a b _ _ h1 h2 => ?_) hr hl hp
  omega
theorem pair6 {a b c d e f : Int} (h1 : a ≤ b) (h2 : b ≤ c) (h3 : c ≤ d) (h4 : d ≤ e) (h5 : e ≤ f) : [a, b, c, d, e, f].Pairwise (· ≤ ·) := by
  simp only [List.pairwise_cons, List.mem_cons, List.not_mem_nil, or_false, List.Pairwise.nil, and_true]
  refine ⟨?_, ?_, ?_, ?_, ?_⟩
  · rintro x (rfl | rfl | rfl | rfl | rfl) <;> omega
  · rintro x (rfl | rfl | rfl | rfl) <;> omega
  · rintro x (rfl | rfl | rfl) <;> omega
  · rintro x (rfl | rfl) <;> omega
  · exact ⟨fun x hx => by omega, fun _ h => h.elim⟩
theorem law_last {a : Int} {os ts : List Int} (h : a = 0 ↔ os = ts) : Value.bool ((a == 0) == decide (os = ts)) = .bool true := by
  by_cases z : a = 0
  · simp [z, h.mp z]
  · have : ¬ os = ts := fun q => z (h.mpr q)
    simp [z, this]
/-- the six distances in order -/
theorem law_order {os ts : List Int} {A1 A2 A3 A4 A5 A6 : Int} (h1 : A1 = (max os.length ts.length : Nat) - (min os.length ts.length : Nat)) (h2 : A2 = bagD os ts) (h3 : A3 = quickI os ts (dlT os ts (os.length + 1) (ts.length + 1))) (h4 : A4 = quickI os ts (osaT (eqAt os ts) os.length ts.length)) (h5 : A5 = quickI os ts (levT (eqAt os ts) os.length ts.length)) (h6 : A6 = quickI os ts (hamD os ts)) :
    [A1, A2, A3, A4, A5, A6].Pairwise (· ≤ ·) ∧ A5 ≤ 2 * A3 ∧ (A3 = 0 ↔ os = ts) := by
  subst h1 h2 h3 h4 h5 h6
  exact ⟨pair6 len_bag bag_dl (quick_mono (dl_osa _ _ _ (Nat.le_refl _))) (quick_mono (osa_lev _ _)) (quick_mono lev_ham), quick_two (lev_two _ _ _ (Nat.le_refl _) (Nat.le_refl _) (Nat.le_refl _)), quick_zero⟩
end
end Mine
end
set_option maxHeartbeats 4000000
/- part Mw1 -/
section
namespace Mine
theorem fillMw1 : (PySem.Challenge.rw_br0041_01 = PySem.Challenge.rw_br0041_01 ∧ hd.heap_39 = hd.heap_39) := by
  k_fill
  exact ⟨rfl, rfl⟩
/-- the numbers that the law reads -/
def lawNums (ns : List Int) : List Int := if ns.take 12 = [] then [0, 2, 4, 3, 1] else ns.take 12
theorem lawNums_pos {ns : List Int} (h : 0 < (ns.take 12).length) : lawNums ns = ns.take 12 := if_neg fun e => by rw [e] at h; cases h
theorem lawNums_nil {ns : List Int} (h : ¬ 0 < (ns.take 12).length) : lawNums ns = [0, 2, 4, 3, 1] := if_pos (List.length_eq_zero_iff.mp (Nat.eq_zero_of_not_pos h))
theorem lawNums_len (ns : List Int) : (lawNums ns).length ≤ 12 := by
  unfold lawNums
  split
  · decide
  · rw [List.length_take]; exact Nat.min_le_left _ _
/-- a number's letter, and the letters of a row -/
def letterN (n : Int) : Int := if n.fdiv 2 < 0 then n.fdiv 2 else (n.fdiv 2).fmod 4
def rowN (b : Int) (ms : List Int) : List Int := (ms.filter fun n => decide (n.fmod 2 = b)).map letterN
theorem rowN_turn {ms : List Int} {i : Nat} {b : Int} (h : i < ms.length) : rowN b (ms.take (i + 1)) = rowN b (ms.take i) ++ if (ms.getD i 0).fmod 2 = b then [letterN (ms.getD i 0)] else [] := by
  have e : ms.take (i + 1) = ms.take i ++ [ms.getD i 0] := by
    rw [List.take_add_one, List.getElem?_eq_getElem h]
    congr 1
    simp [h]
  generalize ms.getD i 0 = x at *
  unfold rowN
  rw [e, List.filter_append, List.map_append]
  congr 1
  by_cases q : x.fmod 2 = b
  · rw [if_pos q]; simp [q]
  · rw [if_neg q]; simp [q]
theorem ints_snoc {vs : List Value} {ns : List Int} {x : Int} {t : Tok} (h : IntsAre vs ns) : IntsAre (vs ++ [.int x t]) (ns ++ [x]) := by
  induction h with
  | nil => exact .cons x t .nil
  | cons n u _ ih => exact .cons n u ih
theorem row_hit {vs : List Value} {ms : List Int} {i : Nat} {b l : Int} {t : Tok} (h : i < ms.length) (hi : IntsAre vs (rowN b (ms.take i))) (e : (ms.getD i 0).fmod 2 = b) (el : letterN (ms.getD i 0) = l) : IntsAre (vs ++ [.int l t]) (rowN b (ms.take (i + 1))) := by
  rw [rowN_turn h, if_pos e, el]
  exact ints_snoc hi
theorem row_miss {vs : List Value} {ms : List Int} {i : Nat} {b c : Int} (h : i < ms.length) (hi : IntsAre vs (rowN b (ms.take i))) (e : (ms.getD i 0).fmod 2 = c) (ne : c ≠ b) : IntsAre vs (rowN b (ms.take (i + 1))) := by
  rw [rowN_turn h, if_neg (fun q => ne (e.symm.trans q)), List.append_nil]
  exact hi
theorem row_len {vs : List Value} {ms : List Int} {i : Nat} {b : Int} (hi : IntsAre vs (rowN b (ms.take i))) (h : ms.length ≤ 12) : vs.length ≤ 12 := by
  rw [hi.length]
  unfold rowN
  rw [List.length_map]
  refine Nat.le_trans (List.length_filter_le _ _) ?_
  rw [List.length_take]
  exact Nat.le_trans (Nat.min_le_right _ _) h
structure LawS where
  v0 : List Value
  n0 : Nat
  v1 : List Value
  n1 : Nat
  nu : Option Value
  le : Option Value
/-- what the loop's source comes to -/
def IterEnd (h₀ : Heap) (L : Addr) (m : Str → Option Value) (news : List (Addr × Obj)) (ms : List Int) (s : Shared) (v : Value) (s' : Shared) : Prop :=
  ∃ S ws h' tk, v = .ref S ∧ s' = { s with heap := h', toks := tk } ∧ Fr h₀ L h' m ∧ News h₀ L h' ((S, listOf ws.toArray 0) :: news) ∧ IntsAre ws ms ∧ ∀ q ∈ news, @Ne Nat q.1 S
theorem IterEnd.mk {h₀ : Heap} {L : Addr} {m : Str → Option Value} {news all : List (Addr × Obj)} {ms : List Int} {s : Shared} {S : Addr} {ws : List Value} {h' : Heap} {tk : Nat} (F : Fr h₀ L h' m) (N : News h₀ L h' all) (hS : (S, listOf ws.toArray 0) ∈ all) (hn : ∀ q ∈ news, q ∈ all) (hi : IntsAre ws ms) (ne : ∀ q ∈ news, @Ne Nat q.1 S) :
    IterEnd h₀ L m news ms s (.ref S) { s with heap := h', toks := tk } :=
  ⟨S, ws, h', tk, rfl, rfl, F, List.forall_mem_cons.mpr ⟨N _ hS, fun q hq => N q (hn q hq)⟩, hi, ne⟩
theorem envM_nil : (fun _ : Str => (none : Option Value)) = envM [] := rfl
/-- what the comprehension's source comes to -/
def RangeEnd (h₀ : Heap) (L : Addr) (m : Str → Option Value) (news : List (Addr × Obj)) (n : Nat) (s : Shared) (v : Value) (s' : Shared) : Prop :=
  ∃ r h' tk, v = .ref r ∧ s' = { s with heap := h', toks := tk } ∧ (∃ t u v, IsRange h' r 0 (n : Int) 1 t u v) ∧ Fr h₀ L h' m ∧ News h₀ L h' news
theorem carried_len {ys : List Value} {ds : List PyData} (h : CarriedAll ys ds) : ys.length = ds.length := h.length_eq
theorem ham_len {os ts : List Int} {M : Nat} {ys : List Value} (hM : max os.length ts.length = M) (h : CarriedAll ys (((rangeInts 0 1 M).filter fun k => decide (os[k.toNat]? ≠ ts[k.toNat]?)).map PyData.int)) : (ys.length : Int) = hamD os ts := by
  rw [h.length_eq, List.length_map, rangeInts_zero_one, List.filter_map, List.length_map]
  unfold hamD
  rw [hM]
  congr 2
  apply List.filter_congr
  intro i _
  show decide (os[((i : Nat) : Int).toNat]? ≠ ts[((i : Nat) : Int).toNat]?) = (os[i]? != ts[i]?)
  rw [Int.toNat_natCast]
  by_cases e : os[i]? = ts[i]?
  · rw [e]; simp
  · have e2 : (os[i]? != ts[i]?) = true := bne_iff_ne.mpr e
    rw [e2]; simp [e]
theorem stop_turn {i : Nat} {ns : List Int} {p : Prop} (_ : i < (lawNums ns).length) (h : Stop p) : p := h
section
variable {prog : Program} {w : World} {A : Around} {s : Shared} {p : Program} {loose : List Str} {mean : ExcName → Option Value} {mg mb : Str → Option Value} {g : Heap}
local macro_rules | `(tactic| walk_at "pyIter ref") => `(tactic| (k_here; refine stop_it ?_))
local macro_rules | `(tactic| walk_at "call ref") => `(tactic| (k_here; refine stop_it ?_))
local macro_rules | `(tactic| walk_at "setItem ref ref") => `(tactic| (k_here; refine stop_it ?_))
local macro_rules | `(tactic| walk_at "exec For Tuple") => `(tactic| (k_here; refine stop_it ?_))
local macro_rules | `(tactic| walk_at "getMethod ref") => `(tactic| (k_here; k_dflt (first
  | (refine' kmu_own ?k1 ?k2 ?k3 ?k4 ?k5 ?_; (case k1 => k_asm); (case k2 => k_asm); (case k3 => k_inst); (case k4 => k_is); (case k5 => k_is); k_whole)
  | (refine' method_inst ?k1 ?k2 ?k3 ?k4 ?k5 ?k6 ?k7 ?_; (case k1 => k_asm); (case k2 => k_asm); (case k3 => k_inst); (case k4 => k_is); (case k5 => k_is); (case k6 => k_is); (case k7 => k_get); k_whole))))
local macro_rules | `(tactic| walk_at "last getAttr ref") => `(tactic| (k_here; k_dflt (refine' attr_sm ?k1 ?k2 ?k4 ?k5 ?k6 ?k7 ?k9 ?k10 ?k11 ?k12 ?k13 ?k14 ?_; (case k1 => k_asm); (case k2 => k_asm); (case k4 => k_inst); (case k5 => k_is); (case k6 => k_is); (case k7 => k_is); (case k9 => k_is); (case k10 => k_is); (case k11 => decide +kernel); (case k12 => k_get); (case k13 => k_is); (case k14 => k_handed); k_whole)))
local macro_rules | `(tactic| walk_at "last eval Call Attribute") => `(tactic| (k_here; refine methodCall_S ?_))
local macro_rules | `(tactic| walk_at "eval Call Attribute") => `(tactic| (k_here; (with_reducible show wpAny _ _ (eval (Expr.Call (Expr.Attribute _ _ _) [Expr.Starred _ _] [] _) _) _ _ _); refine methodCall_S ?_))
local macro_rules | `(tactic| walk_at "call builtin:len") => `(tactic| (k_here; refine' len_TupAt ?k1 ?k2 ?_; (case k1 => k_asm); (case k2 => k_asm); intro _ _; k_whole))
local macro_rules | `(tactic| walk_at "getItem ref int") => `(tactic| (k_here; refine' getItem_TupAt ?k1 ?k2 ?k3 ?_; (case k1 => k_asm); (case k2 => k_asm); (case k3 => omega); intro _; k_whole))
local macro_rules | `(tactic| walk_at "subscriptTail") => `(tactic| (k_here; first
  | (refine' item_TupAt ?k1 ?k2 ?k3 ?_; (case k1 => k_asm); (case k2 => k_asm); (case k3 => omega); intro _; k_whole)
  | (refine' item_fn ?k1 ?k2 ?k3 ?k4 ?_; (case k1 => k_asm); (case k2 => k_mem); (case k3 => with_reducible assumption); (case k4 => omega); intro _; k_whole)))
local macro_rules | `(tactic| walk_at "call builtin:min") => `(tactic| (k_here; (with_reducible show wpAny _ _ (call (Value.builtin "min") [Value.int _ _, Value.int _ _]) _ _ _); (rename Around.handled _ = none => hX); refine' min2N hX ?k2 ?k3 ?_; (case k2 => k_asm); (case k3 => k_asm); k_whole; intro h' tk' t' F' N'))
local macro_rules | `(tactic| walk_at "call builtin:min") => `(tactic| (k_here; (with_reducible show wpAny _ _ (call (Value.builtin "min") [Value.int _ _, Value.int _ _, Value.int _ _]) _ _ _); (rename Around.handled _ = none => hX); refine' min3N hX ?k2 ?k3 ?_; (case k2 => k_asm); (case k3 => k_asm); k_whole; intro h' tk' t' F' N'))
local macro_rules | `(tactic| walk_at "call builtin:min") => `(tactic| (k_here; (with_reducible show wpAny _ _ (call (Value.builtin "min") [Value.int _ _, Value.int _ _, Value.int _ _, Value.int _ _]) _ _ _); (rename Around.handled _ = none => hX); refine' min4N hX ?k2 ?k3 ?_; (case k2 => k_asm); (case k3 => k_asm); k_whole; intro h' tk' t' F' N'))
local macro_rules | `(tactic| walk_at "setItem ref int int") => `(tactic| (k_here; refine' setItem_fn ?k1 ?k2 ?k3 ?k4 ?k5 ?_; (case k1 => k_asm); (case k2 => k_asm); (case k3 => k_upd); (case k4 => with_reducible assumption); (case k5 => omega); k_whole; intro h' F' N' i'))
local macro_rules | `(tactic| walk_at "assign Tuple") => `(tactic| (k_here; (with_reducible show wpAny _ _ (assign (Expr.Tuple _ _ _) _ (Value.ref _)) _ _ _); k_dflt (refine' kun_list ?k1 ?k2 ?k3 ?k4 ?k5 ?k6 ?_; (case k1 => k_asm); (case k2 => k_asm); (case k3 => kun_lst); (case k4 => assumption); (case k5 => exact rfl); (case k6 => exact rfl); k_whole); intro h' F' N'; (try k_sweep)))
local macro_rules | `(tactic| walk_at "assign Tuple") => `(tactic| (k_here; (with_reducible show wpAny _ _ (assign (Expr.Tuple _ _ _) _ (Value.ref _)) _ _ _); k_dflt (refine' unpackN_ ?k1 ?k2 ?k3 ?k4 ?k5 ?k6 ?_; (case k1 => k_asm); (case k2 => k_asm); (case k3 => kun_tup); (case k4 => assumption); (case k5 => exact rfl); (case k6 => exact rfl); k_whole); intro h' F' N'; (try k_sweep)))
local macro_rules | `(tactic| walk_at "unpackItems ref") => `(tactic| (k_here; k_dflt (refine' unpackItemsN_ ?k1 ?k2 ?k3 ?k4 ?k5 ?_; (case k1 => k_asm); (case k2 => k_asm); (case k3 => kun_tup); (case k4 => assumption); (case k5 => exact rfl); k_whole); intro h' F' N'; (try k_sweep)))
local macro_rules | `(tactic| walk_at "call type:list") => `(tactic| (k_here; refine' list_range_N ?k0 ?k1 ?k2 ?k3 ?k4 ?k5 ?k6 ?_; (case k1 => k_asm); (case k2 => k_asm); (case k0 => assumption); (case k3 => assumption); (case k4 => omega); (case k5 => exact small_one (by omega) (by omega) (by omega) (by omega)); (case k6 => omega); intro D' h' tk' vs' k' F' N' l1 i1; (try k_lt l1)))
local macro_rules | `(tactic| k_ne) => `(tactic| first | with_reducible assumption | (refine Ne.symm ?_; with_reducible assumption) | (refine neN ?_; (try dsimp only); omega))
local macro_rules | `(tactic| k_in) => `(tactic| exact Frag.In.keeps (by k_asm) (Fr.keep (by k_asm)))
local macro_rules | `(tactic| walk_at "exec For") => `(tactic| (k_here; refine stop_it ?_))
local macro_rules | `(tactic| walk_at "call builtin:sorted") => `(tactic| (k_here; refine stop_it ?_))
local macro_rules | `(tactic| walk_at "exec Assign cons ListComp") => `(tactic| (k_here; refine stop_it ?_))
local macro_rules | `(tactic| walk_at "call builtin:list.append") => `(tactic| (k_here; refine stop_turn (by with_reducible assumption) ?_))
local macro_rules | `(tactic| walk_at "call builtin:len") => `(tactic| (k_here; refine stop_it ?_))
local macro_rules | `(tactic| walk_at "compareOp NotEq ref ref") => `(tactic| (k_here; refine stop_it ?_))
local macro_rules | `(tactic| walk_at "compareOp Eq ref ref") => `(tactic| (k_here; refine stop_it ?_))
local macro_rules | `(tactic| walk_at "call type:tuple") => `(tactic| (k_here; refine stop_it ?_))
theorem own_none3 {g h : Heap} (t1 : Tab g h 222) (t2 : Tab g h 340) (t3 : Tab g h 167) : ∀ q ∈ [((222 : Addr), tabObj #[]), (340, tabObj #[]), (167, tabObj #[])], g.get? q.1 = none := List.forall_mem_cons.mpr ⟨t1.no, List.forall_mem_cons.mpr ⟨t2.no, List.forall_mem_cons.mpr ⟨t3.no, fun _ h => nomatch h⟩⟩⟩
theorem own_at3 {g h : Heap} (t1 : Tab g h 222) (t2 : Tab g h 340) (t3 : Tab g h 167) : ∀ q ∈ [((222 : Addr), tabObj #[]), (340, tabObj #[]), (167, tabObj #[])], h.get? q.1 = some q.2 := List.forall_mem_cons.mpr ⟨t1.at', List.forall_mem_cons.mpr ⟨t2.at', List.forall_mem_cons.mpr ⟨t3.at', fun _ h => nomatch h⟩⟩⟩
theorem law_pays {a : Addr} {vs : List Value} {ns : List Int} (hl : g.IsList a vs.toArray) (hi : IntsAre vs ns) (hz : ns.length ≤ 63) (O : On w p loose mean mg mb g s.heap) (t1 : Tab g s.heap 222) (t2 : Tab g s.heap 340) (t3 : Tab g s.heap 167) (H : Room A 40 400) :
    PaysT prog w A (.call (.ref 362) ⟨[.ref a], []⟩) s [222, 340, 167] (fun v _ => v = .bool true) := by
  w_top off
  intro bare R hR
  have n1 : @Ne Nat 222 340 := by decide
  have n2 : @Ne Nat 222 167 := by decide
  have n3 : @Ne Nat 340 167 := by decide
  refine' enterCG [(222, tabObj #[]), (340, tabObj #[]), (167, tabObj #[])] (binds := [(Str.ofString "script", .ref a)]) O ?hg ?hown ?ho ?hcd ?hroom ?hb ?hl ?hnd ?body ?c1 ?c2 ?c3
  (case hg => exact own_none3 t1 t2 t3)
  (case hown => exact own_at3 t1 t2 t3)
  (case ho => k_is)
  (case hcd => k_is)
  (case hroom => have := Room.dp (by assumption); omega)
  (case hl => exact rfl)
  (case hnd => decide +kernel)
  (case c1 => exact rfl)
  (case c2 => exact rfl)
  (case c3 => exact rfl)
  (case hb => first | exact BindsTo.of_eq rfl | exact kp_binds (O.k.keeps O.st) (fun _ => rfl))
  intro h₀ L h₁ tk cells gst X T back F N Y l2
  (try k_lt l2)
  (first | (change CellsAre _ [] _ at Y; cases Y) | k_cells Y)
  simp only [List.cons_append, List.nil_append] at N
  (try dsimp only)
  (try k_fold)
  simp only [AllLt, and_true] at l2
  rename Top _ _ _ _ _ _ => T₀
  rename_i oT oO dT dO
  have hl₀ := hl.at fun o e => gst _ o e
  have hh := H.hh
  k_steps
  rename News _ _ _ _ => N
  rename Fr _ _ _ _ => F
  refine' For_invVF F ?k1 ?k2 ?_
  (case k1 => exact rfl)
  (case k2 => exact rfl)
  rename_i r0 _ lt0 r1 _ lt1 rR _ lt2 h2
  (try dsimp only at F)
  refine' fr_then F ?e ?_
  (case e => repeat' (first | exact envM_of_lookup _ | exact envM_nil | exact rfl | apply env_set))
  clear F
  intro F
  have F := fr_more [Str.ofString "number", Str.ofString "letter"] F
  rename_i F9
  clear F9
  change Fr h₀ L h2 (envM [(Str.ofString "script", some (.ref a)), (Str.ofString "rows", some (.ref rR)), (Str.ofString "number", none), (Str.ofString "letter", none)]) at F
  refine wpAny_mono (Q := IterEnd h₀ L (envM [(Str.ofString "script", some (.ref a)), (Str.ofString "rows", some (.ref rR)), (Str.ofString "number", none), (Str.ofString "letter", none)]) [(rR, listOf #[.ref r0, .ref r1] 0), (r1, listOf #[] 0), (r0, listOf #[] 0), (L + 1 + 1, oT), (L + 1, oO), (222, tabObj #[]), (340, tabObj #[]), (167, tabObj #[])] (lawNums ns) { s with heap := h2, toks := tk }) (E := fun _ _ => False) ?it (fun v s' hv => ?_) (fun _ _ e => e.elim)
  (case it =>
    k_steps
    · rename_i D9 ws9 h9 F9 N9 i9 _ _ l9 pos9
      exact IterEnd.mk F9 N9 (.head _) (fun q hq => .tail _ hq) (lawNums_pos pos9 ▸ i9) (List.forall_mem_cons.mpr ⟨Nat.ne_of_lt l9.1, List.forall_mem_cons.mpr ⟨Nat.ne_of_lt l9.2.1, List.forall_mem_cons.mpr ⟨Nat.ne_of_lt l9.2.2.1, List.forall_mem_cons.mpr ⟨Nat.ne_of_lt l9.2.2.2.1, List.forall_mem_cons.mpr ⟨Nat.ne_of_lt l9.2.2.2.2.1, List.forall_mem_cons.mpr ⟨Nat.ne_of_lt l9.2.2.2.2.2.1, List.forall_mem_cons.mpr ⟨Nat.ne_of_lt l9.2.2.2.2.2.2.1, List.forall_mem_cons.mpr ⟨Nat.ne_of_lt l9.2.2.2.2.2.2.2, fun _ h => nomatch h⟩⟩⟩⟩⟩⟩⟩⟩)
    · rename_i D9 ws9 h8 i9 _ _ l8 pos9 S9 h9 F9 N9 l9
      exact IterEnd.mk (ws := [.int 0 _, .int 2 _, .int 4 _, .int 3 _, .int 1 _]) F9 N9 (.head _) (fun q hq => .tail _ (.tail _ hq)) (lawNums_nil pos9 ▸ .cons 0 _ (.cons 2 _ (.cons 4 _ (.cons 3 _ (.cons 1 _ .nil))))) (List.forall_mem_cons.mpr ⟨Nat.ne_of_lt l9.2.1, List.forall_mem_cons.mpr ⟨Nat.ne_of_lt l9.2.2.1, List.forall_mem_cons.mpr ⟨Nat.ne_of_lt l9.2.2.2.1, List.forall_mem_cons.mpr ⟨Nat.ne_of_lt l9.2.2.2.2.1, List.forall_mem_cons.mpr ⟨Nat.ne_of_lt l9.2.2.2.2.2.1, List.forall_mem_cons.mpr ⟨Nat.ne_of_lt l9.2.2.2.2.2.2.1, List.forall_mem_cons.mpr ⟨Nat.ne_of_lt l9.2.2.2.2.2.2.2.1, List.forall_mem_cons.mpr ⟨Nat.ne_of_lt l9.2.2.2.2.2.2.2.2, fun _ h => nomatch h⟩⟩⟩⟩⟩⟩⟩⟩))
  obtain ⟨S, ws, h3, tk3, rfl, rfl, F3, N3, hi3, neS⟩ := hv
  clear F N
  have pS0 : @Ne Nat (rR) S := neS _ (.head _)
  have pS1 : @Ne Nat (r1) S := neS _ (.tail _ (.head _))
  have pS2 : @Ne Nat (r0) S := neS _ (.tail _ (.tail _ (.head _)))
  have pS3 : @Ne Nat (L + 1 + 1) S := neS _ (.tail _ (.tail _ (.tail _ (.head _))))
  have pS4 : @Ne Nat (L + 1) S := neS _ (.tail _ (.tail _ (.tail _ (.tail _ (.head _)))))
  have pS5 : @Ne Nat (222) S := neS _ (.tail _ (.tail _ (.tail _ (.tail _ (.tail _ (.head _))))))
  have pS6 : @Ne Nat (340) S := neS _ (.tail _ (.tail _ (.tail _ (.tail _ (.tail _ (.tail _ (.head _)))))))
  have pS7 : @Ne Nat (167) S := neS _ (.tail _ (.tail _ (.tail _ (.tail _ (.tail _ (.tail _ (.tail _ (.head _))))))))
  refine' loop_listL (σ := LawS) (ms := lawNums ns)
    (ps := fun y => [(Str.ofString "script", some (.ref a)), (Str.ofString "rows", some (.ref rR)), (Str.ofString "number", y.nu), (Str.ofString "letter", y.le)])
    (Led := fun y => [(S, listOf ws.toArray 0), (rR, listOf #[.ref r0, .ref r1] 0), (r1, listOf y.v1.toArray y.n1), (r0, listOf y.v0.toArray y.n0), (L + 1 + 1, oT), (L + 1, oO), (222, tabObj #[]), (340, tabObj #[]), (167, tabObj #[])])
    (Inv := fun i y => IntsAre y.v0 (rowN 0 ((lawNums ns).take i)) ∧ IntsAre y.v1 (rowN 1 ((lawNums ns).take i)))
    (c₀ := LawS.mk [] 0 [] 0 none none) hh (fun _ => .head _) hi3 F3 N3 ⟨.nil, .nil⟩ ?turn ?done
  (case turn =>
    intro I i t y h tk ob hlt hinv hne F N
    obtain ⟨v0, k0, v1, k1, nu, le⟩ := y
    dsimp only at F N hinv hne ⊢
    have pI0 : @Ne Nat (S) I := hne _ (.head _)
    have pI1 : @Ne Nat (rR) I := hne _ (.tail _ (.head _))
    have pI2 : @Ne Nat (r1) I := hne _ (.tail _ (.tail _ (.head _)))
    have pI3 : @Ne Nat (r0) I := hne _ (.tail _ (.tail _ (.tail _ (.head _))))
    have pI4 : @Ne Nat (L + 1 + 1) I := hne _ (.tail _ (.tail _ (.tail _ (.tail _ (.head _)))))
    have pI5 : @Ne Nat (L + 1) I := hne _ (.tail _ (.tail _ (.tail _ (.tail _ (.tail _ (.head _))))))
    have pI6 : @Ne Nat (222) I := hne _ (.tail _ (.tail _ (.tail _ (.tail _ (.tail _ (.tail _ (.head _)))))))
    have pI7 : @Ne Nat (340) I := hne _ (.tail _ (.tail _ (.tail _ (.tail _ (.tail _ (.tail _ (.tail _ (.head _))))))))
    have pI8 : @Ne Nat (167) I := hne _ (.tail _ (.tail _ (.tail _ (.tail _ (.tail _ (.tail _ (.tail _ (.tail _ (.head _)))))))))
    clear hne F3 N3
    change Fr h₀ L h _ at F
    change News h₀ L h _ at N
    k_steps
    · skip
      rename News _ _ _ _ => N
      rename Fr _ _ _ _ => F
      rename_i ke _ kn
      refine append_K [(I, ob), (S, listOf ws.toArray 0), (rR, listOf #[.ref r0, .ref r1] 0), (r1, listOf v1.toArray k1)] F N (List.forall_mem_cons.mpr ⟨by k_ne, List.forall_mem_cons.mpr ⟨by k_ne, List.forall_mem_cons.mpr ⟨by k_ne, List.forall_mem_cons.mpr ⟨by k_ne, fun _ h => nomatch h⟩⟩⟩⟩) (List.forall_mem_cons.mpr ⟨by k_ne, List.forall_mem_cons.mpr ⟨by k_ne, List.forall_mem_cons.mpr ⟨by k_ne, List.forall_mem_cons.mpr ⟨by k_ne, List.forall_mem_cons.mpr ⟨by k_ne, fun _ h => nomatch h⟩⟩⟩⟩⟩) (Nat.le_trans (row_len hinv.1 (lawNums_len ns)) (by decide)) ?_
      clear F N
      intro h' F N
      k_steps
      rename News _ _ _ _ => N
      rename Fr _ _ _ _ => F
      (try dsimp only at F)
      refine' fr_then F ?e ?_
      (case e => repeat' (first | exact envM_of_lookup _ | exact envM_nil | exact rfl | apply env_set))
      clear F
      intro F
      exact TurnEnd.mk (.inl rfl) (LawS.mk _ _ _ _ _ _) ⟨row_hit hlt hinv.1 ke (by unfold letterN; rw [if_pos kn]), row_miss hlt hinv.2 ke (by decide)⟩ F N (List.forall_mem_cons.mpr ⟨pI0, List.forall_mem_cons.mpr ⟨pI1, List.forall_mem_cons.mpr ⟨pI2, List.forall_mem_cons.mpr ⟨pI3, List.forall_mem_cons.mpr ⟨pI4, List.forall_mem_cons.mpr ⟨pI5, List.forall_mem_cons.mpr ⟨pI6, List.forall_mem_cons.mpr ⟨pI7, List.forall_mem_cons.mpr ⟨pI8, fun _ h => nomatch h⟩⟩⟩⟩⟩⟩⟩⟩⟩)
    · skip
      rename News _ _ _ _ => N
      rename Fr _ _ _ _ => F
      rename_i ke _ kn
      refine append_K [(I, ob), (S, listOf ws.toArray 0), (rR, listOf #[.ref r0, .ref r1] 0), (r1, listOf v1.toArray k1)] F N (List.forall_mem_cons.mpr ⟨by k_ne, List.forall_mem_cons.mpr ⟨by k_ne, List.forall_mem_cons.mpr ⟨by k_ne, List.forall_mem_cons.mpr ⟨by k_ne, fun _ h => nomatch h⟩⟩⟩⟩) (List.forall_mem_cons.mpr ⟨by k_ne, List.forall_mem_cons.mpr ⟨by k_ne, List.forall_mem_cons.mpr ⟨by k_ne, List.forall_mem_cons.mpr ⟨by k_ne, List.forall_mem_cons.mpr ⟨by k_ne, fun _ h => nomatch h⟩⟩⟩⟩⟩) (Nat.le_trans (row_len hinv.1 (lawNums_len ns)) (by decide)) ?_
      clear F N
      intro h' F N
      k_steps
      rename News _ _ _ _ => N
      rename Fr _ _ _ _ => F
      (try dsimp only at F)
      refine' fr_then F ?e ?_
      (case e => repeat' (first | exact envM_of_lookup _ | exact envM_nil | exact rfl | apply env_set))
      clear F
      intro F
      exact TurnEnd.mk (.inl rfl) (LawS.mk _ _ _ _ _ _) ⟨row_hit hlt hinv.1 ke (by unfold letterN; rw [if_neg kn]), row_miss hlt hinv.2 ke (by decide)⟩ F N (List.forall_mem_cons.mpr ⟨pI0, List.forall_mem_cons.mpr ⟨pI1, List.forall_mem_cons.mpr ⟨pI2, List.forall_mem_cons.mpr ⟨pI3, List.forall_mem_cons.mpr ⟨pI4, List.forall_mem_cons.mpr ⟨pI5, List.forall_mem_cons.mpr ⟨pI6, List.forall_mem_cons.mpr ⟨pI7, List.forall_mem_cons.mpr ⟨pI8, fun _ h => nomatch h⟩⟩⟩⟩⟩⟩⟩⟩⟩)
    · skip
      rename News _ _ _ _ => N
      rename Fr _ _ _ _ => F
      rename_i ke _ kn
      refine append_K [(I, ob), (S, listOf ws.toArray 0), (rR, listOf #[.ref r0, .ref r1] 0)] F N (List.forall_mem_cons.mpr ⟨by k_ne, List.forall_mem_cons.mpr ⟨by k_ne, List.forall_mem_cons.mpr ⟨by k_ne, fun _ h => nomatch h⟩⟩⟩) (List.forall_mem_cons.mpr ⟨by k_ne, List.forall_mem_cons.mpr ⟨by k_ne, List.forall_mem_cons.mpr ⟨by k_ne, List.forall_mem_cons.mpr ⟨by k_ne, List.forall_mem_cons.mpr ⟨by k_ne, List.forall_mem_cons.mpr ⟨by k_ne, fun _ h => nomatch h⟩⟩⟩⟩⟩⟩) (Nat.le_trans (row_len hinv.2 (lawNums_len ns)) (by decide)) ?_
      clear F N
      intro h' F N
      k_steps
      rename News _ _ _ _ => N
      rename Fr _ _ _ _ => F
      (try dsimp only at F)
      refine' fr_then F ?e ?_
      (case e => repeat' (first | exact envM_of_lookup _ | exact envM_nil | exact rfl | apply env_set))
      clear F
      intro F
      exact TurnEnd.mk (.inl rfl) (LawS.mk _ _ _ _ _ _) ⟨row_miss hlt hinv.1 ke (by decide), row_hit hlt hinv.2 ke (by unfold letterN; rw [if_pos kn])⟩ F N (List.forall_mem_cons.mpr ⟨pI0, List.forall_mem_cons.mpr ⟨pI1, List.forall_mem_cons.mpr ⟨pI2, List.forall_mem_cons.mpr ⟨pI3, List.forall_mem_cons.mpr ⟨pI4, List.forall_mem_cons.mpr ⟨pI5, List.forall_mem_cons.mpr ⟨pI6, List.forall_mem_cons.mpr ⟨pI7, List.forall_mem_cons.mpr ⟨pI8, fun _ h => nomatch h⟩⟩⟩⟩⟩⟩⟩⟩⟩)
    · skip
      rename News _ _ _ _ => N
      rename Fr _ _ _ _ => F
      rename_i ke _ kn
      refine append_K [(I, ob), (S, listOf ws.toArray 0), (rR, listOf #[.ref r0, .ref r1] 0)] F N (List.forall_mem_cons.mpr ⟨by k_ne, List.forall_mem_cons.mpr ⟨by k_ne, List.forall_mem_cons.mpr ⟨by k_ne, fun _ h => nomatch h⟩⟩⟩) (List.forall_mem_cons.mpr ⟨by k_ne, List.forall_mem_cons.mpr ⟨by k_ne, List.forall_mem_cons.mpr ⟨by k_ne, List.forall_mem_cons.mpr ⟨by k_ne, List.forall_mem_cons.mpr ⟨by k_ne, List.forall_mem_cons.mpr ⟨by k_ne, fun _ h => nomatch h⟩⟩⟩⟩⟩⟩) (Nat.le_trans (row_len hinv.2 (lawNums_len ns)) (by decide)) ?_
      clear F N
      intro h' F N
      k_steps
      rename News _ _ _ _ => N
      rename Fr _ _ _ _ => F
      (try dsimp only at F)
      refine' fr_then F ?e ?_
      (case e => repeat' (first | exact envM_of_lookup _ | exact envM_nil | exact rfl | apply env_set))
      clear F
      intro F
      exact TurnEnd.mk (.inl rfl) (LawS.mk _ _ _ _ _ _) ⟨row_miss hlt hinv.1 ke (by decide), row_hit hlt hinv.2 ke (by unfold letterN; rw [if_neg kn])⟩ F N (List.forall_mem_cons.mpr ⟨pI0, List.forall_mem_cons.mpr ⟨pI1, List.forall_mem_cons.mpr ⟨pI2, List.forall_mem_cons.mpr ⟨pI3, List.forall_mem_cons.mpr ⟨pI4, List.forall_mem_cons.mpr ⟨pI5, List.forall_mem_cons.mpr ⟨pI6, List.forall_mem_cons.mpr ⟨pI7, List.forall_mem_cons.mpr ⟨pI8, fun _ h => nomatch h⟩⟩⟩⟩⟩⟩⟩⟩⟩))
  (case done =>
    intro y h tk hinv F N
    obtain ⟨v0, k0, v1, k1, nu, le⟩ := y
    dsimp only at F N hinv ⊢
    change Fr h₀ L h _ at F
    change News h₀ L h _ at N
    rw [List.take_length] at hinv
    have z0 : v0.length ≤ 12 := row_len (i := (lawNums ns).length) (by rw [List.take_length]; exact hinv.1) (lawNums_len ns)
    have z1 : v1.length ≤ 12 := row_len (i := (lawNums ns).length) (by rw [List.take_length]; exact hinv.2) (lawNums_len ns)
    obtain ⟨hi0, hi1⟩ := hinv
    generalize rowN 0 (lawNums ns) = os at *
    generalize rowN 1 (lawNums ns) = ts at *
    replace N := news_sub N [(rR, listOf #[.ref r0, .ref r1] 0), (r1, listOf v1.toArray k1), (r0, listOf v0.toArray k0), (L + 1 + 1, oT), (L + 1, oO), (222, tabObj #[]), (340, tabObj #[]), (167, tabObj #[])] (List.forall_mem_cons.mpr ⟨by k_mem, List.forall_mem_cons.mpr ⟨by k_mem, List.forall_mem_cons.mpr ⟨by k_mem, List.forall_mem_cons.mpr ⟨by k_mem, List.forall_mem_cons.mpr ⟨by k_mem, List.forall_mem_cons.mpr ⟨by k_mem, List.forall_mem_cons.mpr ⟨by k_mem, List.forall_mem_cons.mpr ⟨by k_mem, fun _ h => nomatch h⟩⟩⟩⟩⟩⟩⟩⟩)
    clear F3 N3 hi3 pS0 pS1 pS2 pS3 pS4 pS5 pS6 pS7 neS hl₀ hl hi hz
    have q0 : @Ne Nat r0 (L + 1 + 1) := Nat.ne_of_gt lt0.1
    k_steps
    rename News _ _ _ _ => N
    rename Fr _ _ _ _ => F
    refine kde_tupleOf F N ⟨_, (N (r0, listOf v0.toArray k0) (by k_mem)).1, rfl, _, rfl⟩ (by simp; omega) rfl ?_
    clear F N
    intro D0 h5 F N ltD0
    k_lt ltD0
    k_steps
    rename News _ _ _ _ => N
    rename Fr _ _ _ _ => F
    refine kde_tupleOf F N ⟨_, (N (r1, listOf v1.toArray k1) (by k_mem)).1, rfl, _, rfl⟩ (by simp; omega) rfl ?_
    clear F N
    intro D1 h6 F N ltD1
    k_lt ltD1
    k_steps
    rename News _ _ _ _ => N
    rename Fr _ _ _ _ => F
    rename_i P9 _ lP _ _ oO2 dO2 _ oT2 dT2
    replace N := news_sub N [(D1, { cls := .type "tuple", data := .seq v1.toArray }), (D0, { cls := .type "tuple", data := .seq v0.toArray }), (L + 1 + 1, oT2), (L + 1, oO2), (222, tabObj #[]), (340, tabObj #[]), (167, tabObj #[])] (List.forall_mem_cons.mpr ⟨by k_mem, List.forall_mem_cons.mpr ⟨by k_mem, List.forall_mem_cons.mpr ⟨by k_mem, List.forall_mem_cons.mpr ⟨by k_mem, List.forall_mem_cons.mpr ⟨by k_mem, List.forall_mem_cons.mpr ⟨by k_mem, List.forall_mem_cons.mpr ⟨by k_mem, fun _ h => nomatch h⟩⟩⟩⟩⟩⟩⟩)
    have ltD : D0 < D1 := ltD1.1
    have lD1 : L + 1 + 1 < D0 := ltD0.2.2.2.1
    clear ltD1 ltD0 lP q0 lt0 lt1 lt2
    refine' Assign_ListComp_DCr (h₀ := h₀) (L := L) (m := envM [(Str.ofString "script", some (.ref a)), (Str.ofString "rows", some (.ref rR)), (Str.ofString "number", nu), (Str.ofString "letter", le)]) (pz := fun k => decide (os[k.toNat]? ≠ ts[k.toNat]?)) (d := PyData.int) ?a1 ?a2 hh ?a3 ?a4 ?a5 ?a6 ?a7 ?a8 ?a9 ?a10 ?a11
    (case a1 => rfl)
    (case a2 => rfl)
    (case a3 => rfl)
    (case a4 => decide)
    (case a5 => rfl)
    (case a6 => decide)
    (case a7 => rfl)
    (case a8 => rfl)
    (case a9 => rfl)
    (case a11 => exact fun _ => rfl)
    rename_i h9
    refine wpAny_mono (Q := RangeEnd h₀ L (envM [(Str.ofString "script", some (.ref a)), (Str.ofString "rows", some (.ref rR)), (Str.ofString "number", nu), (Str.ofString "letter", le)]) [(D1, { cls := .type "tuple", data := .seq v1.toArray }), (D0, { cls := .type "tuple", data := .seq v0.toArray }), (L + 1 + 1, oT2), (L + 1, oO2), (222, tabObj #[]), (340, tabObj #[]), (167, tabObj #[])] (max os.length ts.length) { s with heap := h9, toks := tk }) (E := fun _ _ => False) ?it (fun v s' hv => ?_) (fun _ _ e => e.elim)
    (case it =>
      k_steps
      refine PyProof.Rows.len_tuple (items := v0.toArray) ⟨_, (N (D0, { cls := .type "tuple", data := .seq v0.toArray }) (by k_mem)).1, rfl, 0, rfl⟩ (by simp; omega) ?_
      k_steps
      refine PyProof.Rows.len_tuple (items := v1.toArray) ⟨_, (N (D1, { cls := .type "tuple", data := .seq v1.toArray }) (by k_mem)).1, rfl, 0, rfl⟩ (by simp; omega) ?_
      k_steps
      refine max2 hh ?_
      intro h' tk' t' st
      dsimp only at st ⊢
      have F9 := fr_stay F st
      have N9 := news_stay N st
      clear F N
      k_steps
      rename_i e9 h'' tk'' w1 w2 w3 hR hF hN _
      have hm : ((max os.length ts.length : Nat) : Int) = max (v0.length : Int) (ts.length : Int) := by
        have := hi0.length
        omega
      exact ⟨_, _, _, rfl, rfl, ⟨w1, w2, w3, by rw [hm]; exact hR⟩, hF, hN⟩)
    obtain ⟨r, h10, tk10, rfl, rfl, ⟨t', u', v', hr⟩, F10, N10⟩ := hv
    clear F N
    have l0 := hi0.length
    have l1 := hi1.length
    have hM : max os.length ts.length ≤ 12 := by omega
    generalize hMe : max os.length ts.length = M at *
    refine ⟨_, r, 0, (M : Int), 1, t', u', v', M, rfl, hr, ?small, range_size (by omega) (by omega), by rw [sizeLine_eq]; omega, F10, N10, ?test, ?elt, ?done⟩
    (case small => exact small_one (by omega) (by omega) (by omega) (by omega))
    (case test =>
      intro C k v s2 m2 E' hC hk hv hn hm hst
      obtain ⟨kt, rfl⟩ := hv
      have hk0 : 0 ≤ k := by
        obtain ⟨i, hi, rfl⟩ := List.mem_map.mp hk
        omega
      have F2 := fr_stay F10 hst
      have N2 := news_stay N10 hst
      simp only [List.forIn_cons, List.forIn_nil, if_true]
      refine wpAny_bind (wpAny_bind ?_)
      walk1
      refine Subscript_ ?_
      refine nmC_cell ⟨oO2, (N2 (L + 1, oO2) (by k_mem)).1, dO2⟩ ?_
      walk1
      walk1
      refine nmC_local hn hm ?_
      walk1
      walk1
      refine nmC_local hn hm ?_
      walk1
      walk1
      walk1
      obtain ⟨j, rfl⟩ := Int.eq_ofNat_of_zero_le hk0
      refine slice_any F2 N2 (items := v0.toArray) ⟨_, (N2 (D0, { cls := .type "tuple", data := .seq v0.toArray }) (by k_mem)).1, rfl, 0, rfl⟩ (.int _ _) (.int _ _) (pick_one v0 j) (at_size _) ?_
      intro z1 h12 st1 F3 N3 tz1
      dsimp only at st1 tz1 ⊢
      refine Subscript_ ?_
      refine nmC_cell ⟨oT2, (N3 (L + 1 + 1, oT2) (by k_mem)).1, dT2⟩ ?_
      walk1
      walk1
      refine nmC_local (hn.keeps st1) hm ?_
      walk1
      walk1
      refine nmC_local (hn.keeps st1) hm ?_
      walk1
      walk1
      walk1
      refine slice_any F3 N3 (items := v1.toArray) ⟨_, (N3 (D1, { cls := .type "tuple", data := .seq v1.toArray }) (by k_mem)).1, rfl, 0, rfl⟩ (.int _ _) (.int _ _) (pick_one v1 j) (at_size _) ?_
      intro z2 h13 st2 F4 N4 tz2
      dsimp only at st2 tz2 ⊢
      refine ne_tups (vs := v0[j]?.toList) (ws := v1[j]?.toList) (IsTup.keep tz1 st2) tz2 (ints_at hi0 j) (ints_at hi1 j) (Nat.lt_of_le_of_lt (Nat.le_add_right _ _) (room_deep H).un) ?_
      refine wpAny_truthy_bool ?_
      exact wpAny_pure (wpAny_pure ⟨by rw [Int.toNat_natCast]; exact decide_eq_decide.mpr at_ne, h13, _, rfl, fun b o e => st2 b o (st1 b o e)⟩))
    (case elt =>
      intro C k v s2 m2 E' hC hk hv hp hn hm hst
      obtain ⟨kt, rfl⟩ := hv
      exact nmC_local hn hm ⟨.int k kt, keeps_refl⟩)
    (case done =>
      intro U ys h11 tk11 F11 N11 hU hlU hpU hcU
      have neU := hpU.2
      have neL := hpU.ne_locals F11
      obtain ⟨⟨nU, eU⟩, -⟩ := hpU
      have lenU : (ys.length : Int) = hamD os ts := ham_len hMe hcU
      have NU : News h₀ L h11 ((U, listOf ys.toArray nU) :: _) := List.forall_mem_cons.mpr ⟨⟨eU, neL, hU⟩, N11⟩
      have pU0 : @Ne Nat (D1) U := neU _ (.head _)
      have pU1 : @Ne Nat (D0) U := neU _ (.tail _ (.head _))
      have pU2 : @Ne Nat (L + 1 + 1) U := neU _ (.tail _ (.tail _ (.head _)))
      have pU3 : @Ne Nat (L + 1) U := neU _ (.tail _ (.tail _ (.tail _ (.head _))))
      have pU4 : @Ne Nat (222) U := neU _ (.tail _ (.tail _ (.tail _ (.tail _ (.head _)))))
      have pU5 : @Ne Nat (340) U := neU _ (.tail _ (.tail _ (.tail _ (.tail _ (.tail _ (.head _))))))
      have pU6 : @Ne Nat (167) U := neU _ (.tail _ (.tail _ (.tail _ (.tail _ (.tail _ (.tail _ (.head _)))))))
      clear neU N11 hcU hlU F10 N10 hr hM hMe eU
      (try dsimp only at F11)
      refine' fr_then F11 ?e ?_
      (case e => repeat' (first | exact envM_of_lookup _ | exact envM_nil | exact rfl | apply env_set))
      clear F11
      intro F11
      have F11 := fr_more [Str.ofString "far"] F11
      rename_i F12
      clear F12
      change Fr h₀ L h11 (envM [(Str.ofString "script", some (.ref a)), (Str.ofString "rows", some (.ref rR)), (Str.ofString "number", nu), (Str.ofString "letter", le), (Str.ofString "unlike", some (.ref U)), (Str.ofString "far", none)]) at F11
      k_steps
      rename News _ _ _ _ => N
      rename Fr _ _ _ _ => F
      have n340 : @Ne Nat D0 340 := Nat.ne_of_gt (Nat.lt_trans l2.2.1 (Nat.lt_trans (Nat.lt_succ_of_lt (Nat.lt_succ_self _)) lD1))
      have n167 : @Ne Nat D0 167 := Nat.ne_of_gt (Nat.lt_trans l2.2.2 (Nat.lt_trans (Nat.lt_succ_of_lt (Nat.lt_succ_self _)) lD1))
      have n222 : @Ne Nat D0 222 := Nat.ne_of_gt (Nat.lt_trans l2.1 (Nat.lt_trans (Nat.lt_succ_of_lt (Nat.lt_succ_self _)) lD1))
      have m340 : @Ne Nat D1 340 := Nat.ne_of_gt (Nat.lt_trans l2.2.1 (Nat.lt_trans (Nat.lt_trans (Nat.lt_succ_of_lt (Nat.lt_succ_self _)) lD1) ltD))
      have m167 : @Ne Nat D1 167 := Nat.ne_of_gt (Nat.lt_trans l2.2.2 (Nat.lt_trans (Nat.lt_trans (Nat.lt_succ_of_lt (Nat.lt_succ_self _)) lD1) ltD))
      have m222 : @Ne Nat D1 222 := Nat.ne_of_gt (Nat.lt_trans l2.1 (Nat.lt_trans (Nat.lt_trans (Nat.lt_succ_of_lt (Nat.lt_succ_self _)) lD1) ltD))
      have q340 : @Ne Nat (L + 1 + 1) 340 := Nat.ne_of_gt (Nat.lt_succ_of_lt (Nat.lt_succ_of_lt l2.2.1))
      have q167 : @Ne Nat (L + 1 + 1) 167 := Nat.ne_of_gt (Nat.lt_succ_of_lt (Nat.lt_succ_of_lt l2.2.2))
      have q222 : @Ne Nat (L + 1 + 1) 222 := Nat.ne_of_gt (Nat.lt_succ_of_lt (Nat.lt_succ_of_lt l2.1))
      have r340 : @Ne Nat (L + 1) 340 := Nat.ne_of_gt (Nat.lt_succ_of_lt l2.2.1)
      have r167 : @Ne Nat (L + 1) 167 := Nat.ne_of_gt (Nat.lt_succ_of_lt l2.2.2)
      have r222 : @Ne Nat (L + 1) 222 := Nat.ne_of_gt (Nat.lt_succ_of_lt l2.1)
      have dd : @Ne Nat D0 D1 := Nat.ne_of_lt ltD
      refine Pays.use (new_base329 (On.of X T₀ F) (room_deep (H.less (by omega) (by omega)))) ?_
      intro v hA tkA stA hv
      obtain ⟨x, dx, t0, t1, rfl, hx, hdx, nx, ndx, ltx⟩ := hv
      dsimp only at stA hx hdx nx ndx ⊢
      obtain ⟨NA, neA⟩ := news_two F N stA hx nx hdx ndx
      have FA := fr_stay F stA
      have px0 : @Ne Nat (U) x := (neA _ (.head _)).1
      have pd0 : @Ne Nat (U) dx := (neA _ (.head _)).2
      have px1 : @Ne Nat (D1) x := (neA _ (.tail _ (.head _))).1
      have pd1 : @Ne Nat (D1) dx := (neA _ (.tail _ (.head _))).2
      have px2 : @Ne Nat (D0) x := (neA _ (.tail _ (.tail _ (.head _)))).1
      have pd2 : @Ne Nat (D0) dx := (neA _ (.tail _ (.tail _ (.head _)))).2
      have px3 : @Ne Nat (L + 1 + 1) x := (neA _ (.tail _ (.tail _ (.tail _ (.head _))))).1
      have pd3 : @Ne Nat (L + 1 + 1) dx := (neA _ (.tail _ (.tail _ (.tail _ (.head _))))).2
      have px4 : @Ne Nat (L + 1) x := (neA _ (.tail _ (.tail _ (.tail _ (.tail _ (.head _)))))).1
      have pd4 : @Ne Nat (L + 1) dx := (neA _ (.tail _ (.tail _ (.tail _ (.tail _ (.head _)))))).2
      have px5 : @Ne Nat (222) x := (neA _ (.tail _ (.tail _ (.tail _ (.tail _ (.tail _ (.head _))))))).1
      have pd5 : @Ne Nat (222) dx := (neA _ (.tail _ (.tail _ (.tail _ (.tail _ (.tail _ (.head _))))))).2
      have px6 : @Ne Nat (340) x := (neA _ (.tail _ (.tail _ (.tail _ (.tail _ (.tail _ (.tail _ (.head _)))))))).1
      have pd6 : @Ne Nat (340) dx := (neA _ (.tail _ (.tail _ (.tail _ (.tail _ (.tail _ (.tail _ (.head _)))))))).2
      have px7 : @Ne Nat (167) x := (neA _ (.tail _ (.tail _ (.tail _ (.tail _ (.tail _ (.tail _ (.tail _ (.head _))))))))).1
      have pd7 : @Ne Nat (167) dx := (neA _ (.tail _ (.tail _ (.tail _ (.tail _ (.tail _ (.tail _ (.tail _ (.head _))))))))).2
      have pxd : @Ne Nat dx x := Nat.ne_of_lt ltx
      clear F N neA stA hx hdx nx ndx
      k_steps
      rename News _ _ _ _ => N
      rename Fr _ _ _ _ => F
      refine Pays.use (dist_base329 (TupAt.hid [(x, instObj 329 dx), (dx, dictOf (base329At w t0 t1) 2)] N (by k_mem) hi0 (by omega) (List.forall_mem_cons.mpr ⟨by k_ne, List.forall_mem_cons.mpr ⟨by k_ne, fun _ h => nomatch h⟩⟩)) (TupAt.hid [(x, instObj 329 dx), (dx, dictOf (base329At w t0 t1) 2)] N (by k_mem) hi1 (by omega) (List.forall_mem_cons.mpr ⟨by k_ne, List.forall_mem_cons.mpr ⟨by k_ne, fun _ h => nomatch h⟩⟩)) (Inst.hid [(x, instObj 329 dx), (dx, dictOf (base329At w t0 t1) 2)] N (.head _) (.tail _ (.head _)) (List.forall_mem_cons.mpr ⟨by k_mem, List.forall_mem_cons.mpr ⟨by k_mem, fun _ h => nomatch h⟩⟩) ltx) (On.hid [(x, instObj 329 dx), (dx, dictOf (base329At w t0 t1) 2)] X T₀ F N (List.forall_mem_cons.mpr ⟨by k_mem, List.forall_mem_cons.mpr ⟨by k_mem, fun _ h => nomatch h⟩⟩)) (room_deep (H.less (by omega) (by omega)))) ?_
      intro v hB tkB stB hv
      obtain ⟨A1, tA1, rfl, hA1⟩ := ex_int hv
      clear hv
      dsimp only at stB ⊢
      have FB := fr_stay F stB
      have NB := news_sub (news_stay N stB) [(U, listOf ys.toArray nU), (D1, { cls := .type "tuple", data := .seq v1.toArray }), (D0, { cls := .type "tuple", data := .seq v0.toArray }), (L + 1 + 1, oT2), (L + 1, oO2), (222, tabObj #[]), (340, tabObj #[]), (167, tabObj #[])] (List.forall_mem_cons.mpr ⟨by k_mem, List.forall_mem_cons.mpr ⟨by k_mem, List.forall_mem_cons.mpr ⟨by k_mem, List.forall_mem_cons.mpr ⟨by k_mem, List.forall_mem_cons.mpr ⟨by k_mem, List.forall_mem_cons.mpr ⟨by k_mem, List.forall_mem_cons.mpr ⟨by k_mem, List.forall_mem_cons.mpr ⟨by k_mem, fun _ h => nomatch h⟩⟩⟩⟩⟩⟩⟩⟩)
      clear F N pxd px0 pd0 px1 pd1 px2 pd2 px3 pd3 px4 pd4 px5 pd5 px6 pd6 px7 pd7 ltx
      k_steps
      rename News _ _ _ _ => N
      rename Fr _ _ _ _ => F
      refine Pays.use (new_base348 (On.of X T₀ F) (room_deep (H.less (by omega) (by omega)))) ?_
      intro v hA tkA stA hv
      obtain ⟨x, dx, t0, t1, rfl, hx, hdx, nx, ndx, ltx⟩ := hv
      dsimp only at stA hx hdx nx ndx ⊢
      obtain ⟨NA, neA⟩ := news_two F N stA hx nx hdx ndx
      have FA := fr_stay F stA
      have px0 : @Ne Nat (U) x := (neA _ (.head _)).1
      have pd0 : @Ne Nat (U) dx := (neA _ (.head _)).2
      have px1 : @Ne Nat (D1) x := (neA _ (.tail _ (.head _))).1
      have pd1 : @Ne Nat (D1) dx := (neA _ (.tail _ (.head _))).2
      have px2 : @Ne Nat (D0) x := (neA _ (.tail _ (.tail _ (.head _)))).1
      have pd2 : @Ne Nat (D0) dx := (neA _ (.tail _ (.tail _ (.head _)))).2
      have px3 : @Ne Nat (L + 1 + 1) x := (neA _ (.tail _ (.tail _ (.tail _ (.head _))))).1
      have pd3 : @Ne Nat (L + 1 + 1) dx := (neA _ (.tail _ (.tail _ (.tail _ (.head _))))).2
      have px4 : @Ne Nat (L + 1) x := (neA _ (.tail _ (.tail _ (.tail _ (.tail _ (.head _)))))).1
      have pd4 : @Ne Nat (L + 1) dx := (neA _ (.tail _ (.tail _ (.tail _ (.tail _ (.head _)))))).2
      have px5 : @Ne Nat (222) x := (neA _ (.tail _ (.tail _ (.tail _ (.tail _ (.tail _ (.head _))))))).1
      have pd5 : @Ne Nat (222) dx := (neA _ (.tail _ (.tail _ (.tail _ (.tail _ (.tail _ (.head _))))))).2
      have px6 : @Ne Nat (340) x := (neA _ (.tail _ (.tail _ (.tail _ (.tail _ (.tail _ (.tail _ (.head _)))))))).1
      have pd6 : @Ne Nat (340) dx := (neA _ (.tail _ (.tail _ (.tail _ (.tail _ (.tail _ (.tail _ (.head _)))))))).2
      have px7 : @Ne Nat (167) x := (neA _ (.tail _ (.tail _ (.tail _ (.tail _ (.tail _ (.tail _ (.tail _ (.head _))))))))).1
      have pd7 : @Ne Nat (167) dx := (neA _ (.tail _ (.tail _ (.tail _ (.tail _ (.tail _ (.tail _ (.tail _ (.head _))))))))).2
      have pxd : @Ne Nat dx x := Nat.ne_of_lt ltx
      clear F N neA stA hx hdx nx ndx
      k_steps
      rename News _ _ _ _ => N
      rename Fr _ _ _ _ => F
      refine PaysT.use (by exact bare) (dist_bag (TupAt.hid [(x, instObj 348 dx), (dx, dictOf (base348At w t0 t1) 2), (340, tabObj #[]), (167, tabObj #[])] N (by k_mem) hi0 (by omega) (List.forall_mem_cons.mpr ⟨by k_ne, List.forall_mem_cons.mpr ⟨by k_ne, List.forall_mem_cons.mpr ⟨by k_ne, List.forall_mem_cons.mpr ⟨by k_ne, fun _ h => nomatch h⟩⟩⟩⟩)) (TupAt.hid [(x, instObj 348 dx), (dx, dictOf (base348At w t0 t1) 2), (340, tabObj #[]), (167, tabObj #[])] N (by k_mem) hi1 (by omega) (List.forall_mem_cons.mpr ⟨by k_ne, List.forall_mem_cons.mpr ⟨by k_ne, List.forall_mem_cons.mpr ⟨by k_ne, List.forall_mem_cons.mpr ⟨by k_ne, fun _ h => nomatch h⟩⟩⟩⟩)) (Inst.hid [(x, instObj 348 dx), (dx, dictOf (base348At w t0 t1) 2), (340, tabObj #[]), (167, tabObj #[])] N (.head _) (.tail _ (.head _)) (List.forall_mem_cons.mpr ⟨by k_mem, List.forall_mem_cons.mpr ⟨by k_mem, List.forall_mem_cons.mpr ⟨by k_mem, List.forall_mem_cons.mpr ⟨by k_mem, fun _ h => nomatch h⟩⟩⟩⟩) ltx) (On.hid [(x, instObj 348 dx), (dx, dictOf (base348At w t0 t1) 2), (340, tabObj #[]), (167, tabObj #[])] X T₀ F N (List.forall_mem_cons.mpr ⟨by k_mem, List.forall_mem_cons.mpr ⟨by k_mem, List.forall_mem_cons.mpr ⟨by k_mem, List.forall_mem_cons.mpr ⟨by k_mem, fun _ h => nomatch h⟩⟩⟩⟩)) (Tab.hid [(x, instObj 348 dx), (dx, dictOf (base348At w t0 t1) 2), (340, tabObj #[]), (167, tabObj #[])] N (by k_mem) (List.forall_mem_cons.mpr ⟨by k_mem, List.forall_mem_cons.mpr ⟨by k_mem, List.forall_mem_cons.mpr ⟨by k_mem, List.forall_mem_cons.mpr ⟨by k_mem, fun _ h => nomatch h⟩⟩⟩⟩)) (Tab.hid [(x, instObj 348 dx), (dx, dictOf (base348At w t0 t1) 2), (340, tabObj #[]), (167, tabObj #[])] N (by k_mem) (List.forall_mem_cons.mpr ⟨by k_mem, List.forall_mem_cons.mpr ⟨by k_mem, List.forall_mem_cons.mpr ⟨by k_mem, List.forall_mem_cons.mpr ⟨by k_mem, fun _ h => nomatch h⟩⟩⟩⟩)) (room_deep (H.less (by omega) (by omega)))) ?_
      intro v hB tkB gB kB TB bareB hv
      obtain ⟨A2, tA2, rfl, hA2⟩ := ex_int hv
      clear hv
      dsimp only at kB ⊢
      have i340 := (N (340, tabObj #[]) (by k_mem)).2
      have i167 := (N (167, tabObj #[]) (by k_mem)).2
      have FB := fr_keptT F (Ps := [340, 167]) (List.forall_mem_cons.mpr ⟨⟨i340.2, i340.1⟩, List.forall_mem_cons.mpr ⟨⟨i167.2, i167.1⟩, fun _ h => nomatch h⟩⟩) kB
      obtain ⟨p340, h340⟩ := TB 340 (.head _)
      obtain ⟨p167, h167⟩ := TB 167 (.tail _ (.head _))
      have NB : News h₀ L hB [(U, listOf ys.toArray nU), (D1, { cls := .type "tuple", data := .seq v1.toArray }), (D0, { cls := .type "tuple", data := .seq v0.toArray }), (L + 1 + 1, oT2), (L + 1, oO2), (222, tabObj #[]), (340, tabObj p340), (167, tabObj p167)] :=
        List.forall_mem_cons.mpr ⟨⟨kB _ _ (by first | (simp; done) | (simp; exact ⟨by k_ne, by k_ne⟩)) (N (U, listOf ys.toArray nU) (by k_mem)).1, (N (U, listOf ys.toArray nU) (by k_mem)).2⟩, List.forall_mem_cons.mpr ⟨⟨kB _ _ (by first | (simp; done) | (simp; exact ⟨by k_ne, by k_ne⟩)) (N (D1, { cls := .type "tuple", data := .seq v1.toArray }) (by k_mem)).1, (N (D1, { cls := .type "tuple", data := .seq v1.toArray }) (by k_mem)).2⟩, List.forall_mem_cons.mpr ⟨⟨kB _ _ (by first | (simp; done) | (simp; exact ⟨by k_ne, by k_ne⟩)) (N (D0, { cls := .type "tuple", data := .seq v0.toArray }) (by k_mem)).1, (N (D0, { cls := .type "tuple", data := .seq v0.toArray }) (by k_mem)).2⟩, List.forall_mem_cons.mpr ⟨⟨kB _ _ (by first | (simp; done) | (simp; exact ⟨by k_ne, by k_ne⟩)) (N (L + 1 + 1, oT2) (by k_mem)).1, (N (L + 1 + 1, oT2) (by k_mem)).2⟩, List.forall_mem_cons.mpr ⟨⟨kB _ _ (by first | (simp; done) | (simp; exact ⟨by k_ne, by k_ne⟩)) (N (L + 1, oO2) (by k_mem)).1, (N (L + 1, oO2) (by k_mem)).2⟩, List.forall_mem_cons.mpr ⟨⟨kB _ _ (by first | (simp; done) | (simp; exact ⟨by k_ne, by k_ne⟩)) (N (222, tabObj #[]) (by k_mem)).1, (N (222, tabObj #[]) (by k_mem)).2⟩, List.forall_mem_cons.mpr ⟨⟨h340, (N (340, tabObj #[]) (by k_mem)).2⟩, List.forall_mem_cons.mpr ⟨⟨h167, (N (167, tabObj #[]) (by k_mem)).2⟩, fun _ h => nomatch h⟩⟩⟩⟩⟩⟩⟩⟩
      clear i340 i167
      clear F N pxd px0 pd0 px1 pd1 px2 pd2 px3 pd3 px4 pd4 px5 pd5 px6 pd6 px7 pd7 ltx
      k_steps
      rename News _ _ _ _ => N
      rename Fr _ _ _ _ => F
      rename_i Fa _ lFa hFa
      have f0 : @Ne Nat (U) Fa := Nat.ne_of_lt lFa.1
      have f1 : @Ne Nat (D1) Fa := Nat.ne_of_lt lFa.2.1
      have f2 : @Ne Nat (D0) Fa := Nat.ne_of_lt lFa.2.2.1
      have f3 : @Ne Nat (L + 1 + 1) Fa := Nat.ne_of_lt lFa.2.2.2.1
      have f4 : @Ne Nat (L + 1) Fa := Nat.ne_of_lt lFa.2.2.2.2.1
      have f5 : @Ne Nat (222) Fa := Nat.ne_of_lt lFa.2.2.2.2.2.1
      have f6 : @Ne Nat (340) Fa := Nat.ne_of_lt lFa.2.2.2.2.2.2.1
      have f7 : @Ne Nat (167) Fa := Nat.ne_of_lt lFa.2.2.2.2.2.2.2
      clear lFa
      refine Pays.use (new_dlf (On.of X T₀ F) (room_deep (H.less (by omega) (by omega)))) ?_
      intro v hA tkA stA hv
      obtain ⟨x, dx, t0, t1, t2, t3, rfl, hx, hdx, nx, ndx, ltx⟩ := hv
      dsimp only at stA hx hdx nx ndx ⊢
      obtain ⟨NA, neA⟩ := news_two F N stA hx nx hdx ndx
      have FA := fr_stay F stA
      have px0 : @Ne Nat (Fa) x := (neA _ (.head _)).1
      have pd0 : @Ne Nat (Fa) dx := (neA _ (.head _)).2
      have px1 : @Ne Nat (U) x := (neA _ (.tail _ (.head _))).1
      have pd1 : @Ne Nat (U) dx := (neA _ (.tail _ (.head _))).2
      have px2 : @Ne Nat (D1) x := (neA _ (.tail _ (.tail _ (.head _)))).1
      have pd2 : @Ne Nat (D1) dx := (neA _ (.tail _ (.tail _ (.head _)))).2
      have px3 : @Ne Nat (D0) x := (neA _ (.tail _ (.tail _ (.tail _ (.head _))))).1
      have pd3 : @Ne Nat (D0) dx := (neA _ (.tail _ (.tail _ (.tail _ (.head _))))).2
      have px4 : @Ne Nat (L + 1 + 1) x := (neA _ (.tail _ (.tail _ (.tail _ (.tail _ (.head _)))))).1
      have pd4 : @Ne Nat (L + 1 + 1) dx := (neA _ (.tail _ (.tail _ (.tail _ (.tail _ (.head _)))))).2
      have px5 : @Ne Nat (L + 1) x := (neA _ (.tail _ (.tail _ (.tail _ (.tail _ (.tail _ (.head _))))))).1
      have pd5 : @Ne Nat (L + 1) dx := (neA _ (.tail _ (.tail _ (.tail _ (.tail _ (.tail _ (.head _))))))).2
      have px6 : @Ne Nat (222) x := (neA _ (.tail _ (.tail _ (.tail _ (.tail _ (.tail _ (.tail _ (.head _)))))))).1
      have pd6 : @Ne Nat (222) dx := (neA _ (.tail _ (.tail _ (.tail _ (.tail _ (.tail _ (.tail _ (.head _)))))))).2
      have px7 : @Ne Nat (340) x := (neA _ (.tail _ (.tail _ (.tail _ (.tail _ (.tail _ (.tail _ (.tail _ (.head _))))))))).1
      have pd7 : @Ne Nat (340) dx := (neA _ (.tail _ (.tail _ (.tail _ (.tail _ (.tail _ (.tail _ (.tail _ (.head _))))))))).2
      have px8 : @Ne Nat (167) x := (neA _ (.tail _ (.tail _ (.tail _ (.tail _ (.tail _ (.tail _ (.tail _ (.tail _ (.head _)))))))))).1
      have pd8 : @Ne Nat (167) dx := (neA _ (.tail _ (.tail _ (.tail _ (.tail _ (.tail _ (.tail _ (.tail _ (.tail _ (.head _)))))))))).2
      have pxd : @Ne Nat dx x := Nat.ne_of_lt ltx
      clear F N neA stA hx hdx nx ndx
      k_steps
      rename News _ _ _ _ => N
      rename Fr _ _ _ _ => F
      refine Pays.use (dist_dlf (TupAt.hid [(x, instObj 310 dx), (dx, dictOf (dlfAt w t0 t1 t2 t3) 4)] N (by k_mem) hi0 (by omega) (List.forall_mem_cons.mpr ⟨by k_ne, List.forall_mem_cons.mpr ⟨by k_ne, fun _ h => nomatch h⟩⟩)) (TupAt.hid [(x, instObj 310 dx), (dx, dictOf (dlfAt w t0 t1 t2 t3) 4)] N (by k_mem) hi1 (by omega) (List.forall_mem_cons.mpr ⟨by k_ne, List.forall_mem_cons.mpr ⟨by k_ne, fun _ h => nomatch h⟩⟩)) (Inst.hid [(x, instObj 310 dx), (dx, dictOf (dlfAt w t0 t1 t2 t3) 4)] N (.head _) (.tail _ (.head _)) (List.forall_mem_cons.mpr ⟨by k_mem, List.forall_mem_cons.mpr ⟨by k_mem, fun _ h => nomatch h⟩⟩) ltx) (On.hid [(x, instObj 310 dx), (dx, dictOf (dlfAt w t0 t1 t2 t3) 4)] X T₀ F N (List.forall_mem_cons.mpr ⟨by k_mem, List.forall_mem_cons.mpr ⟨by k_mem, fun _ h => nomatch h⟩⟩)) (room_deep (H.less (by omega) (by omega)))) ?_
      intro v hB tkB stB hv
      obtain ⟨A3, tA3, rfl, hA3⟩ := ex_int hv
      clear hv
      dsimp only at stB ⊢
      have FB := fr_stay F stB
      have NB := news_sub (news_stay N stB) [(Fa, listOf #[.int A1 tA1, .int A2 tA2] 0), (U, listOf ys.toArray nU), (D1, { cls := .type "tuple", data := .seq v1.toArray }), (D0, { cls := .type "tuple", data := .seq v0.toArray }), (L + 1 + 1, oT2), (L + 1, oO2), (222, tabObj #[]), (340, tabObj p340), (167, tabObj p167)] (List.forall_mem_cons.mpr ⟨by k_mem, List.forall_mem_cons.mpr ⟨by k_mem, List.forall_mem_cons.mpr ⟨by k_mem, List.forall_mem_cons.mpr ⟨by k_mem, List.forall_mem_cons.mpr ⟨by k_mem, List.forall_mem_cons.mpr ⟨by k_mem, List.forall_mem_cons.mpr ⟨by k_mem, List.forall_mem_cons.mpr ⟨by k_mem, List.forall_mem_cons.mpr ⟨by k_mem, fun _ h => nomatch h⟩⟩⟩⟩⟩⟩⟩⟩⟩)
      clear F N pxd px0 pd0 px1 pd1 px2 pd2 px3 pd3 px4 pd4 px5 pd5 px6 pd6 px7 pd7 px8 pd8 ltx
      k_steps
      rename News _ _ _ _ => N
      rename Fr _ _ _ _ => F
      refine Pays.use (new_dlt (On.of X T₀ F) (room_deep (H.less (by omega) (by omega)))) ?_
      intro v hA tkA stA hv
      obtain ⟨x, dx, t0, t1, t2, t3, rfl, hx, hdx, nx, ndx, ltx⟩ := hv
      dsimp only at stA hx hdx nx ndx ⊢
      obtain ⟨NA, neA⟩ := news_two F N stA hx nx hdx ndx
      have FA := fr_stay F stA
      have px0 : @Ne Nat (Fa) x := (neA _ (.head _)).1
      have pd0 : @Ne Nat (Fa) dx := (neA _ (.head _)).2
      have px1 : @Ne Nat (U) x := (neA _ (.tail _ (.head _))).1
      have pd1 : @Ne Nat (U) dx := (neA _ (.tail _ (.head _))).2
      have px2 : @Ne Nat (D1) x := (neA _ (.tail _ (.tail _ (.head _)))).1
      have pd2 : @Ne Nat (D1) dx := (neA _ (.tail _ (.tail _ (.head _)))).2
      have px3 : @Ne Nat (D0) x := (neA _ (.tail _ (.tail _ (.tail _ (.head _))))).1
      have pd3 : @Ne Nat (D0) dx := (neA _ (.tail _ (.tail _ (.tail _ (.head _))))).2
      have px4 : @Ne Nat (L + 1 + 1) x := (neA _ (.tail _ (.tail _ (.tail _ (.tail _ (.head _)))))).1
      have pd4 : @Ne Nat (L + 1 + 1) dx := (neA _ (.tail _ (.tail _ (.tail _ (.tail _ (.head _)))))).2
      have px5 : @Ne Nat (L + 1) x := (neA _ (.tail _ (.tail _ (.tail _ (.tail _ (.tail _ (.head _))))))).1
      have pd5 : @Ne Nat (L + 1) dx := (neA _ (.tail _ (.tail _ (.tail _ (.tail _ (.tail _ (.head _))))))).2
      have px6 : @Ne Nat (222) x := (neA _ (.tail _ (.tail _ (.tail _ (.tail _ (.tail _ (.tail _ (.head _)))))))).1
      have pd6 : @Ne Nat (222) dx := (neA _ (.tail _ (.tail _ (.tail _ (.tail _ (.tail _ (.tail _ (.head _)))))))).2
      have px7 : @Ne Nat (340) x := (neA _ (.tail _ (.tail _ (.tail _ (.tail _ (.tail _ (.tail _ (.tail _ (.head _))))))))).1
      have pd7 : @Ne Nat (340) dx := (neA _ (.tail _ (.tail _ (.tail _ (.tail _ (.tail _ (.tail _ (.tail _ (.head _))))))))).2
      have px8 : @Ne Nat (167) x := (neA _ (.tail _ (.tail _ (.tail _ (.tail _ (.tail _ (.tail _ (.tail _ (.tail _ (.head _)))))))))).1
      have pd8 : @Ne Nat (167) dx := (neA _ (.tail _ (.tail _ (.tail _ (.tail _ (.tail _ (.tail _ (.tail _ (.tail _ (.head _)))))))))).2
      have pxd : @Ne Nat dx x := Nat.ne_of_lt ltx
      clear F N neA stA hx hdx nx ndx
      k_steps
      rename News _ _ _ _ => N
      rename Fr _ _ _ _ => F
      refine Pays.use (dist_dlt (TupAt.hid [(x, instObj 310 dx), (dx, dictOf (dltAt w t0 t1 t2 t3) 4)] N (by k_mem) hi0 (by omega) (List.forall_mem_cons.mpr ⟨by k_ne, List.forall_mem_cons.mpr ⟨by k_ne, fun _ h => nomatch h⟩⟩)) (TupAt.hid [(x, instObj 310 dx), (dx, dictOf (dltAt w t0 t1 t2 t3) 4)] N (by k_mem) hi1 (by omega) (List.forall_mem_cons.mpr ⟨by k_ne, List.forall_mem_cons.mpr ⟨by k_ne, fun _ h => nomatch h⟩⟩)) (Inst.hid [(x, instObj 310 dx), (dx, dictOf (dltAt w t0 t1 t2 t3) 4)] N (.head _) (.tail _ (.head _)) (List.forall_mem_cons.mpr ⟨by k_mem, List.forall_mem_cons.mpr ⟨by k_mem, fun _ h => nomatch h⟩⟩) ltx) (On.hid [(x, instObj 310 dx), (dx, dictOf (dltAt w t0 t1 t2 t3) 4)] X T₀ F N (List.forall_mem_cons.mpr ⟨by k_mem, List.forall_mem_cons.mpr ⟨by k_mem, fun _ h => nomatch h⟩⟩)) (room_deep (H.less (by omega) (by omega)))) ?_
      intro v hB tkB stB hv
      obtain ⟨A4, tA4, rfl, hA4⟩ := ex_int hv
      clear hv
      dsimp only at stB ⊢
      have FB := fr_stay F stB
      have NB := news_sub (news_stay N stB) [(Fa, listOf (#[.int A1 tA1, .int A2 tA2].push (.int A3 tA3)) (0 + 1)), (U, listOf ys.toArray nU), (D1, { cls := .type "tuple", data := .seq v1.toArray }), (D0, { cls := .type "tuple", data := .seq v0.toArray }), (L + 1 + 1, oT2), (L + 1, oO2), (222, tabObj #[]), (340, tabObj p340), (167, tabObj p167)] (List.forall_mem_cons.mpr ⟨by k_mem, List.forall_mem_cons.mpr ⟨by k_mem, List.forall_mem_cons.mpr ⟨by k_mem, List.forall_mem_cons.mpr ⟨by k_mem, List.forall_mem_cons.mpr ⟨by k_mem, List.forall_mem_cons.mpr ⟨by k_mem, List.forall_mem_cons.mpr ⟨by k_mem, List.forall_mem_cons.mpr ⟨by k_mem, List.forall_mem_cons.mpr ⟨by k_mem, fun _ h => nomatch h⟩⟩⟩⟩⟩⟩⟩⟩⟩)
      clear F N pxd px0 pd0 px1 pd1 px2 pd2 px3 pd3 px4 pd4 px5 pd5 px6 pd6 px7 pd7 px8 pd8 ltx
      k_steps
      rename News _ _ _ _ => N
      rename Fr _ _ _ _ => F
      refine Pays.use (new_lev (On.of X T₀ F) (room_deep (H.less (by omega) (by omega)))) ?_
      intro v hA tkA stA hv
      obtain ⟨x, dx, t0, t1, t2, rfl, hx, hdx, nx, ndx, ltx⟩ := hv
      dsimp only at stA hx hdx nx ndx ⊢
      obtain ⟨NA, neA⟩ := news_two F N stA hx nx hdx ndx
      have FA := fr_stay F stA
      have px0 : @Ne Nat (Fa) x := (neA _ (.head _)).1
      have pd0 : @Ne Nat (Fa) dx := (neA _ (.head _)).2
      have px1 : @Ne Nat (U) x := (neA _ (.tail _ (.head _))).1
      have pd1 : @Ne Nat (U) dx := (neA _ (.tail _ (.head _))).2
      have px2 : @Ne Nat (D1) x := (neA _ (.tail _ (.tail _ (.head _)))).1
      have pd2 : @Ne Nat (D1) dx := (neA _ (.tail _ (.tail _ (.head _)))).2
      have px3 : @Ne Nat (D0) x := (neA _ (.tail _ (.tail _ (.tail _ (.head _))))).1
      have pd3 : @Ne Nat (D0) dx := (neA _ (.tail _ (.tail _ (.tail _ (.head _))))).2
      have px4 : @Ne Nat (L + 1 + 1) x := (neA _ (.tail _ (.tail _ (.tail _ (.tail _ (.head _)))))).1
      have pd4 : @Ne Nat (L + 1 + 1) dx := (neA _ (.tail _ (.tail _ (.tail _ (.tail _ (.head _)))))).2
      have px5 : @Ne Nat (L + 1) x := (neA _ (.tail _ (.tail _ (.tail _ (.tail _ (.tail _ (.head _))))))).1
      have pd5 : @Ne Nat (L + 1) dx := (neA _ (.tail _ (.tail _ (.tail _ (.tail _ (.tail _ (.head _))))))).2
      have px6 : @Ne Nat (222) x := (neA _ (.tail _ (.tail _ (.tail _ (.tail _ (.tail _ (.tail _ (.head _)))))))).1
      have pd6 : @Ne Nat (222) dx := (neA _ (.tail _ (.tail _ (.tail _ (.tail _ (.tail _ (.tail _ (.head _)))))))).2
      have px7 : @Ne Nat (340) x := (neA _ (.tail _ (.tail _ (.tail _ (.tail _ (.tail _ (.tail _ (.tail _ (.head _))))))))).1
      have pd7 : @Ne Nat (340) dx := (neA _ (.tail _ (.tail _ (.tail _ (.tail _ (.tail _ (.tail _ (.tail _ (.head _))))))))).2
      have px8 : @Ne Nat (167) x := (neA _ (.tail _ (.tail _ (.tail _ (.tail _ (.tail _ (.tail _ (.tail _ (.tail _ (.head _)))))))))).1
      have pd8 : @Ne Nat (167) dx := (neA _ (.tail _ (.tail _ (.tail _ (.tail _ (.tail _ (.tail _ (.tail _ (.tail _ (.head _)))))))))).2
      have pxd : @Ne Nat dx x := Nat.ne_of_lt ltx
      clear F N neA stA hx hdx nx ndx
      k_steps
      rename News _ _ _ _ => N
      rename Fr _ _ _ _ => F
      refine Pays.use (dist_lev (TupAt.hid [(x, instObj 269 dx), (dx, dictOf (levAt w t0 t1 t2) 3)] N (by k_mem) hi0 (by omega) (List.forall_mem_cons.mpr ⟨by k_ne, List.forall_mem_cons.mpr ⟨by k_ne, fun _ h => nomatch h⟩⟩)) (TupAt.hid [(x, instObj 269 dx), (dx, dictOf (levAt w t0 t1 t2) 3)] N (by k_mem) hi1 (by omega) (List.forall_mem_cons.mpr ⟨by k_ne, List.forall_mem_cons.mpr ⟨by k_ne, fun _ h => nomatch h⟩⟩)) (Inst.hid [(x, instObj 269 dx), (dx, dictOf (levAt w t0 t1 t2) 3)] N (.head _) (.tail _ (.head _)) (List.forall_mem_cons.mpr ⟨by k_mem, List.forall_mem_cons.mpr ⟨by k_mem, fun _ h => nomatch h⟩⟩) ltx) (On.hid [(x, instObj 269 dx), (dx, dictOf (levAt w t0 t1 t2) 3)] X T₀ F N (List.forall_mem_cons.mpr ⟨by k_mem, List.forall_mem_cons.mpr ⟨by k_mem, fun _ h => nomatch h⟩⟩)) (room_deep (H.less (by omega) (by omega)))) ?_
      intro v hB tkB stB hv
      obtain ⟨A5, tA5, rfl, hA5⟩ := ex_int hv
      clear hv
      dsimp only at stB ⊢
      have FB := fr_stay F stB
      have NB := news_sub (news_stay N stB) [(Fa, listOf ((#[.int A1 tA1, .int A2 tA2].push (.int A3 tA3)).push (.int A4 tA4)) (0 + 1 + 1)), (U, listOf ys.toArray nU), (D1, { cls := .type "tuple", data := .seq v1.toArray }), (D0, { cls := .type "tuple", data := .seq v0.toArray }), (L + 1 + 1, oT2), (L + 1, oO2), (222, tabObj #[]), (340, tabObj p340), (167, tabObj p167)] (List.forall_mem_cons.mpr ⟨by k_mem, List.forall_mem_cons.mpr ⟨by k_mem, List.forall_mem_cons.mpr ⟨by k_mem, List.forall_mem_cons.mpr ⟨by k_mem, List.forall_mem_cons.mpr ⟨by k_mem, List.forall_mem_cons.mpr ⟨by k_mem, List.forall_mem_cons.mpr ⟨by k_mem, List.forall_mem_cons.mpr ⟨by k_mem, List.forall_mem_cons.mpr ⟨by k_mem, fun _ h => nomatch h⟩⟩⟩⟩⟩⟩⟩⟩⟩)
      clear F N pxd px0 pd0 px1 pd1 px2 pd2 px3 pd3 px4 pd4 px5 pd5 px6 pd6 px7 pd7 px8 pd8 ltx
      k_steps
      rename News _ _ _ _ => N
      rename Fr _ _ _ _ => F
      refine Pays.use (new_ham (On.of X T₀ F) (room_deep (H.less (by omega) (by omega)))) ?_
      intro v hA tkA stA hv
      obtain ⟨x, dx, t0, t1, t2, t3, rfl, hx, hdx, nx, ndx, ltx⟩ := hv
      dsimp only at stA hx hdx nx ndx ⊢
      obtain ⟨NA, neA⟩ := news_two F N stA hx nx hdx ndx
      have FA := fr_stay F stA
      have px0 : @Ne Nat (Fa) x := (neA _ (.head _)).1
      have pd0 : @Ne Nat (Fa) dx := (neA _ (.head _)).2
      have px1 : @Ne Nat (U) x := (neA _ (.tail _ (.head _))).1
      have pd1 : @Ne Nat (U) dx := (neA _ (.tail _ (.head _))).2
      have px2 : @Ne Nat (D1) x := (neA _ (.tail _ (.tail _ (.head _)))).1
      have pd2 : @Ne Nat (D1) dx := (neA _ (.tail _ (.tail _ (.head _)))).2
      have px3 : @Ne Nat (D0) x := (neA _ (.tail _ (.tail _ (.tail _ (.head _))))).1
      have pd3 : @Ne Nat (D0) dx := (neA _ (.tail _ (.tail _ (.tail _ (.head _))))).2
      have px4 : @Ne Nat (L + 1 + 1) x := (neA _ (.tail _ (.tail _ (.tail _ (.tail _ (.head _)))))).1
      have pd4 : @Ne Nat (L + 1 + 1) dx := (neA _ (.tail _ (.tail _ (.tail _ (.tail _ (.head _)))))).2
      have px5 : @Ne Nat (L + 1) x := (neA _ (.tail _ (.tail _ (.tail _ (.tail _ (.tail _ (.head _))))))).1
      have pd5 : @Ne Nat (L + 1) dx := (neA _ (.tail _ (.tail _ (.tail _ (.tail _ (.tail _ (.head _))))))).2
      have px6 : @Ne Nat (222) x := (neA _ (.tail _ (.tail _ (.tail _ (.tail _ (.tail _ (.tail _ (.head _)))))))).1
      have pd6 : @Ne Nat (222) dx := (neA _ (.tail _ (.tail _ (.tail _ (.tail _ (.tail _ (.tail _ (.head _)))))))).2
      have px7 : @Ne Nat (340) x := (neA _ (.tail _ (.tail _ (.tail _ (.tail _ (.tail _ (.tail _ (.tail _ (.head _))))))))).1
      have pd7 : @Ne Nat (340) dx := (neA _ (.tail _ (.tail _ (.tail _ (.tail _ (.tail _ (.tail _ (.tail _ (.head _))))))))).2
      have px8 : @Ne Nat (167) x := (neA _ (.tail _ (.tail _ (.tail _ (.tail _ (.tail _ (.tail _ (.tail _ (.tail _ (.head _)))))))))).1
      have pd8 : @Ne Nat (167) dx := (neA _ (.tail _ (.tail _ (.tail _ (.tail _ (.tail _ (.tail _ (.tail _ (.tail _ (.head _)))))))))).2
      have pxd : @Ne Nat dx x := Nat.ne_of_lt ltx
      clear F N neA stA hx hdx nx ndx
      k_steps
      rename News _ _ _ _ => N
      rename Fr _ _ _ _ => F
      refine PaysT.use (by exact bareB) (dist_ham (TupAt.hid [(x, instObj 228 dx), (dx, dictOf (hamAt w t0 t1 t2 t3) 4), (222, tabObj #[])] N (by k_mem) hi0 (by omega) (List.forall_mem_cons.mpr ⟨by k_ne, List.forall_mem_cons.mpr ⟨by k_ne, List.forall_mem_cons.mpr ⟨by k_ne, fun _ h => nomatch h⟩⟩⟩)) (TupAt.hid [(x, instObj 228 dx), (dx, dictOf (hamAt w t0 t1 t2 t3) 4), (222, tabObj #[])] N (by k_mem) hi1 (by omega) (List.forall_mem_cons.mpr ⟨by k_ne, List.forall_mem_cons.mpr ⟨by k_ne, List.forall_mem_cons.mpr ⟨by k_ne, fun _ h => nomatch h⟩⟩⟩)) (Inst.hid [(x, instObj 228 dx), (dx, dictOf (hamAt w t0 t1 t2 t3) 4), (222, tabObj #[])] N (.head _) (.tail _ (.head _)) (List.forall_mem_cons.mpr ⟨by k_mem, List.forall_mem_cons.mpr ⟨by k_mem, List.forall_mem_cons.mpr ⟨by k_mem, fun _ h => nomatch h⟩⟩⟩) ltx) (On.hid [(x, instObj 228 dx), (dx, dictOf (hamAt w t0 t1 t2 t3) 4), (222, tabObj #[])] X T₀ F N (List.forall_mem_cons.mpr ⟨by k_mem, List.forall_mem_cons.mpr ⟨by k_mem, List.forall_mem_cons.mpr ⟨by k_mem, fun _ h => nomatch h⟩⟩⟩)) (Tab.hid [(x, instObj 228 dx), (dx, dictOf (hamAt w t0 t1 t2 t3) 4), (222, tabObj #[])] N (by k_mem) (List.forall_mem_cons.mpr ⟨by k_mem, List.forall_mem_cons.mpr ⟨by k_mem, List.forall_mem_cons.mpr ⟨by k_mem, fun _ h => nomatch h⟩⟩⟩)) (room_deep (H.less (by omega) (by omega)))) ?_
      intro v hB tkB gH kB TB bareH hv
      obtain ⟨A6, tA6, rfl, hA6⟩ := ex_int hv
      clear hv
      dsimp only at kB ⊢
      have i222 := (N (222, tabObj #[]) (by k_mem)).2
      have FB := fr_keptT F (Ps := [222]) (List.forall_mem_cons.mpr ⟨⟨i222.2, i222.1⟩, fun _ h => nomatch h⟩) kB
      obtain ⟨p222, h222⟩ := TB 222 (.head _)
      have NB : News h₀ L hB [(Fa, listOf (((#[.int A1 tA1, .int A2 tA2].push (.int A3 tA3)).push (.int A4 tA4)).push (.int A5 tA5)) (0 + 1 + 1 + 1)), (U, listOf ys.toArray nU), (D1, { cls := .type "tuple", data := .seq v1.toArray }), (D0, { cls := .type "tuple", data := .seq v0.toArray }), (L + 1 + 1, oT2), (L + 1, oO2), (222, tabObj p222), (340, tabObj p340), (167, tabObj p167)] :=
        List.forall_mem_cons.mpr ⟨⟨kB _ _ (by first | (simp; done) | (simp; k_ne)) (N (Fa, listOf (((#[.int A1 tA1, .int A2 tA2].push (.int A3 tA3)).push (.int A4 tA4)).push (.int A5 tA5)) (0 + 1 + 1 + 1)) (by k_mem)).1, (N (Fa, listOf (((#[.int A1 tA1, .int A2 tA2].push (.int A3 tA3)).push (.int A4 tA4)).push (.int A5 tA5)) (0 + 1 + 1 + 1)) (by k_mem)).2⟩, List.forall_mem_cons.mpr ⟨⟨kB _ _ (by first | (simp; done) | (simp; k_ne)) (N (U, listOf ys.toArray nU) (by k_mem)).1, (N (U, listOf ys.toArray nU) (by k_mem)).2⟩, List.forall_mem_cons.mpr ⟨⟨kB _ _ (by first | (simp; done) | (simp; k_ne)) (N (D1, { cls := .type "tuple", data := .seq v1.toArray }) (by k_mem)).1, (N (D1, { cls := .type "tuple", data := .seq v1.toArray }) (by k_mem)).2⟩, List.forall_mem_cons.mpr ⟨⟨kB _ _ (by first | (simp; done) | (simp; k_ne)) (N (D0, { cls := .type "tuple", data := .seq v0.toArray }) (by k_mem)).1, (N (D0, { cls := .type "tuple", data := .seq v0.toArray }) (by k_mem)).2⟩, List.forall_mem_cons.mpr ⟨⟨kB _ _ (by first | (simp; done) | (simp; k_ne)) (N (L + 1 + 1, oT2) (by k_mem)).1, (N (L + 1 + 1, oT2) (by k_mem)).2⟩, List.forall_mem_cons.mpr ⟨⟨kB _ _ (by first | (simp; done) | (simp; k_ne)) (N (L + 1, oO2) (by k_mem)).1, (N (L + 1, oO2) (by k_mem)).2⟩, List.forall_mem_cons.mpr ⟨⟨h222, (N (222, tabObj #[]) (by k_mem)).2⟩, List.forall_mem_cons.mpr ⟨⟨kB _ _ (by first | (simp; done) | (simp; k_ne)) (N (340, tabObj p340) (by k_mem)).1, (N (340, tabObj p340) (by k_mem)).2⟩, List.forall_mem_cons.mpr ⟨⟨kB _ _ (by first | (simp; done) | (simp; k_ne)) (N (167, tabObj p167) (by k_mem)).1, (N (167, tabObj p167) (by k_mem)).2⟩, fun _ h => nomatch h⟩⟩⟩⟩⟩⟩⟩⟩⟩
      clear i222
      clear F N pxd px0 pd0 px1 pd1 px2 pd2 px3 pd3 px4 pd4 px5 pd5 px6 pd6 px7 pd7 px8 pd8 ltx
      k_steps
      rename News _ _ _ _ => N
      rename Fr _ _ _ _ => F
      refine PyProof.Rows.len_tuple (items := v0.toArray) ⟨_, (N (D0, { cls := .type "tuple", data := .seq v0.toArray }) (by k_mem)).1, rfl, 0, rfl⟩ (by simp; omega) ?_
      k_steps
      refine PyProof.Rows.len_tuple (items := v1.toArray) ⟨_, (N (D1, { cls := .type "tuple", data := .seq v1.toArray }) (by k_mem)).1, rfl, 0, rfl⟩ (by simp; omega) ?_
      have P1 : A1 = if ((v0.toArray.size : Int) - (v1.toArray.size : Int)) < 0 then -((v0.toArray.size : Int) - (v1.toArray.size : Int)) else (v0.toArray.size : Int) - (v1.toArray.size : Int) := by
        rw [List.size_toArray, List.size_toArray, l0, l1, hA1]
        exact abs_len _ _
      k_steps
      · rename_i no
        exact absurd P1 no
      have hU9 : (ys.length : Int) ≤ (max os.length ts.length : Nat) := lenU ▸ hamD_le os ts
      refine PySem.Calls.call_len_list (items := ys.toArray) ⟨_, (N (U, listOf ys.toArray nU) (by k_mem)).1, rfl, _, rfl⟩ (by simp; omega) ?_
      have P6 : A6 = (ys.toArray.size : Int) := by rw [hA6, quick_hamD, List.size_toArray, lenU]
      k_steps
      · rename_i no
        exact absurd P6 no
      rename News _ _ _ _ => N
      rename Fr _ _ _ _ => F
      refine Pays.use (law_more (TupAt.hid [] N (by k_mem) hi0 (by omega) (fun _ h => nomatch h)) (TupAt.hid [] N (by k_mem) hi1 (by omega) (fun _ h => nomatch h)) (On.hid [] X T₀ F N (fun _ h => nomatch h)) (room_deep (H.less (by omega) (by omega)))) ?_
      intro v hM1 tkM1 stM1 hv
      obtain ⟨B1, tB1, rfl, hB1⟩ := ex_int hv
      clear hv
      dsimp only at stM1 ⊢
      have FM1 := fr_stay F stM1
      have NM1 := news_stay N stM1
      clear F N
      k_steps
      rename News _ _ _ _ => N
      rename Fr _ _ _ _ => F
      refine Pays.use (law_more (TupAt.hid [] N (by k_mem) hi1 (by omega) (fun _ h => nomatch h)) (TupAt.hid [] N (by k_mem) hi0 (by omega) (fun _ h => nomatch h)) (On.hid [] X T₀ F N (fun _ h => nomatch h)) (room_deep (H.less (by omega) (by omega)))) ?_
      intro v hM2 tkM2 stM2 hv
      obtain ⟨B2, tB2, rfl, hB2⟩ := ex_int hv
      clear hv
      dsimp only at stM2 ⊢
      have FM2 := fr_stay F stM2
      have NM2 := news_stay N stM2
      clear F N
      k_steps
      rename News _ _ _ _ => N
      rename Fr _ _ _ _ => F
      refine max2 hh ?_
      intro hM3 tkM3 tM3 stM3
      dsimp only at stM3 ⊢
      have FM3 := fr_stay F stM3
      have NM3 := news_stay N stM3
      clear F N
      have P2 : A2 = max B1 B2 := by rw [hA2, hB1, hB2]; exact bag_more
      k_steps
      · rename_i no
        exact absurd P2 no
      rename News _ _ _ _ => N
      rename Fr _ _ _ _ => F
      have far6 : IntsAre [.int A1 tA1, .int A2 tA2, .int A3 tA3, .int A4 tA4, .int A5 tA5, .int A6 tA6] [A1, A2, A3, A4, A5, A6] := .cons _ _ (.cons _ _ (.cons _ _ (.cons _ _ (.cons _ _ (.cons _ _ .nil)))))
      refine kso_sorted F N (vs := [.int A1 tA1, .int A2 tA2, .int A3 tA3, .int A4 tA4, .int A5 tA5, .int A6 tA6]) (ns := [A1, A2, A3, A4, A5, A6]) ⟨_, (N (Fa, _) (.head _)).1, rfl, _, rfl⟩ far6 (by show 6 < 64; decide) ?_
      intro Ds vs' ns' cs hs FS NS ltS iS lenS permS ordS _
      obtain ⟨ord1, ordT, ordZ⟩ := law_order hA1 hA2 hA3 hA4 hA5 hA6
      obtain rfl := sort_same permS ordS ord1
      clear F N permS ordS lenS
      k_lt ltS
      k_steps
      rename News _ _ _ _ => N
      rename Fr _ _ _ _ => F
      refine ne_lists_same (vs := [.int A1 tA1, .int A2 tA2, .int A3 tA3, .int A4 tA4, .int A5 tA5, .int A6 tA6]) (ws := vs') (ns := [A1, A2, A3, A4, A5, A6]) ⟨_, (N (Fa, listOf (((#[.int A1 tA1, .int A2 tA2].push (.int A3 tA3)).push (.int A4 tA4)).push (.int A5 tA5) |>.push (.int A6 tA6)) (0 + 1 + 1 + 1 + 1)) (by k_mem)).1, rfl, _, rfl⟩ ⟨_, (N (Ds, _) (.head _)).1, rfl, _, rfl⟩ far6 iS (Nat.lt_of_le_of_lt (Nat.le_add_right _ _) (room_deep H).un) ?_
      k_steps
      · rename_i no
        have no2 : 2 * A3 < A5 := no
        exact absurd ordT (by omega)
      rename News _ _ _ _ => N
      rename Fr _ _ _ _ => F
      refine eq_tups (vs := v0) (ws := v1) ⟨_, (N (D0, { cls := .type "tuple", data := .seq v0.toArray }) (by k_mem)).1, rfl, 0, rfl⟩ ⟨_, (N (D1, { cls := .type "tuple", data := .seq v1.toArray }) (by k_mem)).1, rfl, 0, rfl⟩ hi0 hi1 (Nat.lt_of_le_of_lt (Nat.le_add_right _ _) (room_deep H).un) ?_
      k_steps
      rename News _ _ _ _ => N
      rename Fr _ _ _ _ => F
      (try dsimp only)
      have bt := back_tab3 back F.keep N (by k_mem) (by k_mem) (by k_mem)
      refine hR _ _ _ _ bt.1 bt.2 bareH ?_
      exact law_last (a := A3) ordZ))
end
end Mine
end
set_option maxHeartbeats 4000000
/- part Mw9 -/
section
namespace Mine
theorem fillMw9 : (PySem.Challenge.rw_br0041_01 = PySem.Challenge.rw_br0041_01 ∧ hd.heap_39 = hd.heap_39) := by
  k_fill
  exact ⟨rfl, rfl⟩
theorem law_holds : PySem.Challenge.rw_br0041_01.Holds := Mine.hd (by
  k_fill
  intro w s₀ s₁ mg mb G Y fa o pm cd doc dV kV ho hd hcd hD hmg hg args vals as hpre hlay hrd hwl hlo
  have KX := km_in_of Y
  have TX := km_tabs_of Y
  have X := (Ground.X G).1
  have V := (Ground.X G).2
  refine Ground.open G ?_
  intro T B D TE TW
  try (refine guard_noD D (by decide +kernel) ?_; clear D)
  have hT9 : TabsAt [(224, 222), (344, 340), (169, 167)] s₁.heap := List.forall_mem_cons.mpr ⟨⟨codeHd_of_K KX (by kernel_rfl), TX 222 (by simp)⟩, List.forall_mem_cons.mpr ⟨⟨codeHd_of_K KX (by kernel_rfl), TX 340 (by simp)⟩, List.forall_mem_cons.mpr ⟨⟨codeHd_of_K KX (by kernel_rfl), TX 167 (by simp)⟩, fun _ h => nomatch h⟩⟩⟩
  have hfa : fa = 362 := by
    have e := mg_of KX T.g (n := Str.ofString "law") (v := .ref 362) (by k_is)
    have e2 := hmg.symm.trans e
    exact Value.ref.inj (Option.some.inj e2)
  wrow_args hpre hlay hrd hwl hlo
  subst hfa
  rename_i ns _ _ _ _ _ _ _ a vs _ hL _ _ _ hI _ hle _
  have O : On w topProg _ _ mg mb (ghostOf s₁.heap [(224, 222), (344, 340), (169, 167)]) s₁.heap := ⟨ghost_K hT9 KX (by kernel_rfl), ghost_top hT9 T, fun b o e => of_hideAll _ e⟩
  have tb : ∀ c P, (c, P) ∈ [(224, 222), (344, 340), (169, 167)] → Tab (ghostOf s₁.heap [(224, 222), (344, 340), (169, 167)]) s₁.heap P := fun c P hm => ⟨(hT9 _ hm).2, hideAll_none _ (List.mem_map_of_mem hm)⟩
  refine PaysT.use (.of_eq hg) (law_pays (ns := ns) (ghost_list hT9 hL) hI (by omega) O (tb 224 222 (by simp)) (tb 344 340 (by simp)) (tb 169 167 (by simp)) ⟨rfl, by decide, by decide⟩) ?_
  rintro v h' tk g' k2 T2 B2 rfl
  refine ⟨.inl ⟨.bool true, .bool true, [], rfl, fun _ => rfl, ?_, ?_, fun _ => ⟨.nil, fun _ h => nomatch h⟩⟩, ⟨fun b o e => ?_, fun b o e => ?_⟩, rfl, B2⟩
  · exact .bool true
  · wrow_post
  · by_cases hb : b ∈ [222, 340, 167]
    · obtain ⟨q, hq, rfl⟩ : ∃ q ∈ [((224 : Nat), (222 : Nat)), (344, 340), (169, 167)], q.2 = b := by
        simp only [List.mem_cons, List.not_mem_nil, or_false] at hb
        rcases hb with rfl | rfl | rfl
        · exact ⟨_, .head _, rfl⟩
        · exact ⟨_, .tail _ (.head _), rfl⟩
        · exact ⟨_, .tail _ (.tail _ (.head _)), rfl⟩
      have e2 := (hT9 q hq).2
      obtain ⟨ps, hP⟩ := T2 _ hb
      have e3 := e.symm.trans e2
      obtain rfl := Option.some.inj e3
      exact .inr (.inl ⟨((hT9 q hq).1.tab (hT9 q hq).2).isCodeTable, rfl, #[], ps, rfl, by rw [Array.empty_append]; exact hP⟩)
    · exact .inl (k2 b o hb e)
  · by_cases hb : b ∈ [222, 340, 167]
    · obtain ⟨ps, hP⟩ := T2 b hb
      exact ⟨_, hP⟩
    · exact ⟨o, k2 b o hb e⟩)
end Mine
end
theorem PySem.Challenge.cw_br0041_01_holds : PySem.Challenge.rw_br0041_01.Holds :=
  Mine.law_holds
