import PyProof.Rows.All
import Wide.All
import OpenK.AllK
import Wide.FinOn
import PySem.Challenge.RW_fe0129_01
open PySem PySem.W PySem.Calls PyProof.Rows
set_option Elab.async false
set_option maxRecDepth 100000
set_option maxHeartbeats 8000000
set_option exponentiation.threshold 4096
set_option linter.all false
namespace Mine
open_top hd for PySem.Challenge.rw_fe0129_01
theorem kfill : PySem.Challenge.rw_fe0129_01.prog = PySem.Challenge.rw_fe0129_01.prog ∧ hd.heap_39 = hd.heap_39 := by
  k_fill
  exact ⟨rfl, rfl⟩
theorem top_off : True := by
  w_top off
  trivial
abbrev Led := List (Addr × Obj)

section
variable {prog : Program} {w : World} {A A₀ : Around} {s : Shared} {K : Frag} {L : Addr} {h₀ base : Heap} {m mg mb : Str → Option Value} {news keep : Led} {p : Program} {loose : List Str} {mean : ExcName → Option Value}
  {env : Env} {outer : List Env} {R : Result → Shared → Prop} {name qual : Str} {params : Arguments} {body : List Stmt} {scope : Scope} {dV kV doc pm cdv ct oc : Value} {an od : Option Addr} {osl : Array (Option Value)} {f : Addr} {args : Args} {binds : List (Str × Value)}

/-- entering a def: of the caller's ledger only `keep` is open to the callee, the rest stands in its base -/
theorem enterF (B : Below A₀ base outer h₀) (F : Fr h₀ L s.heap m) (X₀ : K.In h₀) (N : News h₀ L s.heap news) (T : Top p loose mean mg mb h₀) (hA : A.frames = some (env :: outer)) (hf : env.frame = some L) (hke : env.scope.kind = .function)
    (hkeep : ∀ q ∈ keep, q ∈ news)
    (ho : K.lookup f = some ⟨oc, od, .func (fnOf name qual params body scope dV kV doc pm an cdv ct), osl⟩) (hcd : codeIn K cdv qual = true) (hroom : A.depth < recursionLimit)
    (hbind : BindsTo s (fnOf name qual params body scope dV kV doc pm an cdv ct) args binds) (hloc : ∀ y ∈ binds, scope.names.lookup y.1 = some .local)
    (h : ∀ g L' h₁, Fr g L' h₁ (fun y => binds.reverse.lookup y) → News g L' h₁ keep → Below A base (env :: outer) g → K.In g → Top p loose mean mg mb g → (∀ q ∈ keep, q.1 < L') →
      wpAny (model prog w) (A.deeper (envOf qual scope L' f cdv)) (execs body (envOf qual scope L' f cdv))
        (fun fl s' => ∃ m' h' tk after, s' = { s with heap := h', toks := tk } ∧ Fr g L' h' m' ∧ News g L' h' after ∧
          (Fr h₀ L h' m → (∀ rest : Led, (∀ q ∈ rest, q ∈ news) → (∀ q ∈ rest, ∀ r ∈ keep, r.1 ≠ q.1) → News h₀ L h' (after ++ rest) ∧ (∀ q ∈ after, ∀ r ∈ rest, q.1 ≠ r.1)) → R (.ok (.ret (match fl with | .ret v => v | _ => .none))) { s with heap := h', toks := tk }))
        (fun e s' => wpAny (model prog w) (A.deeper (envOf qual scope L' f cdv)) (leaving (envOf qual scope L' f cdv) e) (fun _ s'' => R (.error e) s'') (fun e' s'' => R (.error e') s'') s')
        { s with heap := h₁, toks := s.toks + binds.length })
    (hco : scope.isCoroutine = false) (hgen : scope.isGenerator = false) (hk : scope.kind = .function)
    (hcell : ∀ x ∈ scope.names, x.2 ≠ .cell) : codeAny (model prog w) A (.call (.ref f) args) R s := by
  have NK : News h₀ L s.heap keep := fun q hq => N q (hkeep q hq)
  have X := X₀.keeps F.keep
  obtain ⟨FG, BG, st, -⟩ := groundX (R := R) B F NK hA hf hke
  refine codeAny_call_def (fd := fnOf name qual params body scope dV kV doc pm an cdv ct) (body := body) (binds := binds) hroom (X _ _ ho) rfl (T.nolimit.keeps F.keep) (codeRec_of X hcd) rfl hbind hcell hloc (fun h₁ hns hk₁ => ?_) hco hgen hk
  refine wpAny_mono (h _ s.heap.objs.size h₁ ⟨hns, fun b o e => hk₁ b o (of_hideAll _ e), Nat.le_of_eq (hideAll_size _ _)⟩
    (fun q hq => ⟨hk₁ _ _ (NK q hq).1, Nat.ne_of_lt (Heap.lt_size (NK q hq).1), hideAll_none _ (List.mem_map_of_mem hq)⟩) BG (X₀.keeps st) (T.keeps st) (fun q hq => Heap.lt_size (NK q hq).1)) (fun fl s' hl => ?_) fun _ _ y => y
  obtain ⟨m', h', tk, after, rfl, F', N', k⟩ := hl
  have nm : ∀ b o, h₀.get? b = some o → b ∉ keep.map (·.1) := fun b o e q => by
    obtain ⟨p, hp, rfl⟩ := List.mem_map.mp q
    rw [(NK p hp).2.2] at e; cases e
  obtain ⟨oL, es, ep, hL, hLd, hLk, hLf⟩ := F.ns
  have nL : L ∉ keep.map (·.1) := fun q => by
    obtain ⟨p, hp, e⟩ := List.mem_map.mp q
    exact (NK p hp).2.1 e
  have hLg := hideAll_get (keep.map (·.1)) hL nL
  have hFL : Fr h₀ L h' m := ⟨⟨oL, es, ep, F'.keep L oL hLg, hLd, hLk, hLf⟩, fun b o e => F'.keep b o (st b o e), F.above⟩
  have hg : ∀ q ∈ news, (∀ r ∈ keep, r.1 ≠ q.1) → (hideAll s.heap (keep.map (·.1))).get? q.1 = some q.2 := fun q hq hn =>
    hideAll_get _ (N q hq).1 fun hm => by
      obtain ⟨r, hr, e⟩ := List.mem_map.mp hm
      exact hn r hr e
  refine k hFL fun rest hr hn => ⟨fun q hq => ?_, fun q hq r hr' e => ?_⟩
  · rcases List.mem_append.mp hq with hq | hq
    · refine ⟨(N' q hq).1, fun e => ?_, ?_⟩
      · have := (N' q hq).2.2; rw [e, hLg] at this; cases this
      · cases e : h₀.get? q.1 with
        | none => rfl
        | some o => have := (N' q hq).2.2; rw [st _ _ e] at this; cases this
    · exact ⟨F'.keep _ _ (hg q (hr q hq) (hn q hq)), (N q (hr q hq)).2⟩
  · have h1 := (N' q hq).2.2
    rw [e, hg r (hr r hr') (hn r hr')] at h1
    cases h1
end

/-- what a call of a def at f hands back; `keep` is what of the ledger it may look at or turn -/
def Spec (w : World) (mean : ExcName → Option Value) (mg mb : Str → Option Value) (D U : Nat) (f : Addr) (args : Args) (keep : Led) (R : Value → Led → Prop) : Prop :=
  ∀ (dp un : Nat) (gd : Option (List Code)) (cn : Str) (cs : Scope) (a : Addr) (ccd : Value) (cl : List (Str × Addr)) (outer : List Env) (A₀ : Around) (base h₀ : Heap) (L : Addr) (m : Str → Option Value) (news : Led) (s : Shared) (Q E : Value → Shared → Prop),
    Below A₀ base outer h₀ → Fr h₀ L s.heap m → (hd.heap_39 w.params).In h₀ → News h₀ L s.heap news →
    Top hd.view_39 (looseW hd.view_39 [Str.ofString "_THOUSANDS_SEPARATOR", Str.ofString "_DECIMAL_SEPARATOR", Str.ofString "intcomma"]) mean mg mb h₀ →
    cs.kind = .function → (∀ q ∈ keep, q ∈ news) → dp + D < recursionLimit → un + U < cLine →
    (∀ v after h' tk', Fr h₀ L h' m → (∀ rest : Led, (∀ q ∈ rest, q ∈ news) → (∀ q ∈ rest, ∀ r ∈ keep, r.1 ≠ q.1) → News h₀ L h' (after ++ rest) ∧ (∀ q ∈ after, ∀ r ∈ rest, q.1 ≠ r.1)) → R v after → Q v { s with heap := h', toks := tk' }) →
    wpAny (model PySem.Challenge.rw_fe0129_01.row.prog w) (ktrTop dp un gd cn cs L a ccd cl outer) (call (.ref f) args.pos args.kw) Q E s

/-- what the body of a def gives, from its own frame -/
def BodySpec (w : World) (mean : ExcName → Option Value) (mg mb : Str → Option Value) (D U : Nat) (f : Addr) (qual : Str) (scope : Scope) (cdv : Value) (body : List Stmt) (binds : List (Str × Value)) (keep : Led) (R : Value → Led → Prop) : Prop :=
  ∀ (dp un : Nat) (gd : Option (List Code)) (outer : List Env) (A₀ : Around) (base g : Heap) (L : Addr) (s : Shared) (Q : Flow → Shared → Prop) (E : Value → Shared → Prop),
    Below A₀ base outer g → Fr g L s.heap (fun y => binds.reverse.lookup y) → (hd.heap_39 w.params).In g → News g L s.heap keep →
    Top hd.view_39 (looseW hd.view_39 [Str.ofString "_THOUSANDS_SEPARATOR", Str.ofString "_DECIMAL_SEPARATOR", Str.ofString "intcomma"]) mean mg mb g →
    dp + D < recursionLimit → un + U < cLine → (∀ q ∈ keep, q.1 < L) →
    (∀ fl v after m' h' tk', (match fl with | .ret v => v | _ => .none) = v → Fr g L h' m' → News g L h' after → R v after → Q fl { s with heap := h', toks := tk' }) → binds.length ≤ s.toks →
    wpAny (model PySem.Challenge.rw_fe0129_01.row.prog w) { handled := none, depth := dp, frames := some (envOf qual scope L f cdv :: outer), guards := gd, units := un } (execs body (envOf qual scope L f cdv)) Q E s

section
variable {w : World} {mg mb : Str → Option Value} {keep : Led} {mean : ExcName → Option Value} {D U : Nat} {R : Value → Led → Prop}
  {name qual : Str} {params : Arguments} {body : List Stmt} {scope : Scope} {dV kV doc pm cdv ct oc : Value} {an od : Option Addr} {osl : Array (Option Value)} {f : Addr} {args : Args} {binds : List (Str × Value)}
theorem spec_of (ho : (hd.heap_39 w.params).lookup f = some ⟨oc, od, .func (fnOf name qual params body scope dV kV doc pm an cdv ct), osl⟩) (hcd : codeIn (hd.heap_39 w.params) cdv qual = true)
    (hbind : ∀ s, (hd.heap_39 w.params).In s.heap → BindsTo s (fnOf name qual params body scope dV kV doc pm an cdv ct) args binds) (hloc : ∀ y ∈ binds, scope.names.lookup y.1 = some .local)
    (hco : scope.isCoroutine = false) (hgen : scope.isGenerator = false) (hk : scope.kind = .function) (hcell : ∀ x ∈ scope.names, x.2 ≠ .cell)
    (hb : BodySpec w mean mg mb D U f qual scope cdv body binds keep R) : Spec w mean mg mb (D + 1) (U + 3) f args keep R := by
  intro dp un gd cn cs a ccd cl outer A₀ base h₀ L m news s Q E B F X N T hck hkeep hd hu hret
  refine wpAny_call ?_
  refine enterF B F X N T rfl rfl hck hkeep ho hcd (by show dp < recursionLimit; omega) (hbind s (X.keeps F.keep)) hloc (fun g L' h₁ F' N' B' X' T' hkl => ?_) hco hgen hk hcell
  refine hb (dp + 1) (un + 3) gd (envX cn cs L a ccd cl :: outer) _ base g L' { s with heap := h₁, toks := s.toks + binds.length } _ _ B' F' X' N' T' (by omega) (by omega) hkl ?_ (Nat.le_add_left _ _)
  intro fl v after m' h' tk' hv Fr' Nw hr
  refine ⟨m', h', tk', after, rfl, Fr', Nw, fun hF hN => ?_⟩
  show Q _ _
  rw [hv]
  exact hret v after h' tk' hF hN hr
end
section
variable {w : World} {mg mb : Str → Option Value} {mean : ExcName → Option Value} {D U : Nat} {R : Value → Led → Prop} {f : Addr} {args : Args} {keep : Led}
theorem Spec.mono {R' : Value → Led → Prop} {D' U' : Nat} (h : Spec w mean mg mb D U f args keep R) (hR : ∀ v l, R v l → R' v l) (hD : D ≤ D') (hU : U ≤ U') : Spec w mean mg mb D' U' f args keep R' := by
  intro dp un gd cn cs a ccd cl outer A₀ base h₀ L m news s Q E B F X N T hck hkeep hd hu hret
  exact h dp un gd cn cs a ccd cl outer A₀ base h₀ L m news s Q E B F X N T hck hkeep (by omega) (by omega) fun v after h' tk' F' N' r => hret v after h' tk' F' N' (hR v after r)
end

def RInt (x : Int) (v : Value) (after : Led) : Prop := after = [] ∧ ∃ t, v = .int x t
def RStr (x : Str) (v : Value) (after : Led) : Prop := after = [] ∧ ∃ t, v = .str x t
def RBool (x : Bool) (v : Value) (after : Led) : Prop := after = [] ∧ v = .bool x
abbrev tupObj (x y : Int) (t1 t2 c : Nat) : Obj := { cls := .type "tuple", data := .seq #[.int x t1, .int y t2] c }
def RTup (x y : Int) (v : Value) (after : Led) : Prop := ∃ P t1 t2 c, v = .ref P ∧ after = [(P, tupObj x y t1 t2 c)]
abbrev dblDict (w : World) (n d : Int) (k1 t1 k2 t2 : Nat) : Obj := dictOf [⟨PyData.keyHash w.params (Str.ofString "n"), .str (Str.ofString "n") k1, .int n t1⟩, ⟨PyData.keyHash w.params (Str.ofString "d"), .str (Str.ofString "d") k2, .int d t2⟩] 2
def RDbl (w : World) (n d : Int) (v : Value) (after : Led) : Prop := ∃ x dx k1 t1 k2 t2, v = .ref x ∧ after = [(x, instObj 116 dx), (dx, dblDict w n d k1 t1 k2 t2)]

section
variable {w : World} {mg mb : Str → Option Value} {mean : ExcName → Option Value} {D U : Nat} {R : Value → Led → Prop} {f : Addr} {args : Args} {keep : Led}
  {dp un : Nat} {gd : Option (List Code)} {cn : Str} {cs : Scope} {a : Addr} {ccd : Value} {cl : List (Str × Addr)} {outer : List Env} {A₀ : Around} {base h₀ : Heap} {L : Addr} {m : Str → Option Value} {news : Led} {s : Shared} {Q E : Value → Shared → Prop}
  {x y : Int} {b : Bool} {st : Str}
abbrev MyTop (mean : ExcName → Option Value) (mg mb : Str → Option Value) (h : Heap) : Prop := Top hd.view_39 (looseW hd.view_39 [Str.ofString "_THOUSANDS_SEPARATOR", Str.ofString "_DECIMAL_SEPARATOR", Str.ofString "intcomma"]) mean mg mb h
abbrev MyCall (w : World) (dp un : Nat) (gd : Option (List Code)) (cn : Str) (cs : Scope) (L a : Addr) (ccd : Value) (cl : List (Str × Addr)) (outer : List Env) (f : Addr) (args : Args) (Q E : Value → Shared → Prop) (s : Shared) : Prop :=
  wpAny (model PySem.Challenge.rw_fe0129_01.row.prog w) (ktrTop dp un gd cn cs L a ccd cl outer) (call (.ref f) args.pos args.kw) Q E s
theorem useK (h : Spec w mean mg mb D U f args keep R) (B : Below A₀ base outer h₀) (F : Fr h₀ L s.heap m) (X : (hd.heap_39 w.params).In h₀) (N : News h₀ L s.heap news) (T : MyTop mean mg mb h₀) (hck : cs.kind = .function) (hk : ∀ q ∈ keep, q ∈ news)
    (hd : dp + D < recursionLimit) (hu : un + U < cLine) (hsub : ∀ v l, R v l → ∀ q ∈ keep, q ∈ l)
    (ret : ∀ v l h' tk', Fr h₀ L h' m → News h₀ L h' (l ++ news) → R v l → Q v { s with heap := h', toks := tk' }) : MyCall w dp un gd cn cs L a ccd cl outer f args Q E s := by
  refine h dp un gd cn cs a ccd cl outer A₀ base h₀ L m news s Q E B F X N T hck hk hd hu fun v after h' tk' F' hN r => ret v after h' tk' F' ?_ r
  intro q hq
  rcases List.mem_append.mp hq with hq | hq
  · exact (hN [] (fun _ h => nomatch h) (fun _ h => nomatch h)).1 q (List.mem_append_left _ hq)
  · by_cases hin : ∃ r ∈ keep, r.1 = q.1
    · obtain ⟨r', hr', e⟩ := hin
      have hq' : q = r' := by
        have h1 := (N q hq).1
        have h2 := (N r' (hk r' hr')).1
        rw [e] at h2
        exact Prod.ext e.symm (Option.some.inj (h1.symm.trans h2))
      exact (hN [] (fun _ h => nomatch h) (fun _ h => nomatch h)).1 q (List.mem_append_left _ (hsub v after r q (hq' ▸ hr')))
    · have hN' := (hN [q] (fun q' h => by rw [List.mem_singleton.mp h]; exact hq) (fun q' h r' hr' e => by rw [List.mem_singleton.mp h] at e; exact hin ⟨r', hr', e⟩)).1
      exact hN' q (List.mem_append_right _ (List.mem_singleton.mpr rfl))
theorem use0 (h : Spec w mean mg mb D U f args [] R) (B : Below A₀ base outer h₀) (F : Fr h₀ L s.heap m) (X : (hd.heap_39 w.params).In h₀) (N : News h₀ L s.heap news) (T : MyTop mean mg mb h₀) (hck : cs.kind = .function)
    (hd : dp + D < recursionLimit) (hu : un + U < cLine)
    (ret : ∀ v l h' tk', Fr h₀ L h' m → News h₀ L h' (l ++ news) → (∀ q ∈ l, ∀ r ∈ news, q.1 ≠ r.1) → R v l → Q v { s with heap := h', toks := tk' }) : MyCall w dp un gd cn cs L a ccd cl outer f args Q E s :=
  h dp un gd cn cs a ccd cl outer A₀ base h₀ L m news s Q E B F X N T hck (fun _ h => nomatch h) hd hu fun v after h' tk' F' hN r =>
    ret v after h' tk' F' (hN news (fun _ h => h) (fun _ _ _ h => nomatch h)).1 (hN news (fun _ h => h) (fun _ _ _ h => nomatch h)).2 r
theorem useI (h : Spec w mean mg mb D U f args [] (RInt x)) (B : Below A₀ base outer h₀) (F : Fr h₀ L s.heap m) (X : (hd.heap_39 w.params).In h₀) (N : News h₀ L s.heap news) (T : MyTop mean mg mb h₀) (hck : cs.kind = .function)
    (hd : dp + D < recursionLimit) (hu : un + U < cLine)
    (ret : ∀ t h' tk', Fr h₀ L h' m → News h₀ L h' news → Q (.int x t) { s with heap := h', toks := tk' }) : MyCall w dp un gd cn cs L a ccd cl outer f args Q E s :=
  use0 h B F X N T hck hd hu fun v l h' tk' F' N' _ r => by
    obtain ⟨rfl, t, rfl⟩ := r
    exact ret t h' tk' F' N'
theorem useS (h : Spec w mean mg mb D U f args [] (RStr st)) (B : Below A₀ base outer h₀) (F : Fr h₀ L s.heap m) (X : (hd.heap_39 w.params).In h₀) (N : News h₀ L s.heap news) (T : MyTop mean mg mb h₀) (hck : cs.kind = .function)
    (hd : dp + D < recursionLimit) (hu : un + U < cLine)
    (ret : ∀ t h' tk', Fr h₀ L h' m → News h₀ L h' news → Q (.str st t) { s with heap := h', toks := tk' }) : MyCall w dp un gd cn cs L a ccd cl outer f args Q E s :=
  use0 h B F X N T hck hd hu fun v l h' tk' F' N' _ r => by
    obtain ⟨rfl, t, rfl⟩ := r
    exact ret t h' tk' F' N'
theorem useB (h : Spec w mean mg mb D U f args [] (RBool b)) (B : Below A₀ base outer h₀) (F : Fr h₀ L s.heap m) (X : (hd.heap_39 w.params).In h₀) (N : News h₀ L s.heap news) (T : MyTop mean mg mb h₀) (hck : cs.kind = .function)
    (hd : dp + D < recursionLimit) (hu : un + U < cLine)
    (ret : ∀ h' tk', Fr h₀ L h' m → News h₀ L h' news → Q (.bool b) { s with heap := h', toks := tk' }) : MyCall w dp un gd cn cs L a ccd cl outer f args Q E s :=
  use0 h B F X N T hck hd hu fun v l h' tk' F' N' _ r => by
    obtain ⟨rfl, rfl⟩ := r
    exact ret h' tk' F' N'
theorem useT (h : Spec w mean mg mb D U f args [] (RTup x y)) (B : Below A₀ base outer h₀) (F : Fr h₀ L s.heap m) (X : (hd.heap_39 w.params).In h₀) (N : News h₀ L s.heap news) (T : MyTop mean mg mb h₀) (hck : cs.kind = .function)
    (hd : dp + D < recursionLimit) (hu : un + U < cLine)
    (ret : ∀ P t1 t2 c h' tk', Fr h₀ L h' m → News h₀ L h' ((P, tupObj x y t1 t2 c) :: news) → (∀ r ∈ news, P ≠ r.1) → Q (.ref P) { s with heap := h', toks := tk' }) : MyCall w dp un gd cn cs L a ccd cl outer f args Q E s :=
  use0 h B F X N T hck hd hu fun v l h' tk' F' N' hA r => by
    obtain ⟨P, t1, t2, c, rfl, rfl⟩ := r
    exact ret P t1 t2 c h' tk' F' N' (hA _ (.head _))
theorem useD (h : Spec w mean mg mb D U f args [] (RDbl w x y)) (B : Below A₀ base outer h₀) (F : Fr h₀ L s.heap m) (X : (hd.heap_39 w.params).In h₀) (N : News h₀ L s.heap news) (T : MyTop mean mg mb h₀) (hck : cs.kind = .function)
    (hd : dp + D < recursionLimit) (hu : un + U < cLine)
    (ret : ∀ o dx k1 t1 k2 t2 h' tk', Fr h₀ L h' m → News h₀ L h' ((o, instObj 116 dx) :: (dx, dblDict w x y k1 t1 k2 t2) :: news) → Q (.ref o) { s with heap := h', toks := tk' }) : MyCall w dp un gd cn cs L a ccd cl outer f args Q E s :=
  use0 h B F X N T hck hd hu fun v l h' tk' F' N' hA r => by
    obtain ⟨o, dx, k1, t1, k2, t2, rfl, rfl⟩ := r
    exact ret o dx k1 t1 k2 t2 h' tk' F' N'
end
local macro_rules | `(tactic| walk_at "my_side") => `(tactic| ((case k6 => k_is); (case k7 => k_is); (case k9 => (intro s' X'; exact BindsTo.of_eq rfl)); (case c5 => decide); (case kB => exact locs rfl); (case c2 => exact rfl); (case c3 => exact rfl); (case c4 => exact rfl); k_whole))
local macro_rules | `(tactic| walk_at "call builtin:divmod") => `(tactic| ((with_reducible show wpAny _ _ (call (Value.builtin _) [Value.int _ _, Value.int _ _]) _ _ _); refine divmod_N (by assumption) (by assumption) (by side_arith) ?_ (by apply_assumption); intro _ _ _))

def rnd (n d : Int) : Int := if d < 2 * n.fmod d ∨ (2 * n.fmod d = d ∧ (n.fdiv d).fmod 2 = 1) then n.fdiv d + 1 else n.fdiv d

theorem c_rounded (w : World) (mean : ExcName → Option Value) (mg mb : Str → Option Value) (n d : Int) (tn td : Tok) (hdpos : 0 < d) (hp : Builtin.divisionGoesByPylong n d = false) :
    Spec w mean mg mb 2 12 28 ⟨[.int n tn, .int d td], []⟩ [] (RInt (rnd n d)) := by
  replace hp : ∀ A s, Builtin.divisionGoesByPylong n d = false ∨ PySem.PylongRoom (model PySem.Challenge.rw_fe0129_01.row.prog w) A s := fun _ _ => .inl hp
  refine' spec_of (binds := [(Str.ofString "n", .int n tn), (Str.ofString "d", .int d td)]) ?k6 ?k7 ?k9 ?kB ?c2 ?c3 ?c4 ?c5 ?_
  k_dflt walk_at "my_side"
  intro dp un gd outer A₀ base g L s Q E B F X N T hd hu hkl hret htk
  k_steps
  all_goals (refine hret (Flow.ret _) _ [] _ _ _ rfl (by assumption) (fun _ h => nomatch h) ⟨rfl, _, congrArg (fun z => Value.int z _) ?_⟩; unfold rnd; (try simp only [decide_eq_true_eq, decide_eq_false_iff_not] at *); (split <;> omega))
theorem by_fact {P G : Prop} (h : P) (k : P → G) : G := k h
theorem bits_lit {x : Int} {m : Nat} (h : x.natAbs < 2 ^ m) : Builtin.Int.intBits x ≤ m := intBits_le_iff.mpr h
theorem bits_abs {x : Int} {m : Nat} (h : Builtin.Int.intBits x ≤ m) : Builtin.Int.intBits (if x < 0 then -x else x) ≤ m := by
  split
  · exact intBits_neg_le h
  · exact h
theorem bits_shl {x : Int} {m k : Nat} (h : Builtin.Int.intBits x ≤ m) : Builtin.Int.intBits (x * 2 ^ k) ≤ m + k := by
  have h2 := intBits_le_iff.mp h
  refine intBits_le_iff.mpr ?_
  rw [Int.natAbs_mul, Int.natAbs_pow, Nat.pow_add]
  exact (Nat.mul_lt_mul_right (Nat.pow_pos (by decide))).mpr h2
theorem bits_rnd {n d : Int} {m : Nat} (h : Builtin.Int.intBits n ≤ m) : Builtin.Int.intBits (rnd n d) ≤ m + 1 := by
  have h2 : Builtin.Int.intBits (n.fdiv d) ≤ m := intBits_fdiv_le h
  have h1 : 1 ≤ max m 1 := by omega
  have h3 := intBits_le_iff.mp h2
  refine intBits_le_iff.mpr ?_
  have h4 : (n.fdiv d + 1).natAbs < 2 ^ (m + 1) := by
    rw [Nat.pow_succ]
    have : 0 < 2 ^ m := Nat.pow_pos (by decide)
    omega
  unfold rnd
  split
  · exact h4
  · exact Nat.lt_trans h3 (by rw [Nat.pow_succ]; have : 0 < 2 ^ m := Nat.pow_pos (by decide); omega)
theorem noPy {n d : Int} {m : Nat} (h : Builtin.Int.intBits d ≤ m) (hm : m ≤ 8000) : Builtin.divisionGoesByPylong n d = false := by
  refine PyProof.noPylong_of_log2 ?_
  have h2 := intBits_le_iff.mp h
  by_cases h0 : d.natAbs = 0
  · rw [h0]; decide
  · have := (Nat.log2_lt h0).mpr h2
    omega

/-- the shift by which n / d comes to lie between 2 ^ 52 and 2 ^ 53 -/
def sft (n d : Int) : Int :=
  let s := 53 - (Builtin.Int.intBits n : Int) + Builtin.Int.intBits d
  if d * 2 ^ ((-s).toNat + 53) ≤ (n.natAbs : Int) * 2 ^ s.toNat then s - 1 else s
def nrN (n d : Int) : Int := rnd (n * 2 ^ (sft n d).toNat) (d * 2 ^ (-sft n d).toNat) * 2 ^ (-sft n d).toNat
def nrD (n d : Int) : Int := 2 ^ (sft n d).toNat

theorem abs_eq (n : Int) : (n.natAbs : Int) = if n < 0 then -n else n := by split <;> omega
theorem sft_ge {n d : Int} {a b : Nat} (h : d * 2 ^ b ≤ (if n < 0 then -n else n) * 2 ^ a) (ha : (a : Int) = max (53 - (Builtin.Int.intBits n : Int) + Builtin.Int.intBits d) 0) (hb : (b : Int) = max (-(53 - (Builtin.Int.intBits n : Int) + Builtin.Int.intBits d)) 0 + 53)
     : sft n d = 53 - (Builtin.Int.intBits n : Int) + Builtin.Int.intBits d - 1 := by
  unfold sft
  rw [abs_eq]
  have e1 : (53 - (Builtin.Int.intBits n : Int) + Builtin.Int.intBits d).toNat = a := by omega
  have e2 : (-(53 - (Builtin.Int.intBits n : Int) + Builtin.Int.intBits d)).toNat + 53 = b := by omega
  simp only [e1, e2]
  rw [if_pos h]
theorem sft_lt {n d : Int} {a b : Nat} (h : ¬ d * 2 ^ b ≤ (if n < 0 then -n else n) * 2 ^ a) (ha : (a : Int) = max (53 - (Builtin.Int.intBits n : Int) + Builtin.Int.intBits d) 0) (hb : (b : Int) = max (-(53 - (Builtin.Int.intBits n : Int) + Builtin.Int.intBits d)) 0 + 53)
     : sft n d = 53 - (Builtin.Int.intBits n : Int) + Builtin.Int.intBits d := by
  unfold sft
  rw [abs_eq]
  have e1 : (53 - (Builtin.Int.intBits n : Int) + Builtin.Int.intBits d).toNat = a := by omega
  have e2 : (-(53 - (Builtin.Int.intBits n : Int) + Builtin.Int.intBits d)).toNat + 53 = b := by omega
  simp only [e1, e2]
  rw [if_neg h]
theorem nrN_of {n d : Int} {a b c : Nat} (ha : a = (sft n d).toNat) (hb : b = (-sft n d).toNat) (hc : c = (-sft n d).toNat) : rnd (n * 2 ^ a) (d * 2 ^ b) * 2 ^ c = nrN n d := by
  subst ha; subst hb; subst hc; rfl
theorem nrD_of {n d : Int} {a : Nat} (ha : a = (sft n d).toNat) : 1 * 2 ^ a = nrD n d := by
  subst ha; unfold nrD; rw [Int.one_mul]
theorem no_over {x : Int} {k m : Nat} (hx : Builtin.Int.intBits x ≤ m) (hk : m + k ≤ 1000) (h : (1 : Int) * 2 ^ ((1024 : Int).toNat) ≤ (if x < 0 then -x else x) * 2 ^ k) : False := by
  have h1 : Builtin.Int.intBits ((if x < 0 then -x else x) * 2 ^ k) ≤ m + k := bits_shl (bits_abs hx)
  have h2 := intBits_le_iff.mp h1
  have h3 : 2 ^ (m + k) ≤ 2 ^ 1000 := Nat.pow_le_pow_right (by decide) hk
  have h4 : (2 : Nat) ^ 1000 ≤ 2 ^ 1024 := Nat.pow_le_pow_right (by decide) (by decide)
  have h5 : ((2 ^ 1024 : Nat) : Int) ≤ (if x < 0 then -x else x) * 2 ^ k := by
    have e : ((2 ^ 1024 : Nat) : Int) = (1 : Int) * 2 ^ ((1024 : Int).toNat) := by
      rw [Int.one_mul, Int.natCast_pow]
      rfl
    rw [e]; exact h
  generalize (if x < 0 then -x else x) * 2 ^ k = y at h2 h5
  generalize (2 : Nat) ^ 1024 = P at h4 h5
  generalize (2 : Nat) ^ 1000 = P' at h3 h4
  generalize (2 : Nat) ^ (m + k) = P'' at h2 h3
  omega
theorem RTup_of {P : Addr} {x x' y y' : Int} {t1 t2 c : Nat} (hx : x = x') (hy : y = y') : RTup x' y' (.ref P) [(P, tupObj x y t1 t2 c)] := by subst hx; subst hy; exact ⟨_, _, _, _, rfl, rfl⟩
theorem RInt_of {x x' : Int} {t : Nat} (hx : x = x') : RInt x' (.int x t) [] := by subst hx; exact ⟨rfl, _, rfl⟩
theorem RStr_of {x x' : Str} {t : Nat} (hx : x = x') : RStr x' (.str x t) [] := by subst hx; exact ⟨rfl, _, rfl⟩
theorem RBool_of {x x' : Bool} (hx : x = x') : RBool x' (.bool x) [] := by subst hx; exact ⟨rfl, rfl⟩
local macro_rules | `(tactic| bits_by_make) => `(tactic| first | with_reducible assumption | exact bits_lit (by decide) | ((with_reducible apply bits_abs); bits_by_make) | ((with_reducible apply bits_shl); bits_by_make) | ((with_reducible apply bits_rnd); bits_by_make))
local macro_rules | `(tactic| walk_at "binaryOp LShift int int") => `(tactic| (refine lshift_int ?mn ?ms ?_; (case mn => omega); (case ms => exact kbm_shl (by bits_by_make) (by omega) (by first | decide | omega))))
local macro_rules | `(tactic| walk_at "my_call") => `(tactic| ((case kB => k_asm); (case kF => k_asm); (case kX => k_asm); (case kN => k_asm); (case kT => k_asm); (case kC => exact rfl); (case kD => omega); (case kU => omega)))
local macro_rules | `(tactic| walk_at "call ref") => `(tactic| (k_here; (with_reducible show wpAny _ _ (call (Value.ref 28) [Value.int _ _, Value.int _ _]) _ _ _); k_dflt (refine' useI (c_rounded _ _ _ _ _ _ _ _ ?kp ?kpy) ?kB ?kF ?kX ?kN ?kT ?kC ?kD ?kU ?_; walk_at "my_call"; (case kp => exact Int.mul_pos (by assumption) (Int.pow_pos (by decide))); (case kpy => exact noPy (by bits_by_make) (by omega))); intro t9 h9 tk9 F9 N9; (try dsimp only); (try k_fold)))

local macro_rules | `(tactic| walk_at "my_e1") => `(tactic| (exfalso; refine' no_over ?h1 ?h2 ?h3; (case h3 => assumption); (case h1 => bits_by_make); (case h2 => omega)))
theorem c_nearest (w : World) (mean : ExcName → Option Value) (mg mb : Str → Option Value) (n d : Int) (tn td : Tok) (hdpos : 0 < d) (hn : n ≠ 0) (hbn : Builtin.Int.intBits n ≤ 160) (hbd : Builtin.Int.intBits d ≤ 160) :
    Spec w mean mg mb 4 20 35 ⟨[.int n tn, .int d td], []⟩ [] (RTup (nrN n d) (nrD n d)) := by
  refine' spec_of (binds := [(Str.ofString "n", .int n tn), (Str.ofString "d", .int d td)]) ?k6 ?k7 ?k9 ?kB ?c2 ?c3 ?c4 ?c5 ?_
  k_dflt walk_at "my_side"
  intro dp un gd outer A₀ base g L s Q E B F X N T hd hu hkl hret htk
  have hba : Builtin.Int.intBits (if n < 0 then -n else n) = Builtin.Int.intBits n := by
    unfold Builtin.Int.intBits
    split
    · rw [Int.natAbs_neg]; simp
    · rfl
  k_steps
  all_goals first | walk_at "my_e1" | (refine by_fact (sft_ge (n := n) (d := d) (by assumption) (by omega) (by omega)) ?_; intro hs) | (refine by_fact (sft_lt (n := n) (d := d) (by assumption) (by omega) (by omega)) ?_; intro hs)
  all_goals exact hret (Flow.ret (.ref _)) _ _ _ _ _ rfl (by assumption) (by assumption) (RTup_of (nrN_of (by omega) (by omega) (by omega)) (nrD_of (by omega)))
abbrev dbl (w : World) (x dx : Addr) (n d : Int) (k1 t1 k2 t2 : Nat) : Led := [(x, instObj 116 dx), (dx, dblDict w n d k1 t1 k2 t2)]

theorem c_parts (w : World) (mean : ExcName → Option Value) (mg mb : Str → Option Value) (x dx : Addr) (n d : Int) (k1 t1 k2 t2 : Nat) :
    Spec w mean mg mb 2 12 42 ⟨[.ref x], []⟩ (dbl w x dx n d k1 t1 k2 t2) (fun v after => ∃ P u1 u2 c, v = .ref P ∧ after = (P, tupObj n d u1 u2 c) :: dbl w x dx n d k1 t1 k2 t2) := by
  refine' spec_of (binds := [(Str.ofString "value", .ref x)]) ?k6 ?k7 ?k9 ?kB ?c2 ?c3 ?c4 ?c5 ?_
  k_dflt walk_at "my_side"
  intro dp un gd outer A₀ base g L s Q E B F X N T hd hu hkl hret htk
  k_steps
  exact hret (Flow.ret (.ref _)) _ _ _ _ _ rfl (by assumption) (by assumption) ⟨_, _, _, _, rfl, rfl⟩
section
variable {w : World} {mg mb : Str → Option Value} {mean : ExcName → Option Value} {D U : Nat} {f : Addr} {args : Args} {keep : Led}
  {dp un : Nat} {gd : Option (List Code)} {cn : Str} {cs : Scope} {a : Addr} {ccd : Value} {cl : List (Str × Addr)} {outer : List Env} {A₀ : Around} {base h₀ : Heap} {L : Addr} {m : Str → Option Value} {news : Led} {s : Shared} {Q E : Value → Shared → Prop}
  {x y : Int} {b : Bool} {st : Str} {o dx : Addr} {n d : Int} {k1 t1 k2 t2 : Nat}
theorem keep2 {p q : Addr × Obj} (h1 : p ∈ news) (h2 : q ∈ news) : ∀ r ∈ [p, q], r ∈ news := by
  intro r hr
  rcases List.mem_cons.mp hr with rfl | hr
  · exact h1
  · rw [List.mem_singleton.mp hr]; exact h2
theorem useKT (h : Spec w mean mg mb D U f args (dbl w o dx n d k1 t1 k2 t2) (fun v after => ∃ P u1 u2 c, v = .ref P ∧ after = (P, tupObj x y u1 u2 c) :: dbl w o dx n d k1 t1 k2 t2)) (h1 : (o, instObj 116 dx) ∈ news) (h2 : (dx, dblDict w n d k1 t1 k2 t2) ∈ news)
    (B : Below A₀ base outer h₀) (F : Fr h₀ L s.heap m) (X : (hd.heap_39 w.params).In h₀) (N : News h₀ L s.heap news) (T : MyTop mean mg mb h₀) (hck : cs.kind = .function) (hd : dp + D < recursionLimit) (hu : un + U < cLine)
    (ret : ∀ P u1 u2 c h' tk', Fr h₀ L h' m → News h₀ L h' ((P, tupObj x y u1 u2 c) :: news) → Q (.ref P) { s with heap := h', toks := tk' }) : MyCall w dp un gd cn cs L a ccd cl outer f args Q E s := by
  refine useK h B F X N T hck (keep2 h1 h2) hd hu (fun v l r q hq => ?_) fun v l h' tk' F' N' r => ?_
  · obtain ⟨P, u1, u2, c, rfl, rfl⟩ := r
    exact .tail _ hq
  · obtain ⟨P, u1, u2, c, rfl, rfl⟩ := r
    refine ret P u1 u2 c h' tk' F' fun q hq => N' q ?_
    rcases List.mem_cons.mp hq with rfl | hq
    · exact .head _
    · exact List.mem_append_right _ hq
theorem useKV {v : Tok → Value} (h : Spec w mean mg mb D U f args (dbl w o dx n d k1 t1 k2 t2) (fun r after => after = dbl w o dx n d k1 t1 k2 t2 ∧ ∃ t, r = v t)) (h1 : (o, instObj 116 dx) ∈ news) (h2 : (dx, dblDict w n d k1 t1 k2 t2) ∈ news)
    (B : Below A₀ base outer h₀) (F : Fr h₀ L s.heap m) (X : (hd.heap_39 w.params).In h₀) (N : News h₀ L s.heap news) (T : MyTop mean mg mb h₀) (hck : cs.kind = .function) (hd : dp + D < recursionLimit) (hu : un + U < cLine)
    (ret : ∀ t h' tk', Fr h₀ L h' m → News h₀ L h' news → Q (v t) { s with heap := h', toks := tk' }) : MyCall w dp un gd cn cs L a ccd cl outer f args Q E s := by
  refine useK h B F X N T hck (keep2 h1 h2) hd hu (fun v l r q hq => ?_) fun v l h' tk' F' N' r => ?_
  · obtain ⟨rfl, t, rfl⟩ := r
    exact hq
  · obtain ⟨rfl, t, rfl⟩ := r
    exact ret t h' tk' F' fun q hq => N' q (List.mem_append_right _ hq)
end
local macro_rules | `(tactic| walk_at "call ref") => `(tactic| (k_here; (with_reducible show wpAny _ _ (call (Value.ref 42) [Value.ref _]) _ _ _); k_dflt (refine' useKT (c_parts _ _ _ _ _ _ _ _ _ _ _ _) ?km1 ?km2 ?kB ?kF ?kX ?kN ?kT ?kC ?kD ?kU ?_; (case kN => k_asm); (case km1 => k_mem); (case km2 => k_mem); (case kB => k_asm); (case kF => k_asm); (case kX => k_asm); (case kT => k_asm); (case kC => exact rfl); (case kD => omega); (case kU => omega)); intro P9 u91 u92 c9 h9 tk9 F9 N9; (try dsimp only); (try k_fold)))

theorem c_isfinite (w : World) (mean : ExcName → Option Value) (mg mb : Str → Option Value) (x dx : Addr) (n d : Int) (k1 t1 k2 t2 : Nat) (hd0 : d ≠ 0) :
    Spec w mean mg mb 4 20 134 ⟨[.ref x], []⟩ (dbl w x dx n d k1 t1 k2 t2) (fun v after => after = dbl w x dx n d k1 t1 k2 t2 ∧ ∃ t : Tok, v = (fun _ => .bool true) t) := by
  refine' spec_of (binds := [(Str.ofString "value", .ref x)]) ?k6 ?k7 ?k9 ?kB ?c2 ?c3 ?c4 ?c5 ?_
  k_dflt walk_at "my_side"
  intro dp un gd outer A₀ base g L s Q E B F X N T hd hu hkl hret htk
  k_steps
  rename News _ _ _ _ => N9
  have e : (d != 0) = true := by simpa using hd0
  rw [e]
  exact hret _ _ _ _ _ _ rfl (by assumption) (fun q hq => N9 q (List.mem_cons_of_mem _ hq)) ⟨rfl, 0, rfl⟩
def AllNe (d : Nat) : Led → Prop
  | [] => True
  | p :: r => @Ne Nat d p.1 ∧ AllNe d r
theorem allNe_of {d : Addr} : ∀ {l : Led}, (∀ p ∈ l, d ≠ p.1) → AllNe d l
  | [], _ => trivial
  | p :: _, h => ⟨h p (.head _), allNe_of fun q hq => h q (.tail _ hq)⟩
section
variable {w : World} {mg mb : Str → Option Value} {mean : ExcName → Option Value} {D U : Nat} {R : Addr → Addr → Led → Prop} {C fI : Addr} {args : Args}
  {name qual : Str} {params : Arguments} {body : List Stmt} {scope : Scope} {dV kV doc pm cdv ct oc : Value} {an od : Option Addr} {osl : Array (Option Value)} {binds : Addr → List (Str × Value)}
theorem spec_cls (hm : makesIn (hd.heap_39 w.params) C = true) (hi : findIn (hd.heap_39 w.params) (.ref C) "__init__" = some (some (.ref fI))) (hf : isFn (hd.heap_39 w.params) (.ref fI) = true)
    (ho : (hd.heap_39 w.params).lookup fI = some ⟨oc, od, .func (fnOf name qual params body scope dV kV doc pm an cdv ct), osl⟩) (hcd : codeIn (hd.heap_39 w.params) cdv qual = true)
    (hbind : ∀ s x, (hd.heap_39 w.params).In s.heap → BindsTo s (fnOf name qual params body scope dV kV doc pm an cdv ct) ⟨.ref x :: args.pos, args.kw⟩ (binds x)) (hloc : ∀ x, ∀ y ∈ binds x, scope.names.lookup y.1 = some .local)
    (hco : scope.isCoroutine = false) (hgen : scope.isGenerator = false) (hk : scope.kind = .function) (hcell : ∀ x ∈ scope.names, x.2 ≠ .cell)
    (hb : ∀ x dx, dx < x → BodySpec w mean mg mb D U fI qual scope cdv body (binds x) [(x, instObj C dx), (dx, dictOf [] 0)] (fun v after => v = .none ∧ R x dx after)) :
    Spec w mean mg mb (D + 2) (U + 6) C args [] (fun v after => ∃ x dx, v = .ref x ∧ R x dx after) := by
  intro dp un gd cn cs a ccd cl outer A₀ base h₀ L m news s Q E B F X N T hck hkeep hd hu hret
  refine call_cls F X N hm hi hf fun x dx h' F' N' l1 l2 => ?_
  refine enterF (keep := [(x, instObj C dx), (dx, dictOf [] 0)]) B F' X N' T rfl rfl hck ?_ ho hcd (by show dp + 1 < recursionLimit; omega) (hbind _ x (X.keeps F'.keep)) (hloc x) (fun g L' h₁ F1 N1 B1 X1 T1 hkl => ?_) hco hgen hk hcell
  · intro q hq
    rcases List.mem_cons.mp hq with rfl | hq
    · exact .head _
    · rw [List.mem_singleton.mp hq]; exact .tail _ (.head _)
  refine hb x dx l2 (dp + 2) (un + 4) gd (envX cn cs L a ccd cl :: outer) _ base g L' { s with heap := h₁, toks := s.toks + (binds x).length } _ _ B1 F1 X1 N1 T1 (by omega) (by omega) hkl ?_ (Nat.le_add_left _ _)
  rintro fl v after m' h2 tk' hv Fr' Nw ⟨hv0, hr⟩
  refine ⟨m', h2, tk', after, rfl, Fr', Nw, fun hF hN => ⟨hv.trans hv0, ?_⟩⟩
  refine hret (.ref x) after h2 tk' hF (fun rest hr1 _ => hN rest (fun q hq => .tail _ (.tail _ (hr1 q hq))) fun q hq r hr e => ?_) ⟨x, dx, rfl, hr⟩
  have h1 := l1 q (hr1 q hq)
  rcases List.mem_cons.mp hr with rfl | hr
  · have : x = q.1 := e
    rw [← this] at h1
    exact Nat.lt_irrefl _ (Nat.lt_trans l2 h1)
  · rw [List.mem_singleton.mp hr] at e
    have : dx = q.1 := e
    rw [← this] at h1
    exact Nat.lt_irrefl _ h1
end
local macro_rules | `(tactic| walk_at "call ref") => `(tactic| (k_here; (with_reducible show wpAny _ _ (call (Value.ref 35) [Value.int _ _, Value.int _ _]) _ _ _); k_dflt (refine' useT (c_nearest _ _ _ _ _ _ _ _ ?kp ?kp2 ?kb1 ?kb2) ?kB ?kF ?kX ?kN ?kT ?kC ?kD ?kU ?_; walk_at "my_call"; (case kp => first | assumption | omega); (case kp2 => first | assumption | omega); (case kb1 => bits_by_make); (case kb2 => bits_by_make)); intro P9 u91 u92 c9 h9 tk9 F9 N9 A9; (replace A9 := allNe_of A9); (try simp only [AllNe, and_true] at A9); (try dsimp only); (try k_fold)))
def mkN (n d : Int) : Int := if n = 0 then 0 else nrN n d
def mkD (n d : Int) : Int := if n = 0 then d else nrD n d

theorem mk_end {w : World} {x dx : Addr} {n1 d1 n2 d2 : Int} {k1 t1 k2 t2 : Nat} (e1 : n1 = n2) (e2 : d1 = d2) : ∃ k1' t1' k2' t2', dbl w x dx n1 d1 k1 t1 k2 t2 = dbl w x dx n2 d2 k1' t1' k2' t2' := by subst e1; subst e2; exact ⟨_, _, _, _, rfl⟩

theorem c_make (w : World) (mean : ExcName → Option Value) (mg mb : Str → Option Value) (n d : Int) (tn td : Tok) (hd0 : 0 < d) (hbn : Builtin.Int.intBits n ≤ 160) (hbd : Builtin.Int.intBits d ≤ 160) :
    Spec w mean mg mb 8 30 116 ⟨[.int n tn, .int d td], []⟩ [] (fun v after => ∃ x dx, v = .ref x ∧ ∃ k1 t1 k2 t2, after = dbl w x dx (mkN n d) (mkD n d) k1 t1 k2 t2) := by
  refine' spec_cls (binds := fun x => [(Str.ofString "self", .ref x), (Str.ofString "n", .int n tn), (Str.ofString "d", .int d td)]) ?km ?ki ?kf ?k6 ?k7 ?k9 ?kB ?c2 ?c3 ?c4 ?c5 ?_
  (case km => k_dflt k_is)
  (case ki => k_dflt k_is)
  (case kf => k_dflt k_is)
  (case k6 => k_dflt k_is)
  (case k7 => k_dflt k_is)
  (case k9 => k_dflt (intro s' x' X'; first | exact BindsTo.of_eq rfl | exact binds_K X' rfl (by k_is) rfl rfl rfl))
  (case c5 => k_dflt decide)
  (case kB => k_dflt (intro x'; exact locs rfl))
  (case c2 => exact rfl)
  (case c3 => exact rfl)
  (case c4 => exact rfl)
  intro x dx hlt dp un gd outer A₀ base g L s Q E B F X N T hd hu hkl hret htk
  replace hlt := ltN hlt
  k_steps
  all_goals (rename News _ _ _ _ => N9)
  all_goals first
    | (exfalso; omega)
    | exact hret Flow.next _ (dbl w x dx _ _ _ _ _ _) _ _ _ rfl (by assumption) (fun q hq => N9 q (List.mem_cons_of_mem _ hq)) ⟨rfl, mk_end (by unfold mkN; split <;> omega) (by unfold mkD; split <;> omega)⟩
theorem c_mk (w : World) (mean : ExcName → Option Value) (mg mb : Str → Option Value) (n d : Int) (tn td : Tok) (hd0 : 0 < d) (hbn : Builtin.Int.intBits n ≤ 160) (hbd : Builtin.Int.intBits d ≤ 160) :
    Spec w mean mg mb 8 30 116 ⟨[.int n tn, .int d td], []⟩ [] (RDbl w (mkN n d) (mkD n d)) :=
  (c_make w mean mg mb n d tn td hd0 hbn hbd).mono (fun _ _ ⟨x, dx, h1, k1, t1, k2, t2, h2⟩ => ⟨x, dx, k1, t1, k2, t2, h1, h2⟩) (Nat.le_refl _) (Nat.le_refl _)
theorem c_make1 (w : World) (mean : ExcName → Option Value) (mg mb : Str → Option Value) (n : Int) (tn : Tok) (hbn : Builtin.Int.intBits n ≤ 160) :
    Spec w mean mg mb 8 30 116 ⟨[.int n tn], []⟩ [] (fun v after => ∃ x dx, v = .ref x ∧ ∃ k1 t1 k2 t2, after = dbl w x dx (mkN n 1) (mkD n 1) k1 t1 k2 t2) := by
  refine' spec_cls (binds := fun x => [(Str.ofString "self", .ref x), (Str.ofString "n", .int n tn), (Str.ofString "d", .int 1 235)]) ?km ?ki ?kf ?k6 ?k7 ?k9 ?kB ?c2 ?c3 ?c4 ?c5 ?_
  (case km => k_dflt k_is)
  (case ki => k_dflt k_is)
  (case kf => k_dflt k_is)
  (case k6 => k_dflt k_is)
  (case k7 => k_dflt k_is)
  (case k9 => k_dflt (intro s' x' X'; first | exact BindsTo.of_eq rfl | exact binds_K X' rfl (by k_is) rfl rfl rfl))
  (case c5 => k_dflt decide)
  (case kB => k_dflt (intro x'; exact locs rfl))
  (case c2 => exact rfl)
  (case c3 => exact rfl)
  (case c4 => exact rfl)
  intro x dx hlt dp un gd outer A₀ base g L s Q E B F X N T hd hu hkl hret htk
  replace hlt := ltN hlt
  k_steps
  all_goals (rename News _ _ _ _ => N9)
  all_goals first
    | (exfalso; omega)
    | exact hret Flow.next _ (dbl w x dx _ _ _ _ _ _) _ _ _ rfl (by assumption) (fun q hq => N9 q (List.mem_cons_of_mem _ hq)) ⟨rfl, mk_end (by unfold mkN; split <;> omega) (by unfold mkD; split <;> omega)⟩
theorem c_mk1 (w : World) (mean : ExcName → Option Value) (mg mb : Str → Option Value) (n : Int) (tn : Tok) (hbn : Builtin.Int.intBits n ≤ 160) :
    Spec w mean mg mb 8 30 116 ⟨[.int n tn], []⟩ [] (RDbl w (mkN n 1) (mkD n 1)) :=
  (c_make1 w mean mg mb n tn hbn).mono (fun _ _ ⟨x, dx, h1, k1, t1, k2, t2, h2⟩ => ⟨x, dx, k1, t1, k2, t2, h1, h2⟩) (Nat.le_refl _) (Nat.le_refl _)
theorem two_toNat32 : (2 : Int) ^ Int.toNat 32 = 4294967296 := by decide
theorem two_toNat1 : (2 : Int) ^ Int.toNat 1 = 2 := by decide
theorem pow2_pos (k : Nat) : (0 : Int) < 2 ^ k := Int.pow_pos (by decide)
theorem bits_of_le {x T : Int} {m : Nat} (h0 : 0 ≤ x) (h : x ≤ T) (hT : Builtin.Int.intBits T ≤ m) : Builtin.Int.intBits x ≤ m := intBits_le_of_natAbs (by omega) hT

def Inv12 (T d low e : Int) : Prop := ∃ k : Nat, low = d * 2 ^ k ∧ e = k ∧ (k = 0 ∨ low * 2 ^ 52 ≤ T)
theorem inv12_0 (T d : Int) : Inv12 T d d 0 := ⟨0, by simp, rfl, .inl rfl⟩
theorem inv12_1 {T d low e : Int} (I : Inv12 T d low e) (hl : 0 < low) (h : low * 2 ^ Int.toNat 85 ≤ T) : Inv12 T d (low * 2 ^ Int.toNat 32) (e + 32) := by
  obtain ⟨k, rfl, rfl, _⟩ := I
  have e85 : (2 : Int) ^ Int.toNat 85 = 38685626227668133590597632 := by decide
  have e52 : (2 : Int) ^ 52 = 4503599627370496 := by decide
  refine ⟨k + 32, ?_, by omega, .inr ?_⟩
  · rw [Int.pow_add, Int.mul_assoc]; rfl
  · rw [e85] at h
    rw [two_toNat32, e52]
    generalize d * 2 ^ k = low at *
    omega
theorem inv12_2 {T d low e : Int} (I : Inv12 T d low e) (h : low * 2 ^ Int.toNat 53 ≤ T) : Inv12 T d (low * 2 ^ Int.toNat 1) (e + 1) := by
  obtain ⟨k, rfl, rfl, _⟩ := I
  refine ⟨k + 1, ?_, by omega, .inr ?_⟩
  · rw [Int.pow_add, Int.mul_assoc]; rfl
  · refine Int.le_trans (Int.le_of_eq ?_) h
    rw [Int.mul_assoc (d * 2 ^ k)]; rfl
def Inv34 (T d low top e : Int) : Prop := ∃ k j : Nat, low = d * 2 ^ k ∧ top = T * 2 ^ j ∧ e = (k : Int) - j ∧ (k = 0 ∨ j = 0) ∧ (k = 0 ∨ low * 2 ^ 52 ≤ T) ∧ top < low * 2 ^ 53
theorem inv34_0 {T d low e : Int} (I : Inv12 T d low e) (h : ¬ low * 2 ^ Int.toNat 53 ≤ T) : Inv34 T d low T e := by
  obtain ⟨k, rfl, rfl, h2⟩ := I
  exact ⟨k, 0, rfl, by simp, by omega, .inr rfl, h2, Int.lt_of_not_ge h⟩
theorem inv34_1 {T d low top e : Int} (I : Inv34 T d low top e) (hl : 0 < low) (h : top < low * 2 ^ Int.toNat 20) : Inv34 T d low (top * 2 ^ Int.toNat 32) (e - 32) := by
  obtain ⟨k, j, rfl, rfl, rfl, h1, h2, h3⟩ := I
  have e20 : (2 : Int) ^ Int.toNat 20 = 1048576 := by decide
  have e52 : (2 : Int) ^ 52 = 4503599627370496 := by decide
  have e53 : (2 : Int) ^ 53 = 9007199254740992 := by decide
  rw [e20] at h
  rw [e52] at h2
  rw [e53] at h3
  have hk : k = 0 := by
    rcases h1 with h1 | h1
    · exact h1
    · rcases h2 with h2 | h2
      · exact h2
      · subst h1
        exfalso
        rw [Int.pow_zero, Int.mul_one] at h
        generalize d * 2 ^ k = low at *
        omega
  refine ⟨k, j + 32, rfl, ?_, by omega, .inl hk, .inl hk, ?_⟩
  · rw [Int.pow_add, Int.mul_assoc]; rfl
  · rw [two_toNat32, e53]
    generalize d * 2 ^ k = low at *
    generalize T * 2 ^ j = top at *
    omega
theorem inv34_2 {T d low top e : Int} (I : Inv34 T d low top e) (hl : 0 < low) (h : top < low * 2 ^ Int.toNat 52) : Inv34 T d low (top * 2 ^ Int.toNat 1) (e - 1) := by
  obtain ⟨k, j, rfl, rfl, rfl, h1, h2, h3⟩ := I
  have e52' : (2 : Int) ^ Int.toNat 52 = 4503599627370496 := by decide
  have e52 : (2 : Int) ^ 52 = 4503599627370496 := by decide
  have e53 : (2 : Int) ^ 53 = 9007199254740992 := by decide
  rw [e52'] at h
  rw [e52] at h2
  rw [e53] at h3
  have hk : k = 0 := by
    rcases h1 with h1 | h1
    · exact h1
    · rcases h2 with h2 | h2
      · exact h2
      · subst h1
        exfalso
        rw [Int.pow_zero, Int.mul_one] at h
        generalize d * 2 ^ k = low at *
        omega
  refine ⟨k, j + 1, rfl, ?_, by omega, .inl hk, .inl hk, ?_⟩
  · rw [Int.pow_add, Int.mul_assoc]; rfl
  · rw [two_toNat1, e53]
    generalize d * 2 ^ k = low at *
    generalize T * 2 ^ j = top at *
    omega
theorem bits_lt {top low : Int} {m : Nat} (h0 : 0 ≤ top) (h : top < low * 2 ^ 53) (hl : Builtin.Int.intBits low ≤ m) : Builtin.Int.intBits top ≤ m + 53 :=
  bits_of_le h0 (Int.le_of_lt h) (bits_shl hl)
theorem inv34_bits {T d low top e : Int} (I : Inv34 T d low top e) (h0 : 0 ≤ top) (hl : Builtin.Int.intBits low ≤ 400) : Builtin.Int.intBits top ≤ 460 := by
  obtain ⟨k, j, _, _, _, _, _, h⟩ := I
  have := bits_lt h0 h hl
  omega
/-- the lowest end of the loops is not met -/
theorem inv34_end {T d low top e : Int} (I : Inv34 T d low top e) (hT : 0 < T) (hl : Builtin.Int.intBits low ≤ 400) (he : e ≤ -1074) : False := by
  obtain ⟨k, j, _, rfl, rfl, h1, _, h⟩ := I
  have hj : 1074 ≤ j := by omega
  have hb := intBits_le_iff.mp (bits_shl (k := 53) hl)
  have h2 : (2 : Int) ^ 1074 ≤ T * 2 ^ j := by
    have h3 : (2 : Int) ^ 1074 ≤ 2 ^ j := by
      have := Nat.pow_le_pow_right (n := 2) (by decide) hj
      exact_mod_cast this
    refine Int.le_trans h3 ?_
    have := Int.mul_le_mul_of_nonneg_right (show (1 : Int) ≤ T from hT) (Int.le_of_lt (pow2_pos j))
    rwa [Int.one_mul] at this
  have h4 : (low * 2 ^ 53).natAbs < 2 ^ 1074 := Nat.lt_of_lt_of_le hb (Nat.pow_le_pow_right (by decide) (by decide))
  have h5 : ((2 ^ 1074 : Nat) : Int) = (2 : Int) ^ 1074 := by rw [Int.natCast_pow]; rfl
  rw [← h5] at h2
  generalize (2 : Nat) ^ 1074 = P at *
  generalize low * 2 ^ 53 = y at *
  generalize T * 2 ^ j = z at *
  omega
theorem shl32 {low T : Int} (hl : 0 < low) (h : low * 2 ^ Int.toNat 85 ≤ T) : 0 < low * 2 ^ Int.toNat 32 ∧ low < low * 2 ^ Int.toNat 32 ∧ low * 2 ^ Int.toNat 32 ≤ T := by
  have e85 : (2 : Int) ^ Int.toNat 85 = 38685626227668133590597632 := by decide
  rw [two_toNat32]
  rw [e85] at h
  omega
theorem shl1 {low T : Int} (hl : 0 < low) (h : low * 2 ^ Int.toNat 53 ≤ T) : 0 < low * 2 ^ Int.toNat 1 ∧ low < low * 2 ^ Int.toNat 1 ∧ low * 2 ^ Int.toNat 1 ≤ T := by
  have e53 : (2 : Int) ^ Int.toNat 53 = 9007199254740992 := by decide
  rw [two_toNat1]
  rw [e53] at h
  omega
theorem st12_0 {T d : Int} (h0 : 0 < d) (hb : Builtin.Int.intBits d ≤ 160) : 0 < d ∧ Builtin.Int.intBits d ≤ 400 ∧ Inv12 T d d 0 := ⟨h0, by omega, inv12_0 T d⟩
theorem st12_1 {T d low e : Int} (hT : Builtin.Int.intBits T ≤ 160) (hl : 0 < low) (I : Inv12 T d low e) (h : low * 2 ^ Int.toNat 85 ≤ T) :
    0 < low * 2 ^ Int.toNat 32 ∧ Builtin.Int.intBits (low * 2 ^ Int.toNat 32) ≤ 400 ∧ Inv12 T d (low * 2 ^ Int.toNat 32) (e + 32) := by
  obtain ⟨h1, h2, h3⟩ := shl32 hl h
  have := bits_of_le (Int.le_of_lt h1) h3 hT
  exact ⟨h1, by omega, inv12_1 I hl h⟩
theorem st12_2 {T d low e : Int} (hT : Builtin.Int.intBits T ≤ 160) (hl : 0 < low) (I : Inv12 T d low e) (h : low * 2 ^ Int.toNat 53 ≤ T) :
    0 < low * 2 ^ Int.toNat 1 ∧ Builtin.Int.intBits (low * 2 ^ Int.toNat 1) ≤ 400 ∧ Inv12 T d (low * 2 ^ Int.toNat 1) (e + 1) := by
  obtain ⟨h1, h2, h3⟩ := shl1 hl h
  have := bits_of_le (Int.le_of_lt h1) h3 hT
  exact ⟨h1, by omega, inv12_2 I h⟩
theorem ms12_1 {T low : Int} (hl : 0 < low) (h : low * 2 ^ Int.toNat 85 ≤ T) : (T - low * 2 ^ Int.toNat 32).toNat < (T - low).toNat := by
  obtain ⟨h1, h2, h3⟩ := shl32 hl h
  omega
theorem ms12_2 {T low : Int} (hl : 0 < low) (h : low * 2 ^ Int.toNat 53 ≤ T) : (T - low * 2 ^ Int.toNat 1).toNat < (T - low).toNat := by
  obtain ⟨h1, h2, h3⟩ := shl1 hl h
  omega
theorem st34_0 {T d low e : Int} (hT0 : 0 < T) (hT : Builtin.Int.intBits T ≤ 160) (he : 0 ≤ e) (I : Inv12 T d low e) (h : ¬ low * 2 ^ Int.toNat 53 ≤ T) :
    0 < T ∧ Builtin.Int.intBits T ≤ 460 ∧ -1074 ≤ e ∧ Inv34 T d low T e := ⟨hT0, by omega, by omega, inv34_0 I h⟩
theorem inv12_e {T d low e : Int} (I : Inv12 T d low e) : 0 ≤ e := by
  obtain ⟨k, _, rfl, _⟩ := I
  omega
theorem st34_1 {T d low top e : Int} (hl : 0 < low) (hlb : Builtin.Int.intBits low ≤ 400) (ht : 0 < top) (I : Inv34 T d low top e) (h : top < low * 2 ^ Int.toNat 20) (he : -1042 < e) :
    0 < top * 2 ^ Int.toNat 32 ∧ Builtin.Int.intBits (top * 2 ^ Int.toNat 32) ≤ 460 ∧ -1074 ≤ e - 32 ∧ Inv34 T d low (top * 2 ^ Int.toNat 32) (e - 32) := by
  have I' := inv34_1 I hl h
  have h0 : 0 < top * 2 ^ Int.toNat 32 := Int.mul_pos ht (pow2_pos _)
  exact ⟨h0, inv34_bits I' (Int.le_of_lt h0) hlb, by omega, I'⟩
theorem st34_2 {T d low top e : Int} (hl : 0 < low) (hlb : Builtin.Int.intBits low ≤ 400) (ht : 0 < top) (I : Inv34 T d low top e) (h : top < low * 2 ^ Int.toNat 52) (he : -1074 < e) :
    0 < top * 2 ^ Int.toNat 1 ∧ Builtin.Int.intBits (top * 2 ^ Int.toNat 1) ≤ 460 ∧ -1074 ≤ e - 1 ∧ Inv34 T d low (top * 2 ^ Int.toNat 1) (e - 1) := by
  have I' := inv34_2 I hl h
  have h0 : 0 < top * 2 ^ Int.toNat 1 := Int.mul_pos ht (pow2_pos _)
  exact ⟨h0, inv34_bits I' (Int.le_of_lt h0) hlb, by omega, I'⟩
theorem rnd_eq {x y : Int} (hy : 0 < y) : rnd x y = if y < 2 * (x % y) ∨ (2 * (x % y) = y ∧ (x / y) % 2 = 1) then x / y + 1 else x / y := by
  unfold rnd
  rw [Int.fdiv_eq_ediv_of_nonneg _ (Int.le_of_lt hy), Int.fmod_eq_emod_of_nonneg _ (Int.le_of_lt hy), Int.fmod_eq_emod_of_nonneg _ (by decide)]
theorem rnd_neg {x y : Int} (hy : 0 < y) : rnd (-x) y = -rnd x y := by
  rw [rnd_eq hy, rnd_eq hy]
  have h1 := Int.emod_nonneg x (Int.ne_of_gt hy)
  have h2 := Int.emod_lt_of_pos x hy
  have h3 := Int.mul_ediv_add_emod x y
  by_cases hr : x % y = 0
  · have hu : (-x) / y = -(x / y) ∧ (-x) % y = 0 := by
      refine (Int.ediv_emod_unique hy).mpr ⟨?_, by omega, hy⟩
      rw [Int.mul_neg]
      omega
    rw [hu.1, hu.2, hr]
    rw [if_neg (by omega), if_neg (by omega)]
  · have hu : (-x) / y = -(x / y) - 1 ∧ (-x) % y = y - x % y := by
      refine (Int.ediv_emod_unique hy).mpr ⟨?_, by omega, by omega⟩
      rw [Int.mul_sub, Int.mul_neg, Int.mul_one]
      omega
    rw [hu.1, hu.2]
    split <;> split <;> omega

/-- n * 2 ^ σ / d lies in [2 ^ 52, 2 ^ 53), all raised by 2 ^ 2000 -/
def InBin (N d : Nat) (σ : Int) : Prop := d * 2 ^ 2052 ≤ N * 2 ^ (2000 + σ).toNat ∧ N * 2 ^ (2000 + σ).toNat < d * 2 ^ 2053
theorem inBin_le {N d a b : Nat} {σ : Int} (h0 : -2000 ≤ σ) (ha : a = σ.toNat) (hb : b = (-σ).toNat) (k c : Nat) (hk : k = 2000 + c) : (d * 2 ^ (b + c) ≤ N * 2 ^ a ↔ d * 2 ^ k ≤ N * 2 ^ (2000 + σ).toNat) := by
  have e1 : (2000 + σ).toNat = a + (2000 - b) := by omega
  have e2 : k = (b + c) + (2000 - b) := by omega
  rw [e1, e2, Nat.pow_add 2 a, Nat.pow_add 2 (b + c), ← Nat.mul_assoc, ← Nat.mul_assoc]
  exact (Nat.mul_le_mul_right_iff (Nat.pow_pos (by decide))).symm
theorem aux1 {D f u : Nat} (ha : D ≤ f) (h3 : f * 2 ^ 1 * 1 ≤ f * 2 ^ 1 * u) (hb : f * 2 ^ 1 * u < D * 2) : False := by
  generalize f * 2 ^ 1 * u = g at *
  omega
theorem aux2 {D D2 D4 f f' z : Nat} (e5 : D2 = D * 2) (e6 : D4 = D * 4) (e8 : f = f' * 2) (hle : D2 ≤ f) (f2 : f < z) (g2 : z ≤ D4) : D ≤ f' ∧ f' < D2 := by omega
theorem aux3 {D D2 f z : Nat} (f1 : z ≤ f) (g1 : D < z) (hle : ¬ D2 ≤ f) : D ≤ f ∧ f < D2 := by omega
theorem inBin_unique {N d : Nat} {σ τ : Int} (h1 : -2000 ≤ σ) (h2 : -2000 ≤ τ) (a : InBin N d σ) (b : InBin N d τ) : σ = τ := by
  have key : ∀ {σ τ : Int}, -2000 ≤ σ → InBin N d σ → InBin N d τ → ¬ σ < τ := by
    intro σ τ h1 a b hlt
    have e : (2000 + τ).toNat = (2000 + σ).toNat + 1 + (τ - σ - 1).toNat := by omega
    have hb := b.2
    rw [e, Nat.pow_add, Nat.pow_add, ← Nat.mul_assoc, ← Nat.mul_assoc] at hb
    have h3 : N * 2 ^ (2000 + σ).toNat * 2 ^ 1 * 1 ≤ N * 2 ^ (2000 + σ).toNat * 2 ^ 1 * 2 ^ (τ - σ - 1).toNat := Nat.mul_le_mul_left _ (Nat.pow_pos (by decide))
    have ha := a.1
    have e5 : d * 2 ^ 2053 = d * 2 ^ 2052 * 2 := by rw [show (2053 : Nat) = 2052 + 1 from rfl, Nat.pow_succ, Nat.mul_assoc]
    rw [e5] at hb
    exact aux1 ha h3 hb
  have := key h1 a b
  have := key h2 b a
  omega
theorem bits_two {x : Int} (h : x ≠ 0) : 2 ^ (Builtin.Int.intBits x - 1) ≤ x.natAbs ∧ x.natAbs < 2 ^ Builtin.Int.intBits x ∧ 1 ≤ Builtin.Int.intBits x := by
  have e : Builtin.Int.intBits x = x.natAbs.log2 + 1 := by
    unfold Builtin.Int.intBits
    rw [if_neg (by simpa using h)]
  have h0 : x.natAbs ≠ 0 := by omega
  rw [e]
  exact ⟨Nat.log2_self_le h0, Nat.lt_log2_self, by omega⟩
theorem sft_bin {n : Int} {d : Nat} (hn : n ≠ 0) (hd : 0 < d) (hbn : Builtin.Int.intBits n ≤ 160) (hbd : Builtin.Int.intBits (d : Int) ≤ 160) : -2000 ≤ sft n d ∧ InBin n.natAbs d (sft n d) := by
  obtain ⟨n1, n2, n3⟩ := bits_two hn
  obtain ⟨d1, d2, d3⟩ := bits_two (x := (d : Int)) (by omega)
  rw [Int.natAbs_natCast] at d1 d2
  generalize ha : Builtin.Int.intBits n = a at *
  generalize hb : Builtin.Int.intBits (d : Int) = b at *
  generalize hN : n.natAbs = N at *
  have hs0 : ∃ s0 : Int, s0 = 53 - (a : Int) + b := ⟨_, rfl⟩
  obtain ⟨s0, hs0⟩ := hs0
  have hsf : sft n d = if d * 2 ^ ((-s0).toNat + 53) ≤ N * 2 ^ s0.toNat then s0 - 1 else s0 := by
    unfold sft
    rw [ha, hb, hN, ← hs0]
    dsimp only
    have e : ((d : Int) * 2 ^ ((-s0).toNat + 53) ≤ (N : Int) * 2 ^ s0.toNat) ↔ (d * 2 ^ ((-s0).toNat + 53) ≤ N * 2 ^ s0.toNat) := by
      have c1 : (d : Int) * 2 ^ ((-s0).toNat + 53) = ((d * 2 ^ ((-s0).toNat + 53) : Nat) : Int) := by rw [Int.natCast_mul, Int.natCast_pow]; rfl
      have c2 : (N : Int) * 2 ^ s0.toNat = ((N * 2 ^ s0.toNat : Nat) : Int) := by rw [Int.natCast_mul, Int.natCast_pow]; rfl
      rw [c1, c2]
      exact Int.ofNat_le
    simp only [e]
  have hlo : -2000 ≤ s0 := by omega
  have hc := inBin_le (N := N) (d := d) hlo rfl rfl 2053 53 rfl
  -- f = N * 2 ^ (2000 + s0) between 2 ^ (2052 + b) and 2 ^ (2053 + b)
  have f1 : 2 ^ (2052 + b) ≤ N * 2 ^ (2000 + s0).toNat := by
    have e : 2052 + b = (a - 1) + (2000 + s0).toNat := by omega
    rw [e, Nat.pow_add]
    exact Nat.mul_le_mul_right _ n1
  have f2 : N * 2 ^ (2000 + s0).toNat < 2 ^ (2053 + b) := by
    have e : 2053 + b = a + (2000 + s0).toNat := by omega
    rw [e, Nat.pow_add]
    exact (Nat.mul_lt_mul_right (Nat.pow_pos (by decide))).mpr n2
  have g1 : d * 2 ^ 2052 < 2 ^ (2052 + b) := by
    rw [Nat.add_comm, Nat.pow_add]
    exact (Nat.mul_lt_mul_right (Nat.pow_pos (by decide))).mpr d2
  have g2 : 2 ^ (2053 + b) ≤ d * 2 ^ 2054 := by
    have e : 2053 + b = (b - 1) + 2054 := by omega
    rw [e, Nat.pow_add]
    exact Nat.mul_le_mul_right _ d1
  have e5 : d * 2 ^ 2053 = d * 2 ^ 2052 * 2 := by rw [show (2053 : Nat) = 2052 + 1 from rfl, Nat.pow_succ, Nat.mul_assoc]
  have e6 : d * 2 ^ 2054 = d * 2 ^ 2052 * 4 := by rw [show (2054 : Nat) = 2052 + 2 from rfl, Nat.pow_add, Nat.mul_assoc]
  rw [hsf]
  split
  · rename_i hle
    refine ⟨by omega, ?_⟩
    have hle' := hc.mp hle
    have e7 : (2000 + s0).toNat = (2000 + (s0 - 1)).toNat + 1 := by omega
    have e8 : N * 2 ^ (2000 + s0).toNat = N * 2 ^ (2000 + (s0 - 1)).toNat * 2 := by rw [e7, Nat.pow_succ, Nat.mul_assoc]
    exact aux2 e5 e6 e8 hle' f2 g2
  · rename_i hle
    refine ⟨hlo, ?_⟩
    have hle' := mt hc.mpr hle
    exact aux3 f1 g1 hle'
theorem inv34_ehi {T d low top e : Int} (I : Inv34 T d low top e) (hd : 0 < d) (hl : Builtin.Int.intBits low ≤ 400) : e ≤ 400 := by
  obtain ⟨k, j, rfl, _, rfl, _, _, _⟩ := I
  have h := intBits_le_iff.mp hl
  rw [Int.natAbs_mul, Int.natAbs_pow] at h
  have h1 : 1 * 2 ^ k ≤ d.natAbs * 2 ^ k := Nat.mul_le_mul_right _ (by omega)
  have h2 : 2 ^ k < 2 ^ 400 := by
    rw [Nat.one_mul] at h1
    exact Nat.lt_of_le_of_lt h1 h
  have := (Nat.pow_lt_pow_iff_right (by decide)).mp h2
  omega
theorem cast_pow2 (k : Nat) : ((2 ^ k : Nat) : Int) = 2 ^ k := by rw [Int.natCast_pow]; rfl
theorem cast_lo (d k m : Nat) : (d : Int) * 2 ^ k * 2 ^ m = ((d * 2 ^ (k + m) : Nat) : Int) := by rw [Int.natCast_mul, cast_pow2, Int.pow_add, Int.mul_assoc]
theorem cast_hi (d k : Nat) : (d : Int) * 2 ^ k = ((d * 2 ^ k : Nat) : Int) := by rw [Int.natCast_mul, cast_pow2]
theorem near_bin {N d k j : Nat} (hkj : k = 0 ∨ j = 0) (hhi : (k : Int) - j ≤ 400) (hge : (d : Int) * 2 ^ k * 2 ^ 52 ≤ (N : Int) * 2 ^ j) (hlt : (N : Int) * 2 ^ j < (d : Int) * 2 ^ k * 2 ^ 53) : InBin N d (-((k : Int) - j)) := by
  have ej : j = (-((k : Int) - j)).toNat := by omega
  have ek : k = (-(-((k : Int) - j))).toNat := by omega
  have h0 : -2000 ≤ (-((k : Int) - j)) := by omega
  rw [cast_lo, cast_hi] at hge hlt
  exact ⟨(inBin_le h0 ej ek 2052 52 rfl).mp (Int.ofNat_le.mp hge), Nat.lt_of_not_le (mt (inBin_le h0 ej ek 2053 53 rfl).mpr (Nat.not_le_of_lt (Int.ofNat_lt.mp hlt)))⟩
theorem toNat52 : Int.toNat 52 = 52 := rfl
theorem near_final {n d low top e : Int} (hn : n ≠ 0) (hd : 0 < d) (hbn : Builtin.Int.intBits n ≤ 160) (hbd : Builtin.Int.intBits d ≤ 160) (I : Inv34 (if n < 0 then -n else n) d low top e) (hl : Builtin.Int.intBits low ≤ 400)
    (he : ¬ top < low * 2 ^ Int.toNat 52) : nrN n d = (if n < 0 then -1 else 1) * rnd top low * 2 ^ e.toNat ∧ nrD n d = 2 ^ (-e).toNat := by
  have hhi := inv34_ehi I hd hl
  rw [← abs_eq] at I
  rw [toNat52] at he
  obtain ⟨k, j, hlow, htop, hke, hkj, _, hlt⟩ := I
  obtain ⟨dn, rfl⟩ : ∃ dn : Nat, d = dn := ⟨d.toNat, by omega⟩
  have ej : (-e).toNat = j := by omega
  have ek : e.toNat = k := by omega
  have hge := Int.not_lt.mp he
  rw [hlow, htop] at hge hlt
  have bin : InBin n.natAbs dn (-((k : Int) - j)) := near_bin hkj (by omega) hge hlt
  rw [← hke] at bin
  obtain ⟨s1, s2⟩ := sft_bin hn (d := dn) (by omega) hbn hbd
  have hs : sft n dn = -e := inBin_unique s1 (by omega) s2 bin
  have hpos : (0 : Int) < dn * 2 ^ k := Int.mul_pos hd (pow2_pos k)
  refine ⟨?_, by unfold nrD; rw [hs]⟩
  unfold nrN
  rw [hs, Int.neg_neg, ej, ek, hlow, htop]
  have hm : rnd (n * 2 ^ j) (dn * 2 ^ k) = (if n < 0 then -1 else 1) * rnd ((n.natAbs : Int) * 2 ^ j) (dn * 2 ^ k) := by
    split
    · have : n = -(n.natAbs : Int) := by omega
      rw [Int.neg_mul, Int.one_mul, ← rnd_neg hpos, ← Int.neg_mul, ← this]
    · have : n = (n.natAbs : Int) := by omega
      rw [Int.one_mul, ← this]
  rw [hm]
theorem sg_bits {n sg : Int} (h : sg = if n < 0 then -1 else 1) : Builtin.Int.intBits sg ≤ 1 := by
  subst h
  split <;> decide
theorem near_pos {n d low top e sg W : Int} {a : Nat} (hn : n ≠ 0) (hd : 0 < d) (hbn : Builtin.Int.intBits n ≤ 160) (hbd : Builtin.Int.intBits d ≤ 160) (I : Inv34 (if n < 0 then -n else n) d low top e) (hl : Builtin.Int.intBits low ≤ 400)
    (he : ¬ top < low * 2 ^ Int.toNat 52) (hsg : sg = if n < 0 then -1 else 1) (hW : W = rnd top low) (h0 : 0 ≤ e) (ha : a = e.toNat) : sg * W * 2 ^ a = nrN n d ∧ 1 = nrD n d := by
  obtain ⟨h1, h2⟩ := near_final hn hd hbn hbd I hl he
  have : (-e).toNat = 0 := by omega
  rw [h1, h2, hsg, hW, ha, this]
  exact ⟨rfl, rfl⟩
theorem near_neg {n d low top e sg W : Int} {a : Nat} (hn : n ≠ 0) (hd : 0 < d) (hbn : Builtin.Int.intBits n ≤ 160) (hbd : Builtin.Int.intBits d ≤ 160) (I : Inv34 (if n < 0 then -n else n) d low top e) (hl : Builtin.Int.intBits low ≤ 400)
    (he : ¬ top < low * 2 ^ Int.toNat 52) (hsg : sg = if n < 0 then -1 else 1) (hW : W = rnd top low) (h0 : ¬ 0 ≤ e) (ha : a = (-e).toNat) : sg * W = nrN n d ∧ 1 * 2 ^ a = nrD n d := by
  obtain ⟨h1, h2⟩ := near_final hn hd hbn hbd I hl he
  have : e.toNat = 0 := by omega
  rw [h1, h2, hsg, hW, ha, this]
  exact ⟨by simp, by simp⟩
theorem but_x {x : Str} {m m' : Str → Option Value} (h : ∀ y, m y = m' y) : ∀ y, y ≠ x → m y = m' y := fun y _ => h y
theorem sub1 {a : Addr × Obj} {l : Led} {q : Addr × Obj} (h : q ∈ [a]) : q ∈ a :: l := by rw [List.mem_singleton.mp h]; exact List.mem_cons_self
theorem nil_sub {all : Led} : ∀ p ∈ ([] : Led), p ∈ all := fun _ h => nomatch h
section
variable {prog : Program} {w : World} {A : Around} {E : Value → Shared → Prop} {Q : Flow → Shared → Prop} {s : Shared} {env : Env} {g : Heap} {L : Addr} {σ : Type} {nf : σ → Str → Option Value} {led : σ → Led} {P : σ → Prop}
theorem fr_ext {h : Heap} {m m' : Str → Option Value} (F : Fr g L h m) (e : ∀ y, m y = m' y) : Fr g L h m' := by
  have : m = m' := funext e
  rw [← this]; exact F
/-- the state behind a statement: of a known shape -/
def Joined (g : Heap) (L : Addr) (s : Shared) (nf : σ → Str → Option Value) (led : σ → Led) (P : σ → Prop) (f : Flow) (s' : Shared) : Prop :=
  f = .next ∧ ∃ c h' tk, s' = { s with heap := h', toks := tk } ∧ Fr g L h' (nf c) ∧ News g L h' (led c) ∧ P c
theorem joined_of {h' : Heap} {tk : Nat} {m' : Str → Option Value} {all : Led} (c : σ) (F : Fr g L h' m') (hm : ∀ y, m' y = nf c y) (N : News g L h' all) (hs : ∀ p ∈ led c, p ∈ all) (hp : P c) :
    Joined g L s nf led P .next { s with heap := h', toks := tk } := ⟨rfl, c, h', tk, rfl, fr_ext F hm, fun p hp => N p (hs p hp), hp⟩
theorem execs_join {st : Stmt} {rest : List Stmt} (h1 : wpAny (model prog w) A (exec st env) (Joined g L s nf led P) E s)
    (h2 : ∀ c h tk, P c → Fr g L h (nf c) → News g L h (led c) → wpAny (model prog w) A (execs rest env) Q E { s with heap := h, toks := tk }) : wpAny (model prog w) A (execs (st :: rest) env) Q E s := by
  refine wpAny_execs_cons (wpAny_mono h1 (fun f s' q => ?_) fun _ _ e => e)
  obtain ⟨rfl, c, h', tk, rfl, F, N, hp⟩ := q
  exact h2 c h' tk hp F N
theorem exec_while {test : Expr} {body : List Stmt} {pos : Pos} {m : Str → Option Value} {all : Led} {Pe : σ → Prop} (μ : σ → Nat) (P : σ → Prop) (c₀ : σ) (F : Fr g L s.heap m) (N : News g L s.heap all) (hm : ∀ y, m y = nf c₀ y) (hs : ∀ p ∈ led c₀, p ∈ all) (hp : P c₀)
    (turn : ∀ c h tk, P c → Fr g L h (nf c) → News g L h (led c) → wpAny (model prog w) A (isTrue test env (eval test env)) (fun b s₂ =>
      if b = true then wpAny (model prog w) A (execs body env) (Joined g L s nf led fun c' => P c' ∧ μ c' < μ c) E s₂ else Joined g L s nf led Pe .next s₂) E { s with heap := h, toks := tk })
    (hE : PassesOwn (model prog w) A env E) :
    wpAny (model prog w) A (exec (.While test body [] pos) env) (Joined g L s nf led Pe) E s := by
  refine While_inv2 (fun n m nx => ∃ c : σ, m = nf c ∧ nx = led c ∧ μ c = n ∧ P c) (fr_ext F hm) (fun p hp => N p (hs p hp)) ⟨c₀, rfl, rfl, rfl, hp⟩ ?_ hE
  rintro n m₁ nx h tk F₁ N₁ ⟨c, rfl, rfl, rfl, hp'⟩
  refine wpAny_mono (turn c h tk hp' F₁ N₁) (fun b s₂ q => ?_) fun _ _ x => x
  cases b with
  | false => exact q
  | true =>
    simp only [if_true] at q ⊢
    refine wpAny_mono q (fun f s₃ q => ?_) fun _ _ x => x
    obtain ⟨rfl, c', h', tk', rfl, F', N', hp9, hm9⟩ := q
    exact ⟨h', tk', _, _, μ c', rfl, F', N', hm9, c', rfl, rfl, rfl, hp9⟩
/-- the state behind a turn of a for -/
def TurnEnd (g : Heap) (L : Addr) (s : Shared) (x : Str) (nf : σ → Str → Option Value) (led : σ → Led) (own : Led) (P : σ → Prop) (f : Flow) (s₃ : Shared) : Prop :=
  f = .next ∧ ∃ c' h' tk' m' all', s₃ = { s with heap := h', toks := tk' } ∧ Fr g L h' m' ∧ News g L h' all' ∧ (∀ y, y ≠ x → m' y = nf c' y) ∧ (∀ p ∈ led c' ++ own, p ∈ all') ∧ P c'
theorem turnEnd_of {x : Str} {h' : Heap} {tk : Nat} {m' : Str → Option Value} {all own : Led} (c : σ) (F : Fr g L h' m') (hm : ∀ y, y ≠ x → m' y = nf c y) (N : News g L h' all) (hs : ∀ p ∈ led c ++ own, p ∈ all) (hp : P c) :
    TurnEnd g L s x nf led own P .next { s with heap := h', toks := tk } := ⟨rfl, c, h', tk, m', all, rfl, F, N, hm, hs, hp⟩
/-- a for over a range: P i c ahead of turn i; the loop's own name is left open -/
theorem range_loop {x : Str} {body : List Stmt} {r : Addr} {b₀ : Int} {t₀ u₀ v₀ : Tok} {m : Str → Option Value} {all : Led} {n : Nat} (P : Nat → σ → Prop) (c₀ : σ)
    (hL : env.locals = L) (hh : A.handled = none) (hr : IsRange s.heap r 0 b₀ 1 t₀ u₀ v₀) (hb0 : b₀ = n) (hb : n < 1000000) (F : Fr g L s.heap m) (N : News g L s.heap all) (hm : ∀ y, y ≠ x → m y = nf c₀ y) (hs : ∀ p ∈ led c₀, p ∈ all)
    (hadr : ∀ c, (led c).map (·.1) = (led c₀).map (·.1)) (hp : P 0 c₀)
    (turn : ∀ c i t h tk own, i < n → P i c → OwnOff own ((led c₀).map (·.1)) → Fr g L h (fun y => if y = x then some (.int (i : Int) t) else nf c y) → News g L h (led c ++ own) →
      wpAny (model prog w) A (execs body env) (TurnEnd g L s x nf led own (P (i + 1))) E { s with heap := h, toks := tk })
    (done : ∀ c h tk (u : Str → Option Value), P n c → Fr g L h (fun y => if y = x then u y else nf c y) → News g L h (led c) → Q .next { s with heap := h, toks := tk }) :
    wpAny (model prog w) A (pyIter (.ref r)) (fun it s₂ => LoopAtV prog w A g env x body Q E it s₂) E s := by
  subst hL
  subst hb0
  have hsmall : Builtin.Range.small 0 (n : Int) 1 = true := small_one (by omega) (by omega) (by omega) (by omega)
  have hn : Builtin.Range.rangeSize 0 (n : Int) 1 = (n : Int) := by rw [rangeSize_nat]; omega
  refine wpAny_pyIter_range hr hsmall ?_
  have W : Walks prog w A s.heap.objs.size [s.heap.objs.size] [s.heap.objs.size] n (fun i v => i < n ∧ ∃ t, v = .int (0 + i * 1) t)
      (fun i h => IsRangeIter h s.heap.objs.size (0 + (i : Nat) * 1) ((n : Int) - (i : Nat)) 1) := (Walks.range hh _ 0 1 n).bound
  have N' : News g env.locals s.heap (led c₀) := fun p hp => N p (hs p hp)
  refine loop_invN (fun i m nx => ∃ c, nx = led c ∧ P i c ∧ ∀ y, y ≠ x → m y = nf c y) W ?_ ?_ ?_ ?_ (by show IsRangeIter _ _ _ _ _; rw [hn]; simpa using Heap.get?_push_size _ rfl) (F.push _) (fun p hp => ⟨Heap.get?_push_of_some _ (N' p hp).1, (N' p hp).2⟩) ⟨c₀, rfl, hp, hm⟩ ?_ ?_
  · intro hm
    exact absurd F.ns.lt ((List.mem_singleton.mp hm) ▸ Nat.lt_irrefl _)
  · intro b hb
    rw [List.mem_singleton.mp hb]
    exact next_is_new F
  · intro p hp hI
    exact absurd (Heap.lt_size (N' p hp).1) ((List.mem_singleton.mp hI) ▸ Nat.lt_irrefl _)
  · intro p hp hI
    exact absurd (Heap.lt_size (N' p hp).1) ((List.mem_singleton.mp hI) ▸ Nat.lt_irrefl _)
  · rintro i v m₁ nx h tk own hi ⟨_, t, rfl⟩ _ hoff ⟨c, rfl, hp', hm'⟩ F₁ N₁
    have e1 : (0 : Int) + (i : Int) * 1 = (i : Int) := by omega
    rw [e1] at F₁
    have F₂ : Fr g env.locals h (fun y => if y = x then some (.int (i : Int) t) else nf c y) := fr_ext F₁ fun y => by
      by_cases hy : y = x
      · rw [if_pos hy, if_pos hy]
      · rw [if_neg hy, if_neg hy]; exact hm' y hy
    refine wpAny_mono (turn c i t h tk own hi hp' hoff F₂ N₁) (fun f s₃ q => ?_) fun _ _ e => e
    obtain ⟨rfl, c', h', tk', m', all', rfl, F', N'', hm'', hs', hp''⟩ := q
    exact ⟨h', tk', m', all', led c', rfl, F', N'', fun p hp => hs' p (List.mem_append_left _ hp), fun p hp => hs' p (List.mem_append_right _ hp), hadr c', c', rfl, hp'', hm''⟩
  · rintro m₁ nx h tk ⟨c, rfl, hp', hm'⟩ F₁ N₁
    refine done c h tk m₁ hp' (fr_ext F₁ fun y => ?_) N₁
    by_cases hy : y = x
    · rw [if_pos hy]
    · rw [if_neg hy]; exact hm' y hy
end
local macro_rules | `(tactic| walk_at "binaryOp FloorDiv int int") => `(tactic| (k_here; (refine floordiv_int (by omega) ?_ (Or.inl (noPy (by bits_by_make) (by omega))))))
abbrev nfN (n d : Int) (tn td : Tok) (sg : Int) (ts : Tok) (top : Int) (tt : Tok) (low : Int) (tl : Tok) (e : Int) (te : Tok) : Str → Option Value := fun y =>
  if y = Str.ofString "e" then some (.int e te) else if y = Str.ofString "low" then some (.int low tl) else if y = Str.ofString "top" then some (.int top tt) else if y = Str.ofString "sign" then some (.int sg ts)
  else List.lookup y [(Str.ofString "n", Value.int n tn), (Str.ofString "d", Value.int d td)].reverse
abbrev nfNear (n d : Int) (tn td : Tok) (c : (Int × Tok) × (Int × Tok) × (Int × Tok) × (Int × Tok)) : Str → Option Value := nfN n d tn td c.1.1 c.1.2 c.2.1.1 c.2.1.2 c.2.2.1.1 c.2.2.1.2 c.2.2.2.1 c.2.2.2.2
local macro_rules | `(tactic| bits_by_make) => `(tactic| first | with_reducible assumption | exact bits_lit (by decide) | ((with_reducible apply PyProof.Rows.bits_mul) <;> bits_by_make) | ((with_reducible apply PyProof.Rows.bits_fdiv); bits_by_make) | ((with_reducible apply PyProof.Rows.bits_add) <;> bits_by_make) | ((with_reducible apply bits_abs); bits_by_make) | ((with_reducible apply bits_shl); bits_by_make) | ((with_reducible apply bits_rnd); bits_by_make))
local macro_rules | `(tactic| walk_at "my_ext") => `(tactic| (intro y'; (by_cases h1 : y' = Str.ofString "e"; (subst h1; rfl)); (by_cases h2 : y' = Str.ofString "low"; (subst h2; rfl)); (by_cases h3 : y' = Str.ofString "top"; (subst h3; rfl)); (by_cases h4 : y' = Str.ofString "sign"; (subst h4; rfl)); simp only [nfNear, nfN, if_neg h1, if_neg h2, if_neg h3, if_neg h4]))
theorem c_near (w : World) (mean : ExcName → Option Value) (mg mb : Str → Option Value) (n d : Int) (tn td : Tok) (hd0 : 0 < d) (hn0 : n ≠ 0) (hbn : Builtin.Int.intBits n ≤ 160) (hbd : Builtin.Int.intBits d ≤ 160) :
    Spec w mean mg mb 4 20 219 ⟨[.int n tn, .int d td], []⟩ [] (RTup (nrN n d) (nrD n d)) := by
  refine' spec_of (binds := [(Str.ofString "n", .int n tn), (Str.ofString "d", .int d td)]) ?k6 ?k7 ?k9 ?kB ?c2 ?c3 ?c4 ?c5 ?_
  k_dflt walk_at "my_side"
  intro dp un gd outer A₀ base g L s Q E B F X N T hd hu hkl hret htk
  have hbT : Builtin.Int.intBits (if n < 0 then -n else n) ≤ 160 := bits_abs hbn
  have hT0 : 0 < (if n < 0 then -n else n) := by split <;> omega
  refine wpAny_noRaise ?_
  -- sign, top, low, e = ..
  refine execs_join (g := g) (L := L) (nf := nfNear n d tn td) (led := fun _ => []) (P := fun c => c.1.1 = (if n < 0 then -1 else 1) ∧ c.2.1.1 = (if n < 0 then -n else n) ∧ c.2.2.1.1 = d ∧ c.2.2.2.1 = 0) ?_ ?_
  · k_steps
    all_goals (refine joined_of ((_, _), (_, _), (_, _), (_, _)) (by assumption) (by walk_at "my_ext") (by assumption) nil_sub ?_)
    all_goals (dsimp only; refine ⟨?_, rfl, rfl, rfl⟩; split <;> omega)
  rintro ⟨⟨sg, ts⟩, ⟨top, tt⟩, ⟨low, tl⟩, ⟨e, te⟩⟩ h tk ⟨hsg, htop, hlow, he⟩ F1 N1
  try dsimp only at hsg htop hlow he
  try dsimp only [nfNear] at F1
  subst hlow
  subst he
  clear F N
  generalize hTe : (if n < 0 then -n else n) = T0 at *
  subst htop
  -- if top == 0: return (0, 1)
  refine execs_join (g := g) (L := L) (nf := nfNear n low tn td) (led := fun _ => []) (P := fun c => c.1.1 = sg ∧ c.2.1.1 = top ∧ c.2.2.1.1 = low ∧ c.2.2.2.1 = 0) ?_ ?_
  · k_steps
    all_goals first
      | (exfalso; omega)
      | (refine joined_of ((_, _), (_, _), (_, _), (_, _)) (by assumption) (by walk_at "my_ext") (by assumption) nil_sub ?_; exact ⟨rfl, rfl, rfl, rfl⟩)
  clear F1 N1
  rintro ⟨⟨sg, ts⟩, ⟨top, tt⟩, ⟨low, tl⟩, ⟨e, te⟩⟩ h tk ⟨hsg1, htop, hlow, he⟩ F1 N1
  try dsimp only at hsg1 htop hlow he
  subst hlow
  subst he
  subst hsg1
  subst htop
  -- while top >= low << 85
  refine execs_join (g := g) (L := L) (nf := nfNear n low tn td) (led := fun _ => []) (P := fun c => c.1.1 = sg ∧ c.2.1.1 = top ∧ 0 < c.2.2.1.1 ∧ Builtin.Int.intBits c.2.2.1.1 ≤ 400 ∧ Inv12 top low c.2.2.1.1 c.2.2.2.1) ?_ ?_
  · refine exec_while (fun c => (top - c.2.2.1.1).toNat) (fun c => c.1.1 = sg ∧ c.2.1.1 = top ∧ 0 < c.2.2.1.1 ∧ Builtin.Int.intBits c.2.2.1.1 ≤ 400 ∧ Inv12 top low c.2.2.1.1 c.2.2.2.1) ((sg, ts), (top, tt), (low, tl), (0, te)) F1 N1 (fun _ => rfl) nil_sub ⟨rfl, rfl, st12_0 hd0 hbd⟩ ?_ PassesOwn.never
    clear F1 N1
    rintro ⟨⟨sg1, ts⟩, ⟨top1, tt⟩, ⟨low1, tl⟩, ⟨e, te⟩⟩ h tk ⟨hsg1, htop, h1, h2, h3⟩ F1 N1
    try dsimp only at hsg1 htop h1 h2 h3
    subst hsg1
    subst htop
    try dsimp only [nfNear] at F1
    k_steps
    all_goals first
      | (refine joined_of ((_, _), (_, _), (_, _), (_, _)) (by assumption) (by walk_at "my_ext") (by assumption) nil_sub ?_; exact ⟨⟨rfl, rfl, st12_1 hbT h1 h3 (by assumption)⟩, ms12_1 h1 (by assumption)⟩)
      | (refine joined_of ((_, _), (_, _), (_, _), (_, _)) (by assumption) (by walk_at "my_ext") (by assumption) nil_sub ?_; exact ⟨rfl, rfl, h1, h2, h3⟩)
  clear F1 N1
  rintro ⟨⟨sg1, ts⟩, ⟨top1, tt⟩, ⟨low2, tl⟩, ⟨e, te⟩⟩ h tk ⟨hsg1, htop, h1, h2, h3⟩ F1 N1
  try dsimp only at hsg1 htop h1 h2 h3
  try dsimp only [nfNear] at F1
  subst hsg1
  subst htop
  -- while top >= low << 53
  refine execs_join (g := g) (L := L) (nf := nfNear n low tn td) (led := fun _ => []) (P := fun c => c.1.1 = sg1 ∧ c.2.1.1 = top1 ∧ 0 < c.2.2.1.1 ∧ Builtin.Int.intBits c.2.2.1.1 ≤ 400 ∧ Inv12 top1 low c.2.2.1.1 c.2.2.2.1 ∧ ¬ c.2.2.1.1 * 2 ^ Int.toNat 53 ≤ top1) ?_ ?_
  · refine exec_while (fun c => (top1 - c.2.2.1.1).toNat) (fun c => c.1.1 = sg1 ∧ c.2.1.1 = top1 ∧ 0 < c.2.2.1.1 ∧ Builtin.Int.intBits c.2.2.1.1 ≤ 400 ∧ Inv12 top1 low c.2.2.1.1 c.2.2.2.1) ((sg1, ts), (top1, tt), (low2, tl), (e, te)) F1 N1 (fun _ => rfl) nil_sub ⟨rfl, rfl, h1, h2, h3⟩ ?_ PassesOwn.never
    clear F1 N1 h1 h2 h3
    rintro ⟨⟨sg2, ts⟩, ⟨top2, tt⟩, ⟨low3, tl⟩, ⟨e, te⟩⟩ h tk ⟨hsg1, htop, h1, h2, h3⟩ F1 N1
    try dsimp only at hsg1 htop h1 h2 h3
    subst hsg1
    subst htop
    try dsimp only [nfNear] at F1
    k_steps
    all_goals first
      | (refine joined_of ((_, _), (_, _), (_, _), (_, _)) (by assumption) (by walk_at "my_ext") (by assumption) nil_sub ?_; exact ⟨⟨rfl, rfl, st12_2 hbT h1 h3 (by assumption)⟩, ms12_2 h1 (by assumption)⟩)
      | (refine joined_of ((_, _), (_, _), (_, _), (_, _)) (by assumption) (by walk_at "my_ext") (by assumption) nil_sub ?_; exact ⟨rfl, rfl, h1, h2, h3, by assumption⟩)
  clear F1 N1 h1 h2 h3 low2
  rintro ⟨⟨sg2, ts⟩, ⟨top2, tt⟩, ⟨low2, tl⟩, ⟨e, te⟩⟩ h tk ⟨hsg1, htop, h1, h2, h3, h4⟩ F1 N1
  try dsimp only at hsg1 htop h1 h2 h3 h4
  try dsimp only [nfNear] at F1
  subst hsg1
  subst htop
  obtain ⟨q1, q2, q3, q4⟩ := st34_0 hT0 hbT (inv12_e h3) h3 h4
  clear h3 h4
  -- while top < low << 20 and e > -1042
  refine execs_join (g := g) (L := L) (nf := nfNear n low tn td) (led := fun _ => []) (P := fun c => c.1.1 = sg2 ∧ c.2.2.1.1 = low2 ∧ 0 < c.2.1.1 ∧ Builtin.Int.intBits c.2.1.1 ≤ 460 ∧ -1074 ≤ c.2.2.2.1 ∧ Inv34 top2 low low2 c.2.1.1 c.2.2.2.1) ?_ ?_
  · refine exec_while (fun c => (c.2.2.2.1 + 1074).toNat) (fun c => c.1.1 = sg2 ∧ c.2.2.1.1 = low2 ∧ 0 < c.2.1.1 ∧ Builtin.Int.intBits c.2.1.1 ≤ 460 ∧ -1074 ≤ c.2.2.2.1 ∧ Inv34 top2 low low2 c.2.1.1 c.2.2.2.1) ((sg2, ts), (top2, tt), (low2, tl), (e, te)) F1 N1 (fun _ => rfl) nil_sub ⟨rfl, rfl, q1, q2, q3, q4⟩ ?_ PassesOwn.never
    clear F1 N1 q1 q2 q3 q4
    rintro ⟨⟨sg3, ts⟩, ⟨top3, tt⟩, ⟨low3, tl⟩, ⟨e, te⟩⟩ h tk ⟨hsg1, hlow, q1, q2, q3, q4⟩ F1 N1
    try dsimp only at hsg1 hlow q1 q2 q3 q4
    subst hsg1
    subst hlow
    try dsimp only [nfNear] at F1
    k_steps
    all_goals first
      | (refine joined_of ((_, _), (_, _), (_, _), (_, _)) (by assumption) (by walk_at "my_ext") (by assumption) nil_sub ?_; exact ⟨⟨rfl, rfl, st34_1 h1 h2 q1 q4 (by assumption) (by omega)⟩, by dsimp only; omega⟩)
      | (refine joined_of ((_, _), (_, _), (_, _), (_, _)) (by assumption) (by walk_at "my_ext") (by assumption) nil_sub ?_; exact ⟨rfl, rfl, q1, q2, q3, q4⟩)
  clear F1 N1 q1 q2 q3 q4
  rintro ⟨⟨sg3, ts⟩, ⟨top3, tt⟩, ⟨low3, tl⟩, ⟨e, te⟩⟩ h tk ⟨hsg1, hlow, q1, q2, q3, q4⟩ F1 N1
  try dsimp only at hsg1 hlow q1 q2 q3 q4
  try dsimp only [nfNear] at F1
  subst hsg1
  subst hlow
  -- while top < low << 52 and e > -1074
  refine execs_join (g := g) (L := L) (nf := nfNear n low tn td) (led := fun _ => []) (P := fun c => c.1.1 = sg3 ∧ c.2.2.1.1 = low3 ∧ 0 < c.2.1.1 ∧ Builtin.Int.intBits c.2.1.1 ≤ 460 ∧ -1074 ≤ c.2.2.2.1 ∧ Inv34 top2 low low3 c.2.1.1 c.2.2.2.1 ∧ ¬ c.2.1.1 < low3 * 2 ^ Int.toNat 52) ?_ ?_
  · refine exec_while (fun c => (c.2.2.2.1 + 1074).toNat) (fun c => c.1.1 = sg3 ∧ c.2.2.1.1 = low3 ∧ 0 < c.2.1.1 ∧ Builtin.Int.intBits c.2.1.1 ≤ 460 ∧ -1074 ≤ c.2.2.2.1 ∧ Inv34 top2 low low3 c.2.1.1 c.2.2.2.1) ((sg3, ts), (top3, tt), (low3, tl), (e, te)) F1 N1 (fun _ => rfl) nil_sub ⟨rfl, rfl, q1, q2, q3, q4⟩ ?_ PassesOwn.never
    clear F1 N1 q1 q2 q3 q4
    rintro ⟨⟨sg4, ts⟩, ⟨top4, tt⟩, ⟨low4, tl⟩, ⟨e, te⟩⟩ h tk ⟨hsg1, hlow, q1, q2, q3, q4⟩ F1 N1
    try dsimp only at hsg1 hlow q1 q2 q3 q4
    subst hsg1
    subst hlow
    try dsimp only [nfNear] at F1
    k_steps
    all_goals first
      | (refine joined_of ((_, _), (_, _), (_, _), (_, _)) (by assumption) (by walk_at "my_ext") (by assumption) nil_sub ?_; exact ⟨⟨rfl, rfl, st34_2 h1 h2 q1 q4 (by assumption) (by omega)⟩, by dsimp only; omega⟩)
      | (refine joined_of ((_, _), (_, _), (_, _), (_, _)) (by assumption) (by walk_at "my_ext") (by assumption) nil_sub ?_; exact ⟨rfl, rfl, q1, q2, q3, q4, by assumption⟩)
      | exact (inv34_end q4 hT0 h2 (by omega)).elim
  clear F1 N1 q1 q2 q3 q4
  rintro ⟨⟨sg4, ts⟩, ⟨top4, tt⟩, ⟨low4, tl⟩, ⟨e, te⟩⟩ h tk ⟨hsg1, hlow, q1, q2, q3, q4, q5⟩ F1 N1
  try dsimp only at hsg1 hlow q1 q2 q3 q4 q5
  try dsimp only [nfNear] at F1
  subst hsg1
  subst hlow
  have hsb := sg_bits hsg
  have hehi := inv34_ehi q4 hd0 h2
  have hW1 : ∀ W, W = rnd top4 low4 → 0 ≤ e → sg4 * W * 2 ^ e.toNat = nrN n low ∧ 1 = nrD n low := fun W hW h0 => near_pos hn0 hd0 hbn hbd (hTe ▸ q4) h2 q5 hsg hW h0 rfl
  have hW2 : ∀ W, W = rnd top4 low4 → ¬ 0 ≤ e → sg4 * W = nrN n low ∧ 1 * 2 ^ (0 - e).toNat = nrD n low := fun W hW h0 => near_neg hn0 hd0 hbn hbd (hTe ▸ q4) h2 q5 hsg hW h0 (by congr 1; omega)
  k_steps
  all_goals (rename News _ _ _ _ => N9)
  all_goals first
    | (refine hret (Flow.ret (.ref _)) _ _ _ _ _ rfl (by assumption) (fun q hq => N9 q (sub1 hq)) (RTup_of (hW1 _ ?_ (by omega)).1 (hW1 _ rfl (by omega)).2); (unfold rnd; split <;> omega))
    | (refine hret (Flow.ret (.ref _)) _ _ _ _ _ rfl (by assumption) (fun q hq => N9 q (sub1 hq)) (RTup_of (hW2 _ ?_ (by omega)).1 (hW2 _ rfl (by omega)).2); (unfold rnd; split <;> omega))
/-- a text by its signs -/
def S (l : List Nat) : Str := ⟨l.toArray⟩
theorem S_cps (l : List Nat) : (S l).cps.toList = l := rfl
theorem S_len (l : List Nat) : (S l).length = l.length := by simp [S, Str.length]
theorem S_app (a b : List Nat) : S a ++ S b = S (a ++ b) := Str.ext' (by rw [Str.cps_append]; simp [S])
theorem S_of (x : Str) : x = S x.cps.toList := Str.ext' (by simp [S])
theorem S_ext {x : Str} {l : List Nat} (h : x.cps.toList = l) : x = S l := by rw [S_of x, h]
/-- the figures of a number -/
def dg (n : Nat) : List Nat := (Nat.toDigits 10 n).map Char.toNat
theorem ofString_nat (n : Nat) : Str.ofString (toString ((n : Nat) : Int)) = S (dg n) := S_ext (KIN.signs_num n)
theorem ofString_nat' {n : Int} (h : 0 ≤ n) : Str.ofString (toString n) = S (dg n.toNat) := by
  have e : n = (n.toNat : Int) := by omega
  rw [e]; exact ofString_nat _
theorem dg_lt {n : Nat} (h : n < 10) : dg n = [48 + n] := by
  have : ∀ m, m < 10 → dg m = [48 + m] := by decide
  exact this n h
theorem dg_ge {n : Nat} (h : 10 ≤ n) : dg n = dg (n / 10) ++ [48 + n % 10] := by
  unfold dg
  have e : Nat.toDigits 10 n = Nat.toDigits 10 (n / 10) ++ [Nat.digitChar (n % 10)] := Nat.toDigits_of_base_le (by decide) h
  rw [e, List.map_append, List.map_cons, List.map_nil]
  have : ∀ m, m < 10 → (Nat.digitChar m).toNat = 48 + m := by decide
  rw [this _ (Nat.mod_lt _ (by decide))]
theorem dg_ne (n : Nat) : dg n ≠ [] := by
  by_cases h : n < 10
  · rw [dg_lt h]; simp
  · rw [dg_ge (by omega)]; simp
/-- a figure is one of 48 .. 57 -/
abbrev Figs (l : List Nat) : Prop := NumText.AllDigits l
theorem figs_append {a b : List Nat} (ha : Figs a) (hb : Figs b) : Figs (a ++ b) := fun c hc => (List.mem_append.mp hc).elim (ha c) (hb c)
theorem figs_one {c : Nat} (h : 48 ≤ c) (h' : c ≤ 57) : Figs [c] := fun d hd => by rw [List.mem_singleton.mp hd]; exact ⟨h, h'⟩
theorem figs_dg (n : Nat) : Figs (dg n) := by
  induction n using Nat.strongRecOn with
  | ind n ih =>
    by_cases h : n < 10
    · rw [dg_lt h]; exact figs_one (by omega) (by omega)
    · rw [dg_ge (by omega)]; exact figs_append (ih _ (by omega)) (figs_one (by omega) (by omega))
theorem dg_length {n k : Nat} (hk : 1 ≤ k) (h : n < 10 ^ k) : (dg n).length ≤ k := by
  induction k generalizing n with
  | zero => omega
  | succ k ih =>
    by_cases h1 : n < 10
    · rw [dg_lt h1]; simp
    · rw [dg_ge (by omega), List.length_append, List.length_singleton]
      have : k ≠ 0 := by rintro rfl; omega
      have := ih (n := n / 10) (by omega) (by rw [Nat.pow_succ] at h; omega)
      omega
theorem dg_length_pos (n : Nat) : 1 ≤ (dg n).length := by
  have := dg_ne n
  cases h : dg n with
  | nil => exact absurd h this
  | cons c r => simp
theorem dg_lower {n k : Nat} (h : (dg n).length ≤ k) : n < 10 ^ k := by
  induction k generalizing n with
  | zero => have := dg_length_pos n; omega
  | succ k ih =>
    by_cases h1 : n < 10
    · exact Nat.lt_of_lt_of_le h1 (by rw [Nat.pow_succ]; have : 0 < 10 ^ k := Nat.pow_pos (by decide); omega)
    · rw [dg_ge (by omega), List.length_append, List.length_singleton] at h
      have := ih (n := n / 10) (by omega)
      rw [Nat.pow_succ]
      omega
theorem val_dg (n : Nat) : NumText.digitsVal (dg n) = n := KIN.val_back n
/-- noughts ahead -/
def zs (k : Nat) : List Nat := List.replicate k 48
theorem figs_zs (k : Nat) : Figs (zs k) := fun c hc => by rw [List.eq_of_mem_replicate hc]; decide
theorem zs_snoc (k : Nat) : zs k ++ [48] = zs (k + 1) := by
  unfold zs
  rw [List.replicate_succ']
/-- the figures of n, at least k + 1 of them -/
def figs (k n : Nat) : List Nat := zs (k + 1 - (dg n).length) ++ dg n
/-- k figures of n from behind -/
def pd : Nat → Nat → List Nat
  | 0, _ => []
  | k + 1, n => pd k (n / 10) ++ [48 + n % 10]
theorem pd_length (k n : Nat) : (pd k n).length = k := by
  induction k generalizing n with
  | zero => rfl
  | succ k ih => rw [pd, List.length_append, ih]; rfl
theorem figs_pd (k n : Nat) : Figs (pd k n) := by
  induction k generalizing n with
  | zero => exact fun _ h => nomatch h
  | succ k ih => exact figs_append (ih _) (figs_one (by omega) (by omega))
theorem figs_step (k n : Nat) : figs (k + 1) n = figs k (n / 10) ++ [48 + n % 10] := by
  unfold figs
  by_cases h : n < 10
  · have e : n / 10 = 0 := by omega
    have e2 : n % 10 = n := by omega
    rw [dg_lt h, e, dg_lt (by decide), e2]
    simp only [List.length_singleton, Nat.add_sub_cancel, Nat.add_zero]
    rw [zs_snoc]
  · rw [dg_ge (by omega), List.length_append, List.length_singleton, ← List.append_assoc]
    have : k + 1 + 1 - ((dg (n / 10)).length + 1) = k + 1 - (dg (n / 10)).length := by omega
    rw [this]
theorem figs_eq (k n : Nat) : figs k n = dg (n / 10 ^ k) ++ pd k n := by
  induction k generalizing n with
  | zero =>
    unfold figs
    have := dg_length_pos n
    have e : 0 + 1 - (dg n).length = 0 := by omega
    rw [e]
    simp [zs, pd]
  | succ k ih =>
    rw [figs_step, ih, pd, Nat.pow_succ, Nat.mul_comm, ← Nat.div_div_eq_div_mul, List.append_assoc]
theorem zfill_eq {k m : Nat} (hk : 1 ≤ k) (h : m < 10 ^ k) : zs (k - (dg m).length) ++ dg m = pd k m := by
  induction k generalizing m with
  | zero => omega
  | succ k ih =>
    by_cases h1 : m < 10
    · have e : m / 10 = 0 := by omega
      have e2 : m % 10 = m := by omega
      rw [dg_lt h1, pd, e, e2]
      simp only [List.length_singleton, Nat.add_sub_cancel]
      by_cases hk0 : k = 0
      · subst hk0; rfl
      · have := ih (m := 0) (by omega) (Nat.pow_pos (by decide))
        rw [dg_lt (by decide)] at this
        rw [← this, List.length_singleton, zs_snoc]
        have e3 : k - 1 + 1 = k := by omega
        rw [e3]
    · have hk0 : k ≠ 0 := by rintro rfl; omega
      have := ih (m := m / 10) (by omega) (by rw [Nat.pow_succ] at h; omega)
      rw [dg_ge (by omega), List.length_append, List.length_singleton, ← List.append_assoc, pd, ← this]
      have : k + 1 - ((dg (m / 10)).length + 1) = k - (dg (m / 10)).length := by omega
      rw [this]
theorem pd_mod (k n : Nat) : pd k (n % 10 ^ k) = pd k n := by
  induction k generalizing n with
  | zero => rfl
  | succ k ih =>
    rw [pd, pd]
    have e1 : n % 10 ^ (k + 1) % 10 = n % 10 := Nat.mod_mod_of_dvd _ ⟨10 ^ k, by rw [Nat.pow_succ, Nat.mul_comm]⟩
    have e2 : n % 10 ^ (k + 1) / 10 = (n / 10) % 10 ^ k := by
      rw [Nat.pow_succ, Nat.mul_comm, Nat.mod_mul, Nat.add_mul_div_left _ _ (by decide)]
      rw [Nat.div_eq_of_lt (Nat.mod_lt _ (by decide)), Nat.zero_add]
    rw [e1, e2, ih]
/-- a comma ahead of each three from behind -/
def grp : List Nat → List Nat
  | [] => []
  | c :: r => c :: (if r.length % 3 = 0 ∧ r ≠ [] then 44 :: grp r else grp r)
theorem grp_short {l : List Nat} (h : l.length ≤ 3) : grp l = l := by
  match l, h with
  | [], _ => rfl
  | [a], _ => rfl
  | [a, b], _ => rfl
  | [a, b, c], _ => rfl
theorem grp_append {a b : List Nat} (ha : a ≠ []) (hb : b.length = 3) : grp (a ++ b) = grp a ++ 44 :: b := by
  induction a with
  | nil => exact absurd rfl ha
  | cons c r ih =>
    by_cases hr : r = []
    · subst hr
      have hb' : b ≠ [] := by rintro rfl; cases hb
      show c :: (if b.length % 3 = 0 ∧ b ≠ [] then 44 :: grp b else grp b) = [c] ++ 44 :: b
      rw [if_pos ⟨by rw [hb], hb'⟩, grp_short (by omega)]
      rfl
    · rw [List.cons_append, grp, grp, ih hr, List.length_append, hb]
      have e : (r.length + 3) % 3 = r.length % 3 := by omega
      have hne : r ++ b ≠ [] := by simp [hr]
      rw [e]
      by_cases h3 : r.length % 3 = 0
      · rw [if_pos ⟨h3, hne⟩, if_pos ⟨h3, hr⟩]; simp
      · rw [if_neg (fun h => h3 h.1), if_neg (fun h => h3 h.1)]; simp
theorem grp_filter {l : List Nat} (h : Figs l) : (grp l).filter (· != 44) = l := by
  induction l with
  | nil => rfl
  | cons c r ih =>
    have hc := h c List.mem_cons_self
    have ih' := ih fun d hd => h d (List.mem_cons_of_mem _ hd)
    have hc' : (c != 44) = true := by simp; omega
    rw [grp]
    split
    · simp only [List.filter_cons, hc', if_true, ih']
      rfl
    · simp only [List.filter_cons, hc', if_true, ih']
theorem grp_mem {l : List Nat} {c : Nat} (h : c ∈ grp l) : c = 44 ∨ c ∈ l := by
  induction l with
  | nil => cases h
  | cons d r ih =>
    rw [grp] at h
    rcases List.mem_cons.mp h with rfl | h
    · exact .inr List.mem_cons_self
    · split at h
      · rcases List.mem_cons.mp h with rfl | h
        · exact .inl rfl
        · exact (ih h).imp id (List.mem_cons_of_mem _)
      · exact (ih h).imp id (List.mem_cons_of_mem _)
theorem grp_length (l : List Nat) : (grp l).length ≤ 2 * l.length := by
  induction l with
  | nil => exact Nat.le_refl _
  | cons c r ih =>
    rw [grp]
    split <;> simp only [List.length_cons] <;> omega
/-- what is told after i turns -/
def gtk (l : List Nat) : Nat → List Nat
  | 0 => []
  | i + 1 => gtk l i ++ (if 0 < i ∧ (l.length - i) % 3 = 0 then [44] else []) ++ (match l[i]? with | some c => [c] | none => [])
theorem gtk_cons (c : Nat) (r : List Nat) : ∀ i, i ≤ r.length → gtk (c :: r) (i + 1) = c :: (if 0 < i ∧ r.length % 3 = 0 then 44 :: gtk r i else gtk r i) := by
  intro i
  induction i with
  | zero => intro _; simp [gtk]
  | succ i ih =>
    intro hi
    have h1 : i < r.length := by omega
    rw [gtk, ih (by omega)]
    have hg : (c :: r)[i + 1]? = some r[i] := by simp [h1]
    have hg2 : r[i]? = some r[i] := by simp [h1]
    have hl : (c :: r).length - (i + 1) = r.length - i := by simp
    rw [hg, hl]
    show _ = c :: (if 0 < i + 1 ∧ r.length % 3 = 0 then 44 :: gtk r (i + 1) else gtk r (i + 1))
    rw [gtk, hg2]
    by_cases h0 : 0 < i
    · have e0 : 0 < i + 1 := by omega
      simp only [h0, e0, true_and]
      by_cases h3 : r.length % 3 = 0
      · rw [if_pos h3, if_pos h3]; simp
      · rw [if_neg h3, if_neg h3]; simp
    · have hi0 : i = 0 := by omega
      subst hi0
      simp only [gtk]
      by_cases h3 : r.length % 3 = 0
      · simp [h3]
      · simp [h3]
theorem gtk_all (l : List Nat) : gtk l l.length = grp l := by
  induction l with
  | nil => rfl
  | cons c r ih =>
    rw [List.length_cons, gtk_cons c r r.length (Nat.le_refl _), ih, grp]
    by_cases hr : r = []
    · subst hr; rfl
    · have : 0 < r.length := List.length_pos_iff.mpr hr
      simp [this, hr]
theorem gtk_length (l : List Nat) : ∀ i, (gtk l i).length ≤ 2 * i := by
  intro i
  induction i with
  | zero => exact Nat.le_refl _
  | succ i ih =>
    rw [gtk, List.length_append, List.length_append]
    have h1 : (if 0 < i ∧ (l.length - i) % 3 = 0 then [44] else [] : List Nat).length ≤ 1 := by split <;> simp
    have h2 : (match l[i]? with | some c => [c] | none => [] : List Nat).length ≤ 1 := by split <;> simp
    omega
theorem lit_empty : Str.ofString "" = S [] := by decide +kernel
theorem lit_minus : Str.ofString "-" = S [45] := by decide +kernel
theorem lit_dot : Str.ofString "." = S [46] := by decide +kernel
theorem lit_comma : Str.ofString "," = S [44] := by decide +kernel
theorem lit_nought : Str.ofString "0" = S [48] := by decide +kernel
theorem gtk_zero (l : List Nat) : gtk l 0 = [] := by rw [gtk]
theorem lit_gtk0 (l : List Nat) : Str.ofString "" = S (gtk l 0) := by rw [gtk_zero]; exact lit_empty
section
variable {prog : Program} {w : World} {A : Around} {E : Value → Shared → Prop} {s : Shared} {x y : Str} {a b : List Nat} {t u : Tok} {Q : Value → Shared → Prop} {h₀ : Heap} {L : Addr} {m : Str → Option Value} {news : Led}
theorem S_fit {a : List Nat} (h : a.length ≤ 10000) : (S a).length ≤ sizeLine := by rw [S_len, sizeLine_eq]; omega
theorem s_add (hx : x = S a) (hy : y = S b) (hl : a.length + b.length ≤ 10000) (h : ∀ t' k, Q (.str (S (a ++ b)) t') { s with toks := k }) : wpAny (model prog w) A (binaryOp .Add (.str x t) (.str y u)) Q E s := by
  subst hx; subst hy
  refine SBL.add (fun t' k _ => ?_) (by rw [S_len, S_len, sizeLine_eq]; omega)
  rw [S_app]; exact h t' k
theorem s_len (hx : x = S a) (hl : a.length ≤ 10000) (h : Q (.int (a.length : Int) (s.toks + 1)) { s with toks := s.toks + 1 + 1 }) : wpAny (model prog w) A (call (.builtin "len") [.str x t]) Q E s := by
  subst hx
  refine SBL.len (by rw [S_len]; omega) ?_
  rw [S_len]; exact h
theorem item_S {l : List Nat} {i : Nat} (h : i < l.length) : Txt.item (S l) (i : Int) = S [l[i]] := by
  have hl : (i : Int) < (S l).length := by rw [S_len]; omega
  have hc : Txt.charAt (S l) (i : Int) = some l[i] := by
    unfold Txt.charAt seqIndex?
    have h1 : ¬ ((i : Int) < 0) := by omega
    have hsz : (S l).cps.size = l.length := by simp [S]
    have hl2 : i < (S l).length := by rw [S_len]; exact h
    have hl3 : i < (⟨l.toArray⟩ : Str).length := hl2
    simp [h1, S, h, hl3]
  unfold Txt.item
  rw [hc]; rfl
theorem s_item {value slice : Expr} {i : Nat} (hx : x = S a) (hi : i < a.length) (hl : a.length ≤ 10000) (h : Q (.str (S [a[i]]) s.toks) { s with toks := s.toks + 1 })
    (hs : subscripted slice false (.str x t) (.int (i : Int) u) = operate [.str x t, .int (i : Int) u] (getItem (.str x t) (.int (i : Int) u)) := by with_unfolding_all rfl)
    (ht : ∀ r, letTemporaryGo value (.str x t) r = pure () := by intro _; with_unfolding_all rfl) : wpAny (model prog w) A (subscriptTail value slice (.str x t) (.int (i : Int) u)) Q E s := by
  subst hx
  refine item_str (fitsSsize_of (N := 9223372036854775808) (by omega) (by omega) (Int.le_refl _)) (by rw [S_len]; omega) (by rw [S_len]; omega) (fun _ => ?_) hs ht
  rw [item_S hi]; exact h
end
local macro_rules | `(tactic| walk_at "my_S") => `(tactic| first | with_reducible exact lit_empty | with_reducible exact lit_minus | with_reducible exact lit_dot | with_reducible exact lit_comma | with_reducible exact lit_nought | with_reducible rfl | with_reducible assumption)
local macro_rules | `(tactic| walk_at "my_len") => `(tactic| ((try simp only [List.length_append, List.length_cons, List.length_nil]); omega))
local macro_rules | `(tactic| walk_at "binaryOp Add str str") => `(tactic| (k_here; refine s_add (by walk_at "my_S") (by walk_at "my_S") (by walk_at "my_len") ?_; intro _ _))
local macro_rules | `(tactic| walk_at "call builtin:len") => `(tactic| (k_here; (with_reducible show wpAny _ _ (call (Value.builtin "len") [Value.str _ _]) _ _ _); refine s_len (by walk_at "my_S") (by walk_at "my_len") ?_))
local macro_rules | `(tactic| walk_at "subscriptTail Name Name str int") => `(tactic| (k_here; refine s_item (by walk_at "my_S") (by assumption) (by walk_at "my_len") ?_))
theorem slice_S {L : List Nat} {a b : Option Int} {A B : Nat} (hab : A ≤ B) (hB : B ≤ L.length) (ea : Builtin.Str.strSliceIndices a b 1 L.length = Builtin.Str.strSliceIndices (some (A : Int)) (some (B : Int)) 1 L.length) :
    Txt.slice (S L) a b = S ((L.drop A).take (B - A)) := by
  have hlen : (S L).length = L.length := S_len L
  have hp := StrLaws.sliced_plain (S L) hab (by rw [hlen]; exact hB)
  rw [hlen, ← ea, S_cps] at hp
  unfold Txt.slice
  rw [hlen]
  split
  · rename_i h
    -- the whole text
    have h2 : (Builtin.Str.strSliceIndices a b 1 L.length).length = L.length := by simpa using h
    rw [ea, StrLaws.strSliceIndices_plain hab hB] at h2
    have h3 : B - A = L.length := by simpa using h2
    have h4 : A = 0 := by omega
    have h5 : B = L.length := by omega
    rw [h4, h5]; simp
  · exact S_ext (by simpa using hp)
theorem slice_take {L : List Nat} {k : Int} (h0 : 0 ≤ k) (h1 : k ≤ L.length) : Txt.slice (S L) none (some k) = S (L.take k.toNat) := by
  rw [slice_S (A := 0) (B := k.toNat) (by omega) (by omega) ?_]
  · simp
  · unfold Builtin.Str.strSliceIndices
    dsimp only
    congr 1 <;> omega
theorem slice_drop {L : List Nat} {k : Int} (h0 : 0 ≤ k) (h1 : k ≤ L.length) : Txt.slice (S L) (some k) none = S (L.drop k.toNat) := by
  rw [slice_S (A := k.toNat) (B := L.length) (by omega) (by omega) ?_]
  · rw [List.take_of_length_le (by simp)]
  · unfold Builtin.Str.strSliceIndices
    dsimp only
    congr 1 <;> omega
theorem slice_last3 {L : List Nat} (h1 : 3 ≤ L.length) : Txt.slice (S L) (some (-3)) none = S (L.drop (L.length - 3)) := by
  rw [slice_S (A := L.length - 3) (B := L.length) (by omega) (by omega) ?_]
  · rw [List.take_of_length_le (by simp)]
  · unfold Builtin.Str.strSliceIndices
    dsimp only
    congr 1 <;> omega
theorem slice_but3 {L : List Nat} (h1 : 3 ≤ L.length) : Txt.slice (S L) none (some (-3)) = S (L.take (L.length - 3)) := by
  rw [slice_S (A := 0) (B := L.length - 3) (by omega) (by omega) ?_]
  · simp
  · unfold Builtin.Str.strSliceIndices
    dsimp only
    congr 1 <;> omega
theorem mul_zs (n : Int) : Txt.mul (S [48]) n = S (zs n.toNat) := S_ext (mul_one_list 48 n)
theorem log2_bits {a : Int} {m : Nat} (hb : Builtin.Int.intBits a ≤ m) (hm : m ≤ 1900) : a.natAbs.log2 < 1920 := by
  have h := intBits_le_iff.mp hb
  by_cases h0 : a.natAbs = 0
  · rw [h0]; decide
  · have := (Nat.log2_lt h0).mpr h
    omega
section
variable {prog : Program} {w : World} {A : Around} {E : Value → Shared → Prop} {s : Shared} {x y : Str} {a b : List Nat} {t u : Tok} {Q : Value → Shared → Prop} {h₀ : Heap} {L : Addr} {m : Str → Option Value} {news : Led}
theorem s_fmt {n : Int} {k : Nat} (h0 : 0 ≤ n) (hb : Builtin.Int.intBits n ≤ k) (hk : k ≤ 1900) (h : Q (.str (S (dg n.toNat)) (s.toks + 1)) { s with toks := s.toks + 1 + 1 }) : wpAny (model prog w) A (formatField (.int n t) Str.empty) Q E s := by
  refine wpAny_formatField_int (log2_bits hb hk) ?_
  rw [ofString_nat' h0]; exact h
theorem s_strInt {n : Int} {k : Nat} (h0 : 0 ≤ n) (hb : Builtin.Int.intBits n ≤ k) (hk : k ≤ 1900) (h : Q (.str (S (dg n.toNat)) s.toks) { s with toks := s.toks + 1 }) : wpAny (model prog w) A (call (.type "str") [.int n t]) Q E s := by
  refine P.str_of_int (log2_bits hb hk) ?_
  rw [ofString_nat' h0]; exact h
theorem s_mul0 {n : Int} (hx : x = S [48]) (h0 : -1000 ≤ n) (h1 : n ≤ 1000) (h : ∀ t' k, Q (.str (S (zs n.toNat)) t') { s with toks := k }) : wpAny (model prog w) A (binaryOp .Mult (.str x t) (.int n u)) Q E s := by
  subst hx
  refine SB.mul (mulOk_of 16 1048576 (by rw [S_len]; decide) (by omega) (by omega) (by decide) (by decide)) fun t' k => ?_
  rw [mul_zs]; exact h t' k
theorem s_take {value slice : Expr} {k : Int} {uj : Tok} (hx : x = S a) (h0 : 0 ≤ k) (h1 : k ≤ a.length) (hl : a.length ≤ 10000) (hF : Fr h₀ L s.heap m) (hN : News h₀ L s.heap news) (h : ∀ h' t' tk, Fr h₀ L h' m → News h₀ L h' news → Q (.str (S (a.take k.toNat)) t') { s with heap := h', toks := tk })
    (hs : subscripted slice false (.str x t) (.ref s.heap.objs.size) = operate [.ref s.heap.objs.size, .str x t] (getItem (.str x t) (.ref s.heap.objs.size)) := by with_unfolding_all rfl)
    (ht : ∀ r, letTemporaryGo value (.str x t) r = pure () := by intro _; with_unfolding_all rfl) :
    wpAny (model prog w) A (subscriptTail value slice (.str x t) (.ref s.heap.objs.size)) Q E { s with heap := s.heap.push { cls := .type "slice", data := .fields #[.none, .int k uj, .none] } } := by
  subst hx
  refine slice_strN_ns hF hN (fun h' t' tk F N => ?_) hs ht (S_fit hl)
  rw [slice_take h0 h1]; exact h h' t' tk F N
theorem s_drop {value slice : Expr} {k : Int} {uj : Tok} (hx : x = S a) (h0 : 0 ≤ k) (h1 : k ≤ a.length) (hl : a.length ≤ 10000) (hF : Fr h₀ L s.heap m) (hN : News h₀ L s.heap news) (h : ∀ h' t' tk, Fr h₀ L h' m → News h₀ L h' news → Q (.str (S (a.drop k.toNat)) t') { s with heap := h', toks := tk })
    (hs : subscripted slice false (.str x t) (.ref s.heap.objs.size) = operate [.ref s.heap.objs.size, .str x t] (getItem (.str x t) (.ref s.heap.objs.size)) := by with_unfolding_all rfl)
    (ht : ∀ r, letTemporaryGo value (.str x t) r = pure () := by intro _; with_unfolding_all rfl) :
    wpAny (model prog w) A (subscriptTail value slice (.str x t) (.ref s.heap.objs.size)) Q E { s with heap := s.heap.push { cls := .type "slice", data := .fields #[.int k uj, .none, .none] } } := by
  subst hx
  refine slice_strN_sn hF hN (fun h' t' tk F N => ?_) hs ht (S_fit hl)
  rw [slice_drop h0 h1]; exact h h' t' tk F N
end
theorem dg_len_int {n : Int} {k : Nat} (hk : 1 ≤ k) (h0 : 0 ≤ n) (h : n < 10 ^ k) : (dg n.toNat).length ≤ k := by
  refine dg_length hk ?_
  have e : ((10 ^ k : Nat) : Int) = (10 : Int) ^ k := Int.natCast_pow 10 k
  have : ((n.toNat : Nat) : Int) < ((10 ^ k : Nat) : Int) := by rw [e]; omega
  exact Int.ofNat_lt.mp this
theorem zs_length (k : Nat) : (zs k).length = k := by simp [zs]
local macro_rules | `(tactic| walk_at "my_len") => `(tactic| first | omega | (simp only [List.length_cons, List.length_nil]; omega) | ((try simp only [List.length_append, List.length_cons, List.length_nil]); omega) | ((try simp only [List.length_append, List.length_cons, List.length_nil, List.length_take, List.length_drop, zs_length, pd_length]); omega))
local macro_rules | `(tactic| walk_at "binaryOp Mult str int") => `(tactic| (k_here; refine s_mul0 (by walk_at "my_S") (by walk_at "my_len") (by walk_at "my_len") ?_; intro _ _))
local macro_rules | `(tactic| walk_at "subscriptTail Name Slice str ref") => `(tactic| (k_here; (with_reducible show wpAny _ _ (subscriptTail _ (Expr.Slice none (some _) none _) _ _) _ _ _); (with_reducible rename Fr _ _ _ _ => F'); (with_reducible rename News _ _ _ _ => N'); (refine s_take (s := ⟨_, _, _, _, _⟩) (by walk_at "my_S") (by walk_at "my_len") (by walk_at "my_len") (by walk_at "my_len") F' N' ?_); intro _ _ _ _ _))
local macro_rules | `(tactic| walk_at "subscriptTail Name Slice str ref") => `(tactic| (k_here; (with_reducible show wpAny _ _ (subscriptTail _ (Expr.Slice (some _) none none _) _ _) _ _ _); (with_reducible rename Fr _ _ _ _ => F'); (with_reducible rename News _ _ _ _ => N'); (refine s_drop (s := ⟨_, _, _, _, _⟩) (by walk_at "my_S") (by walk_at "my_len") (by walk_at "my_len") (by walk_at "my_len") F' N' ?_); intro _ _ _ _ _))
theorem figs_int (k R : Nat) : zs ((k : Int) + 1 - ((dg R).length : Int)).toNat ++ dg R = dg (R / 10 ^ k) ++ pd k R := by
  rw [← figs_eq]
  unfold figs
  have : ((k : Int) + 1 - ((dg R).length : Int)).toNat = k + 1 - (dg R).length := by omega
  rw [this]
theorem figs_take (k R : Nat) : (zs ((k : Int) + 1 - ((dg R).length : Int)).toNat ++ dg R).take (((zs ((k : Int) + 1 - ((dg R).length : Int)).toNat ++ dg R).length : Int) - (k : Int)).toNat = dg (R / 10 ^ k) := by
  rw [figs_int, List.length_append, pd_length]
  have : (((dg (R / 10 ^ k)).length + k : Nat) : Int) - (k : Int) = ((dg (R / 10 ^ k)).length : Int) := by omega
  rw [this, Int.toNat_natCast, List.take_left']
  rfl
theorem figs_drop (k R : Nat) : (zs ((k : Int) + 1 - ((dg R).length : Int)).toNat ++ dg R).drop (((zs ((k : Int) + 1 - ((dg R).length : Int)).toNat ++ dg R).length : Int) - (k : Int)).toNat = pd k R := by
  rw [figs_int, List.length_append, pd_length]
  have : (((dg (R / 10 ^ k)).length + k : Nat) : Int) - (k : Int) = ((dg (R / 10 ^ k)).length : Int) := by omega
  rw [this, Int.toNat_natCast, List.drop_left']
  rfl
theorem lit_pct : Str.ofString "%" = S [37] := by decide +kernel
theorem lit_di : Str.ofString "di" = S [100, 105] := by decide +kernel
theorem lit_digs : Str.ofString "0123456789" = S [48, 49, 50, 51, 52, 53, 54, 55, 56, 57] := by decide +kernel
theorem lit_digd : Str.ofString "0123456789." = S [48, 49, 50, 51, 52, 53, 54, 55, 56, 57, 46] := by decide +kernel
theorem lit_e : Str.ofString "e" = S [101] := by decide +kernel
theorem lit_inf : Str.ofString "inf" = S [105, 110, 102] := by decide +kernel
theorem lit_infinity : Str.ofString "infinity" = S [105, 110, 102, 105, 110, 105, 116, 121] := by decide +kernel
theorem lit_nan : Str.ofString "nan" = S [110, 97, 110] := by decide +kernel
theorem lit_plus : Str.ofString "+" = S [43] := by decide +kernel
theorem lit_f : Str.ofString "f" = S [102] := by decide +kernel
theorem lit_pctd : Str.ofString "%." = S [37, 46] := by decide +kernel
local macro_rules | `(tactic| walk_at "my_S") => `(tactic| first | with_reducible exact lit_empty | with_reducible exact lit_minus | with_reducible exact lit_dot | with_reducible exact lit_comma | with_reducible exact lit_nought | with_reducible exact lit_pct | with_reducible exact lit_di | with_reducible exact lit_digs | with_reducible exact lit_digd | with_reducible exact lit_e | with_reducible exact lit_inf | with_reducible exact lit_infinity | with_reducible exact lit_nan | with_reducible exact lit_plus | with_reducible exact lit_f | with_reducible exact lit_pctd | with_reducible rfl | with_reducible assumption)
section
variable {prog : Program} {w : World} {A : Around} {E : Value → Shared → Prop} {s : Shared} {x y : Str} {a b : List Nat} {t u v : Tok} {Q : Value → Shared → Prop} {h₀ : Heap} {L : Addr} {m : Str → Option Value} {news : Led}
theorem s_split2 {p q : Str} (hx : x = S a) (hy : y = S b) (hl : a.length ≤ 10000) (hb : (b.length == 0) = false) (e : Txt.splitMax (S a) (S b) 1 = [p, q]) (hF : Fr h₀ L s.heap m) (hN : News h₀ L s.heap news)
    (h : ∀ D t1 t2 h' tk, Fr h₀ L h' m → News h₀ L h' ((D, ({ cls := .type "list", data := .seq #[.str p t1, .str q t2] } : Obj)) :: news) → Q (.ref D) { s with heap := h', toks := tk }) :
    wpAny (model prog w) A (call (.builtin "str.split") [.str x t, .str y u, .int 1 v]) Q E s := by
  subst hx; subst hy
  refine splitN2A hF hN (by rw [S_len]; exact hb) (by decide) (fun l h' tk el _ _ _ F N => ?_) (by rw [S_len, sizeLine_eq]; omega)
  rw [e] at el
  match l, el, F, N with
  | [(p', t1), (q', t2)], el, F, N =>
    simp only [List.map_cons, List.map_nil, List.cons.injEq, and_true] at el
    obtain ⟨rfl, rfl⟩ := el
    exact h _ t1 t2 h' tk F N
theorem s_lstripc {p : Str} (hx : x = S a) (hy : y = S b) (hl : a.length ≤ 10000) (e : Txt.lstripChars (S a) (S b) = p) (h : ∀ t' k, Q (.str p t') { s with toks := k }) : wpAny (model prog w) A (call (.builtin "str.lstrip") [.str x t, .str y u]) Q E s := by
  subst hx; subst hy
  refine SCL.lstripChars (fun t' k _ => ?_) (S_fit hl)
  rw [e]; exact h t' k
theorem s_in1 {c : Nat} {r : Bool} (hx : x = S a) (hy : y = S [c]) (hr : decide (c ∈ a) = r) (h : Q (.bool r) s) : wpAny (model prog w) A (compareOp .In (.str y u) (.str x t)) Q E s := by
  subst hx; subst hy
  refine in_str ?_
  have e := StrLaws.found_one (S a) c
  rw [S_cps, hr] at e
  rw [show (S [c]) = ⟨#[c]⟩ from rfl, e]; exact h
theorem s_eq {r : Bool} (hx : x = S a) (hy : y = S b) (hr : (a == b) = r) (h : Q (.bool r) s) : wpAny (model prog w) A (compareOp .Eq (.str x t) (.str y u)) Q E s := by
  subst hx; subst hy
  refine PySem.P.eq_str ?_
  rw [S_cps, S_cps, hr]; exact h
theorem s_ne {r : Bool} (hx : x = S a) (hy : y = S b) (hr : (a == b) = r) (h : Q (.bool (!r)) s) : wpAny (model prog w) A (compareOp .NotEq (.str x t) (.str y u)) Q E s := by
  subst hx; subst hy
  refine PySem.P.ne_str ?_
  rw [S_cps, S_cps]
  have : (a != b) = !r := by rw [← hr]; rfl
  rw [this]; exact h
theorem s_part {p q r : Str} (hx : x = S a) (hy : y = S b) (hl : a.length ≤ 10000) (hb : (b.length == 0) = false) (e : Txt.partition (S a) (S b) = (p, q, r)) (hF : Fr h₀ L s.heap m) (hN : News h₀ L s.heap news)
    (h : ∀ D ta tb tc h' k, Fr h₀ L h' m → News h₀ L h' ((D, ({ cls := .type "tuple", data := .seq #[.str p ta, .str q tb, .str r tc] } : Obj)) :: news) → Q (.ref D) { s with heap := h', toks := k }) :
    wpAny (model prog w) A (call (.builtin "str.partition") [.str x t, .str y u]) Q E s := by
  subst hx; subst hy
  refine KXpa.partition hF hN (by rw [S_len]; exact hb) (by rw [e]) (by rw [e]) (by rw [e]) (S_fit hl) fun D ta tb tc h' k F N _ => h D ta tb tc h' k F N
theorem s_int {n : Int} (hx : x = S a) (hl : a.length ≤ 640) (e : PySem.intText? (S a) = some n) (h : ∀ t' k, Q (.int n t') { s with toks := k }) : wpAny (model prog w) A (call (.type "int") [.str x t]) Q E s := by
  subst hx
  exact KIN.call_text e (by rw [S_len]; exact hl) (h _ _)
theorem s_pow {n : Int} {k : Nat} (hk : k ≤ 1000) (ha : n.natAbs < 2 ^ 64) (h : ∀ t' k', Q (.int (n ^ k) t') { s with toks := k' }) : wpAny (model prog w) A (binaryOp .Pow (.int n t) (.int (k : Int) u)) Q E s := by
  refine pow_int_small (by omega) (by omega) ha ?_
  rw [Int.toNat_natCast]; exact h _ _
theorem zfill_S {a : List Nat} (ha : Figs a) (hne : a ≠ []) (k : Nat) : Txt.zfill (S a) (k : Int) = S (zs (k - a.length) ++ a) := by
  unfold Txt.zfill
  rw [S_len]
  split
  · rename_i h
    have : k - a.length = 0 := by omega
    rw [this]; rfl
  · rename_i h
    unfold zfilled
    match a, hne, ha with
    | c :: r, _, ha =>
      have hc := ha c List.mem_cons_self
      have e0 : (S (c :: r)).cps[0]? = some c := by simp [S]
      rw [e0]
      have e1 : (k : Int).toNat - (c :: r).length = k - (c :: r).length := by omega
      split
      · rename_i h43; cases h43; omega
      · rename_i h45; cases h45; omega
      · rw [e1]
        refine S_ext ?_
        unfold Builtin.Str.padded
        simp [S, zs]
theorem s_zfill {k : Nat} (hx : x = S a) (ha : Figs a) (hne : a ≠ []) (hk : k ≤ 1000) (h : ∀ t' tk, Q (.str (S (zs (k - a.length) ++ a)) t') { s with toks := tk }) : wpAny (model prog w) A (call (.builtin "str.zfill") [.str x t, .int (k : Int) u]) Q E s := by
  subst hx
  refine SC.zfill (padOk_of (by omega) (by omega)) fun t' tk => ?_
  rw [zfill_S ha hne]; exact h t' tk
end
abbrev nfG (l : List Nat) (tl : Tok) (x : Str) (t : Tok) : Str → Option Value := fun y =>
  if y = Str.ofString "told" then some (.str x t) else List.lookup y [(Str.ofString "figures", Value.str (S l) tl)].reverse
local macro_rules | `(tactic| walk_at "my_ext") => `(tactic| (intro y'; (by_cases h1 : y' = Str.ofString "told"; (simp only [nfG, if_pos h1]; rfl)); simp only [nfG, if_neg h1]))
local macro_rules | `(tactic| walk_at "my_extx") => `(tactic| (intro y' hx; (by_cases h1 : y' = Str.ofString "told"; (simp only [nfG, if_pos h1, if_neg hx]; rfl)); simp only [nfG, if_neg h1, if_neg hx]))
local macro_rules | `(tactic| walk_at "pyIter ref") => `(tactic| k_extra "my for")
local macro_rules | `(tactic| walk_at "execs nil") => `(tactic| (refine wpAny_execs_nil ?_; k_extra "my turn"))
theorem grp_turn {l : List Nat} {i : Nat} (hi : i < l.length) (c : List Nat) (hc : c = if 0 < i ∧ (l.length - i) % 3 = 0 then [44] else []) : S (gtk l i ++ c ++ [l[i]]) = S (gtk l (i + 1)) := by
  have e : l[i]? = some l[i] := by simp [hi]
  rw [gtk, e, hc]
theorem fm3 (a : Int) : a.fmod 3 = a % 3 := Int.fmod_eq_emod_of_nonneg _ (by decide)
theorem c_lawgrouped (w : World) (mean : ExcName → Option Value) (mg mb : Str → Option Value) (l : List Nat) (tl : Tok) (hl : l.length ≤ 60) :
    Spec w mean mg mb 2 20 226 ⟨[.str (S l) tl], []⟩ [] (RStr (S (grp l))) := by
  k_with_none
  k_with "my for" =>
    (rename IsRange _ _ _ _ _ _ _ _ => rg9)
    (refine range_loop (L := L) (n := l.length) (nf := fun c => nfG l tl c.1 c.2) (led := fun _ => []) (fun i c => c.1 = S (gtk l i)) (Str.ofString "", _) rfl rfl rg9 rfl (by omega) (by assumption) (by assumption) (but_x (by walk_at "my_ext")) nil_sub (fun _ => rfl) (lit_gtk0 l) ?_ ?_)
    rintro ⟨x9, t9⟩ i9 tk9 h9 tk9' own9 hi9 hp9 ho9 F9 N9
    try dsimp only at hp9
    subst hp9
    have hg9 := gtk_length l i9
    try dsimp only at F9
    try k_fold
    rotate_left
    rintro ⟨x9, t9⟩ h9 tk9' u9 hp9 F9 N9
    try dsimp only at hp9
    subst hp9
    try dsimp only at F9
    try k_fold
    rotate_left
  k_with "my turn" =>
    refine turnEnd_of (_, _) (by assumption) (by walk_at "my_extx") (by assumption) (by exact fun _ h => h) ?_
    dsimp only
    refine grp_turn hi9 _ ?_
    simp only [fm3] at *
    split <;> first | rfl | (exfalso; omega)
  refine' spec_of (binds := [(Str.ofString "figures", .str (S l) tl)]) ?k6 ?k7 ?k9 ?kB ?c2 ?c3 ?c4 ?c5 ?_
  k_dflt walk_at "my_side"
  intro dp un gd outer A₀ base g L s Q E B F X N T hd hu hkl hret htk
  have hS : (S l).length = l.length := S_len l
  refine wpAny_noRaise ?_
  k_steps
  exact hret (Flow.ret (.str _ _)) _ [] _ _ _ rfl (by assumption) (fun _ h => nomatch h) (RStr_of (by rw [gtk_all]))
theorem grp_len60 {l : List Nat} (h : l.length ≤ 60) : (grp l).length ≤ 120 := Nat.le_trans (grp_length l) (by omega)
theorem useSL {w : World} {mg mb : Str → Option Value} {mean : ExcName → Option Value} {D U : Nat} {f : Addr} {args : Args}
    {dp un : Nat} {gd : Option (List Code)} {cn : Str} {cs : Scope} {a : Addr} {ccd : Value} {cl : List (Str × Addr)} {outer : List Env} {A₀ : Around} {base h₀ : Heap} {L : Addr} {m : Str → Option Value} {news : Led} {s : Shared} {Q E : Value → Shared → Prop} {st : List Nat} {n : Nat}
    (h : Spec w mean mg mb D U f args [] (RStr (S st))) (hlen : st.length ≤ n) (B : Below A₀ base outer h₀) (F : Fr h₀ L s.heap m) (X : (hd.heap_39 w.params).In h₀) (N : News h₀ L s.heap news) (T : MyTop mean mg mb h₀) (hck : cs.kind = .function)
    (hd : dp + D < recursionLimit) (hu : un + U < cLine)
    (ret : ∀ st' t h' tk', st' = st → st'.length ≤ n → Fr h₀ L h' m → News h₀ L h' news → Q (.str (S st') t) { s with heap := h', toks := tk' }) : MyCall w dp un gd cn cs L a ccd cl outer f args Q E s :=
  useS h B F X N T hck hd hu fun t h' tk' F' N' => ret st t h' tk' rfl hlen F' N'
local macro_rules | `(tactic| walk_at "formatField int") => `(tactic| (k_here; refine s_fmt (by first | assumption | omega) (by bits_by_make) (by omega) ?_))
local macro_rules | `(tactic| walk_at "call ref") => `(tactic| (k_here; (with_reducible show wpAny _ _ (call (Value.ref 226) [Value.str _ _]) _ _ _); k_dflt (refine' useSL (c_lawgrouped _ _ _ _ _ _ ?kl) (grp_len60 ?kl2) ?kB ?kF ?kX ?kN ?kT ?kC ?kD ?kU ?_; walk_at "my_call"; (case kl => first | assumption | (walk_at "my_len")); (case kl2 => first | assumption | (walk_at "my_len"))); intro st9 t9 h9 tk9 est9 len9 F9 N9; (try dsimp only); (try k_fold)))
def cutL (top low : Int) : List Nat := (if top < 0 ∧ 0 < (if top < 0 then -top else top).fdiv low then [45] else []) ++ grp (dg ((if top < 0 then -top else top).fdiv low).toNat)
theorem cutL_of {top low : Int} {c g : List Nat} (hg : g = grp (dg ((if top < 0 then -top else top).fdiv low).toNat)) (h : c = if top < 0 ∧ 0 < (if top < 0 then -top else top).fdiv low then [45] else []) : S (c ++ g) = S (cutL top low) := by rw [h, hg]; rfl
theorem c_lawcut (w : World) (mean : ExcName → Option Value) (mg mb : Str → Option Value) (top low : Int) (tt tl : Tok) (hl0 : 0 < low) (hbt : Builtin.Int.intBits top ≤ 400) (hbl : Builtin.Int.intBits low ≤ 400) (hW : (if top < 0 then -top else top).fdiv low < 10 ^ 40) :
    Spec w mean mg mb 5 30 240 ⟨[.int top tt, .int low tl], []⟩ [] (RStr (S (cutL top low))) := by
  k_with_none
  refine' spec_of (binds := [(Str.ofString "top", .int top tt), (Str.ofString "low", .int low tl)]) ?k6 ?k7 ?k9 ?kB ?c2 ?c3 ?c4 ?c5 ?_
  k_dflt walk_at "my_side"
  intro dp un gd outer A₀ base g L s Q E B F X N T hd hu hkl hret htk
  have hW0 : 0 ≤ (if top < 0 then -top else top).fdiv low := Int.fdiv_nonneg (by split <;> omega) (Int.le_of_lt hl0)
  have hlen : (dg ((if top < 0 then -top else top).fdiv low).toNat).length ≤ 40 := dg_len_int (by decide) hW0 hW
  have hlen2 : (dg ((if top < 0 then -top else top).fdiv low).toNat).length ≤ 60 := by omega
  have hg := grp_length (dg ((if top < 0 then -top else top).fdiv low).toNat)
  refine wpAny_noRaise ?_
  k_steps
  all_goals first
    | exact hret (Flow.ret (.str _ _)) _ [] _ _ _ rfl (by assumption) (fun _ h => nomatch h) (RStr_of (cutL_of (by assumption) (if_pos (by omega)).symm))
    | exact hret (Flow.ret (.str _ _)) _ [] _ _ _ rfl (by assumption) (fun _ h => nomatch h) (RStr_of (cutL_of (by assumption) (if_neg (by omega)).symm))
theorem rnd_up {x y : Int} (h : y < 2 * x.fmod y ∨ (2 * x.fmod y = y ∧ (x.fdiv y).fmod 2 = 1)) : x.fdiv y + 1 = rnd x y := by unfold rnd; rw [if_pos h]
theorem rnd_dn {x y : Int} (h : ¬ (y < 2 * x.fmod y ∨ (2 * x.fmod y = y ∧ (x.fdiv y).fmod 2 = 1))) : x.fdiv y = rnd x y := by unfold rnd; rw [if_neg h]
theorem rnd_nonneg {x y : Int} (hx : 0 ≤ x) (hy : 0 < y) : 0 ≤ rnd x y := by
  have h1 : 0 ≤ x.fdiv y := Int.fdiv_nonneg hx (Int.le_of_lt hy)
  unfold rnd
  split <;> omega
theorem bits_p10 {T : Int} {m : Nat} (h : Builtin.Int.intBits T ≤ m) (i : Nat) : Builtin.Int.intBits (T * 10 ^ i) ≤ m + 4 * i := by
  have h2 := intBits_le_iff.mp h
  refine intBits_le_iff.mpr ?_
  rw [Int.natAbs_mul, Int.natAbs_pow, Nat.pow_add, Nat.pow_mul]
  have h3 : (Int.natAbs 10) ^ i ≤ (2 ^ 4) ^ i := Nat.pow_le_pow_left (by decide) i
  have h4 : 0 < (Int.natAbs 10) ^ i := Nat.pow_pos (by decide)
  exact Nat.lt_of_lt_of_le ((Nat.mul_lt_mul_right h4).mpr h2) (Nat.mul_le_mul_left _ h3)
theorem laid_step {T low : Int} (hl : 0 < low) (i : Nat) : (T * 10 ^ i).fdiv low * 10 + ((T * 10 ^ i).fmod low * 10).fdiv low = (T * 10 ^ (i + 1)).fdiv low ∧ ((T * 10 ^ i).fmod low * 10).fmod low = (T * 10 ^ (i + 1)).fmod low := by
  have e : T * 10 ^ (i + 1) = (T * 10 ^ i).fmod low * 10 + low * ((T * 10 ^ i).fdiv low * 10) := by
    have h := Int.mul_fdiv_add_fmod (T * 10 ^ i) low
    rw [Int.pow_succ, ← Int.mul_assoc]
    generalize (T * 10 ^ i).fdiv low = q at *
    generalize (T * 10 ^ i).fmod low = r at *
    rw [← h, Int.add_mul, Int.mul_assoc, Int.add_comm]
  have hl' := Int.le_of_lt hl
  simp only [Int.fdiv_eq_ediv_of_nonneg _ hl', Int.fmod_eq_emod_of_nonneg _ hl'] at *
  rw [e, Int.add_mul_ediv_left _ _ (Int.ne_of_gt hl), Int.add_mul_emod_self_left]
  exact ⟨Int.add_comm _ _, rfl⟩
abbrev nfL (top : Int) (tt : Tok) (low : Int) (tl : Tok) (k : Nat) (tdg : Tok) (wh : Int) (tw : Tok) (re : Int) (tr : Tok) : Str → Option Value := fun y =>
  if y = Str.ofString "rest" then some (.int re tr) else if y = Str.ofString "whole" then some (.int wh tw) else List.lookup y [(Str.ofString "top", Value.int top tt), (Str.ofString "low", Value.int low tl), (Str.ofString "digits", Value.int (k : Int) tdg)].reverse
local macro_rules | `(tactic| walk_at "my_ext") => `(tactic| (intro y'; (by_cases h0 : y' = Str.ofString "rest"; ((have h1 : ¬ y' = Str.ofString "whole" := by rw [h0]; decide); simp only [nfL, if_pos h0, if_neg h1]; rfl)); (by_cases h1 : y' = Str.ofString "whole"; (simp only [nfL, if_pos h1, if_neg h0]; rfl)); simp only [nfL, if_neg h0, if_neg h1]))
local macro_rules | `(tactic| walk_at "my_extx") => `(tactic| (intro y' hx; (by_cases h0 : y' = Str.ofString "rest"; ((have h1 : ¬ y' = Str.ofString "whole" := by rw [h0]; decide); simp only [nfL, if_pos h0, if_neg h1, if_neg hx]; rfl)); (by_cases h1 : y' = Str.ofString "whole"; (simp only [nfL, if_pos h1, if_neg h0, if_neg hx]; rfl)); simp only [nfL, if_neg h0, if_neg h1, if_neg hx]))
local macro_rules | `(tactic| walk_at "execs cons") => `(tactic| ((with_reducible show wpAny _ _ (execs (Stmt.If _ _ _ _ :: _) _) _ _ _); k_extra "my if"))
/-- what _law_laid tells -/
def laidL (top low : Int) (k : Nat) : List Nat :=
  (if top < 0 then [45] else []) ++ grp (dg ((rnd ((if top < 0 then -top else top) * 10 ^ k) low).toNat / 10 ^ k)) ++ (if 0 < k then 46 :: pd k (rnd ((if top < 0 then -top else top) * 10 ^ k) low).toNat else [])
theorem laid_of {top low : Int} {k : Nat} {c g d : List Nat} (hg : g = grp (dg ((rnd ((if top < 0 then -top else top) * 10 ^ k) low).toNat / 10 ^ k))) (hc : c = if top < 0 then [45] else [])
    (hd : d = if 0 < k then 46 :: pd k (rnd ((if top < 0 then -top else top) * 10 ^ k) low).toNat else []) : S (c ++ g ++ d) = S (laidL top low k) := by rw [hc, hg, hd]; rfl
theorem c_lawlaid (w : World) (mean : ExcName → Option Value) (mg mb : Str → Option Value) (top low : Int) (k : Nat) (tt tl tdg : Tok) (hl0 : 0 < low) (hbt : Builtin.Int.intBits top ≤ 400) (hbl : Builtin.Int.intBits low ≤ 400) (hk : k ≤ 20)
    (hR : rnd ((if top < 0 then -top else top) * 10 ^ k) low < 10 ^ 59) :
    Spec w mean mg mb 5 30 233 ⟨[.int top tt, .int low tl, .int (k : Int) tdg], []⟩ [] (RStr (S (laidL top low k))) := by
  k_with_none
  k_with "my for" =>
    (rename IsRange _ _ _ _ _ _ _ _ => rg9)
    (refine range_loop (L := L) (n := k) (nf := fun c => nfL top tt low tl k tdg c.1 c.2.1 c.2.2.1 c.2.2.2) (led := fun _ => []) (fun i c => c.1 = ((if top < 0 then -top else top) * 10 ^ i).fdiv low ∧ c.2.2.1 = ((if top < 0 then -top else top) * 10 ^ i).fmod low) (_, _, _, _) rfl rfl rg9 rfl (by omega) (by assumption) (by assumption) (but_x (by walk_at "my_ext")) nil_sub (fun _ => rfl) ⟨by rw [Int.pow_zero, Int.mul_one], by rw [Int.pow_zero, Int.mul_one]⟩ ?_ ?_)
    rintro ⟨x9, t9, y9, u9⟩ i9 tk9 h9 tk9' own9 hi9 ⟨hp9, hq9⟩ ho9 F9 N9
    try dsimp only at hp9 hq9
    subst hp9
    subst hq9
    have hb9 := bits_p10 hbT i9
    have hb8 : Builtin.Int.intBits ((if top < 0 then -top else top) * 10 ^ i9) ≤ 500 := by omega
    try dsimp only at F9
    try k_fold
    rotate_left
    rintro ⟨x9, t9, y9, u9⟩ h9 tk9' v9 ⟨hp9, hq9⟩ F9 N9
    try dsimp only at hp9 hq9
    subst hp9
    subst hq9
    try dsimp only at F9
    try k_fold
    rotate_left
  k_with "my if" =>
    refine execs_join (g := g) (L := L) (nf := fun (c : Int × Tok) y => if y = Str.ofString "whole" then some (.int c.1 c.2) else if y = Str.ofString "turn" then v9 y else nfL top tt low tl k tdg (((if top < 0 then -top else top) * 10 ^ k).fdiv low) t9 (((if top < 0 then -top else top) * 10 ^ k).fmod low) u9 y) (led := fun _ => []) (P := fun c => c.1 = rnd ((if top < 0 then -top else top) * 10 ^ k) low) ?_ ?_
    try k_fold
    rotate_left
    rintro ⟨x9, w9⟩ h9 tk9' hp9 F9 N9
    try dsimp only at hp9
    subst hp9
    try dsimp only at F9
    try k_fold
    rotate_left
  k_with "my turn" =>
    refine joined_of (_, _) (by assumption) (by
      intro y'
      by_cases h0 : y' = Str.ofString "whole"
      · have h1 : ¬ y' = Str.ofString "turn" := by rw [h0]; decide
        have h2 : ¬ y' = Str.ofString "rest" := by rw [h0]; decide
        simp only [nfL, if_pos h0, if_neg h1, if_neg h2]
        rfl
      · simp only [if_neg h0]) (by assumption) nil_sub ?_
    dsimp only
    first | exact rnd_up (by omega) | exact rnd_dn (by omega)
  k_with "my turn" =>
    refine turnEnd_of (_, _, _, _) (by assumption) (by walk_at "my_extx") (by assumption) (by kcj_in) ?_
    dsimp only
    exact ⟨(laid_step hl0 i9).1, (laid_step hl0 i9).2⟩
  refine' spec_of (binds := [(Str.ofString "top", .int top tt), (Str.ofString "low", .int low tl), (Str.ofString "digits", .int (k : Int) tdg)]) ?k6 ?k7 ?k9 ?kB ?c2 ?c3 ?c4 ?c5 ?_
  k_dflt walk_at "my_side"
  intro dp un gd outer A₀ base g L s Q E B F X N T hd hu hkl hret htk
  have hbT : Builtin.Int.intBits (if top < 0 then -top else top) ≤ 400 := bits_abs hbt
  have hT0 : 0 ≤ (if top < 0 then -top else top) := by split <;> omega
  have hR0 : 0 ≤ rnd ((if top < 0 then -top else top) * 10 ^ k) low := rnd_nonneg (Int.mul_nonneg hT0 (Int.le_of_lt (Int.pow_pos (by decide)))) hl0
  have hbk := bits_p10 hbT k
  have hbR : Builtin.Int.intBits (rnd ((if top < 0 then -top else top) * 10 ^ k) low) ≤ 600 := Nat.le_trans (bits_rnd hbk) (by omega)
  have hb8 : Builtin.Int.intBits ((if top < 0 then -top else top) * 10 ^ k) ≤ 500 := by omega
  have hlen := dg_len_int (by decide) hR0 hR
  refine wpAny_noRaise ?_
  k_steps
  all_goals (rename (_ : List Nat) = grp _ => est9; (rw [figs_take] at est9))
  all_goals first
    | exact hret (Flow.ret (.str _ _)) _ [] _ _ _ rfl (by assumption) (fun _ h => nomatch h) (RStr_of (laid_of est9 (if_pos (by omega)).symm (by rw [figs_drop]; exact (if_pos (by omega)).symm)))
    | exact hret (Flow.ret (.str _ _)) _ [] _ _ _ rfl (by assumption) (fun _ h => nomatch h) (RStr_of (laid_of est9 (if_neg (by omega)).symm (by rw [figs_drop]; exact (if_pos (by omega)).symm)))
    | exact hret (Flow.ret (.str _ _)) _ [] _ _ _ rfl (by assumption) (fun _ h => nomatch h) (RStr_of (laid_of est9 (if_pos (by omega)).symm (if_neg (by omega)).symm))
    | exact hret (Flow.ret (.str _ _)) _ [] _ _ _ rfl (by assumption) (fun _ h => nomatch h) (RStr_of (laid_of est9 (if_neg (by omega)).symm (if_neg (by omega)).symm))
local macro_rules | `(tactic| walk_at "compareOp In str str") => `(tactic| (k_here; k_extra "my in"))
local macro_rules | `(tactic| walk_at "call builtin:str.split") => `(tactic| (k_here; k_extra "my split"))
local macro_rules | `(tactic| walk_at "call builtin:str.lstrip") => `(tactic| (k_here; k_extra "my lstrip"))
local macro_rules | `(tactic| walk_at "call builtin:str.partition") => `(tactic| (k_here; k_extra "my partition"))
local macro_rules | `(tactic| walk_at "call type:int") => `(tactic| (k_here; k_extra "my int"))
local macro_rules | `(tactic| walk_at "subscriptTail Name Slice str ref") => `(tactic| (k_here; k_extra "my slice"))
local macro_rules | `(tactic| walk_at "subscriptTail Name Call str int") => `(tactic| (k_here; k_extra "my item"))
local macro_rules | `(tactic| walk_at "binaryOp Pow int int") => `(tactic| (k_here; refine s_pow (by omega) (by decide) ?_; intro _ _))
local macro_rules | `(tactic| walk_at "call builtin:str.zfill") => `(tactic| (k_here; refine s_zfill (by walk_at "my_S") (figs_dg _) (dg_ne _) (by omega) ?_; intro _ _))
local macro_rules | `(tactic| walk_at "call type:str") => `(tactic| (k_here; (with_reducible show wpAny _ _ (call (Value.type "str") [Value.int _ _]) _ _ _); refine s_strInt (by first | assumption | omega) (by bits_by_make) (by omega) ?_))
local macro_rules | `(tactic| walk_at "call ref") => `(tactic| (k_here; (with_reducible show wpAny _ _ (call (Value.ref 28) [Value.int _ _, Value.int _ _]) _ _ _); k_dflt (refine' useI (c_rounded _ _ _ _ _ _ _ _ ?kp ?kpy) ?kB ?kF ?kX ?kN ?kT ?kC ?kD ?kU ?_; walk_at "my_call"; (case kp => assumption); (case kpy => exact noPy (by bits_by_make) (by omega))); intro t9 h9 tk9 F9 N9; (try dsimp only); (try k_fold)))
local macro_rules | `(tactic| walk_at "binaryOp Mult int int") => `(tactic| (k_here; refine mul_int ?_ (mulOk_of_bits (by bits_by_make) (by bits_by_make) (by omega))))
local macro_rules | `(tactic| walk_at "call builtin:divmod") => `(tactic| ((with_reducible show wpAny _ _ (call (Value.builtin _) [Value.int _ _, Value.int _ _]) _ _ _); refine divmod_N (by assumption) (by assumption) (by first | exact Int.ne_of_gt (by assumption) | side_arith) ?_ (Or.inl (noPy (by bits_by_make) (by omega))); intro _ _ _))
local macro_rules | `(tactic| walk_at "truthy str") => `(tactic| (k_here; k_extra "my truth"))
theorem lo_split : ∀ k, k < 21 → Txt.splitMax (S (37 :: 46 :: dg k ++ [102])) (S [37]) 1 = [S [], S (46 :: dg k ++ [102])] := by decide +kernel
theorem lo_strip : ∀ k, k < 21 → Txt.lstripChars (S (46 :: dg k ++ [102])) (S [48, 49, 50, 51, 52, 53, 54, 55, 56, 57, 46]) = S [102] := by decide +kernel
theorem lo_part : ∀ k, k < 21 → Txt.partition (S (46 :: dg k)) (S [46]) = (S [], S [46], S (dg k)) := by decide +kernel
theorem lo_int : ∀ k, k < 21 → PySem.intText? (S (dg k)) = some (k : Int) := by decide +kernel
theorem lo_take (l : List Nat) : (46 :: l ++ [102]).take (((46 :: (l ++ [102])).length : Int) - (([102] : List Nat).length : Int)).toNat = 46 :: l := by
  have : (((46 :: (l ++ [102])).length : Int) - (([102] : List Nat).length : Int)).toNat = (46 :: l).length := by simp
  rw [this, List.take_left']
  rfl
theorem lo_drop (l : List Nat) : (46 :: l ++ [102]).drop (((46 :: l).length : Int) + 1).toNat = [] := by
  refine List.drop_of_length_le ?_
  simp
  omega
theorem lo_item (l : List Nat) (h : (46 :: l).length < (46 :: l ++ [102]).length) : (46 :: l ++ [102])[(46 :: l).length] = 102 := by simp
section
variable {prog : Program} {w : World} {A : Around} {E : Value → Shared → Prop} {s : Shared} {x y : Str} {a b : List Nat} {t u v : Tok} {Q : Value → Shared → Prop} {h₀ : Heap} {L : Addr} {m : Str → Option Value} {news : Led}
theorem s_takeE {value slice : Expr} {k : Int} {uj : Tok} {r : List Nat} (hx : x = S a) (h0 : 0 ≤ k) (h1 : k ≤ a.length) (hl : a.length ≤ 10000) (e : a.take k.toNat = r) (hF : Fr h₀ L s.heap m) (hN : News h₀ L s.heap news) (h : ∀ h' t' tk, Fr h₀ L h' m → News h₀ L h' news → Q (.str (S r) t') { s with heap := h', toks := tk })
    (hs : subscripted slice false (.str x t) (.ref s.heap.objs.size) = operate [.ref s.heap.objs.size, .str x t] (getItem (.str x t) (.ref s.heap.objs.size)) := by with_unfolding_all rfl)
    (ht : ∀ r, letTemporaryGo value (.str x t) r = pure () := by intro _; with_unfolding_all rfl) :
    wpAny (model prog w) A (subscriptTail value slice (.str x t) (.ref s.heap.objs.size)) Q E { s with heap := s.heap.push { cls := .type "slice", data := .fields #[.none, .int k uj, .none] } } := by
  subst e; exact s_take hx h0 h1 hl hF hN h hs ht
theorem s_dropE {value slice : Expr} {k : Int} {uj : Tok} {r : List Nat} (hx : x = S a) (h0 : 0 ≤ k) (h1 : k ≤ a.length) (hl : a.length ≤ 10000) (e : a.drop k.toNat = r) (hF : Fr h₀ L s.heap m) (hN : News h₀ L s.heap news) (h : ∀ h' t' tk, Fr h₀ L h' m → News h₀ L h' news → Q (.str (S r) t') { s with heap := h', toks := tk })
    (hs : subscripted slice false (.str x t) (.ref s.heap.objs.size) = operate [.ref s.heap.objs.size, .str x t] (getItem (.str x t) (.ref s.heap.objs.size)) := by with_unfolding_all rfl)
    (ht : ∀ r, letTemporaryGo value (.str x t) r = pure () := by intro _; with_unfolding_all rfl) :
    wpAny (model prog w) A (subscriptTail value slice (.str x t) (.ref s.heap.objs.size)) Q E { s with heap := s.heap.push { cls := .type "slice", data := .fields #[.int k uj, .none, .none] } } := by
  subst e; exact s_drop hx h0 h1 hl hF hN h hs ht
theorem s_itemE {value slice : Expr} {i : Nat} {c : Nat} (hx : x = S a) (hi : i < a.length) (hl : a.length ≤ 10000) (e : a[i] = c) (h : Q (.str (S [c]) s.toks) { s with toks := s.toks + 1 })
    (hs : subscripted slice false (.str x t) (.int (i : Int) u) = operate [.str x t, .int (i : Int) u] (getItem (.str x t) (.int (i : Int) u)) := by with_unfolding_all rfl)
    (ht : ∀ r, letTemporaryGo value (.str x t) r = pure () := by intro _; with_unfolding_all rfl) : wpAny (model prog w) A (subscriptTail value slice (.str x t) (.int (i : Int) u)) Q E s := by
  subst e; exact s_item hx hi hl h hs ht
end
theorem s_truthy {prog : Program} {w : World} {A : Around} {E : Value → Shared → Prop} {s : Shared} {x : Str} {a : List Nat} {t : Tok} {Q : Bool → Shared → Prop} {r : Bool} (hx : x = S a) (hl : a.length ≤ 10000) (e : ((a.length : Int) != 0) = r) (h : ∀ k, Q r { s with toks := k }) : wpAny (model prog w) A (PySem.truthy (.str x t)) Q E s := by
  subst hx
  refine P.truthy_str (by rw [S_len]; omega) ?_
  rw [S_len, e]; exact h _
theorem toNat_div {R : Int} (h : 0 ≤ R) (k : Nat) : (R.fdiv (10 ^ k)).toNat = R.toNat / 10 ^ k := by
  obtain ⟨r, rfl⟩ : ∃ r : Nat, R = r := ⟨R.toNat, by omega⟩
  have e : ((10 : Int) ^ k) = ((10 ^ k : Nat) : Int) := (Int.natCast_pow 10 k).symm
  rw [e, Int.fdiv_eq_ediv_of_nonneg _ (Int.natCast_nonneg _), ← Int.natCast_ediv, Int.toNat_natCast, Int.toNat_natCast]
theorem toNat_mod {R : Int} (h : 0 ≤ R) (k : Nat) : (R.fmod (10 ^ k)).toNat = R.toNat % 10 ^ k := by
  obtain ⟨r, rfl⟩ : ∃ r : Nat, R = r := ⟨R.toNat, by omega⟩
  have e : ((10 : Int) ^ k) = ((10 ^ k : Nat) : Int) := (Int.natCast_pow 10 k).symm
  rw [e, Int.fmod_eq_emod_of_nonneg _ (Int.natCast_nonneg _), ← Int.natCast_emod, Int.toNat_natCast, Int.toNat_natCast]
theorem dg_mono {a b : Nat} (h : a ≤ b) : (dg a).length ≤ (dg b).length := by
  by_cases h0 : (dg b).length = 0
  · have := dg_length_pos b; omega
  · exact dg_length (by omega) (Nat.lt_of_le_of_lt h (dg_lower (Nat.le_refl _)))
theorem lo_lenW {R : Int} (h : 0 ≤ R) (k : Nat) {m : Nat} (hm : (dg R.toNat).length ≤ m) : (dg (R.fdiv (10 ^ k)).toNat).length ≤ m := by
  rw [toNat_div h]; exact Nat.le_trans (dg_mono (Nat.div_le_self _ _)) hm
theorem lo_lenP {R : Int} (h : 0 ≤ R) (k : Nat) {m : Nat} (hm : (dg R.toNat).length ≤ m) : (dg (R.fmod (10 ^ k)).toNat).length ≤ m := by
  rw [toNat_mod h]; exact Nat.le_trans (dg_mono (Nat.mod_le _ _)) hm
theorem dg_truth (k : Nat) : (((dg k).length : Int) != 0) = true := by
  have := dg_ne k
  simp [this]
/-- what laid_out tells under '%.kf' -/
def laidF (n d : Int) (k : Nat) : List Nat :=
  (if n < 0 then [45] else []) ++ (dg ((rnd ((if n < 0 then -n else n) * 10 ^ k) d).toNat / 10 ^ k) ++ (if 0 < k then 46 :: pd k (rnd ((if n < 0 then -n else n) * 10 ^ k) d).toNat else []))
theorem laidf_of {n d : Int} {k : Nat} {c e : List Nat} (hR0 : 0 ≤ rnd ((if n < 0 then -n else n) * 10 ^ k) d) (hc : c = if n < 0 then [45] else []) (he : e = if 0 < k then 46 :: pd k (rnd ((if n < 0 then -n else n) * 10 ^ k) d).toNat else []) :
    S ([] ++ c ++ (dg ((rnd ((if n < 0 then -n else n) * 10 ^ k) d).fdiv (10 ^ k)).toNat ++ e) ++ []) = S (laidF n d k) := by
  rw [List.nil_append, List.append_nil, hc, he, toNat_div hR0]; rfl
theorem laidf_frac {R : Int} {k : Nat} (hR0 : 0 ≤ R) (hk : 0 < k) : [46] ++ (zs (k - (dg (R.fmod (10 ^ k)).toNat).length) ++ dg (R.fmod (10 ^ k)).toNat) = if 0 < k then 46 :: pd k R.toNat else [] := by
  rw [if_pos hk, zfill_eq hk (by rw [toNat_mod hR0]; exact Nat.mod_lt _ (Nat.pow_pos (by decide))), toNat_mod hR0, pd_mod]; rfl
theorem laidf_none {R : Int} {k : Nat} (hk : ¬ 0 < k) : [] = if 0 < k then 46 :: pd k R.toNat else [] := by rw [if_neg hk]
local macro_rules | `(tactic| walk_at "my_keep") => `(tactic| (intro q hq; rename News _ _ _ _ => N9; first | exact N9 q hq | exact N9 q (.tail _ hq) | exact N9 q (.tail _ (.tail _ hq)) | exact N9 q (.tail _ (.tail _ (.tail _ hq))) | exact N9 q (.tail _ (.tail _ (.tail _ (.tail _ hq)))) | exact N9 q (.tail _ (.tail _ (.tail _ (.tail _ (.tail _ hq)))))))
theorem c_laidf (w : World) (mean : ExcName → Option Value) (mg mb : Str → Option Value) (x dx : Addr) (n d : Int) (k1 t1 k2 t2 : Nat) (k : Nat) (tf : Tok) (hd0 : 0 < d) (hbn : Builtin.Int.intBits n ≤ 400) (hbd : Builtin.Int.intBits d ≤ 400) (hk : k ≤ 20)
    (hR : rnd ((if n < 0 then -n else n) * 10 ^ k) d < 10 ^ 59) :
    Spec w mean mg mb 8 40 167 ⟨[.str (S (37 :: 46 :: dg k ++ [102])) tf, .ref x], []⟩ (dbl w x dx n d k1 t1 k2 t2) (fun v after => after = dbl w x dx n d k1 t1 k2 t2 ∧ ∃ t : Tok, v = (fun t => .str (S (laidF n d k)) t) t) := by
  k_with_none
  k_with "my split" =>
    refine s_split2 (a := 37 :: 46 :: dg k ++ [102]) (b := [37]) rfl lit_pct (by walk_at "my_len") rfl (lo_split k (by omega)) (by k_asm) (by k_asm) ?_
    intro D9 t91 t92 h9 tk9 F9 N9
    try k_fold
  k_with "my lstrip" =>
    refine s_lstripc (a := 46 :: dg k ++ [102]) (b := [48, 49, 50, 51, 52, 53, 54, 55, 56, 57, 46]) rfl lit_digd (by walk_at "my_len") (lo_strip k (by omega)) ?_
    intro _ _
  k_with "my slice" =>
    (with_reducible rename Fr _ _ _ _ => F')
    (with_reducible rename News _ _ _ _ => N')
    first
      | refine s_takeE (s := ⟨_, _, _, _, _⟩) (a := 46 :: dg k ++ [102]) (r := 46 :: dg k) rfl (by walk_at "my_len") (by walk_at "my_len") (by walk_at "my_len") (lo_take (dg k)) F' N' ?_
      | refine s_dropE (s := ⟨_, _, _, _, _⟩) (a := 46 :: dg k ++ [102]) (r := []) rfl (by walk_at "my_len") (by walk_at "my_len") (by walk_at "my_len") (lo_drop (dg k)) F' N' ?_
    intro _ _ _ _ _
  k_with "my item" =>
    refine s_itemE (a := 46 :: dg k ++ [102]) (i := (46 :: dg k).length) (c := 102) rfl (by walk_at "my_len") (by walk_at "my_len") (lo_item (dg k) _) ?_
  k_with "my in" =>
    first
      | refine s_in1 (a := [100, 105]) (c := 102) lit_di rfl (r := false) (by decide) ?_
      | refine s_in1 (a := 46 :: dg k) (c := 46) rfl lit_dot (r := true) (by simp) ?_
  k_with "my partition" =>
    refine s_part (a := 46 :: dg k) (b := [46]) rfl lit_dot (by walk_at "my_len") rfl (lo_part k (by omega)) (by k_asm) (by k_asm) ?_
    intro D9 t91 t92 t93 h9 tk9 F9 N9
    try k_fold
  k_with "my int" =>
    refine s_int (a := dg k) rfl (by walk_at "my_len") (lo_int k (by omega)) ?_
    intro _ _
  k_with "my truth" =>
    refine s_truthy (a := dg k) rfl (by walk_at "my_len") (dg_truth k) ?_
    intro _
  refine' spec_of (binds := [(Str.ofString "form", .str (S (37 :: 46 :: dg k ++ [102])) tf), (Str.ofString "value", .ref x)]) ?k6 ?k7 ?k9 ?kB ?c2 ?c3 ?c4 ?c5 ?_
  k_dflt walk_at "my_side"
  intro dp un gd outer A₀ base g L s Q E B F X N T hd hu hkl hret htk
  have hT0 : 0 ≤ (if n < 0 then -n else n) := by split <;> omega
  have hbT : Builtin.Int.intBits (if n < 0 then -n else n) ≤ 400 := bits_abs hbn
  have hR0 : 0 ≤ rnd ((if n < 0 then -n else n) * 10 ^ k) d := rnd_nonneg (Int.mul_nonneg hT0 (Int.le_of_lt (Int.pow_pos (by decide)))) hd0
  have hbk := bits_p10 hbT k
  have hbR : Builtin.Int.intBits (rnd ((if n < 0 then -n else n) * 10 ^ k) d) ≤ 600 := Nat.le_trans (bits_rnd hbk) (by omega)
  have hb8 : Builtin.Int.intBits ((if n < 0 then -n else n) * 10 ^ k) ≤ 500 := by omega
  have hb10 : Builtin.Int.intBits ((10 : Int) ^ k) ≤ 100 := by
    have := bits_p10 (T := 1) (m := 1) (by decide) k
    rw [Int.one_mul] at this
    omega
  have hp10 : (0 : Int) < 10 ^ k := Int.pow_pos (by decide)
  have hW0 : 0 ≤ (rnd ((if n < 0 then -n else n) * 10 ^ k) d).fdiv (10 ^ k) := Int.fdiv_nonneg hR0 (Int.le_of_lt hp10)
  have hP0 : 0 ≤ (rnd ((if n < 0 then -n else n) * 10 ^ k) d).fmod (10 ^ k) := Int.fmod_nonneg hR0 (Int.le_of_lt hp10)
  have hlen := dg_len_int (by decide) hR0 hR
  have hl1 := lo_lenW hR0 k hlen
  have hl2 := lo_lenP hR0 k hlen
  have hkd : (dg k).length ≤ 2 := dg_length (by decide) (by omega)
  refine wpAny_noRaise ?_
  k_steps
  all_goals refine hret (Flow.ret (.str _ _)) _ (dbl w x dx n d k1 t1 k2 t2) _ _ _ rfl (by assumption) (by walk_at "my_keep") ⟨rfl, _, congrArg (fun z => Value.str z _) (laidf_of hR0 ?_ ?_)⟩
  all_goals first
    | exact (if_pos (by omega)).symm
    | exact (if_neg (by omega)).symm
    | exact laidf_frac hR0 (by omega)
    | exact laidf_none (by omega)
theorem li_split : Txt.splitMax (S [37, 100]) (S [37]) 1 = [S [], S [100]] := by decide +kernel
theorem li_strip : Txt.lstripChars (S [100]) (S [48, 49, 50, 51, 52, 53, 54, 55, 56, 57, 46]) = S [100] := by decide +kernel
section
variable {prog : Program} {w : World} {A : Around} {E : Value → Shared → Prop} {s : Shared} {K : Frag} {x C f : Addr} {ox : Obj} {od : Option Obj}
theorem int_own {Q : Value → Shared → Prop} (X : K.In s.heap) (I : InstAt s.heap x ox C od) (hs : findIn K (.ref C) "__int__" = some (some (.ref f))) (hf : isFn K (.ref f) = true)
    (h : wpAny (model prog w) A.in1.in1 (call (.ref f) [.ref x]) (fun v s' => ∃ n t, v = .int n t ∧ Q (.int n t) s') E s) : wpAny (model prog w) A (call (.type "int") [.ref x]) Q E s := by
  refine callType_codes (T := "int") (Bi := Builtin.«object.__init__») (Q₁ := fun r s₁ => ∃ n t, r = .int n t ∧ Q (.int n t) s₁) PySem.F.called_int (PySem.F.typeCall_int_1 _) PySem.F.entry_object_init ?_ ?_
  · refine codeAny_of_tree ?_
    show wpAny _ A.in1.in1 (do checkBuiltinCall "int.__new__" ⟨[.type "int", .ref x], []⟩; again (.builtin "int.__new__" ⟨[.type "int", .ref x], []⟩)) _ _ s
    refine wpAny_bind (wpAny_of_eq (PySem.F.newCall_int_1 _) (wpAny_pure ⟨plainId_quiet (by decide +kernel) _, codeAny_builtin PySem.F.entry_int_new ?_⟩))
    rw [Around.under_plainId (by decide +kernel) _]
    have f1 := PySem.F.conv_sub_int
    have f2 := PySem.F.madeHere_int
    have sp : ∀ Q' : Option Value → Shared → Prop, wpAny (model prog w) A.in1.in1 (call (.ref f) [.ref x]) (fun v => Q' (some v)) E s → wpAny (model prog w) A.in1.in1 (callSpecial? (.ref x) (Str.ofString "__int__") []) Q' E s := fun Q' h' => special_fn X I hs (beq_iff_eq.mp hf) h'
    clear hs hf I X
    repeat (any_goals (first | assumption | ((with_reducible show wpAny _ _ (callSpecial? _ _ _) _ _ _); refine sp _ (wpAny_mono h (fun r s₁ hr => ?_) fun _ _ y => y); clear sp h f1 f2; obtain ⟨n, t, rfl, hr⟩ := hr) | wp_step))
    exact ⟨_, _, rfl, hr⟩
  · rintro obj s₁ ⟨n, t, rfl, hq⟩
    exact ⟨rfl, PySem.F.args_object_init_2 _ _, object_init_meets PySem.F.called_int.init.lookup PySem.F.called_int.made (by decide) prog w A.in1 _ s₁ ⟨rfl, rfl, hq⟩⟩
end
/-- the text of an int -/
def dgi (n : Int) : List Nat := (if n < 0 then [45] else []) ++ dg n.natAbs
theorem ofString_int (n : Int) : Str.ofString (toString n) = S (dgi n) := by
  unfold dgi
  by_cases h : n < 0
  · obtain ⟨m, rfl⟩ : ∃ m : Nat, n = -(m : Int) := ⟨n.natAbs, by omega⟩
    rw [if_pos h, Int.natAbs_neg, Int.natAbs_natCast]
    obtain ⟨m, rfl⟩ : ∃ j, m = j + 1 := ⟨m - 1, by omega⟩
    have e : toString (-((m + 1 : Nat) : Int)) = "-" ++ toString (((m + 1 : Nat)) : Int) := rfl
    have e2 := congrArg (fun z : Str => z.cps.toList) (ofString_nat (m + 1))
    refine S_ext ?_
    rw [e]
    rw [signs_ofString] at e2 ⊢
    rw [String.toList_append, List.map_append, e2]
    rfl
  · rw [if_neg h, ofString_nat' (by omega)]
    have : n.toNat = n.natAbs := by omega
    rw [this]; rfl
section
variable {prog : Program} {w : World} {A : Around} {E : Value → Shared → Prop} {s : Shared} {Q : Value → Shared → Prop} {t : Tok}
theorem s_strIntA {n : Int} {k : Nat} (hb : Builtin.Int.intBits n ≤ k) (hk : k ≤ 1900) (h : Q (.str (S (dgi n)) s.toks) { s with toks := s.toks + 1 }) : wpAny (model prog w) A (call (.type "str") [.int n t]) Q E s := by
  refine P.str_of_int (log2_bits hb hk) ?_
  rw [ofString_int]; exact h
end
local macro_rules | `(tactic| walk_at "call type:int") => `(tactic| (k_here; (with_reducible show wpAny _ _ (call (Value.type "int") [Value.ref _]) _ _ _); k_dflt (refine' int_own ?k2 ?k3 ?k4 ?k5 ?_; (case k2 => k_in); (case k3 => k_inst); (case k4 => k_is); (case k5 => k_is); k_whole)))
/-- the whole part, towards nought -/
def tr (n d : Int) : Int := if 0 ≤ n then n.fdiv d else -((-n).fdiv d)
local macro_rules | `(tactic| walk_at "call type:str") => `(tactic| (k_here; (with_reducible show wpAny _ _ (call (Value.type "str") [Value.int _ _]) _ _ _); refine s_strIntA (by bits_by_make) (by omega) ?_))
theorem bits_tr {n d : Int} {m : Nat} (h : Builtin.Int.intBits n ≤ m) : Builtin.Int.intBits (tr n d) ≤ m + 2 := by
  unfold tr
  split
  · exact Nat.le_trans (PyProof.Rows.bits_fdiv h) (by omega)
  · exact Nat.le_trans (PyProof.Rows.bits_neg (PyProof.Rows.bits_fdiv (PyProof.Rows.bits_neg h))) (by omega)
theorem c_dint (w : World) (mean : ExcName → Option Value) (mg mb : Str → Option Value) (x dx : Addr) (n d : Int) (k1 t1 k2 t2 : Nat) (hd0 : 0 < d) (hbn : Builtin.Int.intBits n ≤ 400) (hbd : Builtin.Int.intBits d ≤ 400) :
    Spec w mean mg mb 2 12 71 ⟨[.ref x], []⟩ (dbl w x dx n d k1 t1 k2 t2) (fun v after => after = dbl w x dx n d k1 t1 k2 t2 ∧ ∃ t : Tok, v = (fun t => .int (tr n d) t) t) := by
  k_with_none
  refine' spec_of (binds := [(Str.ofString "self", .ref x)]) ?k6 ?k7 ?k9 ?kB ?c2 ?c3 ?c4 ?c5 ?_
  k_dflt walk_at "my_side"
  intro dp un gd outer A₀ base g L s Q E B F X N T hd hu hkl hret htk
  k_steps
  all_goals refine hret (Flow.ret (.int _ _)) _ (dbl w x dx n d k1 t1 k2 t2) _ _ _ rfl (by assumption) (by walk_at "my_keep") ⟨rfl, _, congrArg (fun z => Value.int z _) ?_⟩
  all_goals first
    | exact (if_pos (by omega)).symm
    | exact (if_neg (by omega)).symm
local macro_rules | `(tactic| walk_at "call ref") => `(tactic| (k_here; (with_reducible show wpAny _ _ (call (Value.ref 71) [Value.ref _]) _ _ _); k_dflt (refine' useKV (v := fun t => .int (tr _ _) t) (c_dint _ _ _ _ _ _ _ _ _ _ _ _ ?p1 ?p2 ?p3) ?km1 ?km2 ?kB ?kF ?kX ?kN ?kT ?kC ?kD ?kU ?_; (case kN => k_asm); (case km1 => k_mem); (case km2 => k_mem); (case kB => k_asm); (case kF => k_asm); (case kX => k_asm); (case kT => k_asm); (case kC => exact rfl); (case kD => (dsimp only [Around.in1]; omega)); (case kU => (dsimp only [Around.in1]; omega)); (case p1 => assumption); (case p2 => assumption); (case p3 => assumption)); intro t9 h9 tk9 F9 N9; (refine ⟨_, _, rfl, ?_⟩); (try dsimp only); (try k_fold)))
theorem dgi_len {n : Int} {m : Nat} (h : Builtin.Int.intBits n ≤ m) : (dgi n).length ≤ m + 2 := by
  have h1 := intBits_le_iff.mp h
  have h2 : n.natAbs < 10 ^ (m + 1) := Nat.lt_of_lt_of_le h1 (Nat.le_trans (Nat.pow_le_pow_left (by decide) m) (Nat.pow_le_pow_right (by decide) (Nat.le_succ m)))
  have h3 := dg_length (by omega) h2
  unfold dgi
  rw [List.length_append]
  split <;> simp only [List.length_singleton, List.length_nil] <;> omega
theorem laidd_of {n d v : Int} (h : v = tr n d) : S ([] ++ dgi v ++ []) = S (dgi (tr n d)) := by rw [List.nil_append, List.append_nil, h]
theorem c_laidd (w : World) (mean : ExcName → Option Value) (mg mb : Str → Option Value) (x dx : Addr) (n d : Int) (k1 t1 k2 t2 : Nat) (tf : Tok) (hd0 : 0 < d) (hbn : Builtin.Int.intBits n ≤ 400) (hbd : Builtin.Int.intBits d ≤ 400) :
    Spec w mean mg mb 8 40 167 ⟨[.str (S [37, 100]) tf, .ref x], []⟩ (dbl w x dx n d k1 t1 k2 t2) (fun v after => after = dbl w x dx n d k1 t1 k2 t2 ∧ ∃ t : Tok, v = (fun t => .str (S (dgi (tr n d))) t) t) := by
  k_with_none
  k_with "my split" =>
    refine s_split2 (a := [37, 100]) (b := [37]) rfl lit_pct (by walk_at "my_len") rfl li_split (by k_asm) (by k_asm) ?_
    intro D9 t91 t92 h9 tk9 F9 N9
    try k_fold
  k_with "my lstrip" =>
    refine s_lstripc (a := [100]) (b := [48, 49, 50, 51, 52, 53, 54, 55, 56, 57, 46]) rfl lit_digd (by walk_at "my_len") li_strip ?_
    intro _ _
  k_with "my slice" =>
    (with_reducible rename Fr _ _ _ _ => F')
    (with_reducible rename News _ _ _ _ => N')
    first
      | refine s_takeE (s := ⟨_, _, _, _, _⟩) (a := [100]) (r := []) rfl (by walk_at "my_len") (by walk_at "my_len") (by walk_at "my_len") (by decide) F' N' ?_
      | refine s_dropE (s := ⟨_, _, _, _, _⟩) (a := [100]) (r := []) rfl (by walk_at "my_len") (by walk_at "my_len") (by walk_at "my_len") (by decide) F' N' ?_
    intro _ _ _ _ _
  k_with "my item" =>
    refine s_itemE (a := [100]) (i := 0) (c := 100) rfl (by walk_at "my_len") (by walk_at "my_len") rfl ?_
  k_with "my in" =>
    refine s_in1 (a := [100, 105]) (c := 100) lit_di rfl (r := true) (by decide) ?_
  refine' spec_of (binds := [(Str.ofString "form", .str (S [37, 100]) tf), (Str.ofString "value", .ref x)]) ?k6 ?k7 ?k9 ?kB ?c2 ?c3 ?c4 ?c5 ?_
  k_dflt walk_at "my_side"
  intro dp un gd outer A₀ base g L s Q E B F X N T hd hu hkl hret htk
  have hbtr := bits_tr (d := d) hbn
  have hlen := dgi_len hbtr
  refine wpAny_noRaise ?_
  k_steps
  all_goals exact hret (Flow.ret (.str _ _)) _ (dbl w x dx n d k1 t1 k2 t2) _ _ _ rfl (by assumption) (by walk_at "my_keep") ⟨rfl, _, congrArg (fun z => Value.str z _) (laidd_of rfl)⟩
theorem c_laidi (w : World) (mean : ExcName → Option Value) (mg mb : Str → Option Value) (n : Int) (tf tn : Tok) (hbn : Builtin.Int.intBits n ≤ 400) :
    Spec w mean mg mb 8 40 167 ⟨[.str (S [37, 100]) tf, .int n tn], []⟩ [] (RStr (S (dgi n))) := by
  k_with_none
  k_with "my split" =>
    refine s_split2 (a := [37, 100]) (b := [37]) rfl lit_pct (by walk_at "my_len") rfl li_split (by k_asm) (by k_asm) ?_
    intro D9 t91 t92 h9 tk9 F9 N9
    try k_fold
  k_with "my lstrip" =>
    refine s_lstripc (a := [100]) (b := [48, 49, 50, 51, 52, 53, 54, 55, 56, 57, 46]) rfl lit_digd (by walk_at "my_len") li_strip ?_
    intro _ _
  k_with "my slice" =>
    (with_reducible rename Fr _ _ _ _ => F')
    (with_reducible rename News _ _ _ _ => N')
    first
      | refine s_takeE (s := ⟨_, _, _, _, _⟩) (a := [100]) (r := []) rfl (by walk_at "my_len") (by walk_at "my_len") (by walk_at "my_len") (by decide) F' N' ?_
      | refine s_dropE (s := ⟨_, _, _, _, _⟩) (a := [100]) (r := []) rfl (by walk_at "my_len") (by walk_at "my_len") (by walk_at "my_len") (by decide) F' N' ?_
    intro _ _ _ _ _
  k_with "my item" =>
    refine s_itemE (a := [100]) (i := 0) (c := 100) rfl (by walk_at "my_len") (by walk_at "my_len") rfl ?_
  k_with "my in" =>
    refine s_in1 (a := [100, 105]) (c := 100) lit_di rfl (r := true) (by decide) ?_
  refine' spec_of (binds := [(Str.ofString "form", .str (S [37, 100]) tf), (Str.ofString "value", .int n tn)]) ?k6 ?k7 ?k9 ?kB ?c2 ?c3 ?c4 ?c5 ?_
  k_dflt walk_at "my_side"
  intro dp un gd outer A₀ base g L s Q E B F X N T hd hu hkl hret htk
  have hlen := dgi_len hbn
  refine wpAny_noRaise ?_
  k_steps
  all_goals exact hret (Flow.ret (.str _ _)) _ [] _ _ _ rfl (by assumption) (fun _ h => nomatch h) (RStr_of (by rw [List.nil_append, List.append_nil]))
local macro_rules | `(tactic| walk_at "compareOp Eq str str") => `(tactic| (k_here; k_extra "my eq"))
local macro_rules | `(tactic| walk_at "execs cons") => `(tactic| ((with_reducible show wpAny _ _ (execs (Stmt.While _ _ _ _ :: _) _) _ _ _); k_extra "my while"))
theorem part_none {a : List Nat} {c : Nat} (h : c ∉ a) : Txt.partition (S a) (S [c]) = (S a, S [], S []) := by
  rcases partition_whole (S a) (S [c]) with ⟨hp, _⟩ | ⟨i, _, hi, _⟩
  · rw [hp]; rfl
  · have := (StrLaws.subAt_one (S a) c i).mp hi
    exact absurd (List.mem_of_getElem? this) h
theorem part_some {a b : List Nat} {c : Nat} (h : c ∉ a) : Txt.partition (S (a ++ c :: b)) (S [c]) = (S a, S [c], S b) := by
  have hc : (a ++ c :: b)[a.length]? = some c := by simp
  rcases partition_whole (S (a ++ c :: b)) (S [c]) with ⟨_, hn⟩ | ⟨i, hp, hi, hn⟩
  · exact absurd ((StrLaws.subAt_one (S (a ++ c :: b)) c a.length).mpr hc) (hn _)
  · have hi' := (StrLaws.subAt_one (S (a ++ c :: b)) c i).mp hi
    have e : i = a.length := by
      rcases Nat.lt_trichotomy i a.length with h1 | h1 | h1
      · have h2 : (a ++ c :: b)[i]? = a[i]? := List.getElem?_append_left h1
        have h3 : (S (a ++ c :: b)).cps.toList[i]? = a[i]? := h2
        rw [h3] at hi'
        exact absurd (List.mem_of_getElem? hi') h
      · exact h1
      · exact absurd ((StrLaws.subAt_one (S (a ++ c :: b)) c a.length).mpr hc) (hn _ h1)
    subst e
    rw [hp]
    have e1 : Builtin.Str.strSub (S (a ++ c :: b)) 0 a.length = S a := S_ext (by simp [Builtin.Str.strSub, S])
    have e2 : Builtin.Str.strSub (S (a ++ c :: b)) (a.length + (S [c]).length) (S (a ++ c :: b)).length = S b := S_ext (by
      rw [S_len, S_len]
      simp [Builtin.Str.strSub, S]
      exact List.take_of_length_le (by omega))
    rw [e1, e2]
/-- the values of the list groups -/
def gvals (gs : List (List Nat × Tok)) : List Value := gs.map fun p => .str (S p.1) p.2
def gsum (gs : List (List Nat × Tok)) : List Nat := gs.flatMap fun p => 44 :: p.1
abbrev nfGr (G : Addr) (x : Str) (t : Tok) (sg : Str) (ts : Tok) (pt : Str) (tp : Tok) (dt : Str) (td : Tok) (x0 : Str) (t0 : Tok) (tx : Str) (tt : Tok) : Str → Option Value := fun y =>
  if y = Str.ofString "groups" then some (.ref G) else if y = Str.ofString "whole" then some (.str x t) else if y = Str.ofString "sign" then some (.str sg ts) else if y = Str.ofString "part" then some (.str pt tp) else if y = Str.ofString "dot" then some (.str dt td)
  else if y = Str.ofString "whole" then some (.str x0 t0) else List.lookup y [(Str.ofString "text", Value.str tx tt)].reverse
def PG (D W : List Nat) (gs : List (List Nat × Tok)) : Prop := W ≠ [] ∧ grp W ++ gsum gs = grp D ∧ W.length + 3 * gs.length = D.length ∧ ∀ p ∈ gs, p.1.length = 3
theorem pg_len {D W : List Nat} {gs : List (List Nat × Tok)} (h : PG D W gs) : W.length + 3 * gs.length = D.length := h.2.2.1
abbrev GS := (List Nat × Tok) × List (List Nat × Tok) × Nat
theorem gr_while {prog : Program} {w : World} {A : Around} {E : Value → Shared → Prop} {Q : Flow → Shared → Prop} {s : Shared} {env : Env} {g : Heap} {L : Addr} {test : Expr} {body rest : List Stmt} {pos : Pos} {all : Led}
    {G : Addr} {sg : Str} {ts : Tok} {pt : Str} {tp : Tok} {dt : Str} {td : Tok} {x0 : Str} {t0 : Tok} {tx : Str} {tt : Tok} {D : List Nat} {t : Tok} {n : Nat}
    (F : Fr g L s.heap (nfGr G (S D) t sg ts pt tp dt td x0 t0 tx tt)) (N : News g L s.heap ((G, listOf #[] n) :: all)) (hD : D ≠ []) (hE : PassesOwn (model prog w) A env E)
    (turn : ∀ W t gs n h tk, PG D W gs → Fr g L h (nfGr G (S W) t sg ts pt tp dt td x0 t0 tx tt) → News g L h [(G, listOf (gvals gs).toArray n)] →
      wpAny (model prog w) A (isTrue test env (eval test env)) (fun b s₂ => if b = true then wpAny (model prog w) A (execs body env) (Joined g L s (fun c : GS => nfGr G (S c.1.1) c.1.2 sg ts pt tp dt td x0 t0 tx tt) (fun c => [(G, listOf (gvals c.2.1).toArray c.2.2)]) fun c' => PG D c'.1.1 c'.2.1 ∧ c'.1.1.length < W.length) E s₂
        else Joined g L s (fun c : GS => nfGr G (S c.1.1) c.1.2 sg ts pt tp dt td x0 t0 tx tt) (fun c => [(G, listOf (gvals c.2.1).toArray c.2.2)]) (fun c' => PG D c'.1.1 c'.2.1 ∧ c'.1.1.length ≤ 3) .next s₂) E { s with heap := h, toks := tk })
    (done : ∀ W t gs n h tk, PG D W gs → W.length ≤ 3 → Fr g L h (nfGr G (S W) t sg ts pt tp dt td x0 t0 tx tt) → News g L h [(G, listOf (gvals gs).toArray n)] → wpAny (model prog w) A (execs rest env) Q E { s with heap := h, toks := tk }) :
    wpAny (model prog w) A (execs (.While test body [] pos :: rest) env) Q E s := by
  refine execs_join (g := g) (L := L) (nf := fun c : GS => nfGr G (S c.1.1) c.1.2 sg ts pt tp dt td x0 t0 tx tt) (led := fun c => [(G, listOf (gvals c.2.1).toArray c.2.2)]) (P := fun c => PG D c.1.1 c.2.1 ∧ c.1.1.length ≤ 3) ?_ ?_
  · refine exec_while (fun c : GS => c.1.1.length) (fun c => PG D c.1.1 c.2.1) ((D, t), [], n) F N (fun _ => rfl) (fun p hp => ?_) ⟨hD, by simp [gsum], by simp, fun _ h => nomatch h⟩ ?_ hE
    · rw [List.mem_singleton.mp hp]; exact .head _
    · rintro ⟨⟨W, t'⟩, gs, n'⟩ h tk hp F' N'
      exact turn W t' gs n' h tk hp F' N'
  · rintro ⟨⟨W, t'⟩, gs, n'⟩ h tk ⟨hp, hl⟩ F' N'
    exact done W t' gs n' h tk hp hl F' N'
section
variable {prog : Program} {w : World} {A : Around} {E : Value → Shared → Prop} {s : Shared} {x : Str} {a : List Nat} {t : Tok} {Q : Value → Shared → Prop} {h₀ : Heap} {L : Addr} {m : Str → Option Value} {news : Led}
theorem s_but3 {value slice : Expr} {uj : Tok} (hx : x = S a) (h1 : 3 ≤ a.length) (hl : a.length ≤ 10000) (hF : Fr h₀ L s.heap m) (hN : News h₀ L s.heap news) (h : ∀ h' t' tk, Fr h₀ L h' m → News h₀ L h' news → Q (.str (S (a.take (a.length - 3))) t') { s with heap := h', toks := tk })
    (hs : subscripted slice false (.str x t) (.ref s.heap.objs.size) = operate [.ref s.heap.objs.size, .str x t] (getItem (.str x t) (.ref s.heap.objs.size)) := by with_unfolding_all rfl)
    (ht : ∀ r, letTemporaryGo value (.str x t) r = pure () := by intro _; with_unfolding_all rfl) :
    wpAny (model prog w) A (subscriptTail value slice (.str x t) (.ref s.heap.objs.size)) Q E { s with heap := s.heap.push { cls := .type "slice", data := .fields #[.none, .int (-3) uj, .none] } } := by
  subst hx
  refine slice_strN_ns hF hN (fun h' t' tk F N => ?_) hs ht (S_fit hl)
  rw [slice_but3 h1]; exact h h' t' tk F N
theorem s_last3 {value slice : Expr} {uj : Tok} (hx : x = S a) (h1 : 3 ≤ a.length) (hl : a.length ≤ 10000) (hF : Fr h₀ L s.heap m) (hN : News h₀ L s.heap news) (h : ∀ h' t' tk, Fr h₀ L h' m → News h₀ L h' news → Q (.str (S (a.drop (a.length - 3))) t') { s with heap := h', toks := tk })
    (hs : subscripted slice false (.str x t) (.ref s.heap.objs.size) = operate [.ref s.heap.objs.size, .str x t] (getItem (.str x t) (.ref s.heap.objs.size)) := by with_unfolding_all rfl)
    (ht : ∀ r, letTemporaryGo value (.str x t) r = pure () := by intro _; with_unfolding_all rfl) :
    wpAny (model prog w) A (subscriptTail value slice (.str x t) (.ref s.heap.objs.size)) Q E { s with heap := s.heap.push { cls := .type "slice", data := .fields #[.int (-3) uj, .none, .none] } } := by
  subst hx
  refine slice_strN_sn hF hN (fun h' t' tk F N => ?_) hs ht (S_fit hl)
  rw [slice_last3 h1]; exact h h' t' tk F N
end
section
variable {g : Heap} {L : Addr} {s : Shared} {G : Addr} {sg : Str} {ts : Tok} {pt : Str} {tp : Tok} {dt : Str} {td : Tok} {x0 : Str} {t0 : Tok} {tx : Str} {tt : Tok} {W V : List Nat} {t tv : Tok} {gs : List (List Nat × Tok)} {n : Nat} {h' : Heap} {tk : Nat} {m' : Str → Option Value} {P : GS → Prop} {all : Led}
theorem gr_end (F : Fr g L h' m') (hm : ∀ y, m' y = nfGr G (S W) t sg ts pt tp dt td x0 t0 tx tt y) (N : News g L h' ((G, listOf (.str (S V) tv :: (gvals gs).toArray.toList).toArray n) :: all)) (hp : P ((W, t), (V, tv) :: gs, n)) :
    Joined g L s (fun c : GS => nfGr G (S c.1.1) c.1.2 sg ts pt tp dt td x0 t0 tx tt) (fun c => [(G, listOf (gvals c.2.1).toArray c.2.2)]) P .next { s with heap := h', toks := tk } :=
  joined_of (led := fun c : GS => [(G, listOf (gvals c.2.1).toArray c.2.2)]) ((W, t), (V, tv) :: gs, n) F hm N (fun p hp => by rw [List.mem_singleton.mp hp]; exact .head _) hp
theorem gr_stop (F : Fr g L h' m') (hm : ∀ y, m' y = nfGr G (S W) t sg ts pt tp dt td x0 t0 tx tt y) (N : News g L h' ((G, listOf (gvals gs).toArray n) :: all)) (hp : P ((W, t), gs, n)) :
    Joined g L s (fun c : GS => nfGr G (S c.1.1) c.1.2 sg ts pt tp dt td x0 t0 tx tt) (fun c => [(G, listOf (gvals c.2.1).toArray c.2.2)]) P .next { s with heap := h', toks := tk } :=
  joined_of (led := fun c : GS => [(G, listOf (gvals c.2.1).toArray c.2.2)]) ((W, t), gs, n) F hm N (fun p hp => by rw [List.mem_singleton.mp hp]; exact .head _) hp
end
theorem kl_ins_zero (vs : List Value) (y : Value) : kl_ins vs 0 y = y :: vs := by simp [kl_ins]
theorem pg_turn {D W : List Nat} {gs : List (List Nat × Tok)} {t : Tok} (h : PG D W gs) (hl : 3 < W.length) : PG D (W.take (W.length - 3)) ((W.drop (W.length - 3), t) :: gs) ∧ (W.take (W.length - 3)).length < W.length := by
  obtain ⟨h1, h2, h3, h4⟩ := h
  have hd : (W.drop (W.length - 3)).length = 3 := by rw [List.length_drop]; omega
  have ht : (W.take (W.length - 3)).length = W.length - 3 := by rw [List.length_take]; omega
  have hne : W.take (W.length - 3) ≠ [] := fun e => by rw [e, List.length_nil] at ht; omega
  refine ⟨⟨hne, ?_, ?_, ?_⟩, by omega⟩
  · rw [← h2]
    have e := grp_append hne hd
    rw [List.take_append_drop] at e
    rw [e]
    simp [gsum]
  · rw [ht, List.length_cons]; omega
  · intro p hp
    rcases List.mem_cons.mp hp with rfl | hp
    · exact hd
    · exact h4 p hp
theorem join_gs (W : List Nat) (t : Tok) (gs : List (List Nat × Tok)) : Txt.join (S [44]) (((W, t) :: gs).map fun p => S p.1) = S (W ++ gsum gs) := by
  have e : ∀ ys : List Str, Txt.join (S [44]) ys = Str.join (S [44]) ys := fun ys => by
    have := join_closes (sep := S [44]) (sep' := S [44]) (ys := ys) rfl
    exact eq_of_beq this
  rw [e]
  induction gs generalizing W t with
  | nil => show S W = _; simp [gsum]
  | cons p gs ih =>
    show S W ++ S [44] ++ Str.join (S [44]) ((p :: gs).map fun p => S p.1) = _
    rw [ih p.1 p.2, S_app, S_app]
    simp [gsum]
theorem strsAre_gvals (gs : List (List Nat × Tok)) : StrsAre (gvals gs) (gs.map fun p => S p.1) := by
  induction gs with
  | nil => exact .nil
  | cons p gs ih => exact .cons _ _ ih
theorem gs_weight {gs : List (List Nat × Tok)} (h : ∀ p ∈ gs, p.1.length = 3) : ((gs.map fun p => S p.1).map (·.length)).sum = 3 * gs.length := by
  induction gs with
  | nil => rfl
  | cons p gs ih =>
    simp only [List.map_cons, List.sum_cons, List.length_cons]
    rw [ih fun q hq => h q (.tail _ hq), S_len, h p (.head _)]
    omega
theorem s_join {prog : Program} {w : World} {A : Around} {E : Value → Shared → Prop} {s : Shared} {x : Str} {t u : Tok} {Q : Value → Shared → Prop} {D' : Addr} {W D : List Nat} {gs : List (List Nat × Tok)} (hx : x = S [44]) (hl : s.heap.IsList D' (gvals ((W, u) :: gs)).toArray) (hW : W.length ≤ 3) (hp : PG D W gs) (hD : D.length ≤ 60)
    (h : ∀ t' k, Q (.str (S (grp D)) t') { s with toks := k }) : wpAny (model prog w) A (call (.builtin "str.join") [.str x t, .ref D']) Q E s := by
  subst hx
  obtain ⟨h1, h2, h3, h4⟩ := hp
  have hs := strsAre_gvals ((W, u) :: gs)
  refine join_listW hl hs (by rw [S_len]; decide) ?_ fun t' k => ?_
  · have := gs_weight h4
    simp only [List.map_cons, List.sum_cons, List.length_cons, List.length_map]
    rw [this, S_len]
    omega
  · rw [join_gs, ← grp_short hW, h2]; exact h t' k
local macro_rules | `(tactic| walk_at "binaryOp Add ref ref") => `(tactic| (k_here; k_extra "my cat"))
local macro_rules | `(tactic| walk_at "call builtin:str.join") => `(tactic| (k_here; k_extra "my join"))
local macro_rules | `(tactic| walk_at "call builtin:list.insert") => `(tactic| (k_here; (refine' kl_insert ?F ?N ?f ?e ?U ?z ?_; (case F => k_asm); (case N => k_asm); (case f => rfl); (case U => exact Upd.head (fun _ h => nomatch h)); (case e => exact kl_ins_zero _ _); (case z => (simp [gvals]; rw [sizeLine_eq]; omega))); intro h' F' N'))
local macro_rules | `(tactic| walk_at "my_ext") => `(tactic| (intro y'; (by_cases h0 : y' = Str.ofString "groups"; ((have h1 : ¬ y' = Str.ofString "whole" := by rw [h0]; decide); (have h2 : ¬ y' = Str.ofString "sign" := by rw [h0]; decide); (have h3 : ¬ y' = Str.ofString "part" := by rw [h0]; decide); (have h4 : ¬ y' = Str.ofString "dot" := by rw [h0]; decide); simp only [nfGr, if_pos h0, if_neg h1, if_neg h2, if_neg h3, if_neg h4] <;> rfl)); (by_cases h1 : y' = Str.ofString "whole"; ((have h2 : ¬ y' = Str.ofString "sign" := by rw [h1]; decide); (have h3 : ¬ y' = Str.ofString "part" := by rw [h1]; decide); (have h4 : ¬ y' = Str.ofString "dot" := by rw [h1]; decide); simp only [nfGr, if_pos h1, if_neg h0, if_neg h2, if_neg h3, if_neg h4] <;> rfl)); (by_cases h2 : y' = Str.ofString "sign"; ((have h3 : ¬ y' = Str.ofString "part" := by rw [h2]; decide); (have h4 : ¬ y' = Str.ofString "dot" := by rw [h2]; decide); simp only [nfGr, if_pos h2, if_neg h0, if_neg h1, if_neg h3, if_neg h4] <;> rfl)); (by_cases h3 : y' = Str.ofString "part"; ((have h4 : ¬ y' = Str.ofString "dot" := by rw [h3]; decide); simp only [nfGr, if_pos h3, if_neg h0, if_neg h1, if_neg h2, if_neg h4] <;> rfl)); (by_cases h4 : y' = Str.ofString "dot"; (simp only [nfGr, if_pos h4, if_neg h0, if_neg h1, if_neg h2, if_neg h3] <;> rfl)); simp only [nfGr, if_neg h0, if_neg h1, if_neg h2, if_neg h3, if_neg h4]))
local macro_rules | `(tactic| walk_at "my_extx") => `(tactic| (intro y' hx; (by_cases h0 : y' = Str.ofString "groups"; ((have h1 : ¬ y' = Str.ofString "whole" := by rw [h0]; decide); (have h2 : ¬ y' = Str.ofString "sign" := by rw [h0]; decide); (have h3 : ¬ y' = Str.ofString "part" := by rw [h0]; decide); (have h4 : ¬ y' = Str.ofString "dot" := by rw [h0]; decide); simp only [nfGr, if_pos h0, if_neg h1, if_neg h2, if_neg h3, if_neg h4, if_neg hx] <;> rfl)); (by_cases h1 : y' = Str.ofString "whole"; ((have h2 : ¬ y' = Str.ofString "sign" := by rw [h1]; decide); (have h3 : ¬ y' = Str.ofString "part" := by rw [h1]; decide); (have h4 : ¬ y' = Str.ofString "dot" := by rw [h1]; decide); simp only [nfGr, if_pos h1, if_neg h0, if_neg h2, if_neg h3, if_neg h4, if_neg hx] <;> rfl)); (by_cases h2 : y' = Str.ofString "sign"; ((have h3 : ¬ y' = Str.ofString "part" := by rw [h2]; decide); (have h4 : ¬ y' = Str.ofString "dot" := by rw [h2]; decide); simp only [nfGr, if_pos h2, if_neg h0, if_neg h1, if_neg h3, if_neg h4, if_neg hx] <;> rfl)); (by_cases h3 : y' = Str.ofString "part"; ((have h4 : ¬ y' = Str.ofString "dot" := by rw [h3]; decide); simp only [nfGr, if_pos h3, if_neg h0, if_neg h1, if_neg h2, if_neg h4, if_neg hx] <;> rfl)); (by_cases h4 : y' = Str.ofString "dot"; (simp only [nfGr, if_pos h4, if_neg h0, if_neg h1, if_neg h2, if_neg h3, if_neg hx] <;> rfl)); simp only [nfGr, if_neg h0, if_neg h1, if_neg h2, if_neg h3, if_neg h4, if_neg hx]))
theorem gr_fin {a sg D dt P r : List Nat} (hs : sg = a) (hrp : dt ++ P = r) : S (a ++ grp D ++ dt ++ P) = S (sg ++ grp D ++ r) := by rw [← hs, ← hrp, List.append_assoc]
theorem c_grouped (w : World) (mean : ExcName → Option Value) (mg mb : Str → Option Value) (sg D r dt P : List Nat) (tx : Tok) (hsg : sg = [] ∨ sg = [45]) (hD : Figs D) (hD0 : D ≠ []) (hl : D.length ≤ 60) (hr : r.length ≤ 60)
    (hp : Txt.partition (S (sg ++ D ++ r)) (S [46]) = (S (sg ++ D), S dt, S P)) (hrp : dt ++ P = r) :
    Spec w mean mg mb 2 20 174 ⟨[.str (S (sg ++ D ++ r)) tx], []⟩ [] (RStr (S (sg ++ grp D ++ r))) := by
  k_with_none
  k_with "my partition" =>
    refine s_part (a := sg ++ D ++ r) (b := [46]) rfl lit_dot (by walk_at "my_len") rfl hp (by k_asm) (by k_asm) ?_
    intro D9 t91 t92 t93 h9 tk9 F9 N9
    try k_fold
  k_with "my slice" =>
    (with_reducible rename Fr _ _ _ _ => F')
    (with_reducible rename News _ _ _ _ => N')
    first
      | refine s_takeE (s := ⟨_, _, _, _, _⟩) (a := sg ++ D) (r := (sg ++ D).take 1) rfl (by walk_at "my_len") (by walk_at "my_len") (by walk_at "my_len") rfl F' N' ?_
      | refine s_dropE (s := ⟨_, _, _, _, _⟩) (a := sg ++ D) (r := D) rfl (by walk_at "my_len") (by walk_at "my_len") (by walk_at "my_len") (by rw [hs]; simp) F' N' ?_
      | refine s_last3 (s := ⟨_, _, _, _, _⟩) (a := W9) rfl (by omega) (by walk_at "my_len") F' N' ?_
      | refine s_but3 (s := ⟨_, _, _, _, _⟩) (a := W9) rfl (by omega) (by walk_at "my_len") F' N' ?_
    intro _ _ _ _ _
  k_with "my while" =>
    refine gr_while (L := L) (g := g) (D := D) (by assumption) (by assumption) hD0 PassesOwn.never ?_ ?_
    intro W9 t9 gs9 n9 h9 tk9 hp9 F9 N9
    have hw9 := pg_len hp9
    dsimp only [nfGr] at F9
    try k_fold
    rotate_left
    intro W9 t9 gs9 n9 h9 tk9 hp9 hw3 F9 N9
    have hw9 := pg_len hp9
    dsimp only [nfGr] at F9
    try k_fold
    rotate_left
  k_with "my turn" =>
    exact gr_end (by assumption) (by walk_at "my_ext") (by assumption) (pg_turn hp9 (by omega))
  k_with "my cat" =>
    refine' kmk_add_lit (zs := gvals ((W9, _) :: gs9)) ?cF ?cN ?cla ?clb ?cle ?_ ?clz
    (case cF => k_asm)
    (case cN => k_asm)
    (case cla => kmk_list)
    (case clb => kmk_list)
    (case cle => rfl)
    (case clz => (simp [gvals]; rw [sizeLine_eq]; omega))
    intro D' h' F' N' l1
    try k_fold
  k_with "my join" =>
    refine s_join (W := W9) (gs := gs9) (D := D) (u := t9) lit_comma (News.isList (by k_asm) (List.Mem.head _)) hw3 hp9 (by omega) ?_
    intro _ _
  k_with "my eq" =>
    refine s_eq (a := (sg ++ D).take 1) (b := [45]) rfl lit_minus (by assumption) ?_
  refine' spec_of (binds := [(Str.ofString "text", .str (S (sg ++ D ++ r)) tx)]) ?k6 ?k7 ?k9 ?kB ?c2 ?c3 ?c4 ?c5 ?_
  k_dflt walk_at "my_side"
  intro dp un gd outer A₀ base g L s Q E B F X N T hd hu hkl hret htk
  have hdl : 1 ≤ D.length := List.length_pos_iff.mpr hD0
  have hsl : sg.length ≤ 1 := by rcases hsg with h | h <;> rw [h] <;> simp
  have hpl : dt.length + P.length = r.length := by rw [← hrp, List.length_append]
  have heq : sg = [45] ∧ ((sg ++ D).take 1 == [45]) = true ∨ sg = [] ∧ ((sg ++ D).take 1 == [45]) = false := by
    rcases hsg with h | h
    · right
      refine ⟨h, ?_⟩
      rw [h]
      cases D with
      | nil => exact absurd rfl hD0
      | cons c D' =>
        have := hD c List.mem_cons_self
        simp
        omega
    · left
      refine ⟨h, ?_⟩
      rw [h]; simp
  have hgl := grp_length D
  clear hsg
  rcases heq with ⟨hs, heq⟩ | ⟨hs, heq⟩
  all_goals have hsl2 := congrArg List.length hs
  all_goals simp only [List.length_cons, List.length_nil] at hsl2
  all_goals refine wpAny_noRaise ?_
  all_goals k_steps
  all_goals first
    | exact gr_stop (by assumption) (fun _ => rfl) (by assumption) (And.intro hp9 (by dsimp only; omega))
    | exact hret (Flow.ret (.str _ _)) _ [] _ _ _ rfl (by assumption) (fun _ h => nomatch h) (RStr_of (gr_fin hs hrp))
local macro_rules | `(tactic| walk_at "pyIter str") => `(tactic| ((rename Fr _ _ _ _ => F'); (rename News _ _ _ _ => N'); (with_reducible apply srcC_signsD); (case hh => with_unfolding_all rfl); (case F => with_unfolding_all exact F'); (case N => with_unfolding_all exact N'); (case hsz => (rw [S_len, sizeLine_eq]; omega)); (case' g3 => intros); (case' g2 => (intros; (rename ItemKind.is _ _ _ => i'); (obtain ⟨_, e'⟩ := ItemKind.str_is i'; subst e'); (try (with_reducible refine wpAny_leafK ?_)))); (case' g1 => (intros; (rename ItemKind.is _ _ _ => i'); (obtain ⟨_, e'⟩ := ItemKind.str_is i'; subst e'); (try (with_reducible refine wpAny_leafK ?_))))))
local macro_rules | `(tactic| walk_at "compareOp NotEq str str") => `(tactic| (k_here; k_extra "my ne"))
local macro_rules | `(tactic| walk_at "compareOp Eq ref ref") => `(tactic| (k_here; k_extra "my eqL"))
theorem digs_none {l : List Nat} (hf : Figs l) : (List.filter (fun a => !!(Builtin.Str.occurrences (Str.ofString "0123456789") a 0 (Str.ofString "0123456789").length 1).isEmpty) (signs (S l))) = [] := by
  rw [List.filter_eq_nil_iff]
  intro a ha
  obtain ⟨c, hc, rfl⟩ : ∃ c, c ∈ l ∧ (⟨#[c]⟩ : Str) = a := by simpa [signs, S] using ha
  have h1 := StrLaws.found_one (Str.ofString "0123456789") c
  have h2 : c ∈ (Str.ofString "0123456789").cps.toList := by
    rw [lit_digs, S_cps]
    have := hf c hc
    simp
    omega
  rw [h1, decide_eq_true h2]
  simp
theorem eq_empty {prog : Program} {w : World} {A : Around} {E : Value → Shared → Prop} {s : Shared} {Q : Value → Shared → Prop} {a b : Addr} {ys : List Value} (hl : s.heap.IsList a ys.toArray) (hb : s.heap.IsList b #[]) (hy : ys = []) (hu : A.units < cLine) (h : Q (.bool true) s) :
    wpAny (model prog w) A (compareOp .Eq (.ref a) (.ref b)) Q E s := by
  subst hy
  exact PySem.SeqAt.eq_listAt (e := fun _ => true) hl hb rfl hu (fun j h1 _ => absurd h1 (Nat.not_lt_zero _)) h
theorem carried_nil {ys : List Value} {l : List Nat} {f : Str → Bool} (hc : CarriedAll ys (((signs (S l)).filter f).map PyData.str)) (e : (signs (S l)).filter f = []) : ys = [] := by
  rw [e] at hc
  cases hc
  rfl
theorem c_plain (w : World) (mean : ExcName → Option Value) (mg mb : Str → Option Value) (l : List Nat) (tl : Tok) (hf : Figs l) (hl0 : l ≠ []) (hl : l.length ≤ 100) :
    Spec w mean mg mb 2 20 153 ⟨[.str (S l) tl], []⟩ [] (RBool true) := by
  k_with_none
  k_with "my ne" =>
    refine s_ne (a := l) (b := []) rfl lit_empty (r := false) (by simpa using hl0) ?_
  k_with "my eqL" =>
    (with_reducible rename CarriedAll _ _ => hca9)
    (have hys9 := carried_nil hca9 (digs_none hf))
    refine' eq_empty ?hla ?hlb hys9 ?hlu ?_
    (case hla => kmk_list)
    (case hlb => kmk_list)
    (case hlu => (dsimp only; omega))
  refine' spec_of (binds := [(Str.ofString "digits", .str (S l) tl)]) ?k6 ?k7 ?k9 ?kB ?c2 ?c3 ?c4 ?c5 ?_
  k_dflt walk_at "my_side"
  intro dp un gd outer A₀ base g L s Q E B F X N T hd hu hkl hret htk
  refine wpAny_noRaise ?_
  k_steps
  all_goals exact hret (Flow.ret (.bool _)) _ [] _ _ _ rfl (by assumption) (fun _ h => nomatch h) ⟨rfl, rfl⟩
local macro_rules | `(tactic| walk_at "compareOp In str ref") => `(tactic| (k_here; k_extra "my inT"))
local macro_rules | `(tactic| walk_at "call ref") => `(tactic| (k_here; (with_reducible show wpAny _ _ (call (Value.ref 153) [Value.str _ _]) _ _ _); k_dflt (refine' useB (c_plain _ _ _ _ _ _ ?p1 ?p2 ?p3) ?kB ?kF ?kX ?kN ?kT ?kC ?kD ?kU ?_; walk_at "my_call"; (case p1 => assumption); (case p2 => assumption); (case p3 => walk_at "my_len")); intro h9 tk9 F9 N9; (try dsimp only); (try k_fold)))
theorem s_powI {prog : Program} {w : World} {A : Around} {E : Value → Shared → Prop} {s : Shared} {t u : Tok} {Q : Value → Shared → Prop} {n k : Int} (h0 : 0 ≤ k) (hk : k ≤ 1000) (ha : n.natAbs < 2 ^ 64) (h : ∀ t' k', Q (.int (n ^ k.toNat) t') { s with toks := k' }) : wpAny (model prog w) A (binaryOp .Pow (.int n t) (.int k u)) Q E s := by
  obtain ⟨m, rfl⟩ : ∃ m : Nat, k = m := ⟨k.toNat, by omega⟩
  rw [Int.toNat_natCast] at h
  exact s_pow (by omega) ha h
theorem bits_pow10 {k : Nat} (h : k ≤ 25) : Builtin.Int.intBits ((10 : Int) ^ k) ≤ 101 := by
  have := bits_p10 (T := 1) (m := 1) (by decide) k
  rw [Int.one_mul] at this
  omega
theorem rd_bits {V sg : Int} {e : Nat} (h : Builtin.Int.intBits V ≤ 100) (hs : Builtin.Int.intBits sg ≤ 1) (he : e = 0) : Builtin.Int.intBits (sg * V * 10 ^ e) ≤ 160 := by
  subst he
  rw [Int.pow_zero, Int.mul_one]
  exact Nat.le_trans (PyProof.Rows.bits_mul hs h) (by omega)
theorem rd_dbl {w : World} {n1 n2 d1 d2 : Int} {o dx : Addr} {k1 t1 k2 t2 : Nat} (hn : n1 = n2) (hd : d1 = d2) : RDbl w (mkN n2 d2) (mkD n2 d2) (.ref o) (dbl w o dx (mkN n1 d1) (mkD n1 d1) k1 t1 k2 t2) := by
  subst hn; subst hd
  exact ⟨_, _, _, _, _, _, rfl, rfl⟩
theorem rd_n {V : Int} {sg s' : Int} {e : Nat} (hs : sg = s') (he : e = 0) : sg * V * 10 ^ e = s' * V := by subst he; subst hs; rw [Int.pow_zero, Int.mul_one]
theorem rd_d {e k : Nat} (h : e = k) : (10 : Int) ^ e = 10 ^ k := by rw [h]
theorem S_beq (a b : List Nat) : (S a == S b) = (a == b) := by
  rw [Bool.eq_iff_iff, beq_iff_eq, beq_iff_eq]
  exact ⟨fun h => congrArg (fun x : Str => x.cps.toList) h, fun h => by rw [h]⟩
theorem s_inT2 {prog : Program} {w : World} {A : Around} {E : Value → Shared → Prop} {s : Shared} {D : Addr} {x y z : Str} {a b c : List Nat} {t ty tz : Tok} {Q : Value → Shared → Prop} {r : Bool} (hx : x = S a) (hy : y = S b) (hz : z = S c) {items : Array Value} (ht : IsTup s.heap D items) (hi : items.toList = [.str y ty, .str z tz]) (hr : (b == a || c == a) = r) (h : Q (.bool r) s) :
    wpAny (model prog w) A (compareOp .In (.str x t) (.ref D)) Q E s := by
  subst hx; subst hy; subst hz
  refine in_tuple_strs ht (by rw [hi]; exact .cons _ _ (.cons _ _ .nil)) ?_
  have : ([S b, S c].any (· == S a)) = r := by
    rw [← hr]
    simp only [List.any_cons, List.any_nil, S_beq, Bool.or_false]
  rw [this]; exact h
local macro_rules | `(tactic| bits_by_make) => `(tactic| first | with_reducible assumption | exact bits_lit (by decide) | exact bits_pow10 (by omega) | exact bits_pow10 (by split <;> omega) | ((with_reducible apply PyProof.Rows.bits_mul) <;> bits_by_make))
local macro_rules | `(tactic| walk_at "binaryOp Pow int int") => `(tactic| (k_here; refine s_powI (by omega) (by omega) (by decide) ?_; intro _ _))
local macro_rules | `(tactic| walk_at "call ref") => `(tactic| (k_here; (with_reducible show wpAny _ _ (call (Value.ref 116) [Value.int _ _, Value.int _ _]) _ _ _); k_dflt (refine' useD (c_mk _ _ _ _ _ _ _ _ ?p1 ?p2 ?p3) ?kB ?kF ?kX ?kN ?kT ?kC ?kD ?kU ?_; walk_at "my_call"; (case p1 => first | assumption | omega | exact Int.pow_pos (by decide)); (case p2 => first | exact rd_bits (by assumption) (by decide) (by split <;> omega) | exact Nat.le_trans (by bits_by_make) (by omega)); (case p3 => first | exact Nat.le_trans (bits_pow10 (by split <;> omega)) (by omega) | exact Nat.le_trans (bits_pow10 (by omega)) (by omega) | exact Nat.le_trans (by bits_by_make) (by omega))); intro o9 dx9 k91 t91 k92 t92 h9 tk9 F9 N9; (try dsimp only); (try k_fold)))
theorem c_read (w : World) (mean : ExcName → Option Value) (mg mb : Str → Option Value) (sg W tl dt P : List Nat) (tx : Tok) (hsg : sg = [] ∨ sg = [45]) (hf : Figs (W ++ P)) (hW0 : W ≠ []) (hl : W.length ≤ 60) (hr : tl.length ≤ 60)
    (hp2 : Txt.partition (S (W ++ tl)) (S [46]) = (S W, S dt, S P)) (htl : dt ++ P = tl) (hdt : ∀ c ∈ dt, c = 46) (hb : Builtin.Int.intBits (NumText.digitsVal (W ++ P) : Int) ≤ 100) (hP : P.length ≤ 20) :
    Spec w mean mg mb 12 50 160 ⟨[.str (S (sg ++ (W ++ tl))) tx], []⟩ [] (RDbl w (mkN ((if sg = [45] then -1 else 1) * (NumText.digitsVal (W ++ P) : Int)) (10 ^ P.length)) (mkD ((if sg = [45] then -1 else 1) * (NumText.digitsVal (W ++ P) : Int)) (10 ^ P.length))) := by
  k_with_none
  k_with "my slice" =>
    (with_reducible rename Fr _ _ _ _ => F')
    (with_reducible rename News _ _ _ _ => N')
    first
      | refine s_takeE (s := ⟨_, _, _, _, _⟩) (a := sg ++ (W ++ tl)) (r := [c0]) rfl (by walk_at "my_len") (by walk_at "my_len") (by walk_at "my_len") (by rw [Int.toNat_one]; exact htk1) F' N' ?_
      | refine s_dropE (s := ⟨_, _, _, _, _⟩) (a := sg ++ (W ++ tl)) (r := W ++ tl) rfl (by walk_at "my_len") (by walk_at "my_len") (by walk_at "my_len") (by simp [hs]) F' N' ?_
    intro _ _ _ _ _
  k_with "my eq" =>
    first
      | refine s_eq (a := [c0]) (b := [45]) rfl lit_minus (by assumption) ?_
      | refine s_eq (a := W ++ tl) (b := [110, 97, 110]) (by first | rfl | (rw [hs, List.nil_append])) lit_nan (by assumption) ?_
  k_with "my inT" =>
    first
      | (refine' s_inT2 (a := [c0]) (b := [45]) (c := [43]) (by first | rfl | (rw [hs, List.nil_append])) ?ihy ?ihz ?iht ?ihi ?ihr ?_; (case iht => (with_reducible rename News _ _ _ _ => Nq; exact News.isTup Nq (List.Mem.head _))); (case ihi => rfl); (case ihy => exact lit_minus); (case ihz => exact lit_plus); (case ihr => assumption))
      | (refine' s_inT2 (a := W ++ tl) (b := [105, 110, 102]) (c := [105, 110, 102, 105, 110, 105, 116, 121]) (by first | rfl | (rw [hs, List.nil_append])) ?ihy ?ihz ?iht ?ihi ?ihr ?_; (case iht => (with_reducible rename News _ _ _ _ => Nq; exact News.isTup Nq (List.Mem.head _))); (case ihi => rfl); (case ihy => exact lit_inf); (case ihz => exact lit_infinity); (case ihr => assumption))
  k_with "my partition" =>
    first
      | refine s_part (a := W ++ tl) (b := [101]) (by first | rfl | (rw [hs, List.nil_append])) lit_e (by walk_at "my_len") rfl (part_none hne) (by k_asm) (by k_asm) ?_
      | refine s_part (a := W ++ tl) (b := [46]) rfl lit_dot (by walk_at "my_len") rfl hp2 (by k_asm) (by k_asm) ?_
    intro D9 t91 t92 t93 h9 tk9 F9 N9
    try k_fold
  k_with "my truth" =>
    refine s_truthy (a := []) rfl (by decide) (r := false) rfl ?_
    intro _
  k_with "my int" =>
    first
      | refine s_int (a := W ++ P) rfl (by walk_at "my_len") hint ?_
      | refine s_int (a := [48]) (n := 0) lit_nought (by decide) (by decide +kernel) ?_
    intro _ _
  refine' spec_of (binds := [(Str.ofString "text", .str (S (sg ++ (W ++ tl))) tx)]) ?k6 ?k7 ?k9 ?kB ?c2 ?c3 ?c4 ?c5 ?_
  k_dflt walk_at "my_side"
  intro dp un gd outer A₀ base g L s Q E B F X N T hd hu hkl hret htk
  have hfig : ∀ c ∈ W ++ tl, c = 46 ∨ (48 ≤ c ∧ c ≤ 57) := by
    intro c hc
    rw [← htl] at hc
    rcases List.mem_append.mp hc with hc | hc
    · exact .inr (hf c (List.mem_append_left _ hc))
    · rcases List.mem_append.mp hc with hc | hc
      · exact .inl (hdt c hc)
      · exact .inr (hf c (List.mem_append_right _ hc))
  have hst : KXs.Still (S (sg ++ (W ++ tl))) := by
    intro c hc
    rw [S_cps] at hc
    rcases List.mem_append.mp hc with hc | hc
    · rcases hsg with h | h <;> rw [h] at hc
      · cases hc
      · rw [List.mem_singleton.mp hc]; omega
    · have := hfig c hc
      omega
  have hsl : sg.length ≤ 1 := by rcases hsg with h | h <;> rw [h] <;> simp
  have hSL : (S (sg ++ (W ++ tl))).length ≤ 200 := by rw [S_len, List.length_append, List.length_append]; omega
  have hWP : W ++ P ≠ [] := fun h => hW0 (List.append_eq_nil_iff.mp h).1
  have hWl : 1 ≤ W.length := List.length_pos_iff.mpr hW0
  have hlP : (W ++ P).length ≤ 100 := by rw [List.length_append]; omega
  have hint : PySem.intText? (S (W ++ P)) = some (NumText.digitsVal (W ++ P) : Int) := intText_digits hf hWP (by rw [S_len]; omega)
  have hne : 101 ∉ W ++ tl := fun h => by have := hfig _ h; omega
  obtain ⟨w0, W', hw0⟩ : ∃ w0 W', W = w0 :: W' := by cases hw : W with | nil => exact absurd hw hW0 | cons a b => exact ⟨a, b, rfl⟩
  have hd0 : 48 ≤ w0 ∧ w0 ≤ 57 := hf w0 (by rw [hw0]; exact List.mem_cons_self)
  have hnan : (W ++ tl == [110, 97, 110]) = false := by rw [hw0]; simp; omega
  have hinf : ([105, 110, 102] == W ++ tl || [105, 110, 102, 105, 110, 105, 116, 121] == W ++ tl) = false := by rw [hw0]; simp; omega
  have hcase : ∃ c0, (sg ++ (W ++ tl)).take 1 = [c0] ∧ ((sg = [45] ∧ ([c0] == [45]) = true ∧ ([45] == [c0] || [43] == [c0]) = true) ∨ (sg = [] ∧ ([c0] == [45]) = false ∧ ([45] == [c0] || [43] == [c0]) = false)) := by
    rcases hsg with h | h
    · refine ⟨w0, by rw [h, hw0]; rfl, .inr ⟨h, ?_, ?_⟩⟩
      · simp; omega
      · simp; omega
    · exact ⟨45, by rw [h]; rfl, .inl ⟨h, rfl, rfl⟩⟩
  obtain ⟨c0, htk1, hcase⟩ := hcase
  clear hsg hw0 hd0
  refine wpAny_noRaise ?_
  rcases hcase with ⟨hs, hc1, hc2⟩ | ⟨hs, hc1, hc2⟩
  all_goals have hsl2 := congrArg List.length hs
  all_goals simp only [List.length_cons, List.length_nil] at hsl2
  all_goals k_steps
  all_goals (rename News _ _ _ _ => N9)
  all_goals (refine' hret (Flow.ret (.ref _)) _ (dbl w _ _ _ _ _ _ _ _) _ _ _ rfl (by assumption) ?rdm (rd_dbl (rd_n ?rda ?rdb) (rd_d ?rdc)); (case rdm => exact fun q hq => N9 q (keep2 (.head _) (.tail _ (.head _)) q hq)); (case rdb => split <;> omega); (case rdc => split <;> omega); (case rda => first | exact (if_pos hs).symm | exact (if_neg (by rw [hs]; decide)).symm))
theorem news2 {g : Heap} {L : Addr} {h : Heap} {p q : Addr × Obj} {r : Led} (N : News g L h (p :: q :: r)) : News g L h [p, q] := fun x hx => N x (keep2 (.head _) (.tail _ (.head _)) x hx)
theorem c_near0 (w : World) (mean : ExcName → Option Value) (mg mb : Str → Option Value) (d : Int) (tn td : Tok) (hd0 : 0 < d) :
    Spec w mean mg mb 4 20 219 ⟨[.int 0 tn, .int d td], []⟩ [] (RTup 0 1) := by
  k_with_none
  refine' spec_of (binds := [(Str.ofString "n", .int 0 tn), (Str.ofString "d", .int d td)]) ?k6 ?k7 ?k9 ?kB ?c2 ?c3 ?c4 ?c5 ?_
  k_dflt walk_at "my_side"
  intro dp un gd outer A₀ base g L s Q E B F X N T hd hu hkl hret htk
  refine wpAny_noRaise ?_
  k_steps
  all_goals (rename News _ _ _ _ => N9)
  all_goals exact hret (Flow.ret (.ref _)) _ _ _ _ _ rfl (by assumption) (fun q hq => N9 q (sub1 hq)) (RTup_of rfl rfl)
local macro_rules | `(tactic| walk_at "call ref") => `(tactic| (k_here; (with_reducible show wpAny _ _ (call (Value.ref 160) [Value.str _ _]) _ _ _); k_extra "my read"))
local macro_rules | `(tactic| walk_at "call ref") => `(tactic| (k_here; (with_reducible show wpAny _ _ (call (Value.ref 116) [Value.int _ _]) _ _ _); k_dflt (refine' useD (c_mk1 _ _ _ _ _ _ ?p1) ?kB ?kF ?kX ?kN ?kT ?kC ?kD ?kU ?_; walk_at "my_call"; (case p1 => first | assumption | bits_by_make)); intro o9 dx9 k91 t91 k92 t92 h9 tk9 F9 N9; (try dsimp only); (try k_fold)))
theorem c_doubleD (w : World) (mean : ExcName → Option Value) (mg mb : Str → Option Value) (x dx : Addr) (n d : Int) (k1 t1 k2 t2 : Nat) :
    Spec w mean mg mb 2 12 127 ⟨[.ref x], []⟩ (dbl w x dx n d k1 t1 k2 t2) (fun v after => after = dbl w x dx n d k1 t1 k2 t2 ∧ ∃ t : Tok, v = (fun _ => .ref x) t) := by
  k_with_none
  refine' spec_of (binds := [(Str.ofString "value", .ref x)]) ?k6 ?k7 ?k9 ?kB ?c2 ?c3 ?c4 ?c5 ?_
  k_dflt walk_at "my_side"
  intro dp un gd outer A₀ base g L s Q E B F X N T hd hu hkl hret htk
  k_steps
  all_goals exact hret (Flow.ret (.ref _)) _ (dbl w x dx n d k1 t1 k2 t2) _ _ _ rfl (by assumption) (by walk_at "my_keep") ⟨rfl, 0, rfl⟩
theorem c_doubleI (w : World) (mean : ExcName → Option Value) (mg mb : Str → Option Value) (n : Int) (tn : Tok) (hbn : Builtin.Int.intBits n ≤ 160) :
    Spec w mean mg mb 12 50 127 ⟨[.int n tn], []⟩ [] (RDbl w (mkN n 1) (mkD n 1)) := by
  k_with_none
  refine' spec_of (binds := [(Str.ofString "value", .int n tn)]) ?k6 ?k7 ?k9 ?kB ?c2 ?c3 ?c4 ?c5 ?_
  k_dflt walk_at "my_side"
  intro dp un gd outer A₀ base g L s Q E B F X N T hd hu hkl hret htk
  refine wpAny_noRaise ?_
  k_steps
  all_goals (rename News _ _ _ _ => N9)
  all_goals exact hret (Flow.ret (.ref _)) _ _ _ _ _ rfl (by assumption) (news2 N9) ⟨_, _, _, _, _, _, rfl, rfl⟩
theorem c_doubleS (w : World) (mean : ExcName → Option Value) (mg mb : Str → Option Value) (x : Str) (tx : Tok) (n d : Int) (hr : Spec w mean mg mb 12 50 160 ⟨[.str x tx], []⟩ [] (RDbl w n d)) :
    Spec w mean mg mb 14 60 127 ⟨[.str x tx], []⟩ [] (RDbl w n d) := by
  k_with_none
  k_with "my read" =>
    k_dflt (refine' useD hr ?kB ?kF ?kX ?kN ?kT ?kC ?kD ?kU ?_; walk_at "my_call")
    intro o9 dx9 k91 t91 k92 t92 h9 tk9 F9 N9
    try dsimp only
    try k_fold
  refine' spec_of (binds := [(Str.ofString "value", .str x tx)]) ?k6 ?k7 ?k9 ?kB ?c2 ?c3 ?c4 ?c5 ?_
  k_dflt walk_at "my_side"
  intro dp un gd outer A₀ base g L s Q E B F X N T hd hu hkl hret htk
  refine wpAny_noRaise ?_
  k_steps
  all_goals (rename News _ _ _ _ => N9)
  all_goals exact hret (Flow.ret (.ref _)) _ _ _ _ _ rfl (by assumption) (news2 N9) ⟨_, _, _, _, _, _, rfl, rfl⟩
section
variable {prog : Program} {w : World} {A : Around} {E : Value → Shared → Prop} {s : Shared}
theorem pyHash_none {Q : Int → Shared → Prop} (h : Q 0xFCA86420 { s with toks := s.toks + 1 }) : wpAny (model prog w) A (pyHash .none) Q E s := by
  unfold pyHash
  have hT : s.TypeIs .none "NoneType" := rfl
  have f1 := PySem.F.slot_NoneType_hash.lookup
  have hv : [Value.none].any Value.onHeap = false := rfl
  unfold pyHashByItsType
  refine wpAny_bind ?_
  rw [cRoomFor, if_neg (by rw [hv]; exact Bool.false_ne_true)]; refine wpAny_pure ?_
  refine wpAny_bind (wpAny_specialOf hT f1 ?_)
  show wpAny _ _ (if (some (Value.builtin "NoneType.__hash__") == some Value.none) = true then _ else _) Q E s
  rw [if_neg (by decide)]
  refine wpAny_bind (wpAny_specialOf hT f1 ?_)
  show wpAny _ _ (callSpecialIfBoundUnlessNone? .none "__hash__" _ >>= _) Q E s
  refine wpAny_bind (wpAny_callSpecialIfBoundUnlessNone?_slot hT PySem.F.slot_NoneType_hash
    (wpAny_call_entry PySem.F.slot_NoneType_hash hT PySem.F.entry_NoneType_hash (show wpAny _ _ (do ret (← mkInt 0xFCA86420)) _ _ s from wpAny_ret_mkInt ?_) (PySem.F.args_NoneType_hash_1 _)))
  exact wpAny_pure h
end
/-- the keys: None, or a text -/
def isOpt : Option Str → Value → Bool
  | none, .none => true
  | some x, v => Value.isStrOf x v
  | _, _ => false
theorem isOpt_none {v : Value} (h : isOpt none v = true) : v = .none := by cases v <;> simp_all [isOpt]
theorem isOpt_shape {k : Option Str} {v : Value} (h : isOpt k v = true) : (k = none ∧ v = .none) ∨ ∃ x t, k = some x ∧ v = .str x t := by
  cases k with
  | none => exact .inl ⟨rfl, isOpt_none h⟩
  | some x => obtain ⟨t, rfl⟩ := Value.isStrOf_shape h; exact .inr ⟨x, t, rfl, rfl⟩
theorem eqBool_none_str {prog : Program} {w : World} {A : Around} {E : Value → Shared → Prop} {s : Shared} {x : Str} {t : Tok} {Q : Bool → Shared → Prop} (h : Q false s) : wpAny (model prog w) A (eqBool .none (.str x t)) Q E s := by
  unfold eqBool
  refine wpAny_holding ?_
  show wpAny _ _ (if (Value.none == Value.str x t) = true then _ else _) Q E s
  rw [if_neg (by exact Bool.false_ne_true)]
  exact wpAny_bind (PySem.EqNone.eq_none_str (wpAny_truthy_bool h))
theorem eqBool_str_none {prog : Program} {w : World} {A : Around} {E : Value → Shared → Prop} {s : Shared} {x : Str} {t : Tok} {Q : Bool → Shared → Prop} (h : Q false s) : wpAny (model prog w) A (eqBool (.str x t) .none) Q E s := by
  unfold eqBool
  refine wpAny_holding ?_
  show wpAny _ _ (if (Value.str x t == Value.none) = true then _ else _) Q E s
  rw [if_neg (by exact Bool.false_ne_true)]
  exact wpAny_bind (PySem.EqNone.eq_str_none (wpAny_truthy_bool h))
def optKind (prog : Program) (w : World) : PySem.KeyKind prog w (Option Str) where
  is := isOpt
  hash := fun k => match k with | none => 0xFCA86420 | some x => hashStr w x
  inj := fun v a b ha hb => by
    rcases isOpt_shape ha with ⟨rfl, rfl⟩ | ⟨x, t, rfl, rfl⟩ <;> rcases isOpt_shape hb with ⟨rfl, e⟩ | ⟨y, u, rfl, e⟩
    · rfl
    · cases e
    · cases e
    · injection e with e; rw [e]
  byValue := fun k v h => by rcases isOpt_shape h with ⟨rfl, rfl⟩ | ⟨x, t, rfl, rfl⟩ <;> rfl
  pyHash := fun hv h => by
    rcases isOpt_shape hv with ⟨rfl, rfl⟩ | ⟨x, t, rfl, rfl⟩
    · exact pyHash_none h
    · exact wpAny_pyHash_str h
  eqBool := fun hu hv h => by
    rcases isOpt_shape hu with ⟨rfl, rfl⟩ | ⟨x, t, rfl, rfl⟩ <;> rcases isOpt_shape hv with ⟨rfl, rfl⟩ | ⟨y, u, rfl, rfl⟩
    · exact PySem.SeqAt.EqAt.same (A := _) (s := _) .none _ _ _ _ (by simpa using h)
    · exact eqBool_none_str (by simpa using h)
    · exact eqBool_str_none (by simpa using h)
    · exact wpAny_eqBool_str (by simpa using h)
  «strs» := fun k x t v h => by
    rcases isOpt_shape h with ⟨rfl, e⟩ | ⟨y, u, rfl, e⟩
    · cases e
    · injection e with e; subst e; cases v <;> rfl
def TextKeys (w : World) : List DictEntry → Prop
  | [] => True
  | e :: r => (∃ x t, e.key = .str x t ∧ e.hash = PyData.keyHash w.params x) ∧ TextKeys w r
theorem textKeys_all {w : World} : ∀ {l : List DictEntry}, TextKeys w l → ∀ e ∈ l, ∃ x t, e.key = .str x t ∧ e.hash = PyData.keyHash w.params x
  | [], _, _, h => nomatch h
  | _ :: _, hl, e, h => by
    rcases List.mem_cons.mp h with rfl | h
    · exact hl.1
    · exact textKeys_all hl.2 e h
theorem get_none {prog : Program} {w : World} {A : Around} {E : Value → Shared → Prop} {s : Shared} {d : Addr} {o : Obj} {es : Array DictEntry} {ep : Nat} {dflt : Value} {Q : Value → Shared → Prop} (ho : s.heap.get? d = some o) (hc : o.ExactDict) (hd : o.data = .dict es ep)
    (hk : TextKeys w es.toList) (hlow : (d == sysModules) = false) (h : Q dflt { s with toks := s.toks + 1 }) : wpAny (model prog w) A (call (.builtin "dict.get") [.ref d, .none, dflt]) Q E s := by
  have hm : s.heap.MapOf (optKind prog w) d (fun k => PySem.findBy (optKind prog w).is es k) := by
    refine ⟨o, es, ep, ho, hc, hd, fun e he => ?_, fun _ => rfl⟩
    obtain ⟨x, t, e1, e2⟩ := textKeys_all hk e (Array.mem_toList_iff.mpr he)
    refine ⟨some x, ?_, e2⟩
    rw [e1]
    show Value.isStrOf x (.str x t) = true
    simp [Value.isStrOf]
  have hn : PySem.findBy (optKind prog w).is es none = none := by
    unfold PySem.findBy
    rw [Option.map_eq_none_iff, Array.find?_eq_none]
    intro e he
    obtain ⟨x, t, e1, _⟩ := textKeys_all hk e (Array.mem_toList_iff.mpr he)
    rw [e1]
    exact Bool.false_ne_true
  refine call_meetsIn PySem.F.slot_dict_get hm.typeIs PySem.F.entry_dict_get (PySem.F.args_dict_get_3 _ _ _) (meets_dict_get_default (optKind prog w) d (k := none) rfl hlow dflt) ⟨_, hm, ?_⟩
  show Q ((PySem.findBy (optKind prog w).is es none).getD dflt) _
  rw [hn]
  exact h
/-- the same with commas -/
def laidG (n d : Int) (k : Nat) : List Nat :=
  (if n < 0 then [45] else []) ++ grp (dg ((rnd ((if n < 0 then -n else n) * 10 ^ k) d).toNat / 10 ^ k)) ++ (if 0 < k then 46 :: pd k (rnd ((if n < 0 then -n else n) * 10 ^ k) d).toNat else [])
theorem sg_free {n : Int} {l : List Nat} (h : Figs l) : 46 ∉ (if n < 0 then [45] else []) ++ l := by
  intro hm
  rcases List.mem_append.mp hm with hm | hm
  · split at hm
    · rw [List.mem_singleton] at hm; omega
    · cases hm
  · have := h 46 hm; omega
theorem c_groupedF (w : World) (mean : ExcName → Option Value) (mg mb : Str → Option Value) (n d : Int) (k : Nat) (tx : Tok) (hk : k ≤ 20) (hlen : (dg ((rnd ((if n < 0 then -n else n) * 10 ^ k) d).toNat / 10 ^ k)).length ≤ 60) :
    Spec w mean mg mb 2 20 174 ⟨[.str (S (laidF n d k)) tx], []⟩ [] (RStr (S (laidG n d k))) := by
  unfold laidF laidG
  rw [← List.append_assoc]
  have hs : (if n < 0 then [45] else [] : List Nat) = [] ∨ (if n < 0 then [45] else [] : List Nat) = [45] := by
    split
    · exact .inr rfl
    · exact .inl rfl
  by_cases h0 : 0 < k
  · rw [if_pos h0]
    exact c_grouped w mean mg mb _ _ _ [46] (pd k (rnd ((if n < 0 then -n else n) * 10 ^ k) d).toNat) tx hs (figs_dg _) (dg_ne _) hlen (by rw [List.length_cons, pd_length]; omega) (part_some (sg_free (figs_dg _))) rfl
  · rw [if_neg h0]
    exact c_grouped w mean mg mb _ _ [] [] [] tx hs (figs_dg _) (dg_ne _) hlen (by simp) (by rw [List.append_nil]; exact part_none (sg_free (figs_dg _))) rfl
local macro_rules | `(tactic| walk_at "call ref") => `(tactic| (k_here; (with_reducible show wpAny _ _ (call (Value.ref 134) _) _ _ _); k_extra "my isfinite"))
local macro_rules | `(tactic| walk_at "call ref") => `(tactic| (k_here; (with_reducible show wpAny _ _ (call (Value.ref 127) _) _ _ _); k_extra "my double"))
local macro_rules | `(tactic| walk_at "call ref") => `(tactic| (k_here; (with_reducible show wpAny _ _ (call (Value.ref 167) _) _ _ _); k_extra "my laid"))
local macro_rules | `(tactic| walk_at "call ref") => `(tactic| (k_here; (with_reducible show wpAny _ _ (call (Value.ref 174) _) _ _ _); k_extra "my grouped"))
local macro_rules | `(tactic| walk_at "my_side") => `(tactic| ((case k6 => k_is); (case k7 => k_is); (case k9 => (intro s' X'; first | exact BindsTo.of_eq rfl | exact binds_K X' rfl (by k_is) rfl rfl rfl)); (case c5 => decide); (case kB => exact locs rfl); (case c2 => exact rfl); (case c3 => exact rfl); (case c4 => exact rfl); k_whole))
theorem get_noneK {prog : Program} {w : World} {A : Around} {E : Value → Shared → Prop} {s : Shared} {d : Addr} {es : Array DictEntry} {ep : Nat} {dflt : Value} {Q : Value → Shared → Prop} {K : Frag} {h₀ : Heap} {L : Addr} {m : Str → Option Value} (F : Fr h₀ L s.heap m) (X : K.In h₀)
    (ho : K.lookup d = some ⟨.type "dict", none, .dict es ep, #[]⟩) (hk : TextKeys w es.toList) (hlow : (d == sysModules) = false) (h : Q dflt { s with toks := s.toks + 1 }) : wpAny (model prog w) A (call (.builtin "dict.get") [.ref d, .none, dflt]) Q E s :=
  get_none (X.keeps F.keep _ _ ho) ⟨rfl, rfl, rfl⟩ rfl hk hlow h
local macro_rules | `(tactic| walk_at "call builtin:dict.get") => `(tactic| (k_here; (with_reducible show wpAny _ _ (call (Value.builtin "dict.get") [Value.ref _, Value.none, _]) _ _ _); (with_reducible rename Fr _ _ _ _ => F'); (with_reducible rename Frag.In _ _ => X'); (refine' get_noneK F' X' ?gno ?gnk ?gnl ?_; (case gno => k_is); (case gnl => decide); (case gnk => ((repeat refine ⟨⟨_, _, rfl, rfl⟩, ?_⟩); exact True.intro)))))
def SpecT (w : World) (mean : ExcName → Option Value) (mg mb : Str → Option Value) (D U : Nat) (f : Addr) (args : Args) (R : Nat → Value → Nat → Prop) : Prop :=
  ∀ (dp un : Nat) (gd : Option (List Code)) (cn : Str) (cs : Scope) (a : Addr) (ccd : Value) (cl : List (Str × Addr)) (outer : List Env) (A₀ : Around) (base h₀ : Heap) (L : Addr) (m : Str → Option Value) (news : Led) (s : Shared) (Q E : Value → Shared → Prop),
    Below A₀ base outer h₀ → Fr h₀ L s.heap m → (hd.heap_39 w.params).In h₀ → News h₀ L s.heap news → MyTop mean mg mb h₀ →
    cs.kind = .function → dp + D < recursionLimit → un + U < cLine →
    (∀ v h' tk', Fr h₀ L h' m → News h₀ L h' news → R s.toks v tk' → Q v { s with heap := h', toks := tk' }) →
    wpAny (model PySem.Challenge.rw_fe0129_01.row.prog w) (ktrTop dp un gd cn cs L a ccd cl outer) (call (.ref f) args.pos args.kw) Q E s
def BodySpecT (w : World) (mean : ExcName → Option Value) (mg mb : Str → Option Value) (D U : Nat) (f : Addr) (qual : Str) (scope : Scope) (cdv : Value) (body : List Stmt) (R : Nat → Value → Nat → Prop) : Prop :=
  ∀ (dp un : Nat) (gd : Option (List Code)) (outer : List Env) (A₀ : Around) (base g : Heap) (L : Addr) (s : Shared) (Q : Flow → Shared → Prop) (E : Value → Shared → Prop),
    Below A₀ base outer g → Fr g L s.heap (fun y => List.lookup y ([] : List (Str × Value)).reverse) → (hd.heap_39 w.params).In g → News g L s.heap [] → MyTop mean mg mb g →
    dp + D < recursionLimit → un + U < cLine →
    (∀ fl v m' h' tk', (match fl with | .ret v => v | _ => .none) = v → Fr g L h' m' → R s.toks v tk' → Q fl { s with heap := h', toks := tk' }) →
    wpAny (model PySem.Challenge.rw_fe0129_01.row.prog w) { handled := none, depth := dp, frames := some (envOf qual scope L f cdv :: outer), guards := gd, units := un } (execs body (envOf qual scope L f cdv)) Q E s
section
variable {w : World} {mg mb : Str → Option Value} {mean : ExcName → Option Value} {D U : Nat} {R : Nat → Value → Nat → Prop}
  {name qual : Str} {params : Arguments} {body : List Stmt} {scope : Scope} {dV kV doc pm cdv ct oc : Value} {an od : Option Addr} {osl : Array (Option Value)} {f : Addr} {args : Args}
theorem specT_of (ho : (hd.heap_39 w.params).lookup f = some ⟨oc, od, .func (fnOf name qual params body scope dV kV doc pm an cdv ct), osl⟩) (hcd : codeIn (hd.heap_39 w.params) cdv qual = true)
    (hbind : ∀ s, (hd.heap_39 w.params).In s.heap → BindsTo s (fnOf name qual params body scope dV kV doc pm an cdv ct) args []) (hloc : ∀ y ∈ ([] : List (Str × Value)), scope.names.lookup y.1 = some .local)
    (hco : scope.isCoroutine = false) (hgen : scope.isGenerator = false) (hk : scope.kind = .function) (hcell : ∀ x ∈ scope.names, x.2 ≠ .cell)
    (hb : BodySpecT w mean mg mb D U f qual scope cdv body R) : SpecT w mean mg mb (D + 1) (U + 3) f args R := by
  intro dp un gd cn cs a ccd cl outer A₀ base h₀ L m news s Q E B F X N T hck hd hu hret
  refine wpAny_call ?_
  refine enterF (keep := []) B F X N T rfl rfl hck (fun _ h => nomatch h) ho hcd (by show dp < recursionLimit; omega) (hbind s (X.keeps F.keep)) hloc (fun g L' h₁ F' N' B' X' T' hkl => ?_) hco hgen hk hcell
  refine hb (dp + 1) (un + 3) gd (envX cn cs L a ccd cl :: outer) _ base g L' { s with heap := h₁, toks := s.toks } _ _ B' F' X' N' T' (by omega) (by omega) ?_
  intro fl v m' h' tk' hv Fr' hr
  refine ⟨m', h', tk', [], rfl, Fr', (fun _ h => nomatch h), fun hF hN => ?_⟩
  show Q _ _
  cases fl <;> (subst hv; exact hret _ h' tk' hF (hN news (fun _ h => h) (fun _ _ _ h => nomatch h)).1 hr)
end
def RStrT (x : Str) (n : Nat) (v : Value) (n' : Nat) : Prop := ∃ t : Tok, v = .str x t ∧ n ≤ t ∧ t < n'
theorem c_sepT (w : World) (mean : ExcName → Option Value) (mg mb : Str → Option Value) : SpecT w mean mg mb 2 20 183 ⟨[], []⟩ (RStrT (Str.ofString ",")) := by
  k_with_none
  refine' specT_of ?k6 ?k7 ?k9 ?kB ?c2 ?c3 ?c4 ?c5 ?_
  k_dflt walk_at "my_side"
  intro dp un gd outer A₀ base g L s Q E B F X N T hd hu hret
  refine wpAny_noRaise ?_
  k_steps
  all_goals exact hret (Flow.ret (.str _ _)) _ _ _ _ rfl (by assumption) ⟨_, rfl, Nat.le_refl _, Nat.lt_succ_of_lt (Nat.lt_succ_self _)⟩
theorem c_sepD (w : World) (mean : ExcName → Option Value) (mg mb : Str → Option Value) : SpecT w mean mg mb 2 20 190 ⟨[], []⟩ (RStrT (Str.ofString ".")) := by
  k_with_none
  refine' specT_of ?k6 ?k7 ?k9 ?kB ?c2 ?c3 ?c4 ?c5 ?_
  k_dflt walk_at "my_side"
  intro dp un gd outer A₀ base g L s Q E B F X N T hd hu hret
  refine wpAny_noRaise ?_
  k_steps
  all_goals exact hret (Flow.ret (.str _ _)) _ _ _ _ rfl (by assumption) ⟨_, rfl, Nat.le_refl _, Nat.lt_succ_of_lt (Nat.lt_succ_self _)⟩
theorem useRT {w : World} {mg mb : Str → Option Value} {mean : ExcName → Option Value} {D U : Nat} {f : Addr} {args : Args}
    {dp un : Nat} {gd : Option (List Code)} {cn : Str} {cs : Scope} {a : Addr} {ccd : Value} {cl : List (Str × Addr)} {outer : List Env} {A₀ : Around} {base h₀ : Heap} {L : Addr} {m : Str → Option Value} {news : Led} {s : Shared} {Q E : Value → Shared → Prop} {st : Str}
    (h : SpecT w mean mg mb D U f args (RStrT st)) (B : Below A₀ base outer h₀) (F : Fr h₀ L s.heap m) (X : (hd.heap_39 w.params).In h₀) (N : News h₀ L s.heap news) (T : MyTop mean mg mb h₀) (hck : cs.kind = .function)
    (hd : dp + D < recursionLimit) (hu : un + U < cLine)
    (ret : ∀ t h' tk', Fr h₀ L h' m → News h₀ L h' news → s.toks ≤ t → t < tk' → Q (.str st t) { s with heap := h', toks := tk' }) : MyCall w dp un gd cn cs L a ccd cl outer f args Q E s :=
  h dp un gd cn cs a ccd cl outer A₀ base h₀ L m news s Q E B F X N T hck hd hu fun v h' tk' F' N' r => by
    obtain ⟨t, rfl, h1, h2⟩ := r
    exact ret t h' tk' F' N' h1 h2
local macro_rules | `(tactic| walk_at "call ref") => `(tactic| (k_here; (with_reducible show wpAny _ _ (call (Value.ref 183) _) _ _ _); k_dflt (refine' useRT (c_sepT _ _ _ _) ?kB ?kF ?kX ?kN ?kT ?kC ?kD ?kU ?_; walk_at "my_call"); intro t9 h9 tk9 F9 N9 e9 l9; (try dsimp only at e9); (try dsimp only); (try k_fold)))
local macro_rules | `(tactic| walk_at "call ref") => `(tactic| (k_here; (with_reducible show wpAny _ _ (call (Value.ref 190) _) _ _ _); k_dflt (refine' useRT (c_sepD _ _ _ _) ?kB ?kF ?kX ?kN ?kT ?kC ?kD ?kU ?_; walk_at "my_call"); intro t9 h9 tk9 F9 N9 e9 l9; (try dsimp only at e9); (try dsimp only); (try k_fold)))
theorem form_S0 (k : Nat) : Str.empty ++ Str.ofString "%." ++ S (dg (k : Int).toNat) = S (37 :: 46 :: dg k) := by
  rw [lit_pctd, show Str.empty = S [] from rfl, S_app, S_app, Int.toNat_natCast]; rfl
theorem form_S (k : Nat) : Str.empty ++ Str.ofString "%." ++ S (dg (k : Int).toNat) ++ Str.ofString "f" = S (37 :: 46 :: dg k ++ [102]) := by
  rw [form_S0, lit_f, S_app]
theorem form_fit {k : Nat} (h : k ≤ 20) : (Str.empty ++ Str.ofString "%." ++ S (dg (k : Int).toNat)).length ≤ sizeLine ∧ (Str.empty ++ Str.ofString "%." ++ S (dg (k : Int).toNat) ++ Str.ofString "f").length ≤ sizeLine := by
  have h2 : (dg k).length ≤ 2 := dg_length (by decide) (by omega)
  rw [form_S, form_S0, S_len, S_len, sizeLine_eq]
  simp only [List.length_cons, List.length_append, List.length_nil]
  omega
theorem form_fit0 : (Str.empty ++ Str.ofString "%.").length ≤ sizeLine := by rw [lit_pctd, show Str.empty = S [] from rfl, S_app, S_len, sizeLine_eq]; decide
local macro_rules | `(tactic| walk_at "And") => `(tactic| (k_here; (with_reducible show PySem.Str.length (_ ++ _) ≤ sizeLine ∧ wpAny _ _ (joinParts _ _) _ _ _); k_extra "my fit"))
local macro_rules | `(tactic| walk_at "joinParts") => `(tactic| (k_here; (first | (with_reducible show wpAny _ _ (joinParts _ []) _ _ _) | (with_reducible show wpAny _ _ (joinParts _ (evalEach [] _)) _ _ _)); k_extra "my parts"))
theorem c_commaDk (w : World) (mean : ExcName → Option Value) (mg mb : Str → Option Value) (x dx : Addr) (n d : Int) (k1 t1 k2 t2 : Nat) (k : Nat) (tk0 : Tok) (hd0 : 0 < d) (hbn : Builtin.Int.intBits n ≤ 400) (hbd : Builtin.Int.intBits d ≤ 400) (hk : k ≤ 20)
    (hR : rnd ((if n < 0 then -n else n) * 10 ^ k) d < 10 ^ 59) :
    Spec w mean mg mb 14 70 205 ⟨[.ref x, .int (k : Int) tk0], []⟩ (dbl w x dx n d k1 t1 k2 t2) (fun v after => after = dbl w x dx n d k1 t1 k2 t2 ∧ ∃ t : Tok, v = (fun t => .str (S (laidG n d k)) t) t) := by
  k_with_none
  k_with "my double" =>
    k_dflt (refine' useKV (c_doubleD _ _ _ _ x dx n d k1 t1 k2 t2) ?km1 ?km2 ?kB ?kF ?kX ?kN ?kT ?kC ?kD ?kU ?_; walk_at "my_call"; (case km1 => k_mem); (case km2 => k_mem))
    intro _ h9 tk9 F9 N9
    try dsimp only
    try k_fold
  k_with "my isfinite" =>
    k_dflt (refine' useKV (c_isfinite _ _ _ _ x dx n d k1 t1 k2 t2 (by omega)) ?km1 ?km2 ?kB ?kF ?kX ?kN ?kT ?kC ?kD ?kU ?_; walk_at "my_call"; (case km1 => k_mem); (case km2 => k_mem))
    intro _ h9 tk9 F9 N9
    try dsimp only
    try k_fold
  k_with "my fit" =>
    first | refine ⟨(form_fit hk).1, ?_⟩ | refine ⟨(form_fit hk).2, ?_⟩ | refine ⟨form_fit0, ?_⟩
  k_with "my parts" =>
    first | refine joinParts_nil ?_ (form_fit hk).2 | refine joinParts_nilE (joinParts_nil ?_ (form_fit hk).2)
  k_with "my laid" =>
    rw [form_S]
    k_dflt (refine' useKV (c_laidf _ _ _ _ x dx n d k1 t1 k2 t2 k _ hd0 hbn hbd hk hR) ?km1 ?km2 ?kB ?kF ?kX ?kN ?kT ?kC ?kD ?kU ?_; walk_at "my_call"; (case km1 => k_mem); (case km2 => k_mem))
    intro t9 h9 tk9 F9 N9
    try dsimp only
    try k_fold
  k_with "my grouped" =>
    k_dflt (refine' useS (c_groupedF _ _ _ _ n d k _ hk hlen) ?kB ?kF ?kX ?kN ?kT ?kC ?kD ?kU ?_; walk_at "my_call")
    intro t9 h9 tk9 F9 N9
    try dsimp only
    try k_fold
  refine' spec_of (binds := [(Str.ofString "value", .ref x), (Str.ofString "ndigits", .int (k : Int) tk0)]) ?k6 ?k7 ?k9 ?kB ?c2 ?c3 ?c4 ?c5 ?_
  k_dflt walk_at "my_side"
  intro dp un gd outer A₀ base g L s Q E B F X N T hd hu hkl hret htk
  have hT0 : 0 ≤ (if n < 0 then -n else n) := by split <;> omega
  have hR0 : 0 ≤ rnd ((if n < 0 then -n else n) * 10 ^ k) d := rnd_nonneg (Int.mul_nonneg hT0 (Int.le_of_lt (Int.pow_pos (by decide)))) hd0
  have hlen : (dg ((rnd ((if n < 0 then -n else n) * 10 ^ k) d).toNat / 10 ^ k)).length ≤ 60 := by
    rw [← toNat_div hR0]; exact Nat.le_trans (lo_lenW hR0 k (dg_len_int (by decide) hR0 hR)) (by decide)
  refine wpAny_noRaise ?_
  k_steps
  all_goals exact hret (Flow.ret (.str _ _)) _ (dbl w x dx n d k1 t1 k2 t2) _ _ _ rfl (by assumption) (by walk_at "my_keep") ⟨rfl, _, rfl⟩
/-- a whole number with commas -/
def grpi (v : Int) : List Nat := (if v < 0 then [45] else []) ++ grp (dg v.natAbs)
theorem lit_fd : Str.ofString "%d" = S [37, 100] := by decide +kernel
theorem c_groupedI (w : World) (mean : ExcName → Option Value) (mg mb : Str → Option Value) (v : Int) (tx : Tok) (hlen : (dg v.natAbs).length ≤ 60) : Spec w mean mg mb 2 20 174 ⟨[.str (S (dgi v)) tx], []⟩ [] (RStr (S (grpi v))) := by
  have hs : (if v < 0 then [45] else [] : List Nat) = [] ∨ (if v < 0 then [45] else [] : List Nat) = [45] := by
    split
    · exact .inr rfl
    · exact .inl rfl
  have h := c_grouped w mean mg mb _ (dg v.natAbs) [] [] [] tx hs (figs_dg _) (dg_ne _) hlen (by simp) (by rw [List.append_nil]; exact part_none (sg_free (n := v) (figs_dg _))) rfl
  rw [List.append_nil, List.append_nil] at h
  exact h
theorem c_commaD0 (w : World) (mean : ExcName → Option Value) (mg mb : Str → Option Value) (x dx : Addr) (n d : Int) (k1 t1 k2 t2 : Nat) (hd0 : 0 < d) (hbn : Builtin.Int.intBits n ≤ 400) (hbd : Builtin.Int.intBits d ≤ 400) (hlen : (dg (tr n d).natAbs).length ≤ 60) :
    Spec w mean mg mb 14 70 205 ⟨[.ref x], []⟩ (dbl w x dx n d k1 t1 k2 t2) (fun v after => after = dbl w x dx n d k1 t1 k2 t2 ∧ ∃ t : Tok, v = (fun t => .str (S (grpi (tr n d))) t) t) := by
  k_with_none
  k_with "my double" =>
    k_dflt (refine' useKV (c_doubleD _ _ _ _ x dx n d k1 t1 k2 t2) ?km1 ?km2 ?kB ?kF ?kX ?kN ?kT ?kC ?kD ?kU ?_; walk_at "my_call"; (case km1 => k_mem); (case km2 => k_mem))
    intro _ h9 tk9 F9 N9
    try dsimp only
    try k_fold
  k_with "my isfinite" =>
    k_dflt (refine' useKV (c_isfinite _ _ _ _ x dx n d k1 t1 k2 t2 (by omega)) ?km1 ?km2 ?kB ?kF ?kX ?kN ?kT ?kC ?kD ?kU ?_; walk_at "my_call"; (case km1 => k_mem); (case km2 => k_mem))
    intro _ h9 tk9 F9 N9
    try dsimp only
    try k_fold
  k_with "my laid" =>
    rw [lit_fd]
    k_dflt (refine' useKV (c_laidd _ _ _ _ x dx n d k1 t1 k2 t2 _ hd0 hbn hbd) ?km1 ?km2 ?kB ?kF ?kX ?kN ?kT ?kC ?kD ?kU ?_; walk_at "my_call"; (case km1 => k_mem); (case km2 => k_mem))
    intro t9 h9 tk9 F9 N9
    try dsimp only
    try k_fold
  k_with "my grouped" =>
    k_dflt (refine' useS (c_groupedI _ _ _ _ (tr n d) _ hlen) ?kB ?kF ?kX ?kN ?kT ?kC ?kD ?kU ?_; walk_at "my_call")
    intro t9 h9 tk9 F9 N9
    try dsimp only
    try k_fold
  refine' spec_of (binds := [(Str.ofString "value", .ref x), (Str.ofString "ndigits", .none)]) ?k6 ?k7 ?k9 ?kB ?c2 ?c3 ?c4 ?c5 ?_
  k_dflt walk_at "my_side"
  intro dp un gd outer A₀ base g L s Q E B F X N T hd hu hkl hret htk
  refine wpAny_noRaise ?_
  k_steps
  all_goals exact hret (Flow.ret (.str _ _)) _ (dbl w x dx n d k1 t1 k2 t2) _ _ _ rfl (by assumption) (by walk_at "my_keep") ⟨rfl, _, rfl⟩
theorem booked {prog : Program} {w : World} {mean : ExcName → Option Value} {mg mb : Str → Option Value} {g : Heap} {L : Addr} {h : Heap} {m : Str → Option Value} (F : Fr g L h m) (X : (hd.heap_39 w.params).In g) (T : MyTop mean mg mb g) : NoneBooked h := by
  obtain ⟨mc, G, -⟩ := (T.keeps F.keep).nodigits
  exact ⟨mc, G, ns_none_of (X.keeps F.keep) G (by k_is)⟩
theorem s_repl {prog : Program} {w : World} {A : Around} {E : Value → Shared → Prop} {s : Shared} {x y z : Str} {l e r : List Nat} {c : Nat} {t u v : Tok} {Q : Value → Shared → Prop} (hx : x = S l) (hy : y = S [c]) (hz : z = S e) (hu : @Ne Nat u 0) (hv : @Ne Nat v 0) (huv : @Ne Nat u v) (hl : l.length ≤ 1000) (he : e.length ≤ 1)
    (er : Txt.replace (S l) (S [c]) (S e) = S r) (hnb : NoneBooked s.heap) (h : ∀ t' k, s.toks ≤ k → Q (.str (S r) t') { s with toks := k }) : wpAny (model prog w) A (call (.builtin "str.replace") [.str x t, .str y u, .str z v]) Q E s := by
  subst hx; subst hy; subst hz
  refine wpAny_with_toks (Nat.le_refl _) (SC.replaceA hu hv huv ?_ (fun t' k hk => ?_) hnb)
  · rw [S_len, S_len]
    have : (l.length + 1) * e.length ≤ (l.length + 1) * 1 := Nat.mul_le_mul_left _ he
    omega
  · rw [er]
    exact h t' k hk
theorem strike44 {l c : List Nat} (h : l.filter (· != 44) = c) : Txt.replace (S l) (S [44]) (S []) = S c := by
  refine S_ext ?_
  have := replace_strikes (S l) 44
  rw [S_cps, h] at this
  exact this
theorem same46 (c : List Nat) : Txt.replace (S c) (S [46]) (S [46]) = S c := Txt.replace_self _ _
local macro_rules | `(tactic| walk_at "call builtin:str.replace") => `(tactic| (k_here; k_extra "my repl"))
theorem gentoks {M : Model} {A : Around} {α : Type} {t : Sem α} {Q : α → Shared → Prop} {E : Value → Shared → Prop} {h : Heap} {gs : _} {dr : _} {os : _} {n X : Nat} (hX : n < X) (k : ∀ tk, n < tk → wpAny M A t Q E ⟨h, gs, dr, tk, os⟩) : wpAny M A t Q E ⟨h, gs, dr, X + 1, os⟩ := k _ (Nat.lt_succ_of_lt hX)
local macro_rules | `(tactic| walk_at "execs cons") => `(tactic| (k_here; k_extra "my gen"))
theorem c_commaSk (w : World) (mean : ExcName → Option Value) (mg mb : Str → Option Value) (l c : List Nat) (n d : Int) (k : Nat) (tx tk0 : Tok) (hc : l.filter (· != 44) = c) (hl : l.length ≤ 200) (hdot : 46 ∈ c) (hr : ∀ t, Spec w mean mg mb 12 50 160 ⟨[.str (S c) t], []⟩ [] (RDbl w n d))
    (hd0 : 0 < d) (hbn : Builtin.Int.intBits n ≤ 400) (hbd : Builtin.Int.intBits d ≤ 400) (hk : k ≤ 20) (hR : rnd ((if n < 0 then -n else n) * 10 ^ k) d < 10 ^ 59) :
    Spec w mean mg mb 20 90 205 ⟨[.str (S l) tx, .int (k : Int) tk0], []⟩ [] (RStr (S (laidG n d k))) := by
  k_with_none
  k_with "my double" =>
    first
      | ((with_reducible show wpAny _ _ (call _ [Value.str _ _]) _ _ _)
         (k_dflt (refine' useD (c_doubleS _ _ _ _ _ _ n d (hr _)) ?kB ?kF ?kX ?kN ?kT ?kC ?kD ?kU ?_; walk_at "my_call"))
         intro o9 dx9 k91 t91 k92 t92 h9 tk9 F9 N9)
      | ((with_reducible show wpAny _ _ (call _ [Value.ref _]) _ _ _)
         (k_dflt (refine' useKV (c_doubleD _ _ _ _ _ _ n d _ _ _ _) ?km1 ?km2 ?kB ?kF ?kX ?kN ?kT ?kC ?kD ?kU ?_; walk_at "my_call"; (case km1 => k_mem); (case km2 => k_mem)))
         intro _ h9 tk9 F9 N9)
    try dsimp only
    try k_fold
  k_with "my isfinite" =>
    k_dflt (refine' useKV (c_isfinite _ _ _ _ _ _ n d _ _ _ _ (by omega)) ?km1 ?km2 ?kB ?kF ?kX ?kN ?kT ?kC ?kD ?kU ?_; walk_at "my_call"; (case km1 => k_mem); (case km2 => k_mem))
    intro _ h9 tk9 F9 N9
    try dsimp only
    try k_fold
  k_with "my repl" =>
    (with_reducible rename Fr _ _ _ _ => F')
    first
      | refine s_repl (l := l) (c := 44) (e := []) rfl lit_comma lit_empty (by first | omega | (dsimp only; omega)) (by first | omega | (dsimp only; omega)) (by first | omega | (dsimp only; omega)) (by omega) (by decide) (strike44 hc) (booked (prog := PySem.Challenge.rw_fe0129_01.row.prog) F' X T) ?_
      | refine s_repl (l := c) (c := 46) (e := [46]) rfl lit_dot lit_dot (by first | omega | (dsimp only; omega)) (by first | omega | (dsimp only; omega)) (by first | omega | (dsimp only; omega)) (by omega) (by decide) (same46 c) (booked (prog := PySem.Challenge.rw_fe0129_01.row.prog) F' X T) ?_
    intro _ _ lk9
    try dsimp only at lk9
  k_with "my gen" =>
    (with_reducible rename @LT.lt Nat _ _ _ => lq9)
    (with_reducible refine gentoks lq9 ?_)
    intro tk8 ltk8
  k_with "my in" =>
    refine s_in1 (a := c) (c := 46) rfl lit_dot (r := true) (by simpa using hdot) ?_
  k_with "my fit" =>
    first | refine ⟨(form_fit hk).1, ?_⟩ | refine ⟨(form_fit hk).2, ?_⟩ | refine ⟨form_fit0, ?_⟩
  k_with "my parts" =>
    first | refine joinParts_nil ?_ (form_fit hk).2 | refine joinParts_nilE (joinParts_nil ?_ (form_fit hk).2)
  k_with "my laid" =>
    rw [form_S]
    k_dflt (refine' useKV (c_laidf _ _ _ _ _ _ n d _ _ _ _ k _ hd0 hbn hbd hk hR) ?km1 ?km2 ?kB ?kF ?kX ?kN ?kT ?kC ?kD ?kU ?_; walk_at "my_call"; (case km1 => k_mem); (case km2 => k_mem))
    intro t9 h9 tk9 F9 N9
    try dsimp only
    try k_fold
  k_with "my grouped" =>
    k_dflt (refine' useS (c_groupedF _ _ _ _ n d k _ hk hlen) ?kB ?kF ?kX ?kN ?kT ?kC ?kD ?kU ?_; walk_at "my_call")
    intro t9 h9 tk9 F9 N9
    try dsimp only
    try k_fold
  refine' spec_of (binds := [(Str.ofString "value", .str (S l) tx), (Str.ofString "ndigits", .int (k : Int) tk0)]) ?k6 ?k7 ?k9 ?kB ?c2 ?c3 ?c4 ?c5 ?_
  k_dflt walk_at "my_side"
  intro dp un gd outer A₀ base g L s Q E B F X N T hd hu hkl hret htk
  have htk2 : 2 ≤ s.toks := htk
  have hcl : c.length ≤ 200 := by rw [← hc]; exact Nat.le_trans (List.length_filter_le _ _) hl
  have hT0 : 0 ≤ (if n < 0 then -n else n) := by split <;> omega
  have hR0 : 0 ≤ rnd ((if n < 0 then -n else n) * 10 ^ k) d := rnd_nonneg (Int.mul_nonneg hT0 (Int.le_of_lt (Int.pow_pos (by decide)))) hd0
  have hlen : (dg ((rnd ((if n < 0 then -n else n) * 10 ^ k) d).toNat / 10 ^ k)).length ≤ 60 := by
    rw [← toNat_div hR0]; exact Nat.le_trans (lo_lenW hR0 k (dg_len_int (by decide) hR0 hR)) (by decide)
  refine wpAny_noRaise ?_
  k_steps
  all_goals exact hret (Flow.ret (.str _ _)) _ [] _ _ _ rfl (by assumption) (fun _ h => nomatch h) (RStr_of rfl)
theorem c_commaS0 (w : World) (mean : ExcName → Option Value) (mg mb : Str → Option Value) (l c : List Nat) (n d : Int) (tx : Tok) (hc : l.filter (· != 44) = c) (hl : l.length ≤ 200) (hdot : 46 ∈ c) (hr : ∀ t, Spec w mean mg mb 12 50 160 ⟨[.str (S c) t], []⟩ [] (RDbl w n d))
    (hd0 : 0 < d) (hbn : Builtin.Int.intBits n ≤ 400) (hbd : Builtin.Int.intBits d ≤ 400) (hlen : (dg (tr n d).natAbs).length ≤ 60) :
    Spec w mean mg mb 20 90 205 ⟨[.str (S l) tx], []⟩ [] (RStr (S (grpi (tr n d)))) := by
  k_with_none
  k_with "my double" =>
    first
      | ((with_reducible show wpAny _ _ (call _ [Value.str _ _]) _ _ _)
         (k_dflt (refine' useD (c_doubleS _ _ _ _ _ _ n d (hr _)) ?kB ?kF ?kX ?kN ?kT ?kC ?kD ?kU ?_; walk_at "my_call"))
         intro o9 dx9 k91 t91 k92 t92 h9 tk9 F9 N9)
      | ((with_reducible show wpAny _ _ (call _ [Value.ref _]) _ _ _)
         (k_dflt (refine' useKV (c_doubleD _ _ _ _ _ _ n d _ _ _ _) ?km1 ?km2 ?kB ?kF ?kX ?kN ?kT ?kC ?kD ?kU ?_; walk_at "my_call"; (case km1 => k_mem); (case km2 => k_mem)))
         intro _ h9 tk9 F9 N9)
    try dsimp only
    try k_fold
  k_with "my isfinite" =>
    k_dflt (refine' useKV (c_isfinite _ _ _ _ _ _ n d _ _ _ _ (by omega)) ?km1 ?km2 ?kB ?kF ?kX ?kN ?kT ?kC ?kD ?kU ?_; walk_at "my_call"; (case km1 => k_mem); (case km2 => k_mem))
    intro _ h9 tk9 F9 N9
    try dsimp only
    try k_fold
  k_with "my repl" =>
    (with_reducible rename Fr _ _ _ _ => F')
    first
      | refine s_repl (l := l) (c := 44) (e := []) rfl lit_comma lit_empty (by first | omega | (dsimp only; omega)) (by first | omega | (dsimp only; omega)) (by first | omega | (dsimp only; omega)) (by omega) (by decide) (strike44 hc) (booked (prog := PySem.Challenge.rw_fe0129_01.row.prog) F' X T) ?_
      | refine s_repl (l := c) (c := 46) (e := [46]) rfl lit_dot lit_dot (by first | omega | (dsimp only; omega)) (by first | omega | (dsimp only; omega)) (by first | omega | (dsimp only; omega)) (by omega) (by decide) (same46 c) (booked (prog := PySem.Challenge.rw_fe0129_01.row.prog) F' X T) ?_
    intro _ _ lk9
    try dsimp only at lk9
  k_with "my gen" =>
    (with_reducible rename @LT.lt Nat _ _ _ => lq9)
    (with_reducible refine gentoks lq9 ?_)
    intro tk8 ltk8
  k_with "my in" =>
    refine s_in1 (a := c) (c := 46) rfl lit_dot (r := true) (by simpa using hdot) ?_
  k_with "my laid" =>
    rw [lit_fd]
    k_dflt (refine' useKV (c_laidd _ _ _ _ _ _ n d _ _ _ _ _ hd0 hbn hbd) ?km1 ?km2 ?kB ?kF ?kX ?kN ?kT ?kC ?kD ?kU ?_; walk_at "my_call"; (case km1 => k_mem); (case km2 => k_mem))
    intro t9 h9 tk9 F9 N9
    try dsimp only
    try k_fold
  k_with "my grouped" =>
    k_dflt (refine' useS (c_groupedI _ _ _ _ (tr n d) _ hlen) ?kB ?kF ?kX ?kN ?kT ?kC ?kD ?kU ?_; walk_at "my_call")
    intro t9 h9 tk9 F9 N9
    try dsimp only
    try k_fold
  refine' spec_of (binds := [(Str.ofString "value", .str (S l) tx), (Str.ofString "ndigits", .none)]) ?k6 ?k7 ?k9 ?kB ?c2 ?c3 ?c4 ?c5 ?_
  k_dflt walk_at "my_side"
  intro dp un gd outer A₀ base g L s Q E B F X N T hd hu hkl hret htk
  have htk2 : 2 ≤ s.toks := htk
  have hcl : c.length ≤ 200 := by rw [← hc]; exact Nat.le_trans (List.length_filter_le _ _) hl
  refine wpAny_noRaise ?_
  k_steps
  all_goals exact hret (Flow.ret (.str _ _)) _ [] _ _ _ rfl (by assumption) (fun _ h => nomatch h) (RStr_of rfl)
theorem c_commaIk (w : World) (mean : ExcName → Option Value) (mg mb : Str → Option Value) (l c : List Nat) (n d v : Int) (k : Nat) (tx tk0 : Tok) (hc : l.filter (· != 44) = c) (hl : l.length ≤ 200) (hdot : 46 ∉ c) (hv : PySem.intText? (S c) = some v) (hbv : Builtin.Int.intBits v ≤ 160) (hr : ∀ t, Spec w mean mg mb 12 50 160 ⟨[.str (S c) t], []⟩ [] (RDbl w n d))
    (hd0 : 0 < d) (hd1 : 0 < mkD v 1) (hbn : Builtin.Int.intBits (mkN v 1) ≤ 400) (hbd : Builtin.Int.intBits (mkD v 1) ≤ 400) (hk : k ≤ 20) (hR : rnd ((if mkN v 1 < 0 then -mkN v 1 else mkN v 1) * 10 ^ k) (mkD v 1) < 10 ^ 59) :
    Spec w mean mg mb 20 90 205 ⟨[.str (S l) tx, .int (k : Int) tk0], []⟩ [] (RStr (S (laidG (mkN v 1) (mkD v 1) k))) := by
  k_with_none
  k_with "my double" =>
    first
      | ((with_reducible show wpAny _ _ (call _ [Value.str _ _]) _ _ _)
         (k_dflt (refine' useD (c_doubleS _ _ _ _ _ _ n d (hr _)) ?kB ?kF ?kX ?kN ?kT ?kC ?kD ?kU ?_; walk_at "my_call"))
         intro o9 dx9 k91 t91 k92 t92 h9 tk9 F9 N9)
      | ((with_reducible show wpAny _ _ (call _ [Value.int _ _]) _ _ _)
         (k_dflt (refine' useD (c_doubleI _ _ _ _ v _ hbv) ?kB ?kF ?kX ?kN ?kT ?kC ?kD ?kU ?_; walk_at "my_call"))
         intro o9 dx9 k91 t91 k92 t92 h9 tk9 F9 N9)
    try dsimp only
    try k_fold
  k_with "my isfinite" =>
    k_dflt (refine' useKV (c_isfinite _ _ _ _ _ _ n d _ _ _ _ (by omega)) ?km1 ?km2 ?kB ?kF ?kX ?kN ?kT ?kC ?kD ?kU ?_; walk_at "my_call"; (case km1 => k_mem); (case km2 => k_mem))
    intro _ h9 tk9 F9 N9
    try dsimp only
    try k_fold
  k_with "my repl" =>
    (with_reducible rename Fr _ _ _ _ => F')
    first
      | refine s_repl (l := l) (c := 44) (e := []) rfl lit_comma lit_empty (by first | omega | (dsimp only; omega)) (by first | omega | (dsimp only; omega)) (by first | omega | (dsimp only; omega)) (by omega) (by decide) (strike44 hc) (booked (prog := PySem.Challenge.rw_fe0129_01.row.prog) F' X T) ?_
      | refine s_repl (l := c) (c := 46) (e := [46]) rfl lit_dot lit_dot (by first | omega | (dsimp only; omega)) (by first | omega | (dsimp only; omega)) (by first | omega | (dsimp only; omega)) (by omega) (by decide) (same46 c) (booked (prog := PySem.Challenge.rw_fe0129_01.row.prog) F' X T) ?_
    intro _ _ lk9
    try dsimp only at lk9
  k_with "my gen" =>
    (with_reducible rename @LT.lt Nat _ _ _ => lq9)
    (with_reducible refine gentoks lq9 ?_)
    intro tk8 ltk8
  k_with "my in" =>
    refine s_in1 (a := c) (c := 46) rfl lit_dot (r := false) (by simpa using hdot) ?_
  k_with "my int" =>
    refine s_int (a := c) rfl (by omega) hv ?_
    intro _ _
  k_with "my fit" =>
    first | refine ⟨(form_fit hk).1, ?_⟩ | refine ⟨(form_fit hk).2, ?_⟩ | refine ⟨form_fit0, ?_⟩
  k_with "my parts" =>
    first | refine joinParts_nil ?_ (form_fit hk).2 | refine joinParts_nilE (joinParts_nil ?_ (form_fit hk).2)
  k_with "my laid" =>
    rw [form_S]
    k_dflt (refine' useKV (c_laidf _ _ _ _ _ _ (mkN v 1) (mkD v 1) _ _ _ _ k _ hd1 hbn hbd hk hR) ?km1 ?km2 ?kB ?kF ?kX ?kN ?kT ?kC ?kD ?kU ?_; walk_at "my_call"; (case km1 => k_mem); (case km2 => k_mem))
    intro t9 h9 tk9 F9 N9
    try dsimp only
    try k_fold
  k_with "my grouped" =>
    k_dflt (refine' useS (c_groupedF _ _ _ _ (mkN v 1) (mkD v 1) k _ hk hlen) ?kB ?kF ?kX ?kN ?kT ?kC ?kD ?kU ?_; walk_at "my_call")
    intro t9 h9 tk9 F9 N9
    try dsimp only
    try k_fold
  refine' spec_of (binds := [(Str.ofString "value", .str (S l) tx), (Str.ofString "ndigits", .int (k : Int) tk0)]) ?k6 ?k7 ?k9 ?kB ?c2 ?c3 ?c4 ?c5 ?_
  k_dflt walk_at "my_side"
  intro dp un gd outer A₀ base g L s Q E B F X N T hd hu hkl hret htk
  have htk2 : 2 ≤ s.toks := htk
  have hcl : c.length ≤ 200 := by rw [← hc]; exact Nat.le_trans (List.length_filter_le _ _) hl
  have hT0 : 0 ≤ (if mkN v 1 < 0 then -mkN v 1 else mkN v 1) := by split <;> omega
  have hR0 : 0 ≤ rnd ((if mkN v 1 < 0 then -mkN v 1 else mkN v 1) * 10 ^ k) (mkD v 1) := rnd_nonneg (Int.mul_nonneg hT0 (Int.le_of_lt (Int.pow_pos (by decide)))) hd1
  have hlen : (dg ((rnd ((if mkN v 1 < 0 then -mkN v 1 else mkN v 1) * 10 ^ k) (mkD v 1)).toNat / 10 ^ k)).length ≤ 60 := by
    rw [← toNat_div hR0]; exact Nat.le_trans (lo_lenW hR0 k (dg_len_int (by decide) hR0 hR)) (by decide)
  refine wpAny_noRaise ?_
  k_steps
  all_goals exact hret (Flow.ret (.str _ _)) _ [] _ _ _ rfl (by assumption) (fun _ h => nomatch h) (RStr_of rfl)
theorem c_commaI0 (w : World) (mean : ExcName → Option Value) (mg mb : Str → Option Value) (l c : List Nat) (n d v : Int) (tx : Tok) (hc : l.filter (· != 44) = c) (hl : l.length ≤ 200) (hdot : 46 ∉ c) (hv : PySem.intText? (S c) = some v) (hbv : Builtin.Int.intBits v ≤ 160) (hr : ∀ t, Spec w mean mg mb 12 50 160 ⟨[.str (S c) t], []⟩ [] (RDbl w n d))
    (hd0 : 0 < d) (hlen : (dg v.natAbs).length ≤ 60) :
    Spec w mean mg mb 20 90 205 ⟨[.str (S l) tx], []⟩ [] (RStr (S (grpi v))) := by
  k_with_none
  k_with "my double" =>
    first
      | ((with_reducible show wpAny _ _ (call _ [Value.str _ _]) _ _ _)
         (k_dflt (refine' useD (c_doubleS _ _ _ _ _ _ n d (hr _)) ?kB ?kF ?kX ?kN ?kT ?kC ?kD ?kU ?_; walk_at "my_call"))
         intro o9 dx9 k91 t91 k92 t92 h9 tk9 F9 N9)
    try dsimp only
    try k_fold
  k_with "my isfinite" =>
    k_dflt (refine' useKV (c_isfinite _ _ _ _ _ _ n d _ _ _ _ (by omega)) ?km1 ?km2 ?kB ?kF ?kX ?kN ?kT ?kC ?kD ?kU ?_; walk_at "my_call"; (case km1 => k_mem); (case km2 => k_mem))
    intro _ h9 tk9 F9 N9
    try dsimp only
    try k_fold
  k_with "my repl" =>
    (with_reducible rename Fr _ _ _ _ => F')
    first
      | refine s_repl (l := l) (c := 44) (e := []) rfl lit_comma lit_empty (by first | omega | (dsimp only; omega)) (by first | omega | (dsimp only; omega)) (by first | omega | (dsimp only; omega)) (by omega) (by decide) (strike44 hc) (booked (prog := PySem.Challenge.rw_fe0129_01.row.prog) F' X T) ?_
      | refine s_repl (l := c) (c := 46) (e := [46]) rfl lit_dot lit_dot (by first | omega | (dsimp only; omega)) (by first | omega | (dsimp only; omega)) (by first | omega | (dsimp only; omega)) (by omega) (by decide) (same46 c) (booked (prog := PySem.Challenge.rw_fe0129_01.row.prog) F' X T) ?_
    intro _ _ lk9
    try dsimp only at lk9
  k_with "my gen" =>
    (with_reducible rename @LT.lt Nat _ _ _ => lq9)
    (with_reducible refine gentoks lq9 ?_)
    intro tk8 ltk8
  k_with "my in" =>
    refine s_in1 (a := c) (c := 46) rfl lit_dot (r := false) (by simpa using hdot) ?_
  k_with "my int" =>
    refine s_int (a := c) rfl (by omega) hv ?_
    intro _ _
  k_with "my laid" =>
    rw [lit_fd]
    k_dflt (refine' useS (c_laidi _ _ _ _ v _ _ (by omega)) ?kB ?kF ?kX ?kN ?kT ?kC ?kD ?kU ?_; walk_at "my_call")
    intro t9 h9 tk9 F9 N9
    try dsimp only
    try k_fold
  k_with "my grouped" =>
    k_dflt (refine' useS (c_groupedI _ _ _ _ v _ hlen) ?kB ?kF ?kX ?kN ?kT ?kC ?kD ?kU ?_; walk_at "my_call")
    intro t9 h9 tk9 F9 N9
    try dsimp only
    try k_fold
  refine' spec_of (binds := [(Str.ofString "value", .str (S l) tx), (Str.ofString "ndigits", .none)]) ?k6 ?k7 ?k9 ?kB ?c2 ?c3 ?c4 ?c5 ?_
  k_dflt walk_at "my_side"
  intro dp un gd outer A₀ base g L s Q E B F X N T hd hu hkl hret htk
  have htk2 : 2 ≤ s.toks := htk
  have hcl : c.length ≤ 200 := by rw [← hc]; exact Nat.le_trans (List.length_filter_le _ _) hl
  refine wpAny_noRaise ?_
  k_steps
  all_goals exact hret (Flow.ret (.str _ _)) _ [] _ _ _ rfl (by assumption) (fun _ h => nomatch h) (RStr_of rfl)
section
variable {w : World} {mg mb : Str → Option Value} {mean : ExcName → Option Value} {D U : Nat} {f : Addr} {args : Args} {keep : Led}
  {dp un : Nat} {gd : Option (List Code)} {cn : Str} {cs : Scope} {a : Addr} {ccd : Value} {cl : List (Str × Addr)} {outer : List Env} {A₀ : Around} {base h₀ : Heap} {L : Addr} {m : Str → Option Value} {news : Led} {s : Shared} {Q E : Value → Shared → Prop}
theorem useKK {v : Tok → Value} (h : Spec w mean mg mb D U f args keep (fun r after => after = keep ∧ ∃ t, r = v t)) (hk : ∀ q ∈ keep, q ∈ news)
    (B : Below A₀ base outer h₀) (F : Fr h₀ L s.heap m) (X : (hd.heap_39 w.params).In h₀) (N : News h₀ L s.heap news) (T : MyTop mean mg mb h₀) (hck : cs.kind = .function) (hd : dp + D < recursionLimit) (hu : un + U < cLine)
    (ret : ∀ t h' tk', Fr h₀ L h' m → News h₀ L h' news → Q (v t) { s with heap := h', toks := tk' }) : MyCall w dp un gd cn cs L a ccd cl outer f args Q E s := by
  refine useK h B F X N T hck hk hd hu (fun v l r q hq => ?_) fun v l h' tk' F' N' r => ?_
  · obtain ⟨rfl, t, rfl⟩ := r
    exact hq
  · obtain ⟨rfl, t, rfl⟩ := r
    exact ret t h' tk' F' fun q hq => N' q (List.mem_append_right _ hq)
end
/-- signs struck out one by one -/
theorem strikeS {l c : List Nat} {x : Nat} (h : l.filter (· != x) = c) : Txt.replace (S l) (S [x]) (S []) = S c := by
  refine S_ext ?_
  have := replace_strikes (S l) x
  rw [S_cps, h] at this
  exact this
abbrev lstObj (items : Array Value) : Obj := { cls := .type "list", data := .seq items }
/-- what stays of a told text when minus, commas and dot are struck out -/
def bareL (l : List Nat) : List Nat := ((l.filter (· != 45)).filter (· != 44)).filter (· != 46)
local macro_rules | `(tactic| walk_at "exec For") => `(tactic| (k_here; k_extra "my forV"))
local macro_rules | `(tactic| walk_at "call ref") => `(tactic| (k_here; (with_reducible show wpAny _ _ (call (Value.ref 233) _) _ _ _); k_extra "my lawlaid"))
local macro_rules | `(tactic| walk_at "call ref") => `(tactic| (k_here; (with_reducible show wpAny _ _ (call (Value.ref 240) _) _ _ _); k_extra "my lawcut"))
local macro_rules | `(tactic| walk_at "call ref") => `(tactic| (k_here; (with_reducible show wpAny _ _ (call (Value.ref 205) _) _ _ _); k_extra "my comma"))
theorem ne0_of {h : Heap} {gs : _} {dr : _} {X : Nat} {os : _} (e : 1 ≤ (Shared.mk h gs dr X os).toks) : @Ne Nat X 0 := Nat.ne_of_gt e
theorem with_toks_nr {M : Model} {A : Around} {α : Type} {t : Sem α} {Q : α → Shared → Prop} {s : Shared} {n : Nat} (hn : n ≤ s.toks) (h : wpAny M A t (fun a s' => n ≤ s'.toks → Q a s') (fun _ _ => False) s) : wpAny M A t Q (fun _ _ => False) s :=
  wpAny_with_toks hn (wpAny_mono h (fun _ _ x => x) fun _ _ x => x.elim)
theorem gentoks0 {M : Model} {A : Around} {α : Type} {t : Sem α} {Q : α → Shared → Prop} {E : Value → Shared → Prop} {h : Heap} {gs : _} {dr : _} {os : _} {X : Nat} (k : ∀ tk, 0 < tk → wpAny M A t Q E ⟨h, gs, dr, tk, os⟩) : wpAny M A t Q E ⟨h, gs, dr, X + 1, os⟩ := k _ (Nat.succ_pos _)
theorem c_told0 (w : World) (mean : ExcName → Option Value) (mg mb : Str → Option Value) (x dx lt : Addr) (n d : Int) (k1 t1 k2 t2 : Nat) (top low : Int) (k R : Nat) (tt tl td : Tok) (hl0 : 0 < low) (hbt : Builtin.Int.intBits top ≤ 400) (hbl : Builtin.Int.intBits low ≤ 400) (hk : k ≤ 20)
    (hR59 : rnd ((if top < 0 then -top else top) * 10 ^ k) low < 10 ^ 59) (hW : (if top < 0 then -top else top).fdiv low < 10 ^ 40) (hll : (laidL top low k).length ≤ 200) (hcl : (cutL top low).length ≤ 200)
    (hDk : ∀ t0, Spec w mean mg mb 14 70 205 ⟨[.ref x, .int (k : Int) t0], []⟩ (dbl w x dx n d k1 t1 k2 t2) (fun v after => after = dbl w x dx n d k1 t1 k2 t2 ∧ ∃ t : Tok, v = (fun t => .str (S (laidL top low k)) t) t))
    (hD0 : Spec w mean mg mb 14 70 205 ⟨[.ref x], []⟩ (dbl w x dx n d k1 t1 k2 t2) (fun v after => after = dbl w x dx n d k1 t1 k2 t2 ∧ ∃ t : Tok, v = (fun t => .str (S (cutL top low)) t) t))
    (r : List Nat) (hr : Txt.lstripChars (S (bareL (laidL top low k))) (S [48]) = S r) (hr0 : r.length = 0 ∨ 0 < R) (hr1 : 15 < r.length ∨ R < 10 ^ 15)
    (hRk : 0 < R → R < 10 ^ 15 → ∀ t0 t1, Spec w mean mg mb 20 90 205 ⟨[.str (S (laidL top low k)) t0, .int (k : Int) t1], []⟩ [] (RStr (S (laidL top low k))))
    (hRc : 0 < R → R < 10 ^ 15 → ∀ t0, Spec w mean mg mb 20 90 205 ⟨[.str (S (cutL top low)) t0], []⟩ [] (RStr (S (cutL top low)))) :
    Spec w mean mg mb 24 110 247 ⟨[.ref x, .ref lt, .int top tt, .int low tl, .int (k : Int) td], []⟩ ((lt, lstObj #[]) :: dbl w x dx n d k1 t1 k2 t2) (fun v after => after = ((lt, lstObj #[]) :: dbl w x dx n d k1 t1 k2 t2) ∧ ∃ t : Tok, v = (fun _ => .bool true) t) := by
  k_with_none
  k_with "my lawlaid" =>
    k_dflt (refine' useS (c_lawlaid _ _ _ _ top low k _ _ _ hl0 hbt hbl hk hR59) ?kB ?kF ?kX ?kN ?kT ?kC ?kD ?kU ?_; walk_at "my_call")
    intro t9 h9 tk9 F9 N9
    try dsimp only
    try k_fold
  k_with "my lawcut" =>
    k_dflt (refine' useS (c_lawcut _ _ _ _ top low _ _ hl0 hbt hbl hW) ?kB ?kF ?kX ?kN ?kT ?kC ?kD ?kU ?_; walk_at "my_call")
    intro t9 h9 tk9 F9 N9
    try dsimp only
    try k_fold
  k_with "my comma" =>
    first
      | ((with_reducible show wpAny _ _ (call _ [Value.ref _, _]) _ _ _); (k_dflt (refine' useKV (hDk _) ?km1 ?km2 ?kB ?kF ?kX ?kN ?kT ?kC ?kD ?kU ?_; walk_at "my_call"; (case km1 => k_mem); (case km2 => k_mem))))
      | ((with_reducible show wpAny _ _ (call _ [Value.ref _]) _ _ _); (k_dflt (refine' useKV hD0 ?km1 ?km2 ?kB ?kF ?kX ?kN ?kT ?kC ?kD ?kU ?_; walk_at "my_call"; (case km1 => k_mem); (case km2 => k_mem))))
      | ((with_reducible show wpAny _ _ (call _ [Value.str _ _, _]) _ _ _); (k_dflt (refine' useS (hRk (by omega) (by omega) _ _) ?kB ?kF ?kX ?kN ?kT ?kC ?kD ?kU ?_; walk_at "my_call")))
      | ((with_reducible show wpAny _ _ (call _ [Value.str _ _]) _ _ _); (k_dflt (refine' useS (hRc (by omega) (by omega) _) ?kB ?kF ?kX ?kN ?kT ?kC ?kD ?kU ?_; walk_at "my_call")))
    intro t9 h9 tk9 F9 N9
    try dsimp only
    try k_fold
  k_with "my forV" =>
    (with_reducible refine with_toks_nr (n := 1) ?kt1 ?_; (case kt1 => first | omega | (dsimp only; omega)))
    (rename Fr _ _ _ _ => lF')
    (with_unfolding_all refine' For_invVF lF' ?k1 ?k2 ?_; (case k1 => exact rfl); (case k2 => exact rfl); k_whole)
  k_with "my ne" =>
    refine s_ne (r := true) rfl rfl (by simp) ?_
  k_with "my eq" =>
    refine s_eq (r := true) rfl rfl (by simp) ?_
  k_with "my repl" =>
    (with_reducible rename Fr _ _ _ _ => F')
    first
      | refine s_repl (l := laidL top low k) (c := 45) (e := []) rfl lit_minus lit_empty (by first | omega | exact ne0_of (by assumption)) (by omega) (by omega) (by omega) (by decide) (strikeS rfl) (booked (prog := PySem.Challenge.rw_fe0129_01.row.prog) F' X T) ?_
      | refine s_repl (l := (laidL top low k).filter (· != 45)) (c := 44) (e := []) rfl lit_comma lit_empty (by omega) (by omega) (by omega) (by omega) (by decide) (strikeS rfl) (booked (prog := PySem.Challenge.rw_fe0129_01.row.prog) F' X T) ?_
      | refine s_repl (l := ((laidL top low k).filter (· != 45)).filter (· != 44)) (c := 46) (e := []) rfl lit_dot lit_empty (by omega) (by omega) (by omega) (by omega) (by decide) (strikeS rfl) (booked (prog := PySem.Challenge.rw_fe0129_01.row.prog) F' X T) ?_
    intro _ _ lk9
    try dsimp only at lk9
  k_with "my lstrip" =>
    refine s_lstripc (a := bareL (laidL top low k)) (b := [48]) rfl lit_nought (by omega) hr ?_
    intro _ _
  k_with "my gen" =>
    (with_reducible refine gentoks0 ?_)
    intro tk8 ltk8
  refine' spec_of (binds := [(Str.ofString "one", .ref x), (Str.ofString "texts", .ref lt), (Str.ofString "top", .int top tt), (Str.ofString "low", .int low tl), (Str.ofString "digits", .int (k : Int) td)]) ?k6 ?k7 ?k9 ?kB ?c2 ?c3 ?c4 ?c5 ?_
  k_dflt walk_at "my_side"
  intro dp un gd outer A₀ base g L s Q E B F X N T hd hu hkl hret htk
  have hf1 : ((laidL top low k).filter (· != 45)).length ≤ 200 := Nat.le_trans (List.length_filter_le _ _) hll
  have hf2 : (((laidL top low k).filter (· != 45)).filter (· != 44)).length ≤ 200 := Nat.le_trans (List.length_filter_le _ _) hf1
  have hf3 : (bareL (laidL top low k)).length ≤ 200 := Nat.le_trans (List.length_filter_le _ _) hf2
  have hf4 : r.length ≤ 200 := by
    have h := len_lstripChars (S (bareL (laidL top low k))) (S [48])
    rw [hr, S_len, S_len] at h
    omega
  refine wpAny_noRaise ?_
  k_steps
  all_goals (show Q (Flow.ret (Value.bool _)) _)
  all_goals (refine hret (Flow.ret (.bool _)) _ ((lt, lstObj #[]) :: dbl w x dx n d k1 t1 k2 t2) _ _ _ rfl (by assumption) (by walk_at "my_keep") ⟨rfl, 0, congrArg Value.bool ?_⟩)
  all_goals first | rfl | assumption | (simp only [beq_iff_eq, decide_eq_true_eq]; omega)
theorem c_told2 (w : World) (mean : ExcName → Option Value) (mg mb : Str → Option Value) (x dx lt : Addr) (n d : Int) (k1 t1 k2 t2 : Nat) (l1 l2 : List Nat) (u1 u2 : Tok) (top low : Int) (k R : Nat) (tt tl td : Tok) (hl0 : 0 < low) (hbt : Builtin.Int.intBits top ≤ 400) (hbl : Builtin.Int.intBits low ≤ 400) (hk : k ≤ 20)
    (hR59 : rnd ((if top < 0 then -top else top) * 10 ^ k) low < 10 ^ 59) (hW : (if top < 0 then -top else top).fdiv low < 10 ^ 40) (hll : (laidL top low k).length ≤ 200) (hcl : (cutL top low).length ≤ 200)
    (hDk : ∀ t0, Spec w mean mg mb 14 70 205 ⟨[.ref x, .int (k : Int) t0], []⟩ (dbl w x dx n d k1 t1 k2 t2) (fun v after => after = dbl w x dx n d k1 t1 k2 t2 ∧ ∃ t : Tok, v = (fun t => .str (S (laidL top low k)) t) t))
    (hD0 : Spec w mean mg mb 14 70 205 ⟨[.ref x], []⟩ (dbl w x dx n d k1 t1 k2 t2) (fun v after => after = dbl w x dx n d k1 t1 k2 t2 ∧ ∃ t : Tok, v = (fun t => .str (S (cutL top low)) t) t))
    (hTk : ∀ l, l = l1 ∨ l = l2 → ∀ t0 t1, Spec w mean mg mb 20 90 205 ⟨[.str (S l) t0, .int (k : Int) t1], []⟩ [] (RStr (S (laidL top low k))))
    (hT0 : ∀ l, l = l1 ∨ l = l2 → ∀ t0, Spec w mean mg mb 20 90 205 ⟨[.str (S l) t0], []⟩ [] (RStr (S (cutL top low))))
    (r : List Nat) (hr : Txt.lstripChars (S (bareL (laidL top low k))) (S [48]) = S r) (hr0 : r.length = 0 ∨ 0 < R) (hr1 : 15 < r.length ∨ R < 10 ^ 15)
    (hRk : 0 < R → R < 10 ^ 15 → ∀ t0 t1, Spec w mean mg mb 20 90 205 ⟨[.str (S (laidL top low k)) t0, .int (k : Int) t1], []⟩ [] (RStr (S (laidL top low k))))
    (hRc : 0 < R → R < 10 ^ 15 → ∀ t0, Spec w mean mg mb 20 90 205 ⟨[.str (S (cutL top low)) t0], []⟩ [] (RStr (S (cutL top low)))) :
    Spec w mean mg mb 24 110 247 ⟨[.ref x, .ref lt, .int top tt, .int low tl, .int (k : Int) td], []⟩ ((lt, lstObj #[.str (S l1) u1, .str (S l2) u2]) :: dbl w x dx n d k1 t1 k2 t2) (fun v after => after = ((lt, lstObj #[.str (S l1) u1, .str (S l2) u2]) :: dbl w x dx n d k1 t1 k2 t2) ∧ ∃ t : Tok, v = (fun _ => .bool true) t) := by
  k_with_none
  k_with "my lawlaid" =>
    k_dflt (refine' useS (c_lawlaid _ _ _ _ top low k _ _ _ hl0 hbt hbl hk hR59) ?kB ?kF ?kX ?kN ?kT ?kC ?kD ?kU ?_; walk_at "my_call")
    intro t9 h9 tk9 F9 N9
    try dsimp only
    try k_fold
  k_with "my lawcut" =>
    k_dflt (refine' useS (c_lawcut _ _ _ _ top low _ _ hl0 hbt hbl hW) ?kB ?kF ?kX ?kN ?kT ?kC ?kD ?kU ?_; walk_at "my_call")
    intro t9 h9 tk9 F9 N9
    try dsimp only
    try k_fold
  k_with "my comma" =>
    first
      | ((with_reducible show wpAny _ _ (call _ [Value.ref _, _]) _ _ _); (k_dflt (refine' useKV (hDk _) ?km1 ?km2 ?kB ?kF ?kX ?kN ?kT ?kC ?kD ?kU ?_; walk_at "my_call"; (case km1 => k_mem); (case km2 => k_mem))))
      | ((with_reducible show wpAny _ _ (call _ [Value.ref _]) _ _ _); (k_dflt (refine' useKV hD0 ?km1 ?km2 ?kB ?kF ?kX ?kN ?kT ?kC ?kD ?kU ?_; walk_at "my_call"; (case km1 => k_mem); (case km2 => k_mem))))
      | ((with_reducible show wpAny _ _ (call _ [Value.str (S l1) _, _]) _ _ _); (k_dflt (refine' useS (hTk l1 (.inl rfl) _ _) ?kB ?kF ?kX ?kN ?kT ?kC ?kD ?kU ?_; walk_at "my_call")))
      | ((with_reducible show wpAny _ _ (call _ [Value.str (S l1) _]) _ _ _); (k_dflt (refine' useS (hT0 l1 (.inl rfl) _) ?kB ?kF ?kX ?kN ?kT ?kC ?kD ?kU ?_; walk_at "my_call")))
      | ((with_reducible show wpAny _ _ (call _ [Value.str (S l2) _, _]) _ _ _); (k_dflt (refine' useS (hTk l2 (.inr rfl) _ _) ?kB ?kF ?kX ?kN ?kT ?kC ?kD ?kU ?_; walk_at "my_call")))
      | ((with_reducible show wpAny _ _ (call _ [Value.str (S l2) _]) _ _ _); (k_dflt (refine' useS (hT0 l2 (.inr rfl) _) ?kB ?kF ?kX ?kN ?kT ?kC ?kD ?kU ?_; walk_at "my_call")))
      | ((with_reducible show wpAny _ _ (call _ [Value.str _ _, _]) _ _ _); (k_dflt (refine' useS (hRk (by omega) (by omega) _ _) ?kB ?kF ?kX ?kN ?kT ?kC ?kD ?kU ?_; walk_at "my_call")))
      | ((with_reducible show wpAny _ _ (call _ [Value.str _ _]) _ _ _); (k_dflt (refine' useS (hRc (by omega) (by omega) _) ?kB ?kF ?kX ?kN ?kT ?kC ?kD ?kU ?_; walk_at "my_call")))
    intro t9 h9 tk9 F9 N9
    try dsimp only
    try k_fold
  k_with "my forV" =>
    (with_reducible refine with_toks_nr (n := 1) ?kt1 ?_; (case kt1 => first | omega | (dsimp only; omega)))
    (rename Fr _ _ _ _ => lF')
    (with_unfolding_all refine' For_invVF lF' ?k1 ?k2 ?_; (case k1 => exact rfl); (case k2 => exact rfl); k_whole)
  k_with "my ne" =>
    refine s_ne (r := true) rfl rfl (by simp) ?_
  k_with "my eq" =>
    refine s_eq (r := true) rfl rfl (by simp) ?_
  k_with "my repl" =>
    (with_reducible rename Fr _ _ _ _ => F')
    first
      | refine s_repl (l := laidL top low k) (c := 45) (e := []) rfl lit_minus lit_empty (by first | omega | exact ne0_of (by assumption)) (by omega) (by omega) (by omega) (by decide) (strikeS rfl) (booked (prog := PySem.Challenge.rw_fe0129_01.row.prog) F' X T) ?_
      | refine s_repl (l := (laidL top low k).filter (· != 45)) (c := 44) (e := []) rfl lit_comma lit_empty (by omega) (by omega) (by omega) (by omega) (by decide) (strikeS rfl) (booked (prog := PySem.Challenge.rw_fe0129_01.row.prog) F' X T) ?_
      | refine s_repl (l := ((laidL top low k).filter (· != 45)).filter (· != 44)) (c := 46) (e := []) rfl lit_dot lit_empty (by omega) (by omega) (by omega) (by omega) (by decide) (strikeS rfl) (booked (prog := PySem.Challenge.rw_fe0129_01.row.prog) F' X T) ?_
    intro _ _ lk9
    try dsimp only at lk9
  k_with "my lstrip" =>
    refine s_lstripc (a := bareL (laidL top low k)) (b := [48]) rfl lit_nought (by omega) hr ?_
    intro _ _
  k_with "my gen" =>
    (with_reducible refine gentoks0 ?_)
    intro tk8 ltk8
  refine' spec_of (binds := [(Str.ofString "one", .ref x), (Str.ofString "texts", .ref lt), (Str.ofString "top", .int top tt), (Str.ofString "low", .int low tl), (Str.ofString "digits", .int (k : Int) td)]) ?k6 ?k7 ?k9 ?kB ?c2 ?c3 ?c4 ?c5 ?_
  k_dflt walk_at "my_side"
  intro dp un gd outer A₀ base g L s Q E B F X N T hd hu hkl hret htk
  have hf1 : ((laidL top low k).filter (· != 45)).length ≤ 200 := Nat.le_trans (List.length_filter_le _ _) hll
  have hf2 : (((laidL top low k).filter (· != 45)).filter (· != 44)).length ≤ 200 := Nat.le_trans (List.length_filter_le _ _) hf1
  have hf3 : (bareL (laidL top low k)).length ≤ 200 := Nat.le_trans (List.length_filter_le _ _) hf2
  have hf4 : r.length ≤ 200 := by
    have h := len_lstripChars (S (bareL (laidL top low k))) (S [48])
    rw [hr, S_len, S_len] at h
    omega
  refine wpAny_noRaise ?_
  k_steps
  all_goals (show Q (Flow.ret (Value.bool _)) _)
  all_goals (refine hret (Flow.ret (.bool _)) _ ((lt, lstObj #[.str (S l1) u1, .str (S l2) u2]) :: dbl w x dx n d k1 t1 k2 t2) _ _ _ rfl (by assumption) (by walk_at "my_keep") ⟨rfl, 0, congrArg Value.bool ?_⟩)
  all_goals first | rfl | assumption | (simp only [beq_iff_eq, decide_eq_true_eq]; omega)
/-- a quotient put right: its bounds, and what lies nearest -/
theorem rnd_bound {x y : Int} (hy : 0 < y) : 2 * (rnd x y * y - x) ≤ y ∧ -y ≤ 2 * (rnd x y * y - x) := by
  rw [rnd_eq hy]
  have h := Int.mul_ediv_add_emod x y
  have h1 := Int.emod_nonneg x (Int.ne_of_gt hy)
  have h2 := Int.emod_lt_of_pos x hy
  generalize x / y = q at *
  generalize x % y = r at *
  subst h
  split
  · rw [Int.add_mul, Int.one_mul, Int.mul_comm q y]
    generalize y * q = z at *
    omega
  · rw [Int.mul_comm q y]
    generalize y * q = z at *
    omega
theorem rnd_near {x y R : Int} (hy : 0 < y) (h1 : 2 * (x - R * y) < y) (h2 : -y < 2 * (x - R * y)) : rnd x y = R := by
  rw [rnd_eq hy]
  obtain ⟨e, rfl⟩ : ∃ e, x = e + R * y := ⟨x - R * y, by omega⟩
  rw [Int.add_sub_cancel] at h1 h2
  rw [Int.add_mul_ediv_right _ _ (Int.ne_of_gt hy), Int.add_mul_emod_self_right]
  by_cases he : 0 ≤ e
  · have e1 : e / y = 0 := Int.ediv_eq_zero_of_lt he (by omega)
    have e2 : e % y = e := Int.emod_eq_of_lt he (by omega)
    rw [e1, e2, if_neg (by omega)]; omega
  · have e1 : e / y = -1 := by
      rw [show e = (e + y) + (-1) * y by omega, Int.add_mul_ediv_right _ _ (Int.ne_of_gt hy), Int.ediv_eq_zero_of_lt (by omega) (by omega)]; rfl
    have e2 : e % y = e + y := by
      rw [show e = (e + y) + (-1) * y by omega, Int.add_mul_emod_self_right, Int.emod_eq_of_lt (by omega) (by omega)]; omega
    rw [e1, e2, if_pos (by omega)]; omega
theorem rnd_le {x y c : Int} (hy : 0 < y) (h : x ≤ c * y) : rnd x y ≤ c := by
  rw [rnd_eq hy]
  have h0 := Int.mul_ediv_add_emod x y
  have h1 := Int.emod_nonneg x (Int.ne_of_gt hy)
  have h2 := Int.emod_lt_of_pos x hy
  have h3 : x / y ≤ c := by
    have := Int.ediv_le_ediv hy h
    rwa [Int.mul_ediv_cancel _ (Int.ne_of_gt hy)] at this
  split
  · rename_i hc
    by_cases h4 : x / y = c
    · exfalso
      rw [h4, Int.mul_comm] at h0
      omega
    · omega
  · exact h3
theorem rnd_ge {x y c : Int} (hy : 0 < y) (h : c * y ≤ x) : c ≤ rnd x y := by
  have h3 : c ≤ x / y := (Int.le_ediv_iff_mul_le hy).mpr h
  rw [rnd_eq hy]
  split <;> omega
theorem rnd_zero {y : Int} (hy : 0 < y) : rnd 0 y = 0 := rnd_near hy (by omega) (by omega)
theorem sft_neg (n d : Int) : sft (-n) d = sft n d := by
  unfold sft Builtin.Int.intBits
  simp only [Int.natAbs_neg, Int.neg_eq_zero, bne, beq_iff_eq]
  try rfl
theorem nrN_neg {n d : Int} (hd : 0 < d) : nrN (-n) d = -nrN n d := by
  unfold nrN
  rw [sft_neg, Int.neg_mul, rnd_neg (Int.mul_pos hd (pow2_pos _)), Int.neg_mul]
theorem nrD_neg (n d : Int) : nrD (-n) d = nrD n d := by unfold nrD; rw [sft_neg]
theorem nrD_pos (n d : Int) : 0 < nrD n d := pow2_pos _
theorem bits_of_lt {x : Int} {m : Nat} (h0 : 0 ≤ x) (h : x < 2 ^ m) : Builtin.Int.intBits x ≤ m := by
  refine bits_lit ?_
  have := cast_pow2 m
  omega
/-- where the shift stands -/
theorem sft_pos_bin {N d : Nat} (hN : 0 < N) (hd : 0 < d) (hbn : Builtin.Int.intBits (N : Int) ≤ 160) (hbd : Builtin.Int.intBits (d : Int) ≤ 160) :
    (d * 2 ^ ((-sft N d).toNat + 52) ≤ N * 2 ^ (sft N d).toNat) ∧ (N * 2 ^ (sft N d).toNat < d * 2 ^ ((-sft N d).toNat + 53)) := by
  obtain ⟨h1, h2, h3⟩ := sft_bin (n := (N : Int)) (by omega) hd hbn hbd
  rw [Int.natAbs_natCast] at h2 h3
  refine ⟨(inBin_le h1 rfl rfl 2052 52 rfl).mpr h2, ?_⟩
  have := mt (inBin_le (N := N) (d := d) h1 rfl rfl 2053 53 rfl).mp (Nat.not_le_of_lt h3)
  omega
theorem re_key {N d : Nat} (hN : 0 < N) (hN2 : N < 10 ^ 15) (hd : 0 < d) (hbd : Builtin.Int.intBits (d : Int) ≤ 160) : (-sft N d).toNat = 0 ∧ d < 2 ^ (sft N d).toNat := by
  have hbn : Builtin.Int.intBits (N : Int) ≤ 160 := bits_of_lt (by omega) (by
    have : (N : Int) < 10 ^ 15 := by exact_mod_cast hN2
    exact Int.lt_trans this (by decide))
  obtain ⟨h1, -⟩ := sft_pos_bin hN hd hbn hbd
  generalize sft N d = σ at *
  have h2 : d * 2 ^ ((-σ).toNat + 52) < 2 ^ 50 * 2 ^ σ.toNat := Nat.lt_of_le_of_lt h1 ((Nat.mul_lt_mul_right (Nat.pow_pos (by decide))).mpr (by omega))
  have h3 : d * 2 ^ (-σ).toNat * 4 < 2 ^ σ.toNat := by
    rw [Nat.pow_add] at h2
    rw [show (2 : Nat) ^ 52 = 4 * 2 ^ 50 by decide] at h2
    generalize (2 : Nat) ^ (-σ).toNat = u at *
    generalize (2 : Nat) ^ σ.toNat = v at *
    have e : d * (u * (4 * 2 ^ 50)) = d * u * 4 * 2 ^ 50 := by rw [← Nat.mul_assoc, ← Nat.mul_assoc]
    rw [e] at h2
    omega
  have h4 : 1 ≤ 2 ^ (-σ).toNat := Nat.pow_pos (by decide)
  have h5 : d ≤ d * 2 ^ (-σ).toNat := Nat.le_mul_of_pos_right _ h4
  have h6 : 0 < σ.toNat := by
    rcases Nat.eq_zero_or_pos σ.toNat with h | h
    · rw [h] at h3; omega
    · exact h
  exact ⟨by omega, by omega⟩
/-- a number of at most fifteen figures is told again -/
theorem re_abs {N d : Nat} (hN : 0 < N) (hN2 : N < 10 ^ 15) (hd : 0 < d) (hbd : Builtin.Int.intBits (d : Int) ≤ 160) : 0 < nrN N d ∧ rnd (nrN N d * d) (nrD N d) = N := by
  obtain ⟨h1, h2⟩ := re_key hN hN2 hd hbd
  have h3 : (d : Int) < 2 ^ (sft N d).toNat := by have := cast_pow2 (sft N d).toNat; omega
  have h4 := rnd_bound (x := (N : Int) * 2 ^ (sft N d).toNat) (y := d) (by omega)
  have e : nrN N d = rnd ((N : Int) * 2 ^ (sft N d).toNat) d := by unfold nrN; rw [h1]; simp
  have h5 : rnd (nrN N d * d) (nrD N d) = N := by
    rw [e, show nrD N d = 2 ^ (sft N d).toNat from rfl]
    refine rnd_near (pow2_pos _) ?_ ?_ <;> omega
  have h6 : 0 ≤ nrN N d := by rw [e]; exact rnd_nonneg (Int.mul_nonneg (by omega) (Int.le_of_lt (pow2_pos _))) (by omega)
  refine ⟨?_, h5⟩
  rcases Int.lt_or_eq_of_le h6 with h | h
  · exact h
  · rw [← h, Int.zero_mul, rnd_zero (nrD_pos _ _)] at h5; omega
/-- the bounds of a double -/
theorem nr_bound {N d : Nat} (hN : 0 < N) (hd : 0 < d) (hbn : Builtin.Int.intBits (N : Int) ≤ 160) (hbd : Builtin.Int.intBits (d : Int) ≤ 160) : 0 ≤ nrN N d ∧ nrN N d * d ≤ 2 * N * nrD N d := by
  obtain ⟨h1, -⟩ := sft_pos_bin hN hd hbn hbd
  have hy : (0 : Int) < (d : Int) * 2 ^ (-sft N d).toNat := Int.mul_pos (by omega) (pow2_pos _)
  have h4 := (rnd_bound (x := (N : Int) * 2 ^ (sft N d).toNat) hy).1
  have h5 : (d : Int) * 2 ^ (-sft N d).toNat ≤ (N : Int) * 2 ^ (sft N d).toNat := by
    rw [cast_hi, cast_hi]
    refine Int.ofNat_le.mpr (Nat.le_trans (Nat.mul_le_mul_left _ (Nat.pow_le_pow_right (by decide) (Nat.le_add_right _ 52))) h1)
  refine ⟨Int.mul_nonneg (rnd_nonneg (Int.mul_nonneg (by omega) (Int.le_of_lt (pow2_pos _))) hy) (Int.le_of_lt (pow2_pos _)), ?_⟩
  unfold nrN nrD
  rw [Int.mul_assoc, Int.mul_comm (2 ^ (-sft N d).toNat) (d : Int), Int.mul_assoc 2]
  generalize (d : Int) * 2 ^ (-sft N d).toNat = y at *
  generalize (N : Int) * 2 ^ (sft N d).toNat = x at *
  omega
theorem nr_bits {N d : Nat} (hN : 0 < N) (hd : 0 < d) (hbn : Builtin.Int.intBits (N : Int) ≤ 160) (hbd : Builtin.Int.intBits (d : Int) ≤ 160) : Builtin.Int.intBits (nrN N d) ≤ 400 ∧ Builtin.Int.intBits (nrD N d) ≤ 400 := by
  have hs : sft N d ≤ 213 := by
    unfold sft
    dsimp only
    split <;> omega
  have hD : nrD N d ≤ 2 ^ 213 := by
    unfold nrD
    have := Nat.pow_le_pow_right (n := 2) (by decide) (show (sft N d).toNat ≤ 213 by omega)
    exact_mod_cast this
  obtain ⟨h0, h1⟩ := nr_bound hN hd hbn hbd
  have hDp := nrD_pos (N : Int) (d : Int)
  have hNb := intBits_le_iff.mp hbn
  rw [Int.natAbs_natCast] at hNb
  have hNb2 : (N : Int) < 2 ^ 160 := by exact_mod_cast hNb
  refine ⟨bits_of_lt h0 ?_, bits_of_lt (Int.le_of_lt hDp) (Int.lt_of_le_of_lt hD (by decide))⟩
  have h2 : nrN N d ≤ nrN N d * d := by
    have := Int.mul_le_mul_of_nonneg_left (show (1 : Int) ≤ d by omega) h0
    rwa [Int.mul_one] at this
  have h3 : 2 * (N : Int) * nrD N d ≤ 2 * 2 ^ 160 * 2 ^ 213 := Int.mul_le_mul (by omega) hD (Int.le_of_lt hDp) (by decide)
  exact Int.lt_of_le_of_lt (Int.le_trans h2 (Int.le_trans h1 h3)) (by decide)
/-- a fraction, in size -/
theorem nr_small {N d k : Nat} (hN : 0 < N) (hN2 : N < 10 ^ 21) (hd : 0 < d) (hbd : Builtin.Int.intBits (d : Int) ≤ 160) (hk : k ≤ 20) : rnd (nrN N d * 10 ^ k) (nrD N d) < 10 ^ 59 ∧ (nrN N d).fdiv (nrD N d) < 10 ^ 40 := by
  have hbn : Builtin.Int.intBits (N : Int) ≤ 160 := bits_of_lt (by omega) (by
    have : (N : Int) < 10 ^ 21 := by exact_mod_cast hN2
    exact Int.lt_trans this (by decide))
  obtain ⟨h0, h1⟩ := nr_bound hN hd hbn hbd
  have hDp := nrD_pos (N : Int) (d : Int)
  have h2 : nrN N d ≤ nrN N d * d := by
    have := Int.mul_le_mul_of_nonneg_left (show (1 : Int) ≤ d by omega) h0
    rwa [Int.mul_one] at this
  have h3 := Int.le_trans h2 h1
  have hN3 : (N : Int) < 10 ^ 21 := by exact_mod_cast hN2
  have hp : (10 : Int) ^ k ≤ 10 ^ 20 := by
    have := Nat.pow_le_pow_right (n := 10) (by decide) hk
    exact_mod_cast this
  have hp0 : (0 : Int) < 10 ^ k := Int.pow_pos (by decide)
  constructor
  · refine Int.lt_of_le_of_lt (rnd_le (c := 2 * N * 10 ^ k) hDp ?_) ?_
    · have := Int.mul_le_mul_of_nonneg_right h3 (Int.le_of_lt hp0)
      rw [Int.mul_assoc (2 * (N : Int)), Int.mul_comm (10 ^ k), ← Int.mul_assoc]
      exact this
    · have : 2 * (N : Int) * 10 ^ k ≤ 2 * 10 ^ 21 * 10 ^ 20 := Int.mul_le_mul (by omega) hp (Int.le_of_lt hp0) (by decide)
      exact Int.lt_of_le_of_lt this (by decide)
  · rw [Int.fdiv_eq_ediv_of_nonneg _ (Int.le_of_lt hDp)]
    have := Int.ediv_le_ediv hDp h3
    rw [Int.mul_ediv_cancel _ (Int.ne_of_gt hDp)] at this
    refine Int.lt_of_le_of_lt this ?_
    have e : (10 : Int) ^ 40 = 10 ^ 21 * 10 ^ 19 := by decide
    omega
/-- the whole part is no more than what is told -/
theorem whole_le {x y : Int} {k : Nat} (hx : 0 ≤ x) (hy : 0 < y) : x.fdiv y * 10 ^ k ≤ rnd (x * 10 ^ k) y := by
  refine rnd_ge hy ?_
  rw [Int.fdiv_eq_ediv_of_nonneg _ (Int.le_of_lt hy), Int.mul_assoc, Int.mul_comm (10 ^ k), ← Int.mul_assoc]
  refine Int.mul_le_mul_of_nonneg_right ?_ (Int.le_of_lt (Int.pow_pos (by decide)))
  exact Int.ediv_mul_le _ (Int.ne_of_gt hy)
/-- the pair that _law_near gives -/
def qN (n d : Int) : Int := if n = 0 then 0 else nrN n d
def qD (n d : Int) : Int := if n = 0 then 1 else nrD n d
theorem c_nearA (w : World) (mean : ExcName → Option Value) (mg mb : Str → Option Value) (n d : Int) (tn td : Tok) (hd0 : 0 < d) (hbn : Builtin.Int.intBits n ≤ 160) (hbd : Builtin.Int.intBits d ≤ 160) :
    Spec w mean mg mb 4 20 219 ⟨[.int n tn, .int d td], []⟩ [] (RTup (qN n d) (qD n d)) := by
  by_cases h : n = 0
  · subst h
    exact c_near0 w mean mg mb d tn td hd0
  · unfold qN qD
    rw [if_neg h, if_neg h]
    exact c_near w mean mg mb n d tn td hd0 h hbn hbd
theorem nrN_sign {n : Int} {d : Nat} (hd : 0 < d) : nrN n d = if n < 0 then -nrN n.natAbs d else nrN n.natAbs d := by
  split
  · have e : n = -(n.natAbs : Int) := by omega
    rw [← nrN_neg (by omega), ← e]
  · have e : n = (n.natAbs : Int) := by omega
    rw [← e]
theorem nrD_sign {n : Int} (d : Int) : nrD n d = nrD n.natAbs d := by
  by_cases h : n < 0
  · have e : -n = (n.natAbs : Int) := by omega
    rw [← nrD_neg, e]
  · have e : n = (n.natAbs : Int) := by omega
    rw [← e]
/-- all that is asked of the pair -/
theorem q_facts {n : Int} {d : Nat} (hd : 0 < d) (hn : n.natAbs < 10 ^ 21) (hbd : Builtin.Int.intBits (d : Int) ≤ 160) {k : Nat} (hk : k ≤ 20) :
    0 < qD n d ∧ Builtin.Int.intBits (qN n d) ≤ 400 ∧ Builtin.Int.intBits (qD n d) ≤ 400 ∧ rnd ((if qN n d < 0 then -qN n d else qN n d) * 10 ^ k) (qD n d) < 10 ^ 59 ∧ (if qN n d < 0 then -qN n d else qN n d).fdiv (qD n d) < 10 ^ 40 := by
  by_cases h : n = 0
  · unfold qN qD
    rw [if_pos h, if_pos h]
    refine ⟨by decide, by decide, by decide, ?_, by decide⟩
    rw [if_neg (by decide), Int.zero_mul, rnd_zero (by decide)]; decide
  · unfold qN qD
    rw [if_neg h, if_neg h, nrD_sign]
    have hN : 0 < n.natAbs := by omega
    have hbn : Builtin.Int.intBits (n.natAbs : Int) ≤ 160 := bits_of_lt (by omega) (by
      have : ((n.natAbs : Nat) : Int) < 10 ^ 21 := by exact_mod_cast hn
      exact Int.lt_trans this (by decide))
    obtain ⟨h0, -⟩ := nr_bound hN hd hbn hbd
    obtain ⟨b1, b2⟩ := nr_bits hN hd hbn hbd
    obtain ⟨s1, s2⟩ := nr_small hN hn hd hbd hk
    have e : (if nrN n d < 0 then -nrN n d else nrN n d) = nrN n.natAbs d := by
      rw [nrN_sign hd]
      by_cases h2 : n < 0
      · rw [if_pos h2]
        split <;> omega
      · rw [if_neg h2]
        split <;> omega
    rw [e]
    refine ⟨nrD_pos _ _, ?_, b2, s1, s2⟩
    rw [nrN_sign hd]
    split
    · exact intBits_neg_le b1
    · exact b1
theorem mk_facts {n : Int} {d : Nat} (hd : 0 < d) (hn : n.natAbs < 10 ^ 21) (hbd : Builtin.Int.intBits (d : Int) ≤ 160) {k : Nat} (hk : k ≤ 20) :
    0 < mkD n d ∧ Builtin.Int.intBits (mkN n d) ≤ 400 ∧ Builtin.Int.intBits (mkD n d) ≤ 400 ∧ rnd ((if mkN n d < 0 then -mkN n d else mkN n d) * 10 ^ k) (mkD n d) < 10 ^ 59 := by
  by_cases h : n = 0
  · unfold mkN mkD
    rw [if_pos h, if_pos h]
    refine ⟨by omega, by decide, by omega, ?_⟩
    rw [if_neg (by decide), Int.zero_mul, rnd_zero (by omega)]; decide
  · obtain ⟨h1, h2, h3, h4, -⟩ := q_facts (n := n) hd hn hbd hk
    unfold mkN mkD
    simp only [qN, qD, if_neg h] at h1 h2 h3 h4
    simp only [if_neg h]
    exact ⟨h1, h2, h3, h4⟩
/-- the double's own words are the law's -/
theorem laidG_eq {n : Int} {d : Nat} (hd : 0 < d) (k : Nat) : laidG (mkN n d) (mkD n d) k = laidL (qN n d) (qD n d) k := by
  by_cases h : n = 0
  · unfold laidG laidL mkN mkD qN qD
    simp only [if_pos h]
    rw [if_neg (by decide), if_neg (by decide), Int.zero_mul, rnd_zero (by omega), rnd_zero (by decide)]
  · unfold laidG laidL mkN mkD qN qD
    simp only [if_neg h]
theorem grpi_tr {x y : Int} (hy : 0 < y) : grpi (tr x y) = cutL x y := by
  unfold grpi tr cutL
  have hy' := Int.le_of_lt hy
  by_cases h : 0 ≤ x
  · have h2 : ¬ x < 0 := by omega
    have h3 : 0 ≤ x.fdiv y := Int.fdiv_nonneg h hy'
    have h4 : ¬ x.fdiv y < 0 := by omega
    have e : (x.fdiv y).natAbs = (x.fdiv y).toNat := by omega
    rw [if_pos h, if_neg h4, if_neg h2, if_neg (fun q => h2 q.1), e]
  · have h2 : x < 0 := by omega
    have h3 : 0 ≤ (-x).fdiv y := Int.fdiv_nonneg (by omega) hy'
    have e : (-((-x).fdiv y)).natAbs = ((-x).fdiv y).toNat := by omega
    rw [if_neg h, if_pos h2, e]
    by_cases h5 : 0 < (-x).fdiv y
    · rw [if_pos (by omega), if_pos ⟨h2, h5⟩]
    · rw [if_neg (by omega), if_neg (fun q => h5 q.2)]
theorem cut_eq {n : Int} {d : Nat} (hd : 0 < d) : grpi (tr (mkN n d) (mkD n d)) = cutL (qN n d) (qD n d) := by
  by_cases h : n = 0
  · unfold mkN mkD qN qD
    simp only [if_pos h]
    have e : tr 0 d = 0 := by unfold tr; rw [if_pos (by decide)]; exact Int.zero_fdiv _
    rw [e]; rfl
  · have h1 : 0 < qD n d := by unfold qD; rw [if_neg h]; exact nrD_pos _ _
    rw [← grpi_tr h1]
    unfold mkN mkD qN qD
    simp only [if_neg h]
/-- the minus of a number -/
def sgn (n : Int) : List Nat := if n < 0 then [45] else []
theorem sgn_or (n : Int) : sgn n = [] ∨ sgn n = [45] := by
  unfold sgn
  split
  · exact .inr rfl
  · exact .inl rfl
theorem sgn_times (n : Int) : (if sgn n = [45] then -1 else 1) * (n.natAbs : Int) = n := by
  unfold sgn
  by_cases h : n < 0
  · rw [if_pos h, if_pos rfl]; omega
  · rw [if_neg h, if_neg (by decide)]; omega
theorem val_zs (z : Nat) (l : List Nat) : NumText.digitsVal (zs z ++ l) = NumText.digitsVal l := by
  induction z with
  | zero => rfl
  | succ z ih =>
    show NumText.digitsVal (48 :: (zs z ++ l)) = _
    rw [NumText.digitsVal_zero, ih]
theorem val_dec (b N : Nat) : NumText.digitsVal (dg (N / 10 ^ b) ++ pd b N) = N := by
  rw [← figs_eq]
  unfold figs
  rw [val_zs, val_dg]
theorem pow_len (b N : Nat) : (10 : Int) ^ (pd b N).length = ((10 ^ b : Nat) : Int) := by
  rw [pd_length, Int.natCast_pow]; rfl
theorem bits_nat {N : Nat} (h : N < 10 ^ 21) : Builtin.Int.intBits (N : Int) ≤ 100 := bits_of_lt (by omega) (by
  have : (N : Int) < 10 ^ 21 := by exact_mod_cast h
  exact Int.lt_trans this (by decide))
theorem bits_natA {n : Int} (h : n.natAbs < 10 ^ 21) : Builtin.Int.intBits n ≤ 100 := by
  have h1 := bits_nat h
  by_cases h2 : n < 0
  · have e : n = -(n.natAbs : Int) := by omega
    rw [e]; exact intBits_neg_le h1
  · have e : n = (n.natAbs : Int) := by omega
    rw [e]; exact h1
theorem bits_ten {b : Nat} (h : b ≤ 20) : Builtin.Int.intBits ((10 ^ b : Nat) : Int) ≤ 160 := by
  have := bits_pow10 (k := b) (by omega)
  rw [Int.natCast_pow]
  exact Nat.le_trans this (by decide)
theorem dgW_len {N b : Nat} (h : N < 10 ^ 21) : (dg (N / 10 ^ b)).length ≤ 21 := dg_length (by decide) (Nat.lt_of_le_of_lt (Nat.div_le_self _ _) h)
section
variable (w : World) (mean : ExcName → Option Value) (mg mb : Str → Option Value)
/-- a decimal read: the double -/
theorem read_dec {n : Int} {b : Nat} (hn : n.natAbs < 10 ^ 21) (hb : b ≤ 20) (tx : Tok) :
    Spec w mean mg mb 12 50 160 ⟨[.str (S (sgn n ++ (dg (n.natAbs / 10 ^ b) ++ 46 :: pd b n.natAbs))) tx], []⟩ [] (RDbl w (mkN n ((10 ^ b : Nat) : Int)) (mkD n ((10 ^ b : Nat) : Int))) := by
  have h := c_read w mean mg mb (sgn n) (dg (n.natAbs / 10 ^ b)) (46 :: pd b n.natAbs) [46] (pd b n.natAbs) tx (sgn_or n) (figs_append (figs_dg _) (figs_pd _ _)) (dg_ne _) (Nat.le_trans (dgW_len hn) (by decide)) (by rw [List.length_cons, pd_length]; omega)
    (part_some fun hm => by have := figs_dg _ 46 hm; omega) rfl (fun c hc => List.mem_singleton.mp hc) (by rw [val_dec]; exact bits_nat hn) (by rw [pd_length]; exact hb)
  rw [val_dec, sgn_times, pow_len] at h
  exact h
theorem read_int {v : Int} (hv : v.natAbs < 10 ^ 21) (tx : Tok) : Spec w mean mg mb 12 50 160 ⟨[.str (S (dgi v)) tx], []⟩ [] (RDbl w (mkN v 1) (mkD v 1)) := by
  have h := c_read w mean mg mb (sgn v) (dg v.natAbs) [] [] [] tx (sgn_or v) (by rw [List.append_nil]; exact figs_dg _) (dg_ne _) (Nat.le_trans (dg_length (k := 21) (by decide) hv) (by decide)) (by decide)
    (by rw [List.append_nil]; exact part_none fun hm => by have := figs_dg _ 46 hm; omega) rfl (fun c hc => nomatch hc) (by rw [List.append_nil, val_dg]; exact bits_nat hv) (by decide)
  rw [List.append_nil, val_dg, sgn_times] at h
  exact h
theorem dgi_text {v : Int} (hv : v.natAbs < 10 ^ 21) : PySem.intText? (S (dgi v)) = some v := by
  have hl := dg_length (n := v.natAbs) (k := 21) (by decide) hv
  by_cases h : v < 0
  · have e : (S (dgi v)).cps.toList = 45 :: dg v.natAbs := by rw [S_cps]; unfold dgi; rw [if_pos h]; rfl
    rw [intText_neg e (figs_dg _) (dg_ne _) (by rw [S_len]; unfold dgi; rw [if_pos h, List.length_append, List.length_singleton]; omega), val_dg]
    congr 1; omega
  · have e : (S (dgi v)).cps.toList = dg v.natAbs := by rw [S_cps]; unfold dgi; rw [if_neg h]; rfl
    rw [intText_digits (by rw [e]; exact figs_dg _) (by rw [e]; exact dg_ne _) (by rw [S_len]; unfold dgi; rw [if_neg h, List.nil_append]; omega), e, val_dg]
    congr 1; omega
theorem tr_abs {x y : Int} (hy : 0 < y) : (tr x y).natAbs = ((if x < 0 then -x else x).fdiv y).toNat := by
  unfold tr
  have hy' := Int.le_of_lt hy
  by_cases h : 0 ≤ x
  · have h3 : 0 ≤ x.fdiv y := Int.fdiv_nonneg h hy'
    rw [if_pos h, if_neg (by omega)]; omega
  · have h3 : 0 ≤ (-x).fdiv y := Int.fdiv_nonneg (by omega) hy'
    rw [if_neg h, if_pos (by omega)]; omega
theorem tr_zero {y : Int} : tr 0 y = 0 := by unfold tr; rw [if_pos (by decide)]; exact Int.zero_fdiv _
theorem trm_small {n : Int} {d : Nat} (hd : 0 < d) (hn : n.natAbs < 10 ^ 21) (hbd : Builtin.Int.intBits (d : Int) ≤ 160) : (tr (mkN n d) (mkD n d)).natAbs < 10 ^ 40 := by
  by_cases h : n = 0
  · unfold mkN
    rw [if_pos h, tr_zero]; decide
  · obtain ⟨h1, -, -, -, h5⟩ := q_facts (k := 0) hd hn hbd (by decide)
    have e1 : mkN n d = qN n d := by unfold mkN qN; rw [if_neg h]
    have e2 : mkD n d = qD n d := by unfold mkD qD; rw [if_neg h, if_neg h]
    rw [e1, e2, tr_abs h1]
    have : (10 : Int) ^ 40 = ((10 ^ 40 : Nat) : Int) := by rw [Int.natCast_pow]; rfl
    omega
theorem no44 {n : Int} {l : List Nat} (h : ∀ c ∈ l, c = 46 ∨ (48 ≤ c ∧ c ≤ 57)) {D : List Nat} : (sgn n ++ grp D ++ l).filter (· != 44) = sgn n ++ (grp D).filter (· != 44) ++ l := by
  have h1 : (sgn n).filter (· != 44) = sgn n := by rcases sgn_or n with e | e <;> rw [e] <;> rfl
  have h2 : l.filter (· != 44) = l := List.filter_eq_self.mpr fun c hc => by have := h c hc; simp; omega
  rw [List.filter_append, List.filter_append, h1, h2]
/-- a decimal's text, with commas or without -/
theorem comma_dec {n : Int} {b : Nat} (hn : n.natAbs < 10 ^ 21) (hb : b ≤ 20) {l : List Nat} (hl : l.length ≤ 200) (hc : l.filter (· != 44) = sgn n ++ (dg (n.natAbs / 10 ^ b) ++ 46 :: pd b n.natAbs)) {k : Nat} (hk : k ≤ 20) :
    (∀ t0 t1, Spec w mean mg mb 20 90 205 ⟨[.str (S l) t0, .int (k : Int) t1], []⟩ [] (RStr (S (laidL (qN n ((10 ^ b : Nat) : Int)) (qD n ((10 ^ b : Nat) : Int)) k)))) ∧
    (∀ t0, Spec w mean mg mb 20 90 205 ⟨[.str (S l) t0], []⟩ [] (RStr (S (cutL (qN n ((10 ^ b : Nat) : Int)) (qD n ((10 ^ b : Nat) : Int)))))) := by
  have hd : 0 < 10 ^ b := Nat.pow_pos (by decide)
  obtain ⟨f1, f2, f3, f4⟩ := mk_facts (k := k) hd hn (bits_ten hb) hk
  have hdot : 46 ∈ sgn n ++ (dg (n.natAbs / 10 ^ b) ++ 46 :: pd b n.natAbs) := List.mem_append_right _ (List.mem_append_right _ List.mem_cons_self)
  constructor
  · intro t0 t1
    rw [← laidG_eq hd]
    exact c_commaSk w mean mg mb l _ _ _ k t0 t1 hc hl hdot (read_dec w mean mg mb hn hb) f1 f2 f3 hk f4
  · intro t0
    rw [← cut_eq hd]
    exact c_commaS0 w mean mg mb l _ _ _ t0 hc hl hdot (read_dec w mean mg mb hn hb) f1 f2 f3 (Nat.le_trans (dg_length (k := 40) (by decide) (trm_small hd hn (bits_ten hb))) (by decide))
end
theorem re_v {v : Int} {d : Nat} (hd : 0 < d) (hbd : Builtin.Int.intBits (d : Int) ≤ 160) (h0 : v ≠ 0) (h1 : v.natAbs < 10 ^ 15) : sgn (qN v d) = sgn v ∧ rnd ((if qN v d < 0 then -qN v d else qN v d) * d) (qD v d) = v.natAbs := by
  obtain ⟨p1, p2⟩ := re_abs (N := v.natAbs) (by omega) h1 hd hbd
  have e1 : qN v d = if v < 0 then -nrN v.natAbs d else nrN v.natAbs d := by unfold qN; rw [if_neg h0, nrN_sign hd]
  have e2 : qD v d = nrD v.natAbs d := by unfold qD; rw [if_neg h0, nrD_sign]
  have e3 : (if qN v d < 0 then -qN v d else qN v d) = nrN v.natAbs d := by
    rw [e1]
    by_cases h2 : v < 0
    · rw [if_pos h2]; split <;> omega
    · rw [if_neg h2]; split <;> omega
  constructor
  · unfold sgn
    rw [e1]
    by_cases h2 : v < 0
    · rw [if_pos h2, if_pos (by omega), if_pos h2]
    · rw [if_neg h2, if_neg (by omega), if_neg h2]
  · rw [e3, e2]; exact p2
/-- what is told, by its figures -/
def wordsOf (sg : List Nat) (R k : Nat) : List Nat := sg ++ grp (dg (R / 10 ^ k)) ++ (if 0 < k then 46 :: pd k R else [])
theorem laidL_words (x y : Int) (k : Nat) : laidL x y k = wordsOf (sgn x) (rnd ((if x < 0 then -x else x) * 10 ^ k) y).toNat k := rfl
theorem laid_re {v : Int} {k : Nat} (hk : k ≤ 20) (h0 : v ≠ 0) (h1 : v.natAbs < 10 ^ 15) : laidL (qN v ((10 ^ k : Nat) : Int)) (qD v ((10 ^ k : Nat) : Int)) k = wordsOf (sgn v) v.natAbs k := by
  obtain ⟨e1, e2⟩ := re_v (v := v) (d := 10 ^ k) (Nat.pow_pos (by decide)) (bits_ten hk) h0 h1
  rw [laidL_words, e1]
  rw [Int.natCast_pow] at e2 ⊢
  rw [show ((10 : Nat) : Int) = 10 from rfl] at e2 ⊢
  rw [e2, Int.toNat_natCast]
theorem words_len {sg : List Nat} {R k : Nat} (hs : sg.length ≤ 1) (hR : R < 10 ^ 59) (hk : k ≤ 20) : (wordsOf sg R k).length ≤ 200 := by
  have h1 : (dg (R / 10 ^ k)).length ≤ 59 := dg_length (by decide) (Nat.lt_of_le_of_lt (Nat.div_le_self _ _) hR)
  have h2 := grp_length (dg (R / 10 ^ k))
  unfold wordsOf
  rw [List.length_append, List.length_append]
  split
  · rw [List.length_cons, pd_length]; omega
  · rw [List.length_nil]; omega
theorem sgn_len (n : Int) : (sgn n).length ≤ 1 := by rcases sgn_or n with e | e <;> rw [e] <;> decide
theorem figs_tail {k R : Nat} : ∀ c ∈ (if 0 < k then 46 :: pd k R else []), c = 46 ∨ (48 ≤ c ∧ c ≤ 57) := by
  intro c hc
  split at hc
  · rcases List.mem_cons.mp hc with rfl | hc
    · exact .inl rfl
    · exact .inr (figs_pd _ _ c hc)
  · cases hc
theorem words_44 (v : Int) (R k : Nat) : (wordsOf (sgn v) R k).filter (· != 44) = sgn v ++ (dg (R / 10 ^ k) ++ (if 0 < k then 46 :: pd k R else [])) := by
  unfold wordsOf
  rw [no44 figs_tail, grp_filter (figs_dg _), List.append_assoc]
theorem pow15 : (10 : Nat) ^ 15 < 10 ^ 21 := by decide
section
variable (w : World) (mean : ExcName → Option Value) (mg mb : Str → Option Value)
/-- a told number is told again -/
theorem told_again {v : Int} {k : Nat} (hk : k ≤ 20) (h0 : v ≠ 0) (h1 : v.natAbs < 10 ^ 15) (t0 t1 : Tok) :
    Spec w mean mg mb 20 90 205 ⟨[.str (S (wordsOf (sgn v) v.natAbs k)) t0, .int (k : Int) t1], []⟩ [] (RStr (S (wordsOf (sgn v) v.natAbs k))) := by
  have hl : (wordsOf (sgn v) v.natAbs k).length ≤ 200 := words_len (sgn_len v) (Nat.lt_trans h1 (by decide)) hk
  have hn : v.natAbs < 10 ^ 21 := Nat.lt_trans h1 pow15
  by_cases hk0 : 0 < k
  · have h := (comma_dec w mean mg mb hn hk hl (by rw [words_44, if_pos hk0]) hk).1 t0 t1
    rw [laid_re hk h0 h1] at h
    exact h
  · have hk1 : k = 0 := by omega
    subst hk1
    have e1 : (dg (v.natAbs / 10 ^ 0)) = dg v.natAbs := by rw [Nat.pow_zero, Nat.div_one]
    have hc : (wordsOf (sgn v) v.natAbs 0).filter (· != 44) = dgi v := by
      rw [words_44, if_neg (by decide), List.append_nil, e1]; rfl
    have hdot : 46 ∉ dgi v := fun hm => by
      unfold dgi at hm
      exact sg_free (figs_dg _) hm
    obtain ⟨f1, f2, f3, f4⟩ := mk_facts (n := v) (d := 1) (k := 0) (by decide) hn (by decide) (by decide)
    have h := c_commaIk w mean mg mb (wordsOf (sgn v) v.natAbs 0) (dgi v) (mkN v 1) (mkD v 1) v 0 t0 t1 hc hl hdot (dgi_text hn) (Nat.le_trans (bits_natA hn) (by decide)) (read_int w mean mg mb hn) f1 f1 f2 f3 (by decide) f4
    have e2 := laidG_eq (n := v) (d := 1) (by decide) 0
    have e3 := laid_re (v := v) (k := 0) (by decide) h0 h1
    rw [show ((10 ^ 0 : Nat) : Int) = 1 from rfl] at e3
    rw [show ((1 : Nat) : Int) = 1 from rfl] at e2
    rw [e2, e3] at h
    exact h
theorem grpi_44 (v : Int) : (grpi v).filter (· != 44) = dgi v := by
  have h := no44 (n := v) (l := []) (fun c hc => nomatch hc) (D := dg v.natAbs)
  rw [List.append_nil, List.append_nil, grp_filter (figs_dg _)] at h
  exact h
theorem bare_again {v : Int} (h1 : v.natAbs < 10 ^ 21) (t0 : Tok) : Spec w mean mg mb 20 90 205 ⟨[.str (S (grpi v)) t0], []⟩ [] (RStr (S (grpi v))) := by
  have hd := dg_length (n := v.natAbs) (k := 21) (by decide) h1
  have hl : (grpi v).length ≤ 200 := by
    have h2 := grp_length (dg v.natAbs)
    have h3 := sgn_len v
    unfold grpi
    unfold sgn at h3
    rw [List.length_append]; omega
  have hdot : 46 ∉ dgi v := fun hm => by
    unfold dgi at hm
    exact sg_free (figs_dg _) hm
  obtain ⟨f1, -, -, -⟩ := mk_facts (n := v) (d := 1) (k := 0) (by decide) h1 (by decide) (by decide)
  exact c_commaI0 w mean mg mb (grpi v) (dgi v) (mkN v 1) (mkD v 1) v t0 (grpi_44 v) hl hdot (dgi_text h1) (Nat.le_trans (bits_natA h1) (by decide)) (read_int w mean mg mb h1) f1 (Nat.le_trans hd (by decide))
end
/-- the figures that are counted -/
theorem bare_words (v : Int) (R k : Nat) : bareL (wordsOf (sgn v) R k) = dg (R / 10 ^ k) ++ pd k R := by
  have hD := figs_dg (R / 10 ^ k)
  have h45 : (wordsOf (sgn v) R k).filter (· != 45) = grp (dg (R / 10 ^ k)) ++ (if 0 < k then 46 :: pd k R else []) := by
    unfold wordsOf
    have e1 : (sgn v).filter (· != 45) = [] := by rcases sgn_or v with e | e <;> rw [e] <;> rfl
    have e2 : (grp (dg (R / 10 ^ k))).filter (· != 45) = grp (dg (R / 10 ^ k)) := List.filter_eq_self.mpr fun c hc => by
      rcases grp_mem hc with rfl | h
      · rfl
      · have := hD c h; simp; omega
    have e3 : (if 0 < k then 46 :: pd k R else [] : List Nat).filter (· != 45) = (if 0 < k then 46 :: pd k R else []) := List.filter_eq_self.mpr fun c hc => by
      have := figs_tail c hc; simp; omega
    rw [List.filter_append, List.filter_append, e1, e2, e3, List.nil_append]
  unfold bareL
  have e2 : (if 0 < k then 46 :: pd k R else [] : List Nat).filter (· != 44) = (if 0 < k then 46 :: pd k R else []) := List.filter_eq_self.mpr fun c hc => by
    have := figs_tail c hc; simp; omega
  have e3 : (dg (R / 10 ^ k)).filter (· != 46) = dg (R / 10 ^ k) := List.filter_eq_self.mpr fun c hc => by
    have := hD c hc; simp; omega
  have e4 : (pd k R).filter (· != 46) = pd k R := List.filter_eq_self.mpr fun c hc => by
    have := figs_pd k R c hc; simp; omega
  rw [h45, List.filter_append, grp_filter hD, e2, List.filter_append, e3]
  congr 1
  by_cases hk : 0 < k
  · rw [if_pos hk]
    show List.filter (· != 46) (46 :: pd k R) = _
    rw [List.filter_cons, if_neg (by decide), e4]
  · have : k = 0 := by omega
    subst this
    rfl
theorem dg_head {n : Nat} (h : 0 < n) : ∃ c r, dg n = c :: r ∧ c ≠ 48 := by
  induction n using Nat.strongRecOn with
  | ind n ih =>
    by_cases h1 : n < 10
    · exact ⟨48 + n, [], dg_lt h1, by omega⟩
    · obtain ⟨c, r, e, hc⟩ := ih (n / 10) (by omega) (by omega)
      exact ⟨c, r ++ [48 + n % 10], by rw [dg_ge (by omega), e]; rfl, hc⟩
theorem take48 (z : Nat) {r : List Nat} (hr : r = [] ∨ ∃ c r', r = c :: r' ∧ c ≠ 48) : ((zs z ++ r).takeWhile (S [48]).cps.contains).length = z := by
  have hin : (S [48]).cps.contains 48 = true := by simp [S]
  have hz : ∀ z, (zs z ++ r).takeWhile (S [48]).cps.contains = zs z ++ r.takeWhile (S [48]).cps.contains := by
    intro z
    induction z with
    | zero => rfl
    | succ z ih =>
      show (48 :: (zs z ++ r)).takeWhile _ = 48 :: (zs z ++ _)
      rw [List.takeWhile_cons, if_pos hin, ih]
  rw [hz, List.length_append, zs_length]
  rcases hr with rfl | ⟨c, r', rfl, hc⟩
  · rfl
  · rw [List.takeWhile_cons, if_neg (by simp [S]; omega)]; rfl
theorem lstrip0 (z : Nat) {r : List Nat} (hr : r = [] ∨ ∃ c r', r = c :: r' ∧ c ≠ 48) : Txt.lstripChars (S (zs z ++ r)) (S [48]) = S r := by
  unfold Txt.lstripChars
  rw [PyProof.Rows.stripBy_eq]
  have h1 : stripLo (S [48]).cps.contains true (S (zs z ++ r)) = z := by
    simp only [stripLo, if_true]
    rw [S_cps]; exact take48 z hr
  rw [h1]
  refine S_ext ?_
  simp [Builtin.Str.strSub, S, stripHi, zs_length]
  exact List.take_of_length_le (by simp [Str.length, zs_length])
/-- the figures counted, of the number told -/
def cnt (R : Nat) : List Nat := if R = 0 then [] else dg R
theorem cnt_strip (R k : Nat) : Txt.lstripChars (S (dg (R / 10 ^ k) ++ pd k R)) (S [48]) = S (cnt R) := by
  rw [← figs_eq]
  unfold figs cnt
  by_cases h : R = 0
  · subst h
    rw [if_pos rfl, dg_lt (by decide)]
    have e : zs (k + 1 - [48 + 0].length) ++ [48 + 0] = zs (k + 1) ++ [] := by
      rw [List.append_nil, List.length_singleton, Nat.add_sub_cancel]; exact zs_snoc k
    rw [e]
    exact lstrip0 _ (.inl rfl)
  · rw [if_neg h]
    exact lstrip0 _ (.inr (dg_head (by omega)))
theorem cnt_0 (R : Nat) : (cnt R).length = 0 ∨ 0 < R := by
  by_cases h : R = 0
  · exact .inl (by unfold cnt; rw [if_pos h]; rfl)
  · exact .inr (by omega)
theorem cnt_15 (R : Nat) : 15 < (cnt R).length ∨ R < 10 ^ 15 := by
  by_cases h : R = 0
  · exact .inr (by rw [h]; decide)
  · unfold cnt
    rw [if_neg h]
    by_cases h2 : 15 < (dg R).length
    · exact .inl h2
    · exact .inr (dg_lower (by omega))
theorem toNat_lt59 {x : Int} (h : x < 10 ^ 59) : x.toNat < 10 ^ 59 := by
  have : (10 : Int) ^ 59 = ((10 ^ 59 : Nat) : Int) := by rw [Int.natCast_pow]; rfl
  omega
section
variable (w : World) (mean : ExcName → Option Value) (mg mb : Str → Option Value)
theorem cut_small {n : Int} {d : Nat} (hd : 0 < d) (hn : n.natAbs < 10 ^ 21) (hbd : Builtin.Int.intBits (d : Int) ≤ 160) : (cutL (qN n d) (qD n d)).length ≤ 200 := by
  obtain ⟨h1, -, -, -, h5⟩ := q_facts (k := 0) hd hn hbd (by decide)
  rw [← grpi_tr h1]
  have h6 : (tr (qN n d) (qD n d)).natAbs < 10 ^ 40 := by
    rw [tr_abs h1]
    have : (10 : Int) ^ 40 = ((10 ^ 40 : Nat) : Int) := by rw [Int.natCast_pow]; rfl
    omega
  have h7 := dg_length (k := 40) (by decide) h6
  have h8 := grp_length (dg (tr (qN n d) (qD n d)).natAbs)
  have h9 := sgn_len (tr (qN n d) (qD n d))
  unfold grpi
  unfold sgn at h9
  rw [List.length_append]; omega
theorem again_facts {x y : Int} {k : Nat} (hy : 0 < y) (hk : k ≤ 20) (h0 : 0 < (rnd ((if x < 0 then -x else x) * 10 ^ k) y).toNat) (h1 : (rnd ((if x < 0 then -x else x) * 10 ^ k) y).toNat < 10 ^ 15) :
    (∀ t0 t1, Spec w mean mg mb 20 90 205 ⟨[.str (S (laidL x y k)) t0, .int (k : Int) t1], []⟩ [] (RStr (S (laidL x y k)))) ∧ (∀ t0, Spec w mean mg mb 20 90 205 ⟨[.str (S (cutL x y)) t0], []⟩ [] (RStr (S (cutL x y)))) := by
  have hx0 : 0 ≤ (if x < 0 then -x else x) := by split <;> omega
  have hW := whole_le (k := k) hx0 hy
  have hW0 : 0 ≤ (if x < 0 then -x else x).fdiv y := Int.fdiv_nonneg hx0 (Int.le_of_lt hy)
  rw [laidL_words, ← grpi_tr hy]
  constructor
  · intro t0 t1
    generalize (rnd ((if x < 0 then -x else x) * 10 ^ k) y).toNat = R at *
    have h := told_again w mean mg mb (v := if x < 0 then -(R : Int) else R) hk (by split <;> omega) (by split <;> omega) t0 t1
    have e1 : (if x < 0 then -(R : Int) else R).natAbs = R := by split <;> omega
    have e2 : sgn (if x < 0 then -(R : Int) else R) = sgn x := by
      unfold sgn
      by_cases hx : x < 0
      · rw [if_pos hx, if_pos (by omega), if_pos hx]
      · rw [if_neg hx, if_neg (by omega), if_neg hx]
    rw [e1, e2] at h
    exact h
  · intro t0
    refine bare_again w mean mg mb ?_ t0
    rw [tr_abs hy]
    have hp : (1 : Int) ≤ 10 ^ k := Int.pow_pos (by decide)
    have h3 : (if x < 0 then -x else x).fdiv y ≤ (if x < 0 then -x else x).fdiv y * 10 ^ k := by
      have := Int.mul_le_mul_of_nonneg_left hp hW0
      rwa [Int.mul_one] at this
    have : (10 : Nat) ^ 15 < 10 ^ 21 := by decide
    omega
theorem told0 {n : Int} {d : Nat} (hd : 0 < d) (hn : n.natAbs < 10 ^ 21) (hbd : Builtin.Int.intBits (d : Int) ≤ 160) {k : Nat} (hk : k ≤ 20) (x dx lt : Addr) (k1 t1 k2 t2 : Nat) (tt tl td : Tok) :
    Spec w mean mg mb 24 110 247 ⟨[.ref x, .ref lt, .int (qN n d) tt, .int (qD n d) tl, .int (k : Int) td], []⟩ ((lt, lstObj #[]) :: dbl w x dx (mkN n d) (mkD n d) k1 t1 k2 t2) (fun v after => after = ((lt, lstObj #[]) :: dbl w x dx (mkN n d) (mkD n d) k1 t1 k2 t2) ∧ ∃ t : Tok, v = (fun _ => .bool true) t) := by
  obtain ⟨q1, q2, q3, q4, q5⟩ := q_facts hd hn hbd hk
  obtain ⟨m1, m2, m3, m4⟩ := mk_facts hd hn hbd hk
  refine c_told0 w mean mg mb x dx lt _ _ k1 t1 k2 t2 (qN n d) (qD n d) k _ tt tl td q1 q2 q3 hk q4 q5 (by rw [laidL_words]; exact words_len (sgn_len _) (toNat_lt59 q4) hk) (cut_small hd hn hbd)
    (fun t0 => by rw [← laidG_eq hd]; exact c_commaDk w mean mg mb x dx _ _ k1 t1 k2 t2 k t0 m1 m2 m3 hk m4)
    (by rw [← cut_eq hd]; exact c_commaD0 w mean mg mb x dx _ _ k1 t1 k2 t2 m1 m2 m3 (Nat.le_trans (dg_length (k := 40) (by decide) (trm_small hd hn hbd)) (by decide)))
    (cnt (rnd ((if qN n d < 0 then -qN n d else qN n d) * 10 ^ k) (qD n d)).toNat) (by rw [laidL_words, bare_words]; exact cnt_strip _ _) (cnt_0 _) (cnt_15 _)
    (fun h0 h1 => (again_facts w mean mg mb q1 hk h0 h1).1) (fun h0 h1 => (again_facts w mean mg mb q1 hk h0 h1).2)
theorem told2 {n : Int} {b : Nat} (hb : b ≤ 20) (hn : n.natAbs < 10 ^ 21) {k : Nat} (hk : k ≤ 20) (x dx lt : Addr) (k1 t1 k2 t2 : Nat) (l1 l2 : List Nat) (u1 u2 : Tok) (tt tl td : Tok)
    (hl1 : l1.length ≤ 200) (hl2 : l2.length ≤ 200) (hc1 : l1.filter (· != 44) = sgn n ++ (dg (n.natAbs / 10 ^ b) ++ 46 :: pd b n.natAbs)) (hc2 : l2.filter (· != 44) = sgn n ++ (dg (n.natAbs / 10 ^ b) ++ 46 :: pd b n.natAbs)) :
    Spec w mean mg mb 24 110 247 ⟨[.ref x, .ref lt, .int (qN n ((10 ^ b : Nat) : Int)) tt, .int (qD n ((10 ^ b : Nat) : Int)) tl, .int (k : Int) td], []⟩ ((lt, lstObj #[.str (S l1) u1, .str (S l2) u2]) :: dbl w x dx (mkN n ((10 ^ b : Nat) : Int)) (mkD n ((10 ^ b : Nat) : Int)) k1 t1 k2 t2)
      (fun v after => after = ((lt, lstObj #[.str (S l1) u1, .str (S l2) u2]) :: dbl w x dx (mkN n ((10 ^ b : Nat) : Int)) (mkD n ((10 ^ b : Nat) : Int)) k1 t1 k2 t2) ∧ ∃ t : Tok, v = (fun _ => .bool true) t) := by
  have hd : 0 < 10 ^ b := Nat.pow_pos (by decide)
  have hbd := bits_ten hb
  obtain ⟨q1, q2, q3, q4, q5⟩ := q_facts hd hn hbd hk
  obtain ⟨m1, m2, m3, m4⟩ := mk_facts hd hn hbd hk
  refine c_told2 w mean mg mb x dx lt _ _ k1 t1 k2 t2 l1 l2 u1 u2 (qN n _) (qD n _) k _ tt tl td q1 q2 q3 hk q4 q5 (by rw [laidL_words]; exact words_len (sgn_len _) (toNat_lt59 q4) hk) (cut_small hd hn hbd)
    (fun t0 => by rw [← laidG_eq hd]; exact c_commaDk w mean mg mb x dx _ _ k1 t1 k2 t2 k t0 m1 m2 m3 hk m4)
    (by rw [← cut_eq hd]; exact c_commaD0 w mean mg mb x dx _ _ k1 t1 k2 t2 m1 m2 m3 (Nat.le_trans (dg_length (k := 40) (by decide) (trm_small hd hn hbd)) (by decide)))
    ?_ ?_
    (cnt (rnd ((if qN n ((10 ^ b : Nat) : Int) < 0 then -qN n ((10 ^ b : Nat) : Int) else qN n ((10 ^ b : Nat) : Int)) * 10 ^ k) (qD n ((10 ^ b : Nat) : Int))).toNat) (by rw [laidL_words, bare_words]; exact cnt_strip _ _) (cnt_0 _) (cnt_15 _)
    (fun h0 h1 => (again_facts w mean mg mb q1 hk h0 h1).1) (fun h0 h1 => (again_facts w mean mg mb q1 hk h0 h1).2)
  · rintro l (rfl | rfl)
    · exact (comma_dec w mean mg mb hn hb hl1 hc1 hk).1
    · exact (comma_dec w mean mg mb hn hb hl2 hc2 hk).1
  · rintro l (rfl | rfl)
    · exact (comma_dec w mean mg mb hn hb hl1 hc1 hk).2
    · exact (comma_dec w mean mg mb hn hb hl2 hc2 hk).2
end
/-- the law's own state: the script's list, the place in it, the mixed number -/
abbrev stLed (st lst : Addr) (vs : List Value) (i : Int) (ti : Tok) (a : Int) (ta : Tok) : Led := [(st, listOf #[.ref lst, .int i ti, .int a ta] 0), (lst, listOf vs.toArray 0)]
def StOk (ns : List Int) (i a : Int) : Prop := 0 ≤ i ∧ i ≤ ns.length ∧ 0 ≤ a ∧ a < 2147483648
theorem c_next (w : World) (mean : ExcName → Option Value) (mg mb : Str → Option Value) (st lst : Addr) (vs : List Value) (ns : List Int) (i : Int) (ti : Tok) (a : Int) (ta : Tok) (many : Int) (tm : Tok) (hI : IntsAre vs ns) (hn : ns.length ≤ 63) (hok : StOk ns i a) (hm0 : 0 < many) (hm1 : many ≤ 100) (hne : @Ne Nat st lst) :
    Spec w mean mg mb 4 30 212 ⟨[.ref st, .int many tm], []⟩ (stLed st lst vs i ti a ta) (fun v after => ∃ r t i' ti' a' ta', v = .int r t ∧ 0 ≤ r ∧ r < many ∧ StOk ns i' a' ∧ after = stLed st lst vs i' ti' a' ta') := by
  obtain ⟨h1, h2, h3, h4⟩ := hok
  k_with_none
  refine' spec_of (binds := [(Str.ofString "state", .ref st), (Str.ofString "many", .int many tm)]) ?k6 ?k7 ?k9 ?kB ?c2 ?c3 ?c4 ?c5 ?_
  k_dflt walk_at "my_side"
  intro dp un gd outer A₀ base g L s Q E B F X N T hd hu hkl hret htk
  have hvl : vs.length = ns.length := hI.length
  refine wpAny_noRaise ?_
  k_steps
  all_goals (rename News _ _ _ _ => N9)
  all_goals (refine hret (Flow.ret (.int _ _)) _ _ _ _ _ rfl (by assumption) N9 ⟨_, _, _, _, _, _, rfl, ?_, ?_, ⟨?_, ?_, ?_, ?_⟩, rfl⟩)
  all_goals first
    | omega
    | exact Int.fmod_nonneg_of_pos _ hm0
    | exact Int.fmod_lt_of_pos _ hm0
    | exact Int.fmod_nonneg_of_pos _ (by decide)
    | exact Int.lt_trans (Int.fmod_lt_of_pos _ (by decide)) (by decide)
/-- the law's body, from its own frame; the script's list stands in the ground heap -/
def BodyLaw (w : World) (mean : ExcName → Option Value) (mg mb : Str → Option Value) (D U : Nat) (body : List Stmt) (scope : Scope) : Prop :=
  ∀ (f : Addr) (qual : Str) (cdv : Value) (dp un : Nat) (gd : Option (List Code)) (outer : List Env) (A₀ : Around) (base g : Heap) (L : Addr) (s : Shared) (Q : Flow → Shared → Prop) (E : Value → Shared → Prop) (sc : Addr) (vs : List Value) (ns : List Int),
    Below A₀ base outer g → Fr g L s.heap (fun y => List.lookup y [(Str.ofString "script", Value.ref sc)].reverse) → (hd.heap_39 w.params).In g → News g L s.heap [] → MyTop mean mg mb g →
    dp + D < recursionLimit → un + U < cLine → g.IsList sc vs.toArray → IntsAre vs ns → ns.length ≤ 63 →
    (∀ m' h' tk', Fr g L h' m' → Q (.ret (.bool true)) { s with heap := h', toks := tk' }) →
    wpAny (model PySem.Challenge.rw_fe0129_01.row.prog w) { handled := none, depth := dp, frames := some (envOf qual scope L f cdv :: outer), guards := gd, units := un } (execs body (envOf qual scope L f cdv)) Q E s
theorem law_pack {K : Frag} {name name' qual qual' : Str} {params params' : Arguments} {body body' : List Stmt} {scope scope' : Scope} {dV kV doc pm cdv ct oc dV' kV' doc' pm' cdv' ct' oc' : Value} {an od an' od' : Option Addr} {osl osl' : Array (Option Value)} {f : Addr} {Pr : List Stmt → Scope → Prop}
    (ho : K.lookup f = some ⟨oc, od, .func (fnOf name qual params body scope dV kV doc pm an cdv ct), osl⟩) (ho' : K.lookup f = some ⟨oc', od', .func (fnOf name' qual' params' body' scope' dV' kV' doc' pm' an' cdv' ct'), osl'⟩) (h : Pr body' scope') : Pr body scope := by
  rw [ho] at ho'
  have e : fnOf name qual params body scope dV kV doc pm an cdv ct = fnOf name' qual' params' body' scope' dV' kV' doc' pm' an' cdv' ct' := Data.func.inj (Obj.mk.inj (Option.some.inj ho')).2.2.1
  have e1 : FuncBody.stmts body = FuncBody.stmts body' := congrArg FuncData.body e
  have e2 : scope = scope' := congrArg FuncData.scope e
  cases e1
  cases e2
  exact h
section
variable {w : World} {mg mb : Str → Option Value} {mean : ExcName → Option Value} {D U : Nat} {f : Addr} {args : Args}
  {dp un : Nat} {gd : Option (List Code)} {cn : Str} {cs : Scope} {a : Addr} {ccd : Value} {cl : List (Str × Addr)} {outer : List Env} {A₀ : Around} {base h₀ : Heap} {L : Addr} {m : Str → Option Value} {news : Led} {s : Shared} {Q E : Value → Shared → Prop}
theorem useNext {st lst : Addr} {vs : List Value} {i : Int} {ti : Tok} {ac : Int} {ta : Tok} {many : Int} {ns : List Int} {gf : Obj → Led}
    (h : Spec w mean mg mb D U f args (stLed st lst vs i ti ac ta) (fun v after => ∃ r t i' ti' a' ta', v = .int r t ∧ 0 ≤ r ∧ r < many ∧ StOk ns i' a' ∧ after = stLed st lst vs i' ti' a' ta'))
    (Up : UpdF st (listOf #[.ref lst, .int i ti, .int ac ta] 0) news gf) (hm : (lst, listOf vs.toArray 0) ∈ news) (hne : @Ne Nat st lst)
    (B : Below A₀ base outer h₀) (F : Fr h₀ L s.heap m) (X : (hd.heap_39 w.params).In h₀) (N : News h₀ L s.heap news) (T : MyTop mean mg mb h₀) (hck : cs.kind = .function) (hd : dp + D < recursionLimit) (hu : un + U < cLine)
    (ret : ∀ (r : Nat) t i' ti' a' ta' h' tk', (r : Int) < many → StOk ns i' a' → Fr h₀ L h' m → News h₀ L h' (gf (listOf #[.ref lst, .int i' ti', .int a' ta'] 0)) → Q (.int (r : Int) t) { s with heap := h', toks := tk' }) : MyCall w dp un gd cn cs L a ccd cl outer f args Q E s := by
  obtain ⟨pre, post, rfl, hg, n1, n2⟩ := Up.split
  have hmem : ∀ q ∈ stLed st lst vs i ti ac ta, q ∈ pre ++ (st, listOf #[.ref lst, .int i ti, .int ac ta] 0) :: post := by
    intro q hq
    rcases List.mem_cons.mp hq with rfl | hq
    · exact List.mem_append_right _ List.mem_cons_self
    · rw [List.mem_singleton.mp hq]; exact hm
  refine h dp un gd cn cs a ccd cl outer A₀ base h₀ L m _ s Q E B F X N T hck hmem hd hu fun v after h' tk' F' hN hr => ?_
  obtain ⟨r, t, i', ti', a', ta', rfl, r0, r1, ok, rfl⟩ := hr
  obtain ⟨r, rfl⟩ : ∃ m : Nat, r = m := ⟨r.toNat, by omega⟩
  refine ret r t i' ti' a' ta' h' tk' (by omega) ok F' ?_
  rw [hg]
  have key : ∀ q ∈ pre ++ post, q ∈ pre ++ (st, listOf #[.ref lst, .int i ti, .int ac ta] 0) :: post → q.1 ≠ st → News h₀ L h' [q] := by
    intro q hq hq2 hqs p hp
    rw [List.mem_singleton.mp hp]
    by_cases hl : q.1 = lst
    · have e : q = (lst, listOf vs.toArray 0) := by
        have h1 := (N q hq2).1
        have h2 := (N _ hm).1
        rw [hl] at h1
        exact Prod.ext hl (Option.some.inj (h1.symm.trans h2))
      rw [e]
      exact (hN [] (fun _ h => nomatch h) (fun _ h => nomatch h)).1 _ (List.mem_append_left _ (List.mem_cons_of_mem _ List.mem_cons_self))
    · refine (hN [q] (fun q' h' => by rw [List.mem_singleton.mp h']; exact hq2) (fun q' h' r' hr' e => ?_)).1 q (List.mem_append_right _ (List.mem_singleton.mpr rfl))
      rw [List.mem_singleton.mp h'] at e
      rcases List.mem_cons.mp hr' with rfl | hr'
      · exact hqs e.symm
      · rw [List.mem_singleton.mp hr'] at e
        exact hl e.symm
  intro q hq
  rcases List.mem_append.mp hq with hq | hq
  · exact key q (List.mem_append_left _ hq) (List.mem_append_left _ hq) (n1 q hq) q (List.mem_singleton.mpr rfl)
  · rcases List.mem_cons.mp hq with rfl | hq
    · exact (hN [] (fun _ h => nomatch h) (fun _ h => nomatch h)).1 _ (List.mem_append_left _ List.mem_cons_self)
    · exact key q (List.mem_append_right _ hq) (List.mem_append_right _ (List.mem_cons_of_mem _ hq)) (n2 q hq) q (List.mem_singleton.mpr rfl)
end
section
variable {w : World} {mg mb : Str → Option Value} {mean : ExcName → Option Value} {D U : Nat} {f : Addr} {args : Args}
  {dp un : Nat} {gd : Option (List Code)} {cn : Str} {cs : Scope} {a : Addr} {ccd : Value} {cl : List (Str × Addr)} {outer : List Env} {A₀ : Around} {base h₀ : Heap} {L : Addr} {m : Str → Option Value} {news : Led} {s : Shared} {Q E : Value → Shared → Prop}
theorem useK3 {v : Tok → Value} {p q r : Addr × Obj} (h : Spec w mean mg mb D U f args [p, q, r] (fun x after => after = [p, q, r] ∧ ∃ t, x = v t)) (h1 : p ∈ news) (h2 : q ∈ news) (h3 : r ∈ news)
    (B : Below A₀ base outer h₀) (F : Fr h₀ L s.heap m) (X : (hd.heap_39 w.params).In h₀) (N : News h₀ L s.heap news) (T : MyTop mean mg mb h₀) (hck : cs.kind = .function) (hd : dp + D < recursionLimit) (hu : un + U < cLine)
    (ret : ∀ t h' tk', Fr h₀ L h' m → News h₀ L h' news → Q (v t) { s with heap := h', toks := tk' }) : MyCall w dp un gd cn cs L a ccd cl outer f args Q E s := by
  refine useKK h (fun x hx => ?_) B F X N T hck hd hu ret
  rcases List.mem_cons.mp hx with rfl | hx
  · exact h1
  rcases List.mem_cons.mp hx with rfl | hx
  · exact h2
  rw [List.mem_singleton.mp hx]; exact h3
end
theorem ten_nat (b : Nat) : ((10 ^ b : Nat) : Int) = 10 ^ (b : Int).toNat := by rw [Int.natCast_pow, Int.toNat_natCast]; rfl
section
variable (w : World) (mean : ExcName → Option Value) (mg mb : Str → Option Value)
theorem told2P {n : Int} {b : Nat} (hb : b ≤ 20) (hn : n.natAbs < 10 ^ 21) {k : Nat} (hk : k ≤ 20) (x dx lt : Addr) (k1 t1 k2 t2 : Nat) (l1 l2 : List Nat) (u1 u2 : Tok) (tt tl td : Tok)
    (hl1 : l1.length ≤ 200) (hl2 : l2.length ≤ 200) (hc1 : l1.filter (· != 44) = sgn n ++ (dg (n.natAbs / 10 ^ b) ++ 46 :: pd b n.natAbs)) (hc2 : l2.filter (· != 44) = sgn n ++ (dg (n.natAbs / 10 ^ b) ++ 46 :: pd b n.natAbs)) :
    Spec w mean mg mb 24 110 247 ⟨[.ref x, .ref lt, .int (qN n (10 ^ (b : Int).toNat)) tt, .int (qD n (10 ^ (b : Int).toNat)) tl, .int (k : Int) td], []⟩ [(lt, listOf #[.str (S l1) u1, .str (S l2) u2] 0), (x, instObj 116 dx), (dx, dblDict w (mkN n (10 ^ (b : Int).toNat)) (mkD n (10 ^ (b : Int).toNat)) k1 t1 k2 t2)]
      (fun v after => after = [(lt, listOf #[.str (S l1) u1, .str (S l2) u2] 0), (x, instObj 116 dx), (dx, dblDict w (mkN n (10 ^ (b : Int).toNat)) (mkD n (10 ^ (b : Int).toNat)) k1 t1 k2 t2)] ∧ ∃ t : Tok, v = (fun _ => .bool true) t) := by
  have h := told2 w mean mg mb hb hn hk x dx lt k1 t1 k2 t2 l1 l2 u1 u2 tt tl td hl1 hl2 hc1 hc2
  rw [ten_nat] at h
  exact h
theorem told0P {n : Int} {d : Int} (hd : 0 < d) (hn : n.natAbs < 10 ^ 21) (hbd : Builtin.Int.intBits d ≤ 160) {k : Nat} (hk : k ≤ 20) (x dx lt : Addr) (k1 t1 k2 t2 : Nat) (tt tl td : Tok) :
    Spec w mean mg mb 24 110 247 ⟨[.ref x, .ref lt, .int (qN n d) tt, .int (qD n d) tl, .int (k : Int) td], []⟩ [(lt, listOf #[] 0), (x, instObj 116 dx), (dx, dblDict w (mkN n d) (mkD n d) k1 t1 k2 t2)] (fun v after => after = [(lt, listOf #[] 0), (x, instObj 116 dx), (dx, dblDict w (mkN n d) (mkD n d) k1 t1 k2 t2)] ∧ ∃ t : Tok, v = (fun _ => .bool true) t) := by
  obtain ⟨d, rfl⟩ : ∃ m : Nat, d = m := ⟨d.toNat, by omega⟩
  exact told0 w mean mg mb (by omega) hn hbd hk x dx lt k1 t1 k2 t2 tt tl td
end
/-- the texts that the law makes -/
theorem text_len {sg W P : List Nat} {b R : Nat} (hs : sg.length ≤ 1) (hW : W.length ≤ 2 * (dg (R / 10 ^ b)).length) (hP : P = pd b R) (hb : b ≤ 20) (hR : R < 10 ^ 21) : (sg ++ W ++ [46] ++ P).length ≤ 200 := by
  have := dgW_len (b := b) hR
  rw [List.length_append, List.length_append, List.length_append, hP, pd_length, List.length_singleton]
  omega
theorem text_clean {n : Int} {sg W P : List Nat} {b R : Nat} (hs : sg = sgn n) (hW : W.filter (· != 44) = dg (R / 10 ^ b)) (hP : P = pd b R) (hR : n.natAbs = R) :
    (sg ++ W ++ [46] ++ P).filter (· != 44) = sgn n ++ (dg (n.natAbs / 10 ^ b) ++ 46 :: pd b n.natAbs) := by
  have h1 : (sgn n).filter (· != 44) = sgn n := by rcases sgn_or n with e | e <;> rw [e] <;> rfl
  have h2 : (pd b R).filter (· != 44) = pd b R := List.filter_eq_self.mpr fun c hc => by have := figs_pd b R c hc; simp; omega
  rw [List.filter_append, List.filter_append, List.filter_append, hs, h1, hW, hP, h2, hR, List.append_assoc, List.append_assoc]
  rfl
theorem dg_44 (n : Nat) : (dg n).filter (· != 44) = dg n := List.filter_eq_self.mpr fun c hc => by have := figs_dg n c hc; simp; omega
/-- the denominators -/
def lows : List Int := [3, 7, 8, 64, 1000003, 1099511627776]
theorem lows_ok (r : Nat) (h : r < 6) : 0 < lows.getD r 0 ∧ Builtin.Int.intBits (lows.getD r 0) ≤ 41 := by
  have : ∀ r, r < 6 → 0 < lows.getD r 0 ∧ Builtin.Int.intBits (lows.getD r 0) ≤ 41 := by decide
  exact this r h
theorem natAbs21 {x : Int} {i : Nat} (h0 : 0 ≤ x) (h1 : x < 10 ^ (i + 1)) (hi : i ≤ 20) : x.toNat < 10 ^ 21 := by
  have h2 : (10 : Nat) ^ (i + 1) ≤ 10 ^ 21 := Nat.pow_le_pow_right (by decide) (by omega)
  have h3 : ((10 ^ (i + 1) : Nat) : Int) = (10 : Int) ^ (i + 1) := Int.natCast_pow 10 _
  omega
theorem law_bits {x : Int} {i : Nat} (h0 : 0 ≤ x) (h1 : x < 10 ^ (i + 1)) (hi : i ≤ 20) : Builtin.Int.intBits x ≤ 100 := by
  refine bits_of_lt h0 (Int.lt_of_lt_of_le h1 ?_)
  have h2 : (10 : Nat) ^ (i + 1) ≤ 10 ^ 21 := Nat.pow_le_pow_right (by decide) (by omega)
  have h3 : (10 : Int) ^ (i + 1) ≤ 10 ^ 21 := by exact_mod_cast h2
  exact Int.le_trans h3 (by decide)
abbrev nfTop (sc st : Addr) (top : Int) (tt : Tok) : Str → Option Value := fun y =>
  if y = Str.ofString "top" then some (.int top tt) else if y = Str.ofString "state" then some (.ref st) else List.lookup y [(Str.ofString "script", Value.ref sc)].reverse
local macro_rules | `(tactic| walk_at "my_ext") => `(tactic| (intro y'; (by_cases h1 : y' = Str.ofString "top"; (simp only [nfTop, if_pos h1]; rfl)); (by_cases h2 : y' = Str.ofString "state"; (simp only [nfTop, if_neg h1, if_pos h2]; rfl)); simp only [nfTop, if_neg h1, if_neg h2]))
local macro_rules | `(tactic| walk_at "my_extx") => `(tactic| (intro y' hx; (by_cases h1 : y' = Str.ofString "top"; (simp only [nfTop, if_pos h1, if_neg hx]; rfl)); (by_cases h2 : y' = Str.ofString "state"; (simp only [nfTop, if_neg h1, if_pos h2, if_neg hx]; rfl)); simp only [nfTop, if_neg h1, if_neg h2, if_neg hx]))
local macro_rules | `(tactic| walk_at "call ref") => `(tactic| (k_here; (with_reducible show wpAny _ _ (call (Value.ref 212) _) _ _ _); k_extra "my next"))
local macro_rules | `(tactic| walk_at "call ref") => `(tactic| (k_here; (with_reducible show wpAny _ _ (call (Value.ref 219) [Value.int _ _, Value.int _ _]) _ _ _); k_extra "my near"))
local macro_rules | `(tactic| walk_at "call ref") => `(tactic| (k_here; (with_reducible show wpAny _ _ (call (Value.ref 247) _) _ _ _); k_extra "my told"))
local macro_rules | `(tactic| walk_at "subscriptTail") => `(tactic| (k_here; (with_reducible show wpAny _ _ (subscriptTail (Expr.List _ _) _ (Value.ref _) (Value.int _ _)) _ _ _); k_extra "my low"))
local macro_rules | `(tactic| walk_at "execs cons") => `(tactic| (k_here; (with_reducible show wpAny _ _ (execs (Stmt.Assign [Expr.Tuple [_, _, _] _ _] (Expr.Tuple _ _ _) _ :: _) _) _ _ _); k_extra "my cut"))
theorem app2 {p q : Addr × Obj} {own : Led} : ∀ r ∈ [p, q] ++ own, r ∈ p :: ([q].append own) := fun _ h => h
theorem law_body {w : World} {mean : ExcName → Option Value} {mg mb : Str → Option Value} {name qual : Str} {params : Arguments} {body : List Stmt} {scope : Scope} {dV kV doc pm cdv ct oc : Value} {an od : Option Addr} {osl : Array (Option Value)}
    (ho : (hd.heap_39 w.params).lookup 254 = some ⟨oc, od, .func (fnOf name qual params body scope dV kV doc pm an cdv ct), osl⟩) : BodyLaw w mean mg mb 40 200 body scope := by
  k_with_none
  k_with "my next" =>
    k_dflt (refine' useNext (c_next _ _ _ _ st lst ws (ns.take 60) _ _ _ _ _ _ hI2 hn2 ?ok ?m0 ?m1 hne) ?up ?hm hne ?kB ?kF ?kX ?kN ?kT ?kC ?kD ?kU ?_; walk_at "my_call"; (case up => k_updF); (case hm => k_mem); (case ok => assumption); (case m0 => decide); (case m1 => decide))
    intro r9 t9 i9' ti9 a9 ta9 h9 tk9 rl9 ok9 F9 N9
    try dsimp only
    try k_fold
  k_with "my for" =>
    (rename IsRange _ _ _ _ _ _ _ _ => rg9)
    (refine range_loop (L := L) (n := r9) (nf := fun (c : Int × Tok × Int × Tok × Int × Tok) => nfTop sc st c.1 c.2.1) (led := fun c => stLed st lst ws c.2.2.1 c.2.2.2.1 c.2.2.2.2.1 c.2.2.2.2.2) (fun i c => 0 ≤ c.1 ∧ c.1 < 10 ^ (i + 1) ∧ StOk (ns.take 60) c.2.2.1 c.2.2.2.2.1) (_, _, _, _, _, _) rfl rfl rg9 rfl (by omega) (by assumption) (by assumption) (but_x (by walk_at "my_ext")) (by exact fun _ h => h) (fun _ => rfl) ⟨by dsimp only; omega, by (simp; omega), by assumption⟩ ?_ ?_)
    rintro ⟨x9, tx9, i9', ti9, a9, ta9⟩ i9 tk9 h9 tk9' own9 hi9 ⟨hp9, hq9, ok9⟩ ho9 F9 N9
    try dsimp only at hp9 hq9 ok9
    have hb9 := law_bits hp9 hq9 (by omega)
    try dsimp only at F9 N9
    try k_fold
    rotate_left
    rintro ⟨x9, tx9, i9', ti9, a9, ta9⟩ h9 tk9' v9 ⟨hp9, hq9, ok9⟩ F9 N9
    try dsimp only at hp9 hq9 ok9
    have hb9 := law_bits hp9 hq9 (by omega)
    have hl9 := dg_len_int (by omega) hp9 hq9
    try dsimp only at F9 N9
    try k_fold
    rotate_left
  k_with "my cut" =>
    refine execs_join (g := g) (L := L) (nf := fun (c : Nat × Tok × Bool × Nat × Tok × Int × Tok × Int × Tok) y => if y = Str.ofString "behind" then some (.int (c.1 : Int) c.2.1) else if y = Str.ofString "minus" then some (.bool c.2.2.1) else if y = Str.ofString "digits" then some (.int (c.2.2.2.1 : Int) c.2.2.2.2.1) else if y = Str.ofString "turn" then v9 y else nfTop sc st x9 tx9 y)
      (led := fun c => stLed st lst ws c.2.2.2.2.2.1 c.2.2.2.2.2.2.1 c.2.2.2.2.2.2.2.1 c.2.2.2.2.2.2.2.2) (P := fun c => c.1 < 13 ∧ (c.2.2.1 = true → 0 < x9) ∧ c.2.2.2.1 < 21 ∧ StOk (ns.take 60) c.2.2.2.2.2.1 c.2.2.2.2.2.2.2.1) ?_ ?_
    try k_fold
    rotate_left
    rintro ⟨b9, tb9, mi9, kd9, tkd9, i9', ti9, a9, ta9⟩ h9 tk9' ⟨hb13, hmi9, hk21, ok9⟩ F9 N9
    try dsimp only at hb13 hmi9 hk21 ok9 F9 N9
    have hx21 := natAbs21 hp9 hq9 (by omega)
    have hbN : Builtin.Int.intBits (0 - x9) ≤ 100 := by rw [Int.zero_sub]; exact intBits_neg_le hb9
    cases mi9
    all_goals (first | (have hpos9 := hmi9 rfl) | skip)
    all_goals (try clear hmi9)
    all_goals (try k_fold)
  k_with "my near" =>
    k_dflt (refine' useT (c_nearA _ _ _ _ _ _ _ _ ?p1 ?p2 ?p3) ?kB ?kF ?kX ?kN ?kT ?kC ?kD ?kU ?_; walk_at "my_call"; (case p1 => first | assumption | omega | exact Int.pow_pos (by decide)); (case p2 => exact Nat.le_trans (by bits_by_make) (by omega)); (case p3 => exact Nat.le_trans (by bits_by_make) (by omega)))
    intro P9 u91 u92 c9 h9 tk9 F9 N9 A9
    (replace A9 := allNe_of A9)
    (try simp only [AllNe, and_true] at A9)
    try dsimp only
    try k_fold
  k_with "my told" =>
    first
      | (k_dflt (refine' useK3 (told0P w mean mg mb (d := low9) (by omega) ?hnN (by omega) (k := kd9) (by omega) _ _ _ _ _ _ _ _ _ _) ?km1 ?km2 ?km3 ?kB ?kF ?kX ?kN ?kT ?kC ?kD ?kU ?_; walk_at "my_call"; (case km1 => k_mem); (case km2 => k_mem); (case km3 => k_mem); (case hnN => omega)))
      | ((rename (_ : List Nat) = grp _ => est9)
         (k_dflt (refine' useK3 (told2P w mean mg mb (b := b9) (by omega) ?hnN (k := kd9) (by omega) _ _ _ _ _ _ _ _ _ _ _ _ _ _ ?hl1 ?hl2 ?hc1 ?hc2) ?km1 ?km2 ?km3 ?kB ?kF ?kX ?kN ?kT ?kC ?kD ?kU ?_; walk_at "my_call"; (case km1 => k_mem); (case km2 => k_mem); (case km3 => k_mem); (case hnN => omega); (case hl1 => ((first | refine text_len (sg := []) ?q1 (Nat.le_trans (Nat.le_of_eq (congrArg List.length (figs_take _ _))) ?q2) (figs_drop _ _) ?q3 hx21 | refine text_len (sg := [45]) ?q1 (Nat.le_trans (Nat.le_of_eq (congrArg List.length (figs_take _ _))) ?q2) (figs_drop _ _) ?q3 hx21); (case q1 => decide); (case q2 => omega); (case q3 => omega))); (case hl2 => ((first | refine text_len (sg := []) ?q1 ?q2 (figs_drop _ _) ?q3 hx21 | refine text_len (sg := [45]) ?q1 ?q2 (figs_drop _ _) ?q3 hx21); (case q1 => decide); (case q2 => (rw [est9, figs_take]; exact grp_length _)); (case q3 => omega))); (case hc1 => ((first | refine text_clean (sg := []) ?q1 ?q2 (figs_drop _ _) ?q3 | refine text_clean (sg := [45]) ?q1 ?q2 (figs_drop _ _) ?q3); (case q1 => (unfold sgn; first | rw [if_neg (by omega)] | rw [if_pos (by omega)])); (case q2 => (rw [figs_take]; exact dg_44 _)); (case q3 => omega))); (case hc2 => ((first | refine text_clean (sg := []) ?q1 ?q2 (figs_drop _ _) ?q3 | refine text_clean (sg := [45]) ?q1 ?q2 (figs_drop _ _) ?q3); (case q1 => (unfold sgn; first | rw [if_neg (by omega)] | rw [if_pos (by omega)])); (case q2 => (rw [est9, figs_take]; exact grp_filter (figs_dg _))); (case q3 => omega))))))
    intro _ h9 tk9 F9 N9
    (replace N9 : News g L h9 (stLed st lst ws i9' ti9 a9 ta9) := fun q hq => N9 q (keep2 (by k_mem) (by k_mem) q hq))
    try dsimp only
    try k_fold
  k_with "my low" =>
    (with_unfolding_all refine' item_anyK (ns := lows) ?k1 ?k2 ?k3 ?k4 ?k5 ?_ ?k6; (case k1 => is_list); (case k2 => exact .cons _ _ (.cons _ _ (.cons _ _ (.cons _ _ (.cons _ _ (.cons _ _ .nil)))))); (case k3 => omega); (case k4 => (show (r9 : Int) < 6; omega)); (case k5 => omega); (case k6 => with_unfolding_all rfl); k_whole)
    intro t8
    rw [Int.toNat_natCast]
    have hlow9 := lows_ok r9 (by omega)
    generalize lows.getD r9 0 = low9 at *
    obtain ⟨hlow0, hlowb⟩ := hlow9
    try k_fold
  refine' law_pack (Pr := fun body scope => BodyLaw w mean mg mb 40 200 body scope) ho ?k6 ?_
  k_dflt (case k6 => k_is)
  clear ho
  intro f qual cdv dp un gd outer A₀ base g L s Q E sc vs ns B F X N T hd hu hL hI hn hret
  have hn2 : (ns.take 60).length ≤ 63 := by rw [List.length_take]; omega
  refine wpAny_noRaise ?_
  refine execs_join (g := g) (L := L) (nf := fun (c : Addr × Addr × List Value × Tok × Tok) y => if y = Str.ofString "state" then some (.ref c.1) else List.lookup y [(Str.ofString "script", Value.ref sc)].reverse) (led := fun c => stLed c.1 c.2.1 c.2.2.1 0 c.2.2.2.1 17 c.2.2.2.2) (P := fun c => @Ne Nat c.1 c.2.1 ∧ IntsAre c.2.2.1 (ns.take 60)) ?_ ?_
  · k_steps
    (rename @LT.lt _ _ _ _ => lq9)
    exact joined_of (_, _, _, _, _) (by assumption) (fun _ => rfl) (by assumption) (by exact fun _ h => h) ⟨Nat.ne_of_gt lq9, by assumption⟩
  rintro ⟨st, lst, ws, ti, ta⟩ h tk ⟨hne, hI2⟩ F1 N1
  try dsimp only at hne hI2 F1 N1
  have ok0 : StOk (ns.take 60) 0 17 := ⟨by decide, by omega, by decide, by decide⟩
  clear F N
  k_steps
  all_goals first
    | exact joined_of (_, _, _, _, _, i9', ti9, a9, ta9) (by assumption) (fun _ => rfl) (by assumption) (by exact fun q hq => List.mem_cons_of_mem _ hq) ⟨by dsimp only; omega, (by dsimp only; intro h8; first | exact of_decide_eq_true h8 | (cases h8; done) | (exfalso; (simp only [decide_eq_true_eq, beq_iff_eq] at h8); omega)), by dsimp only; omega, by assumption⟩
    | exact joined_of (_, _, _, _, _, i9', ti9, a9, ta9) (by assumption) (fun _ => rfl) (by assumption) (by exact fun q hq => hq) ⟨by dsimp only; omega, (by dsimp only; intro h8; first | exact of_decide_eq_true h8 | (cases h8; done) | (exfalso; (simp only [decide_eq_true_eq, beq_iff_eq] at h8); omega)), by dsimp only; omega, by assumption⟩
    | exact hret _ _ _ (by assumption)
    | exact turnEnd_of (_, _, i9', ti9, a9, ta9) (by assumption) (by
      intro y' hx
      by_cases h1 : y' = Str.ofString "top"
      · simp only [nfTop, if_pos h1, if_neg hx] <;> rfl
      · by_cases h2 : y' = Str.ofString "state"
        · simp only [nfTop, if_neg h1, if_pos h2, if_neg hx]
        · simp only [nfTop, if_neg h1, if_neg h2, if_neg hx]) (by assumption) (by exact app2) ⟨by dsimp only; omega, by dsimp only; rw [Int.pow_succ 10 (i9 + 1)]; omega, by assumption⟩
end Mine
theorem PySem.Challenge.cw_fe0129_01_holds : PySem.Challenge.rw_fe0129_01.Holds := by
  k_with_none
  refine Mine.hd ?_
  w_strict k_go0
  all_goals try k_fold
  refine' Mine.law_body ?ho _ _ _ _ _ _ _ _ _ _ _ _ _ _ _ _ _ ?B ?F ?X ?N ?T ?hd ?hu ?hL ?hI ?hn ?hret
  case ho => k_is
  case B => assumption
  case F => assumption
  case X => assumption
  case N => assumption
  case T => assumption
  case hd => decide
  case hu => decide
  case hL => assumption
  case hI => assumption
  case hn => omega
  case hret =>
    intro m' h' tk' F'
    k_steps
    all_goals (try k_data)
    all_goals w_report
