import PyProof.Rows.All
import Wide.All
import OpenK.AllK
import Wide.FinOn
import PySem.Challenge.RW_ph0129_01
open PySem PySem.W PyProof.Rows PySem.Calls
open PySem.Builtin.Int (intBits)
set_option autoImplicit false
set_option Elab.async false
set_option maxRecDepth 100000
set_option maxHeartbeats 8000000
set_option linter.unusedVariables false
set_option rowWalk.seconds 0
namespace Mine
section
-- the head's own equation ('hl', the run of the top level: 522 steps) by one rfl of the kernel: in pieces it comes to 11.5 MB, so to 2.6 MB
local macro_rules | `(tactic| refine $f:ident (q := $q:term) $args*) => `(tactic| (refine' $f (q := $q) $args*; (case hl => exact fun _ => by kernel_rfl)))
open_top hd for PySem.Challenge.rw_ph0129_01
end

/-- bundles with one constructor: a long row of ∃ and ∧ stores its rest anew at each level; these do not -/
inductive E2 {α β : Type} (P : α → β → Prop) : Prop | mk (a : α) (b : β) (h : P a b)
inductive E3 {α β γ : Type} (P : α → β → γ → Prop) : Prop | mk (a : α) (b : β) (c : γ) (h : P a b c)
inductive E4 {α β γ δ : Type} (P : α → β → γ → δ → Prop) : Prop | mk (a : α) (b : β) (c : γ) (d : δ) (h : P a b c d)
inductive E5 {α β γ δ ε : Type} (P : α → β → γ → δ → ε → Prop) : Prop | mk (a : α) (b : β) (c : γ) (d : δ) (e : ε) (h : P a b c d e)
inductive E6 {α β γ δ ε ζ : Type} (P : α → β → γ → δ → ε → ζ → Prop) : Prop | mk (a : α) (b : β) (c : γ) (d : δ) (e : ε) (f : ζ) (h : P a b c d e f)
inductive E7 {α β γ δ ε ζ η : Type} (P : α → β → γ → δ → ε → ζ → η → Prop) : Prop | mk (a : α) (b : β) (c : γ) (d : δ) (e : ε) (f : ζ) (g : η) (h : P a b c d e f g)
inductive E8 {α β γ δ ε ζ η θ : Type} (P : α → β → γ → δ → ε → ζ → η → θ → Prop) : Prop | mk (a : α) (b : β) (c : γ) (d : δ) (e : ε) (f : ζ) (g : η) (i : θ) (h : P a b c d e f g i)
inductive E9 {α β γ δ ε ζ η θ ι : Type} (P : α → β → γ → δ → ε → ζ → η → θ → ι → Prop) : Prop | mk (a : α) (b : β) (c : γ) (d : δ) (e : ε) (f : ζ) (g : η) (i : θ) (j : ι) (h : P a b c d e f g i j)
inductive E10 {α β γ δ ε ζ η θ ι κ : Type} (P : α → β → γ → δ → ε → ζ → η → θ → ι → κ → Prop) : Prop | mk (a : α) (b : β) (c : γ) (d : δ) (e : ε) (f : ζ) (g : η) (i : θ) (j : ι) (k : κ) (h : P a b c d e f g i j k)
inductive E11 {α β γ δ ε ζ η θ ι κ μ : Type} (P : α → β → γ → δ → ε → ζ → η → θ → ι → κ → μ → Prop) : Prop | mk (a : α) (b : β) (c : γ) (d : δ) (e : ε) (f : ζ) (g : η) (i : θ) (j : ι) (k : κ) (l : μ) (h : P a b c d e f g i j k l)
inductive C3 (p1 p2 p3 : Prop) : Prop | mk (h1 : p1) (h2 : p2) (h3 : p3)
inductive C4 (p1 p2 p3 p4 : Prop) : Prop | mk (h1 : p1) (h2 : p2) (h3 : p3) (h4 : p4)
inductive C5 (p1 p2 p3 p4 p5 : Prop) : Prop | mk (h1 : p1) (h2 : p2) (h3 : p3) (h4 : p4) (h5 : p5)
inductive C6 (p1 p2 p3 p4 p5 p6 : Prop) : Prop | mk (h1 : p1) (h2 : p2) (h3 : p3) (h4 : p4) (h5 : p5) (h6 : p6)
inductive C7 (p1 p2 p3 p4 p5 p6 p7 : Prop) : Prop | mk (h1 : p1) (h2 : p2) (h3 : p3) (h4 : p4) (h5 : p5) (h6 : p6) (h7 : p7)
inductive C8 (p1 p2 p3 p4 p5 p6 p7 p8 : Prop) : Prop | mk (h1 : p1) (h2 : p2) (h3 : p3) (h4 : p4) (h5 : p5) (h6 : p6) (h7 : p7) (h8 : p8)
inductive C9 (p1 p2 p3 p4 p5 p6 p7 p8 p9 : Prop) : Prop | mk (h1 : p1) (h2 : p2) (h3 : p3) (h4 : p4) (h5 : p5) (h6 : p6) (h7 : p7) (h8 : p8) (h9 : p9)
inductive C10 (p1 p2 p3 p4 p5 p6 p7 p8 p9 p10 : Prop) : Prop | mk (h1 : p1) (h2 : p2) (h3 : p3) (h4 : p4) (h5 : p5) (h6 : p6) (h7 : p7) (h8 : p8) (h9 : p9) (h10 : p10)
inductive C11 (p1 p2 p3 p4 p5 p6 p7 p8 p9 p10 p11 : Prop) : Prop | mk (h1 : p1) (h2 : p2) (h3 : p3) (h4 : p4) (h5 : p5) (h6 : p6) (h7 : p7) (h8 : p8) (h9 : p9) (h10 : p10) (h11 : p11)
inductive C12 (p1 p2 p3 p4 p5 p6 p7 p8 p9 p10 p11 p12 : Prop) : Prop | mk (h1 : p1) (h2 : p2) (h3 : p3) (h4 : p4) (h5 : p5) (h6 : p6) (h7 : p7) (h8 : p8) (h9 : p9) (h10 : p10) (h11 : p11) (h12 : p12)
abbrev PR : Program := PySem.Challenge.rw_ph0129_01.row.prog
noncomputable abbrev KK (w : World) : Frag := Mine.hd.heap_39 w.params
abbrev mkA (dp : Nat) (fr : Option (List Env)) (gd : Option (List Code)) (un : Nat) : Around := { handled := none, depth := dp, frames := fr, guards := gd, units := un }

structure Inv (w : World) (mg mb : Str → Option Value) (LO : List Str) (mean : ExcName → Option Value) (g : Heap) : Prop where
  X : (KK w).In g
  T : Top topProg LO mean mg mb g
  C1 : CodeHd g 55 51
  C2 : CodeHd g 62 58
theorem Inv.keeps {w mg mb LO mean} {g h : Heap} (I : Inv w mg mb LO mean g) (k : ∀ b o, g.get? b = some o → h.get? b = some o) : Inv w mg mb LO mean h :=
  ⟨I.X.keeps k, I.T.keeps k, I.C1.keeps k, I.C2.keeps k⟩

def isF (o : Obj) : Bool := match o.data with
  | .fields vs => o.cls == .none || (match (vs[1]? : Option Value) with | some (Value.str _ _) => true | _ => false)
  | _ => false
theorem isF_code {o : Obj} {vs : Array Value} {q : Str} {t : Tok} (hd : o.data = .fields vs) (hv : vs[1]? = some (.str q t)) : isF o = true := by
  unfold isF; rw [hd]; simp [hv]
theorem isF_cell {o : Obj} {v : Option Value} (h : o.data = .cell v) : isF o = false := by unfold isF; rw [h]
structure TabOk (T : List (Addr × Obj)) (line col : Nat) (qual : Str) (ps : Array Value) : Prop where
  ok : ps = #[] ∨ ∃ c oc vs t, ps = #[rawInt line, rawInt col, .ref c] ∧ (c, oc) ∈ T ∧ oc.data = .fields vs ∧ vs[1]? = some (.str qual t)
structure TabL (T : List (Addr × Obj)) : Prop where
  f : ∀ q ∈ T, isF q.2 = true
  t1 : ∃ ps, (51, tabObj ps) ∈ T ∧ TabOk T 75 4 "_int2digits.<locals>.inner" ps
  t2 : ∃ ps, (58, tabObj ps) ∈ T ∧ TabOk T 90 4 "_digits2int.<locals>.inner" ps

/-- a ledger is the frame's own objects and then the tables -/
inductive Ends : List (Addr × Obj) → List (Addr × Obj) → List (Addr × Obj) → Prop
  | nil {TT} : Ends [] TT TT
  | cons {p own news TT} (h : isF p.2 = false) : Ends own news TT → Ends (p :: own) (p :: news) TT
  | off {p own news TT} (h : p.1 ∉ TT.map (·.1)) : Ends own news TT → Ends (p :: own) (p :: news) TT
theorem Ends.eq {own news TT : List (Addr × Obj)} (h : Ends own news TT) : news = own ++ TT := by
  induction h with
  | nil => rfl
  | cons _ _ ih => rw [ih]; rfl
  | off _ _ ih => rw [ih]; rfl
def Off (TT own : List (Addr × Obj)) : Prop := ∀ p ∈ own, isF p.2 = false ∨ p.1 ∉ TT.map (·.1)
theorem Ends.all {own news TT : List (Addr × Obj)} (h : Ends own news TT) : Off TT own := by
  induction h with
  | nil => exact fun _ h => nomatch h
  | cons h _ ih =>
    intro p hp
    rcases List.mem_cons.mp hp with rfl | hp
    · exact .inl h
    · exact ih p hp
  | off h _ ih =>
    intro p hp
    rcases List.mem_cons.mp hp with rfl | hp
    · exact .inr h
    · exact ih p hp
section
variable {g : Heap} {L : Addr} {h h' : Heap} {m : Str → Option Value} {own own' TT TT' : List (Addr × Obj)}
theorem news_part {l l' : List (Addr × Obj)} (N : News g L h l) (k : ∀ p ∈ l', p ∈ l) : News g L h l' := fun p hp => N p (k p hp)
theorem news_join {l l' : List (Addr × Obj)} (N : News g L h l) (N' : News g L h l') : News g L h (l ++ l') := fun p hp => (List.mem_append.mp hp).elim (N p) (N' p)
theorem fr_eq {m m' : Str → Option Value} (F : Fr g L h m) (e : m = m') : Fr g L h m' := e ▸ F
theorem disj (N : News g L h (own ++ TT)) (T : TabL TT) (hO : Off TT own) {p : Addr × Obj} (hp : p ∈ own) : p.1 ∉ TT.map (·.1) := by
  rcases hO p hp with h2 | h2
  · intro q
    obtain ⟨r, hr, e⟩ := List.mem_map.mp q
    have e1 := (N p (List.mem_append_left _ hp)).1
    have e2 := (N r (List.mem_append_right _ hr)).1
    rw [e, e1] at e2
    have e3 : p.2 = r.2 := Option.some.inj e2
    have h1 := T.f r hr
    rw [← e3, h2] at h1
    cases h1
  · exact h2
/-- what a callee's ground keeps of the caller's heap: all but the tables -/
abbrev gr (h : Heap) (TT : List (Addr × Obj)) : Heap := hideAll h (TT.map (·.1))
theorem gr_get {b : Addr} {o : Obj} (e : h.get? b = some o) (hb : b ∉ TT.map (·.1)) : (gr h TT).get? b = some o := hideAll_get _ e hb
theorem of_gr {b : Addr} {o : Obj} (e : (gr h TT).get? b = some o) : h.get? b = some o ∧ b ∉ TT.map (·.1) := ⟨of_hideAll _ e, fun q => by rw [hideAll_none _ q] at e; cases e⟩
theorem gr_sub (F : Fr g L h m) (N : News g L h (own ++ TT)) : ∀ b o, g.get? b = some o → (gr h TT).get? b = some o := fun b o e =>
  gr_get (F.keep b o e) fun q => by
    obtain ⟨p, hp, rfl⟩ := List.mem_map.mp q
    rw [(N p (List.mem_append_right _ hp)).2.2] at e; cases e
theorem gr_own (N : News g L h (own ++ TT)) (T : TabL TT) (hO : Off TT own) : ∀ p ∈ own, (gr h TT).get? p.1 = some p.2 := fun p hp =>
  gr_get (N p (List.mem_append_left _ hp)).1 (disj N T hO hp)

/-- back in the caller: what the callee's end says of the caller's frame and ledger -/
theorem leaveF (F : Fr g L h m) (N : News g L h (own ++ TT)) (T : TabL TT) (hO : Off TT own)
    {L' : Addr} {m' : Str → Option Value} (F' : Fr (gr h TT) L' h' m') (N' : News (gr h TT) L' h' (own' ++ TT')) : Fr g L h' m ∧ News g L h' (own' ++ (own ++ TT')) := by
  obtain ⟨oL, es, ep, hL, hLd, hLk, hLf⟩ := F.ns
  have nL : L ∉ TT.map (·.1) := fun q => by
    obtain ⟨p, hp, e⟩ := List.mem_map.mp q
    exact (N p (List.mem_append_right _ hp)).2.1 e
  have hLg : (gr h TT).get? L = some oL := gr_get hL nL
  have sub := gr_sub F N
  have nw : ∀ p : Addr × Obj, h'.get? p.1 = some p.2 → (gr h TT).get? p.1 = none → h'.get? p.1 = some p.2 ∧ p.1 ≠ L ∧ g.get? p.1 = none := fun p e n => by
    refine ⟨e, fun q => ?_, ?_⟩
    · rw [q, hLg] at n; cases n
    · cases q : g.get? p.1 with
      | none => rfl
      | some o => rw [sub _ _ q] at n; cases n
  refine ⟨⟨⟨oL, es, ep, F'.keep _ _ hLg, hLd, hLk, hLf⟩, fun b o e => F'.keep _ _ (sub b o e), F.above⟩, fun p hp => ?_⟩
  rcases List.mem_append.mp hp with hp | hp
  · have n := N' p (List.mem_append_left _ hp)
    exact nw p n.1 n.2.2
  · rcases List.mem_append.mp hp with hp | hp
    · have n := N p (List.mem_append_left _ hp)
      exact ⟨F'.keep _ _ (gr_own N T hO p hp), n.2⟩
    · have n := N' p (List.mem_append_right _ hp)
      exact nw p n.1 n.2.2
end

/-- from the callee's end back to the caller's frame and ledger -/
def Back (g : Heap) (L : Addr) (m : Str → Option Value) (own : List (Addr × Obj)) (g' : Heap) (L' : Addr) : Prop :=
  ∀ h' m' own' TT', Fr g' L' h' m' → News g' L' h' (own' ++ TT') → Fr g L h' m ∧ News g L h' (own' ++ (own ++ TT'))
section
variable {g g' : Heap} {L L' : Addr} {h' : Heap} {m m' : Str → Option Value} {own own' news' TT' : List (Addr × Obj)}
theorem Back.out (lv : Back g L m own g' L') (F : Fr g' L' h' m') (N : News g' L' h' news') (En : Ends own' news' TT') : Fr g L h' m ∧ News g L h' (own ++ TT') := by
  obtain rfl := En.eq
  have k := lv h' m' own' TT' F N
  exact ⟨k.1, fun p hp => k.2 p (List.mem_append_right _ hp)⟩
theorem Back.out1 {p : Addr × Obj} {rest : List (Addr × Obj)} (lv : Back g L m own g' L') (F : Fr g' L' h' m') (N : News g' L' h' (p :: rest)) (En : Ends own' rest TT') : Fr g L h' m ∧ News g L h' (p :: (own ++ TT')) := by
  obtain rfl := En.eq
  have k := lv h' m' (p :: own') TT' F N
  refine ⟨k.1, fun q hq => ?_⟩
  rcases List.mem_cons.mp hq with rfl | hq
  · exact k.2 _ (List.mem_append_left _ (.head _))
  · exact k.2 q (List.mem_append_right _ hq)
end
/-- names bound in a row -/
abbrev lk (l : List (Str × Value)) : Str → Option Value := fun y => l.lookup y
/-- one name bound anew -/
abbrev stM (m : Str → Option Value) (x : Str) (v : Value) : Str → Option Value := fun y => if y = x then some v else m y
section
variable {M : Model} {A : Around} {E : Value → Shared → Prop} {S : Shared} {h₀ : Heap} {L a : Addr} {m : Str → Option Value} {cn : Str} {cs : Scope} {ccd : Value} {cl : List (Str × Addr)} {x : Str} {v : Value} {news : List (Addr × Obj)} {Q : Unit → Shared → Prop}
/-- a local name is bound: the state after it in its plain form, its next token any -/
theorem stX (s₀ : Shared) (F : Fr h₀ L S.heap m) (N : News h₀ L S.heap news)
    (h : ∀ h' t, Fr h₀ L h' (stM m x v) → News h₀ L h' news → Q () { s₀ with heap := h', toks := t })
    (hg : S.gens = s₀.gens := by rfl) (hd : S.drawn = s₀.drawn := by rfl) (ho : S.os = s₀.os := by rfl)
    (hk : cs.kind = .function := by rfl) (hx : (envX cn cs L a ccd cl).kindOf x = some .local := by rfl) : wpAny M A (storeName (envX cn cs L a ccd cl) x v) Q E S :=
  storeX_L F N (fun h' F' N' => by rw [hg, hd, ho]; exact h h' _ F' N') hk hx
/-- the same, with names (let) for the map and the state: a goal that names them is short -/
theorem stXl (s₀ : Shared) (F : Fr h₀ L S.heap m) (N : News h₀ L S.heap news)
    (h : ∀ h' t, let m1 := stM m x v; let s1 : Shared := { s₀ with heap := h', toks := t }; Fr h₀ L h' m1 → News h₀ L h' news → Q () s1)
    (hg : S.gens = s₀.gens := by rfl) (hd : S.drawn = s₀.drawn := by rfl) (ho : S.os = s₀.os := by rfl)
    (hk : cs.kind = .function := by rfl) (hx : (envX cn cs L a ccd cl).kindOf x = some .local := by rfl) : wpAny M A (storeName (envX cn cs L a ccd cl) x v) Q E S :=
  stX s₀ F N (fun h' t F N => h h' t F N) hg hd ho hk hx
/-- an int: its token any -/
theorem stXi (s₀ : Shared) {e : Int} {t0 : Tok} (F : Fr h₀ L S.heap m) (N : News h₀ L S.heap news)
    (h : ∀ h' t tv, let m1 := stM m x (.int e tv); let s1 : Shared := { s₀ with heap := h', toks := t }; Fr h₀ L h' m1 → News h₀ L h' news → Q () s1)
    (hg : S.gens = s₀.gens := by rfl) (hd : S.drawn = s₀.drawn := by rfl) (ho : S.os = s₀.os := by rfl)
    (hk : cs.kind = .function := by rfl) (hx : (envX cn cs L a ccd cl).kindOf x = some .local := by rfl) : wpAny M A (storeName (envX cn cs L a ccd cl) x (.int e t0)) Q E S :=
  stX s₀ F N (fun h' t F N => h h' t t0 F N) hg hd ho hk hx
/-- an int: a name of its own and an equation -/
theorem stXq (s₀ : Shared) {e : Int} {t0 : Tok} (F : Fr h₀ L S.heap m) (N : News h₀ L S.heap news)
    (h : ∀ h' t tv ev, ev = e → let m1 := stM m x (.int ev tv); let s1 : Shared := { s₀ with heap := h', toks := t }; Fr h₀ L h' m1 → News h₀ L h' news → Q () s1)
    (hg : S.gens = s₀.gens := by rfl) (hd : S.drawn = s₀.drawn := by rfl) (ho : S.os = s₀.os := by rfl)
    (hk : cs.kind = .function := by rfl) (hx : (envX cn cs L a ccd cl).kindOf x = some .local := by rfl) : wpAny M A (storeName (envX cn cs L a ccd cl) x (.int e t0)) Q E S :=
  stX s₀ F N (fun h' t F N => h h' t t0 e rfl F N) hg hd ho hk hx
/-- what stands behind a statement -/
abbrev kq (M : Model) (A : Around) (rest : List Stmt) (env : Env) (Q : Flow → Shared → Prop) (E : Value → Shared → Prop) : Flow → Shared → Prop := fun f s' => match f with | .next => wpAny M A (execs rest env) Q E s' | f => Q f s'
theorem exL {env : Env} {st : Stmt} {rest : List Stmt} {Q : Flow → Shared → Prop} (h : let q := kq M A rest env Q E; wpAny M A (exec st env) q E S) : wpAny M A (execs (st :: rest) env) Q E S :=
  wpAny_execs_cons h
theorem letE {env : Env} {b : List Stmt} {Q : Flow → Shared → Prop} (h : let ML := M; let eL := env; let AL := A; let sL := S; wpAny ML AL (execs b eL) Q E sL) : wpAny M A (execs b env) Q E S := h
end
section
variable {w : World} {mg mb : Str → Option Value} {LO : List Str} {mean : ExcName → Option Value} {dp un : Nat} {fr : Option (List Env)} {gd : Option (List Code)} {s : Shared} {g : Heap} {L : Addr} {m : Str → Option Value} {own news TT : List (Addr × Obj)}
  {Q : Value → Shared → Prop} {E : Value → Shared → Prop}
/-- a plain def of the text is called -/
theorem enterF {f : Addr} {name qual : Str} {params : Arguments} {body : List Stmt} {scope : Scope} {dV kV doc pm cdv ct oc : Value} {an od : Option Addr} {osl : Array (Option Value)} {vals : List Value} {binds : List (Str × Value)} (rb : List (Str × Value))
    (I : Inv w mg mb LO mean g) (F : Fr g L s.heap m) (N : News g L s.heap news) (TL : TabL TT) (En : Ends own news TT) (hroom : dp < 990)
    (ho : (KK w).lookup f = some ⟨oc, od, .func (fnOf name qual params body scope dV kV doc pm an cdv ct), osl⟩) (hcd : codeIn (KK w) cdv qual = true)
    (hbind : bindArgs (fnOf name qual params body scope dV kV doc pm an cdv ct) ⟨vals, []⟩ = pure binds) (hcell : ∀ x ∈ scope.names, x.2 ≠ .cell) (hloc : ∀ x ∈ binds, scope.names.lookup x.1 = some .local)
    (hrb : binds.reverse = rb)
    (h : ∀ g' L' h₁ t₁, let mL := lk rb; let ML := model PR w; let eL := envX qual scope L' f cdv []; let AL := (mkA dp fr gd un).deeper eL; let sL : Shared := { s with heap := h₁, toks := t₁ };
      Inv w mg mb LO mean g' → Fr g' L' h₁ mL → News g' L' h₁ TT → (∀ p ∈ own, g'.get? p.1 = some p.2) → Back g L m own g' L' →
      wpAny ML AL (execs body eL) (fun fl s' => Q (match fl with | .ret v => v | _ => .none) s') (fun _ _ => False) sL)
    (hco : scope.isCoroutine = false := by rfl) (hgen : scope.isGenerator = false := by rfl) (hk : scope.kind = .function := by rfl) :
    wpAny (model PR w) (mkA dp fr gd un) (call (.ref f) vals) Q E s := by
  have hO := En.all
  obtain rfl := En.eq
  have hr : (mkA dp fr gd un).depth < recursionLimit := by show dp < 1000; lia
  refine wpAny_call (codeAny_call_def (fd := fnOf name qual params body scope dV kV doc pm an cdv ct) hr ((I.X.keeps F.keep) _ _ ho) rfl (I.T.nolimit.keeps F.keep) (codeRec_of (I.X.keeps F.keep) hcd) rfl (.of_eq hbind) hcell hloc (fun h₁ hns hk₁ => ?_) hco hgen hk)
  have I' : Inv w mg mb LO mean (gr s.heap TT) := I.keeps (gr_sub F N)
  subst hrb
  have F' : Fr (gr s.heap TT) s.heap.objs.size h₁ (lk binds.reverse) := ⟨hns, fun b o e => hk₁ b o (of_gr e).1, Nat.le_of_eq (hideAll_size _ _)⟩
  have N' : News (gr s.heap TT) s.heap.objs.size h₁ TT := fun p hp => ⟨hk₁ _ _ (N p (List.mem_append_right _ hp)).1, Nat.ne_of_lt (Heap.lt_size (N p (List.mem_append_right _ hp)).1), hideAll_none _ (List.mem_map_of_mem hp)⟩
  exact wpAny_mono (h _ _ h₁ _ I' F' N' (gr_own N TL hO) fun h' m' own' TT' F₂ N₂ => leaveF F N TL hO F₂ N₂) (fun _ _ x => x) (fun _ _ x => x.elim)

end

section
variable {w : World}
theorem gv_iter_escaped_chars : nsIn (KK w) mainGlobals (Str.ofString "_iter_escaped_chars") = some (some (.ref 21)) := by kernel_rfl
theorem gv_strip_quoted_realnames : nsIn (KK w) mainGlobals (Str.ofString "_strip_quoted_realnames") = some (some (.ref 28)) := by kernel_rfl
theorem gv_check_parenthesis : nsIn (KK w) mainGlobals (Str.ofString "_check_parenthesis") = some (some (.ref 35)) := by kernel_rfl
theorem gv_div2n1n : nsIn (KK w) mainGlobals (Str.ofString "_div2n1n") = some (some (.ref 42)) := by kernel_rfl
theorem gv_div3n2n : nsIn (KK w) mainGlobals (Str.ofString "_div3n2n") = some (some (.ref 49)) := by kernel_rfl
theorem gv_int2digits : nsIn (KK w) mainGlobals (Str.ofString "_int2digits") = some (some (.ref 56)) := by kernel_rfl
theorem gv_digits2int : nsIn (KK w) mainGlobals (Str.ofString "_digits2int") = some (some (.ref 63)) := by kernel_rfl
theorem gv_divmod_pos : nsIn (KK w) mainGlobals (Str.ofString "_divmod_pos") = some (some (.ref 70)) := by kernel_rfl
theorem gv_int_divmod : nsIn (KK w) mainGlobals (Str.ofString "int_divmod") = some (some (.ref 77)) := by kernel_rfl
theorem gv_law_sign : nsIn (KK w) mainGlobals (Str.ofString "_law_sign") = some (some (.ref 84)) := by kernel_rfl
theorem gv_law_taken : nsIn (KK w) mainGlobals (Str.ofString "_law_taken") = some (some (.ref 89)) := by kernel_rfl
theorem gv_law_places : nsIn (KK w) mainGlobals (Str.ofString "_law_places") = some (some (.ref 94)) := by kernel_rfl
theorem gv_law_summed : nsIn (KK w) mainGlobals (Str.ofString "_law_summed") = some (some (.ref 101)) := by kernel_rfl
theorem gv_law_one_text : nsIn (KK w) mainGlobals (Str.ofString "_law_one_text") = some (some (.ref 106)) := by kernel_rfl
theorem gv_law : nsIn (KK w) mainGlobals (Str.ofString "law") = some (some (.ref 111)) := by kernel_rfl
theorem gn_enumerate : nsIn (KK w) mainGlobals (Str.ofString "enumerate") = some none := by kernel_rfl
theorem gn_len : nsIn (KK w) mainGlobals (Str.ofString "len") = some none := by kernel_rfl
theorem gn_divmod : nsIn (KK w) mainGlobals (Str.ofString "divmod") = some none := by kernel_rfl
theorem gn_reversed : nsIn (KK w) mainGlobals (Str.ofString "reversed") = some none := by kernel_rfl
theorem gn_range : nsIn (KK w) mainGlobals (Str.ofString "range") = some none := by kernel_rfl
theorem gn_sum : nsIn (KK w) mainGlobals (Str.ofString "sum") = some none := by kernel_rfl
theorem gn_chr : nsIn (KK w) mainGlobals (Str.ofString "chr") = some none := by kernel_rfl
theorem gn_list : nsIn (KK w) mainGlobals (Str.ofString "list") = some none := by kernel_rfl
theorem gn_zip : nsIn (KK w) mainGlobals (Str.ofString "zip") = some none := by kernel_rfl
theorem gn_min : nsIn (KK w) mainGlobals (Str.ofString "min") = some none := by kernel_rfl
end
section
variable {w : World} {mg mb : Str → Option Value} {LO : List Str} {mean : ExcName → Option Value} {A : Around} {s : Shared} {g : Heap} {L : Addr} {m : Str → Option Value}
  {Q : Value → Shared → Prop} {E : Value → Shared → Prop} {M : Model} {env : Env}
theorem glb {x : Str} {v : Value} {pos : Pos} (F : Fr g L s.heap m) (I : Inv w mg mb LO mean g) (e : nsIn (KK w) mainGlobals x = some (some v)) (h : Q v s)
    (hg : env.globals = mainGlobals := by rfl) (hk : env.scope.kind = .function := by rfl) (hx : env.kindOf x = some .globalImplicit := by rfl) (hd : (x == ("__debug__" : Str)) = false := by decide) : wpAny M A (eval (.Name x pos) env) Q E s :=
  nameG_K F I.X (topRead_of I.T) e h hg hk hx hd
theorem glbB {x : Str} {v : Value} {pos : Pos} (F : Fr g L s.heap m) (I : Inv w mg mb LO mean g) (e : nsIn (KK w) mainGlobals x = some none) (hv : bootBuiltins x = some v) (h : Q v s)
    (hn : x ≠ "__name__" := by decide) (hg : env.globals = mainGlobals := by rfl) (hb : env.builtins = builtinsNs := by rfl) (hk : env.scope.kind = .function := by rfl) (hx : env.kindOf x = some .globalImplicit := by rfl) (hd : (x == ("__debug__" : Str)) = false := by decide) : wpAny M A (eval (.Name x pos) env) Q E s :=
  Name_function_global hk hx (loadGlobal_builtin (env := env) (by rw [hg]; exact I.T.g.keeps F.keep) (mg_none_of I.X I.T.g e) (by rw [hb]; exact I.T.b.keeps F.keep) ((I.T.builtins x hn).trans hv) h) hd
theorem gv_DIV_LIMIT {w : World} : nsIn (KK w) mainGlobals (Str.ofString "_DIV_LIMIT") = some (some (.int 4000 223)) := by kernel_rfl
end

theorem keep21 {w : World} : keepIn (KK w) (.ref 21) = true := by kernel_rfl
theorem keep28 {w : World} : keepIn (KK w) (.ref 28) = true := by kernel_rfl
theorem keep35 {w : World} : keepIn (KK w) (.ref 35) = true := by kernel_rfl
theorem keep42 {w : World} : keepIn (KK w) (.ref 42) = true := by kernel_rfl
theorem keep49 {w : World} : keepIn (KK w) (.ref 49) = true := by kernel_rfl
theorem keep56 {w : World} : keepIn (KK w) (.ref 56) = true := by kernel_rfl
theorem keep63 {w : World} : keepIn (KK w) (.ref 63) = true := by kernel_rfl
theorem keep70 {w : World} : keepIn (KK w) (.ref 70) = true := by kernel_rfl
theorem keep77 {w : World} : keepIn (KK w) (.ref 77) = true := by kernel_rfl
theorem keep84 {w : World} : keepIn (KK w) (.ref 84) = true := by kernel_rfl
theorem keep89 {w : World} : keepIn (KK w) (.ref 89) = true := by kernel_rfl
theorem keep94 {w : World} : keepIn (KK w) (.ref 94) = true := by kernel_rfl
theorem keep101 {w : World} : keepIn (KK w) (.ref 101) = true := by kernel_rfl
theorem keep106 {w : World} : keepIn (KK w) (.ref 106) = true := by kernel_rfl
theorem room0 {a b c : Nat} (h : a < b) (e : Nat.ble b c = true) : a < c := Nat.lt_of_lt_of_le h (Nat.le_of_ble_eq_true e)
theorem room1 {a b c : Nat} (h : a < b) (e : Nat.ble (b + 1) c = true) : a + 1 < c := Nat.lt_of_lt_of_le (Nat.add_lt_add_right h 1) (Nat.le_of_ble_eq_true e)
--LINES-BEGIN
local macro_rules | `(tactic| walk_at "storeName") => `(tactic| (k_dflt (first | (refine stXi (by assumption) (by assumption) (by assumption) ?_; intro _) | (refine stXl (by assumption) (by assumption) (by assumption) ?_)); intro _ _ _ _ _ _; try k_sweep))
local macro_rules | `(tactic| walk_at "execs cons") => `(tactic| (refine exL ?_; intro _))
local macro_rules | `(tactic| walk_at "eval Name") => `(tactic| (k_dflt (first
  | (refine nameX_L (by assumption) rfl ?_)
  | (refine nameX_C (by assumption) rfl (by walk_at "my mem") (by assumption) ?_)
  | (refine glb (by assumption) (by assumption) (by with_reducible first | exact gv_iter_escaped_chars | exact gv_strip_quoted_realnames | exact gv_check_parenthesis | exact gv_div2n1n | exact gv_div3n2n | exact gv_int2digits | exact gv_digits2int | exact gv_divmod_pos | exact gv_int_divmod | exact gv_law_sign | exact gv_law_taken | exact gv_law_places | exact gv_law_summed | exact gv_law_one_text | exact gv_DIV_LIMIT) ?_)
  | (refine glbB (by assumption) (by assumption) (by with_reducible first | exact gn_enumerate | exact gn_len | exact gn_divmod | exact gn_reversed | exact gn_range | exact gn_sum | exact gn_chr | exact gn_list | exact gn_zip | exact gn_min) (by with_reducible first | exact boot_enumerate | exact boot_len | exact boot_divmod | exact boot_reversed | exact boot_range | exact boot_sum | exact boot_chr | exact boot_list | exact boot_zip | exact boot_min) ?_))))
local macro_rules | `(tactic| walk_at "callWith ref") => `(tactic| (k_dflt
  (refine callWith_K (Inv.X (by assumption)) (by with_reducible first | exact keep21 | exact keep28 | exact keep35 | exact keep42 | exact keep49 | exact keep56 | exact keep63 | exact keep70 | exact keep77 | exact keep84 | exact keep89 | exact keep94 | exact keep101 | exact keep106) ?_)))
local macro_rules | `(tactic| walk_at "And") => `(tactic| (refine ⟨Frag.In.keeps (Inv.X (by assumption)) (Fr.keep (by assumption)), ?_⟩))
local macro_rules | `(tactic| walk_at "binaryOp LShift int int") => `(tactic| (refine lshift_int ?_ ?_ ?_))
local macro_rules | `(tactic| walk_at "inplaceOp LShift int int") => `(tactic| (refine ilshift_int ?_ ?_ ?_))
local macro_rules | `(tactic| walk_at "binaryOp RShift int int") => `(tactic| (refine rshift_int ?_ ?_))
local macro_rules | `(tactic| walk_at "inplaceOp RShift int int") => `(tactic| (refine irshift_int ?_ ?_))
local macro_rules | `(tactic| walk_at "binaryOp Pow int int") => `(tactic| (refine pow_int ?_ ?_ ?_))
local macro_rules | `(tactic| walk_at "binaryOp Mult int int") => `(tactic| (refine mul_int ?_ ?_))
local macro_rules | `(tactic| walk_at "my mem") => `(tactic| (first | exact List.Mem.head _ | (refine List.Mem.tail _ ?_; walk_at "my mem")))
local macro_rules | `(tactic| walk_at "my isf") => `(tactic| (first | rfl | exact isF_cell (by assumption)))
local macro_rules | `(tactic| walk_at "my ends") => `(tactic| (first | exact Ends.nil | (refine' Ends.cons ?h ?r; (case h => walk_at "my isf"); (case r => walk_at "my ends"))))
--LINES-END

abbrev tup2 (a b : Value) : Obj := { cls := .type "tuple", data := .seq #[a, b] }
theorem noPy {a b : Int} (h : Builtin.Int.intBits b ≤ 9000) : Builtin.divisionGoesByPylong a b = false := by
  refine PyProof.noPylong_of_log2 ?_
  unfold Builtin.Int.intBits at h
  by_cases hb : b = 0
  · subst hb; decide
  · rw [if_neg (by simpa using hb)] at h; lia
section
variable {w : World} {mg mb : Str → Option Value} {LO : List Str} {mean : ExcName → Option Value} {dp un : Nat} {fr : Option (List Env)} {gd : Option (List Code)} {s : Shared} {g : Heap} {L : Addr} {m : Str → Option Value} {own news TT : List (Addr × Obj)}
  {Q : Value → Shared → Prop} {E : Value → Shared → Prop}
theorem sp_div2_base {a b c : Int} {ta tb tc : Tok} (I : Inv w mg mb LO mean g) (F : Fr g L s.heap m) (N : News g L s.heap news) (TL : TabL TT) (En : Ends own news TT) (hroom : dp < 950)
    (hb : b ≠ 0) (hc : (Builtin.Int.intBits a : Int) - c ≤ 4000) (hp : Builtin.Int.intBits b ≤ 9000)
    (hQ : ∀ p h' tk' t1 t2, Fr g L h' m → News g L h' ((p, tup2 (.int (a.fdiv b) t1) (.int (a.fmod b) t2)) :: news) → Q (.ref p) { s with heap := h', toks := tk' }) :
    wpAny (model PR w) (mkA dp fr gd un) (call (.ref 42) [.int a ta, .int b tb, .int c tc]) Q E s := by
  refine enterF (f := 42) [(Str.ofString "n", .int c tc), (Str.ofString "b", .int b tb), (Str.ofString "a", .int a ta)] I F N TL En (by lia) rfl (by kernel_rfl) rfl (by decide) (locs rfl) rfl ?_
  clear I F N
  intro g' L' h₁ t₁ mL ML eL AL sL I F N _ lv
  have X := I.X
  obtain rfl := En.eq
  k_steps
  refine divmod_N F N hb (fun h' F' N' => ?_) (.inl (noPy hp))
  have k := lv.out1 F' N' .nil
  exact hQ _ _ _ _ _ k.1 k.2
end
--LINES-BEGIN
local macro_rules | `(tactic| walk_at "my room") => `(tactic| (first | exact room1 (by assumption) rfl | exact room0 (by assumption) rfl | lia | (dsimp only [mkA, Around.deeper] at *; lia)))
local macro_rules | `(tactic| walk_at "my div2 base") => `(tactic| (k_dflt (refine sp_div2_base (by assumption) (by assumption) (by assumption) (by assumption) (by walk_at "my ends") (by walk_at "my room") ?_ ?_ ?_ ?_); rotate_left 3; intro _ _ _ _ _ _ _))
--LINES-END

def Stop (P : Prop) : Prop := P
theorem stop_out {P : Prop} (h : Stop P) : P := h
section
variable {w : World} {mg mb : Str → Option Value} {LO : List Str} {mean : ExcName → Option Value} {A : Around} {s : Shared} {g : Heap} {L : Addr} {m : Str → Option Value} {own news TT : List (Addr × Obj)}
theorem while_r {Q : Flow → Shared → Prop} {a : Addr} {cn : Str} {cs : Scope} {ccd : Value} {cl : List (Str × Addr)} {p1 p2 p3 p4 p5 p6 p7 p8 p9 pos : Pos} {r q b : Int} {tr tq tb : Tok}
    (F : Fr g L s.heap m) (N : News g L s.heap news) (hr : m (Str.ofString "r") = some (.int r tr)) (hq : m (Str.ofString "q") = some (.int q tq)) (hbm : m (Str.ofString "b") = some (.int b tb)) (hb : 0 < b)
    (hk : cs.kind = .function) (kr : (envX cn cs L a ccd cl).kindOf (Str.ofString "r") = some .local) (kq : (envX cn cs L a ccd cl).kindOf (Str.ofString "q") = some .local) (kb : (envX cn cs L a ccd cl).kindOf (Str.ofString "b") = some .local)
    (h : ∀ (k : Int) h' tk' t1 t2, 0 ≤ k → 0 ≤ r + k * b → (k = 0 ∨ r + k * b < b) → Fr g L h' (fun y => if y = Str.ofString "r" then some (.int (r + k * b) t1) else if y = Str.ofString "q" then some (.int (q - k) t2) else m y) → News g L h' news → Q .next { s with heap := h', toks := tk' }) :
    wpAny (model PR w) A (exec (.While (.Compare (.Name (Str.ofString "r") p1) [.Lt] [.Constant (.int 0) 0 p2] p3) [.AugAssign (.Name (Str.ofString "q") p4) .Sub (.Constant (.int 1) 0 p5) p6, .AugAssign (.Name (Str.ofString "r") p7) .Add (.Name (Str.ofString "b") p8) p9] [] pos) (envX cn cs L a ccd cl)) Q (fun _ _ => False) s := by
  refine While_inv (h₀ := g) (L := L) (m := m) (news := news) (fun n m₁ news₁ => news₁ = news ∧ ∃ (k : Int) (t1 t2 : Tok), 0 ≤ k ∧ (k = 0 ∨ r + k * b < b) ∧ n = (-(r + k * b)).toNat ∧ m₁ = fun y => if y = Str.ofString "r" then some (.int (r + k * b) t1) else if y = Str.ofString "q" then some (.int (q - k) t2) else m y)
    (n₀ := (-(r + 0 * b)).toNat) F N ⟨rfl, 0, tr, tq, Int.le_refl _, .inl rfl, rfl, ?_⟩ ?_ PassesOwn.never
  · funext y
    by_cases h1 : y = Str.ofString "r"
    · subst h1; simp [hr]
    · by_cases h2 : y = Str.ofString "q"
      · subst h2; rw [if_neg h1]; simp [hq]
      · rw [if_neg h1, if_neg h2]
  · rintro n m₁ news₁ h₁ tk₁ F₁ N₁ ⟨rfl, k, t1, t2, hk0, hk1, rfl, rfl⟩
    have nqr : (Str.ofString "q" = Str.ofString "r") = False := by decide
    have nrq : (Str.ofString "r" = Str.ofString "q") = False := by decide
    have nbr : (Str.ofString "b" = Str.ofString "r") = False := by decide
    have nbq : (Str.ofString "b" = Str.ofString "q") = False := by decide
    refine wpAny_isTrue_Compare1 (nameX_L (s := { s with heap := h₁, toks := tk₁ }) F₁ (v := .int (r + k * b) t1) (by simp) ?_ hk kr)
    refine wpAny_Constant_int (lt_int (wpAny_truthy_bool ?_))
    by_cases hlt : r + k * b < 0
    · simp only [hlt, decide_true, if_true]
      refine wpAny_execs_cons (wpAny_AugAssign_Name (wpAny_loadName_local hk kq F₁.ns (v := .int (q - k) t2) (by simp [nqr]) ?_))
      refine wpAny_Constant_int (AutoIntOps.isub_0 ?_)
      refine storeX_L (s := { s with heap := h₁, toks := _ }) F₁ N₁ (fun h₂ F₂ N₂ => ?_) hk kq
      refine wpAny_execs_cons (wpAny_AugAssign_Name (wpAny_loadName_local hk kr F₂.ns (v := .int (r + k * b) t1) (by simp [nrq]) ?_))
      refine nameX_L (s := { s with heap := h₂, toks := _ }) F₂ (v := .int b tb) (by simp [nbr, nbq, hbm]) ?_ hk kb
      refine AutoIntOps.iadd_0 ?_
      refine storeX_L (s := { s with heap := h₂, toks := _ }) F₂ N₂ (fun h₃ F₃ N₃ => ?_) hk kr
      refine wpAny_execs_nil ?_
      have e : r + k * b + b = r + (k + 1) * b := by rw [Int.add_mul, Int.one_mul]; lia
      refine WhileStep.intro (n' := (-(r + (k + 1) * b)).toNat) F₃ N₃ (by lia) ⟨rfl, k + 1, tk₁ + 1 + 1 + 1 + 1, tk₁ + 1 + 1, by lia, .inr (by lia), rfl, ?_⟩
      funext y
      by_cases h1 : y = Str.ofString "r"
      · simp only [h1, if_true, e]
      · by_cases h2 : y = Str.ofString "q"
        · have e2 : q - k - 1 = q - (k + 1) := by lia
          subst h2
          simp only [nqr, if_true, if_false, e2]
        · simp only [h1, h2, if_false]
    · simp only [hlt, decide_false, Bool.false_eq_true, if_false]
      exact h k h₁ _ t1 t2 hk0 (by lia) hk1 F₁ N₁
end

open Builtin.Int (intBits)
theorem fdm {a b q r : Int} (h : a = q * b + r) (h0 : 0 ≤ r) (h1 : r < b) : a.fdiv b = q ∧ a.fmod b = r := by
  have hb : 0 < b := by lia
  have k := kbt_unique (a := a) (q := q) hb (by rw [h, Int.mul_comm q b]; lia) h0 h1
  rw [Int.fdiv_eq_ediv_of_nonneg _ (by lia), Int.fmod_eq_emod_of_nonneg _ (by lia)]
  exact k
theorem p2pos (k : Nat) : (0 : Int) < 2 ^ k := kbt_pos k
theorem bitOr_eq (x y : Int) : Builtin.bitOr x y = x + y - Builtin.bitAnd x y := by
  have h := bitXor_and x y
  unfold Builtin.bitXor at h
  lia
theorem bitAnd_low {x y : Int} {k : Nat} (hx : 0 ≤ x) (hy : 0 ≤ y) (h : y < 2 ^ k) : Builtin.bitAnd (x * 2 ^ k) y = 0 := by
  have p := p2pos k
  have e : 0 ≤ x * 2 ^ k := Int.mul_nonneg hx (Int.le_of_lt p)
  unfold Builtin.bitAnd
  rw [decide_eq_true e, decide_eq_true hy]
  simp only
  obtain ⟨x', rfl⟩ := Int.eq_ofNat_of_zero_le hx
  obtain ⟨y', rfl⟩ := Int.eq_ofNat_of_zero_le hy
  have e2 : ((x' : Int) * 2 ^ k).toNat = x' * 2 ^ k := by
    rw [← kbt_cast, ← Int.natCast_mul]; exact Int.toNat_natCast _
  rw [e2, Int.toNat_natCast]
  have hy' : y' < 2 ^ k := by rw [← kbt_cast] at h; exact Int.ofNat_lt.mp h
  have : x' * 2 ^ k &&& y' = 0 := by
    apply Nat.eq_of_testBit_eq
    intro i
    rw [Nat.testBit_and, Nat.zero_testBit, Nat.testBit_mul_two_pow]
    by_cases hi : k ≤ i
    · rw [Nat.testBit_lt_two_pow (Nat.lt_of_lt_of_le hy' (Nat.pow_le_pow_right (by decide) hi)), Bool.and_false]
    · simp [hi]
  rw [this]; rfl
theorem bitOr_low {x y : Int} {k : Nat} (hx : 0 ≤ x) (hy : 0 ≤ y) (h : y < 2 ^ k) : Builtin.bitOr (x * 2 ^ k) y = x * 2 ^ k + y := by
  rw [bitOr_eq, bitAnd_low hx hy h]; lia
theorem bits_lt {x : Int} {k : Nat} (h0 : 0 ≤ x) (h : x < 2 ^ k) : intBits x ≤ k := by
  rw [intBits_le_iff]
  rw [← kbt_cast] at h
  lia
theorem fin3 {a b q r k : Int} (hr : a = q * b + r) (hq : a < (q + 1) * b) (h0 : 0 ≤ r + k * b) (h1 : k = 0 ∨ r + k * b < b) : a.fdiv b = q - k ∧ a.fmod b = r + k * b := by
  refine fdm (by rw [hr, Int.sub_mul]; lia) h0 ?_
  rcases h1 with rfl | h1
  · rw [Int.add_mul, Int.one_mul] at hq; lia
  · exact h1
theorem div3_a {a12 a3 b b1 b2 P : Int} (hb : b = b1 * P + b2) : a12 * P + a3 = (P - 1) * b + ((a12 - b1 * P + b1) * P + a3 - (P - 1) * b2) := by
  subst hb; grind
theorem div3_b {a12 a3 b b1 b2 P q r : Int} (hb : b = b1 * P + b2) (h : a12 = q * b1 + r) : a12 * P + a3 = q * b + (r * P + a3 - q * b2) := by
  subst hb; subst h; grind
theorem div3_c {a12 a3 b b1 b2 P q r : Int} (hb : b = b1 * P + b2) (h : a12 = q * b1 + r) (hr : r < b1) (h3 : a3 < P) (hP : 0 < P) (hb2 : 0 ≤ b2) (hq : 0 ≤ q) : a12 * P + a3 < (q + 1) * b := by
  have e : (q + 1) * b = (q * b1 + b1) * P + (q + 1) * b2 := by subst hb; grind
  have h1 : 0 ≤ (q + 1) * b2 := Int.mul_nonneg (by lia) hb2
  have h2 : (a12 + 1) * P ≤ (q * b1 + b1) * P := Int.mul_le_mul_of_nonneg_right (by lia) (Int.le_of_lt hP)
  rw [Int.add_mul, Int.one_mul] at h2
  lia
--LINES-BEGIN
local macro_rules | `(tactic| walk_at "call ref") => `(tactic| (refine stop_out ?_))
local macro_rules | `(tactic| walk_at "exec While") => `(tactic| (refine stop_out ?_))
local macro_rules | `(tactic| walk_at "exec While Compare cons nil") => `(tactic| (refine stop_out ?_))
--LINES-END
section
variable {w : World} {mg mb : Str → Option Value} {LO : List Str} {mean : ExcName → Option Value} {dp un : Nat} {fr : Option (List Env)} {gd : Option (List Code)} {s : Shared} {g : Heap} {L : Addr} {m : Str → Option Value} {own news TT : List (Addr × Obj)}
  {Q : Value → Shared → Prop} {E : Value → Shared → Prop}
local macro_rules | `(tactic| walk_at "call ref") => `(tactic| (walk_at "my div2 base"))
theorem sp_div3 {a12 a3 b b1 b2 n : Int} {t1 t2 t3 t4 t5 t6 : Tok} (I : Inv w mg mb LO mean g) (F : Fr g L s.heap m) (N : News g L s.heap news) (TL : TabL TT) (En : Ends own news TT) (hroom : dp < 940)
    (hn : 0 ≤ n) (hn2 : n ≤ 5000) (h12 : 0 ≤ a12) (h12b : intBits a12 ≤ 9000) (hc : (intBits a12 : Int) - n ≤ 4000) (h3 : 0 ≤ a3) (h3b : a3 < 2 ^ n.toNat) (hb1 : 0 < b1) (hb1b : intBits b1 ≤ 9000) (hb2 : 0 ≤ b2) (hb2b : b2 < 2 ^ n.toNat)
    (hb : b = b1 * 2 ^ n.toNat + b2) (hlt : a12 * 2 ^ n.toNat + a3 < b * 2 ^ n.toNat)
    (hQ : ∀ p h' tk' t1 t2, Fr g L h' m → News g L h' ((p, tup2 (.int ((a12 * 2 ^ n.toNat + a3).fdiv b) t1) (.int ((a12 * 2 ^ n.toNat + a3).fmod b) t2)) :: news) → Q (.ref p) { s with heap := h', toks := tk' }) :
    wpAny (model PR w) (mkA dp fr gd un) (call (.ref 49) [.int a12 t1, .int a3 t2, .int b t3, .int b1 t4, .int b2 t5, .int n t6]) Q E s := by
  refine enterF (f := 49) [(Str.ofString "n", .int n t6), (Str.ofString "b2", .int b2 t5), (Str.ofString "b1", .int b1 t4), (Str.ofString "b", .int b t3), (Str.ofString "a3", .int a3 t2), (Str.ofString "a12", .int a12 t1)] I F N TL En (by lia) rfl (by kernel_rfl) rfl (by decide) (locs rfl) rfl ?_
  clear I F N
  intro g' L' h₁ t₁ mL ML eL AL sL I F N _ lv
  have X := I.X
  obtain rfl := En.eq
  have P := p2pos n.toNat
  have hb0 : 0 < b := by rw [hb]; have := Int.mul_pos hb1 P; lia
  have i1 : intBits (1 : Int) ≤ 64 := by decide
  have iP : intBits ((2 : Int) ^ n.toNat) ≤ 20001 := by
    refine Nat.le_trans (intBits_pow_le (m := 2) (by decide) n.toNat) ?_
    have : n.toNat ≤ 5000 := by lia
    lia
  have ib2 : intBits b2 ≤ 5000 := by
    refine Nat.le_trans (bits_lt hb2 hb2b) ?_
    lia
  have s1 := intBits_add_le (intBits_sub_le h12b (intBits_mul_le hb1b iP)) hb1b
  have s2 := intBits_fmod_le h12b hb1b
  have s3 : IntMulOk (1 * 2 ^ n.toNat - 1) b2 := IntMulOk.of_le (intBits_sub_le (intBits_mul_le i1 iP) i1) ib2 (by lia)
  have s4 : IntMulOk (a12.fdiv b1) b2 := IntMulOk.of_le (intBits_fdiv_le h12b) ib2 (by lia)
  k_steps
  any_goals (first | lia | assumption)
  · unfold Stop
    have e1 : a12 = b1 * 2 ^ n.toNat + a12.fmod (2 ^ n.toNat) := by
      have := kbt_whole a12 n.toNat
      simp_all
    have e2 := kbt_rest a12 n.toNat
    refine while_r (by assumption) (by assumption) rfl rfl rfl hb0 rfl rfl rfl rfl ?_
    intro k h' tk' t1 t2 hk0 hk1 hk2 F N
    have e3 : Builtin.bitOr ((a12 - b1 * 2 ^ n.toNat + b1) * 2 ^ n.toNat) a3 = (a12 - b1 * 2 ^ n.toNat + b1) * 2 ^ n.toNat + a3 := bitOr_low (by lia) h3 h3b
    rw [e3, Int.one_mul] at hk1 hk2
    have e4 := fin3 (div3_a hb) (by rw [Int.sub_add_cancel, Int.mul_comm (2 ^ n.toNat) b]; exact hlt) hk1 hk2
    k_steps
    have k := lv.out1 (TT' := TT) (by assumption) (by assumption) (by walk_at "my ends")
    rw [e4.1, e4.2] at hQ
    have k2 := k.2
    rw [e3, Int.one_mul] at k2
    exact hQ _ _ _ _ _ k.1 k2
  · unfold Stop
    refine while_r (by assumption) (by assumption) rfl rfl rfl hb0 rfl rfl rfl rfl ?_
    intro k h' tk' t1 t2 hk0 hk1 hk2 F N
    have e1 : a12 = a12.fdiv b1 * b1 + a12.fmod b1 := by have := Int.mul_fdiv_add_fmod a12 b1; rw [Int.mul_comm] at this; lia
    have e2 : 0 ≤ a12.fmod b1 ∧ a12.fmod b1 < b1 := ⟨Int.fmod_nonneg_of_pos _ hb1, Int.fmod_lt_of_pos _ hb1⟩
    have e5 : 0 ≤ a12.fdiv b1 := Int.fdiv_nonneg h12 (Int.le_of_lt hb1)
    have e3 : Builtin.bitOr (a12.fmod b1 * 2 ^ n.toNat) a3 = a12.fmod b1 * 2 ^ n.toNat + a3 := bitOr_low (by lia) h3 h3b
    rw [e3] at hk1 hk2
    have e4 := fin3 (div3_b hb e1) (div3_c hb e1 e2.2 h3b P hb2 e5) hk1 hk2
    k_steps
    have k := lv.out1 (TT' := TT) (by assumption) (by assumption) (by walk_at "my ends")
    rw [e4.1, e4.2] at hQ
    have k2 := k.2
    rw [e3] at k2
    exact hQ _ _ _ _ _ k.1 k2
end

theorem toNat1 : Int.toNat 1 = 1 := rfl
structure D2 (A B M H b1 b2 a12 a3 a4 X Y : Int) : Prop where
  h0 : 0 ≤ H
  h1 : H ≤ 5000
  m0 : 0 ≤ M
  p0 : 0 ≤ a12
  p1 : intBits a12 ≤ 9000
  p2 : (intBits a12 : Int) - H ≤ 4000
  p3 : 0 ≤ a3
  p4 : a3 < 2 ^ H.toNat
  p5 : 0 < b1
  p6 : intBits b1 ≤ 9000
  p7 : 0 ≤ b2
  p8 : b2 < 2 ^ H.toNat
  p9 : B = b1 * 2 ^ H.toNat + b2
  p10 : a12 * 2 ^ H.toNat + a3 < B * 2 ^ H.toNat
  s0 : 0 ≤ X.fmod B
  s1 : intBits (X.fmod B) ≤ 9000
  s2 : (intBits (X.fmod B) : Int) - H ≤ 4000
  s3 : 0 ≤ a4
  s4 : a4 < 2 ^ H.toNat
  s10 : X.fmod B * 2 ^ H.toNat + a4 < B * 2 ^ H.toNat
  z1 : (intBits (X.fdiv B) : Int) + H ≤ 2 ^ 27
  z2 : Builtin.bitOr (X.fdiv B * 2 ^ H.toNat) (Y.fdiv B) = A.fdiv B
  z3 : Y.fmod B = A.fmod B
theorem fdivP (x : Int) (k : Nat) : x.fdiv (2 ^ k) = x / 2 ^ k := Int.fdiv_eq_ediv_of_nonneg _ (Int.le_of_lt (p2pos k))
theorem maskP (x : Int) (k : Nat) : Builtin.bitAnd x (1 * 2 ^ k - 1) = x % 2 ^ k := by rw [Int.one_mul, kbt_mask]
theorem divdiv (x : Int) (k : Nat) : x / 2 ^ (2 * k) = x / 2 ^ k / 2 ^ k := by
  rw [Int.ediv_ediv_of_nonneg (Int.le_of_lt (p2pos k)), ← Int.pow_add, show k + k = 2 * k by lia]
theorem d2 {A B M : Int} {H : Int} (hA : 0 ≤ A) (hM : M = 2 * H) (hH : 1 ≤ H) (hM2 : H ≤ 2500) (hB : 2 ^ (M.toNat - 1) ≤ B) (hB2 : B < 2 ^ M.toNat) (hAB : A < B * 2 ^ M.toNat) :
    D2 A B M H (B.fdiv (2 ^ H.toNat)) (Builtin.bitAnd B (1 * 2 ^ H.toNat - 1)) (A.fdiv (2 ^ M.toNat)) (Builtin.bitAnd (A.fdiv (2 ^ H.toNat)) (1 * 2 ^ H.toNat - 1)) (Builtin.bitAnd A (1 * 2 ^ H.toNat - 1))
      (A.fdiv (2 ^ M.toNat) * 2 ^ H.toNat + Builtin.bitAnd (A.fdiv (2 ^ H.toNat)) (1 * 2 ^ H.toNat - 1))
      ((A.fdiv (2 ^ M.toNat) * 2 ^ H.toNat + Builtin.bitAnd (A.fdiv (2 ^ H.toNat)) (1 * 2 ^ H.toNat - 1)).fmod B * 2 ^ H.toNat + Builtin.bitAnd A (1 * 2 ^ H.toNat - 1)) := by
  obtain ⟨k, rfl⟩ := Int.eq_ofNat_of_zero_le (show 0 ≤ H by lia)
  have eM : M.toNat = 2 * k := by lia
  rw [eM] at hB hB2 hAB ⊢
  simp only [Int.toNat_natCast, fdivP, maskP]
  have P := p2pos k
  have P2 := p2pos (2 * k)
  have PP : (2 : Int) ^ (2 * k) = 2 ^ k * 2 ^ k := by rw [← Int.pow_add, show k + k = 2 * k by lia]
  have hB0 : 0 < B := Int.lt_of_lt_of_le (p2pos _) hB
  have dv := divdiv A k
  rw [dv]
  have e1 : A / 2 ^ k / 2 ^ k * 2 ^ k + A / 2 ^ k % 2 ^ k = A / 2 ^ k := by rw [Int.mul_comm]; exact Int.mul_ediv_add_emod _ _
  rw [e1]
  have e2 : A / 2 ^ k * 2 ^ k + A % 2 ^ k = A := by rw [Int.mul_comm]; exact Int.mul_ediv_add_emod _ _
  have r0 := Int.emod_nonneg A (Int.ne_of_gt P)
  have r1 := Int.emod_lt_of_pos A P
  have t0 := Int.emod_nonneg (A / 2 ^ k) (Int.ne_of_gt P)
  have t1 := Int.emod_lt_of_pos (A / 2 ^ k) P
  have u0 := Int.emod_nonneg B (Int.ne_of_gt P)
  have u1 := Int.emod_lt_of_pos B P
  have u2 : B / 2 ^ k * 2 ^ k + B % 2 ^ k = B := by rw [Int.mul_comm]; exact Int.mul_ediv_add_emod _ _
  have hA1 : 0 ≤ A / 2 ^ k := Int.ediv_nonneg hA (Int.le_of_lt P)
  have hA2 : 0 ≤ A / 2 ^ k / 2 ^ k := Int.ediv_nonneg hA1 (Int.le_of_lt P)
  have hX : A / 2 ^ k < B * 2 ^ k := Int.ediv_lt_of_lt_mul P (by rw [Int.mul_assoc, ← PP]; exact hAB)
  have hX2 : A / 2 ^ k / 2 ^ k < B := Int.ediv_lt_of_lt_mul P hX
  have bB : intBits B ≤ 2 * k := bits_lt (Int.le_of_lt hB0) hB2
  have b12 : intBits (A / 2 ^ k / 2 ^ k) ≤ 2 * k := bits_lt hA2 (by lia)
  have hb1 : 0 < B / 2 ^ k := by
    have : (2 : Int) ^ k ≤ B := by
      refine Int.le_trans ?_ hB
      have h : (2 : Nat) ^ k ≤ 2 ^ (2 * k - 1) := Nat.pow_le_pow_right (by decide) (by lia)
      rw [← kbt_cast, ← kbt_cast]
      exact Int.ofNat_le.mpr h
    exact (Int.le_ediv_iff_mul_le P).mpr (by rw [Int.zero_add, Int.one_mul]; exact this)
  have bb1 : intBits (B / 2 ^ k) ≤ 2 * k := intBits_le_of_natAbs (by rw [← fdivP]; exact natAbs_fdiv_le _ _) bB
  have f0 := Int.fmod_nonneg_of_pos (A / 2 ^ k) hB0
  have f1 := Int.fmod_lt_of_pos (A / 2 ^ k) hB0
  have bf : intBits ((A / 2 ^ k).fmod B) ≤ 2 * k := bits_lt f0 (by lia)
  have s10 : (A / 2 ^ k).fmod B * 2 ^ k + A % 2 ^ k < B * 2 ^ k := by
    have : ((A / 2 ^ k).fmod B + 1) * 2 ^ k ≤ B * 2 ^ k := Int.mul_le_mul_of_nonneg_right (by lia) (Int.le_of_lt P)
    rw [Int.add_mul, Int.one_mul] at this
    lia
  have Y0 : 0 ≤ (A / 2 ^ k).fmod B * 2 ^ k + A % 2 ^ k := by have := Int.mul_nonneg f0 (Int.le_of_lt P); lia
  generalize hY : (A / 2 ^ k).fmod B * 2 ^ k + A % 2 ^ k = Y at *
  have y0 := Int.fmod_nonneg_of_pos Y hB0
  have y1 := Int.fmod_lt_of_pos Y hB0
  have y2 := Int.mul_fdiv_add_fmod Y B
  have y3 := Int.mul_fdiv_add_fmod (A / 2 ^ k) B
  have q0 : 0 ≤ Y.fdiv B := Int.fdiv_nonneg Y0 (Int.le_of_lt hB0)
  have q1 : Y.fdiv B < 2 ^ k := by
    rw [Int.fdiv_eq_ediv_of_nonneg _ (Int.le_of_lt hB0)]
    exact Int.ediv_lt_of_lt_mul hB0 (by rw [Int.mul_comm]; exact s10)
  have q2 : 0 ≤ (A / 2 ^ k).fdiv B := Int.fdiv_nonneg hA1 (Int.le_of_lt hB0)
  have fin : A.fdiv B = (A / 2 ^ k).fdiv B * 2 ^ k + Y.fdiv B ∧ A.fmod B = Y.fmod B := by
    refine fdm ?_ y0 y1
    generalize (A / 2 ^ k).fdiv B = u at *
    generalize (A / 2 ^ k).fmod B = v at *
    generalize Y.fdiv B = x at *
    generalize Y.fmod B = y at *
    generalize A / 2 ^ k = z at *
    generalize (2 : Int) ^ k = p at *
    generalize A % p = t at *
    grind
  refine ⟨by lia, by lia, by lia, hA2, by lia, by lia, t0, t1, hb1, by lia, u0, u1, u2.symm, ?_, f0, by lia, by lia, r0, r1, ?_, ?_, ?_, fin.2.symm⟩
  · simp only [Int.toNat_natCast, e1]; exact hX
  · simp only [Int.toNat_natCast, hY]; exact s10
  · have : intBits ((A / 2 ^ k).fdiv B) ≤ 3 * k := by
      refine intBits_le_of_natAbs (natAbs_fdiv_le _ _) (bits_lt hA1 ?_)
      refine Int.lt_of_lt_of_le hX ?_
      have : B * 2 ^ k ≤ 2 ^ (2 * k) * 2 ^ k := Int.mul_le_mul_of_nonneg_right (Int.le_of_lt hB2) (Int.le_of_lt P)
      rw [← Int.pow_add, show 2 * k + k = 3 * k by lia] at this
      exact this
    lia
  · simp only [Int.toNat_natCast]
    rw [bitOr_low q2 q0 q1, fin.1]

theorem halfEven {n : Int} (h : Builtin.bitAnd n 1 = 0) : n = 2 * n.fdiv (2 ^ Int.toNat 1) := by
  rw [bitAnd_m1] at h
  rw [toNat1, show (2 : Int) ^ 1 = 2 from rfl, Int.fdiv_eq_ediv_of_nonneg _ (by decide)]
  lia
theorem halfOdd {n : Int} (h : Builtin.bitAnd n 1 ≠ 0) : n + 1 = 2 * (n + 1).fdiv (2 ^ Int.toNat 1) := by
  rw [bitAnd_m1] at h
  rw [toNat1, show (2 : Int) ^ 1 = 2 from rfl, Int.fdiv_eq_ediv_of_nonneg _ (by decide)]
  lia
theorem stXe {M : Model} {A : Around} {E : Value → Shared → Prop} {S : Shared} {h₀ : Heap} {L a : Addr} {m : Str → Option Value} {cn : Str} {cs : Scope} {ccd : Value} {cl : List (Str × Addr)} {x : Str} {news : List (Addr × Obj)} {Q : Unit → Shared → Prop} (s₀ : Shared) {e : Int} {t0 : Tok} (F : Fr h₀ L S.heap m) (N : News h₀ L S.heap news)
    (h : ∀ h' t tv, let e1 := e; let m1 := stM m x (.int e1 tv); let s1 : Shared := { s₀ with heap := h', toks := t }; Fr h₀ L h' m1 → News h₀ L h' news → Q () s1)
    (hg : S.gens = s₀.gens := by rfl) (hd : S.drawn = s₀.drawn := by rfl) (ho : S.os = s₀.os := by rfl)
    (hk : cs.kind = .function := by rfl) (hx : (envX cn cs L a ccd cl).kindOf x = some .local := by rfl) : wpAny M A (storeName (envX cn cs L a ccd cl) x (.int e t0)) Q E S :=
  stX s₀ F N (fun h' t F N => h h' t t0 F N) hg hd ho hk hx
theorem news2 {g h : Heap} {L p : Addr} {x x' y y' : Int} {t1 t2 : Tok} {l : List (Addr × Obj)} (e1 : x = x') (e2 : y = y') (N : News g L h ((p, tup2 (.int x t1) (.int y t2)) :: l)) : News g L h ((p, tup2 (.int x' t1) (.int y' t2)) :: l) := by subst e1 e2; exact N
section
variable {w : World} {mg mb : Str → Option Value} {LO : List Str} {mean : ExcName → Option Value} {dp un : Nat} {fr : Option (List Env)} {gd : Option (List Code)} {s : Shared} {g : Heap} {L : Addr} {m : Str → Option Value} {own news TT : List (Addr × Obj)}
  {Q : Value → Shared → Prop} {E : Value → Shared → Prop}
local macro_rules | `(tactic| walk_at "storeName") => `(tactic| (k_dflt (refine stXe (by assumption) (by assumption) (by assumption) ?_; intro _ _ _ _ _ _ _ _); try k_sweep))
-- idle lines: the walk keeps its table of lines as long as their NUMBER stays the same; these make the number new
local macro_rules | `(tactic| walk_at "my idle 1") => `(tactic| fail)
local macro_rules | `(tactic| walk_at "my idle 2") => `(tactic| fail)
local macro_rules | `(tactic| walk_at "my idle 3") => `(tactic| fail)
local macro_rules | `(tactic| walk_at "my idle 4") => `(tactic| fail)
local macro_rules | `(tactic| walk_at "my idle 5") => `(tactic| fail)
local macro_rules | `(tactic| walk_at "my idle 6") => `(tactic| fail)
local macro_rules | `(tactic| walk_at "my idle 7") => `(tactic| fail)
local macro_rules | `(tactic| walk_at "my idle 8") => `(tactic| fail)
local macro_rules | `(tactic| walk_at "my idle 9") => `(tactic| fail)
local macro_rules | `(tactic| walk_at "my idle 10") => `(tactic| fail)
local macro_rules | `(tactic| walk_at "my idle 11") => `(tactic| fail)
local macro_rules | `(tactic| walk_at "my idle 12") => `(tactic| fail)
local macro_rules | `(tactic| walk_at "my idle 13") => `(tactic| fail)
local macro_rules | `(tactic| walk_at "my idle 14") => `(tactic| fail)
local macro_rules | `(tactic| walk_at "my idle 15") => `(tactic| fail)
local macro_rules | `(tactic| walk_at "my idle 16") => `(tactic| fail)
local macro_rules | `(tactic| walk_at "my idle 17") => `(tactic| fail)
local macro_rules | `(tactic| walk_at "call ref") => `(tactic| (k_dflt (refine sp_div3 (by assumption) (by assumption) (by assumption) (by assumption) (by walk_at "my ends") (by walk_at "my room") (by first | exact D2.h0 (by assumption)) (by first | exact D2.h1 (by assumption)) (by first | exact D2.p0 (by assumption) | exact D2.s0 (by assumption)) (by first | exact D2.p1 (by assumption) | exact D2.s1 (by assumption)) (by first | exact D2.p2 (by assumption) | exact D2.s2 (by assumption)) (by first | exact D2.p3 (by assumption) | exact D2.s3 (by assumption)) (by first | exact D2.p4 (by assumption) | exact D2.s4 (by assumption)) (by first | exact D2.p5 (by assumption)) (by first | exact D2.p6 (by assumption)) (by first | exact D2.p7 (by assumption)) (by first | exact D2.p8 (by assumption)) (by first | exact D2.p9 (by assumption)) (by first | exact D2.p10 (by assumption) | exact D2.s10 (by assumption)) ?_); intro _ _ _ _ _ _ _))
theorem sp_div2 {a b n : Int} {ta tb tn : Tok} (I : Inv w mg mb LO mean g) (F : Fr g L s.heap m) (N : News g L s.heap news) (TL : TabL TT) (En : Ends own news TT) (hroom : dp < 930)
    (ha : 0 ≤ a) (hn : 1 ≤ n) (hn2 : n ≤ 4500) (hb : 2 ^ (n.toNat - 1) ≤ b) (hb2 : b < 2 ^ n.toNat) (hab : a < b * 2 ^ n.toNat)
    (hQ : ∀ p h' tk' t1 t2, Fr g L h' m → News g L h' ((p, tup2 (.int (a.fdiv b) t1) (.int (a.fmod b) t2)) :: news) → Q (.ref p) { s with heap := h', toks := tk' }) :
    wpAny (model PR w) (mkA dp fr gd un) (call (.ref 42) [.int a ta, .int b tb, .int n tn]) Q E s := by
  have hb0 : 0 < b := Int.lt_of_lt_of_le (p2pos _) hb
  have bb : intBits b ≤ 4500 := Nat.le_trans (bits_lt (Int.le_of_lt hb0) hb2) (by lia)
  by_cases hc : (intBits a : Int) - n ≤ 4000
  · exact sp_div2_base I F N TL En (by lia) (by lia) hc (by lia) hQ
  refine enterF (f := 42) [(Str.ofString "n", .int n tn), (Str.ofString "b", .int b tb), (Str.ofString "a", .int a ta)] I F N TL En (by lia) rfl (by kernel_rfl) rfl (by decide) (locs rfl) rfl ?_
  clear I F N
  intro g' L' h₁ t₁ mL ML eL AL sL I F N _ lv
  have X := I.X
  obtain rfl := En.eq
  have i1 : intBits (1 : Int) ≤ 64 := by decide
  have ia : intBits a ≤ 9000 := by
    refine bits_lt ha (Int.lt_of_lt_of_le hab ?_)
    have h1 : b * 2 ^ n.toNat ≤ 2 ^ n.toNat * 2 ^ n.toNat := Int.mul_le_mul_of_nonneg_right (Int.le_of_lt hb2) (Int.le_of_lt (p2pos _))
    rw [← Int.pow_add] at h1
    have h2 : (2 : Int) ^ (n.toNat + n.toNat) ≤ 2 ^ 9000 := by
      rw [← kbt_cast, ← kbt_cast]
      exact Int.ofNat_le.mpr (Nat.pow_le_pow_right (by decide) (by lia))
    exact Int.le_trans h1 h2
  by_cases hpad : Builtin.bitAnd n 1 = 0
  · have hh := halfEven hpad
    have D := d2 (A := a) (B := b) (M := n) ha hh (by lia) (by lia) hb hb2 hab
    k_steps
    any_goals (first | lia | exact D.h0 | exact D.h1 | exact D.z1 | (dsimp +zetaDelta only; lia))
    have k := lv.out1 (TT' := TT) (by assumption) (by assumption) (by walk_at "my ends")
    exact hQ _ _ _ _ _ k.1 (news2 D.z2 D.z3 k.2)
  · have hh := halfOdd hpad
    have e2 : (n + 1).toNat = n.toNat + 1 := by lia
    have e3 : (n + 1).toNat - 1 = (n.toNat - 1) + 1 := by lia
    have t1 : (2 : Int) ^ Int.toNat 1 = 2 := rfl
    have D := d2 (A := a * 2 ^ Int.toNat 1) (B := b * 2 ^ Int.toNat 1) (M := n + 1) (by rw [t1]; lia) hh (by lia) (by lia)
      (by rw [e3, t1, Int.pow_succ]; lia) (by rw [e2, t1, Int.pow_succ]; lia) (by rw [e2, t1, Int.pow_succ]; generalize (2 : Int) ^ n.toNat = p at *; grind)
    k_steps
    any_goals (first | lia | exact D.h0 | exact D.h1 | exact D.z1 | (dsimp +zetaDelta only; lia))
    have k := lv.out1 (TT' := TT) (by assumption) (by assumption) (by walk_at "my ends")
    have f0 := Int.fmod_nonneg_of_pos a hb0
    have f1 := Int.fmod_lt_of_pos a hb0
    have f2 := Int.mul_fdiv_add_fmod a b
    have f3 := fdm (a := a * 2 ^ Int.toNat 1) (b := b * 2 ^ Int.toNat 1) (q := a.fdiv b) (r := a.fmod b * 2) (by rw [t1]; grind) (by lia) (by rw [t1]; lia)
    have f4 : (a.fmod b * 2).fdiv (2 ^ Int.toNat 1) = a.fmod b := by rw [t1, Int.fdiv_eq_ediv_of_nonneg _ (by decide)]; lia
    exact hQ _ _ _ _ _ k.1 (news2 (D.z2.trans f3.1) ((congrArg (fun x => Int.fdiv x (2 ^ Int.toNat 1)) (D.z3.trans f3.2)).trans f4) k.2)
end

section
variable {w : World} {mg mb : Str → Option Value} {LO : List Str} {mean : ExcName → Option Value} {dp un : Nat} {fr : Option (List Env)} {gd : Option (List Code)} {s : Shared} {g : Heap} {L : Addr} {m : Str → Option Value} {own news TT : List (Addr × Obj)}
  {Q : Value → Shared → Prop} {E : Value → Shared → Prop}
/-- a def of the text that has cells is called -/
theorem enterC {f : Addr} {name qual : Str} {params : Arguments} {body : List Stmt} {scope : Scope} {dV kV doc pm cdv ct oc : Value} {an od : Option Addr} {osl : Array (Option Value)} {vals : List Value} {binds : List (Str × Value)}
    (I : Inv w mg mb LO mean g) (F : Fr g L s.heap m) (N : News g L s.heap news) (TL : TabL TT) (En : Ends own news TT) (hroom : dp < 990)
    (ho : (KK w).lookup f = some ⟨oc, od, .func (fnOf name qual params body scope dV kV doc pm an cdv ct), osl⟩) (hcd : codeIn (KK w) cdv qual = true)
    (hbind : bindArgs (fnOf name qual params body scope dV kV doc pm an cdv ct) ⟨vals, []⟩ = pure binds)
    (m₁ : Str → Option Value) (hm : ∀ L', bindL (envOfC qual scope L' f cdv).kindOf binds (fun _ => none) = m₁)
    (hkind : (binds.all fun y => scope.names.lookup y.1 == some .local || scope.names.lookup y.1 == some .cell) = true) (hnd : ((cellsFrom 0 scope.names []).map (·.1)).Nodup)
    (h : ∀ g' L' h₁ tk cells, let mL := m₁; let ML := model PR w; let eL := envOfC qual scope L' f cdv; let AL := (mkA dp fr gd un).deeper eL; let sL : Shared := { s with heap := h₁, toks := tk };
      Inv w mg mb LO mean g' → Fr g' L' h₁ mL → News g' L' h₁ (cells ++ TT) →
      CellsAre (bindC (envOfC qual scope L' f cdv).kindOf binds fun _ => none) (cellsFrom (L' + 1) scope.names []) cells → (∀ p ∈ own, g'.get? p.1 = some p.2) → Back g L m own g' L' →
      wpAny ML AL (execs body eL) (fun fl s' => Q (match fl with | .ret v => v | _ => .none) s') (fun _ _ => False) sL)
    (hco : scope.isCoroutine = false := by rfl) (hgen : scope.isGenerator = false := by rfl) (hk : scope.kind = .function := by rfl) :
    wpAny (model PR w) (mkA dp fr gd un) (call (.ref f) vals) Q E s := by
  have hO := En.all
  obtain rfl := En.eq
  have hr : (mkA dp fr gd un).depth < recursionLimit := by show dp < 1000; lia
  refine wpAny_call (codeAny_call_function (fd := fnOf name qual params body scope dV kV doc pm an cdv ct) hr ((I.X.keeps F.keep) _ _ ho) rfl hco hgen rfl (codeRec_of (I.X.keeps F.keep) hcd) (BindsTo.of_eq hbind _ _ _ _ ?_))
  refine wpAny_newFunctionEnv_cells hk (kindsX hkind _) fun env' he s' x => ?_
  subst he
  refine ⟨(I.T.nolimit.keeps F.keep).keeps x.toInCall.keep, codeAny_func ?_⟩
  obtain ⟨h₁, tk, rfl, _⟩ := x.done
  have hk₁ := x.toInCall.keep
  obtain ⟨cells, NC, Y⟩ := Cl.news (h₀ := s.heap) (Nat.le_refl _) fun n c hm => ⟨x.cell n c (lookup_of_mem_nodup (cellsFrom_names scope.names 0 (s.heap.objs.size + 1) [] [] rfl ▸ hnd) hm), x.above n c hm⟩
  have I' : Inv w mg mb LO mean (gr s.heap TT) := I.keeps (gr_sub F N)
  refine wpAny_mono (h _ s.heap.objs.size h₁ tk cells I' ⟨hm s.heap.objs.size ▸ x.toInCall.ns, fun b o e => hk₁ b o (of_gr e).1, Nat.le_of_eq (hideAll_size _ _)⟩ (fun p hp => ?_) Y (gr_own N TL hO) fun h' m' own' TT' F₂ N₂ => leaveF F N TL hO F₂ N₂) (fun _ _ x => x) (fun _ _ x => x.elim)
  rcases List.mem_append.mp hp with hp | hp
  · refine ⟨(NC p hp).1, (NC p hp).2.1, ?_⟩
    cases q : (gr s.heap TT).get? p.1 with
    | none => rfl
    | some o => have := (of_gr q).1; rw [(NC p hp).2.2] at this; cases this
  · exact ⟨hk₁ _ _ (N p (List.mem_append_right _ hp)).1, Nat.ne_of_lt (Heap.lt_size (N p (List.mem_append_right _ hp)).1), hideAll_none _ (List.mem_map_of_mem hp)⟩

/-- a made def (a closure) is called -/
theorem enterN {f c' : Addr} {name qual : Str} {params : Arguments} {body : List Stmt} {scope : Scope} {clos : List (Str × Addr)} {doc pm ctv : Value} {vals : List Value} {binds : List (Str × Value)} (rb : List (Str × Value))
    (I : Inv w mg mb LO mean g) (F : Fr g L s.heap m) (N : News g L s.heap news) (TL : TabL TT) (En : Ends own news TT) (hroom : dp < 990)
    (ho : s.heap.get? f = some (fnMade name qual params body scope clos doc pm c' ctv)) (hcd : s.heap.CodeRec (.ref c') qual)
    (hbind : bindArgs (fnX name qual params body scope clos .none .none doc pm none (.ref c') ctv) ⟨vals, []⟩ = pure binds) (hcell : ∀ x ∈ scope.names, x.2 ≠ .cell) (hloc : ∀ x ∈ binds, scope.names.lookup x.1 = some .local)
    (hrb : binds.reverse = rb)
    (h : ∀ L' h₁ t₁, let mL := lk rb; let ML := model PR w; let eL := envX qual scope L' f (.ref c') clos; let AL := (mkA dp fr gd un).deeper eL; let sL : Shared := { s with heap := h₁, toks := t₁ };
      Inv w mg mb LO mean (gr s.heap TT) → Fr (gr s.heap TT) L' h₁ mL → News (gr s.heap TT) L' h₁ TT → (∀ p ∈ own, (gr s.heap TT).get? p.1 = some p.2) → Back g L m own (gr s.heap TT) L' →
      wpAny ML AL (execs body eL) (fun fl s' => Q (match fl with | .ret v => v | _ => .none) s') (fun _ _ => False) sL)
    (hco : scope.isCoroutine = false := by rfl) (hgen : scope.isGenerator = false := by rfl) (hk : scope.kind = .function := by rfl) :
    wpAny (model PR w) (mkA dp fr gd un) (call (.ref f) vals) Q E s := by
  have hO := En.all
  obtain rfl := En.eq
  have hr : (mkA dp fr gd un).depth < recursionLimit := by show dp < 1000; lia
  refine wpAny_call (codeAny_call_def (fd := fnX name qual params body scope clos .none .none doc pm none (.ref c') ctv) hr ho rfl (I.T.nolimit.keeps F.keep) hcd rfl (.of_eq hbind) hcell hloc (fun h₁ hns hk₁ => ?_) hco hgen hk)
  have I' : Inv w mg mb LO mean (gr s.heap TT) := I.keeps (gr_sub F N)
  subst hrb
  have F' : Fr (gr s.heap TT) s.heap.objs.size h₁ (lk binds.reverse) := ⟨hns, fun b o e => hk₁ b o (of_gr e).1, Nat.le_of_eq (hideAll_size _ _)⟩
  have N' : News (gr s.heap TT) s.heap.objs.size h₁ TT := fun p hp => ⟨hk₁ _ _ (N p (List.mem_append_right _ hp)).1, Nat.ne_of_lt (Heap.lt_size (N p (List.mem_append_right _ hp)).1), hideAll_none _ (List.mem_map_of_mem hp)⟩
  exact wpAny_mono (h _ h₁ _ I' F' N' (gr_own N TL hO) fun h' m' own' TT' F₂ N₂ => leaveF F N TL hO F₂ N₂) (fun _ _ x => x) (fun _ _ x => x.elim)
end

abbrev fnO (fo : FuncData) : Obj := { cls := .type "function", data := .func fo }
section
variable {w : World} {mg mb : Str → Option Value} {LO : List Str} {mean : ExcName → Option Value} {A : Around} {s : Shared} {g : Heap} {L : Addr} {m : Str → Option Value} {own news TT : List (Addr × Obj)}
  {Q : Value → Shared → Prop} {E : Value → Shared → Prop}
theorem def51 {name : Str} {params : Arguments} {body : List Stmt} {scope : Scope} {clos : List (Str × Addr)} {cn : Str} {cs : Scope} {a : Addr} {cl : List (Str × Addr)} {pos : Pos} {firstLine : Nat}
    (I : Inv w mg mb LO mean g) (F : Fr g L s.heap m) (N : News g L s.heap news) (TL : TabL TT) (En : Ends own news TT) (hl : pos.line = 75) (hc : pos.col = 4)
    (hcl : closureFor scope (envX cn cs L a (.ref 55) cl) = pure clos)
    (h : ∀ f fo c' ctv doc h' tk TT', fo = fnX name "_int2digits.<locals>.inner" params body scope clos .none .none doc ((mg "__name__").getD .none) none (.ref c') ctv → Fr g L h' m → News g L h' ((f, fnO fo) :: (own ++ TT')) → TabL TT' →
      (∃ oc vs t, (c', oc) ∈ TT' ∧ oc.data = .fields vs ∧ vs[1]? = some (.str "_int2digits.<locals>.inner" t)) → (∀ q ∈ own, q.1 < f) → Q (.ref f) { s with heap := h', toks := tk }) :
    wpAny (model PR w) A (makeFunction name "_int2digits.<locals>.inner" params (.stmts body) scope (envX cn cs L a (.ref 55) cl) [] [] [] pos firstLine) Q E s := by
  have hO := En.all
  obtain rfl := En.eq
  obtain ⟨ps, hP, ⟨hok⟩⟩ := TL.t1
  have hm := N _ (List.mem_append_right _ hP)
  have hgs := I.T.g.keeps F.keep
  obtain ⟨bm, ob, b1, b2, b3, b4, b5, b6⟩ := I.T.bmain
  have hgP : mainGlobals ≠ 51 := by decide
  have hbP : bm ≠ 51 := fun q => by
    have e := F.keep _ _ b3
    rw [q, hm.1] at e; cases e; cases b4
  have hbG : bm ≠ mainGlobals := fun q => by
    obtain ⟨o, es, ep, e, hd, _⟩ := I.T.g
    rw [q, e] at b3; cases b3; rw [hd] at b6; cases b6
  have fresh : ∀ b, L < b → g.get? b = none := fun b hb => Heap.get?_none_of_le (Nat.le_trans F.above (Nat.le_of_lt hb))
  have tabs : ∀ q ∈ TT, s.heap.get? q.1 = some q.2 := fun q hq => (N q (List.mem_append_right _ hq)).1
  rcases hok with rfl | ⟨c', oc, vs, t, rfl, hmem, hd, hv⟩
  · refine makeFunction_K (mg := mg) hcl rfl hgs rfl (I.C1.keeps F.keep) hm.1 True.intro rfl hgP ⟨bm, ob, b1, b2, hbG, hbP, F.keep _ _ b3, b4, b5, b6⟩ fun c' ctv doc h' tk hx hge hlt hrec htb => ?_
    obtain ⟨c₂, oc, vs, t, e2, hoc, hd, hv⟩ := hrec
    cases e2
    have hLs : L < s.heap.objs.size := F.ns.lt
    have hLc : L < c' := Nat.lt_of_lt_of_le hLs hge
    have old : ∀ b o, g.get? b = some o → h'.get? b = some o := fun b o e => hx b o (fun q => by rw [q, hm.2.2] at e; cases e) (F.keep b o e)
    refine h h'.objs.size _ c' ctv doc _ tk ((51, tabObj (#[] ++ #[rawInt pos.line, rawInt pos.col, .ref c'])) :: (c', oc) :: TT.filter (fun q => q.1 ≠ 51)) rfl
      ⟨(F.ns.extBut hx hm.2.1.symm).push _, fun b o e => Heap.get?_push_of_some _ (old b o e), F.above⟩ (fun q hq => ?_) ?_ ⟨oc, vs, t, .tail _ (.head _), hd, hv⟩
      (fun q hq => Nat.lt_of_lt_of_le (Heap.lt_size (N q (List.mem_append_left _ hq)).1) (Nat.le_trans hge (Nat.le_of_lt hlt)))
    · rcases List.mem_cons.mp hq with rfl | hq
      · exact ⟨Heap.get?_push_size _ rfl, Nat.ne_of_gt (Nat.lt_trans hLc hlt), fresh _ (Nat.lt_trans hLc hlt)⟩
      · rcases List.mem_append.mp hq with hq | hq
        · have n := N q (List.mem_append_left _ hq)
          refine ⟨Heap.get?_push_of_some _ (hx _ _ (fun e => ?_) n.1), n.2⟩
          exact disj N TL hO hq (e ▸ List.mem_map_of_mem hP)
        · rcases List.mem_cons.mp hq with rfl | hq
          · exact ⟨Heap.get?_push_of_some _ htb, hm.2⟩
          · rcases List.mem_cons.mp hq with rfl | hq
            · exact ⟨Heap.get?_push_of_some _ hoc, Nat.ne_of_gt hLc, fresh _ hLc⟩
            · obtain ⟨hq, hne⟩ := List.mem_filter.mp hq
              have n := N q (List.mem_append_right _ hq)
              exact ⟨Heap.get?_push_of_some _ (hx _ _ (by simpa using hne) n.1), n.2⟩
    · refine ⟨fun q hq => ?_, ?_, ?_⟩
      · rcases List.mem_cons.mp hq with rfl | hq
        · rfl
        · rcases List.mem_cons.mp hq with rfl | hq
          · exact isF_code hd hv
          · exact TL.f q (List.mem_filter.mp hq).1
      · refine ⟨_, .head _, ⟨.inr ⟨c', oc, vs, t, ?_, .tail _ (.head _), hd, hv⟩⟩⟩
        rw [hl, hc]; rfl
      · obtain ⟨ps₂, hP₂, ⟨hok₂⟩⟩ := TL.t2
        refine ⟨ps₂, .tail _ (.tail _ (List.mem_filter.mpr ⟨hP₂, rfl⟩)), ⟨?_⟩⟩
        rcases hok₂ with rfl | ⟨c₃, oc₃, vs₃, t₃, e₃, hm₃, hd₃, hv₃⟩
        · exact .inl rfl
        · refine .inr ⟨c₃, oc₃, vs₃, t₃, e₃, .tail _ (.tail _ (List.mem_filter.mpr ⟨hm₃, ?_⟩)), hd₃, hv₃⟩
          simp only [ne_eq, decide_not, Bool.not_eq_eq_eq_not, Bool.not_true, decide_eq_false_iff_not]
          intro e
          have e4 := tabs _ hm₃
          rw [e, hm.1] at e4
          cases e4
          cases hd₃
          simp at hv₃
  · have h2 : codeAmong pos (#[rawInt (75 : Nat), rawInt (4 : Nat), .ref c'] : Array Value).toList = some (.ref c') := by
      show (if ((75 : Nat) : Int) == pos.line && ((4 : Nat) : Int) == pos.col then some (Value.ref c') else _) = _
      rw [hl, hc]; rfl
    refine makeFunction_hit (mg := mg) hcl rfl hgs rfl (I.C1.keeps F.keep) hm.1 True.intro h2 ⟨bm, ob, b1, b2, hbG, hbP, F.keep _ _ b3, b4, b5, b6⟩ fun ctv doc h' tk hk hsz => ?_
    have hLs : L < h'.objs.size := Nat.lt_of_lt_of_le F.ns.lt hsz
    refine h h'.objs.size _ c' ctv doc _ tk TT rfl ⟨(F.ns.keeps hk).push _, fun b o e => Heap.get?_push_of_some _ (hk b o (F.keep b o e)), F.above⟩ (fun q hq => ?_) TL ⟨oc, vs, t, hmem, hd, hv⟩ (fun q hq => Nat.lt_of_lt_of_le (Heap.lt_size (N q (List.mem_append_left _ hq)).1) hsz)
    rcases List.mem_cons.mp hq with rfl | hq
    · exact ⟨Heap.get?_push_size _ rfl, Nat.ne_of_gt hLs, fresh _ hLs⟩
    · exact ⟨Heap.get?_push_of_some _ (hk _ _ (N q hq).1), (N q hq).2⟩
theorem def58 {name : Str} {params : Arguments} {body : List Stmt} {scope : Scope} {clos : List (Str × Addr)} {cn : Str} {cs : Scope} {a : Addr} {cl : List (Str × Addr)} {pos : Pos} {firstLine : Nat}
    (I : Inv w mg mb LO mean g) (F : Fr g L s.heap m) (N : News g L s.heap news) (TL : TabL TT) (En : Ends own news TT) (hl : pos.line = 90) (hc : pos.col = 4)
    (hcl : closureFor scope (envX cn cs L a (.ref 62) cl) = pure clos)
    (h : ∀ f fo c' ctv doc h' tk TT', fo = fnX name "_digits2int.<locals>.inner" params body scope clos .none .none doc ((mg "__name__").getD .none) none (.ref c') ctv → Fr g L h' m → News g L h' ((f, fnO fo) :: (own ++ TT')) → TabL TT' →
      (∃ oc vs t, (c', oc) ∈ TT' ∧ oc.data = .fields vs ∧ vs[1]? = some (.str "_digits2int.<locals>.inner" t)) → (∀ q ∈ own, q.1 < f) → Q (.ref f) { s with heap := h', toks := tk }) :
    wpAny (model PR w) A (makeFunction name "_digits2int.<locals>.inner" params (.stmts body) scope (envX cn cs L a (.ref 62) cl) [] [] [] pos firstLine) Q E s := by
  have hO := En.all
  obtain rfl := En.eq
  obtain ⟨ps, hP, ⟨hok⟩⟩ := TL.t2
  have hm := N _ (List.mem_append_right _ hP)
  have hgs := I.T.g.keeps F.keep
  obtain ⟨bm, ob, b1, b2, b3, b4, b5, b6⟩ := I.T.bmain
  have hgP : mainGlobals ≠ 58 := by decide
  have hbP : bm ≠ 58 := fun q => by
    have e := F.keep _ _ b3
    rw [q, hm.1] at e; cases e; cases b4
  have hbG : bm ≠ mainGlobals := fun q => by
    obtain ⟨o, es, ep, e, hd, _⟩ := I.T.g
    rw [q, e] at b3; cases b3; rw [hd] at b6; cases b6
  have fresh : ∀ b, L < b → g.get? b = none := fun b hb => Heap.get?_none_of_le (Nat.le_trans F.above (Nat.le_of_lt hb))
  have tabs : ∀ q ∈ TT, s.heap.get? q.1 = some q.2 := fun q hq => (N q (List.mem_append_right _ hq)).1
  rcases hok with rfl | ⟨c', oc, vs, t, rfl, hmem, hd, hv⟩
  · refine makeFunction_K (mg := mg) hcl rfl hgs rfl (I.C2.keeps F.keep) hm.1 True.intro rfl hgP ⟨bm, ob, b1, b2, hbG, hbP, F.keep _ _ b3, b4, b5, b6⟩ fun c' ctv doc h' tk hx hge hlt hrec htb => ?_
    obtain ⟨c₂, oc, vs, t, e2, hoc, hd, hv⟩ := hrec
    cases e2
    have hLs : L < s.heap.objs.size := F.ns.lt
    have hLc : L < c' := Nat.lt_of_lt_of_le hLs hge
    have old : ∀ b o, g.get? b = some o → h'.get? b = some o := fun b o e => hx b o (fun q => by rw [q, hm.2.2] at e; cases e) (F.keep b o e)
    refine h h'.objs.size _ c' ctv doc _ tk ((58, tabObj (#[] ++ #[rawInt pos.line, rawInt pos.col, .ref c'])) :: (c', oc) :: TT.filter (fun q => q.1 ≠ 58)) rfl
      ⟨(F.ns.extBut hx hm.2.1.symm).push _, fun b o e => Heap.get?_push_of_some _ (old b o e), F.above⟩ (fun q hq => ?_) ?_ ⟨oc, vs, t, .tail _ (.head _), hd, hv⟩
      (fun q hq => Nat.lt_of_lt_of_le (Heap.lt_size (N q (List.mem_append_left _ hq)).1) (Nat.le_trans hge (Nat.le_of_lt hlt)))
    · rcases List.mem_cons.mp hq with rfl | hq
      · exact ⟨Heap.get?_push_size _ rfl, Nat.ne_of_gt (Nat.lt_trans hLc hlt), fresh _ (Nat.lt_trans hLc hlt)⟩
      · rcases List.mem_append.mp hq with hq | hq
        · have n := N q (List.mem_append_left _ hq)
          refine ⟨Heap.get?_push_of_some _ (hx _ _ (fun e => ?_) n.1), n.2⟩
          exact disj N TL hO hq (e ▸ List.mem_map_of_mem hP)
        · rcases List.mem_cons.mp hq with rfl | hq
          · exact ⟨Heap.get?_push_of_some _ htb, hm.2⟩
          · rcases List.mem_cons.mp hq with rfl | hq
            · exact ⟨Heap.get?_push_of_some _ hoc, Nat.ne_of_gt hLc, fresh _ hLc⟩
            · obtain ⟨hq, hne⟩ := List.mem_filter.mp hq
              have n := N q (List.mem_append_right _ hq)
              exact ⟨Heap.get?_push_of_some _ (hx _ _ (by simpa using hne) n.1), n.2⟩
    · refine ⟨fun q hq => ?_, ?_, ?_⟩
      · rcases List.mem_cons.mp hq with rfl | hq
        · rfl
        · rcases List.mem_cons.mp hq with rfl | hq
          · exact isF_code hd hv
          · exact TL.f q (List.mem_filter.mp hq).1
      · obtain ⟨ps₂, hP₂, ⟨hok₂⟩⟩ := TL.t1
        refine ⟨ps₂, .tail _ (.tail _ (List.mem_filter.mpr ⟨hP₂, rfl⟩)), ⟨?_⟩⟩
        rcases hok₂ with rfl | ⟨c₃, oc₃, vs₃, t₃, e₃, hm₃, hd₃, hv₃⟩
        · exact .inl rfl
        · refine .inr ⟨c₃, oc₃, vs₃, t₃, e₃, .tail _ (.tail _ (List.mem_filter.mpr ⟨hm₃, ?_⟩)), hd₃, hv₃⟩
          simp only [ne_eq, decide_not, Bool.not_eq_eq_eq_not, Bool.not_true, decide_eq_false_iff_not]
          intro e
          have e4 := tabs _ hm₃
          rw [e, hm.1] at e4
          cases e4
          cases hd₃
          simp at hv₃
      · refine ⟨_, .head _, ⟨.inr ⟨c', oc, vs, t, ?_, .tail _ (.head _), hd, hv⟩⟩⟩
        rw [hl, hc]; rfl
  · have h2 : codeAmong pos (#[rawInt (90 : Nat), rawInt (4 : Nat), .ref c'] : Array Value).toList = some (.ref c') := by
      show (if ((90 : Nat) : Int) == pos.line && ((4 : Nat) : Int) == pos.col then some (Value.ref c') else _) = _
      rw [hl, hc]; rfl
    refine makeFunction_hit (mg := mg) hcl rfl hgs rfl (I.C2.keeps F.keep) hm.1 True.intro h2 ⟨bm, ob, b1, b2, hbG, hbP, F.keep _ _ b3, b4, b5, b6⟩ fun ctv doc h' tk hk hsz => ?_
    have hLs : L < h'.objs.size := Nat.lt_of_lt_of_le F.ns.lt hsz
    refine h h'.objs.size _ c' ctv doc _ tk TT rfl ⟨(F.ns.keeps hk).push _, fun b o e => Heap.get?_push_of_some _ (hk b o (F.keep b o e)), F.above⟩ (fun q hq => ?_) TL ⟨oc, vs, t, hmem, hd, hv⟩ (fun q hq => Nat.lt_of_lt_of_le (Heap.lt_size (N q (List.mem_append_left _ hq)).1) hsz)
    rcases List.mem_cons.mp hq with rfl | hq
    · exact ⟨Heap.get?_push_size _ rfl, Nat.ne_of_gt hLs, fresh _ hLs⟩
    · exact ⟨Heap.get?_push_of_some _ (hk _ _ (N q hq).1), (N q hq).2⟩
end

/-- the number that digits of n bits make, the lowest first -/
def vl (n : Nat) : List Int → Int
  | [] => 0
  | d :: ds => d + 2 ^ n * vl n ds
theorem vl_append (n : Nat) (xs ys : List Int) : vl n (xs ++ ys) = vl n xs + 2 ^ (n * xs.length) * vl n ys := by
  induction xs with
  | nil => simp [vl]
  | cons d ds ih =>
    show d + 2 ^ n * vl n (ds ++ ys) = d + 2 ^ n * vl n ds + 2 ^ (n * (ds.length + 1)) * vl n ys
    rw [ih, Nat.mul_add, Nat.mul_one, Int.pow_add]
    generalize (2 : Int) ^ n = p
    generalize (2 : Int) ^ (n * ds.length) = q
    grind
def Dig (n : Nat) (xs : List Int) : Prop := ∀ d ∈ xs, 0 ≤ d ∧ d < 2 ^ n
theorem vl_bounds {n : Nat} {xs : List Int} (h : Dig n xs) : 0 ≤ vl n xs ∧ vl n xs < 2 ^ (n * xs.length) := by
  induction xs with
  | nil => simp [vl]
  | cons d ds ih =>
    obtain ⟨h1, h2⟩ := ih fun x hx => h x (.tail _ hx)
    obtain ⟨h3, h4⟩ := h d (.head _)
    show 0 ≤ d + 2 ^ n * vl n ds ∧ d + 2 ^ n * vl n ds < 2 ^ (n * (ds.length + 1))
    rw [Nat.mul_add, Nat.mul_one, Int.pow_add]
    have P := p2pos n
    have a1 : 0 ≤ 2 ^ n * vl n ds := Int.mul_nonneg (Int.le_of_lt P) h1
    have a2 : (2 : Int) ^ n * (vl n ds + 1) ≤ 2 ^ n * 2 ^ (n * ds.length) := Int.mul_le_mul_of_nonneg_left (by lia) (Int.le_of_lt P)
    rw [Int.mul_add, Int.mul_one, Int.mul_comm (2 ^ n) (2 ^ (n * ds.length))] at a2
    lia
abbrev slc (ns : List Int) (lo hi : Int) : List Int := (ns.drop lo.toNat).take (hi - lo).toNat
theorem slc_one {ns : List Int} {lo : Int} (h0 : 0 ≤ lo) (h1 : lo < ns.length) : slc ns lo (lo + 1) = [ns.getD lo.toNat 0] := by
  unfold slc
  rw [show (lo + 1 - lo).toNat = 1 by lia]
  have hl : lo.toNat < ns.length := by lia
  rw [List.drop_eq_getElem_cons hl, List.take_succ_cons, List.take_zero, List.getD_eq_getElem?_getD, List.getElem?_eq_getElem hl]
  rfl
theorem slc_split {ns : List Int} {lo mid hi : Int} (h0 : 0 ≤ lo) (h1 : lo ≤ mid) (h2 : mid ≤ hi) : slc ns lo hi = slc ns lo mid ++ slc ns mid hi := by
  unfold slc
  rw [show (hi - lo).toNat = (mid - lo).toNat + (hi - mid).toNat by lia, List.take_add, List.drop_drop, show lo.toNat + (mid - lo).toNat = mid.toNat by lia]
theorem slc_length {ns : List Int} {lo hi : Int} (h0 : 0 ≤ lo) (h1 : lo ≤ hi) (h2 : hi ≤ ns.length) : (slc ns lo hi).length = (hi - lo).toNat := by
  unfold slc
  rw [List.length_take, List.length_drop]; lia
theorem slc_dig {n : Nat} {ns : List Int} {lo hi : Int} (h : Dig n ns) : Dig n (slc ns lo hi) := fun d hd => h d (List.mem_of_mem_drop (List.mem_of_mem_take hd))
theorem slc_all (ns : List Int) : slc ns 0 ns.length = ns := by
  unfold slc; simp

section
variable {w : World} {mg mb : Str → Option Value} {LO : List Str} {mean : ExcName → Option Value} {A : Around} {s : Shared} {g : Heap} {L : Addr} {m : Str → Option Value} {M : Model} {own news TT : List (Addr × Obj)} {E : Value → Shared → Prop}
theorem nameFree {a : Addr} {cn : Str} {cs : Scope} {ccd : Value} {cl : List (Str × Addr)} {x : Str} {pos : Pos} {c : Addr} {o : Obj} {v : Value} {Q : Value → Shared → Prop} (F : Fr g L s.heap m) (hc : cl.lookup x = some c) (ho : g.get? c = some o) (hd : o.data = .cell (some v)) (h : Q v s)
    (hk : cs.kind = .function := by rfl) (hx : (envX cn cs L a ccd cl).kindOf x = some .free := by rfl) (hb : (x == ("__debug__" : Str)) = false := by decide) (hn : (x == ("__classdict__" : Str)) = false := by decide) :
    wpAny M A (eval (.Name x pos) (envX cn cs L a ccd cl)) Q E s := wpAny_Name (wpAny_loadName_free hk hx hc ⟨o, F.keep _ _ ho, hd⟩ h hn) hb
theorem fnAtG {f : Addr} {oc : Value} {od : Option Addr} {fd : FuncData} {sl : Array (Option Value)} {h : Heap} (F : Fr g L h m) (ho : g.get? f = some ⟨oc, od, .func fd, sl⟩) : FnAt f h := ⟨oc, od, fd, sl, F.keep _ _ ho⟩
theorem itemG {value slice : Expr} {l : Addr} {vs : List Value} {ns : List Int} {k : Int} {u : Tok} {Q : Value → Shared → Prop} (F : Fr g L s.heap m) (hl : g.IsList l vs.toArray) (hi : IntsAre vs ns) (h0 : 0 ≤ k) (h1 : k < ns.length) (hz : ns.length < 2 ^ 62)
    (h : ∀ t, Q (.int (ns.getD k.toNat 0) t) s)
    (hs : subscripted slice false (.ref l) (.int k u) = operate [.ref l, .int k u] (getItem (.ref l) (.int k u)) := by with_unfolding_all rfl) :
    wpAny (model PR w) A (subscriptTail value slice (.ref l) (.int k u)) Q E s := by
  have hL : s.heap.IsList l vs.toArray := hl.at fun o e => F.keep _ o e
  have hlen := hi.length
  have hk : k.toNat < vs.length := by lia
  obtain ⟨t, ht⟩ := hi.int_at k.toNat vs[k.toNat] (List.getElem?_eq_getElem hk)
  refine tail_any hL.typeIs slot_list_getitem.lookup (wpAny_getItem_list hL h0 (by lia) (x := vs[k.toNat]) (by simp [hk]) ?_) hs
  rw [ht]; exact h t
end

--LINES-BEGIN
local macro_rules | `(tactic| walk_at "eval Name") => `(tactic| (k_dflt (refine nameFree (by assumption) rfl (by assumption) (by assumption) ?_)))
local macro_rules | `(tactic| walk_at "my fnat") => `(tactic| (first | exact fnAtG (by assumption) (by assumption) | exact FnAt.of (by assumption) (by walk_at "my mem")))
local macro_rules | `(tactic| walk_at "callWith ref") => `(tactic| (k_dflt (refine callWith_F (by walk_at "my fnat") ?_)))
local macro_rules | `(tactic| walk_at "And") => `(tactic| (k_dflt (refine ⟨(by walk_at "my fnat"), ?_⟩)))
--LINES-END
section
variable {w : World} {mg mb : Str → Option Value} {LO : List Str} {mean : ExcName → Option Value} {dp un : Nat} {fr : Option (List Env)} {gd : Option (List Code)} {s : Shared} {g : Heap} {L : Addr} {m : Str → Option Value} {own news TT : List (Addr × Obj)}
  {Q : Value → Shared → Prop} {E : Value → Shared → Prop}
local macro_rules | `(tactic| walk_at "storeName") => `(tactic| (k_dflt (refine stXq (by assumption) (by assumption) (by assumption) ?_); intro _ _ _ _ _ _ _ _ _; try k_sweep))
theorem sp_d2i {a : Addr} {o : Obj} {ep : Nat} {vs : List Value} {ns : List Int} {n : Int} {tn : Tok} (I : Inv w mg mb LO mean g) (F : Fr g L s.heap m) (N : News g L s.heap news) (TL : TabL TT) (En : Ends own news TT) (hroom : dp < 800)
    (ho : (a, o) ∈ own) (hc : o.cls = .type "list") (hd : o.data = .seq vs.toArray ep) (hi : IntsAre vs ns) (hlen : ns.length ≤ 64) (hn : 1 ≤ n) (hn2 : n ≤ 4500) (hdig : Dig n.toNat ns)
    (hQ : ∀ h' tk' t TT', Fr g L h' m → News g L h' (own ++ TT') → TabL TT' → Q (.int (vl n.toNat ns) t) { s with heap := h', toks := tk' }) :
    wpAny (model PR w) (mkA dp fr gd un) (call (.ref 63) [.ref a, .int n tn]) Q E s := by
  refine enterC (f := 63) I F N TL En (by lia) rfl (by kernel_rfl) rfl (fun _ => none) (fun _ => rfl) rfl (by decide +kernel) ?_
  clear I F N
  intro g' L' h₁ tk cells mL ML eL AL sL I F N Y hown lv
  have X := I.X
  obtain rfl := En.eq
  have hl : g'.IsList a vs.toArray := ⟨o, hown _ ho, hc, ep, hd⟩
  obtain ⟨o3, o2, o1, he, d3, d2, d1⟩ := CellsAre.three Y
  subst he
  clear Y
  refine wpAny_execs_cons (nestDef_K rfl rfl rfl ?_)
  refine def58 (own := [_, _, _]) I F N TL (.cons (isF_cell d3) (.cons (isF_cell d2) (.cons (isF_cell d1) .nil))) rfl rfl rfl ?_
  clear F N
  intro f fo c' ctv doc h' tk TT' hfo F N TL' hcr hlt
  have d1' : o1.data = .cell (some (.ref a)) := d1
  have d2' : o2.data = .cell (some (.int n tn)) := d2
  have d3' : o3.data = .cell none := d3
  clear d1 d2 d3
  have h3 := hlt _ (.head _)
  have hT : ∀ p ∈ TT', p.1 ≠ L' + 1 + 1 + 1 := fun p hp e => by
    have e1 := (N p (.tail _ (List.mem_append_right _ hp))).1
    rw [e, (N (L' + 1 + 1 + 1, o3) (.tail _ (.head _))).1] at e1
    have e2 := TL'.f p hp
    rw [← Option.some.inj e1, isF_cell d3'] at e2
    cases e2
  refine storeX_C F N rfl (.tail (Nat.ne_of_gt h3) (.head ?_)) d3' ?_
  · intro p hp
    rcases List.mem_cons.mp hp with rfl | hp
    · exact neN (a := L' + 1 + 1) (by lia)
    · rcases List.mem_cons.mp hp with rfl | hp
      · exact neN (a := L' + 1) (by lia)
      · exact hT p hp
  clear F N
  intro h₂ o3' F N d3
  have key : ∀ (k : Nat) (lo hi : Int) (tl th : Tok) (dp un : Nat) (fr : Option (List Env)) (gd : Option (List Code)) (s : Shared) (g : Heap) (L : Addr) (m : Str → Option Value) (own news : List (Addr × Obj)) (Q E : Value → Shared → Prop),
      Inv w mg mb LO mean g → Fr g L s.heap m → News g L s.heap news → Ends own news TT' → dp + k < 940 →
      (gr s.heap TT').get? f = some (fnO fo) → (gr s.heap TT').get? (L' + 1) = some o1 → (gr s.heap TT').get? (L' + 1 + 1) = some o2 → (gr s.heap TT').get? (L' + 1 + 1 + 1) = some o3' → (gr s.heap TT').IsList a vs.toArray →
      0 ≤ lo → lo < hi → hi ≤ ns.length → (hi - lo).toNat ≤ k →
      (∀ t h' tk', Fr g L h' m → News g L h' news → Q (.int (vl n.toNat (slc ns lo hi)) t) { s with heap := h', toks := tk' }) →
      wpAny (model PR w) (mkA dp fr gd un) (call (.ref f) [.int lo tl, .int hi th]) Q E s := by
    clear lv hQ hown hl X F N I En hT h3 hlt ho hd hc
    intro k
    induction k with
    | zero => intros; lia
    | succ k ih =>
      intro lo hi tl th dp un fr gd s g L m own news Q E I F N En hdp hf h1 h2 h3 hl h0 hlt2 hhi hk hQ
      obtain ⟨oc, cvs, ct, hm, hd, hv⟩ := hcr
      obtain rfl := En.eq
      have hcd : s.heap.CodeRec (.ref c') (Str.ofString "_digits2int.<locals>.inner") := ⟨c', oc, cvs, ct, rfl, (N _ (List.mem_append_right _ hm)).1, hd, hv⟩
      have hf' := (of_gr hf).1
      rw [hfo] at hf'
      refine enterN [(Str.ofString "R", .int hi th), (Str.ofString "L", .int lo tl)] I F N TL' En (by lia) hf' hcd rfl (by decide) (locs rfl) rfl ?_
      clear I F N hf' hcd
      intro L₂ h₂ t₁ mL ML eL AL sL I F N hown lv
      have X := I.X
      generalize gr s.heap TT' = G at *
      have hmid : lo + 1 ≠ hi → lo < (lo + hi).fdiv (2 ^ Int.toNat 1) ∧ (lo + hi).fdiv (2 ^ Int.toNat 1) < hi := fun hne => by
        rw [toNat1, show (2 : Int) ^ 1 = 2 from rfl, Int.fdiv_eq_ediv_of_nonneg _ (by decide)]
        lia
      k_steps
      · have k := lv.out F N .nil
        have e : hi = lo + 1 := by lia
        subst e
        rw [slc_one h0 (by lia)] at hQ
        have e2 : vl n.toNat [ns.getD lo.toNat 0] = ns.getD lo.toNat 0 := by simp [vl]
        rw [e2] at hQ
        exact hQ _ _ _ k.1 k.2
      · obtain ⟨hm1, hm2⟩ := hmid (by assumption)
        rename_i mid hmd _ _ _ _ _ _ sh hsh _ _ _ _ _
        rw [← hmd] at hm1 hm2
        rename Fr _ _ _ _ => F1
        rename News _ _ _ _ => N1
        have sub := gr_sub (own := []) F1 N1
        unfold Stop
        refine ih mid hi _ _ _ _ _ _ _ _ _ _ [] _ _ _ I F1 N1 .nil ?_ (sub _ _ hf) (sub _ _ h1) (sub _ _ h2) (sub _ _ h3) (hl.at fun o e => sub _ o e) (by lia) hm2 hhi (by lia) ?_
        · show dp + 1 + k < 940; lia
        intro t3 h3' tk3 F N
        have sh0 : 0 ≤ sh := hsh ▸ Int.mul_nonneg (by lia) (by lia)
        have sh1 : sh ≤ 64 * 4500 := by
          have a1 : (mid - lo) * n ≤ 64 * n := Int.mul_le_mul_of_nonneg_right (by lia) (by lia)
          lia
        have bd := vl_bounds (slc_dig (lo := mid) (hi := hi) hdig)
        rw [slc_length (by lia) (by lia) hhi] at bd
        have bb : intBits (vl n.toNat (slc ns mid hi)) ≤ 64 * 4500 := by
          refine Nat.le_trans (bits_lt bd.1 bd.2) ?_
          have a1 : n.toNat * (hi - mid).toNat ≤ 4500 * 64 := Nat.mul_le_mul (by lia) (by lia)
          lia
        have es : sh.toNat = n.toNat * (mid - lo).toNat := by
          have a1 : ((n.toNat * (mid - lo).toNat : Nat) : Int) = (mid - lo) * n := by
            rw [Int.natCast_mul, Int.toNat_of_nonneg (by lia), Int.toNat_of_nonneg (by lia), Int.mul_comm]
          lia
        k_steps
        · have sub := gr_sub (own := []) F N
          unfold Stop
          refine ih lo mid _ _ _ _ _ _ _ _ _ _ [] _ _ _ I F N .nil ?_ (sub _ _ hf) (sub _ _ h1) (sub _ _ h2) (sub _ _ h3) (hl.at fun o e => sub _ o e) h0 hm1 (by lia) (by lia) ?_
          · show dp + 1 + k < 940; lia
          intro t4 h4' tk4 F N
          k_steps
          have k := lv.out F N .nil
          have e3 : vl n.toNat (slc ns mid hi) * 2 ^ sh.toNat + vl n.toNat (slc ns lo mid) = vl n.toNat (slc ns lo hi) := by
            rw [slc_split h0 (Int.le_of_lt hm1) (Int.le_of_lt hm2), vl_append, slc_length h0 (by lia) (by lia), es, Int.mul_comm]
            lia
          rw [← e3] at hQ
          exact hQ _ _ _ k.1 k.2
      · refine IntMulOk.of_right (intBits_le_64 (by lia) (by lia))
  k_steps
  · unfold Stop
    have sub : ∀ p ∈ [(f, fnO fo), (L' + 1 + 1 + 1, o3'), (L' + 1 + 1, o2), (L' + 1, o1)], (gr h₂ TT').get? p.1 = some p.2 :=
      gr_own (own := [(f, fnO fo), (L' + 1 + 1 + 1, o3'), (L' + 1 + 1, o2), (L' + 1, o1)]) N TL' (Ends.all (.cons rfl (.cons (isF_cell d3) (.cons (isF_cell d2') (.cons (isF_cell d1') .nil)))))
    have hne : ns ≠ [] := by
      intro e; subst e; simp_all
    have hpos : 0 < ns.length := List.length_pos_iff.mpr hne
    refine key ns.length 0 ns.length _ _ _ _ _ _ _ _ _ _ _ _ _ _ I F N (.cons rfl (.cons (isF_cell d3) (.cons (isF_cell d2') (.cons (isF_cell d1') .nil)))) ?_ (sub (f, fnO fo) (.head _)) (sub (L' + 1, o1) (.tail _ (.tail _ (.tail _ (.head _))))) (sub (L' + 1 + 1, o2) (.tail _ (.tail _ (.head _)))) (sub (L' + 1 + 1 + 1, o3') (.tail _ (.head _))) (hl.at fun o e => gr_sub (own := [(f, fnO fo), (L' + 1 + 1 + 1, o3'), (L' + 1 + 1, o2), (L' + 1, o1)]) F N _ _ e) (Int.le_refl _) (by lia) (Int.le_refl _) (by lia) ?_
    · show dp + 1 + ns.length < 940; lia
    intro t h' tk' F N
    have k := lv.out (TT' := TT') F N (by walk_at "my ends")
    rw [slc_all]
    exact hQ _ _ _ _ k.1 k.2 TL'
  · have k := lv.out (TT' := TT') F N (by walk_at "my ends")
    have hne : ns = [] := by
      cases ns with
      | nil => rfl
      | cons x xs => simp_all
    subst hne
    exact hQ _ _ _ _ k.1 k.2 TL'
end

/-- the k lowest digits of n bits of x, the lowest first -/
def digs (n : Nat) : Nat → Int → List Int
  | 0, _ => []
  | k + 1, x => x % 2 ^ n :: digs n k (x / 2 ^ n)
theorem digs_length (n : Nat) : ∀ (k : Nat) (x : Int), (digs n k x).length = k
  | 0, _ => rfl
  | k + 1, x => by rw [digs, List.length_cons, digs_length n k]
theorem digs_add (n : Nat) : ∀ (j k : Nat) (x : Int), digs n (j + k) x = digs n j (x % 2 ^ (n * j)) ++ digs n k (x / 2 ^ (n * j))
  | 0, k, x => by simp [digs]
  | j + 1, k, x => by
    have P := p2pos n
    have P2 := p2pos (n * j)
    have e : (2 : Int) ^ (n * (j + 1)) = 2 ^ n * 2 ^ (n * j) := by rw [Nat.mul_add, Nat.mul_one, Nat.add_comm, Int.pow_add]
    rw [show j + 1 + k = (j + k) + 1 by lia, digs, digs_add n j k, digs, e, List.cons_append]
    have h1 : x % (2 ^ n * 2 ^ (n * j)) % 2 ^ n = x % 2 ^ n := Int.emod_emod_of_dvd x ⟨_, rfl⟩
    have h2 : x % (2 ^ n * 2 ^ (n * j)) / 2 ^ n = x / 2 ^ n % 2 ^ (n * j) := by
      have a1 := Int.mul_ediv_add_emod x (2 ^ n * 2 ^ (n * j))
      have a2 : x / (2 ^ n * 2 ^ (n * j)) = x / 2 ^ n / 2 ^ (n * j) := (Int.ediv_ediv_of_nonneg (Int.le_of_lt P)).symm
      have a3 := Int.mul_ediv_add_emod (x / 2 ^ n) (2 ^ (n * j))
      rw [a2] at a1
      have a4 : x % (2 ^ n * 2 ^ (n * j)) = x + 2 ^ n * (-(2 ^ (n * j) * (x / 2 ^ n / 2 ^ (n * j)))) := by
        generalize x / 2 ^ n / 2 ^ (n * j) = y at *
        generalize (2 : Int) ^ n = p at *
        generalize (2 : Int) ^ (n * j) = q at *
        grind
      rw [a4, Int.add_mul_ediv_left _ _ (Int.ne_of_gt P)]
      lia
    have h3 : x / 2 ^ n / 2 ^ (n * j) = x / (2 ^ n * 2 ^ (n * j)) := Int.ediv_ediv_of_nonneg (Int.le_of_lt P)
    rw [h1, h2, h3]
theorem digs_dig (n : Nat) : ∀ (k : Nat) (x : Int), Dig n (digs n k x)
  | 0, _ => fun _ h => nomatch h
  | k + 1, x => fun d hd => by
    rcases List.mem_cons.mp hd with rfl | hd
    · exact ⟨Int.emod_nonneg _ (Int.ne_of_gt (p2pos n)), Int.emod_lt_of_pos _ (p2pos n)⟩
    · exact digs_dig n k _ d hd
theorem vl_digs (n : Nat) : ∀ (k : Nat) (x : Int), 0 ≤ x → x < 2 ^ (n * k) → vl n (digs n k x) = x
  | 0, x, h0, h1 => by
    have : x = 0 := by simp at h1; lia
    subst this; rfl
  | k + 1, x, h0, h1 => by
    have P := p2pos n
    have e : (2 : Int) ^ (n * (k + 1)) = 2 ^ (n * k) * 2 ^ n := by rw [Nat.mul_add, Nat.mul_one, Int.pow_add]
    rw [e] at h1
    show x % 2 ^ n + 2 ^ n * vl n (digs n k (x / 2 ^ n)) = x
    rw [vl_digs n k _ (Int.ediv_nonneg h0 (Int.le_of_lt P)) (Int.ediv_lt_of_lt_mul P h1)]
    have := Int.mul_ediv_add_emod x (2 ^ n)
    lia
abbrev upd (ns : List Int) (lo hi : Int) (ds : List Int) : List Int := ns.take lo.toNat ++ (ds ++ ns.drop hi.toNat)
theorem upd_length {ns ds : List Int} {lo hi : Int} (h0 : 0 ≤ lo) (h1 : lo ≤ hi) (h2 : hi ≤ ns.length) (h3 : ds.length = (hi - lo).toNat) : (upd ns lo hi ds).length = ns.length := by
  simp only [upd, List.length_append, List.length_take, List.length_drop, h3]; lia
theorem upd_upd {ns ds es : List Int} {lo mid hi : Int} (h0 : 0 ≤ lo) (h1 : lo ≤ mid) (h2 : mid ≤ hi) (h3 : hi ≤ ns.length) (h4 : ds.length = (mid - lo).toNat) : upd (upd ns lo mid ds) mid hi es = upd ns lo hi (ds ++ es) := by
  have e1 : (ns.take lo.toNat).length = lo.toNat := by rw [List.length_take]; lia
  have e2 : (ns.take lo.toNat ++ ds).length = mid.toNat := by rw [List.length_append, e1, h4]; lia
  unfold upd
  rw [← List.append_assoc (ns.take lo.toNat) ds (ns.drop mid.toNat)]
  rw [← e2, List.take_left, show hi.toNat = (ns.take lo.toNat ++ ds).length + (hi.toNat - mid.toNat) by lia, List.drop_append, List.drop_drop]
  rw [e2, show mid.toNat + (mid.toNat + (hi.toNat - mid.toNat) - mid.toNat) = mid.toNat + (hi.toNat - mid.toNat) by lia]
  simp [List.append_assoc, List.drop_eq_nil_of_le (show (ns.take lo.toNat ++ ds).length ≤ mid.toNat + (hi.toNat - mid.toNat) by lia)]
theorem upd_one {ns : List Int} {lo x : Int} (h0 : 0 ≤ lo) (h1 : lo < ns.length) : ns.set lo.toNat x = upd ns lo (lo + 1) [x] := by
  unfold upd
  rw [List.set_eq_take_append_cons_drop, if_pos (by lia), show (lo + 1).toNat = lo.toNat + 1 by lia]
  rfl
theorem bitXor_low {x : Int} {k : Nat} (h : 0 ≤ x) : Builtin.bitXor x (x.fdiv (2 ^ k) * 2 ^ k) = x % 2 ^ k := by
  have P := p2pos k
  rw [bitXor_and, fdivP]
  have e := Int.mul_ediv_add_emod x (2 ^ k)
  have r0 := Int.emod_nonneg x (Int.ne_of_gt P)
  have r1 := Int.emod_lt_of_pos x P
  have q0 : 0 ≤ x / 2 ^ k := Int.ediv_nonneg h (Int.le_of_lt P)
  have ha : Builtin.bitAnd x (x / 2 ^ k * 2 ^ k) = x / 2 ^ k * 2 ^ k := by
    have b0 := bitOr_low (x := x / 2 ^ k) (y := x % 2 ^ k) (k := k) q0 r0 r1
    rw [Int.mul_comm] at e
    rw [e] at b0
    have c0 : 0 ≤ x / 2 ^ k * 2 ^ k := Int.mul_nonneg q0 (Int.le_of_lt P)
    unfold Builtin.bitAnd
    rw [decide_eq_true h, decide_eq_true c0]
    simp only
    obtain ⟨x', rfl⟩ := Int.eq_ofNat_of_zero_le h
    have e2 : ((x' : Int) / 2 ^ k * 2 ^ k).toNat = x' / 2 ^ k * 2 ^ k := by
      rw [← kbt_cast, ← Int.natCast_ediv, ← Int.natCast_mul, Int.toNat_natCast]
    have e3 : (x' : Int) / 2 ^ k * 2 ^ k = ((x' / 2 ^ k * 2 ^ k : Nat) : Int) := by
      rw [← kbt_cast, ← Int.natCast_ediv, ← Int.natCast_mul]
    rw [e2, Int.toNat_natCast, e3]
    congr 1
    apply Nat.eq_of_testBit_eq
    intro i
    rw [Nat.testBit_and, Nat.testBit_mul_two_pow, Nat.testBit_div_two_pow]
    by_cases hi : k ≤ i
    · simp [hi, show i - k + k = i by lia]
    · simp [hi]
  rw [ha]
  have := e
  rw [Int.mul_comm] at this
  lia

section
variable {g : Heap} {L : Addr} {h h' : Heap} {m : Str → Option Value} {own own' HH HH' : List (Addr × Obj)}
theorem ne_news {news : List (Addr × Obj)} {p q : Addr × Obj} (N : News g L h news) (hp : p ∈ news) (hq : q ∈ news) (hne : p.2 ≠ q.2) : p.1 ≠ q.1 := fun e => by
  have e1 := (N p hp).1
  rw [e, (N q hq).1] at e1
  exact hne (Option.some.inj e1).symm
theorem ne_cellF {o o' : Obj} {v : Option Value} (h : o.data = .cell v) (h' : isF o' = true) : o' ≠ o := fun e => by rw [e, isF_cell h] at h'; cases h'
/-- as leaveF, with whatever is hidden told apart from the caller's own -/
theorem leaveM (F : Fr g L h m) (N : News g L h (own ++ HH)) (hdj : ∀ p ∈ own, p.1 ∉ HH.map (·.1))
    {L' : Addr} {m' : Str → Option Value} (F' : Fr (gr h HH) L' h' m') (N' : News (gr h HH) L' h' (own' ++ HH')) : Fr g L h' m ∧ News g L h' (own' ++ (own ++ HH')) := by
  obtain ⟨oL, es, ep, hL, hLd, hLk, hLf⟩ := F.ns
  have nL : L ∉ HH.map (·.1) := fun q => by
    obtain ⟨p, hp, e⟩ := List.mem_map.mp q
    exact (N p (List.mem_append_right _ hp)).2.1 e
  have hLg : (gr h HH).get? L = some oL := gr_get hL nL
  have sub := gr_sub F N
  have nw : ∀ p : Addr × Obj, h'.get? p.1 = some p.2 → (gr h HH).get? p.1 = none → h'.get? p.1 = some p.2 ∧ p.1 ≠ L ∧ g.get? p.1 = none := fun p e n => by
    refine ⟨e, fun q => ?_, ?_⟩
    · rw [q, hLg] at n; cases n
    · cases q : g.get? p.1 with
      | none => rfl
      | some o => rw [sub _ _ q] at n; cases n
  refine ⟨⟨⟨oL, es, ep, F'.keep _ _ hLg, hLd, hLk, hLf⟩, fun b o e => F'.keep _ _ (sub b o e), F.above⟩, fun p hp => ?_⟩
  rcases List.mem_append.mp hp with hp | hp
  · have n := N' p (List.mem_append_left _ hp)
    exact nw p n.1 n.2.2
  · rcases List.mem_append.mp hp with hp | hp
    · have n := N p (List.mem_append_left _ hp)
      exact ⟨F'.keep _ _ (gr_get n.1 (hdj p hp)), n.2⟩
    · have n := N' p (List.mem_append_right _ hp)
      exact nw p n.1 n.2.2
end
section
variable {w : World} {mg mb : Str → Option Value} {LO : List Str} {mean : ExcName → Option Value} {dp un : Nat} {fr : Option (List Env)} {gd : Option (List Code)} {s : Shared} {g : Heap} {L : Addr} {m : Str → Option Value} {own news TT HH : List (Addr × Obj)}
  {Q : Value → Shared → Prop} {E : Value → Shared → Prop}
theorem enterM {f c' : Addr} {name qual : Str} {params : Arguments} {body : List Stmt} {scope : Scope} {clos : List (Str × Addr)} {doc pm ctv : Value} {vals : List Value} {binds : List (Str × Value)} (rb : List (Str × Value))
    (I : Inv w mg mb LO mean g) (F : Fr g L s.heap m) (N : News g L s.heap (own ++ HH)) (hdj : ∀ p ∈ own, p.1 ∉ HH.map (·.1)) (hroom : dp < 990)
    (ho : s.heap.get? f = some (fnMade name qual params body scope clos doc pm c' ctv)) (hcd : s.heap.CodeRec (.ref c') qual)
    (hbind : bindArgs (fnX name qual params body scope clos .none .none doc pm none (.ref c') ctv) ⟨vals, []⟩ = pure binds) (hcell : ∀ x ∈ scope.names, x.2 ≠ .cell) (hloc : ∀ x ∈ binds, scope.names.lookup x.1 = some .local)
    (hrb : binds.reverse = rb)
    (h : ∀ L' h₁ t₁, let mL := lk rb; let ML := model PR w; let eL := envX qual scope L' f (.ref c') clos; let AL := (mkA dp fr gd un).deeper eL; let sL : Shared := { s with heap := h₁, toks := t₁ };
      Inv w mg mb LO mean (gr s.heap HH) → Fr (gr s.heap HH) L' h₁ mL → News (gr s.heap HH) L' h₁ HH → Back g L m own (gr s.heap HH) L' →
      wpAny ML AL (execs body eL) (fun fl s' => Q (match fl with | .ret v => v | _ => .none) s') (fun _ _ => False) sL)
    (hco : scope.isCoroutine = false := by rfl) (hgen : scope.isGenerator = false := by rfl) (hk : scope.kind = .function := by rfl) :
    wpAny (model PR w) (mkA dp fr gd un) (call (.ref f) vals) Q E s := by
  have hr : (mkA dp fr gd un).depth < recursionLimit := by show dp < 1000; lia
  refine wpAny_call (codeAny_call_def (fd := fnX name qual params body scope clos .none .none doc pm none (.ref c') ctv) hr ho rfl (I.T.nolimit.keeps F.keep) hcd rfl (.of_eq hbind) hcell hloc (fun h₁ hns hk₁ => ?_) hco hgen hk)
  have I' : Inv w mg mb LO mean (gr s.heap HH) := I.keeps (gr_sub F N)
  subst hrb
  have F' : Fr (gr s.heap HH) s.heap.objs.size h₁ (lk binds.reverse) := ⟨hns, fun b o e => hk₁ b o (of_gr e).1, Nat.le_of_eq (hideAll_size _ _)⟩
  have N' : News (gr s.heap HH) s.heap.objs.size h₁ HH := fun p hp => ⟨hk₁ _ _ (N p (List.mem_append_right _ hp)).1, Nat.ne_of_lt (Heap.lt_size (N p (List.mem_append_right _ hp)).1), hideAll_none _ (List.mem_map_of_mem hp)⟩
  exact wpAny_mono (h _ h₁ _ I' F' N' fun h' m' own' TT' F₂ N₂ => leaveM F N hdj F₂ N₂) (fun _ _ x => x) (fun _ _ x => x.elim)

local macro_rules | `(tactic| walk_at "binaryOp Mult ref int") => `(tactic| (refine stop_out ?_))
local macro_rules | `(tactic| walk_at "exec FunctionDef") => `(tactic| (refine stop_out ?_))
theorem lenI {A : Around} {D : Addr} {vs : List Value} {ep : Nat} {ns : List Int} {Q : Value → Shared → Prop} (N : News g L s.heap news) (hm : (D, listOf vs.toArray ep) ∈ news) (hi : IntsAre vs ns) (hz : ns.length < 2 ^ 62) (h : Q (.int ns.length (s.toks + 1)) { s with toks := s.toks + 1 + 1 }) :
    wpAny (model PR w) A (call (.builtin "len") [.ref D]) Q E s := by
  have e : vs.toArray.size = ns.length := by simp [hi.length]
  exact len_list (News.isList N hm) (by rw [e]; lia) (by rw [e]; exact h)
--LINES-BEGIN
local macro_rules | `(tactic| walk_at "my small") => `(tactic| (first | lia | (simp only [List.length_replicate, digs_length]; lia)))
local macro_rules | `(tactic| walk_at "call builtin:len") => `(tactic| (k_dflt (refine lenI (by assumption) (by walk_at "my mem") (by assumption) (by walk_at "my small") ?_)))
--LINES-END
local macro_rules | `(tactic| walk_at "setItem ref int") => `(tactic| (k_dflt (refine ksa_set (by assumption) (by assumption) (Upd.head (by assumption)) (by assumption) (by lia) (by lia) (by lia) ?_); intro _ _ _ _ _ _))
theorem zeros_are (t : Tok) : ∀ k : Nat, IntsAre (List.replicate k [Value.int 0 t]).flatten (List.replicate k 0)
  | 0 => .nil
  | k + 1 => by
    rw [List.replicate_succ, List.replicate_succ, List.flatten_cons]
    exact .cons 0 t (zeros_are t k)
theorem sp_i2d {x n : Int} {tx tn : Tok} (I : Inv w mg mb LO mean g) (F : Fr g L s.heap m) (N : News g L s.heap news) (TL : TabL TT) (En : Ends own news TT) (hroom : dp < 800)
    (hx : 0 ≤ x) (hn : 1 ≤ n) (hn2 : n ≤ 4500) (hlen : (intBits x + n.toNat - 1) / n.toNat ≤ 64)
    (hQ : ∀ D vs ep h' tk' TT', Fr g L h' m → News g L h' ((D, listOf vs.toArray ep) :: (own ++ TT')) → TabL TT' → IntsAre vs (digs n.toNat ((intBits x + n.toNat - 1) / n.toNat) x) → Q (.ref D) { s with heap := h', toks := tk' }) :
    wpAny (model PR w) (mkA dp fr gd un) (call (.ref 56) [.int x tx, .int n tn]) Q E s := by
  refine enterC (f := 56) I F N TL En (by lia) rfl (by kernel_rfl) rfl (stM (fun _ => none) (Str.ofString "a") (.int x tx)) (fun _ => rfl) rfl (by decide +kernel) ?_
  clear I F N
  intro g' L' h₁ tk cells mL ML eL AL sL I F N Y hown lv
  have X := I.X
  obtain rfl := En.eq
  obtain ⟨o3, o2, o1, he, d3, d2, d1⟩ := CellsAre.three Y
  subst he
  clear Y
  have d1' : o1.data = .cell (some (.int n tn)) := d1
  have d2' : o2.data = .cell none := d2
  have d3' : o3.data = .cell none := d3
  clear d1 d2 d3
  obtain ⟨K, hK⟩ : ∃ K : Nat, K = (intBits x + n.toNat - 1) / n.toNat := ⟨_, rfl⟩
  have hKi : ((intBits x : Int) + n - 1).fdiv n = (K : Int) := by
    rw [hK, Int.fdiv_eq_ediv_of_nonneg _ (by lia), Int.natCast_ediv, Int.toNat_of_nonneg (by lia)]
    congr 1; lia
  k_steps
  unfold Stop
  rw [hKi]
  rename Fr _ _ _ _ => F1
  rename News _ _ _ _ => N1
  rename ∀ p ∈ _, _ => l1
  have h13 := l1 (L' + 1 + 1 + 1, o3) (.head _)
  have h12 := l1 (L' + 1 + 1, o2) (.tail _ (.head _))
  refine KMa.mul F1 N1 (vs := [Value.int 0 _]) (News.isList N1 (.head _)) (by lia) (by lia) (by simp; lia) rfl ?_
  intro D h₂ F2 N2 hlt
  rw [Int.toNat_natCast] at N2
  obtain ⟨vs0, N3, hi2⟩ : ∃ vs0, News g' L' h₂ ((D, listOf vs0.toArray 0) :: (L' + 1 + 1 + 1, o3) :: (L' + 1 + 1, o2) :: (L' + 1, o1) :: TT) ∧ IntsAre vs0 (List.replicate K 0) :=
    ⟨_, fun p hp => N2 p (by rcases List.mem_cons.mp hp with rfl | hp; exact .head _; exact .tail _ (.tail _ hp)), zeros_are _ K⟩
  have hD : @LT.lt Nat _ (L' + 1 + 1 + 1) D := hlt (L' + 1 + 1 + 1, o3) (.tail _ (.head _))
  clear N1 F1 N2 h12 h13
  have hTne : ∀ {h : Heap} {TT : List (Addr × Obj)} {news : List (Addr × Obj)} {c : Addr} {o : Obj} {v : Option Value}, TabL TT → News g' L' h news → (∀ p ∈ TT, p ∈ news) → (c, o) ∈ news → o.data = .cell v → ∀ p ∈ TT, p.1 ≠ c := fun TL N hs hm hd p hp =>
    ne_news N (hs p hp) hm (ne_cellF hd (TL.f p hp))
  have ht := hTne TL N3 (fun p hp => .tail _ (.tail _ (.tail _ (.tail _ hp)))) (.tail _ (.tail _ (.head _))) d2'
  refine storeX_C F2 N3 rfl (.tail (neN (a := D) (by lia)) (.tail (neN (a := L' + 1 + 1 + 1) (by lia)) (.head ?_))) d2' ?_
  · intro p hp
    rcases List.mem_cons.mp hp with rfl | hp
    · exact neN (a := L' + 1) (by lia)
    · exact ht p hp
  clear F2 N3 ht
  intro h₃ o2' F N d2
  k_steps
  unfold Stop
  refine nestDef_K rfl rfl rfl ?_
  refine def51 (own := [_, _, _, _]) I F N TL (by walk_at "my ends") rfl rfl rfl ?_
  clear F N
  intro f fo c' ctv doc h' tk TT' hfo F N TL' hcr hlt'
  have hfD : @LT.lt Nat _ D f := hlt' _ (.head _)
  have ht := hTne TL' N (fun p hp => .tail _ (List.mem_append_right _ hp)) (.tail _ (.tail _ (.head _))) d3'
  refine storeX_C F N rfl (.tail (neN (a := f) (by lia)) (.tail (neN (a := D) (by lia)) (.head ?_))) d3' ?_
  · intro p hp
    rcases List.mem_cons.mp hp with rfl | hp
    · exact neN (a := L' + 1 + 1) (by lia)
    · rcases List.mem_cons.mp hp with rfl | hp
      · exact neN (a := L' + 1) (by lia)
      · exact ht p hp
  clear F N ht
  intro h₄ o3' F N d3
  have hTD : ∀ p ∈ TT', p.1 ≠ D := fun p hp => ne_news N (.tail _ (.tail _ (.tail _ (.tail _ (.tail _ hp))))) (.tail _ (.head _)) fun e => by
    have := TL'.f p hp
    rw [e] at this; cases this
  have key : ∀ (k : Nat) (lo hi y : Int) (ty tl th : Tok) (dp un : Nat) (fr : Option (List Env)) (gd : Option (List Code)) (s : Shared) (g : Heap) (L : Addr) (m : Str → Option Value) (own : List (Addr × Obj)) (vs : List Value) (ep : Nat) (ns : List Int) (Q E : Value → Shared → Prop),
      Inv w mg mb LO mean g → Fr g L s.heap m → News g L s.heap (own ++ (D, listOf vs.toArray ep) :: TT') → (∀ p ∈ own, p.1 ∉ ((D, listOf vs.toArray ep) :: TT').map (·.1)) → dp + k < 940 →
      (gr s.heap ((D, listOf vs.toArray ep) :: TT')).get? f = some (fnO fo) → (gr s.heap ((D, listOf vs.toArray ep) :: TT')).get? (L' + 1) = some o1 → (gr s.heap ((D, listOf vs.toArray ep) :: TT')).get? (L' + 1 + 1) = some o2' → (gr s.heap ((D, listOf vs.toArray ep) :: TT')).get? (L' + 1 + 1 + 1) = some o3' →
      IntsAre vs ns → ns.length = K → 0 ≤ lo → lo < hi → hi ≤ K → (hi - lo).toNat ≤ k → 0 ≤ y → y < 2 ^ (n.toNat * (hi - lo).toNat) →
      (∀ vs' ep' h' tk', Fr g L h' m → News g L h' (own ++ (D, listOf vs'.toArray ep') :: TT') → IntsAre vs' (upd ns lo hi (digs n.toNat (hi - lo).toNat y)) → Q .none { s with heap := h', toks := tk' }) →
      wpAny (model PR w) (mkA dp fr gd un) (call (.ref f) [.int y ty, .int lo tl, .int hi th]) Q E s := by
    clear lv hQ hown X F N I En hTne hfD hD hlt' hlt hKi
    intro k
    induction k with
    | zero => intros; lia
    | succ k ih =>
      intro lo hi y ty tl th dp un fr gd s g L m own vs ep ns Q E I F N hdj hdp hf h1 h2 h3 hia hns h0 hlt2 hhi hk hy hy2 hQ
      obtain ⟨oc, cvs, ct, hm, hd, hv⟩ := hcr
      have hcd : s.heap.CodeRec (.ref c') (Str.ofString "_int2digits.<locals>.inner") := ⟨c', oc, cvs, ct, rfl, (N _ (List.mem_append_right _ (.tail _ hm))).1, hd, hv⟩
      have hf' := (of_gr hf).1
      rw [hfo] at hf'
      refine enterM [(Str.ofString "R", .int hi th), (Str.ofString "L", .int lo tl), (Str.ofString "x", .int y ty)] I F N hdj (by lia) hf' hcd rfl (by decide) (locs rfl) rfl ?_
      clear I F N hf' hcd
      intro L₂ h₂ t₁ mL ML eL AL sL I F N lv
      have X := I.X
      generalize gr s.heap ((D, listOf vs.toArray ep) :: TT') = G at *
      have hmid : lo + 1 ≠ hi → lo < (lo + hi).fdiv (2 ^ Int.toNat 1) ∧ (lo + hi).fdiv (2 ^ Int.toNat 1) < hi := fun hne => by
        rw [toNat1, show (2 : Int) ^ 1 = 2 from rfl, Int.fdiv_eq_ediv_of_nonneg _ (by decide)]
        lia
      by_cases hbase : lo + 1 = hi
      · have e : hi = lo + 1 := hbase.symm
        subst e
        k_steps
        any_goals (exfalso; lia)
        have k := lv _ _ [] ((D, _) :: TT') (by assumption) (by assumption)
        refine hQ _ _ _ _ k.1 k.2 ?_
        have e3 : digs n.toNat (lo + 1 - lo).toNat y = [y] := by
          rw [show (lo + 1 - lo).toNat = 1 by lia, Nat.mul_one] at *
          show [y % 2 ^ n.toNat] = [y]
          rw [Int.emod_eq_of_lt hy hy2]
        rw [e3, ← upd_one h0 (by lia)]
        assumption
      · obtain ⟨hm1, hm2⟩ := hmid hbase
        obtain ⟨mid, hmd⟩ : ∃ mid, mid = (lo + hi).fdiv (2 ^ Int.toNat 1) := ⟨_, rfl⟩
        rw [← hmd] at hm1 hm2
        have sh0 : 0 ≤ (mid - lo) * n := Int.mul_nonneg (by lia) (by lia)
        have sh1 : (mid - lo) * n ≤ 64 * 4500 := by
          have a1 : (mid - lo) * n ≤ 64 * n := Int.mul_le_mul_of_nonneg_right (by lia) (by lia)
          lia
        have es : ((mid - lo) * n).toNat = n.toNat * (mid - lo).toNat := by
          have a1 : ((n.toNat * (mid - lo).toNat : Nat) : Int) = (mid - lo) * n := by
            rw [Int.natCast_mul, Int.toNat_of_nonneg (by lia), Int.toNat_of_nonneg (by lia), Int.mul_comm]
          lia
        have yb : intBits y ≤ 64 * 4500 := by
          refine Nat.le_trans (bits_lt hy hy2) ?_
          have a1 : n.toNat * (hi - lo).toNat ≤ 4500 * 64 := Nat.mul_le_mul (by lia) (by lia)
          lia
        have S : 0 ≤ (mid - lo) * n ∧ ((intBits (y.fdiv (2 ^ ((mid - lo) * n).toNat)) : Int) + (mid - lo) * n ≤ 2 ^ 27) ∧ IntMulOk (mid - lo) n := by
          refine ⟨sh0, ?_, IntMulOk.of_right (intBits_le_64 (by lia) (by lia))⟩
          have := intBits_fdiv_le (y := 2 ^ ((mid - lo) * n).toNat) yb
          lia
        rw [hmd] at S
        k_steps
        any_goals (first | exact S.1 | exact S.2.1 | exact S.2.2 | (exfalso; lia))
        unfold Stop
        rw [← hmd, es, bitXor_low hy]
        rename Fr _ _ _ _ => F1
        rename News _ _ _ _ => N1
        have sub := gr_sub (own := []) F1 N1
        have P := p2pos (n.toNat * (mid - lo).toNat)
        have hup : y / 2 ^ (n.toNat * (mid - lo).toNat) < 2 ^ (n.toNat * (hi - mid).toNat) := by
          refine Int.ediv_lt_of_lt_mul P ?_
          rw [← Int.pow_add, ← Nat.mul_add, show (hi - mid).toNat + (mid - lo).toNat = (hi - lo).toNat by lia]
          exact hy2
        have hdg : digs n.toNat (hi - lo).toNat y = digs n.toNat (mid - lo).toNat (y % 2 ^ (n.toNat * (mid - lo).toNat)) ++ digs n.toNat (hi - mid).toNat (y / 2 ^ (n.toNat * (mid - lo).toNat)) := by
          rw [← digs_add, show (mid - lo).toNat + (hi - mid).toNat = (hi - lo).toNat by lia]
        refine ih lo mid _ _ _ _ _ _ _ _ _ _ _ _ [] vs ep ns _ _ I F1 N1 (fun _ hp => nomatch hp) ?_ (sub _ _ hf) (sub _ _ h1) (sub _ _ h2) (sub _ _ h3) hia hns h0 hm1 (by lia) (by lia) (Int.emod_nonneg _ (Int.ne_of_gt P)) (Int.emod_lt_of_pos _ P) ?_
        · show dp + 1 + k < 940; lia
        intro vs2 ep2 h5 tk5 F N hi5
        have hl5 := upd_length (ns := ns) (ds := digs n.toNat (mid - lo).toNat (y % 2 ^ (n.toNat * (mid - lo).toNat))) h0 (Int.le_of_lt hm1) (show mid ≤ ns.length by lia) (digs_length _ _ _)
        k_steps
        unfold Stop
        have sub := gr_sub (own := []) F N
        rw [← hmd, es, fdivP]
        refine ih mid hi _ _ _ _ _ _ _ _ _ _ _ _ [] vs2 ep2 _ _ _ I F N (fun _ hp => nomatch hp) ?_ (sub _ _ hf) (sub _ _ h1) (sub _ _ h2) (sub _ _ h3) hi5 (by lia) (by lia) hm2 (by lia) (by lia) (Int.ediv_nonneg hy (Int.le_of_lt P)) hup ?_
        · show dp + 1 + k < 940; lia
        intro vs3 ep3 h6 tk6 F N hi6
        k_steps
        have k := lv _ _ [] ((D, _) :: TT') F N
        refine hQ _ _ _ _ k.1 k.2 ?_
        rw [hdg, ← upd_upd h0 (Int.le_of_lt hm1) (Int.le_of_lt hm2) (by lia) (digs_length _ _ _)]
        exact hi6
  have xb : x < 2 ^ (n.toNat * K) := by
    have h1 := intBits_le_iff.mp (Nat.le_refl (intBits x))
    have h2 : intBits x ≤ n.toNat * K := by
      rw [hK]
      have := Nat.div_add_mod (intBits x + n.toNat - 1) n.toNat
      have h3 := Nat.mod_lt (intBits x + n.toNat - 1) (show 0 < n.toNat by lia)
      lia
    have h3 : (2 : Nat) ^ intBits x ≤ 2 ^ (n.toNat * K) := Nat.pow_le_pow_right (by decide) h2
    rw [← kbt_cast]
    lia
  k_steps
  · unfold Stop
    have hx0 : x ≠ 0 := by assumption
    have hKpos : 0 < K := by
      have h1 : 0 < intBits x := by
        unfold Builtin.Int.intBits
        rw [if_neg (by simpa using hx0)]; lia
      rw [hK]
      exact Nat.div_pos (by lia) (by lia)
    have N2 : News g' L' h₄ ([(f, fnO fo), (L' + 1 + 1 + 1, o3'), (L' + 1 + 1, o2'), (L' + 1, o1)] ++ (D, listOf vs0.toArray 0) :: TT') := news_part N fun p hp => by
      simp only [List.cons_append, List.nil_append, List.mem_cons] at hp ⊢
      rcases hp with h | h | h | h | h | h <;> simp [h]
    have hdj : ∀ p ∈ [(f, fnO fo), (L' + 1 + 1 + 1, o3'), (L' + 1 + 1, o2'), (L' + 1, o1)], p.1 ∉ ((D, listOf vs0.toArray 0) :: TT').map (·.1) := fun p hp hq => by
      obtain ⟨q, hq, e⟩ := List.mem_map.mp hq
      have hne : p.2 ≠ q.2 := by
        have hpF : isF p.2 = false ∧ (∀ its ep, p.2.data ≠ .seq its ep) := by
          simp only [List.mem_cons, List.not_mem_nil, or_false] at hp
          rcases hp with rfl | rfl | rfl | rfl
          · exact ⟨rfl, fun _ _ h => by cases h⟩
          · exact ⟨isF_cell d3, fun _ _ h => by rw [d3] at h; cases h⟩
          · exact ⟨isF_cell d2, fun _ _ h => by rw [d2] at h; cases h⟩
          · exact ⟨isF_cell d1', fun _ _ h => by rw [d1'] at h; cases h⟩
        intro e2
        rcases List.mem_cons.mp hq with rfl | hq
        · exact hpF.2 _ _ (by rw [e2])
        · have := TL'.f q hq
          rw [← e2, hpF.1] at this; cases this
      exact ne_news N2 (List.mem_append_left _ hp) (List.mem_append_right _ hq) hne e.symm
    have sub : ∀ p ∈ [(f, fnO fo), (L' + 1 + 1 + 1, o3'), (L' + 1 + 1, o2'), (L' + 1, o1)], (gr h₄ ((D, listOf vs0.toArray 0) :: TT')).get? p.1 = some p.2 := fun p hp => gr_get (N2 p (List.mem_append_left _ hp)).1 (hdj p hp)
    rw [List.length_replicate]
    refine key K 0 K x _ _ _ _ _ _ _ _ _ _ _ _ vs0 0 _ _ _ I F N2 hdj ?_ (sub (f, fnO fo) (.head _)) (sub (L' + 1, o1) (.tail _ (.tail _ (.tail _ (.head _))))) (sub (L' + 1 + 1, o2') (.tail _ (.tail _ (.head _)))) (sub (L' + 1 + 1 + 1, o3') (.tail _ (.head _))) hi2 List.length_replicate (Int.le_refl _) (by lia) (Int.le_refl _) (by lia) hx (by rw [show ((K : Int) - 0).toNat = K by lia]; exact xb) ?_
    · show dp + 1 + K < 940; lia
    intro vs' ep' h5 tk5 F5 N5 hi5
    have N : News g' L' h5 ((D, listOf vs'.toArray ep') :: (f, fnO fo) :: (L' + 1 + 1 + 1, o3') :: (L' + 1 + 1, o2') :: (L' + 1, o1) :: TT') := news_part N5 fun p hp => by
      simp only [List.cons_append, List.nil_append, List.mem_cons] at hp ⊢
      rcases hp with h | h | h | h | h | h <;> simp [h]
    clear N5 N2
    k_steps
    have k := lv.out1 (TT' := TT') F5 N (by walk_at "my ends")
    refine hQ _ _ _ _ _ _ k.1 k.2 TL' ?_
    rw [← hK]
    have e : upd (List.replicate K 0) 0 K (digs n.toNat ((K : Int) - 0).toNat x) = digs n.toNat K x := by
      rw [show ((K : Int) - 0).toNat = K by lia]
      simp [upd]
    rw [e] at hi5
    exact hi5
  · have N : News g' L' h₄ ((D, listOf vs0.toArray 0) :: (f, fnO fo) :: (L' + 1 + 1 + 1, o3') :: (L' + 1 + 1, o2') :: (L' + 1, o1) :: TT') := news_part N fun p hp => by
      simp only [List.mem_cons] at hp ⊢
      rcases hp with h | h | h | h | h | h <;> simp [h]
    have k := lv.out1 (TT' := TT') F N (by walk_at "my ends")
    refine hQ _ _ _ _ _ _ k.1 k.2 TL' ?_
    have hx0 : x = 0 := by
      first | assumption | lia
    have hK0 : K = 0 := by
      subst hx0
      rw [hK]
      exact Nat.div_eq_of_lt (by show 0 + n.toNat - 1 < n.toNat; lia)
    rw [← hK, hK0]
    rw [hK0] at hi2
    exact hi2
end

section
variable {w : World} {A : Around} {s : Shared} {Q : Flow → Shared → Prop} {env : Env}
/-- a for loop without exceptions, by an invariant over the whole state -/
theorem for_my {target : Expr} {it : Value} {body : List Stmt} (J : Nat → Shared → Prop)
    (turn : ∀ n s, J n s → wpAny (model PR w) A (pyNext it) (fun r s₁ => match r with
      | none => Q .next s₁
      | some v => wpAny (model PR w) A (assign target env v) (fun _ s₂ => wpAny (model PR w) A (execs body env) (fun f s₃ => match f with
          | .next | .cont => ∃ k, k < n ∧ J k s₃
          | .brk => Q .next s₃
          | .ret v => Q (.ret v) s₃) (fun _ _ => False) s₂) (fun _ _ => False) s₁) (fun _ _ => False) s)
    (n : Nat) (h : J n s) (ht : ∀ v, letOwnedTupleGo target it v = pure () := by intro _; rfl) :
    codeAny (model PR w) A (.forLoop target it body [] env) (fun r s' => match r with | .ok f => Q f s' | .error e => cameBackBy (model PR w) A env (fun _ _ => False) e s') s := by
  refine codeAny_forLoop J (fun n s hj => ?_) n h ht
  refine wpAny_mono (turn n s hj) (fun r s₁ h₁ => ?_) fun _ _ x => x.elim
  cases r with
  | none => exact wpAny_execs_nil h₁
  | some v =>
    refine wpAny_mono h₁ (fun _ s₂ h₂ => ?_) fun _ _ x => x.elim
    refine wpAny_mono h₂ (fun f s₃ h₃ => ?_) fun _ _ x => x.elim
    cases f <;> exact h₃
end
section
variable {g h h' : Heap} {L : Addr} {m : Str → Option Value}
theorem news_same {p : Addr × Obj} {o' : Obj} {rest : List (Addr × Obj)} (N : News g L h (p :: rest)) (hs : Heap.SameBut p.1 h h') (ho : h'.get? p.1 = some o') (hne : ∀ q ∈ rest, q.1 ≠ p.1) : News g L h' ((p.1, o') :: rest) := fun q hq => by
  rcases List.mem_cons.mp hq with rfl | hq
  · exact ⟨ho, (N p (.head _)).2⟩
  · exact ⟨(hs.2 q.1 (hne q hq)).trans (N q (.tail _ hq)).1, (N q (.tail _ hq)).2⟩
theorem fr_same {p : Addr × Obj} {rest : List (Addr × Obj)} (F : Fr g L h m) (N : News g L h (p :: rest)) (hs : Heap.SameBut p.1 h h') : Fr g L h' m := F.change hs (N p (.head _)).2.1 (N p (.head _)).2.2
theorem isF_it {o : Obj} {c : String} {v : Value} {i : Int} {t : Tok} (hc : o.cls = .type c) (hd : o.data = .fields #[v, .int i t]) : isF o = false := by
  unfold isF; rw [hd]
  show (o.cls == .none || false) = false
  rw [hc]; rfl
theorem fr_name (F : Fr g L h m) : ∃ m0, m0 = m ∧ Fr g L h m0 := ⟨m, rfl, F⟩
theorem news_ext {p : Addr × Obj} {rest : List (Addr × Obj)} (N : News g L h (p :: rest)) (hx : ∀ b o, b ≠ p.1 → h.get? b = some o → h'.get? b = some o) (hne : ∀ q ∈ rest, q.1 ≠ p.1) : News g L h' rest := fun q hq =>
  ⟨hx q.1 q.2 (hne q hq) (N q (.tail _ hq)).1, (N q (.tail _ hq)).2⟩
theorem fr_ext {p : Addr × Obj} {rest : List (Addr × Obj)} (F : Fr g L h m) (N : News g L h (p :: rest)) (hx : ∀ b o, b ≠ p.1 → h.get? b = some o → h'.get? b = some o) : Fr g L h' m := by
  obtain ⟨oL, a1, a2, hoL, a3⟩ := F.ns
  have n := (N p (.head _)).2
  refine ⟨⟨oL, a1, a2, hx L oL n.1.symm hoL, a3⟩, fun b x e => hx b x (fun q => ?_) (F.keep b x e), F.above⟩
  rw [q, n.2] at e; cases e
theorem ne_tab {news TT : List (Addr × Obj)} {c : Addr} {o : Obj} (N : News g L h news) (T : TabL TT) (hm : (c, o) ∈ news) (ho : isF o = false) (hs : ∀ p ∈ TT, p ∈ news) : ∀ p ∈ TT, p.1 ≠ c := fun p hp =>
  ne_news N (hs p hp) hm fun e => by
    have := T.f p hp
    rw [e] at this
    exact Bool.noConfusion (ho.symm.trans this)
end
theorem bits_range {b : Int} (hb : 1 ≤ b) : 2 ^ (intBits b - 1) ≤ b ∧ b < 2 ^ intBits b := by
  have h1 := intBits_le_iff.mp (Nat.le_refl (intBits b))
  have h2 : ¬ intBits b ≤ intBits b - 1 := by
    have : 1 ≤ intBits b := by
      unfold Builtin.Int.intBits
      rw [if_neg (by simp; lia)]; lia
    lia
  rw [intBits_le_iff] at h2
  rw [← kbt_cast, ← kbt_cast]
  lia
theorem map_norm (m0 : Str → Option Value) (u v z u' v' z' : Option Value) (y : Str) : (if y = Str.ofString "r" then u else if y = Str.ofString "q_digit" then v else if y = Str.ofString "a_digit" then z else
    if y = Str.ofString "r" then u' else if y = Str.ofString "q_digit" then v' else if y = Str.ofString "a_digit" then z' else m0 y) =
    (if y = Str.ofString "r" then u else if y = Str.ofString "q_digit" then v else if y = Str.ofString "a_digit" then z else m0 y) := by
  by_cases h1 : y = Str.ofString "r"
  · rw [if_pos h1, if_pos h1]
  · by_cases h2 : y = Str.ofString "q_digit"
    · simp only [if_neg h1, if_pos h2]
    · by_cases h3 : y = Str.ofString "a_digit"
      · simp only [if_neg h1, if_neg h2, if_pos h3]
      · simp only [if_neg h1, if_neg h2, if_neg h3]
theorem dm_step {X b d p Q r q' r' : Int} (h1 : X = Q * b + r) (h2 : r * p + d = q' * b + r') : d + p * X = (q' + p * Q) * b + r' := by
  subst h1; grind
/-- the names of the loop -/
abbrev dmM (r x1 x2 : Option Value) (m0 : Str → Option Value) : Str → Option Value := fun y => if y = Str.ofString "r" then r else if y = Str.ofString "q_digit" then x1 else if y = Str.ofString "a_digit" then x2 else m0 y
theorem dmM_set (r x1 x2 r' x1' x2' : Option Value) (m0 : Str → Option Value) : (fun y => if y = Str.ofString "r" then r' else if y = Str.ofString "q_digit" then x1' else if y = Str.ofString "a_digit" then x2' else dmM r x1 x2 m0 y) = dmM r' x1' x2' m0 := funext fun y => map_norm m0 r' x1' x2' r x1 x2 y
theorem dmM_st (r x1 x2 : Option Value) (m0 : Str → Option Value) (a b c : Value) : stM (stM (stM (dmM r x1 x2 m0) (Str.ofString "a_digit") a) (Str.ofString "q_digit") b) (Str.ofString "r") c = dmM (some c) (some b) (some a) m0 := by
  funext y
  dsimp only [stM, dmM]
  by_cases h1 : y = Str.ofString "r"
  · rw [if_pos h1, if_pos h1]
  · by_cases h2 : y = Str.ofString "q_digit"
    · simp only [if_neg h1, if_pos h2]
    · by_cases h3 : y = Str.ofString "a_digit"
      · simp only [if_neg h1, if_neg h2, if_pos h3]
      · simp only [if_neg h1, if_neg h2, if_neg h3]
theorem dmM_id (m0 : Str → Option Value) : dmM (m0 (Str.ofString "r")) (m0 (Str.ofString "q_digit")) (m0 (Str.ofString "a_digit")) m0 = m0 := by
  funext y
  dsimp only [dmM]
  by_cases h1 : y = Str.ofString "r"
  · rw [if_pos h1, h1]
  · by_cases h2 : y = Str.ofString "q_digit"
    · rw [if_neg h1, if_pos h2, h2]
    · by_cases h3 : y = Str.ofString "a_digit"
      · rw [if_neg h1, if_neg h2, if_pos h3, h3]
      · rw [if_neg h1, if_neg h2, if_neg h3]
inductive DmI (s : Shared) (g : Heap) (L D ql Ia : Addr) (ds : List Int) (nB K : Nat) (b : Int) (vs : List Value) (ep : Nat) (TT : List (Addr × Obj)) (m0 : Str → Option Value) (n : Nat) (s' : Shared) : Prop
  | mk (h : Heap) (tk : Nat) (oI : Obj) (qs : List Int) (qvs : List Value) (qe : Nat) (r : Int) (tr : Tok) (x1 x2 : Option Value) (hs : s' = { s with heap := h, toks := tk }) (hn : n ≤ K)
    (hcI : oI.cls = .type "list_reverseiterator") (hdI : oI.data = .fields #[.ref D, rawInt ((n : Int) - 1)]) (F : Fr g L h (dmM (some (.int r tr)) x1 x2 m0))
    (N : News g L h ((Ia, oI) :: (ql, listOf qvs.toArray qe) :: (D, listOf vs.toArray ep) :: TT)) (hq : IntsAre qvs qs) (hqd : Dig nB qs) (hql : qs.length + n = K) (hqv : vl nB qs.reverse = (vl nB (ds.drop n)).fdiv b) (hr : r = (vl nB (ds.drop n)).fmod b)
section
variable {w : World} {mg mb : Str → Option Value} {LO : List Str} {mean : ExcName → Option Value} {dp un : Nat} {fr : Option (List Env)} {gd : Option (List Code)} {s : Shared} {g : Heap} {L : Addr} {m : Str → Option Value} {own news TT HH : List (Addr × Obj)}
  {Q : Value → Shared → Prop} {E : Value → Shared → Prop}
local macro_rules | `(tactic| walk_at "call builtin:list.append") => `(tactic| (refine stop_out ?_))
local macro_rules | `(tactic| walk_at "call builtin:list.reverse") => `(tactic| (refine stop_out ?_))
local macro_rules | `(tactic| walk_at "pyIter ref") => `(tactic| (refine stop_out ?_))
local macro_rules | `(tactic| walk_at "exec For") => `(tactic| (refine stop_out ?_))
local macro_rules | `(tactic| walk_at "exec For Name Call cons nil") => `(tactic| (refine stop_out ?_))


theorem sp_dmpos {a b : Int} {ta tb : Tok} (I : Inv w mg mb LO mean g) (F : Fr g L s.heap m) (N : News g L s.heap news) (TL : TabL TT) (En : Ends own news TT) (hroom : dp < 780)
    (ha : 0 ≤ a) (hb : 1 ≤ b) (hb2 : intBits b ≤ 4500) (hlen : (intBits a + intBits b - 1) / intBits b ≤ 64)
    (hQ : ∀ p h' tk' t1 t2 TT', Fr g L h' m → News g L h' ((p, tup2 (.int (a.fdiv b) t1) (.int (a.fmod b) t2)) :: (own ++ TT')) → TabL TT' → Q (.ref p) { s with heap := h', toks := tk' }) :
    wpAny (model PR w) (mkA dp fr gd un) (call (.ref 70) [.int a ta, .int b tb]) Q E s := by
  refine enterF (f := 70) [(Str.ofString "b", .int b tb), (Str.ofString "a", .int a ta)] I F N TL En (by lia) rfl (by kernel_rfl) rfl (by decide) (locs rfl) rfl ?_
  clear I F N
  intro g' L' h₁ t₁ mL ML eL AL sL I F N _ lv
  have X := I.X
  obtain rfl := En.eq
  have hn1 : 1 ≤ intBits b := by
    unfold Builtin.Int.intBits
    rw [if_neg (by simp; lia)]; lia
  k_steps
  unfold Stop
  refine sp_i2d I (by assumption) (by assumption) TL .nil (by walk_at "my room") ha (by lia) (by lia) (by rw [Int.toNat_natCast]; exact hlen) ?_
  rw [Int.toNat_natCast]
  intro D vs ep h' tk' TT' F N TL' hi
  have hil := hi.length
  rw [digs_length] at hil
  k_steps
  unfold Stop
  refine wpAny_For ?_
  k_steps
  unfold Stop
  rename News _ _ _ _ => N1
  rename Fr _ _ _ _ => F1
  rename_i ql _ lD _ _ _ _ _ Ia hI lq
  obtain ⟨br1, br2⟩ := bits_range hb
  obtain ⟨nB, hnB⟩ : ∃ nB : Nat, nB = intBits b := ⟨_, rfl⟩
  obtain ⟨K, hK⟩ : ∃ K : Nat, K = (intBits a + intBits b - 1) / intBits b := ⟨_, rfl⟩
  obtain ⟨ds, hds⟩ : ∃ ds, ds = digs nB K a := ⟨_, rfl⟩
  rw [← hnB] at br1 br2 hn1 hb2 hi
  rw [hnB, ← hK, ← hnB] at hi
  rw [← hK] at hil hlen
  rw [← hds] at hi
  have hdl : ds.length = K := by rw [hds, digs_length]
  have hdd : Dig nB ds := by rw [hds]; exact digs_dig _ _ _
  have hva : vl nB ds = a := by
    rw [hds]
    refine vl_digs _ _ _ ha ?_
    have h1 := intBits_le_iff.mp (Nat.le_refl (intBits a))
    have h2 : intBits a ≤ nB * K := by
      rw [hK, ← hnB]
      have := Nat.div_add_mod (intBits a + nB - 1) nB
      have h3 := Nat.mod_lt (intBits a + nB - 1) (show 0 < nB by lia)
      lia
    have h3 : (2 : Nat) ^ intBits a ≤ 2 ^ (nB * K) := Nat.pow_le_pow_right (by decide) h2
    rw [← kbt_cast]
    lia
  have hb0 : 0 < b := by lia
  have nqI : @LT.lt Nat _ ql Ia := lq.1
  have nDI : @LT.lt Nat _ D Ia := lq.2.1
  have nDq : @LT.lt Nat _ D ql := lD.1
  obtain ⟨m0, hm0, F0⟩ := fr_name F1
  have hrest : ∀ {h : Heap} {oI oq : Obj} {vs' : List Value} {ee : Nat}, News g' L' h ((Ia, oI) :: (ql, oq) :: (D, listOf vs'.toArray ee) :: TT') → isF oI = false → ∀ q ∈ (ql, oq) :: (D, listOf vs'.toArray ee) :: TT', q.1 ≠ Ia := fun N hF q hq => by
    rcases List.mem_cons.mp hq with rfl | hq
    · exact neN (a := ql) (by lia)
    · rcases List.mem_cons.mp hq with rfl | hq
      · exact neN (a := D) (by lia)
      · exact ne_tab N TL' (.head _) hF (fun p hp => .tail _ (.tail _ (.tail _ hp))) q hq
  refine wpAny_pyIter_revIter ⟨_, (N1 _ (.head _)).1, rfl, rfl⟩ ?_
  refine for_my (DmI s g' L' D ql Ia ds nB K b vs ep TT' m0) ?turn K ?init
  case init =>
    have e0 : vl nB (ds.drop K) = 0 := by rw [← hdl, List.drop_length]; rfl
    obtain ⟨t0, ht0⟩ : ∃ t0, m0 (Str.ofString "r") = some (.int 0 t0) := by subst hm0; exact ⟨_, rfl⟩
    refine ⟨hI, _, _, [], [], 0, 0, t0, m0 (Str.ofString "q_digit"), m0 (Str.ofString "a_digit"), rfl, Nat.le_refl _, rfl, ?_, ?_, N1, .nil, (fun _ h => (nomatch h)), by simp, ?_, ?_⟩
    · show Data.fields #[.ref D, rawInt ((vs.length : Int) - 1)] = _
      rw [hil]
    rotate_left
    · rw [e0]; simp [vl]
    · rw [e0]; simp
    · rw [← dmM_id m0, ht0] at F0
      exact F0
  case turn =>
    rintro n s' ⟨h, tk, oI, qs, qvs, qe, r, tr, x1, x2, rfl, hnK, hcI, hdI, F, N, hq, hqd, hql, hqv, hr⟩
    cases n with
    | zero =>
      refine wpAny_pyNext_rev_end rfl ⟨oI, (N _ (.head _)).1, hcI, by rw [hdI]; rfl⟩ ?_
      intro h2 hx2
      have hne := hrest N (isF_it hcI hdI)
      have F2 := fr_ext F N hx2
      have N2 := news_ext N hx2 hne
      subst hm0
      clear F N F0
      rw [List.drop_zero, hva] at hqv hr
      dsimp only
      k_steps
      unfold Stop
      have hqt : ∀ p ∈ (D, listOf vs.toArray ep) :: TT', p.1 ≠ ql := fun p hp => by
        rcases List.mem_cons.mp hp with rfl | hp
        · exact neN (a := D) (by lia)
        · exact ne_tab N2 TL' (.head _) rfl (fun p hp => .tail _ (.tail _ hp)) p hp
      have hqlen := hq.length
      refine kl_reverse F2 N2 (l := qvs.reverse) (by simp) (.head hqt) (by simp [sizeLine]; lia) ?_
      intro h3 F N
      clear F2 N2
      have hqr : IntsAre qvs.reverse qs.reverse := hq.reverse
      k_steps
      unfold Stop
      refine sp_d2i I F N TL' (.cons rfl (.cons rfl .nil)) (by walk_at "my room") (.head _) rfl rfl hqr (by simp; lia) (by lia) (by lia) (fun d hd => by rw [Int.toNat_natCast, ← hnB]; exact hqd d (List.mem_reverse.mp hd)) ?_
      rw [Int.toNat_natCast, ← hnB, hqv]
      intro h4 tk4 t4 TT2 F N TL2
      k_steps
      have k := lv.out1 (TT' := TT2) (by assumption) (by assumption) (by walk_at "my ends")
      rw [hr] at k
      exact hQ _ _ _ _ _ _ k.1 k.2 TL2
    | succ i =>
      have hdI' : oI.data = .fields #[.ref D, rawInt (i : Int)] := by rw [hdI]; simp
      have hik : i < vs.length := by lia
      refine wpAny_pyNext_rev_item (i := i) ⟨oI, (N _ (.head _)).1, hcI, hdI'⟩ (News.isList N (.tail _ (.tail _ (.head _)))) (x := vs[i]) (by simp [hik]) ?_
      intro h2 hit2 hs2
      obtain ⟨oI2, hoI2, hcI2, hdI2⟩ := hit2
      have hne := hrest N (isF_it hcI hdI)
      have F2 := fr_same F N hs2
      have N2 := news_same N hs2 hoI2 hne
      subst hm0
      clear F N F0
      obtain ⟨td, htd⟩ := hi.int_at i vs[i] (List.getElem?_eq_getElem hik)
      dsimp only
      rw [htd]
      refine wpAny_assign_Name (storeX_L F2 N2 ?_)
      intro h3 F N
      clear F2 N2
      have hid : i < ds.length := by lia
      obtain ⟨d, hd⟩ : ∃ d, d = ds.getD i 0 := ⟨_, rfl⟩
      have hdm : d ∈ ds := by rw [hd, List.getD_eq_getElem?_getD, List.getElem?_eq_getElem hid]; exact List.getElem_mem hid
      obtain ⟨hd0, hd1⟩ := hdd d hdm
      have hdrop : ds.drop i = d :: ds.drop (i + 1) := by
        rw [List.drop_eq_getElem_cons hid, hd, List.getD_eq_getElem?_getD, List.getElem?_eq_getElem hid]; rfl
      have r0 : 0 ≤ r := by rw [hr]; exact Int.fmod_nonneg_of_pos _ hb0
      have r1 : r < b := by rw [hr]; exact Int.fmod_lt_of_pos _ hb0
      have rb : intBits r ≤ 4500 := Nat.le_trans (bits_lt r0 (Int.lt_trans r1 br2)) (by lia)
      rw [← hd] at F
      have P := p2pos nB
      have c0 : 0 ≤ r * 2 ^ nB + d := by have := Int.mul_nonneg r0 (Int.le_of_lt P); lia
      have c1 : r * 2 ^ nB + d < b * 2 ^ nB := by
        have : (r + 1) * 2 ^ nB ≤ b * 2 ^ nB := Int.mul_le_mul_of_nonneg_right (by lia) (Int.le_of_lt P)
        rw [Int.add_mul, Int.one_mul] at this
        lia
      k_steps
      unfold Stop
      rw [Int.toNat_natCast, ← hnB]
      refine sp_div2 I F N TL' (.cons (isF_it hcI2 hdI2) (.cons rfl (.cons rfl .nil))) (by walk_at "my room") c0 (by lia) (by lia) (by rw [Int.toNat_natCast]; exact br1) (by rw [Int.toNat_natCast]; exact br2) (by rw [Int.toNat_natCast]; exact c1) ?_
      intro pt h4 tk4 t1 t2 F N
      k_steps
      unfold Stop
      rename Fr _ _ _ _ => F5
      rename News _ _ _ _ => N5
      rename_i u1 _ _ _ _ u2 _ _ _
      have hqt : ∀ p ∈ (D, listOf vs.toArray ep) :: TT', p.1 ≠ ql := fun p hp => by
        rcases List.mem_cons.mp hp with rfl | hp
        · exact neN (a := D) (by lia)
        · exact ne_tab N5 TL' (.tail _ (.tail _ (.head _))) rfl (fun p hp => .tail _ (.tail _ (.tail _ (.tail _ hp)))) p hp
      have hpt : pt ≠ ql := ne_news N5 (.head _) (.tail _ (.tail _ (.head _))) (fun e => by have := congrArg Obj.cls e; simp at this)
      have hqlen := hq.length
      refine append_K F5 N5 (.tail hpt (.tail (neN (a := Ia) (by lia)) (.head hqt))) ?_ (by simp [sizeLine]; lia)
      intro h6 F6 N6
      rw [List.push_toArray] at N6
      refine wpAny_execs_nil ?_
      dsimp only
      have q0 : 0 ≤ (r * 2 ^ nB + d).fdiv b := Int.fdiv_nonneg c0 (Int.le_of_lt hb0)
      have q1 : (r * 2 ^ nB + d).fdiv b < 2 ^ nB := by
        rw [Int.fdiv_eq_ediv_of_nonneg _ (Int.le_of_lt hb0)]
        exact Int.ediv_lt_of_lt_mul hb0 (by rw [Int.mul_comm (2 ^ nB) b]; exact c1)
      have y0 := Int.fmod_nonneg_of_pos (r * 2 ^ nB + d) hb0
      have y1 := Int.fmod_lt_of_pos (r * 2 ^ nB + d) hb0
      have y2 := Int.mul_fdiv_add_fmod (r * 2 ^ nB + d) b
      have y3 := Int.mul_fdiv_add_fmod (vl nB (ds.drop (i + 1))) b
      have fin := fdm (dm_step (X := vl nB (ds.drop (i + 1))) (b := b) (d := d) (p := 2 ^ nB) (Q := (vl nB (ds.drop (i + 1))).fdiv b) (r := r) (q' := (r * 2 ^ nB + d).fdiv b) (r' := (r * 2 ^ nB + d).fmod b)
        (by rw [hr, Int.mul_comm]; exact y3.symm) (by rw [Int.mul_comm ((r * 2 ^ nB + d).fdiv b)]; exact y2.symm)) y0 y1
      have hvl : vl nB (ds.drop i) = d + 2 ^ nB * vl nB (ds.drop (i + 1)) := by rw [hdrop]; rfl
      refine ⟨i, by lia, h6, _, oI2, qs ++ [(r * 2 ^ nB + d).fdiv b], qvs ++ [.int ((r * 2 ^ nB + d).fdiv b) u1], qe + 1, (r * 2 ^ nB + d).fmod b, u2, some (.int ((r * 2 ^ nB + d).fdiv b) u1), some (.int d td), rfl, by lia, hcI2, hdI2, ?_, news_part N6 (fun p hp => .tail _ hp), hq.append (.cons _ _ .nil), ?_, by simp; lia, ?_, ?_⟩
      · exact fr_eq F6 (dmM_st _ _ _ _ _ _ _)
      · intro x hx
        rcases List.mem_append.mp hx with hx | hx
        · exact hqd x hx
        · rw [List.mem_singleton.mp hx]; exact ⟨q0, q1⟩
      · rw [hvl, fin.1, List.reverse_append]
        show (r * 2 ^ nB + d).fdiv b + 2 ^ nB * vl nB qs.reverse = _
        rw [hqv]
      · rw [hvl, fin.2]
end

section
variable {w : World} {mg mb : Str → Option Value} {LO : List Str} {mean : ExcName → Option Value} {dp un : Nat} {fr : Option (List Env)} {gd : Option (List Code)} {s : Shared} {g : Heap} {L : Addr} {m : Str → Option Value} {own news TT HH : List (Addr × Obj)}
  {Q : Value → Shared → Prop} {E : Value → Shared → Prop}
theorem sp_intdm_pos {a b : Int} {ta tb : Tok} (I : Inv w mg mb LO mean g) (F : Fr g L s.heap m) (N : News g L s.heap news) (TL : TabL TT) (En : Ends own news TT) (hroom : dp < 770)
    (ha : 0 ≤ a) (hb : 1 ≤ b) (hb2 : intBits b ≤ 4500) (hlen : (intBits a + intBits b - 1) / intBits b ≤ 64)
    (hQ : ∀ p h' tk' t1 t2 TT', Fr g L h' m → News g L h' ((p, tup2 (.int (a.fdiv b) t1) (.int (a.fmod b) t2)) :: (own ++ TT')) → TabL TT' → Q (.ref p) { s with heap := h', toks := tk' }) :
    wpAny (model PR w) (mkA dp fr gd un) (call (.ref 77) [.int a ta, .int b tb]) Q E s := by
  refine enterF (f := 77) [(Str.ofString "b", .int b tb), (Str.ofString "a", .int a ta)] I F N TL En (by lia) rfl (by kernel_rfl) rfl (by decide) (locs rfl) rfl ?_
  clear I F N
  intro g' L' h₁ t₁ mL ML eL AL sL I F N _ lv
  have X := I.X
  obtain rfl := En.eq
  have b1 : b ≠ 0 := by lia
  have b2 : ¬ b < 0 := by lia
  have a1 : ¬ a < 0 := by lia
  k_steps
  any_goals (exfalso; lia)
  unfold Stop
  refine sp_dmpos I (by assumption) (by assumption) TL .nil (by walk_at "my room") ha hb hb2 hlen ?_
  intro p h' tk' t1 t2 TT' F N TL'
  k_steps
  have k := lv.out1 (TT' := TT') F N .nil
  exact hQ _ _ _ _ _ _ k.1 k.2 TL'
theorem not_dm {a b : Int} (hb : 1 ≤ b) : Builtin.bitNot ((Builtin.bitNot a).fdiv b) = a.fdiv b ∧ b + Builtin.bitNot ((Builtin.bitNot a).fmod b) = a.fmod b := by
  rw [kbt_not, kbt_not, kbt_not]
  have hb0 : 0 < b := by lia
  have y0 := Int.fmod_nonneg_of_pos (-a - 1) hb0
  have y1 := Int.fmod_lt_of_pos (-a - 1) hb0
  have y2 := Int.mul_fdiv_add_fmod (-a - 1) b
  have := fdm (a := a) (b := b) (q := -(-a - 1).fdiv b - 1) (r := b + (-(-a - 1).fmod b - 1)) (by rw [Int.sub_mul, Int.neg_mul, Int.mul_comm]; lia) (by lia) (by lia)
  exact ⟨this.1.symm, this.2.symm⟩
theorem sp_intdm {a b : Int} {ta tb : Tok} (I : Inv w mg mb LO mean g) (F : Fr g L s.heap m) (N : News g L s.heap news) (TL : TabL TT) (En : Ends own news TT) (hroom : dp < 760)
    (hb : 1 ≤ b) (hb2 : intBits b ≤ 4500) (hlen : (intBits a + 1 + intBits b - 1) / intBits b ≤ 64)
    (hQ : ∀ p h' tk' t1 t2 TT', Fr g L h' m → News g L h' ((p, tup2 (.int (a.fdiv b) t1) (.int (a.fmod b) t2)) :: (own ++ TT')) → TabL TT' → Q (.ref p) { s with heap := h', toks := tk' }) :
    wpAny (model PR w) (mkA dp fr gd un) (call (.ref 77) [.int a ta, .int b tb]) Q E s := by
  by_cases ha : 0 ≤ a
  · exact sp_intdm_pos I F N TL En (by lia) ha hb hb2 (Nat.le_trans (Nat.div_le_div_right (by lia)) hlen) hQ
  refine enterF (f := 77) [(Str.ofString "b", .int b tb), (Str.ofString "a", .int a ta)] I F N TL En (by lia) rfl (by kernel_rfl) rfl (by decide) (locs rfl) rfl ?_
  clear I F N
  intro g' L' h₁ t₁ mL ML eL AL sL I F N _ lv
  have X := I.X
  obtain rfl := En.eq
  have b1 : b ≠ 0 := by lia
  have b2 : ¬ b < 0 := by lia
  have a1 : a < 0 := by lia
  k_steps
  any_goals (exfalso; lia)
  unfold Stop
  have hna : 0 ≤ Builtin.bitNot a := by rw [kbt_not]; lia
  have hnb : intBits (Builtin.bitNot a) ≤ intBits a + 1 := by
    rw [kbt_not]
    have := intBits_sub_le (x := -a) (y := 1) (m := intBits a) (n := 0 + 1) (intBits_neg_le (Nat.le_refl _)) (by decide)
    have h2 : intBits (-a - 1) ≤ intBits a := intBits_le_of_natAbs (by lia) (Nat.le_refl _)
    lia
  refine sp_intdm_pos I (by assumption) (by assumption) TL .nil (by walk_at "my room") hna hb hb2 (Nat.le_trans (Nat.div_le_div_right (by lia)) hlen) ?_
  intro p h' tk' t1 t2 TT' F N TL'
  k_steps
  have k := lv.out1 (TT' := TT') (by assumption) (by assumption) (by walk_at "my ends")
  have k2 := k.2
  rw [(not_dm hb).1, (not_dm hb).2] at k2
  exact hQ _ _ _ _ _ _ k.1 k2 TL'
end

/-- 1 + B + .. + B^(n-1) -/
def rep (B : Int) : Nat → Int
  | 0 => 0
  | n + 1 => 1 + B * rep B n
theorem rep_mul (B : Int) : ∀ n : Nat, B ^ n - 1 = (B - 1) * rep B n
  | 0 => by simp [rep]
  | n + 1 => by
    have ih := rep_mul B n
    rw [rep, Int.pow_succ]
    generalize B ^ n = x at *
    generalize rep B n = y at *
    have : x = (B - 1) * y + 1 := by lia
    subst this
    grind
theorem summed_dm {number B : Int} {n : Nat} (hB : 2 ≤ B) : (number * (B ^ n - 1)).fdiv (B - 1) = number * rep B n ∧ (number * (B ^ n - 1)).fmod (B - 1) = 0 := by
  refine fdm ?_ (Int.le_refl _) (by lia)
  rw [rep_mul]
  grind
theorem bits_p2m {k : Nat} (h : 1 ≤ k) : intBits ((2 : Int) ^ k - 1) = k := by
  have h1 : intBits ((2 : Int) ^ k - 1) ≤ k := bits_lt (by have := p2pos k; lia) (by lia)
  have h2 : ¬ intBits ((2 : Int) ^ k - 1) ≤ k - 1 := by
    rw [intBits_le_iff]
    have e : (2 : Nat) ^ k = 2 * 2 ^ (k - 1) := by rw [← Nat.pow_succ', show (k - 1).succ = k by lia]
    have e2 := kbt_cast k
    have p : 0 < (2 : Nat) ^ (k - 1) := Nat.pow_pos (by decide)
    lia
  lia
section
variable {w : World} {mg mb : Str → Option Value} {LO : List Str} {mean : ExcName → Option Value} {dp un : Nat} {fr : Option (List Env)} {gd : Option (List Code)} {s : Shared} {g : Heap} {L : Addr} {m : Str → Option Value} {own news TT HH : List (Addr × Obj)}
  {Q : Value → Shared → Prop} {E : Value → Shared → Prop}
theorem sp_summed {number size wd : Int} {t1 t2 t3 : Tok} (I : Inv w mg mb LO mean g) (F : Fr g L s.heap m) (N : News g L s.heap news) (TL : TabL TT) (En : Ends own news TT) (hroom : dp < 750)
    (hs : 0 ≤ size) (hs2 : size ≤ 11) (hw : 6 ≤ wd) (hw2 : wd ≤ 4400) (hnum : intBits number ≤ wd.toNat * 12)
    (hQ : ∀ p h' tk' t1 t2 TT', Fr g L h' m → News g L h' ((p, tup2 (.int (number * rep (2 ^ wd.toNat) size.toNat) t1) (.int 0 t2)) :: (own ++ TT')) → TabL TT' → Q (.ref p) { s with heap := h', toks := tk' }) :
    wpAny (model PR w) (mkA dp fr gd un) (call (.ref 101) [.int number t1, .int size t2, .int wd t3]) Q E s := by
  refine enterF (f := 101) [(Str.ofString "width", .int wd t3), (Str.ofString "size", .int size t2), (Str.ofString "number", .int number t1)] I F N TL En (by lia) rfl (by kernel_rfl) rfl (by decide) (locs rfl) rfl ?_
  clear I F N
  intro g' L' h₁ t₁ mL ML eL AL sL I F N _ lv
  have X := I.X
  obtain rfl := En.eq
  have i1 : intBits (1 : Int) ≤ 1 := by decide
  obtain ⟨k, hk⟩ : ∃ k : Nat, k = wd.toNat := ⟨_, rfl⟩
  have P := p2pos k
  have P4 : (64 : Int) ≤ 2 ^ k := by
    rw [← kbt_cast]
    exact_mod_cast Nat.pow_le_pow_right (n := 2) (by decide) (show 6 ≤ k by lia)
  have iB : intBits ((1 : Int) * 2 ^ wd.toNat) ≤ k + 1 := by
    rw [Int.one_mul, ← hk, intBits_le_iff]
    have := kbt_cast k
    rw [Nat.pow_succ]
    have p : 0 < (2 : Nat) ^ k := Nat.pow_pos (by decide)
    lia
  have S1 : (intBits ((1 : Int) * 2 ^ wd.toNat) : Int) * size ≤ 2 ^ 27 := by
    have : (intBits ((1 : Int) * 2 ^ wd.toNat) : Int) * size ≤ 4500 * size := Int.mul_le_mul_of_nonneg_right (by lia) hs
    lia
  have eB : ((1 : Int) * 2 ^ wd.toNat) ^ size.toNat = 2 ^ (k * size.toNat) := by rw [Int.one_mul, ← hk, Int.pow_mul]
  have iBs : intBits (((1 : Int) * 2 ^ wd.toNat) ^ size.toNat - 1) ≤ k * 11 := by
    rw [eB]
    refine Nat.le_trans (bits_lt (k := k * size.toNat) (by have := p2pos (k * size.toNat); lia) (by lia)) ?_
    exact Nat.mul_le_mul (Nat.le_refl _) (by lia)
  have S2 : IntMulOk number (((1 : Int) * 2 ^ wd.toNat) ^ size.toNat - 1) := IntMulOk.of_le hnum iBs (by lia)
  have iP := intBits_mul_le hnum iBs
  k_steps
  any_goals (first | lia | assumption)
  unfold Stop
  have ib : intBits (1 * 2 ^ wd.toNat - 1) = k := by rw [Int.one_mul, ← hk]; exact bits_p2m (by lia)
  refine sp_intdm I (by assumption) (by assumption) TL .nil (by walk_at "my room") (by rw [Int.one_mul, ← hk]; lia) (by lia) ?_ ?_
  · rw [ib]
    refine Nat.le_trans (Nat.div_le_div_right (c := k) (show _ ≤ k * 25 by lia)) ?_
    rw [Nat.mul_div_cancel_left _ (by lia)]; lia
  rw [Int.one_mul, ← hk, (summed_dm (by lia)).1, (summed_dm (by lia)).2, hk]
  intro p h' tk' t1 t2 TT' F N TL'
  k_steps
  have k := lv.out1 (TT' := TT') F N .nil
  exact hQ _ _ _ _ _ _ k.1 k.2 TL'
end

/-- 1 where an allowed place bears the wanted sign -/
def plc (x y : Str) (ns : List Int) : List Int := (List.range x.length).map fun (k : Nat) => if (k : Int) ∈ ns ∧ Txt.item x (k : Int) = y then 1 else 0
theorem plc_dig {x y : Str} {ns : List Int} {n : Nat} (hn : 1 ≤ n) : Dig n (plc x y ns) := fun d hd => by
  obtain ⟨k, _, rfl⟩ := List.mem_map.mp hd
  have : (2 : Int) ≤ 2 ^ n := by
    rw [← kbt_cast]
    exact_mod_cast Nat.pow_le_pow_right (n := 2) (by decide) hn
  split <;> constructor <;> lia
theorem plc_length (x y : Str) (ns : List Int) : (plc x y ns).length = x.length := by simp [plc]
section
variable {w : World} {mg mb : Str → Option Value} {LO : List Str} {mean : ExcName → Option Value} {dp un : Nat} {fr : Option (List Env)} {gd : Option (List Code)} {s : Shared} {g : Heap} {L : Addr} {m : Str → Option Value} {own news TT HH : List (Addr × Obj)}
  {Q : Value → Shared → Prop} {E : Value → Shared → Prop}
theorem sp_places {x y : Str} {a : Addr} {o : Obj} {ep : Nat} {vs : List Value} {ns : List Int} {wd : Int} {t1 t2 t3 : Tok} (I : Inv w mg mb LO mean g) (F : Fr g L s.heap m) (N : News g L s.heap news) (TL : TabL TT) (En : Ends own news TT) (hroom : dp < 750)
    (ho : (a, o) ∈ own) (hc : o.cls = .type "list") (hd : o.data = .seq vs.toArray ep) (hi : IntsAre vs ns) (hlen : ns.length ≤ 64) (hx : x.length ≤ 11) (hw : 1 ≤ wd) (hw2 : wd ≤ 4400)
    (hQ : ∀ h' tk' t TT', Fr g L h' m → News g L h' (own ++ TT') → TabL TT' → Q (.int (vl wd.toNat (plc x y ns)) t) { s with heap := h', toks := tk' }) :
    wpAny (model PR w) (mkA dp fr gd un) (call (.ref 94) [.str x t1, .str y t2, .ref a, .int wd t3]) Q E s := by
  refine enterC (f := 94) I F N TL En (by lia) rfl (by kernel_rfl) rfl (stM (fun _ => none) (Str.ofString "width") (.int wd t3)) (fun _ => rfl) rfl (by decide +kernel) ?_
  clear I F N
  intro g' L' h₁ tk cells mL ML eL AL sL I F N Y hown lv
  have X := I.X
  obtain rfl := En.eq
  obtain ⟨o3, o2, o1, he, d3, d2, d1⟩ := CellsAre.three Y
  subst he
  clear Y
  have hl : g'.IsList a vs.toArray := ⟨o, hown _ ho, hc, ep, hd⟩
  k_steps
  unfold Stop
  rename IntsAre ys _ => hI8
  have hI : IntsAre ys (plc x y ns) := by
    refine cast (congrArg (IntsAre ys) ?_) hI8
    unfold plc rangeKs
    rw [List.map_map, show ((x.length : Int) - 0).toNat = x.length by lia]
    refine List.map_congr_left fun k _ => ?_
    have e1 : (ns.any fun x => x == (k : Int)) = true ↔ (k : Int) ∈ ns := by
      rw [List.any_eq_true]
      exact ⟨fun ⟨z, hz, e⟩ => by rwa [← beq_iff_eq.mp e], fun h => ⟨_, h, beq_self_eq_true _⟩⟩
    have e2 : (Txt.item x (k : Int)).length = 1 := rfl
    simp only [Function.comp, Int.zero_add, e2]
    by_cases h1 : (k : Int) ∈ ns
    · have h2 := e1.mpr h1
      by_cases h3 : Txt.item x (k : Int) = y
      · simp [h1, h2, h3]
      · simp [h1, h2, h3]
    · have h2 : (ns.any fun x => x == (k : Int)) = false := by
        cases h : (ns.any fun x => x == (k : Int)) with
        | false => rfl
        | true => exact absurd (e1.mp h) h1
      simp [h1, h2]
  have hlen2 := plc_length x y ns
  rename Fr _ _ _ _ => F2
  rename News _ _ _ _ => N2
  refine sp_d2i I F2 N2 TL (.cons rfl (.cons (isF_cell d3) (.cons (isF_cell d2) (.cons (isF_cell d1) .nil)))) (by walk_at "my room") (.head _) rfl rfl hI (by lia) hw (by lia) (plc_dig (by lia)) ?_
  intro h' tk' t TT' F N TL'
  k_steps
  have k := lv.out (TT' := TT') F N (.cons rfl (.cons (isF_cell d3) (.cons (isF_cell d2) (.cons (isF_cell d1) .nil))))
  exact hQ _ _ _ _ k.1 k.2 TL'
end

section
variable {g : Heap} {L : Addr} {h : Heap} {m : Str → Option Value}
theorem isF_seq {o : Obj} {its : Array Value} {ep : Nat} (h : o.data = .seq its ep) : isF o = false := by unfold isF; rw [h]
theorem news_list {news : List (Addr × Obj)} {D : Addr} {its : Array Value} (F : Fr g L h m) (N : News g L h news) (hg : g.get? D = none) (hl : h.IsList D its) : ∃ o ep, News g L h ((D, o) :: news) ∧ o.cls = .type "list" ∧ o.data = .seq its ep := by
  obtain ⟨o, ho, hc, ep, hd⟩ := hl
  refine ⟨o, ep, fun p hp => ?_, hc, hd⟩
  rcases List.mem_cons.mp hp with rfl | hp
  · refine ⟨ho, fun e => ?_, hg⟩
    obtain ⟨oL, es, ep', hL, hLd, _⟩ := F.ns
    have e' : D = L := e
    rw [e', hL] at ho
    cases ho
    rw [hd] at hLd; cases hLd
  · exact N p hp
end
def escA : Int → List Int → List Int
  | e, [] => [e]
  | e, b :: bs => e :: escA (if b = 1 ∧ e = 0 then 1 else 0) bs
theorem escA_length : ∀ (bs : List Int) (e : Int), (escA e bs).length = bs.length + 1
  | [], _ => rfl
  | b :: bs, e => by rw [escA, List.length_cons, escA_length bs, List.length_cons]
def tkE (n : Nat) : Int := ((rangeKs 0 (Int.fdiv (n : Int) 2 + 1 - 0).toNat).map fun k => (4 : Int) ^ k.toNat).sum
def tkB (n : Nat) (S : Int) : Int := Builtin.bitAnd (Builtin.bitAnd S (Builtin.bitNot (tkE n))) (Builtin.bitNot (S * 2 ^ Int.toNat 1))
def tkV (n : Nat) (S : Int) : Int := Builtin.bitAnd (Builtin.bitXor (tkE n) ((tkB n S + S) * 2 ^ Int.toNat 1)) (S * 2 ^ Int.toNat 1)
def tkOk (n : Nat) (S : Int) : Bool := decide (0 ≤ tkB n S + S) && decide (tkB n S + S < 2 ^ 13) && decide (0 ≤ tkV n S) && decide (tkV n S < 2 ^ (n + 1)) && decide (digs 1 (intBits (tkV n S)) (tkV n S) ++ List.replicate (n + 1 - intBits (tkV n S)) 0 = escA 0 (digs 1 n S))
theorem tk_all : (List.range 12).all (fun n => (List.range (2 ^ n)).all fun S => tkOk n (S : Int)) = true := by decide +kernel
theorem tk_ok {n : Nat} {S : Int} (hn : n ≤ 11) (h0 : 0 ≤ S) (h1 : S < 2 ^ n) : (0 ≤ tkB n S + S ∧ tkB n S + S < 2 ^ 13) ∧ (0 ≤ tkV n S ∧ tkV n S < 2 ^ (n + 1)) ∧ digs 1 (intBits (tkV n S)) (tkV n S) ++ List.replicate (n + 1 - intBits (tkV n S)) 0 = escA 0 (digs 1 n S) := by
  have h := List.all_eq_true.mp tk_all n (List.mem_range.mpr (by lia))
  have h2 : S.toNat < 2 ^ n := by
    have : ((S.toNat : Nat) : Int) < ((2 ^ n : Nat) : Int) := by rw [Int.toNat_of_nonneg h0]; exact_mod_cast h1
    exact_mod_cast this
  have h3 := List.all_eq_true.mp h S.toNat (List.mem_range.mpr h2)
  rw [Int.toNat_of_nonneg h0] at h3
  simp only [tkOk, Bool.and_eq_true, decide_eq_true_eq] at h3
  obtain ⟨⟨⟨⟨a, b⟩, c⟩, d⟩, e⟩ := h3
  exact ⟨⟨a, b⟩, ⟨c, d⟩, e⟩
theorem digs_vl (n : Nat) : ∀ (l : List Int), Dig n l → digs n l.length (vl n l) = l
  | [], _ => rfl
  | d :: l, h => by
    have hd := h d (.head _)
    have ih := digs_vl n l fun x hx => h x (.tail _ hx)
    have hp : (0 : Int) < 2 ^ n := Int.pow_pos (by decide)
    rw [List.length_cons, digs, vl]
    rw [show (d + 2 ^ n * vl n l) % 2 ^ n = d by rw [Int.add_mul_emod_self_left]; exact Int.emod_eq_of_lt hd.1 hd.2]
    rw [show (d + 2 ^ n * vl n l) / 2 ^ n = vl n l by rw [Int.add_mul_ediv_left _ _ (by lia), Int.ediv_eq_zero_of_lt hd.1 hd.2, Int.zero_add]]
    rw [ih]
section
variable {w : World} {mg mb : Str → Option Value} {LO : List Str} {mean : ExcName → Option Value} {dp un : Nat} {fr : Option (List Env)} {gd : Option (List Code)} {s : Shared} {g : Heap} {L : Addr} {m : Str → Option Value} {own news TT HH : List (Addr × Obj)}
  {Q : Value → Shared → Prop} {E : Value → Shared → Prop}
local macro_rules | `(tactic| walk_at "binaryOp Mult ref int") => `(tactic| (refine stop_out ?_))
theorem sp_taken {x : Str} {t1 : Tok} (I : Inv w mg mb LO mean g) (F : Fr g L s.heap m) (N : News g L s.heap news) (TL : TabL TT) (En : Ends own news TT) (hroom : dp < 750) (hx : x.length ≤ 11)
    (hQ : ∀ D vs ep h' tk' TT', Fr g L h' m → News g L h' ((D, listOf vs.toArray ep) :: (own ++ TT')) → TabL TT' → IntsAre vs (escA 0 ((signs x).map fun a => if a = Str.ofString "\\" then 1 else 0)) → Q (.ref D) { s with heap := h', toks := tk' }) :
    wpAny (model PR w) (mkA dp fr gd un) (call (.ref 89) [.str x t1]) Q E s := by
  refine enterF (f := 89) [(Str.ofString "text", .str x t1)] I F N TL En (by lia) rfl (by kernel_rfl) rfl (by decide) (locs rfl) rfl ?_
  clear I F N
  intro g' L' h₁ t₁ mL ML eL AL sL I F N _ lv
  have X := I.X
  obtain rfl := En.eq
  k_steps
  unfold Stop
  rename News _ _ _ _ => N2
  rename Fr _ _ _ _ => F2
  rename Heap.IsList _ _ _ => hl2
  rename CarriedAll _ _ => hc2
  rename_i D1 ys1 h1 tk1 hg1 hp1
  obtain ⟨o1, ep1, N3, hoc1, hod1⟩ := news_list F2 N2 hg1 hl2
  have hi1 : IntsAre ys1 ((signs x).map fun a => if a = Str.ofString "\\" then 1 else 0) := by
    refine IntsAre.ofCarried (cast (congrArg (CarriedAll ys1) ?_) hc2)
    rw [List.map_map, filter_tt]
    refine List.map_congr_left fun a _ => ?_
    dsimp only [Function.comp]
    by_cases h : a = Str.ofString "\\"
    · rw [if_pos h, if_pos (by rw [h]; exact beq_self_eq_true _)]
    · rw [if_neg h, if_neg (by simpa using h)]
  obtain ⟨sl, hsl⟩ : ∃ sl : List Int, sl = (signs x).map fun a => if a = Str.ofString "\\" then 1 else 0 := ⟨_, rfl⟩
  rw [← hsl] at hi1
  have hsd : Dig 1 sl := fun d hd => by
    rw [hsl] at hd
    obtain ⟨a, _, rfl⟩ := List.mem_map.mp hd
    split <;> constructor <;> decide
  have hsn : sl.length = x.length := by rw [hsl, List.length_map]; exact signs_length ..; 
  refine sp_d2i I F2 N3 TL (.cons (isF_seq hod1) .nil) (by walk_at "my room") (.head _) hoc1 hod1 hi1 (by lia) (by decide) (by decide) hsd ?_
  intro h' tk' t TT' F N TL'
  have hS := vl_bounds hsd
  rw [hsn, Nat.one_mul] at hS
  obtain ⟨S, hSd⟩ : ∃ S, S = vl 1 sl := ⟨_, rfl⟩
  rw [← hSd] at hS
  have e1 : Int.toNat 1 = 1 := rfl
  rw [e1, ← hSd]
  clear N2 F2 N3 hl2 hc2 hg1 hp1
  obtain ⟨hB, hV, hEq⟩ := tk_ok hx hS.1 hS.2
  have hb0 : intBits S ≤ 11 := bits_lt hS.1 (Int.lt_of_lt_of_le hS.2 (by exact_mod_cast Nat.pow_le_pow_right (by decide) hx))
  have hb1 : intBits (tkB x.length S + S) ≤ 13 := bits_lt hB.1 hB.2
  have hb2 : intBits (tkV x.length S) ≤ x.length + 1 := bits_lt hV.1 hV.2
  k_steps
  · have h4 : intBits 4 = 3 := rfl
    rw [h4]
    have hf : Int.fdiv (x.length : Int) 2 = (x.length : Int) / 2 := Int.fdiv_eq_ediv_of_nonneg _ (by decide)
    rename _ < 0 + (((_ : Int).toNat : Nat) : Int) => hhi
    rw [hf] at hhi
    lia
  · change ((intBits (tkB x.length S + S) : Nat) : Int) + 1 ≤ 2 ^ 27
    lia
  unfold Stop
  rename News _ _ _ _ => N2
  rename Fr _ _ _ _ => F2
  refine sp_i2d (x := tkV x.length S) I F2 N2 TL' (.cons (isF_seq rfl) (.cons (isF_seq hod1) .nil)) (by walk_at "my room") hV.1 (by decide) (by decide) (by simp only [e1]; lia) ?_
  intro D2 vs2 ep2 h2 tk2 TT2 F N TL2 hi2
  clear N2 F2
  have e2 : (intBits (tkV x.length S) + Int.toNat 1 - 1) / Int.toNat 1 = intBits (tkV x.length S) := by rw [e1]; simp
  rw [e2, e1] at hi2
  obtain ⟨b, hb⟩ : ∃ b, b = intBits (tkV x.length S) := ⟨_, rfl⟩
  rw [← hb] at hi2 hb2 hEq
  obtain ⟨DL, hDL⟩ : ∃ DL, DL = digs 1 b (tkV x.length S) := ⟨_, rfl⟩
  have hDn : DL.length = b := by rw [hDL, digs_length]
  rw [← hDL] at hi2 hEq
  k_steps
  unfold Stop
  rename Fr _ _ _ _ => F1
  rename News _ _ _ _ => N1
  refine KMa.mul F1 N1 (vs := [Value.int 0 _]) (News.isList N1 (.head _)) (by lia) (by lia) (by simp; lia) rfl ?_
  intro D3 h₃ F3 N3 hlt
  have hz : (((x.length : Nat) : Int) + 1 - (DL.length : Int)).toNat = x.length + 1 - b := by lia
  refine add_lists_ints F3 N3 (News.isList N3 (.tail _ (.tail _ (.head _)))) (News.isList N3 (.head _)) hi2 (zeros_are _ _) ?_ (by rw [List.length_replicate]; unfold sizeLine; lia)
  intro h₄ F4 N4 hi4
  have hfin : DL ++ List.replicate (((x.length : Nat) : Int) + 1 - (DL.length : Int)).toNat 0 = escA 0 ((signs x).map fun a => if a = Str.ofString "\\" then 1 else 0) := by
    rw [hz, hEq, hSd, ← hsn, digs_vl 1 sl hsd, hsl]
  rw [hfin] at hi4
  obtain ⟨F5, N5⟩ := lv.out1 F4 N4 (.cons (isF_seq rfl) (.cons (isF_seq rfl) (.cons (isF_seq rfl) (.cons (isF_seq rfl) (.cons (isF_seq hod1) .nil)))))
  exact hQ _ _ 0 _ _ _ F5 N5 TL2 hi4
end

section
variable {w : World} {A : Around} {R : GenEnd} {Y : Protocol} {n : Nat} {s₀ : Shared} {c : Code} {fs : List Frame} {s : Shared} {env : Env}
  {K : Flow → Sem Fin} {H : Value → Sem Fin} {gd : Bool → Bool} {lv : List Value → List Value} {prog : Program}
theorem sg_stmt {st : Stmt} (h : wpAny (model prog w) (A.over c fs) (exec st env) (fun f s' => Seg (model prog w) A R Y n s₀ c (K f) fs s') (fun _ _ => False) s) :
    Seg (model prog w) A R Y n s₀ c ((exec st env).wrap K H gd lv) fs s := seg_wrap (wpAny_mono h (fun _ _ x => x) fun _ _ x => x.elim)
theorem sg_If {test : Expr} {body orelse : List Stmt} {pos : Pos}
    (h : wpAny (model prog w) (A.over c fs) (isTrue test env (eval test env)) (fun b s' => Seg (model prog w) A R Y n s₀ c ((execs (if b then body else orelse) env).wrap K H gd lv) fs s') (fun _ _ => False) s) :
    Seg (model prog w) A R Y n s₀ c ((exec (.If test body orelse pos) env).wrap K H gd lv) fs s := by
  rw [exec_If]
  show Seg _ A R Y n s₀ c (.at pos fun _ => ((isTrue test env (eval test env) >>= fun b => if b = true then execs body env else execs orelse env) : Sem Flow).wrap K H gd lv) fs s
  refine seg_at ?_
  rw [Sem.bind_eq_wrap', Sem.wrap_wrap]
  refine seg_wrap (wpAny_mono h (fun b s' hb => ?_) fun _ _ x => x.elim)
  cases b <;> exact hb
theorem sg_For {target iter : Expr} {body orelse : List Stmt} {pos : Pos} (hs : ∀ x, foldedSetIterable iter env x = pure x)
    (h : wpAny (model prog w) (A.over c fs) (eval iter env) (fun x s₁ => wpAny (model prog w) (A.over c fs) (pyIter x) (fun it s₂ =>
      ∀ p, Seg (model prog w) A R Y n s₀ (.forLoop target it body orelse env) ((model prog w).den (.forLoop target it body orelse env))
        (.ret (fun r => ((match r with | .ok f => (.pure f : Sem Flow) | .error e => .raise e).onRaise fun (x : Value) => do
        if (← field x 1) == Value.none then unsupported "frame.own-activation:exception-without-traceback"
        setFlight x env.frame).wrap K H gd lv) none (gd false) (lv []) c p [] :: fs) s₂) (fun _ _ => False) s₁) (fun _ _ => False) s) :
    Seg (model prog w) A R Y n s₀ c ((exec (.For target iter body orelse pos) env).wrap K H gd lv) fs s := by
  rw [exec_For]
  simp only [hs]
  refine seg_at ?_
  show Seg _ A R Y n s₀ c (Sem.wrap _ _ _ _ (eval iter env >>= _)) fs s
  rw [Sem.bind_eq_wrap', Sem.wrap_wrap]
  refine seg_wrap (wpAny_mono h (fun x s₁ h₁ => ?_) fun _ _ x => x.elim)
  refine seg_at ?_
  show Seg _ A R Y n s₀ c (Sem.wrap _ _ _ _ (holding [x] (pyIter x) >>= _)) fs s₁
  rw [Sem.bind_eq_wrap', Sem.wrap_wrap]
  refine seg_wrap (wpAny_holding (wpAny_mono h₁ (fun it s₂ h₂ => ?_) fun _ _ x => x.elim))
  exact seg_call h₂
theorem sg_forLoop {target : Expr} {it : Value} {body orelse : List Stmt}
    (h : wpAny (model prog w) (A.over (.forLoop target it body orelse env) fs) (pyNext it) (fun r s₁ => match r with
      | none => Seg (model prog w) A R Y n s₀ (.block orelse env) ((model prog w).den (.block orelse env)) fs s₁
      | some v => wpAny (model prog w) (A.over (.forLoop target it body orelse env) fs) (letOwnedTupleGo target it v) (fun _ s₂ =>
          wpAny (model prog w) (A.over (.forLoop target it body orelse env) fs) (assign target env v) (fun _ s₃ =>
            Seg (model prog w) A R Y n s₀ (.forLoop target it body orelse env) ((execs body env).wrap (fun f => match f with
              | .next | .cont => .pure (.again (.forLoop target it body orelse env))
              | .brk => .pure (.done .next)
              | .ret v => .pure (.done (.ret v))) (fun e => (do noteFrame e env; theTreesLotGoes e : Sem Unit).wrap (fun _ => .raise e) .raise id id) id id) fs s₃)
            (fun _ _ => False) s₂) (fun _ _ => False) s₁) (fun _ _ => False) s) :
    Seg (model prog w) A R Y n s₀ (.forLoop target it body orelse env) ((model prog w).den (.forLoop target it body orelse env)) fs s := by
  show Seg _ A R Y n s₀ _ ((forTurn target it body orelse env).onRaise (fun x => do noteFrame x env; theTreesLotGoes x)) fs s
  unfold forTurn
  rw [Sem.onRaise_eq_wrap, Sem.bind_eq_wrap', Sem.wrap_wrap]
  refine seg_wrap (wpAny_standAt ?_)
  show Seg _ A R Y n s₀ _ (Sem.wrap _ _ _ _ (_ >>= _)) fs s
  rw [Sem.bind_eq_wrap', Sem.wrap_wrap]
  refine seg_wrap (wpAny_onRaise (wpAny_mono h (fun r s₁ h₁ => ?_) fun _ _ x => x.elim))
  cases r with
  | none => exact seg_again rfl h₁
  | some v =>
    show Seg _ A R Y n s₀ _ (Sem.wrap _ _ _ _ (letOwnedTupleGo target it v >>= _)) fs s₁
    rw [Sem.bind_eq_wrap', Sem.wrap_wrap]
    refine seg_wrap (wpAny_mono h₁ (fun _ s₂ h₂ => ?_) fun _ _ x => x.elim)
    show Seg _ A R Y n s₀ _ (Sem.wrap _ _ _ _ (assign target env v >>= _)) fs s₂
    rw [Sem.bind_eq_wrap', Sem.wrap_wrap]
    refine seg_wrap (wpAny_mono h₂ (fun _ s₃ h₃ => ?_) fun _ _ x => x.elim)
    show Seg _ A R Y n s₀ _ (Sem.wrap _ _ _ _ (execs body env >>= _)) fs s₃
    rw [Sem.bind_eq_wrap', Sem.wrap_wrap]
    rw [Sem.wrap_congr (execs body env) _ _ (K' := fun f => match f with
            | .next | .cont => .pure (.again (.forLoop target it body orelse env))
            | .brk => .pure (.done .next)
            | .ret v => .pure (.done (.ret v))) (H' := (fun e => (do noteFrame e env; theTreesLotGoes e : Sem Unit).wrap (fun _ => .raise e) .raise id id))
        (fun f => by cases f <;> rfl)
        (fun e => by first | exact Sem.bind_eq_wrap _ _ | (show (do noteFrame e env; theTreesLotGoes e : Sem Unit).bind (fun _ => .raise e) = _; rw [Sem.bind_eq_wrap]))]
    exact h₃
end

section
variable {dp un : Nat} {fr : Option (List Env)} {gd : Option (List Code)}
theorem over_func {body : List Stmt} {env : Env} : (mkA dp fr gd un).over (.func body env) [] = (mkA dp fr gd un).deeper env := by
  cases fr <;> cases gd <;> rfl
theorem over_loop {target : Expr} {it : Value} {body orelse b2 : List Stmt} {env e2 : Env} {k : Result → Sem Fin} {g : Bool} {l : List Value} {p : Pos} :
    (mkA dp fr gd un).over (.forLoop target it body orelse env) [.ret k none g l (.func b2 e2) p []] = (mkA dp fr gd un).deeper e2 := by
  cases fr <;> cases gd <;> rfl
theorem over_block {orelse b2 : List Stmt} {env e2 : Env} {k : Result → Sem Fin} {g : Bool} {l : List Value} {p : Pos} :
    (mkA dp fr gd un).over (.block orelse env) [.ret k none g l (.func b2 e2) p []] = (mkA dp fr gd un).deeper e2 := by
  cases fr <;> cases gd <;> rfl
end
def allBut (g h : Heap) (X : Addr) : List (Addr × Obj) := (List.range h.objs.size).filterMap fun b => if b = X then none else match g.get? b with | some _ => none | none => (h.get? b).map fun o => (b, o)
theorem mem_allBut {g h : Heap} {X : Addr} {p : Addr × Obj} : p ∈ allBut g h X ↔ p.1 ≠ X ∧ g.get? p.1 = none ∧ h.get? p.1 = some p.2 := by
  unfold allBut
  rw [List.mem_filterMap]
  constructor
  · rintro ⟨b, hb, e⟩
    by_cases hx : b = X
    · rw [if_pos hx] at e; cases e
    · rw [if_neg hx] at e
      cases hg : g.get? b with
      | some _ => rw [hg] at e; cases e
      | none =>
        rw [hg] at e
        cases hh : h.get? b with
        | none => rw [hh] at e; cases e
        | some o => rw [hh] at e; cases e; exact ⟨hx, hg, hh⟩
  · rintro ⟨hx, hg, hh⟩
    refine ⟨p.1, List.mem_range.mpr (Heap.lt_size hh), ?_⟩
    rw [if_neg hx, hg, hh]; rfl
theorem news_allBut (g h : Heap) (L : Addr) : News g L h (allBut g h L) := fun p hp => by
  obtain ⟨a, b, c⟩ := mem_allBut.mp hp
  exact ⟨c, a, b⟩
theorem kept_allBut {g h h' : Heap} {L : Addr} {m m' : Str → Option Value} {pre : List (Addr × Obj)} (F0 : Fr g L h m') (F : Fr g L h' m) (N : News g L h' (pre ++ allBut g h L)) : ∀ b o, b ≠ L → h.get? b = some o → h'.get? b = some o := fun b o hb e => by
  cases hg : g.get? b with
  | some o' =>
    have e' := F0.keep b o' hg
    rw [e] at e'; cases e'
    exact F.keep b o hg
  | none => exact (N (b, o) (List.mem_append_right _ (mem_allBut.mpr ⟨hb, hg, e⟩))).1
def gout : Bool → Nat → List Str → List (Nat × Str)
  | esc, i, [] => if esc then [(i - 1, Str.ofString "\\")] else []
  | true, i, a :: as => (i, Str.ofString "\\" ++ a) :: gout false (i + 1) as
  | false, i, a :: as => if a = Str.ofString "\\" then gout true (i + 1) as else (i, a) :: gout false (i + 1) as
theorem draws_str {prog : Program} {w : World} {A : Around} (hh : A.handled = none) (it : Addr) (x : Str) (t : Tok) :
    Draws prog w A it [it] x.cps.size (fun i v => ∃ c u, x.cps[i]? = some c ∧ v = .str ⟨#[c]⟩ u) (fun i h => h.IsStrIter it (strIterType x) x t i) := by
  unfold strIterType
  split
  · exact Draws.strAscii hh it x t
  · exact Draws.strWide hh it x t
section
variable {w : World} {mg mb : Str → Option Value} {LO : List Str} {mean : ExcName → Option Value} {dp un : Nat} {fr : Option (List Env)} {gd : Option (List Code)} {s : Shared} {g : Heap} {L : Addr} {m : Str → Option Value} {own news TT : List (Addr × Obj)}
  {Q : Value → Shared → Prop} {E : Value → Shared → Prop}
def genO (k : Nat) (a b : Value) : Obj := { cls := .type "generator", data := .fields #[.int k 0, a, b] }
theorem enterG {f : Addr} {name qual : Str} {params : Arguments} {body : List Stmt} {scope : Scope} {dV kV doc pm cdv ct oc : Value} {an od : Option Addr} {osl : Array (Option Value)} {vals : List Value} {binds : List (Str × Value)} (rb : List (Str × Value))
    (I : Inv w mg mb LO mean g) (F : Fr g L s.heap m) (N : News g L s.heap news) (hroom : dp < 990)
    (ho : (KK w).lookup f = some ⟨oc, od, .func (fnOf name qual params body scope dV kV doc pm an cdv ct), osl⟩) (hcd : codeIn (KK w) cdv qual = true)
    (hbind : bindArgs (fnOf name qual params body scope dV kV doc pm an cdv ct) ⟨vals, []⟩ = pure binds) (hcell : ∀ x ∈ scope.names, x.2 ≠ .cell) (hloc : ∀ x ∈ binds, scope.names.lookup x.1 = some .local)
    (hrb : binds.reverse = rb)
    (h : ∀ oL a b h' tk', Fr g L h' m → News g L h' ((s.heap.objs.size + 1, genO s.gens.size a b) :: (s.heap.objs.size, oL) :: news) → Fr g s.heap.objs.size h' (lk rb) →
      Q (.ref (s.heap.objs.size + 1)) { s with heap := h', toks := tk', gens := s.gens.push (.fresh (.func body (envX qual scope s.heap.objs.size f cdv []))) })
    (hco : scope.isCoroutine = false := by rfl) (hgen : scope.isGenerator = true := by rfl) (hk : scope.kind = .function := by rfl) :
    wpAny (model PR w) (mkA dp fr gd un) (call (.ref f) vals) Q E s := by
  subst hrb
  have hr : (mkA dp fr gd un).depth < recursionLimit := by show dp < 1000; lia
  refine wpAny_call (codeAny_call_generator (fd := fnOf name qual params body scope dV kV doc pm an cdv ct) hr ((I.X.keeps F.keep) _ _ ho) rfl hco hgen rfl (codeRec_of (I.X.keeps F.keep) hcd) (wpAny_of_eq hbind (wpAny_newFunctionEnv hcell hloc (fun h₀ hns hsb => ⟨(I.T.nolimit.keeps F.keep).fresh _ hsb, ?_⟩) hk)))
  have hz : h₀.objs.size = s.heap.objs.size + 1 := by rw [hsb.1, Heap.size_push]
  have kp : ∀ b o, s.heap.get? b = some o → h₀.get? b = some o := fun b o e => hsb.extBut b o (Nat.ne_of_lt (Heap.lt_size e)) (Heap.get?_push_of_some _ e)
  obtain ⟨oL, hoL, hLd⟩ : ∃ oL, h₀.get? s.heap.objs.size = some oL ∧ True := by
    obtain ⟨o, es, ep, e, _⟩ := id hns
    exact ⟨o, e, trivial⟩
  have hLn : g.get? s.heap.objs.size = none := by
    cases hg : g.get? s.heap.objs.size with
    | none => rfl
    | some o => exact absurd (Heap.lt_size (F.keep _ _ hg)) (Nat.lt_irrefl _)
  have hLn1 : g.get? (s.heap.objs.size + 1) = none := by
    cases hg : g.get? (s.heap.objs.size + 1) with
    | none => rfl
    | some o => exact absurd (Heap.lt_size (F.keep _ _ hg)) (Nat.not_lt.mpr (Nat.le_succ _))
  obtain ⟨oK, es, ep, hoK, hK⟩ := F.ns
  have hLlt : @LT.lt Nat _ L s.heap.objs.size := Heap.lt_size hoK
  have key := h oL (.str name (s.toks + binds.length)) (.str qual (s.toks + binds.length + 1)) (h₀.push (genO s.gens.size (.str name (s.toks + binds.length)) (.str qual (s.toks + binds.length + 1)))) (s.toks + binds.length + 1 + 1)
    ⟨⟨oK, es, ep, Heap.get?_push_of_some _ (kp _ _ hoK), hK⟩, fun b o e => Heap.get?_push_of_some _ (kp _ _ (F.keep _ _ e)), F.above⟩ (fun p hp => by
      rcases List.mem_cons.mp hp with rfl | hp
      · refine ⟨?_, neN (a := s.heap.objs.size + 1) (by lia), hLn1⟩
        rw [← hz]; exact Heap.get?_push_size _ rfl
      · rcases List.mem_cons.mp hp with rfl | hp
        · exact ⟨Heap.get?_push_of_some _ hoL, neN (a := s.heap.objs.size) (by lia), hLn⟩
        · have n := N p hp
          exact ⟨Heap.get?_push_of_some _ (kp _ _ n.1), n.2.1, n.2.2⟩)
    ⟨hns.push _, fun b o e => Heap.get?_push_of_some _ (kp _ _ (F.keep _ _ e)), Nat.le_trans F.above (Nat.le_of_lt hLlt)⟩
  rw [← hz] at key
  exact key
end

def itc (o : Obj) : Bool := !isF o && (match o.data with | .fields _ => true | _ => false) && match o.cls with
  | .type c => c == "enumerate" || c == "str_ascii_iterator" || c == "str_iterator"
  | _ => false
theorem itc_str {o : Obj} {x : Str} {t : Tok} {i : Int} (h : o.cls = .type (strIterType x)) (hd : o.data = .fields #[.str x t, .int i 0]) : itc o = true := by
  unfold itc; rw [isF_it h hd, h, hd]
  unfold strIterType
  show (true && true && ((if x.cps.all (· < 128) then "str_ascii_iterator" else "str_iterator") == "enumerate" || (if x.cps.all (· < 128) then "str_ascii_iterator" else "str_iterator") == "str_ascii_iterator" || (if x.cps.all (· < 128) then "str_ascii_iterator" else "str_iterator") == "str_iterator")) = true
  by_cases c : x.cps.all (· < 128) = true
  · rw [if_pos c]; decide
  · rw [if_neg c]; decide
theorem itc_isF {o : Obj} (h : isF o = true) : itc o = false := by unfold itc; rw [h]; rfl
theorem itc_cls {o : Obj} {c : String} (h : o.cls = .type c) (hc : (c == "enumerate" || c == "str_ascii_iterator" || c == "str_iterator") = false) : itc o = false := by
  unfold itc; rw [h]; show (_ && (c == "enumerate" || c == "str_ascii_iterator" || c == "str_iterator")) = false; rw [hc, Bool.and_false]
theorem itc_dict {o : Obj} {es ep} (h : o.data = .dict es ep) : itc o = false := by
  unfold itc; rw [h]; simp
def KeptG (Lg : Addr) (h h' : Heap) : Prop := ∀ b o, b ≠ Lg → itc o = false → h.get? b = some o → h'.get? b = some o
def Keeps (g h : Heap) : Prop := ∀ b o, g.get? b = some o → h.get? b = some o
def GY (U : List (Nat × Str)) (g : Heap) (Lg : Addr) : Protocol := fun n s₀ v s' kap =>
  E7 fun (D : Addr) (u : Nat × Str) (t1 t2 : Tok) (h' : Heap) (tk' : Nat) (GO : List (Addr × Obj)) => C10 (U[U.length - 1 - n]? = some u) (v = .ref D) (s' = { s₀ with heap := h', toks := tk' }) (g.get? D = none) (D ≠ Lg) (h'.get? D = some (tup2 (.int (u.1 : Nat) t1) (.str u.2 t2))) (KeptG Lg s₀.heap h') (Keeps g h')
    (∀ p ∈ GO, h'.get? p.1 = some p.2 ∧ g.get? p.1 = none ∧ (p.1 = Lg ∨ itc p.2 = true)) (∀ s'' : Shared, Keeps g s''.heap → (∀ p ∈ GO, s''.heap.get? p.1 = some p.2) → kap (.send .none) s'')
def GR (g : Heap) (Lg : Addr) : GenEnd := fun n s₀ r s₁ => r = .ok (.ret .none) ∧ n = 0 ∧ ∃ h' tk', s₁ = { s₀ with heap := h', toks := tk' } ∧ KeptG Lg s₀.heap h' ∧ Keeps g h'
def gm (chv : Option Value) (pv : Value) (esc : Bool) (bm : Str → Option Value) : Str → Option Value := fun y => if y = Str.ofString "ch" then chv else if y = Str.ofString "pos" then some pv else if y = Str.ofString "escape" then some (.bool esc) else bm y
theorem gm2 {chv : Option Value} {pv v1 v2 : Value} {esc : Bool} {bm : Str → Option Value} : stM (stM (gm chv pv esc bm) (Str.ofString "pos") v1) (Str.ofString "ch") v2 = gm (some v2) v1 esc bm := funext fun y => by
  dsimp only [stM, gm]
  by_cases h1 : y = Str.ofString "ch"
  · simp only [if_pos h1]
  · by_cases h2 : y = Str.ofString "pos"
    · simp only [if_neg h1, if_pos h2]
    · simp only [if_neg h1, if_neg h2]
theorem gm3 {chv : Option Value} {pv v1 v2 : Value} {esc b : Bool} {bm : Str → Option Value} : stM (stM (stM (gm chv pv esc bm) (Str.ofString "pos") v1) (Str.ofString "ch") v2) (Str.ofString "escape") (.bool b) = gm (some v2) v1 b bm := funext fun y => by
  dsimp only [stM, gm]
  by_cases h1 : y = Str.ofString "ch"
  · subst h1; rfl
  · by_cases h2 : y = Str.ofString "pos"
    · subst h2; rfl
    · by_cases h3 : y = Str.ofString "escape"
      · simp only [if_neg h1, if_neg h2, if_pos h3]
      · simp only [if_neg h1, if_neg h2, if_neg h3]
theorem fr_map {g : Heap} {L : Addr} {h : Heap} {m m' : Str → Option Value} (F : Fr g L h m) (e : ∀ y, m y = m' y) : Fr g L h m' := (funext e : m = m') ▸ F
section
variable {g : Heap} {Lg En It : Addr} {x : Str} {t : Tok} {i : Nat}
theorem kg_step {s h h' : Heap} (K : KeptG Lg s h) (hE : ∃ old, IsEnum h En It i old) (hS : h.IsStrIter It (strIterType x) x t i) (hk : ∀ b o, b ∉ [En, It] → h.get? b = some o → h'.get? b = some o) : KeptG Lg s h' := fun b o hb hi e => hk b o (fun hb' => by
  rcases List.mem_cons.mp hb' with rfl | hb'
  · obtain ⟨old, hE⟩ := hE
    have := K b o hb hi e
    rw [hE] at this; cases this; cases hi
  · obtain rfl := List.mem_singleton.mp hb'
    have := K b o hb hi e
    obtain ⟨o', e', hc', hd'⟩ := hS
    rw [e'] at this; cases this
    rw [itc_str hc' hd'] at hi
    cases hi) (K b o hb hi e)
theorem fr_step {h h' : Heap} {m : Str → Option Value} (F : Fr g Lg h m) (hEL : En ≠ Lg) (hIL : It ≠ Lg) (hen : g.get? En = none) (hin : g.get? It = none) (hk : ∀ b o, b ∉ [En, It] → h.get? b = some o → h'.get? b = some o) : Fr g Lg h' m :=
  ⟨let ⟨o, es, ep, e, r⟩ := F.ns; ⟨o, es, ep, hk _ _ (by simp only [List.mem_cons, List.not_mem_nil, or_false, not_or]; exact ⟨hEL.symm, hIL.symm⟩) e, r⟩, fun b o e => hk _ _ (fun hb => by
    rcases List.mem_cons.mp hb with rfl | hb
    · rw [hen] at e; cases e
    · rw [List.mem_singleton.mp hb, hin] at e; cases e) (F.keep _ _ e), F.above⟩
/-- a word is yielded: what stands, and how it goes on -/
theorem gy_mk {U : List (Nat × Str)} {D : Addr} {n : Nat} {u : Nat × Str} {t1 t2 : Tok} {h₄ h5 : Heap} {tk : Nat} {m5 : Str → Option Value} {rest : List (Addr × Obj)} {s₀ : Shared} {kap : Resume → Shared → Prop}
    (hEL : En ≠ Lg) (hIL : It ≠ Lg) (hen : g.get? En = none) (hin : g.get? It = none) (F5 : Fr g Lg h5 m5) (N5 : News g Lg h5 ((D, tup2 (.int (u.1 : Nat) t1) (.str u.2 t2)) :: rest))
    (hE4 : ∃ old, IsEnum h₄ En It ((i : Nat) : Int) old) (hS4 : h₄.IsStrIter It (strIterType x) x t i) (K5 : ∀ b o, b ≠ Lg → h₄.get? b = some o → h5.get? b = some o) (K4 : KeptG Lg s₀.heap h₄) (hU : U[U.length - 1 - n]? = some u)
    (hk : ∀ s'' : Shared, Fr g Lg s''.heap m5 → (∃ old, IsEnum s''.heap En It ((i : Nat) : Int) old) → s''.heap.IsStrIter It (strIterType x) x t i → kap (.send .none) s'') : GY U g Lg n s₀ (.ref D) { s₀ with heap := h5, toks := tk } kap := by
  obtain ⟨old, hoE⟩ := hE4
  obtain ⟨oE, hoE1, hoE2⟩ : ∃ oE, h₄.get? En = some oE ∧ ∀ h' : Heap, h'.get? En = some oE → IsEnum h' En It ((i : Nat) : Int) old := ⟨_, hoE, fun _ e => e⟩
  have hEi : itc oE = true := by rw [hoE] at hoE1; cases hoE1; rfl
  obtain ⟨oI, hoI, hIc, hIr⟩ := hS4
  obtain ⟨oL5, es5, ep5, hoL5, hL5⟩ := F5.ns
  have hgL : g.get? Lg = none := by
    cases hg : g.get? Lg with
    | none => rfl
    | some o => exact absurd (Heap.lt_size hg) (Nat.not_lt.mpr F5.above)
  refine ⟨D, u, t1, t2, h5, _, [(Lg, oL5), (En, oE), (It, oI)], hU, rfl, rfl, (N5 _ (.head _)).2.2, (N5 _ (.head _)).2.1, (N5 _ (.head _)).1, fun b o hb hi e => K5 b o hb (K4 b o hb hi e), F5.keep, ?_, ?_⟩
  · intro p hp'
    rcases List.mem_cons.mp hp' with rfl | hp'
    · exact ⟨hoL5, hgL, .inl rfl⟩
    · rcases List.mem_cons.mp hp' with rfl | hp'
      · exact ⟨K5 _ _ hEL hoE1, hen, .inr hEi⟩
      · obtain rfl := List.mem_singleton.mp hp'
        exact ⟨K5 _ _ hIL hoI, hin, .inr (itc_str hIc hIr)⟩
  · intro s'' hks hgo
    exact hk s'' ⟨⟨oL5, es5, ep5, hgo _ (.head _), hL5⟩, hks, F5.above⟩ ⟨old, hoE2 _ (hgo _ (.tail _ (.head _)))⟩ ⟨oI, hgo _ (.tail _ (.tail _ (.head _))), hIc, hIr⟩
theorem at_len {pre : List (Nat × Str)} {u : Nat × Str} {l : List (Nat × Str)} : (pre ++ u :: l)[(pre ++ u :: l).length - 1 - l.length]? = some u := by
  have e : (pre ++ u :: l).length - 1 - l.length = pre.length := by rw [List.length_append, List.length_cons]; lia
  rw [e, List.getElem?_append_right (Nat.le_refl _), Nat.sub_self]; rfl
end
section
variable {w : World} {mg mb : Str → Option Value} {LO : List Str} {mean : ExcName → Option Value} {dp un : Nat} {fr : Option (List Env)} {gd : Option (List Code)} {s : Shared} {g : Heap} {L : Addr} {m : Str → Option Value} {own news TT : List (Addr × Obj)}
  {Q : Value → Shared → Prop} {E : Value → Shared → Prop}
local macro_rules | `(tactic| walk_at "call type:enumerate") => `(tactic| (refine stop_out ?_))
set_option pp.deepTerms false in
set_option pp.deepTerms.threshold 8 in
theorem sp_iter {x : Str} {t : Tok} (I : Inv w mg mb LO mean g) (F : Fr g L s.heap m) (N : News g L s.heap news) (hroom : dp < 900)
    (hQ : ∀ a Lg oL nm qn h' tk' gs, a ≠ Lg → (∀ p ∈ news, p.1 ≠ Lg ∧ p.1 ≠ a) → Fr g L h' m → News g L h' ((a, genO s.gens.size nm qn) :: (Lg, oL) :: news) → gs.bare = true →
      (∀ dp' fr' gd' un', dp' < 950 → ∀ s'' : Shared, Keeps g s''.heap → s''.heap.get? Lg = some oL → gs.Goes (model PR w) (mkA dp' fr' gd' un') (GR g Lg) (GY (gout false 0 (signs x)) g Lg) (gout false 0 (signs x)).length (.send .none) s'') →
      Q (.ref a) { s with heap := h', toks := tk', gens := s.gens.push gs }) :
    wpAny (model PR w) (mkA dp fr gd un) (call (.ref 21) [.str x t]) Q E s := by
  refine enterG (f := 21) [(Str.ofString "addr", .str x t)] I F N (by lia) rfl (by kernel_rfl) rfl (by decide) (locs rfl) rfl ?_
  intro oL nm qn h' tk' F' N' FG
  refine hQ _ _ oL nm qn h' tk' _ (neN (a := s.heap.objs.size + 1) (by lia)) (fun p hp => by
    have hlt : @LT.lt Nat _ p.1 s.heap.objs.size := Heap.lt_size (N p hp).1
    exact ⟨neN (a := p.1) (by lia), neN (a := p.1) (by lia)⟩) F' N' rfl ?_
  intro dp' fr' gd' un' hdp s₀ hk hLg
  have hLo := (N' _ (.tail _ (.head _))).1
  obtain ⟨Lg, hLgd⟩ : ∃ Lg, Lg = s.heap.objs.size := ⟨_, rfl⟩
  rw [← hLgd] at hLg FG hLo ⊢
  have F0 : Fr g Lg s₀.heap _ := ⟨by
    obtain ⟨o, es, ep, e, r⟩ := FG.ns
    have e' : some oL = some o := hLo.symm.trans e
    cases e'
    exact ⟨_, es, ep, hLg, r⟩, hk, FG.above⟩
  have N0 := news_allBut g s₀.heap Lg
  obtain ⟨RR, hRR⟩ : ∃ RR, RR = allBut g s₀.heap Lg := ⟨_, rfl⟩
  rw [← hRR] at N0
  have kp0 : ∀ {h' : Heap} {m' : Str → Option Value}, Fr g Lg h' m' → News g Lg h' RR → ∀ b o, b ≠ Lg → s₀.heap.get? b = some o → h'.get? b = some o := fun F N => kept_allBut F0 F (pre := []) (by rw [← hRR]; exact N)
  clear F N F' N' FG hQ hLo
  have X := I.X
  refine ⟨rfl, seg_func (seg_execs_cons (sg_stmt ?_))⟩
  rw [over_func]
  k_steps
  refine seg_execs_cons (sg_stmt ?_)
  rw [over_func]
  k_steps
  refine seg_execs_cons (sg_For (fun _ => rfl) ?_)
  rw [over_func]
  k_steps
  unfold Stop
  rename Fr _ _ _ _ => F1
  rename News _ _ _ _ => N1
  refine call_enumerate_str ?_
  rename_i ha _ uv m1 s1 h1 _ m2 s2
  intro h₂ hE hSI hsz hk2
  have K1 := kp0 F1 N1
  dsimp +zetaDelta only at hE hSI hsz hk2
  have F2 : Fr g Lg h₂ _ := ⟨let ⟨o, es, ep, e, r⟩ := F1.ns; ⟨o, es, ep, hk2 _ _ e, r⟩, fun b o e => hk2 _ _ (F1.keep _ _ e), F1.above⟩
  have hLI : @LT.lt Nat _ Lg h1.objs.size := let ⟨o, es, ep, e, r⟩ := F1.ns; Heap.lt_size e
  have hI0 : ∀ b : Addr, @LE.le Nat _ h1.objs.size b → g.get? b = none := fun b hb => by
    cases hg : g.get? b with
    | none => rfl
    | some o => exact absurd (Heap.lt_size (F1.keep _ _ hg)) (Nat.not_lt.mpr hb)
  have K2 : KeptG Lg s₀.heap h₂ := fun b o hb _ e => hk2 _ _ (K1 b o hb e)
  clear K1 F1 N1 hk2 hsz hRR kp0
  show wpAny _ _ (pyIter (.ref (h1.objs.size + 1))) _ _ { s₀ with heap := h₂, toks := _ }
  have hin : g.get? (h1.objs.size) = none := hI0 _ (Nat.le_refl _)
  have hen : g.get? (h1.objs.size + 1) = none := hI0 _ (Nat.le_succ _)
  obtain ⟨It, hIt⟩ : ∃ It : Nat, It = h1.objs.size := ⟨_, rfl⟩
  rw [← hIt] at hE hSI hLI hin hen ⊢
  clear hI0 hIt
  obtain ⟨En, hEn⟩ : ∃ En : Nat, En = It + 1 := ⟨_, rfl⟩
  rw [← hEn] at hE hen ⊢
  have hEI : En ≠ It := by lia
  have hEL : En ≠ Lg := by lia
  have hIL : It ≠ Lg := by lia
  clear hEn hLI
  refine (WalksT.enumerateD (draws_str rfl It x t) En hEI (by simpa using hEI) (by simp)).self 0 _ _ _ ⟨⟨_, hE⟩, hSI⟩ ?_
  intro p
  obtain ⟨bm, hbm⟩ : ∃ bm : Str → Option Value, Fr g Lg h₂ (gm none (.int 0 uv) false bm) := ⟨_, fr_map F2 fun y => by
    unfold gm
    dsimp +zetaDelta only [stM]
    by_cases h1 : y = Str.ofString "escape"
    · rw [if_pos h1, if_neg (by rw [h1]; decide), if_neg (by rw [h1]; decide)]; first | done | rw [if_pos h1]
    · rw [if_neg h1]
      by_cases h2 : y = Str.ofString "pos"
      · rw [if_pos h2, if_neg (by rw [h2]; decide)]; first | done | rw [if_pos h2]
      · rw [if_neg h2]
        by_cases h3 : y = Str.ofString "ch"
        · rw [if_pos h3, h3]; rfl
        · rw [if_neg h3]; first | done | rw [if_neg h2]⟩
  have key : ∀ (tq : Nat) (C : Code) (D : Sem Fin) (fs : List Frame), (∀ (as : List Str) (i : Nat) (esc : Bool) (chv : Option Value) (pv : Value) (pre : List (Nat × Str)) (s₀ : Shared) (h : Heap) (tk : Nat), (signs x).drop i = as → i ≤ x.cps.size → gout false 0 (signs x) = pre ++ gout esc i as → (esc = true → 1 ≤ i ∧ ∃ tp, pv = .int ((i : Int) - 1) tp) →
      Fr g Lg h (gm chv pv esc bm) → (∃ old, IsEnum h En It i old) → h.IsStrIter It (strIterType x) x t i → KeptG Lg s₀.heap h →
      Seg (model PR w) (mkA dp' fr' gd' un') (GR g Lg) (GY (gout false 0 (signs x)) g Lg) (gout esc i as).length s₀ C D fs { s₀ with heap := h, toks := tk }) →
      Seg (model PR w) (mkA dp' fr' gd' un') (GR g Lg) (GY (gout false 0 (signs x)) g Lg) (gout false 0 (signs x)).length s₀ C D fs { s₀ with heap := h₂, toks := tq } := fun tq C D fs H =>
    H (signs x) 0 false none _ [] s₀ h₂ _ rfl (Nat.zero_le _) rfl (by intro h; cases h) hbm ⟨_, hE⟩ hSI K2
  refine key _ _ _ _ ?_
  clear key hbm K2 hSI hE F2 hLg hk s2 m2 s1 m1 s₀ h₂
  intro as
  induction as with
  | nil =>
    intro i esc chv pv pre s₀ h tk has hil hU hp F hE hS K
    refine sg_forLoop ?_
    rw [over_loop]
    have hni : i = x.cps.size := by
      have := congrArg List.length has
      rw [List.length_drop, signs_length] at this
      have e : x.cps.size = x.length := rfl
      simp only [List.length_nil] at this
      lia
    subst hni
    refine (WalksT.enumerateD (draws_str rfl It x t) En hEI (by simpa using hEI) (by simp)).done _ _ _ ⟨hE, hS⟩ ?_
    intro h₃ tk₃ hk3
    dsimp only at hk3
    have F4 := fr_step F hEL hIL hen hin hk3
    have K4 := kg_step K hE hS hk3
    have N4 := news_allBut g h₃ Lg
    have kp4 : ∀ {h' : Heap} {m' : Str → Option Value} {pre : List (Addr × Obj)}, Fr g Lg h' m' → News g Lg h' (pre ++ allBut g h₃ Lg) → ∀ b o, b ≠ Lg → h₃.get? b = some o → h'.get? b = some o := fun F N => kept_allBut F4 F N
    clear hk3 F hE hS K has
    unfold gm at F4
    refine seg_leaf (.ok .next) ?_
    cases esc with
    | true =>
      have hl : (gout true x.cps.size []).length = 0 + 1 := rfl
      rw [hl]
      refine seg_execs_cons (sg_If ?_)
      rw [over_func]
      k_steps
      refine seg_execs_cons (seg_Expr_Yield rfl rfl rfl ?_)
      rw [over_func]
      refine wpAny_mono (E := fun _ _ => False) ?_ (fun _ _ z => z) (fun _ _ z => z.elim)
      k_steps
      rename_i D5 h5 F5 N5 l5 kap hkap
      have K5 := kp4 (pre := [_]) F5 N5
      obtain ⟨hx1, tp, rfl⟩ := hp rfl
      obtain ⟨oL5, es5, ep5, hoL5, hL5⟩ := F5.ns
      have hgL : g.get? Lg = none := by
        cases hg : g.get? Lg with
        | none => rfl
        | some o => exact absurd (Heap.lt_size hg) (Nat.not_lt.mpr F5.above)
      have hD5 := (N5 _ (.head _)).1
      have ei : ((x.cps.size : Int) - 1) = ((x.cps.size - 1 : Nat) : Int) := by lia
      rw [ei] at hD5
      refine ⟨D5, (x.cps.size - 1, Str.ofString "\\"), tp, _, h5, _, [(Lg, oL5)], ?_, rfl, rfl, (N5 _ (.head _)).2.2, (N5 _ (.head _)).2.1, hD5, fun b o hb hi e => K5 b o hb (K4 b o hb hi e), F5.keep, ?_, ?_⟩
      · rw [hU, List.length_append, hl]
        have e : pre.length + (0 + 1) - 1 - 0 = pre.length := by lia
        rw [e, List.getElem?_append_right (Nat.le_refl _), Nat.sub_self]; rfl
      · intro p hp'
        obtain rfl := List.mem_singleton.mp hp'
        exact ⟨hoL5, hgL, .inl rfl⟩
      · intro s'' hks hgo
        refine hkap .none s'' ?_
        refine seg_execs_nil (seg_execs_nil ?_)
        exact seg_end (.ok (.ret .none)) ⟨rfl, rfl, s''.heap, s''.toks, rfl, fun _ _ _ _ e => e, hks⟩
    | false =>
      have hl : (gout false x.cps.size []).length = 0 := rfl
      rw [hl]
      refine seg_execs_cons (sg_If ?_)
      rw [over_func]
      k_steps
      refine seg_execs_nil (seg_execs_nil ?_)
      exact seg_end (.ok (.ret .none)) ⟨rfl, rfl, h₃, tk₃, rfl, K4, F4.keep⟩
  | cons a as ih =>
    intro i esc chv pv pre s₀ h tk has hil hU hp F hE hS K
    refine sg_forLoop ?_
    rw [over_loop]
    have hlt : i < x.cps.size := by
      have := congrArg List.length has
      rw [List.length_drop, signs_length, List.length_cons] at this
      have e : x.cps.size = x.length := rfl
      lia
    have hil' : i + 1 ≤ x.cps.size := hlt
    refine (WalksT.enumerateD (draws_str rfl It x t) En hEI (by simpa using hEI) (by simp)).item i _ _ _ hlt ⟨hE, hS⟩ ?_
    intro T vals h₃ tk₃ hPt hTsz hT hMid hk3
    refine (WalksT.enumerateD (draws_str rfl It x t) En hEI (by simpa using hEI) (by simp)).go _ _ _ i T _ _ _ hMid ?_
    intro h₄ hSt hk4
    obtain ⟨tp, cv, ⟨c, u, hc, rfl⟩, rfl⟩ := hPt
    obtain ⟨hE4, hS4⟩ := hSt
    dsimp only at hTsz hk3 hk4
    have hTn : g.get? T = none := by
      cases hg : g.get? T with
      | none => rfl
      | some o => exact absurd (Heap.lt_size (F.keep _ _ hg)) (Nat.not_lt.mpr hTsz)
    have hkg : ∀ b o, b ∉ [En, It] → h.get? b = some o → h₄.get? b = some o := fun b o hb e => hk4 b o hb (hk3 b o hb e)
    have F4 := fr_step F hEL hIL hen hin hkg
    have hTE : T ∉ [En, It] := by simp only [List.mem_cons, List.not_mem_nil, or_false, not_or]; exact ⟨hMid.2.2.1, hMid.2.2.2⟩
    have hTL : T ≠ Lg := by
      obtain ⟨o, es, ep, e, r⟩ := F.ns
      exact Nat.ne_of_gt (Nat.lt_of_lt_of_le (Heap.lt_size e) hTsz)
    have K4 := kg_step K hE hS hkg
    have hT4 : h₄.IsTuple T #[.int (i : Int) tp, .str ⟨#[c]⟩ u] := by
      obtain ⟨oT, hoT, r⟩ := hT
      exact ⟨oT, hk4 _ _ hTE hoT, r⟩
    obtain ⟨oT, hoT, hTc, hTep, hTd⟩ := hT
    have N4 : News g Lg h₄ ((T, oT) :: allBut g h₄ Lg) := fun p hp => by
      rcases List.mem_cons.mp hp with rfl | hp
      · exact ⟨hk4 _ _ hTE hoT, hTL, hTn⟩
      · exact news_allBut g h₄ Lg p hp
    clear hk3 hk4 hkg F hE hS K hTE hMid hTsz hlt hTn
    obtain ⟨RR, hRR⟩ : ∃ RR, RR = allBut g h₄ Lg := ⟨_, rfl⟩
    rw [← hRR] at N4
    have kp4 : ∀ {h' : Heap} {m' : Str → Option Value} {pre : List (Addr × Obj)}, Fr g Lg h' m' → News g Lg h' (pre ++ RR) → ∀ b o, b ≠ Lg → h₄.get? b = some o → h'.get? b = some o := fun F N => kept_allBut F4 F (by rw [← hRR]; exact N)
    clear hRR
    unfold gm at F4
    k_steps
    have hca : a = ⟨#[c]⟩ := by
      have e1 := signs_get hc
      have e2 : (signs x)[i]? = some a := by rw [← List.head?_drop, has]; rfl
      rw [e1] at e2; cases e2; rfl
    subst hca
    have has' : (signs x).drop (i + 1) = as := by rw [← List.tail_drop, has]; rfl
    cases esc with
    | true =>
      have hl : (gout true i (⟨#[c]⟩ :: as)).length = (gout false (i + 1) as).length + 1 := rfl
      rw [hl]
      refine seg_execs_cons (sg_If ?_)
      rw [over_loop]
      k_steps
      refine seg_execs_cons (seg_Expr_Yield rfl rfl rfl ?_)
      rw [over_loop]
      refine wpAny_mono (E := fun _ _ => False) ?_ (fun _ _ z => z) (fun _ _ z => z.elim)
      k_steps
      rename_i h5a h5b h5c t5 k5 _ D5 h5 F5 N5 l5 kap hkap
      have K5 := kp4 (pre := [_, _]) F5 N5
      refine gy_mk (u := (i, Str.ofString "\\" ++ ⟨#[c]⟩)) hEL hIL hen hin F5 N5 hE4 hS4 K5 K4 (by rw [hU]; exact at_len) fun s'' F6 hE6 hS6 => ?_
      · refine hkap .none s'' ?_
        have N6 := news_allBut g s''.heap Lg
        have kp6 := fun {h' : Heap} {m' : Str → Option Value} (Fz : Fr g Lg h' m') (Nz : News g Lg h' (allBut g s''.heap Lg)) => kept_allBut (pre := []) F6 Fz Nz
        clear F5 N5 K5 kp4 hkap
        refine seg_execs_cons (sg_stmt ?_)
        rw [over_loop]
        k_steps
        rename Fr _ _ _ _ => F7
        rename News _ _ _ _ => N7
        have K7 := kp6 F7 N7
        refine seg_again rfl (ih (i + 1) false (some (.str ⟨#[c]⟩ u)) (.int (i : Int) _) (pre ++ [(i, Str.ofString "\\" ++ ⟨#[c]⟩)]) s'' _ _ has' hil' ?_ (by intro h; cases h) (fr_eq F7 gm3) (let ⟨old, e⟩ := hE6; ⟨old, K7 _ _ hEL e⟩) (let ⟨o, e, r⟩ := hS6; ⟨o, K7 _ _ hIL e, r⟩) fun b o hb _ e => K7 b o hb e)
        rw [hU, List.append_assoc]; rfl
    | false =>
      refine seg_execs_cons (sg_If ?_)
      rw [over_loop]
      k_steps
      refine seg_execs_cons (sg_If ?_)
      rw [over_loop]
      k_steps
      by_cases hbs : (⟨#[c]⟩ : Str) = Str.ofString "\\"
      · have hb2 : ((⟨#[c]⟩ : Str) == Str.ofString "\\") = true := by rw [hbs]; exact beq_self_eq_true _
        have hl : gout false i (⟨#[c]⟩ :: as) = gout true (i + 1) as := by rw [gout, if_pos hbs]
        rw [hl] at hU ⊢
        rw [hb2]
        refine seg_execs_cons (sg_stmt ?_)
        rw [over_loop]
        k_steps
        rename Fr _ _ _ _ => F7
        rename News _ _ _ _ => N7
        have K7 := kp4 (pre := [_]) F7 N7
        rename_i tq _ _ _ _ _ _ _ _ _ _
        refine seg_again rfl (ih (i + 1) true (some (.str ⟨#[c]⟩ u)) (.int (i : Int) tq) pre s₀ _ _ has' hil' hU (fun _ => ⟨by lia, tq, by rw [show (((i + 1 : Nat) : Int) - 1) = (i : Int) by lia]⟩) (fr_eq F7 gm3) (let ⟨old, e⟩ := hE4; ⟨old, K7 _ _ hEL e⟩) (let ⟨o, e, r⟩ := hS4; ⟨o, K7 _ _ hIL e, r⟩) fun b o hb hi e => K7 b o hb (K4 b o hb hi e))
      · have hb2 : ((⟨#[c]⟩ : Str) == Str.ofString "\\") = false := by simpa using hbs
        have hl : gout false i (⟨#[c]⟩ :: as) = (i, ⟨#[c]⟩) :: gout false (i + 1) as := by rw [gout, if_neg hbs]
        rw [hl] at hU ⊢
        rw [hb2, List.length_cons]
        refine seg_execs_cons (seg_Expr_Yield rfl rfl rfl ?_)
        rw [over_loop]
        refine wpAny_mono (E := fun _ _ => False) ?_ (fun _ _ z => z) (fun _ _ z => z.elim)
        k_steps
        rename_i D5 h5 F5 N5 l5 kap hkap
        have K5 := kp4 (pre := [_, _]) F5 N5
        refine gy_mk (u := (i, ⟨#[c]⟩)) hEL hIL hen hin F5 N5 hE4 hS4 K5 K4 (by rw [hU]; exact at_len) fun s'' F6 hE6 hS6 => ?_
        · refine hkap .none s'' ?_
          refine seg_again rfl (ih (i + 1) false (some (.str ⟨#[c]⟩ u)) (.int (i : Int) _) (pre ++ [(i, ⟨#[c]⟩)]) s'' _ _ has' hil' ?_ (by intro h; cases h) (fr_eq F6 gm2) hE6 hS6 fun b o hb _ e => e)
          rw [hU, List.append_assoc]; rfl
end

section
variable {w : World} {A : Around} {E : Value → Shared → Prop} {s : Shared}
/-- the next item of a function's generator; what is left suspended is bare -/
theorem pyNext_gen {a : Addr} {k n : Nat} {gs : GenState} {P : Nat → Shared → Shared → Prop} {Y : Protocol} {Q : Option Value → Shared → Prop} (hh : A.handled = none)
    (hl : s.heap.NoLimit) (hroom : A.depth < recursionLimit)
    (hg : s.heap.IsGen a k) (hgs : s.gens[k]? = some gs)
    (hgo : gs.Goes (model PR w) A.in1 (fun n s₀ r s₁ => r = .ok (.ret .none) ∧ P n s₀ s₁) Y n (.send .none) (s.setGen k .running))
    (hY : ∀ v s₁ gs', gs'.bare = true → Y (n - 1) (s.setGen k .running) v s₁ (fun r' s'' => match n with
        | 0 => False
        | m + 1 => gs'.Goes (model PR w) A.in1 (fun n s₀ r s₁ => r = .ok (.ret .none) ∧ P n s₀ s₁) Y m r' s'') → Q (some v) (s₁.setGen k gs'))
    (hP : ∀ s₁, P n (s.setGen k .running) s₁ → ∀ h', (∀ b o, s₁.heap.get? b = some o → h'.get? b = some o) → Q none { s₁.setGen k .finished with heap := h' }) :
    wpAny (model PR w) A (pyNext (.ref a)) Q E s := by
  unfold pyNext
  refine wpAny_bind (wpAny_attempt (wpAny_callSpecial?_slot (name := Str.ofString "__next__") hg.typeIs slot_gen_next
    (wpAny_call_entry slot_gen_next hg.typeIs entry_gen_next ?_ (args_gen_next _))))
  show wpAny _ A.in1 (Builtin.Generator.genWake (.ref a) (.send .none)) _ _ s
  unfold Builtin.Generator.genWake
  refine wpAny_bind (wpAny_holding (wpAny_genNumber hg (wpAny_bind (wpAny_genState hgs ?_))))
  cases gs with
  | running => exact hgo.elim
  | finished => exact hgo.elim
  | _ =>
    refine wpAny_bind (wpAny_roomToWake hl hroom ?_)
    show wpAny _ A.in1 (.resume k (.send .none) [] _) _ _ s
    refine wpAny_resumeQ hgs hgo (fun x s₁ hx => ?_) (fun v s₁ gs' hb hv => ?_)
    · obtain ⟨rfl, hp⟩ := hx
      show wpAny _ A.in1 (newExc (.type "StopIteration") [] >>= _) _ _ _
      refine wpAny_bind ?_
      simp only [newExc, newTuple]
      refine wpAny_bind (wpAny_newObj_type ?_ (by size_fits))
      refine wpAny_bind (m := firstArgMember _ _) (wpAny_of_eq (a := Value.none) (by first | rfl | (simp only [firstArgMember]; rfl)) ?_)
      refine wpAny_newObj_type ?_ (by size_fits)
      simp only [raiseNew]
      refine wpAny_bind (wpAny_bind (wpAny_handled ?_))
      first | rw [show A.in1.handled = none from hh] | rw [hh]
      refine wpAny_throw ?_
      refine wpAny_bind (wpAny_isInstance (T := "StopIteration") (b := true) ⟨_, Heap.get?_push_size _ rfl, rfl⟩ isSubtype_stop ?_)
      exact wpAny_pure (hP s₁ hp _ fun b o hb => Heap.get?_push_of_some _ (Heap.get?_push_of_some _ hb))
    · exact wpAny_pure ⟨v, rfl, wpAny_pure (hY v s₁ gs' hb hv)⟩
end

/-- the generator object at a, number k, has n of U still to give; GO are the objects that it owns -/
structure GS (w : World) (A : Around) (g : Heap) (Lg a : Addr) (k : Nat) (nm qn : Value) (U : List (Nat × Str)) (n : Nat) (GO : List (Addr × Obj)) (s : Shared) : Prop where
  keeps : Keeps g s.heap
  obj : s.heap.get? a = some (genO k nm qn)
  go : ∀ p ∈ GO, s.heap.get? p.1 = some p.2 ∧ g.get? p.1 = none ∧ (p.1 = Lg ∨ itc p.2 = true)
  gen : ∃ gs, s.gens[k]? = some gs ∧ gs.bare = true ∧ ∀ s'' : Shared, Keeps g s''.heap → (∀ p ∈ GO, s''.heap.get? p.1 = some p.2) → gs.Goes (model PR w) A.in1 (GR g Lg) (GY U g Lg) n (.send .none) s''
section
variable {w : World} {A : Around} {E : Value → Shared → Prop} {s : Shared} {g : Heap} {Lg a : Addr} {k n : Nat} {nm qn : Value} {U : List (Nat × Str)} {GO : List (Addr × Obj)} {Q : Option Value → Shared → Prop}
theorem GS.after {h' : Heap} {tk' : Nat} (G : GS w A g Lg a k nm qn U n GO s) (hk : Keeps g h') (ho : h'.get? a = some (genO k nm qn)) (hg : ∀ p ∈ GO, h'.get? p.1 = some p.2) :
    GS w A g Lg a k nm qn U n GO { s with heap := h', toks := tk' } :=
  ⟨hk, ho, fun p hp => ⟨hg p hp, (G.go p hp).2⟩, G.gen⟩
theorem gnext (hh : A.handled = none) (hl : g.NoLimit) (hroom : A.depth < recursionLimit) (haL : a ≠ Lg) (G : GS w A g Lg a k nm qn U n GO s)
    (hY : ∀ m, n = m + 1 → ∀ (D : Addr) (u : Nat × Str) (t1 t2 : Tok) (h' : Heap) (tk' : Nat) (gens' : Array GenState) (GO' : List (Addr × Obj)), U[U.length - 1 - m]? = some u → g.get? D = none → D ≠ Lg → h'.get? D = some (tup2 (.int (u.1 : Nat) t1) (.str u.2 t2)) →
      KeptG Lg s.heap h' → GenOnlyQ k s.gens gens' → GS w A g Lg a k nm qn U m GO' { s with heap := h', toks := tk', gens := gens' } → Q (some (.ref D)) { s with heap := h', toks := tk', gens := gens' })
    (hN : n = 0 → ∀ (h' : Heap) (tk' : Nat) (gens' : Array GenState), KeptG Lg s.heap h' → Keeps g h' → GenOnlyQ k s.gens gens' → Q none { s with heap := h', toks := tk', gens := gens' }) :
    wpAny (model PR w) A (pyNext (.ref a)) Q E s := by
  obtain ⟨gs, hgs, hb, hgo⟩ := G.gen
  have hga : ∀ h : Heap, h.get? a = some (genO k nm qn) → h.IsGen a k := fun h e => ⟨_, nm, qn, e, rfl, rfl, rfl⟩
  have hig : itc (genO k nm qn) = false := itc_cls (c := "generator") rfl (by decide)
  refine pyNext_gen (P := fun n s₀ s₁ => n = 0 ∧ ∃ h' tk', s₁ = { s₀ with heap := h', toks := tk' } ∧ KeptG Lg s₀.heap h' ∧ Keeps g h') hh (hl.keeps G.keeps) hroom (hga _ G.obj) hgs (hgo _ G.keeps fun p hp => (G.go p hp).1) (fun v s₁ gs' hb' hv => ?_) (fun s₁ hp h' hk => ?_)
  · obtain ⟨D, u, t1, t2, h', tk', GO', hu, rfl, rfl, hD, hDL, hDo, hK, hKg, hGO, hkap⟩ := hv
    cases n with
    | zero => exact (hkap { (s.setGen k .running) with heap := h', toks := tk' } hKg fun p hp => (hGO p hp).1).elim
    | succ m =>
      refine hY m rfl D u t1 t2 h' tk' _ GO' hu hD hDL hDo hK (GenOnlyQ.of ((GenOnly.setGen s k .running).trans (GenOnly.setGen _ k gs')) (setGen_self (gs := .running) (setGen_self hgs)) hb') ?_
      exact ⟨hKg, hK _ _ haL hig G.obj, hGO, gs', setGen_self (gs := .running) (setGen_self hgs), hb', hkap⟩
  · obtain ⟨rfl, h₁, tk₁, rfl, hK, hKg⟩ := hp
    exact hN rfl h' tk₁ _ (fun b o hb hi e => hk _ _ (hK b o hb hi e)) (fun b o e => hk _ _ (hKg b o e)) (GenOnlyQ.of ((GenOnly.setGen s k .running).trans (GenOnly.setGen _ k .finished)) (setGen_self (gs := .running) (setGen_self hgs)) rfl)
end
section
variable {g h h' : Heap} {L Lg : Addr} {m : Str → Option Value} {news : List (Addr × Obj)}
/-- a ledger that the generator leaves alone -/
def Calm (Lg : Addr) (l : List (Addr × Obj)) : Prop := ∀ p ∈ l, p.1 ≠ Lg ∧ itc p.2 = false
theorem Calm.nil : Calm Lg [] := fun _ h => nomatch h
theorem Calm.cons {p : Addr × Obj} {l : List (Addr × Obj)} (h : p.1 ≠ Lg) (hi : itc p.2 = false) (hl : Calm Lg l) : Calm Lg (p :: l) := fun q hq => by
  rcases List.mem_cons.mp hq with rfl | hq
  · exact ⟨h, hi⟩
  · exact hl q hq
theorem Calm.tab {TT : List (Addr × Obj)} (T : TabL TT) (h : ∀ p ∈ TT, p.1 ≠ Lg) : Calm Lg TT := fun p hp => ⟨h p hp, itc_isF (T.f p hp)⟩
theorem calm_fr (F : Fr g L h m) (K : KeptG Lg h h') (Kg : Keeps g h') (hL : L ≠ Lg) : Fr g L h' m := by
  obtain ⟨o, es, ep, e, hd, r⟩ := F.ns
  exact ⟨⟨o, es, ep, K _ _ hL (itc_dict hd) e, hd, r⟩, Kg, F.above⟩
theorem calm_news (N : News g L h news) (K : KeptG Lg h h') (hc : Calm Lg news) : News g L h' news := fun p hp =>
  ⟨K _ _ (hc p hp).1 (hc p hp).2 (N p hp).1, (N p hp).2⟩
end
/-- what holds behind a turn of the loop over a generator -/
inductive GT (gs : Array GenState) (dw : Drawn) (os : OsState) (g : Heap) (L a Lg : Addr) (k : Nat) (nm qn : Value) (GO : List (Addr × Obj)) (i : Nat) (J : Nat → (Str → Option Value) → List (Addr × Obj) → Prop) (s₃ : Shared) : Prop
  | mk (h' : Heap) (tk' : Nat) (m' : Str → Option Value) (nw' : List (Addr × Obj)) (hs : s₃ = ⟨h', gs, dw, tk', os⟩) (F : Fr g L h' m') (N : News g L h' (nw' ++ ((a, genO k nm qn) :: GO))) (hc : Calm Lg nw') (hJ : J (i + 1) m' nw')
section
variable {w : World} {A : Around} {s : Shared} {g : Heap} {L Lg a : Addr} {k : Nat} {nm qn : Value} {U : List (Nat × Str)} {GO : List (Addr × Obj)} {Q : Flow → Shared → Prop} {m : Str → Option Value} {nw : List (Addr × Obj)}
theorem letOwned_gen {E : Value → Shared → Prop} {elts : List Expr} {x1} {pos : Pos} {T : Addr} {Q : Unit → Shared → Prop} (hg : s.heap.get? a = some (genO k nm qn)) (hQ : Q () s) :
    wpAny (model PR w) A (letOwnedTupleGo (.Tuple elts x1 pos) (.ref a) (.ref T)) Q E s := by
  unfold letOwnedTupleGo
  refine wpAny_bind (wpAny_load hg ?_)
  show wpAny _ A (if (["enumerate", "zip", "dict_itemiterator", "dict_reverseitemiterator", "odict_iterator", "itertools.zip_longest", "itertools.pairwise"].contains "generator" &&
      (#[.int k 0, nm, qn] : Array Value)[0]? == some (rawInt T)) = true then _ else _) Q E s
  rw [if_neg (by
    intro h
    rw [show (["enumerate", "zip", "dict_itemiterator", "dict_reverseitemiterator", "odict_iterator", "itertools.zip_longest", "itertools.pairwise"].contains "generator") = false from by decide, Bool.false_and] at h
    cases h)]
  exact wpAny_pure hQ
/-- a for loop over a function's generator -/
theorem gfor {elts : List Expr} {x1} {pos : Pos} {body : List Stmt} {env : Env} (J : Nat → (Str → Option Value) → List (Addr × Obj) → Prop)
    (hh : A.handled = none) (hl : g.NoLimit) (hroom : A.depth < recursionLimit) (haL : a ≠ Lg) (hLL : L ≠ Lg) (haL2 : a ≠ L) (hag : g.get? a = none)
    (G : GS w A g Lg a k nm qn U U.length GO s) (F : Fr g L s.heap m) (N : News g L s.heap nw) (hc : Calm Lg nw) (hJ : J 0 m nw)
    (turn : ∀ (i : Nat) (u : Nat × Str) (D : Addr) (t1 t2 : Tok) (h : Heap) (tk : Nat) (gens' : Array GenState) (GO' : List (Addr × Obj)) (m : Str → Option Value) (nw : List (Addr × Obj)), U[i]? = some u → J i m nw → Calm Lg nw → Fr g L h m →
      News g L h ((D, tup2 (.int (u.1 : Nat) t1) (.str u.2 t2)) :: (nw ++ ((a, genO k nm qn) :: GO'))) → (∀ p ∈ GO', p.1 = Lg ∨ itc p.2 = true) → GenOnlyQ k s.gens gens' →
      wpAny (model PR w) A (assign (.Tuple elts x1 pos) env (.ref D)) (fun _ s₂ => wpAny (model PR w) A (execs body env) (fun f s₃ => match f with
          | .next | .cont => Stop (GT gens' s.drawn s.os g L a Lg k nm qn GO' i J s₃)
          | .brk => False
          | .ret v => Q (.ret v) s₃) (fun _ _ => False) s₂) (fun _ _ => False) { s with heap := h, toks := tk, gens := gens' })
    (done : ∀ (h : Heap) (tk : Nat) (gens' : Array GenState) (m : Str → Option Value) (nw : List (Addr × Obj)), J U.length m nw → Fr g L h m → News g L h nw → GenOnlyQ k s.gens gens' → Q .next { s with heap := h, toks := tk, gens := gens' }) :
    codeAny (model PR w) A (.forLoop (.Tuple elts x1 pos) (.ref a) body [] env) (fun r s' => match r with | .ok f => Q f s' | .error e => cameBackBy (model PR w) A env (fun _ _ => False) e s') s := by
  refine codeAny_forLoop_any (fun n s' => ∃ h tk gens' GO' m nw, s' = { s with heap := h, toks := tk, gens := gens' } ∧ n ≤ U.length ∧ GenOnlyQ k s.gens gens' ∧ GS w A g Lg a k nm qn U n GO' s' ∧ Fr g L h m ∧ News g L h nw ∧ Calm Lg nw ∧ J (U.length - n) m nw) (fun n s' hj => ?_) U.length
    ⟨s.heap, s.toks, s.gens, GO, m, nw, rfl, Nat.le_refl _, .inl rfl, G, F, N, hc, by rw [Nat.sub_self]; exact hJ⟩
  obtain ⟨h, tk, gens', GO', m, nw, rfl, hn, hq, G, F, N, hc, hJ⟩ := hj
  refine gnext hh hl hroom haL G (fun i hi D u t1 t2 h' tk' gens₂ GO₂ hu hD hDL hDo hK hq2 G2 => ?_) (fun hn0 h' tk' gens₂ hK hKg hq2 => ?_)
  · subst hi
    refine letOwned_gen G2.obj ?_
    have F2 := calm_fr F hK G2.keeps hLL
    have N2 := calm_news N hK hc
    have hDL2 : D ≠ L := fun e => by
      obtain ⟨o, es, ep, e1, hd, _⟩ := F2.ns
      rw [e] at hDo
      rw [hDo] at e1; cases e1; cases hd
    have hpL : ∀ p ∈ GO₂, p.1 ≠ L := fun p hp e => by
      obtain ⟨o, es, ep, e1, hd, _⟩ := F2.ns
      have g1 := G2.go p hp
      rcases g1.2.2 with h1 | h1
      · exact hLL (e.symm.trans h1)
      · have e2 := g1.1
        rw [e, e1] at e2
        have e3 : o = p.2 := Option.some.inj e2
        rw [← e3, itc_dict hd] at h1
        cases h1
    have N3 : News g L h' ((D, tup2 (.int (u.1 : Nat) t1) (.str u.2 t2)) :: (nw ++ ((a, genO k nm qn) :: GO₂))) := fun p hp => by
      rcases List.mem_cons.mp hp with rfl | hp
      · exact ⟨hDo, hDL2, hD⟩
      · rcases List.mem_append.mp hp with hp | hp
        · exact N2 p hp
        · rcases List.mem_cons.mp hp with rfl | hp
          · exact ⟨G2.obj, haL2, hag⟩
          · exact ⟨(G2.go p hp).1, hpL p hp, (G2.go p hp).2.1⟩
    have hui : U[U.length - (i + 1)]? = some u := by rw [← hu]; congr 1; lia
    refine wpAny_mono (turn (U.length - (i + 1)) u D t1 t2 h' tk' gens₂ GO₂ m nw hui hJ hc F2 N3 (fun p hp => (G2.go p hp).2.2) (hq.trans hq2)) (fun _ s₂ h₂ => ?_) fun _ _ x => x.elim
    refine wpAny_mono h₂ (fun f s₃ h₃ => ?_) fun _ _ x => x.elim
    have nxt : GT gens₂ s.drawn s.os g L a Lg k nm qn GO₂ (U.length - (i + 1)) J s₃ → ∃ mm, mm < i + 1 ∧ ∃ h tk gens' GO' m nw, s₃ = { s with heap := h, toks := tk, gens := gens' } ∧ mm ≤ U.length ∧ GenOnlyQ k s.gens gens' ∧ GS w A g Lg a k nm qn U mm GO' s₃ ∧ Fr g L h m ∧ News g L h nw ∧ Calm Lg nw ∧ J (U.length - mm) m nw := by
      rintro ⟨h4, tk4, m4, nw4, rfl, F4, N4, hc4, hJ4⟩
      refine ⟨i, Nat.lt_succ_self _, h4, tk4, gens₂, GO₂, m4, nw4, rfl, by lia, hq.trans hq2, ?_, F4, fun p hp => N4 p (List.mem_append_left _ hp), hc4, ?_⟩
      · exact ⟨F4.keep, (N4 _ (List.mem_append_right _ (.head _))).1, fun p hp => ⟨(N4 _ (List.mem_append_right _ (.tail _ hp))).1, (G2.go p hp).2⟩, G2.gen⟩
      · have e : U.length - (i + 1) + 1 = U.length - i := by lia
        rw [← e]; exact hJ4
    cases f with
    | next => exact nxt h₃
    | cont => exact nxt h₃
    | brk => exact h₃.elim
    | ret v => exact h₃
  · subst hn0
    refine wpAny_execs_nil ?_
    exact done h' tk' gens₂ m nw hJ (calm_fr F hK hKg hLL) (calm_news N hK hc) (hq.trans hq2)
end
/-- the tuples of a list of units -/
inductive UTs : List (Nat × Str) → List (Addr × Obj) → Prop
  | nil : UTs [] []
  | cons {u : Nat × Str} {p : Addr × Obj} {us ps} (t1 t2 : Tok) (h : p.2 = tup2 (.int (u.1 : Nat) t1) (.str u.2 t2)) : UTs us ps → UTs (u :: us) (p :: ps)
theorem UTs.append {us us' : List (Nat × Str)} {ps ps' : List (Addr × Obj)} (h : UTs us ps) (h' : UTs us' ps') : UTs (us ++ us') (ps ++ ps') := by
  induction h with
  | nil => exact h'
  | cons t1 t2 e _ ih => exact .cons t1 t2 e ih
theorem UTs.one {u : Nat × Str} {p : Addr × Obj} {t1 t2 : Tok} (h : p.2 = tup2 (.int (u.1 : Nat) t1) (.str u.2 t2)) : UTs [u] [p] := .cons t1 t2 h .nil
theorem UTs.mem {us : List (Nat × Str)} {ps : List (Addr × Obj)} (h : UTs us ps) : ∀ p ∈ ps, ∃ x y, p.2 = tup2 x y := by
  induction h with
  | nil => exact fun _ h => nomatch h
  | cons t1 t2 e _ ih =>
    intro p hp
    rcases List.mem_cons.mp hp with rfl | hp
    · exact ⟨_, _, e⟩
    · exact ih p hp
theorem UTs.length {us : List (Nat × Str)} {ps : List (Addr × Obj)} (h : UTs us ps) : us.length = ps.length := by
  induction h with
  | nil => rfl
  | cons t1 t2 e _ ih => simp [ih]
theorem itc_tup (x y : Value) : itc (tup2 x y) = false := itc_cls (c := "tuple") rfl (by decide)
section
variable {w : World} {g : Heap} {Lg a S : Addr} {k : Nat} {nm qn : Value} {U : List (Nat × Str)}
theorem glist_loop {A : Around} {res : Value} {R : Result → Shared → Prop} (hh : A.handled = none) (hl : g.NoLimit) (hroom : A.depth < recursionLimit) (haL : a ≠ Lg) (hSL : S ≠ Lg) (hSg : g.get? S = none) (hU : U.length ≤ 1000) :
    ∀ (n : Nat) (GO : List (Addr × Obj)) (s : Shared) (DT : List (Addr × Obj)) (c : Nat), n ≤ U.length → GS w A.in1 g Lg a k nm qn U n GO s → s.heap.get? S = some (listOf (DT.map fun p => Value.ref p.1).toArray c) → UTs (U.take (U.length - n)) DT →
      (∀ p ∈ DT, s.heap.get? p.1 = some p.2 ∧ p.1 ≠ Lg ∧ g.get? p.1 = none) →
      (∀ (h' : Heap) (tk' : Nat) (gens' : Array GenState) (DT : List (Addr × Obj)) (c : Nat), UTs U DT → h'.get? S = some (listOf (DT.map fun p => Value.ref p.1).toArray c) → (∀ p ∈ DT, h'.get? p.1 = some p.2 ∧ p.1 ≠ Lg ∧ g.get? p.1 = none) →
        (∀ b o, b ≠ Lg → b ≠ S → itc o = false → s.heap.get? b = some o → h'.get? b = some o) → Keeps g h' → GenOnlyQ k s.gens gens' → R (.ok (.ret res)) { s with heap := h', toks := tk', gens := gens' }) →
      codeAny (model PR w) A (.builtin "list.extend.loop" ⟨[.ref S, .ref a, res], []⟩) R s := by
  intro n
  have hSi : ∀ (xs : Array Value) (c : Nat), itc (listOf xs c) = false := fun _ _ => itc_cls (c := "list") rfl (by decide)
  induction n with
  | zero =>
    intro GO s DT c hn G hS hUT hDT hR
    refine codeAny_builtin F.entry_extend_loop ?_
    rw [Around.under_plainId F.plain_extend_loop _]
    show wpAny _ A.in1 (pyNext (.ref a) >>= _) _ _ s
    refine wpAny_bind (gnext hh hl hroom haL G (fun _ h => nomatch h) fun _ h' tk' gens' hK hKg hq => ?_)
    rw [Nat.sub_zero, List.take_length] at hUT
    exact wpAny_pure (hR h' tk' gens' DT c hUT (hK _ _ hSL (hSi _ _) hS) (fun p hp => ⟨hK _ _ (hDT p hp).2.1 (by obtain ⟨x, y, e⟩ := hUT.mem p hp; rw [e]; exact itc_tup x y) (hDT p hp).1, (hDT p hp).2⟩) (fun b o hb _ hi e => hK b o hb hi e) hKg hq)
  | succ n ih =>
    intro GO s DT c hn G hS hUT hDT hR
    refine codeAny_builtin F.entry_extend_loop ?_
    rw [Around.under_plainId F.plain_extend_loop _]
    show wpAny _ A.in1 (pyNext (.ref a) >>= _) _ _ s
    refine wpAny_bind (gnext hh hl hroom haL G (fun m hm D u t1 t2 h' tk' gens' GO' hu hD hDL hDo hK hq G2 => ?_) fun h => nomatch h)
    cases hm
    have hS' := hK _ _ hSL (hSi _ _) hS
    show wpAny _ A.in1 (updateSeq S (·.push (.ref D)) >>= _) _ _ _
    refine wpAny_bind ?_
    have hne : ∀ b o, h'.get? b = some o → (∀ xs c, o ≠ listOf xs c) → b ≠ S := fun b o e hb q => by
      rw [q, hS'] at e; exact hb _ _ (Option.some.inj e).symm
    have hDT1 : ∀ p ∈ DT, h'.get? p.1 = some p.2 := fun p hp => hK _ _ (hDT p hp).2.1 (by obtain ⟨x, y, e⟩ := hUT.mem p hp; rw [e]; exact itc_tup x y) (hDT p hp).1
    have htl : ∀ x y xs c, tup2 x y ≠ listOf xs c := fun x y xs c e => by
      exact absurd (Value.type.inj (congrArg Obj.cls e)) (by decide)
    have hsz : DT.length ≤ U.length := by rw [← hUT.length, List.length_take]; lia
    have hU1 : UTs (U.take (U.length - n)) (DT ++ [(D, tup2 (.int (u.1 : Nat) t1) (.str u.2 t2))]) := by
      have e : U.length - n = (U.length - (n + 1)) + 1 := by lia
      have hu' : U[U.length - (n + 1)]? = some u := by rw [← hu]; congr 1; lia
      rw [e, List.take_add_one, hu']
      exact hUT.append (.one rfl)
    have upd : ∀ b o, b ≠ S → h'.get? b = some o → (h'.update S (Obj.mapSeq (·.push (Value.ref D)))).get? b = some o := fun b o hb e => (Heap.get?_update_other _ _ (Ne.symm hb)).trans e
    have hDT2 : ∀ p ∈ DT ++ [(D, tup2 (.int (u.1 : Nat) t1) (.str u.2 t2))], (h'.update S (Obj.mapSeq (·.push (Value.ref D)))).get? p.1 = some p.2 ∧ p.1 ≠ Lg ∧ g.get? p.1 = none := fun p hp => by
      rcases List.mem_append.mp hp with hp | hp
      · refine ⟨upd _ _ (hne _ _ (hDT1 p hp) ?_) (hDT1 p hp), (hDT p hp).2⟩
        obtain ⟨x, y, e⟩ := hUT.mem p hp; rw [e]; exact htl x y
      · obtain rfl := List.mem_singleton.mp hp
        exact ⟨upd _ _ (hne _ _ hDo (htl _ _)) hDo, hDL, hD⟩
    have hS2 : (h'.update S (Obj.mapSeq (·.push (Value.ref D)))).get? S = some (Obj.mapSeq (·.push (Value.ref D)) (listOf (DT.map fun p => Value.ref p.1).toArray c)) := Heap.get?_update_self _ hS' rfl
    have hS3 : ∃ c', (h'.update S (Obj.mapSeq (·.push (Value.ref D)))).get? S = some (listOf ((DT ++ [(D, tup2 (.int (u.1 : Nat) t1) (.str u.2 t2))]).map fun p => Value.ref p.1).toArray c') := by
      have e : (((DT ++ [(D, tup2 (.int (u.1 : Nat) t1) (.str u.2 t2))]).map fun p => Value.ref p.1).toArray) = (DT.map fun p => Value.ref p.1).toArray.push (Value.ref D) := by
        rw [List.map_append, List.push_toArray]; rfl
      rw [e]
      exact ⟨_, hS2⟩
    obtain ⟨c', hS3⟩ := hS3
    refine wpAny_updateSeq hS' rfl (wpAny_pure ⟨plainId_quiet F.plain_extend_loop _, ih GO' _ _ c' (by lia) ?_ hS3 hU1 hDT2 fun h4 tk4 gens4 DT4 c4 a1 a2 a3 a4 a5 a6 => ?_⟩) ?_
    · refine G2.after (fun b o e => upd b o (fun q => ?_) (G2.keeps b o e)) (upd _ _ (hne _ _ G2.obj fun xs c e => absurd (Value.type.inj (congrArg Obj.cls e)) (by decide)) G2.obj) fun p hp => upd _ _ (fun q => ?_) (G2.go p hp).1
      · rw [q, hSg] at e; cases e
      · rcases (G2.go p hp).2.2 with h1 | h1
        · exact hSL (q.symm.trans h1)
        · have e1 := (G2.go p hp).1
          rw [q, hS'] at e1
          rw [← Option.some.inj e1, hSi] at h1
          cases h1
    · refine hR h4 tk4 gens4 DT4 c4 a1 a2 a3 (fun b o h1 h2 h3 e => a4 b o h1 h2 h3 (upd _ _ h2 (hK _ _ h1 h3 e))) a5 (hq.trans a6)
    · rw [List.size_toArray, List.length_map]
      have : (1000 : Nat) ≤ sizeLine := by decide
      lia
theorem glist_code {A : Around} {R : Result → Shared → Prop} (hh : A.handled = none) (hl : g.NoLimit) (hroom : A.depth < recursionLimit) (haL : a ≠ Lg) (hSL : S ≠ Lg) (hSg : g.get? S = none) (hU : U.length ≤ 1000) {s : Shared} {GO : List (Addr × Obj)}
    (G : GS w A.in1 g Lg a k nm qn U U.length GO s) (hS : s.heap.get? S = some { cls := .type "list", data := .seq #[] })
    (hR : ∀ (h' : Heap) (tk' : Nat) (gens' : Array GenState) (DT : List (Addr × Obj)) (c : Nat), UTs U DT → h'.get? S = some (listOf (DT.map fun p => Value.ref p.1).toArray c) → (∀ p ∈ DT, h'.get? p.1 = some p.2 ∧ p.1 ≠ Lg ∧ g.get? p.1 = none) →
        (∀ b o, b ≠ Lg → b ≠ S → itc o = false → s.heap.get? b = some o → h'.get? b = some o) → Keeps g h' → GenOnlyQ k s.gens gens' → R (.ok (.ret .none)) { s with heap := h', toks := tk', gens := gens' }) :
    wpAny (model PR w) A.in1 (Builtin.«list.__init__» ⟨[.ref S, .ref a], []⟩)
      (fun fin s' => match fin with | .done f => R (.ok f) s' | .again c' => c'.quiet = true ∧ codeAny (model PR w) A c' R s') (fun e s' => R (.error e) s') s := by
  show wpAny _ A.in1 (do let old ← Builtin.List.listItems (.ref S); Builtin.List.listUpdate (.ref S) (fun _ => #[]); letGo old.toList.reverse; Builtin.List.listExtendWith (.ref S) (.ref a) .none) _ _ s
  refine wpAny_bind ?_
  unfold Builtin.List.listItems
  refine wpAny_bind (wpAny_seqItems hS rfl (wpAny_pure ?_))
  show wpAny _ A.in1 (updateSeq S (fun _ => #[]) >>= fun _ => letGo (#[] : Array Value).toList.reverse >>= fun _ => Builtin.List.listExtendWith (.ref S) (.ref a) .none) _ _ s
  refine wpAny_bind (wpAny_updateSeq hS rfl ?_)
  have hS₂ := Heap.get?_update_self (Obj.mapSeq (fun _ => (#[] : Array Value))) hS rfl
  have oth : ∀ b o, b ≠ S → s.heap.get? b = some o → (s.heap.update S (Obj.mapSeq (fun _ => (#[] : Array Value)))).get? b = some o :=
    fun b o hb e => (Heap.get?_update_other _ _ (Ne.symm hb)).trans e
  refine wpAny_bind (wpAny_letGo ?_)
  have hSa : S ≠ a := fun e => by
    have := G.obj
    rw [← e, hS] at this
    exact absurd (Value.type.inj (congrArg Obj.cls (Option.some.inj this))) (by decide)
  have hgo : ∀ p ∈ GO, p.1 ≠ S := fun p hp q => by
    rcases (G.go p hp).2.2 with h1 | h1
    · exact hSL (q.symm.trans h1)
    · have e1 := (G.go p hp).1
      rw [q, hS] at e1
      rw [← Option.some.inj e1] at h1
      cases h1
  have hkp : ∀ b o, g.get? b = some o → b ≠ S := fun b o e q => by rw [q, hSg] at e; cases e
  have G₂ : GS w A.in1 g Lg a k nm qn U U.length GO { s with heap := s.heap.update S (Obj.mapSeq (fun _ => (#[] : Array Value))) } :=
    G.after (fun b o e => oth b o (hkp b o e) (G.keeps b o e)) (oth _ _ hSa.symm G.obj) fun p hp => oth _ _ (hgo p hp) (G.go p hp).1
  have hT : ∀ {s : Shared}, s.heap.get? a = some (genO k nm qn) → s.TypeIs (.ref a) "generator" := fun e => ⟨_, e, rfl⟩
  unfold Builtin.List.listExtendWith
  refine wpAny_bind (wpAny_typeOf (hT G₂.obj) ?_)
  have h1 : Builtin.List.listSameRef (.ref S) (.ref a) = false := by simp [Builtin.List.listSameRef, hSa]
  have h2 : (Value.type "generator" == Value.type "list") = false := by decide
  have h3 : (Value.type "generator" == Value.type "tuple") = false := by decide
  simp only [h1, h2, h3, Bool.or_false, Bool.false_eq_true, if_false]
  refine wpAny_bind (wpAny_pyIter_gen ⟨_, nm, qn, G₂.obj, rfl, rfl, rfl⟩ ?_)
  refine wpAny_bind (wpAny_holding ?_)
  unfold Builtin.List.listLengthHint
  refine wpAny_bind (wpAny_specialOf (hT G₂.obj) F.gen_no_len ?_)
  show wpAny _ A.in1 (specialOf (Value.ref a) (Str.ofString "__length_hint__") >>= _) _ _ _
  refine wpAny_bind (wpAny_specialOf (hT G₂.obj) F.gen_no_hint ?_)
  refine wpAny_pure ?_
  show wpAny _ A.in1 (rule "list.extend.makes-room" >>= fun _ => Builtin.List.listTouch (.ref S) >>= fun _ =>
    again (.builtin "list.extend.loop" ⟨[.ref S, .ref a, .none], []⟩)) _ _ _
  refine wpAny_bind (wpAny_rule ?_)
  refine wpAny_bind ?_
  show wpAny _ A.in1 (updateSeq S (·.push .none) >>= fun _ => updateSeq S (·.pop)) _ _ _
  refine wpAny_bind (wpAny_updateSeq hS₂ rfl ?_)
  have hS₃ := Heap.get?_update_self (Obj.mapSeq (·.push Value.none)) hS₂ rfl
  refine wpAny_updateSeq (hz := by seq_fits) hS₃ rfl ?_
  have hS₄ := Heap.get?_update_self (Obj.mapSeq (·.pop)) hS₃ rfl
  have oth2 : ∀ b o, b ≠ S → s.heap.get? b = some o → (((s.heap.update S (Obj.mapSeq (fun _ => (#[] : Array Value)))).update S (Obj.mapSeq (·.push Value.none))).update S (Obj.mapSeq (·.pop))).get? b = some o :=
    fun b o hb e => (Heap.get?_update_other _ _ (Ne.symm hb)).trans ((Heap.get?_update_other _ _ (Ne.symm hb)).trans (oth b o hb e))
  refine wpAny_pure ⟨plainId_quiet F.plain_extend_loop _, glist_loop (nm := nm) (qn := qn) hh hl hroom haL hSL hSg hU U.length GO _ [] _ (Nat.le_refl _) ?_ hS₄ ?_ (fun _ h => nomatch h) fun h' tk' gens' DT c a1 a2 a3 a4 a5 a6 => hR h' tk' gens' DT c a1 a2 a3 (fun b o x1 x2 x3 e => a4 b o x1 x2 x3 (oth2 b o x2 e)) a5 a6⟩
  · exact G.after (fun b o e => oth2 b o (hkp b o e) (G.keeps b o e)) (oth2 _ _ hSa.symm G.obj) fun p hp => oth2 _ _ (hgo p hp) (G.go p hp).1
  · rw [Nat.sub_self]; exact .nil
theorem glist {A : Around} {s : Shared} {Q : Value → Shared → Prop} {E : Value → Shared → Prop} {L : Addr} {m : Str → Option Value} {nw GO : List (Addr × Obj)} (hh : A.handled = none) (hl : g.NoLimit) (hroom : A.depth < recursionLimit) (haL : a ≠ Lg) (hLL : L ≠ Lg) (hU : U.length ≤ 1000)
    (hLg : @LT.lt Nat _ Lg s.heap.objs.size)
    (G : GS w A.in1.in1 g Lg a k nm qn U U.length GO s) (Fm : Fr g L s.heap m) (N : News g L s.heap nw) (hc : Calm Lg nw)
    (hQ : ∀ (S : Addr) (h' : Heap) (tk' : Nat) (gens' : Array GenState) (DT : List (Addr × Obj)) (c : Nat), UTs U DT → (∀ p ∈ nw, p.1 ≠ S) → Fr g L h' m → News g L h' ((S, listOf (DT.map fun p => Value.ref p.1).toArray c) :: (nw ++ DT)) → GenOnlyQ k s.gens gens' →
      Q (.ref S) { s with heap := h', toks := tk', gens := gens' }) :
    wpAny (model PR w) A (call (.type "list") [.ref a]) Q E s := by
  refine callType_codes (Q₁ := fun obj s₁ => obj = .ref s.heap.objs.size ∧ s₁ = { s with heap := s.heap.push { cls := .type "list", data := .seq #[] } }) F.called_list (F.typeCall_list_1 _) F.entry_list_init
    (code_list_new _ ⟨rfl, rfl⟩) fun obj s₁ h₁ => ?_
  obtain ⟨rfl, rfl⟩ := h₁
  have hS : (s.heap.push { cls := .type "list", data := .seq #[] }).get? s.heap.objs.size = some { cls := .type "list", data := .seq #[] } := Heap.get?_push_size _ rfl
  have psh : ∀ b o, s.heap.get? b = some o → (s.heap.push { cls := .type "list", data := .seq #[] }).get? b = some o := fun b o e => Heap.get?_push_of_some _ e
  have hlt : ∀ b o, s.heap.get? b = some o → b ≠ s.heap.objs.size := fun b o e => Nat.ne_of_lt (Heap.lt_size e)
  have hSg : g.get? s.heap.objs.size = none := by
    cases hg : g.get? s.heap.objs.size with
    | none => rfl
    | some o => exact absurd (Heap.lt_size (Fm.keep _ _ hg)) (Nat.lt_irrefl _)
  refine ⟨⟨_, hS, rfl⟩, F.args_list_init_2 _ _, glist_code (A := A.in1) hh hl hroom haL (neN (a := s.heap.objs.size) (by lia)) hSg hU (G.after (fun b o e => psh _ _ (G.keeps b o e)) (psh _ _ G.obj) fun p hp => psh _ _ (G.go p hp).1) hS fun h' tk' gens' DT c a1 a2 a3 a4 a5 a6 => ?_⟩
  obtain ⟨o, es, ep, e1, hd, r⟩ := id Fm.ns
  have F' : Fr g L h' m := ⟨⟨o, es, ep, a4 _ _ hLL (hlt _ _ e1) (itc_dict hd) (psh _ _ e1), hd, r⟩, a5, Fm.above⟩
  refine ⟨rfl, hQ _ h' tk' gens' DT c a1 (fun p hp => hlt _ _ (N p hp).1) F' (fun p hp => ?_) a6⟩
  rcases List.mem_cons.mp hp with rfl | hp
  · exact ⟨a2, fun q => hlt _ _ e1 q.symm, hSg⟩
  · rcases List.mem_append.mp hp with hp | hp
    · exact ⟨a4 _ _ (hc p hp).1 (hlt _ _ (N p hp).1) (hc p hp).2 (psh _ _ (N p hp).1), (N p hp).2⟩
    · refine ⟨(a3 p hp).1, fun q => ?_, (a3 p hp).2.2⟩
      have e2 := (a3 p hp).1
      obtain ⟨o2, es2, ep2, e3, hd2, _⟩ := F'.ns
      rw [q, e3] at e2
      obtain ⟨x, y, e⟩ := a1.mem p hp
      rw [← Option.some.inj e2] at e
      rw [e] at hd2; cases hd2
end

def qt : Str := Str.ofString "\""
/-- one unit read by _strip_quoted_realnames: start, open_pos, the signs laid so far -/
def stS (c : List Nat) (z : Nat × Option Nat × List Nat) (u : Nat × Str) : Nat × Option Nat × List Nat :=
  if u.2 = qt then match z.2.1 with
    | none => (z.1, some u.1, z.2.2)
    | some o => (u.1 + 1, none, z.2.2 ++ (c.drop z.1).take (o - z.1))
  else z
def stripU (x : Str) : Nat × Option Nat × List Nat := (gout false 0 (signs x)).foldl (stS x.cps.toList) (0, none, [])
def stripS (x : Str) : Str := ⟨((stripU x).2.2 ++ x.cps.toList.drop (stripU x).1).toArray⟩
theorem two_ne (a : Str) : Str.ofString "\\" ++ a ≠ qt := by
  intro h
  have h1 := congrArg (fun s : Str => s.cps.toList.head?) h
  have e : (Str.ofString "\\" ++ a).cps.toList = 92 :: a.cps.toList := by
    show ((Str.ofString "\\").cps ++ a.cps).toList = _
    rw [Array.toList_append]; rfl
  rw [e] at h1
  revert h1
  exact (by decide : ¬ (some 92 = qt.cps.toList.head?))
theorem gout_at : ∀ (as : List Str) (esc : Bool) (i : Nat) (u : Nat × Str), u ∈ gout esc i as → u.2 = qt → i ≤ u.1 ∧ u.1 < i + as.length ∧ qt ∈ as
  | [], esc, i, u, h, e => by
    cases esc
    · cases h
    · rw [gout, if_pos rfl] at h
      rw [List.mem_singleton.mp h] at e
      exact absurd e (show Str.ofString "\\" ≠ qt by decide)
  | a :: as, true, i, u, h, e => by
    rw [gout] at h
    rcases List.mem_cons.mp h with rfl | h
    · exact absurd e (two_ne a)
    · obtain ⟨h1, h2, h3⟩ := gout_at as false (i + 1) u h e
      exact ⟨by lia, by rw [List.length_cons]; lia, .tail _ h3⟩
  | a :: as, false, i, u, h, e => by
    rw [gout] at h
    split at h
    · obtain ⟨h1, h2, h3⟩ := gout_at as true (i + 1) u h e
      exact ⟨by lia, by rw [List.length_cons]; lia, .tail _ h3⟩
    · rcases List.mem_cons.mp h with rfl | h
      · exact ⟨Nat.le_refl _, by rw [List.length_cons]; show i < _; lia, by rw [← e]; exact .head _⟩
      · obtain ⟨h1, h2, h3⟩ := gout_at as false (i + 1) u h e
        exact ⟨by lia, by rw [List.length_cons]; lia, .tail _ h3⟩
theorem gout_sorted : ∀ (as : List Str) (esc : Bool) (i : Nat), (gout esc i as).Pairwise (fun u v => v.2 = qt → u.1 < v.1)
  | [], esc, i => by
    cases esc
    · exact .nil
    · rw [gout, if_pos rfl]; exact .cons (fun _ h => nomatch h) .nil
  | a :: as, true, i => by
    rw [gout]
    exact .cons (fun v hv e => (gout_at as false (i + 1) v hv e).1) (gout_sorted as false (i + 1))
  | a :: as, false, i => by
    rw [gout]
    split
    · exact gout_sorted as true (i + 1)
    · exact .cons (fun v hv e => (gout_at as false (i + 1) v hv e).1) (gout_sorted as false (i + 1))
theorem gout_len : ∀ (as : List Str) (esc : Bool) (i : Nat), (gout esc i as).length ≤ as.length + 1
  | [], esc, i => by cases esc <;> simp [gout]
  | a :: as, true, i => by rw [gout, List.length_cons, List.length_cons]; have := gout_len as false (i + 1); lia
  | a :: as, false, i => by
    rw [gout]
    split
    · have := gout_len as true (i + 1); rw [List.length_cons]; lia
    · have := gout_len as false (i + 1); rw [List.length_cons, List.length_cons]; lia
structure StB (n : Nat) (V : List (Nat × Str)) (z : Nat × Option Nat × List Nat) : Prop where
  le : z.1 ≤ n
  op : ∀ o, z.2.1 = some o → z.1 ≤ o ∧ o < n
  nx : ∀ v ∈ V, v.2 = qt → z.1 ≤ v.1 ∧ v.1 < n ∧ ∀ o, z.2.1 = some o → o < v.1
theorem stB_step {c : List Nat} {n : Nat} {u : Nat × Str} {V : List (Nat × Str)} {z : Nat × Option Nat × List Nat} (hs : (u :: V).Pairwise (fun u v => v.2 = qt → u.1 < v.1)) (B : StB n (u :: V) z) : StB n V (stS c z u) := by
  unfold stS
  have hs' := List.pairwise_cons.mp hs
  split
  · rename_i hq
    have hu := B.nx u (.head _) hq
    split
    · rename_i ho
      refine ⟨B.le, fun o h => ?_, fun v hv e => ?_⟩
      · cases h; exact ⟨hu.1, hu.2.1⟩
      · have hv' := B.nx v (.tail _ hv) e
        refine ⟨hv'.1, hv'.2.1, fun o h => ?_⟩
        cases h; exact hs'.1 v hv e
    · refine ⟨hu.2.1, fun o h => (nomatch h), fun v hv e => ?_⟩
      exact ⟨hs'.1 v hv e, (B.nx v (.tail _ hv) e).2.1, fun o h => (nomatch h)⟩
  · exact ⟨B.le, B.op, fun v hv e => B.nx v (.tail _ hv) e⟩
theorem stB_fold {c : List Nat} {n : Nat} : ∀ (i : Nat) (V : List (Nat × Str)) (z : Nat × Option Nat × List Nat), V.Pairwise (fun u v => v.2 = qt → u.1 < v.1) → StB n V z → StB n (V.drop i) ((V.take i).foldl (stS c) z)
  | 0, _, _, _, B => B
  | i + 1, [], _, _, B => by simpa using B
  | i + 1, u :: V, z, hs, B => stB_fold i V _ (List.pairwise_cons.mp hs).2 (stB_step hs B)
theorem stB_at (x : Str) (i : Nat) : StB x.length ((gout false 0 (signs x)).drop i) (((gout false 0 (signs x)).take i).foldl (stS x.cps.toList) (0, none, [])) := by
  refine stB_fold i _ _ (gout_sorted _ _ _) ⟨Nat.zero_le _, fun o h => (nomatch h), fun v hv e => ?_⟩
  obtain ⟨h1, h2, _⟩ := gout_at _ _ _ v hv e
  rw [signs_length] at h2
  exact ⟨Nat.zero_le _, by lia, fun o h => (nomatch h)⟩
theorem stS_id {c : List Nat} : ∀ (V : List (Nat × Str)) (z : Nat × Option Nat × List Nat), (∀ u ∈ V, u.2 ≠ qt) → V.foldl (stS c) z = z
  | [], _, _ => rfl
  | u :: V, z, h => by
    rw [List.foldl_cons, stS, if_neg (h u (.head _))]
    exact stS_id V z fun v hv => h v (.tail _ hv)
theorem stripS_no {x : Str} (h : (Builtin.Str.occurrences x (Str.ofString "\"") 0 x.length 1).isEmpty = true) : stripS x = x := by
  have h' : (Builtin.Str.occurrences x ⟨#[34]⟩ 0 x.length 1).isEmpty = true := h
  rw [empty_one] at h'
  have hq : qt ∉ signs x := fun hm => by
    rw [signs_def] at hm
    obtain ⟨c, hc, e⟩ := List.mem_map.mp hm
    have : c = 34 := by
      have := congrArg (fun s : Str => s.cps.toList) e
      have e2 : qt.cps.toList = [34] := by decide
      rw [e2] at this
      simpa using this
    subst this
    simp [hc] at h'
  have : stripU x = (0, none, []) := stS_id _ _ fun u hu e => hq (gout_at _ _ _ u hu e).2.2
  unfold stripS
  rw [this]
  simp
theorem slice_mid {x : Str} {i j : Nat} (h1 : i ≤ j) (h2 : j ≤ x.length) : (Txt.slice x (some (i : Int)) (some (j : Int))).cps.toList = (x.cps.toList.drop i).take (j - i) := by
  have h := slice_closesL (x := x) (i := (i : Int)) (j := (j : Int)) (by lia) (by lia) (by lia)
  rw [eq_of_beq h]
  simp only [Int.toNat_natCast]
  congr 1; lia
theorem slice_end {x : Str} {i : Nat} (h1 : i ≤ x.length) : (Txt.slice x (some (i : Int)) none).cps.toList = x.cps.toList.drop i := by
  rw [slice_from_eq (x := x) (i := (i : Int)) (b := x.length) (by lia) (by lia) rfl]
  simp only [Int.toNat_natCast]
  rw [List.take_of_length_le]
  rw [List.length_drop]
  have : x.cps.toList.length = x.length := by simp [Str.length]
  lia
def smS (st : Nat) (op : Option Nat) (t1 t2 : Tok) (x1 x2 : Option Value) (m0 : Str → Option Value) : Str → Option Value := fun y => if y = Str.ofString "ch" then x1 else if y = Str.ofString "pos" then x2 else if y = Str.ofString "open_pos" then some (match op with | none => .none | some o => .int (o : Nat) t2) else if y = Str.ofString "start" then some (.int (st : Nat) t1) else m0 y
theorem smS_eq {st : Nat} {op : Option Nat} {t1 t2 : Tok} {x1 x2 : Option Value} {m0 m : Str → Option Value} (h1 : m (Str.ofString "ch") = x1) (h2 : m (Str.ofString "pos") = x2) (h3 : m (Str.ofString "open_pos") = some (match op with | none => .none | some o => .int (o : Nat) t2)) (h4 : m (Str.ofString "start") = some (.int (st : Nat) t1))
    (h5 : ∀ y, y ≠ Str.ofString "ch" → y ≠ Str.ofString "pos" → y ≠ Str.ofString "open_pos" → y ≠ Str.ofString "start" → m y = m0 y) : m = smS st op t1 t2 x1 x2 m0 := by
  funext y
  unfold smS
  by_cases e1 : y = Str.ofString "ch"
  · rw [if_pos e1, e1, h1]
  · rw [if_neg e1]
    by_cases e2 : y = Str.ofString "pos"
    · rw [if_pos e2, e2, h2]
    · rw [if_neg e2]
      by_cases e3 : y = Str.ofString "open_pos"
      · rw [if_pos e3, e3, h3]
      · rw [if_neg e3]
        by_cases e4 : y = Str.ofString "start"
        · rw [if_pos e4, e4, h4]
        · rw [if_neg e4]; exact h5 y e1 e2 e3 e4

/-- which signs are quotation marks that no backslash takes -/
def mk : Bool → List Str → List Bool
  | _, [] => []
  | true, _ :: as => false :: mk false as
  | false, a :: as => decide (a = qt) :: mk (decide (a = Str.ofString "\\")) as
/-- which places are shown -/
def shs : Bool → List Bool → List Bool
  | _, [] => []
  | q, false :: bs => (!q) :: shs q bs
  | true, true :: bs => false :: shs false bs
  | false, true :: bs => if bs.any id then false :: shs true bs else true :: shs false bs
/-- which marks make pairs -/
def prs : Bool → List Bool → List Bool
  | _, [] => []
  | q, false :: bs => false :: prs q bs
  | true, true :: bs => true :: prs false bs
  | false, true :: bs => if bs.any id then true :: prs true bs else false :: prs false bs
def sel {α : Type} : List Bool → List α → List α
  | b :: bs, a :: as => if b then a :: sel bs as else sel bs as
  | _, _ => []
theorem mk_length : ∀ (as : List Str) (e : Bool), (mk e as).length = as.length
  | [], e => by cases e <;> rfl
  | a :: as, true => by rw [mk, List.length_cons, mk_length as, List.length_cons]
  | a :: as, false => by rw [mk, List.length_cons, mk_length as, List.length_cons]
theorem shs_length : ∀ (bs : List Bool) (q : Bool), (shs q bs).length = bs.length
  | [], q => by cases q <;> rfl
  | false :: bs, q => by cases q <;> simp [shs, shs_length bs]
  | true :: bs, true => by simp [shs, shs_length bs]
  | true :: bs, false => by rw [shs]; split <;> simp [shs_length bs]
theorem prs_length : ∀ (bs : List Bool) (q : Bool), (prs q bs).length = bs.length
  | [], q => by cases q <;> rfl
  | false :: bs, q => by cases q <;> simp [prs, prs_length bs]
  | true :: bs, true => by simp [prs, prs_length bs]
  | true :: bs, false => by rw [prs]; split <;> simp [prs_length bs]
theorem shs_none : ∀ (bs : List Bool), bs.any id = false → shs false bs = List.replicate bs.length true
  | [], _ => rfl
  | true :: bs, h => by simp at h
  | false :: bs, h => by
    have h' : bs.any id = false := by simpa using h
    rw [shs, shs_none bs h', List.length_cons, List.replicate_succ]; rfl
theorem prs_none : ∀ (bs : List Bool), bs.any id = false → prs false bs = List.replicate bs.length false
  | [], _ => rfl
  | true :: bs, h => by simp at h
  | false :: bs, h => by
    have h' : bs.any id = false := by simpa using h
    rw [prs, prs_none bs h', List.length_cons, List.replicate_succ]
theorem sel_all {α : Type} : ∀ (as : List α), sel (List.replicate as.length true) as = as
  | [] => rfl
  | a :: as => by rw [List.length_cons, List.replicate_succ, sel, if_pos rfl, sel_all as]
theorem mk_ne (e : Bool) (a : Str) (h : a ≠ qt) (as : List Str) : mk e (a :: as) = false :: mk (!e && decide (a = Str.ofString "\\")) as := by
  cases e
  · rw [mk, decide_eq_false h]; rfl
  · rw [mk]; rfl
theorem take_more {c : List Nat} {i st : Nat} {ch : Nat} {cs : List Nat} (h : c.drop i = ch :: cs) (hs : st ≤ i) : (c.drop st).take (i + 1 - st) = (c.drop st).take (i - st) ++ [ch] := by
  have hi : c[i]? = some ch := by rw [← List.head?_drop, h]; rfl
  have e : i + 1 - st = (i - st) + 1 := by lia
  rw [e, List.take_add_one, List.getElem?_drop, show st + (i - st) = i by lia, hi]; rfl
theorem drop_next {c : List Nat} {i : Nat} {ch : Nat} {cs : List Nat} (h : c.drop i = ch :: cs) : c.drop (i + 1) = cs := by
  rw [← List.tail_drop, h]; rfl
theorem bs_ne_qt : Str.ofString "\\" ≠ qt := by decide
theorem strip_gen (c : List Nat) : ∀ (cs : List Nat) (e : Bool) (i st : Nat) (acc : List Nat), c.drop i = cs → i ≤ c.length → st ≤ i →
    ((∀ r, r = (gout e i (cs.map fun n => (⟨#[n]⟩ : Str))).foldl (stS c) (st, none, acc) → r.2.2 ++ c.drop r.1 = acc ++ (c.drop st).take (i - st) ++ sel (shs false (mk e (cs.map fun n => (⟨#[n]⟩ : Str)))) cs) ∧
     (∀ o r, st ≤ o → o < i → r = (gout e i (cs.map fun n => (⟨#[n]⟩ : Str))).foldl (stS c) (st, some o, acc) → r.2.2 ++ c.drop r.1 = if (mk e (cs.map fun n => (⟨#[n]⟩ : Str))).any id then acc ++ (c.drop st).take (o - st) ++ sel (shs true (mk e (cs.map fun n => (⟨#[n]⟩ : Str)))) cs else acc ++ c.drop st))
  | [], e, i, st, acc, hc, hi, hs => by
    have hl : c.length ≤ i := List.drop_eq_nil_iff.mp hc
    have hg : ∀ z, (gout e i (([] : List Nat).map fun n => (⟨#[n]⟩ : Str))).foldl (stS c) z = z := fun z => by
      refine stS_id _ _ fun u hu => ?_
      cases e
      · cases hu
      · have : u ∈ [(i - 1, Str.ofString "\\")] := hu
        rw [List.mem_singleton.mp this]; exact bs_ne_qt
    refine ⟨fun r hr => ?_, fun o r h1 h2 hr => ?_⟩
    · rw [hg] at hr; subst hr
      rw [List.take_of_length_le (by rw [List.length_drop]; lia)]
      cases e <;> simp [sel, mk, shs]
    · rw [hg] at hr; subst hr
      cases e <;> simp [mk]
  | ch :: cs, true, i, st, acc, hc, hi, hs => by
    have hd := drop_next hc
    have hil : i < c.length := by
      rcases Nat.lt_or_ge i c.length with h | h
      · exact h
      · rw [List.drop_eq_nil_of_le h] at hc; cases hc
    obtain ⟨i1, i2⟩ := strip_gen c cs false (i + 1) st acc hd hil (by lia)
    rw [List.map_cons, gout, mk]
    refine ⟨fun r hr => ?_, fun o r h1 h2 hr => ?_⟩
    · rw [List.foldl_cons, show stS c (st, none, acc) (i, Str.ofString "\\" ++ ⟨#[ch]⟩) = (st, none, acc) by rw [stS, if_neg (two_ne _)]] at hr
      rw [i1 r hr, take_more hc hs, shs]
      simp [sel]
    · rw [List.foldl_cons, show stS c (st, some o, acc) (i, Str.ofString "\\" ++ ⟨#[ch]⟩) = (st, some o, acc) by rw [stS, if_neg (two_ne _)]] at hr
      rw [i2 o r h1 (by lia) hr, shs]
      simp [sel]
  | ch :: cs, false, i, st, acc, hc, hi, hs => by
    have hd := drop_next hc
    have hil : i < c.length := by
      rcases Nat.lt_or_ge i c.length with h | h
      · exact h
      · rw [List.drop_eq_nil_of_le h] at hc; cases hc
    rw [List.map_cons, gout, mk]
    by_cases hb : (⟨#[ch]⟩ : Str) = Str.ofString "\\"
    · obtain ⟨i1, i2⟩ := strip_gen c cs true (i + 1) st acc hd hil (by lia)
      have hq : (⟨#[ch]⟩ : Str) ≠ qt := by rw [hb]; exact bs_ne_qt
      rw [if_pos hb, decide_eq_true hb, decide_eq_false hq]
      refine ⟨fun r hr => ?_, fun o r h1 h2 hr => ?_⟩
      · rw [i1 r hr, take_more hc hs, shs]
        simp [sel]
      · rw [i2 o r h1 (by lia) hr, shs]
        simp [sel]
    · rw [if_neg hb, decide_eq_false hb]
      by_cases hq : (⟨#[ch]⟩ : Str) = qt
      · rw [decide_eq_true hq]
        refine ⟨fun r hr => ?_, fun o r h1 h2 hr => ?_⟩
        · obtain ⟨i1, i2⟩ := strip_gen c cs false (i + 1) st acc hd hil (by lia)
          rw [List.foldl_cons, show stS c (st, none, acc) (i, (⟨#[ch]⟩ : Str)) = (st, some i, acc) by rw [stS, if_pos hq]] at hr
          rw [i2 i r hs (by lia) hr, shs]
          by_cases ha : (mk false (cs.map fun n => (⟨#[n]⟩ : Str))).any id = true
          · rw [if_pos ha, if_pos ha]; simp [sel]
          · have ha' : (mk false (cs.map fun n => (⟨#[n]⟩ : Str))).any id = false := by simpa using ha
            rw [if_neg ha, if_neg ha, shs_none _ ha', mk_length, List.length_map]
            have : sel (true :: List.replicate cs.length true) (ch :: cs) = ch :: cs := by rw [sel, if_pos rfl, sel_all]
            rw [this, List.append_assoc, ← hc]
            congr 1
            have e : c.drop i = (c.drop st).drop (i - st) := by rw [List.drop_drop]; congr 1; lia
            rw [e, List.take_append_drop]
        · obtain ⟨i1, i2⟩ := strip_gen c cs false (i + 1) (i + 1) (acc ++ (c.drop st).take (o - st)) hd hil (by lia)
          rw [List.foldl_cons, show stS c (st, some o, acc) (i, (⟨#[ch]⟩ : Str)) = (i + 1, none, acc ++ (c.drop st).take (o - st)) by rw [stS, if_pos hq]] at hr
          rw [i1 r hr, shs]
          simp [sel]
      · obtain ⟨i1, i2⟩ := strip_gen c cs false (i + 1) st acc hd hil (by lia)
        rw [decide_eq_false hq]
        refine ⟨fun r hr => ?_, fun o r h1 h2 hr => ?_⟩
        · rw [List.foldl_cons, show stS c (st, none, acc) (i, (⟨#[ch]⟩ : Str)) = (st, none, acc) by rw [stS, if_neg hq]] at hr
          rw [i1 r hr, take_more hc hs, shs]
          simp [sel]
        · rw [List.foldl_cons, show stS c (st, some o, acc) (i, (⟨#[ch]⟩ : Str)) = (st, some o, acc) by rw [stS, if_neg hq]] at hr
          rw [i2 o r h1 (by lia) hr, shs]
          simp [sel]
def SH (x : Str) : List Bool := shs false (mk false (signs x))
theorem SH_length (x : Str) : (SH x).length = x.length := by rw [SH, shs_length, mk_length, signs_length]
theorem strip_sel (x : Str) : (stripS x).cps.toList = sel (SH x) x.cps.toList := by
  have h := (strip_gen x.cps.toList x.cps.toList false 0 0 [] (by simp) (Nat.zero_le _) (Nat.le_refl _)).1 (stripU x) rfl
  unfold stripS
  rw [show ((⟨((stripU x).2.2 ++ x.cps.toList.drop (stripU x).1).toArray⟩ : Str)).cps.toList = (stripU x).2.2 ++ x.cps.toList.drop (stripU x).1 by simp, h]
  simp [SH, signs_def]
theorem sel_map {α β : Type} (f : α → β) : ∀ (bs : List Bool) (as : List α), sel bs (as.map f) = (sel bs as).map f
  | b :: bs, a :: as => by rw [List.map_cons, sel, sel, sel_map f bs as]; split <;> simp
  | [], [] => rfl
  | [], _ :: _ => rfl
  | _ :: _, [] => rfl
theorem strip_signs (x : Str) : signs (stripS x) = sel (SH x) (signs x) := by
  rw [signs_def, strip_sel, signs_def, sel_map]
/-- what each sign adds to the open brackets -/
def dls : List Bool → List Int → List Str → List Int
  | b :: bs, t :: ts, a :: as => (if b = true ∧ t = 0 then (if a = Str.ofString "(" then 1 else if a = Str.ofString ")" then -1 else 0) else 0) :: dls bs ts as
  | _, _, _ => []
def chk : Int → List (Nat × Str) → Bool
  | o, [] => decide (o = 0)
  | o, u :: us => if u.2 = Str.ofString "(" then chk (o + 1) us else if u.2 = Str.ofString ")" then (if o - 1 < 0 then false else chk (o - 1) us) else chk o us
def checkS (x : Str) : Bool := chk 0 (gout false 0 (signs (stripS x)))
def chkD : Int → List Int → Bool
  | o, [] => decide (o = 0)
  | o, d :: ds => if o + d < 0 then false else chkD (o + d) ds
theorem chkD_zero {o : Int} (h : 0 ≤ o) (ds : List Int) : chkD o (0 :: ds) = chkD o ds := by
  rw [chkD, if_neg (by lia), Int.add_zero]
theorem two_ne2 (a b : Str) (hb : b.cps.toList.head? ≠ some 92) : Str.ofString "\\" ++ a ≠ b := by
  intro h
  have h1 := congrArg (fun s : Str => s.cps.toList.head?) h
  have e : (Str.ofString "\\" ++ a).cps.toList = 92 :: a.cps.toList := by
    show ((Str.ofString "\\").cps ++ a.cps).toList = _
    rw [Array.toList_append]; rfl
  rw [e] at h1
  exact hb h1.symm
theorem chk_skip {o : Int} {u : Nat × Str} {us : List (Nat × Str)} (h1 : u.2 ≠ Str.ofString "(") (h2 : u.2 ≠ Str.ofString ")") : chk o (u :: us) = chk o us := by
  rw [chk, if_neg h1, if_neg h2]
def bitsS (as : List Str) : List Int := as.map fun a => if a = Str.ofString "\\" then 1 else 0
theorem chk_gen : ∀ (as : List Str) (e q : Bool) (o : Int) (i : Nat), 0 ≤ o →
    chk o (gout (!q && e) i (sel (shs q (mk e as)) as)) = chkD o (dls (shs q (mk e as)) (escA (if e then 1 else 0) (bitsS as)) as)
  | [], e, q, o, i, h => by
    have h1 : sel (shs q (mk e ([] : List Str))) ([] : List Str) = [] := by cases e <;> cases q <;> rfl
    have h2 : dls (shs q (mk e ([] : List Str))) (escA (if e then 1 else 0) (bitsS [])) [] = [] := by cases e <;> cases q <;> rfl
    rw [h1, h2, chkD]
    cases hh : (!q && e)
    · rfl
    · show chk o [(i - 1, Str.ofString "\\")] = _
      rw [chk_skip (show Str.ofString "\\" ≠ Str.ofString "(" by decide) (show Str.ofString "\\" ≠ Str.ofString ")" by decide), chk]
  | a :: as, true, q, o, i, h => by
    have ih := chk_gen as false q o
    have he : escA (if true = true then (1 : Int) else 0) (bitsS (a :: as)) = 1 :: escA 0 (bitsS as) := by
      show escA 1 ((if a = Str.ofString "\\" then (1 : Int) else 0) :: bitsS as) = _
      rw [escA, if_neg (by lia)]
    rw [he, mk]
    cases q with
    | false =>
      rw [shs, sel, if_pos (by decide), dls, if_neg (by lia), chkD_zero h]
      show chk o (gout true i (a :: _)) = _
      rw [gout, chk_skip (two_ne2 _ _ (by decide)) (two_ne2 _ _ (by decide))]
      exact ih (i + 1) h
    | true =>
      rw [shs, sel, if_neg (by decide), dls, if_neg (by simp), chkD_zero h]
      exact ih i h
  | a :: as, false, q, o, i, h => by
    have he : escA (if false = true then (1 : Int) else 0) (bitsS (a :: as)) = 0 :: escA (if a = Str.ofString "\\" then 1 else 0) (bitsS as) := by
      show escA 0 ((if a = Str.ofString "\\" then (1 : Int) else 0) :: bitsS as) = _
      rw [escA]
      by_cases hb : a = Str.ofString "\\"
      · rw [if_pos hb, if_pos (by simp)]
      · rw [if_neg hb, if_neg (by lia)]
    rw [he, mk]
    by_cases hb : a = Str.ofString "\\"
    · have ih := chk_gen as true q o
      have hq : a ≠ qt := by rw [hb]; exact bs_ne_qt
      rw [decide_eq_true hb, decide_eq_false hq, if_pos hb]
      have h1 : a ≠ Str.ofString "(" := by rw [hb]; decide
      have h2 : a ≠ Str.ofString ")" := by rw [hb]; decide
      cases q with
      | false =>
        rw [shs, sel, if_pos (by decide), dls, if_neg h1, if_neg h2, ite_self, chkD_zero h]
        show chk o (gout false i (a :: _)) = _
        rw [gout, if_pos hb]
        exact ih (i + 1) h
      | true =>
        rw [shs, sel, if_neg (by decide), dls, if_neg (by simp), chkD_zero h]
        exact ih i h
    · rw [decide_eq_false hb, if_neg hb]
      by_cases hq : a = qt
      · rw [decide_eq_true hq]
        have h1 : a ≠ Str.ofString "(" := by rw [hq]; decide
        have h2 : a ≠ Str.ofString ")" := by rw [hq]; decide
        cases q with
        | true =>
          rw [shs, sel, if_neg (by decide), dls, if_neg h1, if_neg h2, ite_self, chkD_zero h]
          exact chk_gen as false false o i h
        | false =>
          rw [shs]
          split
          · rw [sel, if_neg (by decide), dls, if_neg h1, if_neg h2, ite_self, chkD_zero h]
            exact chk_gen as false true o i h
          · rw [sel, if_pos rfl, dls, if_neg h1, if_neg h2, ite_self, chkD_zero h]
            show chk o (gout false i (a :: _)) = _
            rw [gout, if_neg hb, chk_skip h1 h2]
            exact chk_gen as false false o (i + 1) h
      · rw [decide_eq_false hq]
        cases q with
        | true =>
          rw [shs, sel, if_neg (by decide), dls, if_neg (by simp), chkD_zero h]
          exact chk_gen as false true o i h
        | false =>
          rw [shs, sel, if_pos (by decide), dls]
          show chk o (gout false i (a :: _)) = _
          rw [gout, if_neg hb]
          by_cases h1 : a = Str.ofString "("
          · rw [if_pos (by simp), if_pos h1, chk, if_pos h1, chkD, if_neg (by lia)]
            exact chk_gen as false false (o + 1) (i + 1) (by lia)
          · by_cases h2 : a = Str.ofString ")"
            · rw [if_pos (by simp), if_neg h1, if_pos h2, chk, if_neg h1, if_pos h2, chkD]
              by_cases h3 : o - 1 < 0
              · rw [if_pos h3, if_pos (by lia)]
              · rw [if_neg h3, if_neg (by lia)]
                exact chk_gen as false false (o - 1) (i + 1) (by lia)
            · rw [if_neg h1, if_neg h2, ite_self, chk_skip h1 h2, chkD_zero h]
              exact chk_gen as false false o (i + 1) h
/-- the signs that a backslash takes -/
def TK (x : Str) : List Int := escA 0 (bitsS (signs x))
def CC (x : Str) : List Int := dls (SH x) (TK x) (signs x)
theorem check_eq (x : Str) : checkS x = chkD 0 (CC x) := by
  unfold checkS CC SH TK
  rw [strip_signs]
  exact chk_gen (signs x) false false 0 0 (Int.le_refl _)

theorem stop_in {P : Prop} (h : P) : Stop P := h
theorem str_ext {a b : Str} (h : a.cps.toList = b.cps.toList) : a = b := by
  obtain ⟨⟨a⟩⟩ := a; obtain ⟨⟨b⟩⟩ := b
  have : a = b := h
  rw [this]
theorem glued_flat : ∀ (r : List Str) (x : Array Nat), (r.foldl (fun acc p => acc ++ (Str.ofString "").cps ++ p.cps) x).toList = x.toList ++ (r.map fun p => p.cps.toList).flatten
  | [], x => by simp
  | a :: r, x => by
    rw [List.foldl_cons, glued_flat r]
    have : (Str.ofString "").cps = #[] := by decide
    simp [this]
theorem join_flat (l : List Str) : (Txt.join (Str.ofString "") l).cps.toList = (l.map fun p => p.cps.toList).flatten := by
  show (Builtin.Str.glued (Str.ofString "") l).cps.toList = _
  rw [StrLaws.glued_eq_join]
  cases l with
  | nil => rfl
  | cons a r =>
    rw [← StrLaws.glued_cons]
    show (r.foldl (fun acc p => acc ++ (Str.ofString "").cps ++ p.cps) a.cps).toList = _
    rw [glued_flat]; simp
theorem flat_len (l : List Str) : (l.map (·.length)).sum = ((l.map fun p => p.cps.toList).flatten).length := by
  rw [List.length_flatten, List.map_map]; rfl
theorem sel_len {α : Type} : ∀ (bs : List Bool) (as : List α), (sel bs as).length ≤ as.length
  | b :: bs, a :: as => by
    have := sel_len bs as
    rw [sel]; split <;> simp only [List.length_cons] <;> lia
  | [], [] => Nat.le_refl _
  | [], _ :: _ => Nat.zero_le _
  | _ :: _, [] => Nat.le_refl _
inductive StJ (U : List (Nat × Str)) (c : List Nat) (m0 : Str → Option Value) (R : Addr) (TT : List (Addr × Obj)) (i : Nat) (m : Str → Option Value) (nw : List (Addr × Obj)) : Prop
  | mk (st : Nat) (op : Option Nat) (acc : List Nat) (ps : List Str) (pvs : List Value) (ep : Nat) (t1 t2 : Tok) (x1 x2 : Option Value) (hf : (U.take i).foldl (stS c) (0, none, []) = (st, op, acc)) (hm : m = smS st op t1 t2 x1 x2 m0)
    (hnw : nw = (R, listOf pvs.toArray ep) :: TT) (hs : StrsAre pvs ps) (hac : (ps.map fun p => p.cps.toList).flatten = acc) (hpl : ps.length ≤ i)
section
variable {w : World} {mg mb : Str → Option Value} {LO : List Str} {mean : ExcName → Option Value} {dp un : Nat} {fr : Option (List Env)} {gd : Option (List Code)} {s : Shared} {g : Heap} {L : Addr} {m : Str → Option Value} {own news TT : List (Addr × Obj)}
  {Q : Value → Shared → Prop} {E : Value → Shared → Prop}
local macro_rules | `(tactic| walk_at "exec For") => `(tactic| (refine stop_out ?_))
local macro_rules | `(tactic| walk_at "exec For Tuple Call cons nil") => `(tactic| (refine stop_out ?_))
local macro_rules | `(tactic| walk_at "call ref") => `(tactic| (refine stop_out ?_))
local macro_rules | `(tactic| walk_at "call builtin:list.append") => `(tactic| (refine stop_out ?_))
theorem sp_strip {x : Str} {t : Tok} (I : Inv w mg mb LO mean g) (F : Fr g L s.heap m) (N : News g L s.heap news) (TL : TabL TT) (En : Ends own news TT) (hroom : dp < 850) (hxl : x.length ≤ 11)
    (hQ : ∀ (t' : Tok) h' tk' gens', (AllBare s.gens → AllBare gens') → Fr g L h' m → News g L h' (own ++ TT) → Q (.str (stripS x) t') { s with heap := h', toks := tk', gens := gens' }) :
    wpAny (model PR w) (mkA dp fr gd un) (call (.ref 28) [.str x t]) Q E s := by
  refine enterF (f := 28) [(Str.ofString "addr", .str x t)] I F N TL En (by lia) rfl (by kernel_rfl) rfl (by decide) (locs rfl) rfl ?_
  clear I F N
  intro g' L' h₁ t₁ mL ML eL AL sL I F N _ lv
  have X := I.X
  obtain rfl := En.eq
  k_steps
  · obtain ⟨F5, N5⟩ := lv.out F N .nil
    rw [stripS_no (by assumption)] at hQ
    exact hQ t _ _ _ id F5 N5
  unfold Stop
  refine wpAny_For ?_
  k_steps
  unfold Stop
  rename Fr _ _ _ _ => F1
  rename News _ _ _ _ => N1
  refine sp_iter I F1 N1 (by walk_at "my room") ?_
  intro a Lg oL nm qn h2 tk2 gs haL hnl F2 N2 hb hgo
  refine wpAny_pyIter_gen ⟨_, nm, qn, (N2 _ (.head _)).1, rfl, rfl, rfl⟩ ?_
  obtain ⟨m0, hm0, F0⟩ := fr_name F2
  have hLg := (N2 _ (.tail _ (.head _)))
  have GS0 : ∀ env : Env, GS w ((mkA dp fr gd un).deeper env) g' Lg a s.gens.size nm qn (gout false 0 (signs x)) (gout false 0 (signs x)).length [(Lg, oL)] { s with heap := h2, toks := tk2, gens := s.gens.push gs } :=
    fun env => ⟨F2.keep, (N2 _ (.head _)).1, fun p hp => by
      obtain rfl := List.mem_singleton.mp hp
      exact ⟨hLg.1, hLg.2.2, .inl rfl⟩, gs, by simp, hb, fun s'' hk hp => hgo _ _ _ _ (show dp + 1 < 950 by lia) s'' hk (hp _ (.head _))⟩
  have hBd := stB_at x
  have hUl := gout_len (signs x) false 0
  rw [signs_length] at hUl
  obtain ⟨U, hU⟩ : ∃ U, U = gout false 0 (signs x) := ⟨_, rfl⟩
  have hBare : AllBare s.gens → AllBare (s.gens.push gs) := fun h y hy => by
    rcases Array.mem_push.mp hy with hy | rfl
    · exact h y hy
    · exact hb
  have hSt : stripU x = U.foldl (stS x.cps.toList) (0, none, []) := by rw [hU]; rfl
  rw [← hU] at GS0 hBd hUl
  clear hgo hb hU
  rename_i R h3 lR h4 _ _ _ _
  obtain ⟨c, hc⟩ : ∃ c, c = x.cps.toList := ⟨_, rfl⟩
  rw [← hc] at hBd hSt
  obtain ⟨t0, ht0⟩ : ∃ t0, m0 (Str.ofString "start") = some (.int 0 t0) := by subst hm0; exact ⟨_, rfl⟩
  refine gfor (StJ U c m0 R TT) rfl I.T.nolimit (show dp + 1 < 1000 by lia) haL hLg.2.1.symm (N2 _ (.head _)).2.1 (N2 _ (.head _)).2.2 (GS0 _) F0 (fun p hp => N2 p (.tail _ (.tail _ hp))) ?calm ?init ?turn ?done
  case calm => exact .cons (hnl _ (.head _)).1 (itc_cls (c := "list") rfl (by decide)) (.tab TL fun p hp => (hnl p (.tail _ hp)).1)
  case init => exact ⟨0, none, [], [], [], 0, t0, 0, m0 (Str.ofString "ch"), m0 (Str.ofString "pos"), rfl, smS_eq rfl rfl (by subst hm0; rfl) ht0 fun _ _ _ _ _ => rfl, rfl, .nil, rfl, Nat.le_refl _⟩
  case turn =>
    rintro i u D u1 u2 h tk gens' GO' m nw hu ⟨st, op, acc, ps, pvs, ep, t1, t2, x1, x2, hf, rfl, rfl, hs, hac, hpl⟩ hcl F N hGO hq
    have N' : News g' L' h ((D, tup2 (.int (u.1 : Nat) u1) (.str u.2 u2)) :: (R, listOf pvs.toArray ep) :: (TT ++ ((a, genO s.gens.size nm qn) :: GO'))) := N
    have hiU : i < U.length := (List.getElem?_eq_some_iff.mp hu).1
    have hB := hBd i
    rw [hf] at hB
    have hf' : (U.take (i + 1)).foldl (stS c) (0, none, []) = stS c (st, op, acc) u := by
      rw [List.take_add_one, hu, List.foldl_append, hf]; rfl
    have hum : u ∈ U.drop i := by
      rw [List.drop_eq_getElem_cons hiU, ← (List.getElem?_eq_some_iff.mp hu).2]; exact .head _
    have hRest : ∀ {h : Heap} {o : Obj}, News g' L' h ((D, tup2 (.int (u.1 : Nat) u1) (.str u.2 u2)) :: (R, o) :: (TT ++ ((a, genO s.gens.size nm qn) :: GO'))) → o.cls = .type "list" → isF o = false → itc o = false → D ≠ R ∧ ∀ p ∈ TT ++ ((a, genO s.gens.size nm qn) :: GO'), p.1 ≠ R := fun N hc hF hI => by
      refine ⟨ne_news N (.head _) (.tail _ (.head _)) (fun e => by have := congrArg Obj.cls e; rw [hc] at this; exact absurd (Value.type.inj this) (by decide)), fun p hp => ?_⟩
      rcases List.mem_append.mp hp with hp' | hp'
      · exact ne_tab N TL (.tail _ (.head _)) hF (fun p hp => .tail _ (.tail _ (List.mem_append_left _ hp))) p hp'
      · rcases List.mem_cons.mp hp' with rfl | hp'
        · exact ne_news N (.tail _ (.tail _ hp)) (.tail _ (.head _)) (fun e => by have := congrArg Obj.cls e; rw [hc] at this; exact absurd (Value.type.inj this) (by decide))
        · rcases hGO p hp' with h1 | h1
          · rw [h1]; exact fun e => (hnl _ (.head _)).1 e.symm
          · exact ne_news N (.tail _ (.tail _ hp)) (.tail _ (.head _)) (fun e => by have := congrArg itc e; rw [h1] at this; rw [hI] at this; cases this)
    clear N F1 N1 N2 F0 hBd GS0
    have fin : ∀ {h2 : Heap} {tk2 : Nat} {m2 : Str → Option Value} {st' : Nat} {op' : Option Nat} {acc' : List Nat} {ps' : List Str} {pvs' : List Value} {ep' : Nat} {t1' t2' : Tok} {x1' x2' : Option Value}, stS c (st, op, acc) u = (st', op', acc') → m2 = smS st' op' t1' t2' x1' x2' m0 → Fr g' L' h2 m2 → News g' L' h2 ((D, tup2 (.int (u.1 : Nat) u1) (.str u.2 u2)) :: (R, listOf pvs'.toArray ep') :: (TT ++ ((a, genO s.gens.size nm qn) :: GO'))) → StrsAre pvs' ps' → (ps'.map fun p => p.cps.toList).flatten = acc' → ps'.length ≤ i + 1 →
        Stop (GT gens' s.drawn s.os g' L' a Lg s.gens.size nm qn GO' i (StJ U c m0 R TT) { heap := h2, gens := gens', drawn := s.drawn, toks := tk2, os := s.os }) :=
      fun {h2 tk2 m2 st' op' acc' ps' pvs' ep' t1' t2' x1' x2'} e1 e2 F N hs ha hl => ⟨h2, tk2, m2, (R, listOf pvs'.toArray ep') :: TT, rfl, F, news_part N (fun p hp => .tail _ hp), .cons (hnl _ (.head _)).1 (itc_cls (c := "list") rfl (by decide)) (.tab TL fun p hp => (hnl p (.tail _ hp)).1), st', op', acc', ps', pvs', ep', t1', t2', x1', x2', hf'.trans e1, e2, rfl, hs, ha, hl⟩
    subst hm0
    have hmx : ∀ {b : Bool}, (u.2 == Str.ofString "\"") = b → decide (u.2 = qt) = b := fun {b} h => by
      cases b
      · exact decide_eq_false (by simpa [qt] using h)
      · exact decide_eq_true (by simpa [qt] using h)
    unfold smS at F
    cases op with
    | none =>
      dsimp only at F
      k_steps
      · rename (u.snd == _) = true => hq
        have hq := of_decide_eq_true (hmx hq)
        refine fin (op' := some u.1) (by rw [stS, if_pos hq]) (smS_eq rfl rfl rfl rfl ?_) (by assumption) (by assumption) hs hac (by lia)
        intro y n1 n2 n3 n4
        simp only [if_neg n1, if_neg n2, if_neg n3, if_neg n4]
      · rename (u.snd == _) = false => hq
        have hq := of_decide_eq_false (hmx hq)
        refine fin (op' := none) (t2' := 0) (by rw [stS, if_neg hq]) (smS_eq rfl rfl rfl rfl ?_) (by assumption) (by assumption) hs hac (by lia)
        intro y n1 n2 n3 n4
        simp only [if_neg n1, if_neg n2, if_neg n3, if_neg n4]
    | some o =>
      dsimp only at F
      have hBo := hB.op o rfl
      k_steps
      · refine stop_in ?_
        rename Fr _ _ _ _ => F5
        rename News _ _ _ _ => N5
        rename (u.snd == _) = true => hq
        have hq := of_decide_eq_true (hmx hq)
        have hR := hRest N5 rfl rfl (itc_cls (c := "list") rfl (by decide))
        have hpl2 := hs.length
        refine append_K F5 N5 (.tail hR.1 (.head hR.2)) ?_ (by simp [sizeLine]; lia)
        clear F5 N5
        intro h6 F6 N6
        rw [List.push_toArray] at N6
        dsimp only at F6 N6 ⊢
        k_steps
        refine fin (op' := none) (t2' := 0) (st' := u.1 + 1) (by rw [stS, if_pos hq]) (smS_eq rfl rfl rfl rfl ?_) (by assumption) (by assumption) (hs.append' (.cons _ _ .nil)) ?_ (by simp; lia)
        · intro y n1 n2 n3 n4
          simp only [if_neg n1, if_neg n2, if_neg n3, if_neg n4]
        · rw [List.map_append, List.flatten_append, hac, hc]
          simp only [List.map_cons, List.map_nil, List.flatten_cons, List.flatten_nil, List.append_nil]
          rw [slice_mid hBo.1 (by lia)]
      · rename (u.snd == _) = true => hq
        have hq := of_decide_eq_true (hmx hq)
        refine fin (op' := none) (t2' := 0) (st' := u.1 + 1) (acc' := acc ++ (c.drop st).take (o - st)) (by rw [stS, if_pos hq]) (smS_eq rfl rfl rfl rfl ?_) (by assumption) (by assumption) hs ?_ (by lia)
        · intro y n1 n2 n3 n4
          simp only [if_neg n1, if_neg n2, if_neg n3, if_neg n4]
        · rw [hac, show o - st = 0 by lia]; simp
      · rename (u.snd == _) = false => hq
        have hq := of_decide_eq_false (hmx hq)
        refine fin (op' := some o) (by rw [stS, if_neg hq]) (smS_eq rfl rfl rfl rfl ?_) (by assumption) (by assumption) hs hac (by lia)
        intro y n1 n2 n3 n4
        simp only [if_neg n1, if_neg n2, if_neg n3, if_neg n4]
  case done =>
    rintro h tk gens' m nw ⟨st, op, acc, ps, pvs, ep, t1, t2, x1, x2, hf, rfl, rfl, hs, hac, hpl⟩ F N hq
    rw [List.take_length, ← hSt] at hf
    subst hm0
    clear F1 N1 N2 F0 GS0
    have hB := hBd U.length
    rw [List.take_length, ← hSt, hf] at hB
    have hst : st ≤ x.length := hB.le
    have hfin : acc ++ x.cps.toList.drop st = (stripS x).cps.toList := by
      rw [stripS, hf]
    have hlen : (stripS x).cps.toList.length ≤ 11 := by
      rw [strip_sel]
      refine Nat.le_trans (sel_len _ _) ?_
      have : x.cps.toList.length = x.length := by simp [Str.length]
      lia
    unfold smS at F
    dsimp only
    k_steps
    · refine stop_in ?_
      rename Fr _ _ _ _ => F5
      rename News _ _ _ _ => N5
      have hR : ∀ p ∈ TT, p.1 ≠ R := ne_tab N5 TL (.head _) rfl (fun p hp => .tail _ hp)
      have hpl2 := hs.length
      refine append_K F5 N5 (.head hR) ?_ (by simp [sizeLine]; lia)
      clear F5 N5
      intro h6 F6 N6
      rw [List.push_toArray] at N6
      dsimp only at F6 N6 ⊢
      k_steps
      rename Fr _ _ _ _ => F7
      rename News _ _ _ _ => N7
      refine join_list (News.isList N7 (.head _)) (ys := ps ++ [Txt.slice x (some (st : Int)) none]) (by exact hs.append' (.cons _ _ .nil)) ?_ ?_
      · have e := flat_len (ps ++ [Txt.slice x (some (st : Int)) none])
        have e2 : ((ps ++ [Txt.slice x (some (st : Int)) none]).map fun p => p.cps.toList).flatten = (stripS x).cps.toList := by
          rw [List.map_append, List.flatten_append, hac]
          simp only [List.map_cons, List.map_nil, List.flatten_cons, List.flatten_nil, List.append_nil]
          rw [slice_end hst, hfin]
        rw [e2] at e
        rw [show (Str.ofString "").length = 0 by decide, Nat.mul_zero]
        lia
      · intro t' k
        have eQ : Txt.join (Str.ofString "") (ps ++ [Txt.slice x (some (st : Int)) none]) = stripS x := by
          refine str_ext ?_
          rw [join_flat, List.map_append, List.flatten_append, hac]
          simp only [List.map_cons, List.map_nil, List.flatten_cons, List.flatten_nil, List.append_nil]
          rw [slice_end hst, hfin]
        rw [eQ]
        obtain ⟨F8, N8⟩ := lv.out F7 N7 (.cons rfl .nil)
        exact hQ t' _ _ _ (fun h => (hBare h).moved hq) F8 N8
    · rename Fr _ _ _ _ => F7
      rename News _ _ _ _ => N7
      have hd : x.cps.toList.drop st = [] := by
        refine List.drop_eq_nil_of_le ?_
        have : x.cps.toList.length = x.length := by simp [Str.length]
        lia
      rw [hd, List.append_nil] at hfin
      refine join_list (News.isList N7 (.head _)) (ys := ps) hs ?_ ?_
      · have e := flat_len ps
        rw [hac, hfin] at e
        rw [show (Str.ofString "").length = 0 by decide, Nat.mul_zero]
        lia
      · intro t' k
        have eQ : Txt.join (Str.ofString "") ps = stripS x := by
          refine str_ext ?_
          rw [join_flat, hac, hfin]
        rw [eQ]
        obtain ⟨F8, N8⟩ := lv.out F7 N7 (.cons rfl .nil)
        exact hQ t' _ _ _ (fun h => (hBare h).moved hq) F8 N8
end

theorem of_beq_eq {a b : Str} (h : (a == b) = true) : a = b := by simpa using h
theorem of_beq_ne {a b : Str} (h : (a == b) = false) : ¬ a = b := by simpa using h
def cmS (o : Int) (t1 : Tok) (x1 x2 : Option Value) (m0 : Str → Option Value) : Str → Option Value := fun y => if y = Str.ofString "ch" then x1 else if y = Str.ofString "pos" then x2 else if y = Str.ofString "opens" then some (.int o t1) else m0 y
theorem cmS_eq {o : Int} {t1 : Tok} {x1 x2 : Option Value} {m0 m : Str → Option Value} (h1 : m (Str.ofString "ch") = x1) (h2 : m (Str.ofString "pos") = x2) (h3 : m (Str.ofString "opens") = some (.int o t1))
    (h5 : ∀ y, y ≠ Str.ofString "ch" → y ≠ Str.ofString "pos" → y ≠ Str.ofString "opens" → m y = m0 y) : m = cmS o t1 x1 x2 m0 := by
  funext y
  unfold cmS
  by_cases e1 : y = Str.ofString "ch"
  · rw [if_pos e1, e1, h1]
  · rw [if_neg e1]
    by_cases e2 : y = Str.ofString "pos"
    · rw [if_pos e2, e2, h2]
    · rw [if_neg e2]
      by_cases e3 : y = Str.ofString "opens"
      · rw [if_pos e3, e3, h3]
      · rw [if_neg e3]; exact h5 y e1 e2 e3
inductive ChJ (U : List (Nat × Str)) (m0 : Str → Option Value) (TT : List (Addr × Obj)) (i : Nat) (m : Str → Option Value) (nw : List (Addr × Obj)) : Prop
  | mk (o : Int) (t1 : Tok) (x1 x2 : Option Value) (hc : chk 0 U = chk o (U.drop i)) (h0 : 0 ≤ o) (h1 : o ≤ i) (hm : m = cmS o t1 x1 x2 m0) (hnw : nw = TT)
section
variable {w : World} {mg mb : Str → Option Value} {LO : List Str} {mean : ExcName → Option Value} {dp un : Nat} {fr : Option (List Env)} {gd : Option (List Code)} {s : Shared} {g : Heap} {L : Addr} {m : Str → Option Value} {own news TT : List (Addr × Obj)}
  {Q : Value → Shared → Prop} {E : Value → Shared → Prop}
local macro_rules | `(tactic| walk_at "exec For") => `(tactic| (refine stop_out ?_))
local macro_rules | `(tactic| walk_at "exec For Tuple Call cons nil") => `(tactic| (refine stop_out ?_))
local macro_rules | `(tactic| walk_at "call ref") => `(tactic| (refine stop_out ?_))
theorem sp_check {x : Str} {t : Tok} (I : Inv w mg mb LO mean g) (F : Fr g L s.heap m) (N : News g L s.heap news) (TL : TabL TT) (En : Ends own news TT) (hroom : dp < 840) (hxl : x.length ≤ 11)
    (hQ : ∀ (t' : Tok) h' tk' gens', (AllBare s.gens → AllBare gens') → Fr g L h' m → News g L h' (own ++ TT) → Q (.bool (checkS x)) { s with heap := h', toks := tk', gens := gens' }) :
    wpAny (model PR w) (mkA dp fr gd un) (call (.ref 35) [.str x t]) Q E s := by
  refine enterF (f := 35) [(Str.ofString "addr", .str x t)] I F N TL En (by lia) rfl (by kernel_rfl) rfl (by decide) (locs rfl) rfl ?_
  clear I F N
  intro g' L' h₁ t₁ mL ML eL AL sL I F N _ lv
  have X := I.X
  obtain rfl := En.eq
  k_steps
  refine stop_in ?_
  refine sp_strip I (by assumption) (by assumption) TL .nil (by walk_at "my room") hxl ?_
  intro t1 h2 tk2 gens2 hb2 F N
  k_steps
  refine stop_in ?_
  refine wpAny_For ?_
  k_steps
  refine stop_in ?_
  rename Fr _ _ _ _ => F1
  rename News _ _ _ _ => N1
  refine sp_iter I F1 N1 (by walk_at "my room") ?_
  intro a Lg oL nm qn h2 tk2 gs haL hnl F2 N2 hb hgo
  refine wpAny_pyIter_gen ⟨_, nm, qn, (N2 _ (.head _)).1, rfl, rfl, rfl⟩ ?_
  obtain ⟨m0, hm0, F0⟩ := fr_name F2
  have hLg := (N2 _ (.tail _ (.head _)))
  have GS0 : ∀ env : Env, GS w ((mkA dp fr gd un).deeper env) g' Lg a gens2.size nm qn (gout false 0 (signs (stripS x))) (gout false 0 (signs (stripS x))).length [(Lg, oL)] { s with heap := h2, toks := tk2, gens := gens2.push gs } :=
    fun env => ⟨F2.keep, (N2 _ (.head _)).1, fun p hp => by
      obtain rfl := List.mem_singleton.mp hp
      exact ⟨hLg.1, hLg.2.2, .inl rfl⟩, gs, by simp, hb, fun s'' hk hp => hgo _ _ _ _ (show dp + 1 < 950 by lia) s'' hk (hp _ (.head _))⟩
  have hBare : AllBare gens2 → AllBare (gens2.push gs) := fun h y hy => by
    rcases Array.mem_push.mp hy with hy | rfl
    · exact h y hy
    · exact hb
  have hck : checkS x = chk 0 (gout false 0 (signs (stripS x))) := rfl
  have hUl := gout_len (signs (stripS x)) false 0
  have hsl : (stripS x).length ≤ 11 := by
    have e : (stripS x).length = (stripS x).cps.toList.length := by simp [Str.length]
    rw [e, strip_sel]
    refine Nat.le_trans (sel_len _ _) ?_
    have : x.cps.toList.length = x.length := by simp [Str.length]
    lia
  rw [signs_length] at hUl
  obtain ⟨U, hU⟩ : ∃ U, U = gout false 0 (signs (stripS x)) := ⟨_, rfl⟩
  rw [← hU] at GS0 hck hUl
  clear hgo hb hU
  obtain ⟨t0, ht0⟩ : ∃ t0, m0 (Str.ofString "opens") = some (.int 0 t0) := by subst hm0; exact ⟨_, rfl⟩
  refine gfor (ChJ U m0 TT) rfl I.T.nolimit (show dp + 1 < 1000 by lia) haL hLg.2.1.symm (N2 _ (.head _)).2.1 (N2 _ (.head _)).2.2 (GS0 _) F0 (fun p hp => N2 p (.tail _ (.tail _ hp))) ?calm ?init ?turn ?done
  case calm => exact .tab TL fun p hp => (hnl p hp).1
  case init => exact ⟨0, t0, m0 (Str.ofString "ch"), m0 (Str.ofString "pos"), rfl, Int.le_refl _, Int.le_refl _, cmS_eq rfl rfl ht0 fun _ _ _ _ => rfl, rfl⟩
  case turn =>
    rintro i u D u1 u2 h tk gens' GO' m nw hu ⟨o, t1, x1, x2, hck2, ho0, ho1, rfl, rfl⟩ hcl F N hGO hq
    have N' : News g' L' h ((D, tup2 (.int (u.1 : Nat) u1) (.str u.2 u2)) :: (nw ++ ((a, genO gens2.size nm qn) :: GO'))) := N
    have hiU : i < U.length := (List.getElem?_eq_some_iff.mp hu).1
    rw [List.drop_eq_getElem_cons hiU, (List.getElem?_eq_some_iff.mp hu).2, chk] at hck2
    clear N F1 N1 N2 F0 GS0
    have fin : ∀ {h2 : Heap} {tk2 : Nat} {m2 : Str → Option Value} {o' : Int} {t1' : Tok} {x1' x2' : Option Value}, chk 0 U = chk o' (U.drop (i + 1)) → 0 ≤ o' → o' ≤ o + 1 → m2 = cmS o' t1' x1' x2' m0 → Fr g' L' h2 m2 → News g' L' h2 ((D, tup2 (.int (u.1 : Nat) u1) (.str u.2 u2)) :: (nw ++ ((a, genO gens2.size nm qn) :: GO'))) →
        Stop (GT gens' s.drawn s.os g' L' a Lg gens2.size nm qn GO' i (ChJ U m0 nw) { heap := h2, gens := gens', drawn := s.drawn, toks := tk2, os := s.os }) :=
      fun {h2 tk2 m2 o' t1' x1' x2'} e1 e0 e3 e2 F N => ⟨h2, tk2, m2, nw, rfl, F, news_part N (fun p hp => .tail _ hp), .tab TL fun p hp => (hnl p hp).1, o', t1', x1', x2', e1, e0, by lia, e2, rfl⟩
    subst hm0
    unfold cmS at F
    k_steps
    · rename (u.snd == _) = true => hq1
      have hq1 := of_beq_eq hq1
      rw [if_pos hq1] at hck2
      refine fin hck2 (by lia) (by lia) (cmS_eq rfl rfl rfl ?_) (by assumption) (by assumption)
      intro y n1 n2 n3
      simp only [if_neg n1, if_neg n2, if_neg n3]
    · rename (u.snd == Str.ofString "(") = false => hq1
      have hq1 := of_beq_ne hq1
      rename (u.snd == _) = true => hq2
      have hq2 := of_beq_eq hq2
      rw [if_neg hq1, if_pos hq2, if_pos (by assumption)] at hck2
      rename Fr _ _ _ _ => F7
      rename News _ _ _ _ => N7
      obtain ⟨F8, N8⟩ := lv.out F7 (news_part (l' := nw) N7 fun p hp => .tail _ (List.mem_append_left _ hp)) .nil
      have key := fun h8 tk8 => hQ 0 h8 tk8 gens' (fun h => (hBare (hb2 h)).moved hq)
      rw [hck, hck2] at key
      exact key _ _ F8 N8
    · rename (u.snd == Str.ofString "(") = false => hq1
      have hq1 := of_beq_ne hq1
      rename (u.snd == _) = true => hq2
      have hq2 := of_beq_eq hq2
      rw [if_neg hq1, if_pos hq2, if_neg (by assumption)] at hck2
      refine fin hck2 (by lia) (by lia) (cmS_eq rfl rfl rfl ?_) (by assumption) (by assumption)
      intro y n1 n2 n3
      simp only [if_neg n1, if_neg n2, if_neg n3]
    · rename (u.snd == Str.ofString "(") = false => hq1
      have hq1 := of_beq_ne hq1
      rename (u.snd == _) = false => hq2
      have hq2 := of_beq_ne hq2
      rw [if_neg hq1, if_neg hq2] at hck2
      refine fin hck2 (by lia) (by lia) (cmS_eq rfl rfl rfl ?_) (by assumption) (by assumption)
      intro y n1 n2 n3
      simp only [if_neg n1, if_neg n2, if_neg n3]
  case done =>
    rintro h tk gens' m nw ⟨o, t1, x1, x2, hck2, ho0, ho1, rfl, rfl⟩ F N hq
    rw [List.drop_length, chk] at hck2
    subst hm0
    clear F1 N1 N2 F0 GS0
    unfold cmS at F
    dsimp only
    k_steps
    obtain ⟨F8, N8⟩ := lv.out F N .nil
    have key := fun h8 tk8 => hQ 0 h8 tk8 gens' (fun h => (hBare (hb2 h)).moved hq)
    rw [hck, hck2, show decide (o = 0) = (o == 0) from by by_cases h : o = 0 <;> simp [h]] at key
    exact key _ _ F8 N8
end

def defAt (k : Nat) : Option (List Stmt × Scope) := match PR.main.body[k]? with
  | some (.FunctionDef _ _ body _ _ _ scope _ _ _) => some (body, scope)
  | _ => none
def oneBody : List Stmt := match defAt 17 with | some p => p.1 | none => []
def oneScope : Scope := match defAt 17 with | some p => p.2 | none => { kind := .function, names := [], isGenerator := false, isCoroutine := false }
theorem cells_six {cm : Str → Option Value} {n₁ n₂ n₃ n₄ n₅ n₆ : Str} {c₁ c₂ c₃ c₄ c₅ c₆ : Addr} {cells : List (Addr × Obj)} (x : CellsAre cm [(n₁, c₁), (n₂, c₂), (n₃, c₃), (n₄, c₄), (n₅, c₅), (n₆, c₆)] cells) :
    ∃ o₁ o₂ o₃ o₄ o₅ o₆, cells = [(c₁, o₁), (c₂, o₂), (c₃, o₃), (c₄, o₄), (c₅, o₅), (c₆, o₆)] ∧ o₁.data = .cell (cm n₁) ∧ o₂.data = .cell (cm n₂) ∧ o₃.data = .cell (cm n₃) ∧ o₄.data = .cell (cm n₄) ∧ o₅.data = .cell (cm n₅) ∧ o₆.data = .cell (cm n₆) := by
  cases x with | cons h r => cases r with | cons h' r => obtain ⟨o₃, o₄, o₅, o₆, rfl, h₃, h₄, h₅, h₆⟩ := r.four; exact ⟨_, _, o₃, o₄, o₅, o₆, rfl, h, h', h₃, h₄, h₅, h₆⟩
def isC (o : Obj) : Bool := match o.data with | .cell _ => true | _ => false
theorem isC_F {o : Obj} (h : isF o = true) : isC o = false := by
  unfold isF at h; unfold isC
  split at h
  · rename_i vs hd; rw [hd]
  · cases h
/-- apart from a cell: another address, or no cell -/
inductive Apt (c : Addr) : List (Addr × Obj) → Prop
  | nil : Apt c []
  | ne {p l} (h : p.1 ≠ c) : Apt c l → Apt c (p :: l)
  | no {p l} (h : isC p.2 = false) : Apt c l → Apt c (p :: l)
theorem Apt.tab {c : Addr} {TT : List (Addr × Obj)} (T : TabL TT) : Apt c TT := by
  have h := T.f
  clear T
  induction TT with
  | nil => exact .nil
  | cons p l ih => exact .no (isC_F (h p (.head _))) (ih fun q hq => h q (.tail _ hq))
theorem Apt.all {c : Addr} {l : List (Addr × Obj)} (a : Apt c l) : ∀ p ∈ l, p.1 ≠ c ∨ isC p.2 = false := by
  induction a with
  | nil => exact fun _ h => nomatch h
  | ne h _ ih =>
    intro p hp
    rcases List.mem_cons.mp hp with rfl | hp
    · exact .inl h
    · exact ih p hp
  | no h _ ih =>
    intro p hp
    rcases List.mem_cons.mp hp with rfl | hp
    · exact .inr h
    · exact ih p hp
theorem Apt.app {c : Addr} {l l' : List (Addr × Obj)} (a : Apt c l) (b : Apt c l') : Apt c (l ++ l') := by
  induction a with
  | nil => exact b
  | ne h _ ih => exact .ne h ih
  | no h _ ih => exact .no h ih
theorem Apt.uts {c : Addr} {us : List (Nat × Str)} {ps : List (Addr × Obj)} (u : UTs us ps) : Apt c ps := by
  induction u with
  | nil => exact .nil
  | cons t1 t2 e _ ih => exact .no (by rw [e]; rfl) ih
section
variable {M : Model} {A : Around} {E : Value → Shared → Prop} {s : Shared} {cn : Str} {cs : Scope} {L a : Addr} {ccd : Value} {cl : List (Str × Addr)} {h₀ : Heap} {m : Str → Option Value}
/-- a name that is a cell is stored: the ledger is the objects ahead, the cell, the rest -/
theorem storeC (pre : List (Addr × Obj)) {x : Str} {c : Addr} {o : Obj} {v₀ : Option Value} {v : Value} {rest : List (Addr × Obj)} {Q : Unit → Shared → Prop} (F : Fr h₀ L s.heap m) (N : News h₀ L s.heap (pre ++ (c, o) :: rest)) (hc : cl.lookup x = some c) (hd : o.data = .cell v₀)
    (h1 : Apt c pre) (h2 : Apt c rest)
    (h : ∀ h' o', Fr h₀ L h' m → News h₀ L h' (pre ++ (c, o') :: rest) → o'.data = .cell (some v) → Q () { s with heap := h' })
    (hk : cs.kind = .function := by rfl) (hx : (envX cn cs L a ccd cl).kindOf x = some .cell := by rfl) : wpAny M A (storeName (envX cn cs L a ccd cl) x v) Q E s := by
  have hmem := N (c, o) (List.mem_append_right _ (.head _))
  have key : ∀ p ∈ pre ++ (c, o) :: rest, (p.1 ≠ c ∨ isC p.2 = false) → p.1 ≠ c := fun p hp hor e => by
    rcases hor with h3 | h3
    · exact h3 e
    · have h4 := (N p hp).1
      rw [e, hmem.1] at h4
      have e2 : o = p.2 := Option.some.inj h4
      rw [← e2] at h3
      unfold isC at h3; rw [hd] at h3; cases h3
  refine wpAny_storeName_cell hk hx hc ⟨o, hmem.1, hd⟩ fun h' hv hs => ?_
  obtain ⟨o', ho', hd'⟩ := hv
  refine h h' o' ⟨F.ns.sameBut hs (Ne.symm hmem.2.1), fun b ob e => (hs.2 b (fun q => ?_)).trans (F.keep b ob e), F.above⟩ (N.setAt (fun p hp => key p (List.mem_append_left _ hp) (h1.all p hp)) (fun p hp => key p (List.mem_append_right _ (.tail _ hp)) (h2.all p hp)) hs ho') hd'
  rw [q, hmem.2.2] at e; cases e
end
theorem kp {α : Type} {x : α} {a b : List α} (s : ∀ p ∈ a, p ∈ b) : ∀ p ∈ x :: a, p ∈ x :: b := fun _ h => (List.mem_cons.mp h).elim (fun e => e ▸ .head _) fun h => .tail _ (s _ h)
theorem dr {α : Type} {x : α} {a b : List α} (s : ∀ p ∈ a, p ∈ b) : ∀ p ∈ a, p ∈ x :: b := fun _ h => .tail _ (s _ h)
theorem sub_rfl {α : Type} {a : List α} : ∀ p ∈ a, p ∈ a := fun _ h => h
theorem sub_end {α : Type} (pre : List α) {a b : List α} (s : ∀ p ∈ a, p ∈ b) : ∀ p ∈ pre ++ a, p ∈ pre ++ b := fun _ h => (List.mem_append.mp h).elim (List.mem_append_left _) fun h => List.mem_append_right _ (s _ h)
theorem sub_swap {α : Type} {a b c : List α} : ∀ p ∈ (a ++ b) ++ c, p ∈ b ++ (a ++ c) := fun p h => by
  simp only [List.mem_append] at h ⊢
  rcases h with (h | h) | h
  · exact .inr (.inl h)
  · exact .inl h
  · exact .inr (.inr h)
theorem all_cons {α : Type} {P : α → Prop} {x : α} {l : List α} (h : P x) (k : ∀ q ∈ l, P q) : ∀ q ∈ x :: l, P q := List.forall_mem_cons.mpr ⟨h, k⟩
theorem all_end {α : Type} {P : α → Prop} (pre : List α) {a b : List α} (h : ∀ q ∈ pre ++ a, P q) (k : ∀ q ∈ b, P q) : ∀ q ∈ pre ++ b, P q := fun q hq => (List.mem_append.mp hq).elim (fun hq => h q (List.mem_append_left _ hq)) (k q)
theorem all_app {α : Type} {P : α → Prop} {a b : List α} (h : ∀ q ∈ a, P q) (k : ∀ q ∈ b, P q) : ∀ q ∈ a ++ b, P q := fun q hq => (List.mem_append.mp hq).elim (h q) (k q)
theorem all_suf {α : Type} {P : α → Prop} (pre : List α) {a : List α} (h : ∀ q ∈ pre ++ a, P q) : ∀ q ∈ a, P q := fun q hq => h q (List.mem_append_right _ hq)
theorem AllLt.all {d : Addr} {l : List (Addr × Obj)} : AllLt d l → ∀ p ∈ l, p.1 ≠ d := by
  induction l with
  | nil => exact fun _ _ h => nomatch h
  | cons q r ih =>
    intro h p hp
    rcases List.mem_cons.mp hp with e | hp
    · rw [e]; exact Nat.ne_of_lt h.1
    · exact ih h.2 p hp
/-- six cells in a row -/
abbrev cl6 (L : Addr) (o6 o5 o4 o3 o2 o1 : Obj) (R : List (Addr × Obj)) : List (Addr × Obj) := (L + 1 + 1 + 1 + 1 + 1 + 1, o6) :: (L + 1 + 1 + 1 + 1 + 1, o5) :: (L + 1 + 1 + 1 + 1, o4) :: (L + 1 + 1 + 1, o3) :: (L + 1 + 1, o2) :: (L + 1, o1) :: R
theorem ends6 {L : Addr} {o6 o5 o4 o3 o2 o1 : Obj} {TT : List (Addr × Obj)} {v6 v5 v4 v3 v2 v1 : Option Value} (d6 : o6.data = .cell v6) (d5 : o5.data = .cell v5) (d4 : o4.data = .cell v4) (d3 : o3.data = .cell v3) (d2 : o2.data = .cell v2) (d1 : o1.data = .cell v1) :
    Ends (cl6 L o6 o5 o4 o3 o2 o1 []) (cl6 L o6 o5 o4 o3 o2 o1 TT) TT :=
  .cons (isF_cell d6) (.cons (isF_cell d5) (.cons (isF_cell d4) (.cons (isF_cell d3) (.cons (isF_cell d2) (.cons (isF_cell d1) .nil)))))
inductive RI (s : Shared) (g : Heap) (L I : Addr) (n : Nat) (J : Nat → (Str → Option Value) → List (Addr × Obj) → Prop) (k : Nat) (s' : Shared) : Prop
  | mk (i : Nat) (h : Heap) (tk : Nat) (m : Str → Option Value) (nw : List (Addr × Obj)) (hik : i + k = n) (hs : s' = { s with heap := h, toks := tk }) (F : Fr g L h m) (N : News g L h ((I, itR (i : Int) ((n : Int) - i)) :: nw)) (hne : ∀ p ∈ nw, p.1 ≠ I) (hJ : J i m nw)
/-- what holds behind a turn of the loop -/
inductive RT (gs : Array GenState) (dw : Drawn) (os : OsState) (g : Heap) (L I : Addr) (i n : Nat) (J : Nat → (Str → Option Value) → List (Addr × Obj) → Prop) (s₃ : Shared) : Prop
  | mk (h' : Heap) (tk' : Nat) (m' : Str → Option Value) (nw' : List (Addr × Obj)) (hs : s₃ = ⟨h', gs, dw, tk', os⟩) (F : Fr g L h' m') (N : News g L h' ((I, itR ((i : Int) + 1) ((n : Int) - i - 1)) :: nw')) (hne : ∀ p ∈ nw', p.1 ≠ I) (hJ : J (i + 1) m' nw')
section
variable {w : World} {A : Around} {s : Shared} {g : Heap} {L : Addr} {Q : Flow → Shared → Prop} {m : Str → Option Value} {nw : List (Addr × Obj)} {E : Value → Shared → Prop}
/-- a for loop over range(n) -/
theorem rfor {y : Str} {pos : Pos} {body : List Stmt} {env : Env} {r : Addr} {n : Nat} {t u v : Tok} (J : Nat → (Str → Option Value) → List (Addr × Obj) → Prop)
    (hh : A.handled = none) (hr : IsRange s.heap r 0 n 1 t u v) (hsmall : Builtin.Range.small 0 n 1 = true)
    (F : Fr g L s.heap m) (N : News g L s.heap nw) (hJ : J 0 m nw)
    (turn : ∀ (i : Nat) (I : Addr) (t : Tok) (h : Heap) (tk : Nat) (m : Str → Option Value) (nw : List (Addr × Obj)), i < n → J i m nw → (∀ p ∈ nw, p.1 ≠ I) → Fr g L h m →
      News g L h ((I, itR ((i : Int) + 1) ((n : Int) - i - 1)) :: nw) →
      wpAny (model PR w) A (assign (.Name y pos) env (.int i t)) (fun _ s₂ => wpAny (model PR w) A (execs body env) (fun f s₃ => match f with
          | .next | .cont => Stop (RT s.gens s.drawn s.os g L I i n J s₃)
          | .brk => False
          | .ret v => Q (.ret v) s₃) (fun _ _ => False) s₂) (fun _ _ => False) { s with heap := h, toks := tk })
    (done : ∀ (h : Heap) (tk : Nat) (m : Str → Option Value) (nw : List (Addr × Obj)), J n m nw → Fr g L h m → News g L h nw → Q .next { s with heap := h, toks := tk }) :
    wpAny (model PR w) A (pyIter (.ref r)) (fun it s₁ => codeAny (model PR w) A (.forLoop (.Name y pos) it body [] env) (fun r s' => match r with | .ok f => Q f s' | .error e => cameBackBy (model PR w) A env (fun _ _ => False) e s') s₁) E s := by
  refine wpAny_pyIter_range hr hsmall ?_
  have hn0 : Builtin.Range.rangeSize 0 (n : Int) 1 = (n : Int) := by
    unfold Builtin.Range.rangeSize
    simp
    lia
  rw [hn0]
  obtain ⟨I, hI⟩ : ∃ I, I = s.heap.objs.size := ⟨_, rfl⟩
  obtain ⟨oL, es, ep, e1, r1⟩ := F.ns
  have hIg : g.get? I = none := by
    cases hg : g.get? I with
    | none => rfl
    | some o => exact absurd (Heap.lt_size (F.keep _ _ hg)) (by rw [hI]; exact Nat.lt_irrefl _)
  have hIL : I ≠ L := fun q => absurd (Heap.lt_size e1) (by rw [← q, hI]; exact Nat.lt_irrefl _)
  rw [← hI]
  refine for_my (RI s g L I n J) ?turn n ?init
  case init =>
    refine ⟨0, _, s.toks, m, nw, by lia, rfl, F.push _, fun p hp => ?_, fun p hp => ?_, hJ⟩
    · rcases List.mem_cons.mp hp with rfl | hp
      · refine ⟨?_, hIL, hIg⟩
        rw [hI]
        simpa [itR] using Heap.get?_push_size _ rfl
      · exact ⟨Heap.get?_push_of_some _ (N p hp).1, (N p hp).2⟩
    · rw [hI]; exact Nat.ne_of_lt (Heap.lt_size (N p hp).1)
  case turn =>
    rintro k s' ⟨i, h, tk, m, nw, hik, rfl, F, N, hne, hJ⟩
    cases k with
    | zero =>
      have hin : i = n := by lia
      subst hin
      refine wpAny_pyNext_range_end hh (N _ (.head _)).1 (by lia) fun h' hx => ?_
      exact done h' tk m nw hJ (fr_ext F N hx) (news_ext N hx hne)
    | succ k =>
      refine wpAny_pyNext_range_item (N _ (.head _)).1 (by lia) fun h' hit hs => ?_
      have F2 := fr_same F N hs
      have N2 := news_same N hs hit hne
      refine wpAny_mono (turn i I tk h' (tk + 1) m nw (by lia) hJ hne F2 N2) (fun _ s₂ h₂ => ?_) fun _ _ x => x.elim
      refine wpAny_mono h₂ (fun f s₃ h₃ => ?_) fun _ _ x => x.elim
      have nxt : RT s.gens s.drawn s.os g L I i n J s₃ → ∃ k', k' < k + 1 ∧ RI s g L I n J k' s₃ := by
        rintro ⟨h4, tk4, m4, nw4, rfl, F4, N4, hne4, hJ4⟩
        refine ⟨k, Nat.lt_succ_self _, i + 1, h4, tk4, m4, nw4, by lia, rfl, F4, ?_, hne4, hJ4⟩
        rw [show (((i + 1 : Nat) : Int)) = (i : Int) + 1 by lia, show (n : Int) - ((i : Int) + 1) = (n : Int) - i - 1 by lia]
        exact N4
      cases f with
      | next => exact nxt h₃
      | cont => exact nxt h₃
      | brk => exact h₃.elim
      | ret v => exact h₃
end

abbrev oneEnv (L : Addr) : Env := envOfC (Str.ofString "_law_one_text") oneScope L 106 (.ref 105)
def oneU (i : Nat) (t : Int) (a : Str) : List (Nat × Str) := if t = 1 then [(i, Str.ofString "\\" ++ a)] else if a = Str.ofString "\\" then [] else [(i, a)]
def ul : Nat → List Int → List Str → List (Nat × Str)
  | i, t :: ts, a :: as => oneU i t a ++ ul (i + 1) ts as
  | _, _, _ => []
theorem ul_snoc : ∀ (ts : List Int) (as : List Str) (i : Nat) (t : Int) (a : Str), ts.length = as.length → ul i (ts ++ [t]) (as ++ [a]) = ul i ts as ++ oneU (i + as.length) t a
  | [], [], i, t, a, _ => by simp [ul]
  | u :: ts, b :: as, i, t, a, h => by
    have h' : ts.length = as.length := by simpa using h
    rw [List.cons_append, List.cons_append, ul, ul_snoc ts as (i + 1) t a h', ul, List.append_assoc, List.length_cons, show i + 1 + as.length = i + (as.length + 1) by lia]
  | [], _ :: _, _, _, _, h => by simp at h
  | _ :: _, [], _, _, _, h => by simp at h
theorem gout_ul : ∀ (as : List Str) (e : Bool) (i : Nat), gout e i as = ul i (escA (if e then 1 else 0) (bitsS as)) as ++ (if (escA (if e then 1 else 0) (bitsS as)).getD as.length 0 = 1 then [(i + as.length - 1, Str.ofString "\\")] else [])
  | [], e, i => by cases e <;> simp [gout, bitsS, escA, ul]
  | a :: as, true, i => by
    have ih := gout_ul as false (i + 1)
    have e0 : escA (if true = true then (1 : Int) else 0) (bitsS (a :: as)) = 1 :: escA 0 (bitsS as) := by
      show escA 1 ((if a = Str.ofString "\\" then (1 : Int) else 0) :: bitsS as) = _
      rw [escA, if_neg (by lia)]
    rw [e0, gout, ih, ul, oneU, if_pos rfl, List.length_cons, List.getD_cons_succ]
    rw [show i + 1 + as.length - 1 = i + (as.length + 1) - 1 by lia]
    simp
  | a :: as, false, i => by
    have e0 : escA (if false = true then (1 : Int) else 0) (bitsS (a :: as)) = 0 :: escA (if a = Str.ofString "\\" then 1 else 0) (bitsS as) := by
      show escA 0 ((if a = Str.ofString "\\" then (1 : Int) else 0) :: bitsS as) = _
      rw [escA]
      by_cases hb : a = Str.ofString "\\"
      · rw [if_pos hb, if_pos (by simp)]
      · rw [if_neg hb, if_neg (by lia)]
    rw [e0, gout, ul, oneU, if_neg (show ¬ (0 : Int) = 1 by decide), List.length_cons, List.getD_cons_succ]
    by_cases hb : a = Str.ofString "\\"
    · have ih := gout_ul as true (i + 1)
      simp only [if_pos hb]
      rw [ih, show i + 1 + as.length - 1 = i + (as.length + 1) - 1 by lia]
      simp
    · have ih := gout_ul as false (i + 1)
      simp only [if_neg hb]
      rw [ih, show i + 1 + as.length - 1 = i + (as.length + 1) - 1 by lia]
      simp
theorem of_bne_ne {a b : Str} (h : (a != b) = true) : ¬ a = b := by simpa using h
theorem of_bne_eq {a b : Str} (h : (a != b) = false) : a = b := by simpa using h
def oneM (vp vu vs : Option Value) (m0 : Str → Option Value) : Str → Option Value := fun y => if y = Str.ofString "place" then vp else if y = Str.ofString "units" then vu else if y = Str.ofString "size" then vs else m0 y
theorem item_sign {x : Str} {i : Nat} (h : i < x.length) : (signs x)[i]? = some (Txt.item x (i : Int)) := by
  have h1 : i < x.cps.size := h
  rw [item_at (x := x) (i := (i : Int)) (n := i) (by lia) (by lia) (by lia)]
  rw [signs_get (c := x.cps.getD i 0) (by simp [Array.getD, h1])]
theorem ul_take : ∀ (ts : List Int) (as : List Str) (i : Nat), ul i (ts.take as.length) as = ul i ts as
  | [], as, _ => by simp [ul]
  | _ :: _, [], _ => by simp [ul]
  | t :: ts, a :: as, i => by
    rw [List.length_cons, List.take_succ_cons, ul, ul, ul_take ts as (i + 1)]
theorem oneU_len (i : Nat) (t : Int) (a : Str) : (oneU i t a).length ≤ 1 := by
  unfold oneU
  split
  · simp
  · split <;> simp
theorem ul_len : ∀ (ts : List Int) (as : List Str) (i : Nat), (ul i ts as).length ≤ as.length
  | [], _, _ => by simp [ul]
  | _ :: _, [], _ => by simp [ul]
  | t :: ts, a :: as, i => by
    have := ul_len ts as (i + 1)
    have h1 := oneU_len i t a
    rw [ul, List.length_append, List.length_cons]
    lia
/-- the loop's invariant -/
inductive One1 (x : Str) (Du Dt : Addr) (vt : List Value) (et : Nat) (C : List (Addr × Obj) → List (Addr × Obj)) (TT : List (Addr × Obj)) (m0 : Str → Option Value) (i : Nat) (m : Str → Option Value) (nw : List (Addr × Obj)) : Prop
  | mk (DT : List (Addr × Obj)) (c : Nat) (vp : Option Value) (tS : Tok) (hm : m = oneM vp (some (.ref Du)) (some (.int x.length tS)) m0) (hnw : nw = (Du, listOf (DT.map fun p => Value.ref p.1).toArray c) :: (Dt, listOf vt.toArray et) :: C (DT ++ TT))
    (hUT : UTs (ul 0 ((TK x).take i) ((signs x).take i)) DT)
theorem uts_ne {us : List (Nat × Str)} {DT l : List (Addr × Obj)} {g h : Heap} {L a : Addr} {o : Obj} (hUT : UTs us DT) (N : News g L h l) (ha : (a, o) ∈ l) (ho : o.cls = .type "list") (hs : ∀ p ∈ DT, p ∈ l) : ∀ p ∈ DT, p.1 ≠ a := fun p hp => ne_news N (hs p hp) ha fun e => by
  obtain ⟨y, z, e2⟩ := hUT.mem p hp
  rw [e2] at e
  have e3 := congrArg Obj.cls e
  rw [ho] at e3
  exact absurd (Value.type.inj e3) (by decide)
theorem sub_front {α : Type} (pre : List α) {x : α} {b : List α} : ∀ p ∈ pre ++ ([x] ++ b), p ∈ x :: (pre ++ b) := fun p h => by
  simp only [List.mem_append, List.mem_cons, List.not_mem_nil, or_false] at h ⊢
  rcases h with h | h | h
  · exact .inr (.inl h)
  · exact .inl h
  · exact .inr (.inr h)
theorem sub_into {α : Type} (pre : List α) {x : α} {a b T : List α} (e : T = a ++ b) : ∀ p ∈ pre ++ ((a ++ [x]) ++ b), p ∈ x :: (pre ++ T) := fun p h => by
  subst e
  simp only [List.mem_append, List.mem_cons, List.not_mem_nil, or_false] at h ⊢
  rcases h with h | (h | h) | h
  · exact .inr (.inl h)
  · exact .inr (.inr (.inl h))
  · exact .inl h
  · exact .inr (.inr (.inr h))
theorem letN1 {g h : Heap} {L : Addr} {p : Addr × Obj} {l : List (Addr × Obj)} {P : Prop} (N : News g L h (p :: l)) (k : let l' := l; News g L h (p :: l') → P) : P := k N
theorem oneN {vp vu vs : Option Value} {m0 : Str → Option Value} {v : Value} : ∀ y, y ≠ Str.ofString "place" → y ≠ Str.ofString "units" → y ≠ Str.ofString "size" → stM (oneM vp vu vs m0) (Str.ofString "place") v y = m0 y :=
  fun _ n1 n2 n3 => (if_neg n1).trans ((if_neg n1).trans ((if_neg n2).trans (if_neg n3)))
theorem oneM_eq {vp vu vs : Option Value} {m m0 : Str → Option Value} (h1 : m (Str.ofString "place") = vp) (h2 : m (Str.ofString "units") = vu) (h3 : m (Str.ofString "size") = vs) (h : ∀ y, y ≠ Str.ofString "place" → y ≠ Str.ofString "units" → y ≠ Str.ofString "size" → m y = m0 y) : m = oneM vp vu vs m0 := by
  funext y
  unfold oneM
  by_cases e1 : y = Str.ofString "place"
  · rw [if_pos e1, e1, h1]
  · rw [if_neg e1]
    by_cases e2 : y = Str.ofString "units"
    · rw [if_pos e2, e2, h2]
    · rw [if_neg e2]
      by_cases e3 : y = Str.ofString "size"
      · rw [if_pos e3, e3, h3]
      · rw [if_neg e3]; exact h y e1 e2 e3
section
variable {w : World} {mg mb : Str → Option Value} {LO : List Str} {mean : ExcName → Option Value} {dp un : Nat} {fr : Option (List Env)} {gd : Option (List Code)} {s : Shared} {g : Heap} {L : Addr} {m0 : Str → Option Value} {TT : List (Addr × Obj)}
  {R : Flow → Shared → Prop}
local macro_rules | `(tactic| walk_at "call ref") => `(tactic| (refine stop_out ?_))
local macro_rules | `(tactic| walk_at "pyIter ref") => `(tactic| (refine stop_out ?_))
local macro_rules | `(tactic| walk_at "exec For") => `(tactic| (refine stop_out ?_))
local macro_rules | `(tactic| walk_at "exec For Name Call cons nil") => `(tactic| (refine stop_out ?_))
local macro_rules | `(tactic| walk_at "call builtin:list.append") => `(tactic| (refine stop_out ?_))
local macro_rules | `(tactic| walk_at "storeName") => `(tactic| (with_reducible show wpAny _ _ (storeName _ (Str.ofString "taken") _) _ _ _; refine stop_out ?_))
theorem one_p1 {x : Str} {t t2 : Tok} {wd : Int} {o1 o2 o3 o4 o5 o6 : Obj} (I : Inv w mg mb LO mean g) (F : Fr g L s.heap m0) (N : News g L s.heap (cl6 L o6 o5 o4 o3 o2 o1 TT)) (TL : TabL TT) (hroom : dp < 700) (hxl : x.length ≤ 11) (hw : 6 ≤ wd) (hw2 : wd ≤ 4400)
    (d1 : o1.data = .cell (some (.str x t))) (d2 : o2.data = .cell (some (.int wd t2))) (d3 : o3.data = .cell none) (d4 : o4.data = .cell none) (d5 : o5.data = .cell none) (d6 : o6.data = .cell none)
    (hK : ∀ (Dt Du : Addr) vt et (DT : List (Addr × Obj)) c o3' h' tk' TT' tS vp, Fr g L h' (oneM vp (some (.ref Du)) (some (.int x.length tS)) m0) →
      News g L h' ((Du, listOf (DT.map fun p => Value.ref p.1).toArray c) :: (Dt, listOf vt.toArray et) :: cl6 L o6 o5 o4 o3' o2 o1 (DT ++ TT')) → TabL TT' → o3'.data = .cell (some (.ref Dt)) → IntsAre vt (TK x) → UTs (gout false 0 (signs x)) DT →
      wpAny (model PR w) ((mkA dp fr gd un).deeper (oneEnv L)) (execs (oneBody.drop 5) (oneEnv L)) R (fun _ _ => False) { s with heap := h', toks := tk' }) :
    wpAny (model PR w) ((mkA dp fr gd un).deeper (oneEnv L)) (execs oneBody (oneEnv L)) R (fun _ _ => False) s := by
  have X := I.X
  rw [show oneBody = _ :: _ :: _ :: _ :: _ :: oneBody.drop 5 from rfl]
  unfold oneEnv at hK ⊢
  rw [show oneScope = Scope.mk _ _ _ _ _ from rfl] at hK ⊢
  generalize oneBody.drop 5 = rest at hK ⊢
  k_steps
  refine stop_in ?_
  rename Fr _ _ _ _ => F1
  rename News _ _ _ _ => N1
  refine sp_taken I F1 N1 TL (ends6 d6 d5 d4 d3 d2 d1) (by walk_at "my room") hxl ?_
  intro Dt vt et h2 tk2 TT2 F N TL2 hit
  clear F1 N1
  k_steps
  refine stop_in ?_
  refine storeC (rest := (L + 1 + 1, o2) :: (L + 1, o1) :: TT2) [_, _, _, _] F N rfl d3 (.no rfl (.ne (neN (by lia)) (.ne (neN (by lia)) (.ne (neN (by lia)) .nil)))) (.ne (neN (by lia)) (.ne (neN (by lia)) (.tab TL2))) ?_
  clear F N
  intro h3 o3' F N d3'
  replace N : News g L h3 ((Dt, listOf vt.toArray et) :: cl6 L o6 o5 o4 o3' o2 o1 TT2) := N
  k_steps
  refine stop_in ?_
  refine wpAny_For ?_
  k_steps
  refine stop_in ?_
  rename Fr _ _ _ _ => F1
  rename News _ _ _ _ => N1
  rename_i Du hx1 lDu hx2 hx2b mU sU hx3 hx4 qU hx5 hx6 hx7 hx8 hx8b hRng hx9
  have hsg := signs_length x
  have htl : (TK x).length = x.length + 1 := by rw [TK, escA_length, bitsS, List.length_map, hsg]
  have hit' : IntsAre vt (TK x) := hit
  have hrC : ∀ p ∈ (Dt, listOf vt.toArray et) :: cl6 L o6 o5 o4 o3' o2 o1 TT2, p.1 ≠ Du := AllLt.all (l := (Dt, listOf vt.toArray et) :: cl6 L o6 o5 o4 o3' o2 o1 TT2) lDu
  refine rfor (n := x.length) (One1 x Du Dt vt et (cl6 L o6 o5 o4 o3' o2 o1) TT2 m0) rfl hRng ?small F1 N1 ?init ?turn ?done
  case small => exact small_one (by lia) (by lia) (by lia) (by lia)
  case init =>
    exact ⟨[], 0, m0 (Str.ofString "place"), _, oneM_eq rfl rfl rfl (fun y n1 n2 n3 => (if_neg n2).trans (if_neg n3)), rfl, .nil⟩
  case turn =>
    rintro i It ti h tk m nw hi ⟨DT, c, vp, tS, rfl, rfl, hUT⟩ hne F N
    unfold oneM at F
    have hDT := hUT.length
    obtain ⟨T3, hT3⟩ : ∃ T3, T3 = DT ++ TT2 := ⟨_, rfl⟩
    rw [← hT3] at N
    have hr : ∀ p ∈ (Dt, listOf vt.toArray et) :: cl6 L o6 o5 o4 o3' o2 o1 T3, p.1 ≠ Du :=
      all_end [_, _, _, _, _, _, _] hrC (hT3 ▸ all_app (uts_ne hUT N (.tail _ (.head _)) rfl fun p hp => List.mem_append_right [_, _, _, _, _, _, _, _, _] (hT3 ▸ List.mem_append_left _ hp)) (all_suf [_, _, _, _, _, _, _] hrC))
    have hDu : Du ≠ It := hne (Du, _) (.head _)
    have hnT : ∀ p ∈ T3, p.1 ≠ It := fun p hp => hne p (List.mem_append_right [_, _, _, _, _, _, _, _] (show p ∈ DT ++ TT2 from hT3 ▸ hp))
    have e1 : (TK x).take (i + 1) = (TK x).take i ++ [(TK x).getD i 0] := by
      rw [List.take_add_one, List.getD_eq_getElem?_getD, List.getElem?_eq_getElem (by lia)]; rfl
    have e2 : (signs x).take (i + 1) = (signs x).take i ++ [Txt.item x (i : Int)] := by
      rw [List.take_add_one, item_sign hi]; rfl
    have e3 : ul 0 ((TK x).take (i + 1)) ((signs x).take (i + 1)) = ul 0 ((TK x).take i) ((signs x).take i) ++ oneU i ((TK x).getD i 0) (Txt.item x (i : Int)) := by
      rw [e1, e2, ul_snoc _ _ _ _ _ (by rw [List.length_take, List.length_take]; lia), List.length_take, hsg, Nat.zero_add, Nat.min_eq_left (by lia)]
    have fin : ∀ {h2 : Heap} {tk2 : Nat} {m2 : Str → Option Value} (new : List (Addr × Obj)) {c' : Nat} {tp : Tok}, m2 = oneM (some (.int i tp)) (some (.ref Du)) (some (.int x.length tS)) m0 → Fr g L h2 m2 →
        News g L h2 ((It, itR ((i : Int) + 1) ((x.length : Int) - i - 1)) :: (Du, listOf ((DT ++ new).map fun p => Value.ref p.1).toArray c') :: (Dt, listOf vt.toArray et) :: cl6 L o6 o5 o4 o3' o2 o1 (new ++ T3)) →
        UTs (oneU i ((TK x).getD i 0) (Txt.item x (i : Int))) new → (∀ p ∈ new, p.1 ≠ It) →
        Stop (RT s.gens s.drawn s.os g L It i x.length (One1 x Du Dt vt et (cl6 L o6 o5 o4 o3' o2 o1) TT2 m0) { s with heap := h2, toks := tk2 }) := fun {h2 tk2 m2} new {c' tp} hm F N hU hI =>
      ⟨h2, tk2, m2, _, rfl, F, news_part N (sub_end [_, _, _, _, _, _, _, _, _] (b := new ++ T3) (hT3 ▸ sub_swap)), all_cons hDu (all_end [_, _, _, _, _, _, _] (a := DT ++ TT2) (fun p hp => hne p (.tail _ hp)) fun p hp => by
        have h3 : p ∈ new ++ (DT ++ TT2) := sub_swap p hp
        rw [← hT3] at h3
        exact all_app hI hnT p h3), DT ++ new, c', some (.int i tp), tS, hm, rfl, e3 ▸ hUT.append hU⟩
    have hUTl : DT.length ≤ 22 := by
      rw [← hDT]
      have h2 := ul_len ((TK x).take i) ((signs x).take i) 0
      rw [List.length_take] at h2
      lia
    have fin1 : ∀ {h2 : Heap} {tk2 : Nat} {m2 : Str → Option Value} {D : Addr} {o : Obj} {u : Nat × Str} {c' : Nat} {t1 t2 tp : Tok}, m2 = oneM (some (.int i tp)) (some (.ref Du)) (some (.int x.length tS)) m0 → Fr g L h2 m2 →
        News g L h2 ((D, o) :: (It, itR ((i : Int) + 1) ((x.length : Int) - i - 1)) :: (Du, listOf ((DT.map fun p => Value.ref p.1) ++ [Value.ref D]).toArray c') :: (Dt, listOf vt.toArray et) :: cl6 L o6 o5 o4 o3' o2 o1 T3) →
        oneU i ((TK x).getD i 0) (Txt.item x (i : Int)) = [u] → o = tup2 (.int (u.1 : Nat) t1) (.str u.2 t2) → D ≠ It → _ := fun {h2 tk2 m2 D o u c' t1 t2 tp} hm F N hu ho hD =>
      fin (h2 := h2) (tk2 := tk2) (m2 := m2) [(D, o)] (c' := c') hm F (by
        rw [List.map_append]
        exact news_part N (sub_front [_, _, _, _, _, _, _, _, _])) (by rw [hu]; exact .one ho) (fun p hp => by rw [List.mem_singleton.mp hp]; exact hD)
    clear F1 N1 hx3 hx4 hK
    k_steps
    · refine stop_in ?_
      rename (TK x).getD _ 0 = 1 => ht1
      rw [Int.toNat_natCast] at ht1
      rename Fr _ _ _ _ => F5
      rename News _ _ _ _ => N5
      have hD1 := ne_news N5 (.head _) (.tail _ (.tail _ (.head _))) (fun e => absurd (Value.type.inj (congrArg Obj.cls e)) (by decide))
      have hD2 := ne_news N5 (.head _) (.tail _ (.head _)) (fun e => absurd (Value.type.inj (congrArg Obj.cls e)) (by decide))
      refine append_K F5 N5 (.tail hD1 (.tail hDu.symm (.head hr))) ?_ (by simp [sizeLine]; lia)
      clear F5 N5
      intro h6 F6 N6
      rw [List.push_toArray] at N6
      dsimp only at F6 ⊢
      k_steps
      refine fin1 (oneM_eq rfl rfl rfl oneN) (by assumption) N6 (by rw [oneU, if_pos ht1]) rfl hD2
    · refine stop_in ?_
      rename (TK x).getD _ 0 ≠ 1 => ht1
      rw [Int.toNat_natCast] at ht1
      rename (Txt.item x _ != _) = true => ht2
      have ht2 := of_bne_ne ht2
      rename Fr _ _ _ _ => F5
      rename News _ _ _ _ => N5
      have hD1 := ne_news N5 (.head _) (.tail _ (.tail _ (.head _))) (fun e => absurd (Value.type.inj (congrArg Obj.cls e)) (by decide))
      have hD2 := ne_news N5 (.head _) (.tail _ (.head _)) (fun e => absurd (Value.type.inj (congrArg Obj.cls e)) (by decide))
      refine append_K F5 N5 (.tail hD1 (.tail hDu.symm (.head hr))) ?_ (by simp [sizeLine]; lia)
      clear F5 N5
      intro h6 F6 N6
      rw [List.push_toArray] at N6
      dsimp only at F6 ⊢
      k_steps
      refine fin1 (oneM_eq rfl rfl rfl oneN) (by assumption) N6 (by rw [oneU, if_neg ht1, if_neg ht2]) rfl hD2
    · rename (TK x).getD _ 0 ≠ 1 => ht1
      rw [Int.toNat_natCast] at ht1
      rename (Txt.item x _ != _) = false => ht2
      have ht2 := of_bne_eq ht2
      rename Fr _ _ _ _ => F5
      rename News _ _ _ _ => N5
      refine fin [] (c' := c) (oneM_eq rfl rfl rfl oneN) F5 (by rw [List.append_nil]; exact N5) (by rw [oneU, if_neg ht1, if_pos ht2]; exact .nil) (fun _ h => nomatch h)
  case done =>
    rintro h tk m nw ⟨DT, c, vp, tS, rfl, rfl, hUT⟩ F N
    unfold oneM at F
    have hDT := hUT.length
    obtain ⟨T3, hT3⟩ : ∃ T3, T3 = DT ++ TT2 := ⟨_, rfl⟩
    rw [← hT3] at N
    have hr : ∀ p ∈ (Dt, listOf vt.toArray et) :: cl6 L o6 o5 o4 o3' o2 o1 T3, p.1 ≠ Du :=
      all_end [_, _, _, _, _, _, _] hrC (hT3 ▸ all_app (uts_ne hUT N (.head _) rfl fun p hp => List.mem_append_right [_, _, _, _, _, _, _, _] (hT3 ▸ List.mem_append_left _ hp)) (all_suf [_, _, _, _, _, _, _] hrC))
    have hgo : gout false 0 (signs x) = ul 0 ((TK x).take x.length) ((signs x).take x.length) ++ (if (TK x).getD x.length 0 = 1 then [(x.length - 1, Str.ofString "\\")] else []) := by
      have := gout_ul (signs x) false 0
      rw [hsg, Nat.zero_add] at this
      rw [this]
      congr 1
      rw [List.take_of_length_le (l := signs x) (by lia)]
      have := ul_take (TK x) (signs x) 0
      rw [hsg] at this
      exact this.symm
    have hUTl : DT.length ≤ 22 := by
      rw [← hDT]
      have h2 := ul_len ((TK x).take x.length) ((signs x).take x.length) 0
      rw [List.length_take] at h2
      lia
    clear F1 N1 hx3 hx4
    k_steps
    · refine stop_in ?_
      rename (TK x).getD _ 0 = 1 => ht1
      rw [Int.toNat_natCast] at ht1
      have hn1 : 1 ≤ x.length := by
        rcases Nat.eq_zero_or_pos x.length with h0 | h0
        · have e0 : signs x = [] := List.length_eq_zero_iff.mp (by lia)
          rw [h0] at ht1
          have e1 : TK x = [0] := by unfold TK; rw [e0]; rfl
          rw [e1] at ht1; cases ht1
        · exact h0
      rename Fr _ _ _ _ => F5
      rename News _ _ _ _ => N5
      have hD1 := ne_news N5 (.head _) (.tail _ (.head _)) (fun e => absurd (Value.type.inj (congrArg Obj.cls e)) (by decide))
      refine append_K F5 N5 (.tail hD1 (.head hr)) ?_ (by simp [sizeLine]; lia)
      clear F5 N5
      intro h6 F6 N6
      rw [List.push_toArray] at N6
      dsimp only at F6 ⊢
      k_steps
      have fin1 : ∀ {h2 : Heap} {tk2 : Nat} {D : Addr} {o : Obj} {c' : Nat} {t1 t2 : Tok}, Fr g L h2 (oneM vp (some (.ref Du)) (some (.int x.length tS)) m0) →
          News g L h2 ((D, o) :: (Du, listOf ((DT.map fun p => Value.ref p.1) ++ [Value.ref D]).toArray c') :: (Dt, listOf vt.toArray et) :: cl6 L o6 o5 o4 o3' o2 o1 T3) →
          o = tup2 (.int ((x.length : Int) - 1) t1) (.str (Str.ofString "\\") t2) → _ := fun {h2 tk2 D o c' t1 t2} F N ho =>
        hK Dt Du vt et (DT ++ [(D, o)]) c' o3' h2 tk2 TT2 tS vp F (by
          rw [List.map_append]
          exact news_part N (sub_into [_, _, _, _, _, _, _, _] (hT3 ▸ rfl))) TL2 d3' hit' (by
          rw [hgo, if_pos ht1]
          refine hUT.append (.one (t1 := t1) (t2 := t2) ?_)
          rw [ho, show ((x.length : Int) - 1) = ((x.length - 1 : Nat) : Int) by lia])
      exact fin1 (by assumption) N6 rfl
    · rename (TK x).getD _ 0 ≠ 1 => ht1
      rw [Int.toNat_natCast] at ht1
      exact hK Dt Du vt et DT c o3' h _ TT2 tS vp (by assumption) (by rw [← hT3]; exact N) TL2 d3' hit' (by rw [hgo, if_neg ht1, List.append_nil]; exact hUT)
end

abbrev unitD (u : Nat × Str) : PyData := .tuple [.int (u.1 : Nat), .str u.2]
theorem uts_reads {h : Heap} {us : List (Nat × Str)} {ps : List (Addr × Obj)} (u : UTs us ps) (hh : ∀ p ∈ ps, h.get? p.1 = some p.2) : ReadsAll h (ps.map fun p => Value.ref p.1) (us.map unitD) [] := by
  induction u with
  | nil => exact .nil
  | @cons u p us ps t1 t2 e _ ih =>
    have h1 := hh p (.head _)
    rw [e] at h1
    exact readsAll_cons_val (reads_tuple_at h1 rfl rfl (.cons (.int _ _) (.cons (.str _ _) .nil))) (ih fun q hq => hh q (.tail _ hq))
theorem unit_lay : ∀ (us : List (Nat × Str)), (∀ u ∈ us, SeqAt.shaped (.str u.2) = true) → PyData.canLayAll0 (us.map unitD) = true ∧ PyData.depthAll (us.map unitD) ≤ 1
  | [], _ => by simp [PyData.canLayAll0, PyData.depthAll]
  | u :: us, h => by
    have ih := unit_lay us fun v hv => h v (.tail _ hv)
    have h1 := h u (.head _)
    simp only [SeqAt.shaped, Bool.and_eq_true] at h1
    constructor
    · simp [PyData.canLayAll0, PyData.canLay0, ih.1]
      simpa [PyData.canLay0] using h1.1
    · simp [PyData.depthAll, PyData.depth, ih.2]
theorem unit_shaped (us : List (Nat × Str)) (h : ∀ u ∈ us, SeqAt.shaped (.str u.2) = true) : SeqAt.shaped (.list (us.map unitD)) = true := by
  have := unit_lay us h
  have h2 := this.2
  simp only [SeqAt.shaped, PyData.canLay0, PyData.depth, this.1, Bool.true_and]
  exact decide_eq_true (by lia)
theorem unit_eqv : ∀ (us : List (Nat × Str)), PyData.eqvAll (us.map unitD) (us.map unitD) = true
  | [] => by simp [PyData.eqvAll]
  | u :: us => by simp [PyData.eqvAll, PyData.eqv, unit_eqv us]
def okT (x : Str) : Prop := ∀ c ∈ x.cps.toList, c < 0x110000
theorem okT_shaped {x : Str} (h : okT x) : SeqAt.shaped (.str x) = true := by
  have : PyData.strOk x = true := by
    unfold PyData.strOk
    rw [Array.all_eq_true_iff_forall_mem]
    intro c hc
    exact decide_eq_true (h c (by simpa using hc))
  simp [SeqAt.shaped, PyData.canLay0, PyData.depth, this]
theorem okT_signs {x : Str} (h : okT x) : ∀ a ∈ signs x, okT a := fun a ha => by
  rw [signs_def] at ha
  obtain ⟨c, hc, rfl⟩ := List.mem_map.mp ha
  intro d hd
  have : d = c := by simpa using hd
  rw [this]; exact h c hc
theorem okT_app {a b : Str} (ha : okT a) (hb : okT b) : okT (a ++ b) := fun c hc => by
  have e : (a ++ b).cps.toList = a.cps.toList ++ b.cps.toList := by
    show (a.cps ++ b.cps).toList = _
    rw [Array.toList_append]
  rw [e] at hc
  exact (List.mem_append.mp hc).elim (ha c) (hb c)
theorem okT_bs : okT (Str.ofString "\\") := fun c hc => by
  have : (Str.ofString "\\").cps.toList = [92] := by decide
  rw [this] at hc
  rw [List.mem_singleton.mp hc]; decide
theorem gout_ok : ∀ (as : List Str) (e : Bool) (i : Nat), (∀ a ∈ as, okT a) → ∀ u ∈ gout e i as, okT u.2
  | [], e, i, _, u, hu => by
    cases e
    · cases hu
    · have : u ∈ [(i - 1, Str.ofString "\\")] := hu
      rw [List.mem_singleton.mp this]; exact okT_bs
  | a :: as, true, i, h, u, hu => by
    rw [gout] at hu
    rcases List.mem_cons.mp hu with rfl | hu
    · exact okT_app okT_bs (h a (.head _))
    · exact gout_ok as false (i + 1) (fun b hb => h b (.tail _ hb)) u hu
  | a :: as, false, i, h, u, hu => by
    rw [gout] at hu
    split at hu
    · exact gout_ok as true (i + 1) (fun b hb => h b (.tail _ hb)) u hu
    · rcases List.mem_cons.mp hu with rfl | hu
      · exact h a (.head _)
      · exact gout_ok as false (i + 1) (fun b hb => h b (.tail _ hb)) u hu
theorem itc_cell {o : Obj} {v : Option Value} (h : o.data = .cell v) : itc o = false := by
  unfold itc; rw [h]; simp
theorem Calm.app {Lg : Addr} {l l' : List (Addr × Obj)} (h : Calm Lg l) (h' : Calm Lg l') : Calm Lg (l ++ l') := fun p hp => (List.mem_append.mp hp).elim (h p) (h' p)
theorem itc6 {L : Addr} {o6 o5 o4 o3 o2 o1 : Obj} {R : List (Addr × Obj)} {v6 v5 v4 v3 v2 v1 : Option Value} (d6 : o6.data = .cell v6) (d5 : o5.data = .cell v5) (d4 : o4.data = .cell v4) (d3 : o3.data = .cell v3) (d2 : o2.data = .cell v2) (d1 : o1.data = .cell v1)
    (h : ∀ p ∈ R, itc p.2 = false) : ∀ p ∈ cl6 L o6 o5 o4 o3 o2 o1 R, itc p.2 = false :=
  all_cons (itc_cell d6) (all_cons (itc_cell d5) (all_cons (itc_cell d4) (all_cons (itc_cell d3) (all_cons (itc_cell d2) (all_cons (itc_cell d1) h)))))
section
variable {w : World} {mg mb : Str → Option Value} {LO : List Str} {mean : ExcName → Option Value} {dp un : Nat} {fr : Option (List Env)} {gd : Option (List Code)} {s : Shared} {g : Heap} {L : Addr} {m0 : Str → Option Value} {TT : List (Addr × Obj)}
  {R : Flow → Shared → Prop}
local macro_rules | `(tactic| walk_at "call ref") => `(tactic| (refine stop_out ?_))
local macro_rules | `(tactic| walk_at "call type:list") => `(tactic| (refine stop_out ?_))
local macro_rules | `(tactic| walk_at "compareOp NotEq ref ref") => `(tactic| (refine stop_out ?_))
theorem one_p2 {x : Str} {t t2 : Tok} {wd : Int} {o1 o2 o3 o4 o5 o6 : Obj} {Dt Du : Addr} {vt : List Value} {et c : Nat} {DT : List (Addr × Obj)} {tS : Tok} {vp : Option Value} (I : Inv w mg mb LO mean g) (F : Fr g L s.heap (oneM vp (some (.ref Du)) (some (.int x.length tS)) m0))
    (N : News g L s.heap ((Du, listOf (DT.map fun p => Value.ref p.1).toArray c) :: (Dt, listOf vt.toArray et) :: cl6 L o6 o5 o4 o3 o2 o1 (DT ++ TT))) (TL : TabL TT) (hroom : dp < 700) (hun : un < 5000) (hxl : x.length ≤ 11) (hok : okT x)
    (d1 : o1.data = .cell (some (.str x t))) (d2 : o2.data = .cell (some (.int wd t2))) (d3 : o3.data = .cell (some (.ref Dt))) (d4 : o4.data = .cell none) (d5 : o5.data = .cell none) (d6 : o6.data = .cell none)
    (hUT : UTs (gout false 0 (signs x)) DT)
    (hK : ∀ h' tk' gens', (AllBare s.gens → AllBare gens') → Fr g L h' (oneM vp (some (.ref Du)) (some (.int x.length tS)) m0) →
      News g L h' ((Dt, listOf vt.toArray et) :: cl6 L o6 o5 o4 o3 o2 o1 TT) →
      wpAny (model PR w) ((mkA dp fr gd un).deeper (oneEnv L)) (execs (oneBody.drop 6) (oneEnv L)) R (fun _ _ => False) { s with heap := h', toks := tk', gens := gens' }) :
    wpAny (model PR w) ((mkA dp fr gd un).deeper (oneEnv L)) (execs (oneBody.drop 5) (oneEnv L)) R (fun _ _ => False) s := by
  have X := I.X
  rw [show oneBody.drop 5 = _ :: oneBody.drop 6 from rfl]
  unfold oneEnv at hK ⊢
  rw [show oneScope = Scope.mk _ _ _ _ _ from rfl] at hK ⊢
  generalize oneBody.drop 6 = rest at hK ⊢
  unfold oneM at F
  have hcN : Calm 0 [] := .nil
  obtain ⟨T3, hT3⟩ : ∃ T3, T3 = DT ++ TT := ⟨_, rfl⟩
  rw [← hT3] at N
  refine letE ?_
  intro ML eL AL sL
  refine letN1 N ?_
  clear N
  intro CL N
  k_steps
  refine stop_in ?_
  rename Fr _ _ _ _ => F1
  rename News _ _ _ _ => N1
  refine sp_iter I F1 N1 (by walk_at "my room") ?_
  intro a Lg oL nm qn h2 tk2 gs haL hnl F2 N2 hb hgo
  k_steps
  refine stop_in ?_
  have hLg := N2 _ (.tail _ (.head _))
  have GS0 : ∀ env : Env, GS w (((mkA dp fr gd un).deeper env).in1.in1) g Lg a s.gens.size nm qn (gout false 0 (signs x)) (gout false 0 (signs x)).length [(Lg, oL)] { s with heap := h2, toks := tk2, gens := s.gens.push gs } :=
    fun env => ⟨F2.keep, (N2 _ (.head _)).1, fun p hp => by
      obtain rfl := List.mem_singleton.mp hp
      exact ⟨hLg.1, hLg.2.2, .inl rfl⟩, gs, by simp, hb, fun s'' hk hp => hgo _ _ _ _ (show dp + 1 < 950 by lia) s'' hk (hp _ (.head _))⟩
  have hBare : AllBare s.gens → AllBare (s.gens.push gs) := fun h y hy => by
    rcases Array.mem_push.mp hy with hy | rfl
    · exact h y hy
    · exact hb
  have hgl := gout_len (signs x) false 0
  rw [signs_length] at hgl
  have hgok := gout_ok (signs x) false 0 (okT_signs hok)
  obtain ⟨U, hU⟩ : ∃ U, U = gout false 0 (signs x) := ⟨_, rfl⟩
  rw [← hU] at GS0 hUT hgl hgok
  have hC : ∀ p ∈ (Du, listOf (DT.map fun p => Value.ref p.1).toArray c) :: (Dt, listOf vt.toArray et) :: cl6 L o6 o5 o4 o3 o2 o1 T3, itc p.2 = false :=
    all_cons (itc_cls (c := "list") rfl (by decide)) (all_cons (itc_cls (c := "list") rfl (by decide)) (itc6 d6 d5 d4 d3 d2 d1 (hT3 ▸ all_app (fun p hp => by
      obtain ⟨y, z, e⟩ := hUT.mem p hp
      rw [e]; exact itc_tup y z) fun p hp => itc_isF (TL.f p hp))))
  refine glist (m := _) rfl I.T.nolimit (show dp + 1 < 1000 by lia) haL hLg.2.1.symm (by lia) (Heap.lt_size hLg.1) (GS0 _) F2 (news_part N2 fun p hp => .tail _ (.tail _ hp)) (fun p hp => ⟨(hnl p hp).1, hC p hp⟩) ?_
  intro S h3 tk3 gens3 DT2 c2 hU2 hS F3 N3 hq
  clear F1 N1 N2 F2 GS0 hgo
  obtain ⟨T4, hT4⟩ : ∃ T4, T4 = T3 ++ DT2 := ⟨_, rfl⟩
  have N4 : News g L h3 ((S, listOf (DT2.map fun p => Value.ref p.1).toArray c2) :: (Du, listOf (DT.map fun p => Value.ref p.1).toArray c) :: (Dt, listOf vt.toArray et) :: cl6 L o6 o5 o4 o3 o2 o1 T4) := by rw [hT4]; exact N3
  clear N3
  k_steps
  refine stop_in ?_
  rename Fr _ _ _ _ => F5
  rename News _ _ _ _ => N5
  have r1 : Reads h3 (.ref S) (.list (U.map unitD)) [S] := reads_list_at (N5 _ (.head _)).1 rfl rfl (by
    rw [List.toList_toArray]
    exact uts_reads hU2 fun p hp => (N5 p (by rw [hT4]; simp [hp])).1)
  have r2 : Reads h3 (.ref Du) (.list (U.map unitD)) [Du] := reads_list_at (N5 _ (.tail _ (.head _))).1 rfl rfl (by
    rw [List.toList_toArray]
    exact uts_reads hUT fun p hp => (N5 p (by rw [hT4, hT3]; simp [hp])).1)
  have hsh := unit_shaped U fun u hu => okT_shaped (hgok u hu)
  refine ne_dataH r1 r2 hsh hsh (show un + 3 + 64 < 9900 by lia) ?_
  rw [show PyData.eqv (.list (U.map unitD)) (.list (U.map unitD)) = true by simp only [PyData.eqv]; exact unit_eqv U]
  k_steps
  exact hK _ _ gens3 (fun h => (hBare h).moved hq) (by assumption) (news_part N5 (dr (dr (sub_end [_, _, _, _, _, _, _] fun p hp => by rw [hT4, hT3]; exact List.mem_append_left _ (List.mem_append_right _ hp)))))
end

/-- the places at which a list of signs is true -/
def posI : Nat → List Bool → List Int
  | _, [] => []
  | i, b :: bs => if b then (i : Int) :: posI (i + 1) bs else posI (i + 1) bs
theorem posI_snoc : ∀ (bs : List Bool) (i : Nat) (b : Bool), posI i (bs ++ [b]) = posI i bs ++ (if b then [((i + bs.length : Nat) : Int)] else [])
  | [], i, b => by cases b <;> simp [posI]
  | a :: bs, i, b => by
    rw [List.cons_append, posI, posI_snoc bs (i + 1) b, posI, List.length_cons, show i + 1 + bs.length = i + (bs.length + 1) by lia]
    cases a <;> simp
theorem posI_len : ∀ (bs : List Bool) (i : Nat), (posI i bs).length ≤ bs.length
  | [], i => by simp [posI]
  | a :: bs, i => by
    have := posI_len bs (i + 1)
    rw [posI, List.length_cons]
    split
    · rw [List.length_cons]; lia
    · lia
theorem posI_nil : ∀ (bs : List Bool) (i : Nat), bs.any id = false → posI i bs = []
  | [], _, _ => rfl
  | true :: bs, i, h => by simp at h
  | false :: bs, i, h => by rw [posI, if_neg (by decide)]; exact posI_nil bs (i + 1) (by simpa using h)
theorem posI_any : ∀ (bs : List Bool) (i : Nat), bs.any id = true → posI i bs ≠ []
  | [], _, h => by simp at h
  | true :: bs, i, h => by rw [posI, if_pos rfl]; simp
  | false :: bs, i, h => by rw [posI, if_neg (by decide)]; exact posI_any bs (i + 1) (by simpa using h)
theorem mem_posI : ∀ (bs : List Bool) (i j : Nat), ((j : Nat) : Int) ∈ posI i bs ↔ i ≤ j ∧ bs.getD (j - i) false = true
  | [], i, j => by simp [posI]
  | b :: bs, i, j => by
    have ih := mem_posI bs (i + 1) j
    rw [posI]
    by_cases hij : j = i
    · subst hij
      have : ¬ ((j : Nat) : Int) ∈ posI (j + 1) bs := fun h => by have := (ih.mp h).1; lia
      cases b <;> simp [this]
    · have hz : ¬ ((j : Nat) : Int) = ((i : Nat) : Int) := fun h => hij (by exact_mod_cast h)
      have e : (((j : Nat) : Int) ∈ if b = true then ((i : Nat) : Int) :: posI (i + 1) bs else posI (i + 1) bs) ↔ ((j : Nat) : Int) ∈ posI (i + 1) bs := by
        cases b <;> simp [hz]
      rw [e, ih]
      constructor
      · rintro ⟨h1, h2⟩
        refine ⟨by lia, ?_⟩
        rw [show j - i = (j - (i + 1)) + 1 by lia, List.getD_cons_succ]; exact h2
      · rintro ⟨h1, h2⟩
        refine ⟨by lia, ?_⟩
        rw [show j - i = (j - (i + 1)) + 1 by lia, List.getD_cons_succ] at h2; exact h2
theorem pairs_pos : ∀ (bs : List Bool) (i : Nat), (posI i bs).take ((posI i bs).length / 2 * 2) = posI i (prs false bs) ∧ (posI i bs).take (((posI i bs).length + 1) / 2 * 2 - 1) = posI i (prs true bs)
  | [], i => by simp [posI, prs]
  | false :: bs, i => by
    have ih := pairs_pos bs (i + 1)
    rw [posI, if_neg (by decide), prs, posI, if_neg (by decide), prs, posI, if_neg (by decide)]
    exact ih
  | true :: bs, i => by
    have ih := pairs_pos bs (i + 1)
    rw [posI, if_pos rfl, prs, prs, List.length_cons]
    refine ⟨?_, ?_⟩
    · by_cases ha : bs.any id = true
      · have hne := posI_any bs (i + 1) ha
        have hl : 1 ≤ (posI (i + 1) bs).length := by
          rcases Nat.eq_zero_or_pos (posI (i + 1) bs).length with h | h
          · exact absurd (List.length_eq_zero_iff.mp h) hne
          · exact h
        rw [if_pos ha, posI, if_pos rfl, ← ih.2]
        rw [show ((posI (i + 1) bs).length + 1) / 2 * 2 = (((posI (i + 1) bs).length + 1) / 2 * 2 - 1) + 1 by lia, List.take_succ_cons]
        rfl
      · have ha' : bs.any id = false := by simpa using ha
        rw [if_neg ha, posI_nil bs (i + 1) ha', posI, if_neg (by decide), ← ih.1, posI_nil bs (i + 1) ha']
        simp
    · rw [posI, if_pos rfl, ← ih.1]
      rw [show ((posI (i + 1) bs).length + 1 + 1) / 2 * 2 - 1 = ((posI (i + 1) bs).length / 2 * 2) + 1 by lia, List.take_succ_cons]
theorem mk_at : ∀ (as : List Str) (e : Bool) (i : Nat), (mk e as).getD i false = decide (as.getD i Str.empty = qt ∧ (escA (if e then 1 else 0) (bitsS as)).getD i 0 = 0)
  | [], e, i => by
    have hq : ¬ Str.empty = qt := by decide
    cases e <;> simp [mk, hq]
  | a :: as, e, 0 => by
    cases e
    · show decide (a = qt) = _
      have : (escA (if false = true then (1 : Int) else 0) (bitsS (a :: as))).getD 0 0 = 0 := rfl
      rw [this]
      show _ = decide (a = qt ∧ (0 : Int) = 0)
      simp
    · show false = _
      have : (escA (if true = true then (1 : Int) else 0) (bitsS (a :: as))).getD 0 0 = 1 := rfl
      rw [this]
      show _ = decide (a = qt ∧ (1 : Int) = 0)
      simp
  | a :: as, true, i + 1 => by
    have ih := mk_at as false i
    have e0 : escA (if true = true then (1 : Int) else 0) (bitsS (a :: as)) = 1 :: escA 0 (bitsS as) := by
      show escA 1 ((if a = Str.ofString "\\" then (1 : Int) else 0) :: bitsS as) = _
      rw [escA, if_neg (by lia)]
    rw [mk, e0, List.getD_cons_succ, List.getD_cons_succ, List.getD_cons_succ, ih]; rfl
  | a :: as, false, i + 1 => by
    have e0 : escA (if false = true then (1 : Int) else 0) (bitsS (a :: as)) = 0 :: escA (if a = Str.ofString "\\" then 1 else 0) (bitsS as) := by
      show escA 0 ((if a = Str.ofString "\\" then (1 : Int) else 0) :: bitsS as) = _
      rw [escA]
      by_cases hb : a = Str.ofString "\\"
      · rw [if_pos hb, if_pos (by simp)]
      · rw [if_neg hb, if_neg (by lia)]
    have ih := mk_at as (decide (a = Str.ofString "\\")) i
    rw [mk, e0, List.getD_cons_succ, List.getD_cons_succ, List.getD_cons_succ, ih]
    by_cases hb : a = Str.ofString "\\" <;> simp [hb]
def MK (x : Str) : List Bool := mk false (signs x)
theorem MK_length (x : Str) : (MK x).length = x.length := by rw [MK, mk_length, signs_length]
theorem MK_at {x : Str} {i : Nat} (hi : i < x.length) : (MK x).getD i false = decide (Txt.item x (i : Int) = qt ∧ (TK x).getD i 0 = 0) := by
  have h := mk_at (signs x) false i
  have e : (signs x).getD i Str.empty = Txt.item x (i : Int) := by rw [List.getD_eq_getElem?_getD, item_sign hi]; rfl
  rw [e] at h
  exact h
theorem fil_step {ys : List Value} {B : List Bool} {i : Nat} (h : IntsAre ys (posI 0 (B.take i))) (hi : i < B.length) :
    (B.getD i false = true → ∀ t, IntsAre (ys ++ [.int (0 + (i : Int)) t]) (posI 0 (B.take (i + 1)))) ∧ (B.getD i false = false → IntsAre ys (posI 0 (B.take (i + 1)))) := by
  have e1 : B.take (i + 1) = B.take i ++ [B.getD i false] := by
    rw [List.take_add_one, List.getD_eq_getElem?_getD, List.getElem?_eq_getElem hi]; rfl
  rw [e1, posI_snoc, List.length_take, Nat.min_eq_left (by lia)]
  refine ⟨fun hb t => ?_, fun hb => ?_⟩
  · rw [hb, if_pos rfl]
    refine h.append ?_
    rw [show (0 : Int) + (i : Int) = ((0 + i : Nat) : Int) by lia]
    exact .cons _ _ .nil
  · rw [hb, if_neg (by decide), List.append_nil]; exact h
def PRS (x : Str) : List Bool := prs false (MK x)
theorem PRS_length (x : Str) : (PRS x).length = x.length := by rw [PRS, prs_length, MK_length]
theorem marks_pairs (x : Str) : (posI 0 (MK x)).take ((posI 0 (MK x)).length / 2 * 2) = posI 0 (PRS x) := (pairs_pos (MK x) 0).1
/-- pairs stand where marks stand -/
theorem prs_le : ∀ (bs : List Bool) (q : Bool) (i : Nat), (prs q bs).getD i false = true → bs.getD i false = true
  | [], q, i, h => by cases q <;> simp [prs] at h
  | false :: bs, q, 0, h => by cases q <;> simp [prs] at h
  | false :: bs, q, i + 1, h => by
    have : (prs q (false :: bs)) = false :: prs q bs := by cases q <;> rfl
    rw [this, List.getD_cons_succ] at h
    rw [List.getD_cons_succ]; exact prs_le bs q i h
  | true :: bs, q, 0, h => rfl
  | true :: bs, true, i + 1, h => by
    rw [prs, List.getD_cons_succ] at h
    rw [List.getD_cons_succ]; exact prs_le bs false i h
  | true :: bs, false, i + 1, h => by
    rw [List.getD_cons_succ]
    rw [prs] at h
    split at h
    · rw [List.getD_cons_succ] at h; exact prs_le bs true i h
    · rw [List.getD_cons_succ] at h; exact prs_le bs false i h
/-- running sums -/
def pre : Int → List Int → List Int
  | _, [] => []
  | o, d :: ds => (o + d) :: pre (o + d) ds
theorem pre_length : ∀ (c : List Int) (o : Int), (pre o c).length = c.length
  | [], _ => rfl
  | d :: c, o => by rw [pre, List.length_cons, pre_length c, List.length_cons]
theorem vl_pre (k : Nat) : ∀ (c : List Int) (o : Int), (2 ^ k - 1) * vl k (pre o c) = (2 ^ k) ^ c.length * (o + c.sum) - (o + vl k c)
  | [], o => by simp [pre, vl]
  | d :: c, o => by
    have ih := vl_pre k c (o + d)
    show (2 ^ k - 1) * ((o + d) + 2 ^ k * vl k (pre (o + d) c)) = (2 ^ k) ^ (c.length + 1) * (o + (d :: c).sum) - (o + (d + 2 ^ k * vl k c))
    rw [List.sum_cons, Int.pow_succ]
    generalize (2 : Int) ^ k = B at *
    generalize vl k (pre (o + d) c) = p at *
    generalize vl k c = v at *
    generalize B ^ c.length = b at *
    generalize c.sum = S at *
    grind
theorem vl_rep (k : Nat) (T : Int) : ∀ (p : List Int), vl k (p.map (T - ·)) = T * rep (2 ^ k) p.length - vl k p
  | [] => by simp [vl, rep]
  | d :: p => by
    have ih := vl_rep k T p
    show (T - d) + 2 ^ k * vl k (p.map (T - ·)) = T * (1 + 2 ^ k * rep (2 ^ k) p.length) - (d + 2 ^ k * vl k p)
    rw [ih]
    generalize (2 : Int) ^ k = B at *
    grind
def wnd (c : List Int) : List Int := pre 0 c ++ (pre 0 c).map (c.sum - ·)
theorem wnd_length (c : List Int) : (wnd c).length = 2 * c.length := by
  rw [wnd, List.length_append, List.length_map, pre_length]; lia
theorem summed_wnd {k : Nat} (hk : 1 ≤ k) (c : List Int) : vl k c * rep (2 ^ k) c.length = vl k (wnd c) := by
  have hB : (2 : Int) ≤ 2 ^ k := by
    rw [← kbt_cast]
    exact_mod_cast Nat.pow_le_pow_right (n := 2) (by decide) hk
  have h1 := vl_pre k c 0
  have h2 := rep_mul (2 ^ k) c.length
  rw [wnd, vl_append, vl_rep, pre_length, Int.pow_mul]
  refine Int.eq_of_mul_eq_mul_left (show (2 : Int) ^ k - 1 ≠ 0 by lia) ?_
  simp only [Int.zero_add] at h1
  generalize (2 : Int) ^ k = B at *
  generalize rep B c.length = r at *
  generalize B ^ c.length = b at *
  generalize vl k c = v at *
  generalize vl k (pre 0 c) = p at *
  generalize c.sum = T at *
  have e1 : (B - 1) * (v * r) = v * (b - 1) := by rw [h2]; grind
  have e2 : (B - 1) * (p + b * (T * r - p)) = (B - 1) * p + b * (T * (b - 1) - (B - 1) * p) := by rw [h2]; grind
  rw [e1, e2, h1]
  grind
theorem vl_mapadd (k : Nat) (G : Int) : ∀ (p : List Int), vl k (p.map (G + ·)) = vl k (List.replicate p.length G) + vl k p
  | [] => by simp [vl]
  | d :: p => by
    have ih := vl_mapadd k G p
    show (G + d) + 2 ^ k * vl k (p.map (G + ·)) = (G + 2 ^ k * vl k (List.replicate p.length G)) + (d + 2 ^ k * vl k p)
    rw [ih, Int.mul_add]; lia
theorem digs_take (k : Nat) : ∀ (K : Nat) (ds : List Int), Dig k ds → K ≤ ds.length → digs k K (vl k ds) = ds.take K
  | 0, _, _, _ => by simp [digs]
  | K + 1, [], _, h => by simp at h
  | K + 1, d :: ds, h, hl => by
    have hd := h d (.head _)
    have hp : (0 : Int) < 2 ^ k := Int.pow_pos (by decide)
    rw [digs, vl, List.take_succ_cons]
    rw [show (d + 2 ^ k * vl k ds) % 2 ^ k = d by rw [Int.add_mul_emod_self_left]; exact Int.emod_eq_of_lt hd.1 hd.2]
    rw [show (d + 2 ^ k * vl k ds) / 2 ^ k = vl k ds by rw [Int.add_mul_ediv_left _ _ (by lia), Int.ediv_eq_zero_of_lt hd.1 hd.2, Int.zero_add]]
    rw [digs_take k K ds (fun x hx => h x (.tail _ hx)) (by simpa using hl)]
def nd (k : Nat) (V : Int) : Nat := (intBits V + k - 1) / k
theorem nd_le {k : Nat} (hk : 1 ≤ k) {ds : List Int} (h : Dig k ds) : nd k (vl k ds) ≤ ds.length := by
  have hb := vl_bounds h
  have := bits_lt hb.1 hb.2
  unfold nd
  have h2 : intBits (vl k ds) + k - 1 < k * (ds.length + 1) := by rw [Nat.mul_add]; lia
  have := Nat.div_lt_of_lt_mul h2
  lia
theorem nd_ge {k : Nat} (hk : 1 ≤ k) {ds : List Int} (h : Dig k ds) {j : Nat} (hj : j < ds.length) (hd : 0 < ds.getD j 0) : j + 1 ≤ nd k (vl k ds) := by
  have e : ds = ds.take j ++ ds.drop j := (List.take_append_drop j ds).symm
  have h1 : Dig k (ds.take j) := fun d hd => h d (List.mem_of_mem_take hd)
  have h2 : Dig k (ds.drop j) := fun d hd => h d (List.mem_of_mem_drop hd)
  have h3 : 1 ≤ vl k (ds.drop j) := by
    rw [List.drop_eq_getElem_cons hj]
    have h4 : Dig k (ds.drop (j + 1)) := fun d hd => h d (List.mem_of_mem_drop hd)
    have b := (vl_bounds h4).1
    have e2 : ds.getD j 0 = ds[j] := by rw [List.getD_eq_getElem?_getD, List.getElem?_eq_getElem hj]; rfl
    have P := p2pos k
    have := Int.mul_nonneg (Int.le_of_lt P) b
    show 1 ≤ ds[j] + 2 ^ k * vl k (ds.drop (j + 1))
    lia
  have hv : (2 : Int) ^ (k * j) ≤ vl k ds := by
    have e3 : vl k ds = vl k (ds.take j) + 2 ^ (k * j) * vl k (ds.drop j) := by
      have := vl_append k (ds.take j) (ds.drop j)
      rw [List.take_append_drop, List.length_take, Nat.min_eq_left (by lia)] at this
      exact this
    have b := (vl_bounds h1).1
    have P := p2pos (k * j)
    have : (2 : Int) ^ (k * j) * 1 ≤ 2 ^ (k * j) * vl k (ds.drop j) := Int.mul_le_mul_of_nonneg_left h3 (Int.le_of_lt P)
    lia
  have hb : ¬ intBits (vl k ds) ≤ k * j := by
    rw [intBits_le_iff]
    have := kbt_cast (k * j)
    lia
  unfold nd
  rw [Nat.le_div_iff_mul_le (by lia), Nat.add_mul, Nat.one_mul, Nat.mul_comm]
  lia
def CI (x : Str) : List Int := (PRS x).map fun b => if b then 1 else 0
theorem CI_length (x : Str) : (CI x).length = x.length := by rw [CI, List.length_map, PRS_length]
theorem CI_bd (x : Str) : ∀ d ∈ CI x, 0 ≤ d ∧ d ≤ 1 := fun d hd => by
  obtain ⟨b, _, rfl⟩ := List.mem_map.mp hd
  cases b <;> decide
theorem plc_pos {x y : Str} {B : List Bool} (hB : B.length = x.length) (h : ∀ i, i < x.length → B.getD i false = true → Txt.item x (i : Int) = y) : plc x y (posI 0 B) = B.map fun b => if b then 1 else 0 := by
  refine List.ext_getElem (by rw [plc_length, List.length_map, hB]) fun i h1 h2 => ?_
  have hi : i < x.length := by rw [plc_length] at h1; exact h1
  have e : B.getD i false = B[i]'(by lia) := by rw [List.getD_eq_getElem?_getD, List.getElem?_eq_getElem (by lia)]; rfl
  have hm := mem_posI B 0 i
  rw [Nat.sub_zero, e] at hm
  have e1 : (plc x y (posI 0 B))[i]'h1 = if (i : Int) ∈ posI 0 B ∧ Txt.item x (i : Int) = y then 1 else 0 := by simp only [plc, List.getElem_map, List.getElem_range]
  rw [e1, List.getElem_map]
  cases hb : B[i]'(by lia) with
  | true =>
    rw [if_pos ⟨hm.mpr ⟨Nat.zero_le _, hb⟩, h i hi (by rw [e, hb])⟩, if_pos rfl]
  | false =>
    rw [if_neg (fun hh => by have := (hm.mp hh.1).2; rw [hb] at this; cases this), if_neg (by decide)]
theorem plc_CI (x : Str) : plc x qt (posI 0 (PRS x)) = CI x :=
  plc_pos (PRS_length x) fun i hi h => by
    have := prs_le _ _ _ h
    rw [MK_at hi] at this
    exact (of_decide_eq_true this).1
theorem pre_bd : ∀ (c : List Int) (o : Int), (∀ d ∈ c, 0 ≤ d ∧ d ≤ 1) → (0 ≤ c.sum ∧ c.sum ≤ c.length) ∧ ∀ p ∈ pre o c, o ≤ p ∧ p ≤ o + c.sum
  | [], o, _ => by simp [pre]
  | d :: c, o, h => by
    have hd := h d (.head _)
    have ih := pre_bd c (o + d) fun e he => h e (.tail _ he)
    rw [List.sum_cons, List.length_cons]
    refine ⟨by lia, fun p hp => ?_⟩
    rw [pre] at hp
    rcases List.mem_cons.mp hp with rfl | hp
    · lia
    · have := ih.2 p hp; lia
theorem pre_abs : ∀ (c : List Int) (o : Int), (∀ d ∈ c, -1 ≤ d ∧ d ≤ 1) → (-(c.length : Int) ≤ c.sum ∧ c.sum ≤ c.length) ∧ ∀ p ∈ pre o c, o - c.length ≤ p ∧ p ≤ o + c.length
  | [], o, _ => by simp [pre]
  | d :: c, o, h => by
    have hd := h d (.head _)
    have ih := pre_abs c (o + d) fun e he => h e (.tail _ he)
    rw [List.sum_cons, List.length_cons]
    refine ⟨by lia, fun p hp => ?_⟩
    rw [pre] at hp
    rcases List.mem_cons.mp hp with rfl | hp
    · lia
    · have := ih.2 p hp; lia
theorem pow64 {k : Nat} (hk : 6 ≤ k) : (64 : Int) ≤ 2 ^ k := by
  rw [← kbt_cast]
  exact_mod_cast Nat.pow_le_pow_right (n := 2) (by decide) hk
theorem wnd_CI {x : Str} {k : Nat} (hx : x.length ≤ 11) (hk : 6 ≤ k) : Dig k (wnd (CI x)) := fun d hd => by
  have P := pow64 hk
  have h := pre_bd (CI x) 0 (CI_bd x)
  rw [CI_length] at h
  rcases List.mem_append.mp hd with hd | hd
  · have := h.2 d hd; lia
  · obtain ⟨p, hp, rfl⟩ := List.mem_map.mp hd
    have := h.2 p hp; lia
theorem sum_any : ∀ (B : List Bool), B.any id = true → 1 ≤ (B.map fun b => if b then (1 : Int) else 0).sum
  | [], h => by simp at h
  | true :: B, h => by
    have : ∀ B : List Bool, 0 ≤ (B.map fun b => if b then (1 : Int) else 0).sum := fun B => by
      induction B with
      | nil => simp
      | cons b B ih => cases b <;> simp <;> lia
    have := this B
    rw [List.map_cons, List.sum_cons, if_pos rfl]; lia
  | false :: B, h => by
    have := sum_any B (by simpa using h)
    rw [List.map_cons, List.sum_cons, if_neg (by decide)]; lia
theorem map_none : ∀ (B : List Bool), B.any id = false → (B.map fun b => if b then (1 : Int) else 0) = List.replicate B.length 0
  | [], _ => rfl
  | true :: B, h => by simp at h
  | false :: B, h => by rw [List.map_cons, map_none B (by simpa using h), List.length_cons, List.replicate_succ]; rfl
theorem pre_last : ∀ (c : List Int) (o : Int), c ≠ [] → (pre o c).getD (c.length - 1) 0 = o + c.sum
  | [], _, h => absurd rfl h
  | [d], o, _ => by simp [pre]
  | d :: e :: c, o, _ => by
    have := pre_last (e :: c) (o + d) (by simp)
    rw [pre, List.length_cons, Nat.add_sub_cancel, List.length_cons, List.getD_cons_succ, List.sum_cons]
    rw [List.length_cons, Nat.add_sub_cancel] at this
    rw [this]; lia
/-- the row of the law -/
def ROW (x : Str) (k : Nat) : List Int := (wnd (CI x)).take (nd k (vl k (wnd (CI x))))
theorem row_is {x : Str} {k : Nat} (hx : x.length ≤ 11) (hk : 6 ≤ k) : digs k (nd k (vl k (wnd (CI x)))) (vl k (wnd (CI x))) = ROW x k :=
  digs_take k _ _ (wnd_CI hx hk) (nd_le (by lia) (wnd_CI hx hk))
theorem row_none {x : Str} {k : Nat} (hk : 6 ≤ k) (h : (PRS x).any id = false) : ROW x k = [] := by
  have e : CI x = List.replicate x.length 0 := by rw [CI, map_none _ h, PRS_length]
  have p0 : ∀ n : Nat, pre 0 (List.replicate n 0) = List.replicate n 0 := fun n => by
    induction n with
    | zero => rfl
    | succ n ih => rw [List.replicate_succ, pre, Int.add_zero, ih]
  have v0 : ∀ n : Nat, vl k (List.replicate n 0) = 0 := fun n => by
    induction n with
    | zero => rfl
    | succ n ih => rw [List.replicate_succ, vl, ih]; lia
  have s0 : (List.replicate x.length (0 : Int)).sum = 0 := by simp
  have w0 : wnd (CI x) = List.replicate (x.length + x.length) 0 := by
    rw [wnd, e, p0, s0, List.map_replicate, ← List.replicate_append_replicate]; rfl
  unfold ROW
  have h1 : nd k (vl k (wnd (CI x))) = 0 := by
    rw [w0, v0]
    unfold nd
    rw [show intBits 0 = 0 by decide, Nat.zero_add]
    exact Nat.div_eq_of_lt (by lia)
  rw [h1, List.take_zero]
theorem row_some {x : Str} {k : Nat} (hx : x.length ≤ 11) (hk : 6 ≤ k) (h : (PRS x).any id = true) : x.length ≤ (ROW x k).length ∧ ∀ i, i < x.length → (ROW x k).getD i 0 = (pre 0 (CI x)).getD i 0 := by
  have hn : 1 ≤ x.length := by
    rcases Nat.eq_zero_or_pos x.length with h0 | h0
    · have : PRS x = [] := List.length_eq_zero_iff.mp (by rw [PRS_length]; exact h0)
      rw [this] at h; simp at h
    · exact h0
  have hc : (CI x) ≠ [] := fun e => by
    have := CI_length x
    rw [e] at this; simp at this; lia
  have hl := pre_last (CI x) 0 hc
  have hs := sum_any (PRS x) h
  have hs' : 1 ≤ (CI x).sum := hs
  have hpl : (pre 0 (CI x)).length = x.length := by rw [pre_length, CI_length]
  have hgl : ∀ i, i < x.length → (wnd (CI x)).getD i 0 = (pre 0 (CI x)).getD i 0 := fun i hi => by
    rw [wnd, List.getD_eq_getElem?_getD, List.getElem?_append_left (by lia), ← List.getD_eq_getElem?_getD]
  have hge := nd_ge (k := k) (by lia) (wnd_CI hx hk) (j := x.length - 1) (by rw [wnd_length, CI_length]; lia) (by
    rw [hgl _ (by lia)]
    rw [CI_length] at hl
    rw [hl]; lia)
  have hle := nd_le (k := k) (by lia) (wnd_CI hx hk)
  refine ⟨?_, fun i hi => ?_⟩
  · rw [ROW, List.length_take]
    rw [wnd_length, CI_length] at hle ⊢
    lia
  · rw [ROW, List.getD_eq_getElem?_getD, List.getElem?_take_of_lt (by lia), ← List.getD_eq_getElem?_getD, hgl i hi]

section
variable {prog : Program} {w : World} {A : Around} {s : Shared} {h₀ : Heap} {L : Addr} {m : Str → Option Value} {env : Env} {ct elt : Expr} {x : Str} {scope : Scope} {cl : List (Str × Addr)} {S : List (Addr × Obj) → Prop} {P : Nat → Value → Prop} {Fin : List Value → List (Addr × Obj) → Prop} {news : List (Addr × Obj)}
theorem compT_ind (J : Nat → List Value → Prop) (n : Nat) (hJ : J 0 [])
    (turn : ∀ k i ys, i + (k + 1) = n → J i ys → (∀ ys', J (i + 1) ys' → LCt.CompRestT prog w A h₀ L m env ct elt x scope cl s S P Fin k (i + 1) ys' news) → LCt.CompRestT prog w A h₀ L m env ct elt x scope cl s S P Fin (k + 1) i ys news)
    (done : ∀ ys, J n ys → Fin ys news) : LCt.CompRestT prog w A h₀ L m env ct elt x scope cl s S P Fin n 0 [] news := by
  have H : ∀ k i ys, i + k = n → J i ys → LCt.CompRestT prog w A h₀ L m env ct elt x scope cl s S P Fin k i ys news := by
    intro k
    induction k with
    | zero => intro i ys hi h; obtain rfl : i = n := hi; exact done ys h
    | succ k ih => intro i ys hi h; exact turn k i ys hi h fun ys' h' => ih (i + 1) ys' (by lia) h'
  exact H n 0 [] (by lia) hJ
end
def setM (x : Str) (v : Value) (m : Str → Option Value) : Str → Option Value := fun y => if y = x then some v else m y
theorem fr_set {g : Heap} {L : Addr} {h : Heap} {m : Str → Option Value} {x : Str} {v : Value} (F : Fr g L h m) (e : m x = some v) : Fr g L h (setM x v m) := fr_map F fun y => by
  unfold setM
  by_cases hy : y = x
  · rw [if_pos hy, hy, e]
  · rw [if_neg hy]
section
variable {w : World} {mg mb : Str → Option Value} {LO : List Str} {mean : ExcName → Option Value} {dp un : Nat} {fr : Option (List Env)} {gd : Option (List Code)} {s : Shared} {g : Heap} {L : Addr} {m0 : Str → Option Value} {TT : List (Addr × Obj)}
  {R : Flow → Shared → Prop}
local macro_rules | `(tactic| walk_at "exec Assign cons ListComp") => `(tactic| (refine stop_out ?_))
local macro_rules | `(tactic| walk_at "CompSrcT") => `(tactic| (refine stop_out ?_))
local macro_rules | `(tactic| walk_at "CompEnd") => `(tactic| (refine stop_out ?_))
local macro_rules | `(tactic| walk_at "call ref") => `(tactic| (refine stop_out ?_))
local macro_rules | `(tactic| walk_at "compareOp NotEq ref ref") => `(tactic| (refine stop_out ?_))
local macro_rules | `(tactic| walk_at "subscriptTail Name Slice ref ref") => `(tactic| (refine stop_out ?_))
local macro_rules | `(tactic| walk_at "storeName") => `(tactic| (with_reducible first | show wpAny _ _ (storeName _ (Str.ofString "pairs") _) _ _ _ | show wpAny _ _ (storeName _ (Str.ofString "row") _) _ _ _; refine stop_out ?_))
theorem one_p3 {x : Str} {t t2 : Tok} {wd : Int} {o1 o2 o3 o4 o5 o6 : Obj} {Dt : Addr} {vt : List Value} {et : Nat} {tS : Tok} (I : Inv w mg mb LO mean g) (F : Fr g L s.heap (setM (Str.ofString "size") (.int x.length tS) m0))
    (N : News g L s.heap ((Dt, listOf vt.toArray et) :: cl6 L o6 o5 o4 o3 o2 o1 TT)) (TL : TabL TT) (hroom : dp < 700) (hun : un < 5000) (hxl : x.length ≤ 11) (hw : 6 ≤ wd) (hw2 : wd ≤ 4400)
    (d1 : o1.data = .cell (some (.str x t))) (d2 : o2.data = .cell (some (.int wd t2))) (d3 : o3.data = .cell (some (.ref Dt))) (d4 : o4.data = .cell none) (d5 : o5.data = .cell none) (d6 : o6.data = .cell none)
    (hit : IntsAre vt (TK x))
    (hK : ∀ (Dp Dr : Addr) ps rv ep er o4' o5' h' tk' TT' m', Fr g L h' (setM (Str.ofString "size") (.int x.length tS) m') →
      News g L h' ((Dr, listOf rv.toArray er) :: (Dp, listOf ps.toArray ep) :: (Dt, listOf vt.toArray et) :: cl6 L o6 o5' o4' o3 o2 o1 TT') → TabL TT' →
      o4'.data = .cell (some (.ref Dp)) → o5'.data = .cell (some (.ref Dr)) → IntsAre ps (posI 0 (PRS x)) → IntsAre rv (ROW x wd.toNat) →
      wpAny (model PR w) ((mkA dp fr gd un).deeper (oneEnv L)) (execs (oneBody.drop 11) (oneEnv L)) R (fun _ _ => False) { s with heap := h', toks := tk' }) :
    wpAny (model PR w) ((mkA dp fr gd un).deeper (oneEnv L)) (execs (oneBody.drop 6) (oneEnv L)) R (fun _ _ => False) s := by
  have X := I.X
  rw [show oneBody.drop 6 = _ :: _ :: _ :: _ :: _ :: oneBody.drop 11 from rfl]
  unfold oneEnv at hK ⊢
  rw [show oneScope = Scope.mk _ _ _ _ _ from rfl] at hK ⊢
  generalize oneBody.drop 11 = rest at hK ⊢
  unfold setM at F
  have htl : (TK x).length = x.length + 1 := by rw [TK, escA_length, bitsS, List.length_map, signs_length]
  have hml := MK_length x
  refine letE ?_
  intro ML eL AL sL
  refine letN1 N ?_
  clear N
  intro CL N
  k_steps
  refine stop_in ?_
  refine LCt.Assign_ListComp_T (F₀ := F) rfl (by with_unfolding_all rfl) (by with_unfolding_all rfl) (by decide) rfl (by decide) rfl rfl rfl ?_
  k_steps
  refine stop_in ?_
  rename Fr _ _ _ _ => F1
  rename News _ _ _ _ => N1
  refine LCt.CompSrcT.range rfl F1 N1 (by assumption) (small_one (by lia) (by lia) (by lia) (by lia)) (rangeSize_nat _ _) (by unfold sizeLine; lia) ?_
  intro g2
  clear F1 N1
  refine compT_ind (fun i ys => IntsAre ys (posI 0 ((MK x).take i))) x.length .nil ?turn ?done
  case turn =>
    intro k i ys hi hJ ih
    refine LCt.CompRestT.succ ?_
    intro v It oI Ct oC D m₂ h tk E' hv hC hx F N off ne
    obtain ⟨tv, rfl⟩ := hv
    have hil : i < x.length := by lia
    have hfs := fil_step hJ (show i < (MK x).length by lia)
    rw [MK_at hil] at hfs
    have e0 : (0 : Int) + (i : Int) = (i : Int) := by lia
    rw [e0] at hfs
    k_steps
    · rename (Txt.item x _ == _) = true => h1
      rename (TK x).getD _ 0 = 0 => h2
      rw [e0] at h1 h2
      rw [Int.toNat_natCast] at h2
      refine stop_in ⟨_, _, _, rfl, by assumption, by assumption, off, trivial, ih _ ?_⟩
      have := hfs.1 (decide_eq_true ⟨of_beq_eq h1, h2⟩) tv
      rw [e0]; exact this
    · rename (TK x).getD _ 0 ≠ 0 => h2
      rw [e0] at h2
      rw [Int.toNat_natCast] at h2
      exact stop_in ⟨_, _, _, rfl, by assumption, by assumption, off, trivial, ih _ (hfs.2 (decide_eq_false fun hh => h2 hh.2))⟩
    · rename (Txt.item x _ == _) = false => h1
      rw [e0] at h1
      exact stop_in ⟨_, _, _, rfl, by assumption, by assumption, off, trivial, ih _ (hfs.2 (decide_eq_false fun hh => of_beq_ne h1 hh.1))⟩
  case done =>
    intro ys hJ
    rw [List.take_of_length_le (by lia)] at hJ
    intro Dm h tk F N0 _
    obtain ⟨em, N⟩ : ∃ em, News g L h ((Dm, listOf ys.toArray em) :: (Dt, listOf vt.toArray et) :: cl6 L o6 o5 o4 o3 o2 o1 TT) := ⟨_, N0⟩
    clear N0
    have hyl := hJ.length
    have hpl := posI_len (MK x) 0
    have hfd : Int.fdiv ((posI 0 (MK x)).length : Int) 2 * 2 = (((posI 0 (MK x)).length / 2 * 2 : Nat) : Int) := by
      rw [Int.fdiv_eq_ediv_of_nonneg _ (by decide)]; lia
    k_steps
    rotate_left
    · exact IntMulOk.of_right (intBits_le_64 (by lia) (by lia))
    refine stop_in ?_
    rename Fr _ _ _ _ => F1
    rename News _ _ _ _ => N1
    refine kmk_slice_ints (ms := posI 0 (PRS x)) F1 N1 (News.isList N1 (.head _)) .none (.int _ _) hJ (by rw [hfd, ← marks_pairs]; exact kmk_upto hJ (by lia)) rfl ?_ (by with_unfolding_all rfl) (by intro _; with_unfolding_all rfl) (by rw [List.size_toArray]; unfold sizeLine; lia)
    clear F1 N1
    intro Dp ps h5 F5 N5 _ hip _ hpl2
    refine stop_in ?_
    refine storeC (rest := (L + 1 + 1 + 1, o3) :: (L + 1 + 1, o2) :: (L + 1, o1) :: TT) [_, _, _, _, _] F5 N5 rfl d4 (.no rfl (.no rfl (.no rfl (.ne (neN (by lia)) (.ne (neN (by lia)) .nil))))) (.ne (neN (by lia)) (.ne (neN (by lia)) (.ne (neN (by lia)) (.tab TL)))) ?_
    clear F5 N5
    intro h6 o4' F6 N6 d4'
    replace N6 : News g L h6 (_ :: _ :: _ :: cl6 L o6 o5 o4' o3 o2 o1 TT) := N6
    k_steps
    refine stop_in ?_
    rename Fr _ _ _ _ => F7
    rename News _ _ _ _ => N7
    have hk1 : 6 ≤ wd.toNat := by lia
    have hpx : (posI 0 (PRS x)).length ≤ 11 := by have := posI_len (PRS x) 0; rw [PRS_length] at this; lia
    refine sp_places I F7 N7 TL (.cons rfl (.cons rfl (.cons rfl (ends6 d6 d5 d4' d3 d2 d1)))) (by walk_at "my room") (.head _) rfl rfl hip (by lia) hxl (by lia) hw2 ?_
    clear F7 N7
    rw [show plc x (Str.ofString "\"") (posI 0 (PRS x)) = CI x from plc_CI x]
    intro h8 tk8 t8 TT8 F8 N8 TL8
    have hci : Dig wd.toNat (CI x) := fun d hd => by have := CI_bd x d hd; have := pow64 hk1; lia
    have hcv := vl_bounds hci
    rw [CI_length] at hcv
    have hcb : intBits (vl wd.toNat (CI x)) ≤ wd.toNat * 12 := Nat.le_trans (bits_lt hcv.1 hcv.2) (Nat.mul_le_mul (Nat.le_refl _) (by lia))
    obtain ⟨number, hnum⟩ : ∃ number, number = vl wd.toNat (CI x) := ⟨_, rfl⟩
    rw [← hnum] at hcb ⊢
    k_steps
    refine stop_in ?_
    rename Fr _ _ _ _ => F9
    rename News _ _ _ _ => N9
    refine sp_summed I F9 N9 TL8 (.cons rfl (.cons rfl (.cons rfl (ends6 d6 d5 d4' d3 d2 d1)))) (by walk_at "my room") (by lia) (by lia) hw hw2 hcb ?_
    clear F9 N9
    have hsw : number * rep (2 ^ wd.toNat) (x.length : Int).toNat = vl wd.toNat (wnd (CI x)) := by
      have := summed_wnd (k := wd.toNat) (by lia) (CI x)
      rw [CI_length] at this
      rw [Int.toNat_natCast, hnum, this]
    rw [hsw]
    intro pt h10 tk10 t10 t11 TT10 F10 N10 TL10
    have hwd := wnd_CI (x := x) (k := wd.toNat) hxl hk1
    have hwv := vl_bounds hwd
    have hnd := nd_le (k := wd.toNat) (by lia) hwd
    rw [wnd_length, CI_length] at hnd
    have hrow := row_is (x := x) (k := wd.toNat) hxl hk1
    obtain ⟨V, hV⟩ : ∃ V, V = vl wd.toNat (wnd (CI x)) := ⟨_, rfl⟩
    rw [← hV] at hwv hnd hrow N10
    replace N10 : News g L h10 (_ :: _ :: _ :: _ :: cl6 L o6 o5 o4' o3 o2 o1 TT10) := N10
    k_steps
    refine stop_in ?_
    rename Fr _ _ _ _ => F11
    rename News _ _ _ _ => N11
    refine sp_i2d I F11 N11 TL10 (.cons rfl (.cons rfl (.cons rfl (.cons rfl (ends6 d6 d5 d4' d3 d2 d1))))) (by walk_at "my room") hwv.1 (by lia) (by lia) (Nat.le_trans hnd (by lia)) ?_
    clear F11 N11
    intro Dr rv er h12 tk12 TT12 F12 N12 TL12 hir
    have hir : IntsAre rv (ROW x wd.toNat) := by rw [← hrow]; exact hir
    k_steps
    refine stop_in ?_
    refine storeC (rest := (L + 1 + 1 + 1 + 1, o4') :: (L + 1 + 1 + 1, o3) :: (L + 1 + 1, o2) :: (L + 1, o1) :: TT12) [_, _, _, _, _, _] F12 N12 rfl d5 (.no rfl (.no rfl (.no rfl (.no rfl (.no rfl (.ne (neN (by lia)) .nil)))))) (.ne (neN (by lia)) (.ne (neN (by lia)) (.ne (neN (by lia)) (.ne (neN (by lia)) (.tab TL12))))) ?_
    clear F12 N12
    intro h13 o5' F13 N13 d5'
    replace N13 : News g L h13 (_ :: _ :: _ :: _ :: _ :: cl6 L o6 o5' o4' o3 o2 o1 TT12) := N13
    have hrl : (ROW x wd.toNat).length < x.length → (PRS x).any id = false := fun h => by
      cases ha : (PRS x).any id with
      | false => rfl
      | true => exact absurd (row_some hxl hk1 ha).1 (by lia)
    have hrll : (ROW x wd.toNat).length ≤ 22 := by unfold ROW; rw [List.length_take, wnd_length, CI_length]; lia
    have fin : ∀ {h' : Heap} {tk' : Nat} {m' : Str → Option Value} {pre : List (Addr × Obj)}, m' (Str.ofString "size") = some (.int x.length tS) → Fr g L h' m' → News g L h' (pre ++ ((Dr, listOf rv.toArray er) :: (pt, tup2 (.int V t10) (.int 0 t11)) :: (Dp, listOf ps.toArray 0) :: (Dm, listOf ys.toArray em) :: (Dt, listOf vt.toArray et) :: cl6 L o6 o5' o4' o3 o2 o1 TT12)) → _ := fun {h' tk' m' pre} e F N =>
      hK Dp Dr ps rv 0 er o4' o5' h' tk' TT12 m' (fr_set F e) (news_part N fun p hp => List.mem_append_right _ (kp (dr (kp (dr (kp sub_rfl)))) p hp)) TL12 d4' d5' hip hir
    k_steps
    · refine stop_in ?_
      have hno := hrl (by lia)
      have hpn : posI 0 (PRS x) = [] := posI_nil _ _ hno
      rename Fr _ _ _ _ => F14
      rename News _ _ _ _ => N14
      refine ke_ne_ints (News.isList N14 (.tail _ (.tail _ (.tail _ (.head _))))) (News.isList N14 (.head _)) hip .nil (show un + 3 + 64 < 9900 by lia) ?_
      rw [hpn]
      k_steps
      exact fin (pre := [_]) rfl (by assumption) N14
    · exact fin (pre := []) rfl (by assumption) N13
end

theorem sh_gen : ∀ (bs : List Bool) (q : Bool) (o : Int) (i : Nat), o % 2 = (if q then 1 else 0) → i < bs.length →
    (shs q bs).getD i false = decide ((pre o ((prs q bs).map fun b => if b then (1 : Int) else 0)).getD i 0 % 2 = 0 ∧ (prs q bs).getD i false = false)
  | [], q, o, i, _, h => by simp at h
  | false :: bs, q, o, 0, ho, _ => by
    have e1 : shs q (false :: bs) = (!q) :: shs q bs := by cases q <;> rfl
    have e2 : prs q (false :: bs) = false :: prs q bs := by cases q <;> rfl
    rw [e1, e2]
    show (!q) = decide ((o + 0) % 2 = 0 ∧ false = false)
    cases q <;> simp at ho ⊢ <;> lia
  | false :: bs, q, o, i + 1, ho, h => by
    have e1 : shs q (false :: bs) = (!q) :: shs q bs := by cases q <;> rfl
    have e2 : prs q (false :: bs) = false :: prs q bs := by cases q <;> rfl
    have ih := sh_gen bs q (o + 0) i (by simpa using ho) (by simpa using h)
    rw [e1, e2, List.getD_cons_succ, List.getD_cons_succ, List.map_cons, if_neg (by decide), pre, List.getD_cons_succ, ih]
  | true :: bs, true, o, 0, ho, _ => by
    rw [shs, prs]
    show false = decide (_ ∧ true = false)
    simp
  | true :: bs, true, o, i + 1, ho, h => by
    simp only [if_true] at ho
    have ih := sh_gen bs false (o + 1) i (by simp; lia) (by simpa using h)
    rw [shs, prs, List.getD_cons_succ, List.getD_cons_succ, List.map_cons, if_pos rfl, pre, List.getD_cons_succ, ih]
  | true :: bs, false, o, i, ho, h => by
    rw [shs, prs]
    by_cases ha : bs.any id = true
    · rw [if_pos ha, if_pos ha]
      cases i with
      | zero =>
        show false = decide (_ ∧ true = false)
        simp
      | succ i =>
        simp at ho
        have ih := sh_gen bs true (o + 1) i (by simp; lia) (by simpa using h)
        rw [List.getD_cons_succ, List.getD_cons_succ, List.map_cons, if_pos rfl, pre, List.getD_cons_succ, ih]
    · rw [if_neg ha, if_neg ha]
      cases i with
      | zero =>
        show true = decide ((o + 0) % 2 = 0 ∧ false = false)
        simp at ho
        simp; lia
      | succ i =>
        have ih := sh_gen bs false (o + 0) i (by simpa using ho) (by simpa using h)
        rw [List.getD_cons_succ, List.getD_cons_succ, List.map_cons, if_neg (by decide), pre, List.getD_cons_succ, ih]
theorem SH_at {x : Str} {i : Nat} (hi : i < x.length) : (SH x).getD i false = decide ((pre 0 (CI x)).getD i 0 % 2 = 0 ∧ (PRS x).getD i false = false) :=
  sh_gen (MK x) false 0 i rfl (by rw [MK_length]; exact hi)
theorem any_prs : ∀ (bs : List Bool) (q : Bool), (q = true → bs.any id = true) → (prs q bs).any id = false → (shs q bs) = List.replicate bs.length true
  | [], q, _, _ => by cases q <;> rfl
  | false :: bs, false, _, h => by
    have := any_prs bs false (by simp) (by simpa [prs] using h)
    rw [shs, this, List.length_cons, List.replicate_succ]; rfl
  | false :: bs, true, hq, h => by
    have e : ∀ bs : List Bool, bs.any id = true → (prs true bs).any id = true := fun bs => by
      induction bs with
      | nil => simp
      | cons b bs ih => cases b <;> simp [prs] <;> simpa using ih
    have := e _ (hq rfl)
    rw [h] at this; cases this
  | true :: bs, true, _, h => by simp [prs] at h
  | true :: bs, false, _, h => by
    rw [prs] at h
    rw [shs]
    by_cases ha : bs.any id = true
    · rw [if_pos ha] at h; simp at h
    · rw [if_neg ha] at h
      rw [if_neg ha, any_prs bs false (by simp) (by simpa using h), List.length_cons, List.replicate_succ]
theorem SH_none {x : Str} (h : (PRS x).any id = false) {i : Nat} (hi : i < x.length) : (SH x).getD i false = true := by
  have : SH x = List.replicate (MK x).length true := any_prs (MK x) false (by simp) h
  rw [this, List.getD_eq_getElem?_getD, List.getElem?_replicate, if_pos (by rw [MK_length]; exact hi)]; rfl
/-- the law's test for a shown place -/
theorem SH_test {x : Str} {k i : Nat} (hx : x.length ≤ 11) (hk : 6 ≤ k) (hi : i < x.length) :
    (ROW x k = [] → (SH x).getD i false = true) ∧ (ROW x k ≠ [] → i < (ROW x k).length ∧ ((SH x).getD i false = true ↔ (ROW x k).getD i 0 % 2 = 0 ∧ ¬ (i : Int) ∈ posI 0 (PRS x))) := by
  have hm := mem_posI (PRS x) 0 i
  rw [Nat.sub_zero] at hm
  constructor
  · intro h
    cases ha : (PRS x).any id with
    | false => exact SH_none ha hi
    | true =>
      have := (row_some hx hk ha).1
      rw [h] at this; simp at this; lia
  · intro h
    cases ha : (PRS x).any id with
    | false => exact absurd (row_none hk ha) h
    | true =>
      obtain ⟨h1, h2⟩ := row_some hx hk ha
      refine ⟨by lia, ?_⟩
      rw [SH_at hi, h2 i hi, decide_eq_true_iff, hm]
      simp
theorem sel_pos (c : List Nat) : ∀ (B : List Bool) (i : Nat), i + B.length = c.length → ((posI i B).map fun p => [c.getD p.toNat 0]).flatten = sel B (c.drop i)
  | [], i, _ => by
    cases c.drop i <;> rfl
  | b :: B, i, h => by
    rw [List.length_cons] at h
    have ih := sel_pos c B (i + 1) (by lia)
    have hi : i < c.length := by lia
    rw [posI, List.drop_eq_getElem_cons hi, sel]
    cases b with
    | true =>
      rw [if_pos rfl, if_pos rfl, List.map_cons, List.flatten_cons, ih, Int.toNat_natCast, List.getD_eq_getElem?_getD, List.getElem?_eq_getElem hi]; rfl
    | false =>
      rw [if_neg (by decide), if_neg (by decide), ih]
theorem posI_bd : ∀ (B : List Bool) (i : Nat), ∀ p ∈ posI i B, (i : Int) ≤ p ∧ p < i + B.length
  | [], i, p, h => by cases h
  | b :: B, i, p, h => by
    rw [posI] at h
    have ih := posI_bd B (i + 1)
    rw [List.length_cons]
    split at h
    · rcases List.mem_cons.mp h with rfl | h
      · lia
      · have := ih p h; lia
    · have := ih p h; lia
theorem join_shown (x : Str) : Txt.join (Str.ofString "") ((posI 0 (SH x)).map fun p => Txt.item x p) = stripS x := by
  have hl : x.cps.toList.length = x.length := by simp [Str.length]
  refine str_ext ?_
  rw [join_flat, strip_sel, List.map_map]
  have h := sel_pos x.cps.toList (SH x) 0 (by rw [SH_length]; lia)
  rw [List.drop_zero] at h
  rw [← h]
  congr 1
  refine List.map_congr_left fun p hp => ?_
  have hb := posI_bd (SH x) 0 p hp
  rw [SH_length] at hb
  show (Txt.item x p).cps.toList = _
  rw [item_at (x := x) (i := p) (n := p.toNat) (by lia) (by lia) rfl]
  simp
section
variable {prog : Program} {w : World} {A : Around} {s : Shared} {h₀ : Heap} {L : Addr} {m : Str → Option Value} {env : Env} {elt : Expr} {x : Str} {scope : Scope} {cl : List (Str × Addr)} {S : List (Addr × Obj) → Prop} {P : Nat → Value → Prop} {Fin : List Value → List (Addr × Obj) → Prop} {news : List (Addr × Obj)}
theorem compU_ind (J : Nat → List Value → Prop) (n : Nat) (hJ : J 0 [])
    (turn : ∀ k i ys, i + (k + 1) = n → J i ys → (∀ ys', J (i + 1) ys' → LCg.CompRest prog w A h₀ L m env elt x scope cl s S P Fin k (i + 1) ys' news) → LCg.CompRest prog w A h₀ L m env elt x scope cl s S P Fin (k + 1) i ys news)
    (done : ∀ ys, J n ys → Fin ys news) : LCg.CompRest prog w A h₀ L m env elt x scope cl s S P Fin n 0 [] news := by
  have H : ∀ k i ys, i + k = n → J i ys → LCg.CompRest prog w A h₀ L m env elt x scope cl s S P Fin k i ys news := by
    intro k
    induction k with
    | zero => intro i ys hi h; obtain rfl : i = n := hi; exact done ys h
    | succ k ih => intro i ys hi h; exact turn k i ys hi h fun ys' h' => ih (i + 1) ys' (by lia) h'
  exact H n 0 [] (by lia) hJ
end
section
variable {w : World} {mg mb : Str → Option Value} {LO : List Str} {mean : ExcName → Option Value} {dp un : Nat} {fr : Option (List Env)} {gd : Option (List Code)} {s : Shared} {g : Heap} {L : Addr} {m0 : Str → Option Value} {TT : List (Addr × Obj)}
  {R : Flow → Shared → Prop}
local macro_rules | `(tactic| walk_at "exec Assign cons ListComp") => `(tactic| (refine stop_out ?_))
local macro_rules | `(tactic| walk_at "CompSrcT") => `(tactic| (refine stop_out ?_))
local macro_rules | `(tactic| walk_at "CompEnd") => `(tactic| (refine stop_out ?_))
local macro_rules | `(tactic| walk_at "call ref") => `(tactic| (refine stop_out ?_))
local macro_rules | `(tactic| walk_at "compareOp Eq ref ref") => `(tactic| (refine stop_out ?_))
local macro_rules | `(tactic| walk_at "eval ListComp") => `(tactic| (refine stop_out ?_))
local macro_rules | `(tactic| walk_at "CompSrc") => `(tactic| (refine stop_out ?_))
local macro_rules | `(tactic| walk_at "FinE") => `(tactic| (refine stop_out ?_))
theorem one_p4 {x : Str} {t t2 : Tok} {wd : Int} {o1 o2 o3 o4 o5 o6 : Obj} {Dt Dr Dp : Addr} {vt rv ps : List Value} {et er ep : Nat} {tS : Tok} (I : Inv w mg mb LO mean g) (F : Fr g L s.heap (setM (Str.ofString "size") (.int x.length tS) m0))
    (N : News g L s.heap ((Dr, listOf rv.toArray er) :: (Dp, listOf ps.toArray ep) :: (Dt, listOf vt.toArray et) :: cl6 L o6 o5 o4 o3 o2 o1 TT)) (TL : TabL TT) (hroom : dp < 700) (hun : un < 5000) (hxl : x.length ≤ 11) (hw : 6 ≤ wd) (hw2 : wd ≤ 4400)
    (d1 : o1.data = .cell (some (.str x t))) (d2 : o2.data = .cell (some (.int wd t2))) (d3 : o3.data = .cell (some (.ref Dt))) (d4 : o4.data = .cell (some (.ref Dp))) (d5 : o5.data = .cell (some (.ref Dr))) (d6 : o6.data = .cell none)
    (hit : IntsAre vt (TK x)) (hip : IntsAre ps (posI 0 (PRS x))) (hir : IntsAre rv (ROW x wd.toNat))
    (hK : ∀ (Ds : Addr) ss es h' tk' gens' m', (AllBare s.gens → AllBare gens') → Fr g L h' (setM (Str.ofString "shown") (.ref Ds) (setM (Str.ofString "size") (.int x.length tS) m')) →
      News g L h' ((Ds, listOf ss.toArray es) :: (Dt, listOf vt.toArray et) :: cl6 L o6 o5 o4 o3 o2 o1 TT) →
      IntsAre ss (posI 0 (SH x)) →
      wpAny (model PR w) ((mkA dp fr gd un).deeper (oneEnv L)) (execs (oneBody.drop 13) (oneEnv L)) R (fun _ _ => False) { s with heap := h', toks := tk', gens := gens' }) :
    wpAny (model PR w) ((mkA dp fr gd un).deeper (oneEnv L)) (execs (oneBody.drop 11) (oneEnv L)) R (fun _ _ => False) s := by
  have X := I.X
  rw [show oneBody.drop 11 = _ :: _ :: oneBody.drop 13 from rfl]
  unfold oneEnv at hK ⊢
  rw [show oneScope = Scope.mk _ _ _ _ _ from rfl] at hK ⊢
  generalize oneBody.drop 13 = rest at hK ⊢
  unfold setM at F
  have hk1 : 6 ≤ wd.toNat := by lia
  have hsl := SH_length x
  refine letE ?_
  intro ML eL AL sL
  k_steps
  refine stop_in ?_
  refine LCt.Assign_ListComp_T (F₀ := F) rfl (by with_unfolding_all rfl) (by with_unfolding_all rfl) (by decide) rfl (by decide) rfl rfl rfl ?_
  k_steps
  refine stop_in ?_
  rename Fr _ _ _ _ => F1
  rename News _ _ _ _ => N1
  refine LCt.CompSrcT.range rfl F1 N1 (by assumption) (small_one (by lia) (by lia) (by lia) (by lia)) (rangeSize_nat _ _) (by unfold sizeLine; lia) ?_
  intro g2
  clear F1 N1
  refine compT_ind (fun i ys => IntsAre ys (posI 0 ((SH x).take i))) x.length .nil ?turn ?done
  case turn =>
    intro k i ys hi hJ ih
    refine LCt.CompRestT.succ ?_
    intro v It oI Ct oC D m₂ h tk E' hv hC hx F N off ne
    obtain ⟨tv, rfl⟩ := hv
    have hil : i < x.length := by lia
    have hfs := fil_step hJ (show i < (SH x).length by lia)
    have hT := SH_test (k := wd.toNat) hxl hk1 hil
    have e0 : (0 : Int) + (i : Int) = (i : Int) := by lia
    rw [e0] at hfs
    obtain ⟨ROWL, hROW⟩ : ∃ l, l = ROW x wd.toNat := ⟨_, rfl⟩
    rw [← hROW] at hir hT
    have hrvl := hir.length
    k_steps
    refine stop_in ?_
    rename Fr _ _ _ _ => F3
    rename News _ _ _ _ => N3
    refine ke_eq_ints (News.isList N3 (by walk_at "my mem")) (News.isList N3 (.head _)) hir .nil (show un + 3 + 64 < 9900 by lia) ?_
    by_cases hre : ROWL = []
    · rw [decide_eq_true hre]
      k_steps
      refine stop_in ⟨_, _, _, rfl, by assumption, news_part N3 (fun p hp => .tail _ hp), off, trivial, ih _ ?_⟩
      rw [e0]; exact hfs.1 (hT.1 hre) tv
    · rw [decide_eq_false hre]
      obtain ⟨hT1, hT2⟩ := hT.2 hre
      have hanyT : ∀ {b : Bool}, ((posI 0 (PRS x)).any fun z => z == 0 + (i : Int)) = b → ((i : Int) ∈ posI 0 (PRS x) ↔ b = true) := fun {b} h => by
        rw [← h, List.any_eq_true, e0]
        constructor
        · intro hm; exact ⟨_, hm, beq_self_eq_true _⟩
        · rintro ⟨z, hz, hz2⟩; rwa [← beq_iff_eq.mp hz2]
      have hfm : Int.fmod (ROWL.getD (0 + (i : Int)).toNat 0) 2 = ROWL.getD i 0 % 2 := by
        rw [e0, Int.toNat_natCast, Int.fmod_eq_emod_of_nonneg _ (by decide)]
      k_steps
      · rename (List.any _ _) = true => h1
        refine stop_in ⟨_, _, _, rfl, by assumption, news_part N3 (fun p hp => .tail _ hp), off, trivial, ih _ (hfs.2 ?_)⟩
        cases hs : (SH x).getD i false with
        | false => rfl
        | true => exact absurd ((hanyT h1).mpr rfl) (hT2.mp hs).2
      · rename (List.any _ _) = false => h1
        rename Int.fmod _ _ = 0 => h2
        rw [hfm] at h2
        refine stop_in ⟨_, _, _, rfl, by assumption, news_part N3 (fun p hp => .tail _ hp), off, trivial, ih _ ?_⟩
        rw [e0]
        refine hfs.1 (hT2.mpr ⟨h2, fun hm => ?_⟩) tv
        have := (hanyT h1).mp hm
        cases this
      · rename Int.fmod _ _ ≠ 0 => h2
        rw [hfm] at h2
        refine stop_in ⟨_, _, _, rfl, by assumption, news_part N3 (fun p hp => .tail _ hp), off, trivial, ih _ (hfs.2 ?_)⟩
        cases hs : (SH x).getD i false with
        | false => rfl
        | true => exact absurd (hT2.mp hs).1 h2
  case done =>
    intro ys hJ
    rw [List.take_of_length_le (by lia)] at hJ
    intro Ds h tk F N0 _
    obtain ⟨es, N⟩ : ∃ es, News g L h ((Ds, listOf ys.toArray es) :: (Dr, listOf rv.toArray er) :: (Dp, listOf ps.toArray ep) :: (Dt, listOf vt.toArray et) :: cl6 L o6 o5 o4 o3 o2 o1 TT) := ⟨_, N0⟩
    clear N0
    have hyl := hJ.length
    have hpl := posI_len (SH x) 0
    k_steps
    refine stop_in ?_
    rename Fr _ _ _ _ => F1
    rename News _ _ _ _ => N1
    refine sp_strip I F1 N1 TL (.cons rfl (.cons rfl (.cons rfl (.cons rfl (ends6 d6 d5 d4 d3 d2 d1))))) (by walk_at "my room") hxl ?_
    clear F1 N1
    intro t4 h4 tk4 gens4 hb4 F4 N4
    replace N4 : News g L h4 (_ :: _ :: _ :: _ :: cl6 L o6 o5 o4 o3 o2 o1 TT) := N4
    k_steps
    refine stop_in ?_
    rename Fr _ _ _ _ => F5
    rename News _ _ _ _ => N5
    refine LCg.ListComp_U (F₀ := F5) (by with_unfolding_all rfl) (by decide) rfl (by decide) rfl ?_
    k_steps
    refine stop_in ?_
    rename Fr _ _ _ _ => F6
    rename News _ _ _ _ => N6
    have hys : ys.toArray.size = (posI 0 (SH x)).length := by rw [List.size_toArray, hyl]
    refine LCg.CompSrc.ledger rfl F6 N6 (.head _) (by rw [hys]; unfold sizeLine; lia) ?_
    rw [hys]
    intro g3
    clear F6 N6
    refine compU_ind (fun i ws => StrsAre ws (((posI 0 (SH x)).take i).map fun p => Txt.item x p)) _ .nil ?turn2 ?done2
    case turn2 =>
      intro k i ws hi hW ih
      refine LCg.CompRest.succ ?_
      intro v It oI Ct oC D m₂ h tk E' hv hC hx F N off ne
      have hil : i < (posI 0 (SH x)).length := by lia
      obtain ⟨tv, htv⟩ := hJ.int_at i v (by simpa using hv)
      subst htv
      obtain ⟨pv, hpv⟩ : ∃ pv, pv = (posI 0 (SH x)).getD i 0 := ⟨_, rfl⟩
      have hpm : pv ∈ posI 0 (SH x) := by rw [hpv, List.getD_eq_getElem?_getD, List.getElem?_eq_getElem hil]; exact List.getElem_mem hil
      have hpb := posI_bd (SH x) 0 pv hpm
      rw [hsl] at hpb
      rw [← hpv] at hx
      have hp0 : 0 ≤ pv := by lia
      have hp1 : pv < x.length := by lia
      k_steps
      refine stop_in ⟨_, _, _, rfl, by assumption, by assumption, off, .inr ⟨_, .head _, rfl, _, rfl⟩, ih _ ?_⟩
      rw [List.take_add_one, List.map_append, List.getElem?_eq_getElem hil]
      refine hW.append' ?_
      rw [show (posI 0 (SH x))[i] = pv by rw [hpv, List.getD_eq_getElem?_getD, List.getElem?_eq_getElem hil]; rfl]
      exact .cons _ _ .nil
    case done2 =>
      intro ws hW
      rw [List.take_of_length_le (Nat.le_refl _)] at hW
      intro Dj h tk F N0 _
      k_steps
      refine join_list (News.isList N0 (.head _)) (ys := (posI 0 (SH x)).map fun p => Txt.item x p) hW ?_ ?_
      · have e := flat_len ((posI 0 (SH x)).map fun p => Txt.item x p)
        rw [← join_flat, join_shown, strip_sel] at e
        have h1 := sel_len (SH x) x.cps.toList
        have h2 : x.cps.toList.length = x.length := by simp [Str.length]
        rw [show (Str.ofString "").length = 0 by decide, Nat.mul_zero]
        lia
      intro t6 k6
      rw [join_shown]
      have hne : (stripS x != stripS x) = false := by simp
      k_steps
      exact hK Ds ys es _ _ gens4 m0 hb4 F (news_part N0 (dr (kp (dr (dr (kp sub_rfl)))))) hJ
end

def fb (q : Nat → Bool) : Nat → List Bool → List Bool
  | _, [] => []
  | i, b :: B => (b && q i) :: fb q (i + 1) B
theorem fb_length (q : Nat → Bool) : ∀ (B : List Bool) (i : Nat), (fb q i B).length = B.length
  | [], _ => rfl
  | b :: B, i => by rw [fb, List.length_cons, fb_length q B, List.length_cons]
theorem fb_at (q : Nat → Bool) : ∀ (B : List Bool) (i j : Nat), j < B.length → (fb q i B).getD j false = (B.getD j false && q (i + j))
  | [], _, j, h => by simp at h
  | b :: B, i, 0, _ => rfl
  | b :: B, i, j + 1, h => by
    rw [fb, List.getD_cons_succ, List.getD_cons_succ, fb_at q B (i + 1) j (by simpa using h), show i + 1 + j = i + (j + 1) by lia]
theorem posI_filter (q : Nat → Bool) : ∀ (B : List Bool) (i : Nat), (posI i B).filter (fun p => q p.toNat) = posI i (fb q i B)
  | [], _ => rfl
  | b :: B, i => by
    have ih := posI_filter q B (i + 1)
    rw [posI, fb, posI]
    cases b with
    | false => simp [ih]
    | true =>
      rw [if_pos rfl]
      rw [List.filter_cons, Int.toNat_natCast, ih]
      cases q i <;> simp
def FRB (x : Str) : List Bool := fb (fun i => decide ((TK x).getD i 0 = 0)) 0 (SH x)
theorem FRB_length (x : Str) : (FRB x).length = x.length := by rw [FRB, fb_length, SH_length]
theorem free_is (x : Str) : (posI 0 (SH x)).filter (fun p => decide ((TK x).getD p.toNat 0 = 0)) = posI 0 (FRB x) := posI_filter (fun i => decide ((TK x).getD i 0 = 0)) (SH x) 0
theorem dls_length : ∀ (bs : List Bool) (ts : List Int) (as : List Str), bs.length = as.length → as.length ≤ ts.length → (dls bs ts as).length = as.length
  | [], _, [], _, _ => by simp [dls]
  | b :: bs, t :: ts, a :: as, h1, h2 => by
    rw [dls, List.length_cons, dls_length bs ts as (by simpa using h1) (by simpa using h2), List.length_cons]
  | [], _, _ :: _, h, _ => by simp at h
  | _ :: _, _, [], h, _ => by simp at h
  | _ :: _, [], _ :: _, _, h => by simp at h
theorem dls_at : ∀ (bs : List Bool) (ts : List Int) (as : List Str) (i : Nat), bs.length = as.length → as.length ≤ ts.length → i < as.length →
    (dls bs ts as).getD i 0 = if bs.getD i false = true ∧ ts.getD i 0 = 0 then (if as.getD i Str.empty = Str.ofString "(" then 1 else if as.getD i Str.empty = Str.ofString ")" then -1 else 0) else 0
  | b :: bs, t :: ts, a :: as, 0, _, _, _ => rfl
  | b :: bs, t :: ts, a :: as, i + 1, h1, h2, h3 => by
    rw [dls, List.getD_cons_succ, List.getD_cons_succ, List.getD_cons_succ, List.getD_cons_succ]
    exact dls_at bs ts as i (by simpa using h1) (by simpa using h2) (by simpa using h3)
  | _, _, [], _, _, _, h => by simp at h
  | [], _, _ :: _, _, h, _, _ => by simp at h
  | _ :: _, [], _ :: _, _, _, h, _ => by simp at h
theorem TK_length (x : Str) : (TK x).length = x.length + 1 := by rw [TK, escA_length, bitsS, List.length_map, signs_length]
theorem CC_length (x : Str) : (CC x).length = x.length := by
  rw [CC, dls_length _ _ _ (by rw [SH_length, signs_length]) (by rw [TK_length, signs_length]; lia), signs_length]
theorem CC_bd (x : Str) : ∀ d ∈ CC x, -1 ≤ d ∧ d ≤ 1 := fun d hd => by
  have : ∀ (bs : List Bool) (ts : List Int) (as : List Str), ∀ d ∈ dls bs ts as, -1 ≤ d ∧ d ≤ 1 := by
    intro bs
    induction bs with
    | nil => intro ts as d h; cases ts <;> cases as <;> cases h
    | cons b bs ih =>
      intro ts as d h
      cases ts with
      | nil => cases as <;> cases h
      | cons t ts =>
        cases as with
        | nil => cases h
        | cons a as =>
          rw [dls] at h
          rcases List.mem_cons.mp h with rfl | h
          · split
            · split
              · lia
              · split <;> lia
            · lia
          · exact ih ts as d h
  exact this _ _ _ d hd
theorem vl_zip (k : Nat) : ∀ (a b : List Int), a.length = b.length → vl k a - vl k b = vl k (List.zipWith (· - ·) a b)
  | [], [], _ => by simp [vl]
  | d :: a, e :: b, h => by
    have ih := vl_zip k a b (by simpa using h)
    show (d + 2 ^ k * vl k a) - (e + 2 ^ k * vl k b) = (d - e) + 2 ^ k * vl k (List.zipWith (· - ·) a b)
    rw [← ih, Int.mul_sub]; lia
  | [], _ :: _, h => by simp at h
  | _ :: _, [], h => by simp at h
theorem CC_zip (x : Str) : List.zipWith (· - ·) (plc x (Str.ofString "(") (posI 0 (FRB x))) (plc x (Str.ofString ")") (posI 0 (FRB x))) = CC x := by
  refine List.ext_getElem (by rw [List.length_zipWith, plc_length, plc_length, CC_length, Nat.min_self]) fun i h1 h2 => ?_
  have hi : i < x.length := by rw [CC_length] at h2; exact h2
  have ep : ∀ (y : Str) (h : i < (plc x y (posI 0 (FRB x))).length), (plc x y (posI 0 (FRB x)))[i]'h = if (i : Int) ∈ posI 0 (FRB x) ∧ Txt.item x (i : Int) = y then 1 else 0 := fun y h => by simp only [plc, List.getElem_map, List.getElem_range]
  have hm := mem_posI (FRB x) 0 i
  rw [Nat.sub_zero] at hm
  have hf : (FRB x).getD i false = ((SH x).getD i false && decide ((TK x).getD i 0 = 0)) := by
    have := fb_at (fun i => decide ((TK x).getD i 0 = 0)) (SH x) 0 i (by rw [SH_length]; exact hi)
    rw [Nat.zero_add] at this
    exact this
  have hd := dls_at (SH x) (TK x) (signs x) i (by rw [SH_length, signs_length]) (by rw [TK_length, signs_length]; lia) (by rw [signs_length]; exact hi)
  have e2 : (signs x).getD i Str.empty = Txt.item x (i : Int) := by rw [List.getD_eq_getElem?_getD, item_sign hi]; rfl
  rw [e2] at hd
  have e3 : (CC x)[i]'h2 = (dls (SH x) (TK x) (signs x)).getD i 0 := by
    rw [List.getD_eq_getElem?_getD]
    show (CC x)[i]'h2 = ((CC x)[i]?).getD 0
    rw [List.getElem?_eq_getElem h2]; rfl
  rw [List.getElem_zipWith, ep, ep, e3, hd]
  rw [hf] at hm
  by_cases c1 : (SH x).getD i false = true ∧ (TK x).getD i 0 = 0
  · have c2 : (i : Int) ∈ posI 0 (FRB x) := hm.mpr ⟨Nat.zero_le _, by simp only [Bool.and_eq_true, decide_eq_true_eq]; exact c1⟩
    rw [if_pos c1]
    by_cases a1 : Txt.item x (i : Int) = Str.ofString "("
    · have a2 : ¬ Txt.item x (i : Int) = Str.ofString ")" := by rw [a1]; decide
      rw [if_pos ⟨c2, a1⟩, if_neg (fun h => a2 h.2), if_pos a1]; rfl
    · rw [if_neg (fun h => a1 h.2), if_neg a1]
      by_cases a2 : Txt.item x (i : Int) = Str.ofString ")"
      · rw [if_pos ⟨c2, a2⟩, if_pos a2]; rfl
      · rw [if_neg (fun h => a2 h.2), if_neg a2]; rfl
  · have c2 : ¬ (i : Int) ∈ posI 0 (FRB x) := fun h => c1 (by
      have := (hm.mp h).2
      simp only [Bool.and_eq_true, decide_eq_true_eq] at this; exact this)
    rw [if_neg c1, if_neg (fun h => c2 h.1), if_neg (fun h => c2 h.1)]; rfl
theorem number_is (x : Str) (k : Nat) : vl k (plc x (Str.ofString "(") (posI 0 (FRB x))) - vl k (plc x (Str.ofString ")") (posI 0 (FRB x))) = vl k (CC x) := by
  rw [vl_zip k _ _ (by rw [plc_length, plc_length]), CC_zip]
theorem number_bits {x : Str} {k : Nat} (hk : 1 ≤ k) (hx : x.length ≤ 11) : intBits (vl k (CC x)) ≤ k * 12 := by
  have ha := vl_bounds (plc_dig (x := x) (y := Str.ofString "(") (ns := posI 0 (FRB x)) hk)
  have hb := vl_bounds (plc_dig (x := x) (y := Str.ofString ")") (ns := posI 0 (FRB x)) hk)
  rw [plc_length] at ha hb
  have h2 : (2 : Int) ^ (k * x.length) ≤ 2 ^ (k * 12) := by
    rw [← kbt_cast, ← kbt_cast]
    exact_mod_cast Nat.pow_le_pow_right (n := 2) (by decide) (Nat.mul_le_mul (Nat.le_refl k) (by lia))
  have := kbt_cast (k * 12)
  rw [← number_is, intBits_le_iff]
  lia
theorem level_is (k : Nat) (G : Int) : ∀ m : Nat, ((List.range m).map fun (j : Nat) => G * 2 ^ (k * j)).sum = vl k (List.replicate m G)
  | 0 => rfl
  | m + 1 => by
    rw [List.range_succ, List.map_append, List.sum_append, level_is k G m, List.replicate_succ', vl_append, List.length_replicate]
    simp [vl]
    rw [Int.mul_comm]
def DEP (x : Str) (G : Int) : List Int := (wnd (CC x)).map (G + ·)
theorem DEP_length (x : Str) (G : Int) : (DEP x G).length = 2 * x.length := by rw [DEP, List.length_map, wnd_length, CC_length]
theorem wnd_CC {x : Str} (hx : x.length ≤ 11) : ∀ d ∈ wnd (CC x), -22 ≤ d ∧ d ≤ 22 := fun d hd => by
  have h := pre_abs (CC x) 0 (CC_bd x)
  rw [CC_length] at h
  rcases List.mem_append.mp hd with hd | hd
  · have := h.2 d hd; lia
  · obtain ⟨p, hp, rfl⟩ := List.mem_map.mp hd
    have := h.2 p hp; lia
theorem DEP_dig {x : Str} {k : Nat} (hx : x.length ≤ 11) (hk : 6 ≤ k) : Dig k (DEP x (2 ^ (k - 1))) ∧ ∀ d ∈ DEP x (2 ^ (k - 1)), 0 < d := by
  have h32 : (32 : Int) ≤ 2 ^ (k - 1) := by
    rw [← kbt_cast]
    exact_mod_cast Nat.pow_le_pow_right (n := 2) (by decide) (show 5 ≤ k - 1 by lia)
  have e : (2 : Int) ^ k = 2 * 2 ^ (k - 1) := by
    rw [show k = (k - 1) + 1 by lia, Int.pow_succ, Int.mul_comm]; rfl
  have key : ∀ d ∈ DEP x (2 ^ (k - 1)), 0 < d ∧ d < 2 ^ k := fun d hd => by
    obtain ⟨p, hp, rfl⟩ := List.mem_map.mp hd
    have := wnd_CC hx p hp
    lia
  exact ⟨fun d hd => by have := key d hd; lia, fun d hd => (key d hd).1⟩
theorem DEP_nd {x : Str} {k : Nat} (hx : x.length ≤ 11) (hk : 6 ≤ k) : nd k (vl k (DEP x (2 ^ (k - 1)))) = 2 * x.length := by
  obtain ⟨h1, h2⟩ := DEP_dig hx hk
  have hle := nd_le (by lia) h1
  rw [DEP_length] at hle
  rcases Nat.eq_zero_or_pos x.length with h0 | h0
  · lia
  · have hl := DEP_length x (2 ^ (k - 1))
    have hlt : 2 * x.length - 1 < (DEP x (2 ^ (k - 1))).length := by lia
    have hge := nd_ge (by lia) h1 hlt (by
      rw [List.getD_eq_getElem?_getD, List.getElem?_eq_getElem hlt]
      exact h2 _ (List.getElem_mem hlt))
    lia
theorem DEP_digs {x : Str} {k : Nat} (hx : x.length ≤ 11) (hk : 6 ≤ k) : digs k (nd k (vl k (DEP x (2 ^ (k - 1))))) (vl k (DEP x (2 ^ (k - 1)))) = DEP x (2 ^ (k - 1)) := by
  have hl := DEP_length x (2 ^ (k - 1))
  rw [digs_take k _ _ (DEP_dig hx hk).1 (by rw [DEP_nd hx hk]; lia), DEP_nd hx hk, List.take_of_length_le (by lia)]
theorem DEP_vl (x : Str) (k : Nat) (G : Int) : vl k (DEP x G) = vl k (wnd (CC x)) + vl k (List.replicate (2 * x.length) G) := by
  rw [DEP, vl_mapadd, wnd_length, CC_length]; lia

section
variable {w : World} {mg mb : Str → Option Value} {LO : List Str} {mean : ExcName → Option Value} {dp un : Nat} {fr : Option (List Env)} {gd : Option (List Code)} {s : Shared} {g : Heap} {L : Addr} {m0 : Str → Option Value} {TT : List (Addr × Obj)}
  {R : Flow → Shared → Prop}
local macro_rules | `(tactic| walk_at "exec Assign cons ListComp") => `(tactic| (refine stop_out ?_))
local macro_rules | `(tactic| walk_at "CompSrcT") => `(tactic| (refine stop_out ?_))
local macro_rules | `(tactic| walk_at "CompEnd") => `(tactic| (refine stop_out ?_))
local macro_rules | `(tactic| walk_at "call ref") => `(tactic| (refine stop_out ?_))
local macro_rules | `(tactic| walk_at "eval ListComp") => `(tactic| (refine stop_out ?_))
local macro_rules | `(tactic| walk_at "CompSrc") => `(tactic| (refine stop_out ?_))
local macro_rules | `(tactic| walk_at "storeName") => `(tactic| (with_reducible show wpAny _ _ (storeName _ (Str.ofString "ground") _) _ _ _; refine stop_out ?_))
theorem one_p5 {x : Str} {t t2 : Tok} {wd : Int} {o1 o2 o3 o4 o5 o6 : Obj} {Dt Ds : Addr} {vt ss : List Value} {et es : Nat} {tS : Tok} (I : Inv w mg mb LO mean g) (F : Fr g L s.heap (setM (Str.ofString "shown") (.ref Ds) (setM (Str.ofString "size") (.int x.length tS) m0)))
    (N : News g L s.heap ((Ds, listOf ss.toArray es) :: (Dt, listOf vt.toArray et) :: cl6 L o6 o5 o4 o3 o2 o1 TT)) (TL : TabL TT) (hroom : dp < 700) (hun : un < 5000) (hxl : x.length ≤ 11) (hw : 6 ≤ wd) (hw2 : wd ≤ 4400)
    {v4 v5 : Option Value} (d1 : o1.data = .cell (some (.str x t))) (d2 : o2.data = .cell (some (.int wd t2))) (d3 : o3.data = .cell (some (.ref Dt))) (d4 : o4.data = .cell v4) (d5 : o5.data = .cell v5) (d6 : o6.data = .cell none)
    (hit : IntsAre vt (TK x)) (his : IntsAre ss (posI 0 (SH x)))
    (hK : ∀ (Dd : Addr) dv ed o6' tG tO h' tk' TT' m', Fr g L h' (setM (Str.ofString "depths") (.ref Dd) (setM (Str.ofString "over") (.int 0 tO) (setM (Str.ofString "size") (.int x.length tS) m'))) →
      News g L h' ((Dd, listOf dv.toArray ed) :: cl6 L o6' o5 o4 o3 o2 o1 TT') → TabL TT' →
      o6'.data = .cell (some (.int (2 ^ (wd.toNat - 1)) tG)) → IntsAre dv (DEP x (2 ^ (wd.toNat - 1))) →
      wpAny (model PR w) ((mkA dp fr gd un).deeper (oneEnv L)) (execs (oneBody.drop 19) (oneEnv L)) R (fun _ _ => False) { s with heap := h', toks := tk' }) :
    wpAny (model PR w) ((mkA dp fr gd un).deeper (oneEnv L)) (execs (oneBody.drop 13) (oneEnv L)) R (fun _ _ => False) s := by
  have X := I.X
  rw [show oneBody.drop 13 = _ :: _ :: _ :: _ :: _ :: _ :: oneBody.drop 19 from rfl]
  unfold oneEnv at hK ⊢
  rw [show oneScope = Scope.mk _ _ _ _ _ from rfl] at hK ⊢
  generalize oneBody.drop 19 = rest at hK ⊢
  unfold setM at F
  have hk1 : 6 ≤ wd.toNat := by lia
  have htl := TK_length x
  have hss := his.length
  have hsb := posI_len (SH x) 0
  rw [SH_length] at hsb
  refine letE ?_
  intro ML eL AL sL
  refine letN1 N ?_
  clear N
  intro CL N
  k_steps
  refine stop_in ?_
  refine LCt.Assign_ListComp_T (F₀ := F) rfl (by with_unfolding_all rfl) (by with_unfolding_all rfl) (by decide) rfl (by decide) rfl rfl rfl ?_
  k_steps
  refine stop_in ?_
  rename Fr _ _ _ _ => F1
  rename News _ _ _ _ => N1
  have hys : ss.toArray.size = (posI 0 (SH x)).length := by rw [List.size_toArray, hss]
  refine LCt.CompSrcT.ledger rfl F1 N1 (.head _) (by rw [hys]; unfold sizeLine; lia) ?_
  rw [hys]
  intro g2
  clear F1 N1
  refine compT_ind (fun i ys => IntsAre ys (((posI 0 (SH x)).take i).filter (fun p => decide ((TK x).getD p.toNat 0 = 0)))) _ .nil ?turn ?done
  case turn =>
    intro k i ys hi hJ ih
    refine LCt.CompRestT.succ ?_
    intro v It oI Ct oC D m₂ h tk E' hv hC hx F N off ne
    have hil : i < (posI 0 (SH x)).length := by lia
    obtain ⟨tv, htv⟩ := his.int_at i v (by simpa using hv)
    subst htv
    obtain ⟨pv, hpv⟩ : ∃ pv, pv = (posI 0 (SH x)).getD i 0 := ⟨_, rfl⟩
    have hpe : (posI 0 (SH x))[i] = pv := by rw [hpv, List.getD_eq_getElem?_getD, List.getElem?_eq_getElem hil]; rfl
    have hpb := posI_bd (SH x) 0 pv (by rw [← hpe]; exact List.getElem_mem hil)
    rw [SH_length] at hpb
    rw [← hpv] at hx
    have hp0 : 0 ≤ pv := by lia
    have hp1 : pv < x.length := by lia
    have e1 : ((posI 0 (SH x)).take (i + 1)).filter (fun p => decide ((TK x).getD p.toNat 0 = 0)) = ((posI 0 (SH x)).take i).filter (fun p => decide ((TK x).getD p.toNat 0 = 0)) ++ (if (TK x).getD pv.toNat 0 = 0 then [pv] else []) := by
      rw [List.take_add_one, List.filter_append, List.getElem?_eq_getElem hil, hpe]
      rw [show (some pv).toList = [pv] from rfl, List.filter_cons, List.filter_nil]
      by_cases hz : (TK x).getD pv.toNat 0 = 0
      · rw [if_pos (decide_eq_true hz), if_pos hz]
      · rw [if_neg (by rw [decide_eq_false hz]; decide), if_neg hz]
    k_steps
    · rename (TK x).getD _ 0 = 0 => h1
      refine stop_in ⟨_, _, _, rfl, by assumption, by assumption, off, .inr ⟨_, .head _, rfl, _, rfl⟩, ih _ ?_⟩
      rw [e1, if_pos h1]
      exact hJ.append (.cons _ _ .nil)
    · rename (TK x).getD _ 0 ≠ 0 => h1
      refine stop_in ⟨_, _, _, rfl, by assumption, by assumption, off, .inr ⟨_, .head _, rfl, _, rfl⟩, ih _ ?_⟩
      rw [e1, if_neg h1, List.append_nil]
      exact hJ
  case done =>
    intro fs hif
    rw [List.take_of_length_le (Nat.le_refl _), free_is] at hif
    intro Df h tk F0 N0 _
    obtain ⟨ef, N⟩ : ∃ ef, News g L h ((Df, listOf fs.toArray ef) :: (Ds, listOf ss.toArray es) :: (Dt, listOf vt.toArray et) :: cl6 L o6 o5 o4 o3 o2 o1 TT) := ⟨_, N0⟩
    clear N0
    have hfl := hif.length
    have hpl := posI_len (FRB x) 0
    rw [FRB_length] at hpl
    k_steps
    refine stop_in ?_
    rename Fr _ _ _ _ => F2
    rename News _ _ _ _ => N2
    refine sp_places I F2 N2 TL (.cons rfl (.cons rfl (.cons rfl (ends6 d6 d5 d4 d3 d2 d1)))) (by walk_at "my room") (.head _) rfl rfl hif (by lia) hxl (by lia) hw2 ?_
    clear F2 N2
    intro h3 tk3 t3 TT3 F3 N3 TL3
    replace N3 : News g L h3 (_ :: _ :: _ :: cl6 L o6 o5 o4 o3 o2 o1 TT3) := N3
    k_steps
    refine stop_in ?_
    rename Fr _ _ _ _ => F4
    rename News _ _ _ _ => N4
    refine sp_places I F4 N4 TL3 (.cons rfl (.cons rfl (.cons rfl (ends6 d6 d5 d4 d3 d2 d1)))) (by walk_at "my room") (.head _) rfl rfl hif (by lia) hxl (by lia) hw2 ?_
    clear F4 N4
    intro h5 tk5 t5 TT5 F5 N5 TL5
    replace N5 : News g L h5 (_ :: _ :: _ :: cl6 L o6 o5 o4 o3 o2 o1 TT5) := N5
    have hnum := number_is x wd.toNat
    have hcb := number_bits (x := x) (k := wd.toNat) (by lia) hxl
    obtain ⟨PA, hPA⟩ : ∃ PA, PA = vl wd.toNat (plc x (Str.ofString "(") (posI 0 (FRB x))) := ⟨_, rfl⟩
    obtain ⟨PB, hPB⟩ : ∃ PB, PB = vl wd.toNat (plc x (Str.ofString ")") (posI 0 (FRB x))) := ⟨_, rfl⟩
    rw [← hPA, ← hPB] at hnum
    rw [← hPA, ← hPB]
    k_steps
    refine stop_in ?_
    rename Fr _ _ _ _ => F6
    rename News _ _ _ _ => N6
    rw [hnum]
    refine sp_summed I F6 N6 TL5 (.cons rfl (.cons rfl (.cons rfl (ends6 d6 d5 d4 d3 d2 d1)))) (by walk_at "my room") (by lia) (by lia) hw hw2 hcb ?_
    clear F6 N6
    have hsw : vl wd.toNat (CC x) * rep (2 ^ wd.toNat) (x.length : Int).toNat = vl wd.toNat (wnd (CC x)) := by
      have := summed_wnd (k := wd.toNat) (by lia) (CC x)
      rw [CC_length] at this
      rw [Int.toNat_natCast, this]
    rw [hsw]
    intro pt h10 tk10 t10 t11 TT10 F10 N10 TL10
    replace N10 : News g L h10 (_ :: _ :: _ :: _ :: cl6 L o6 o5 o4 o3 o2 o1 TT10) := N10
    obtain ⟨H, hH⟩ : ∃ H, H = vl wd.toNat (wnd (CC x)) := ⟨_, rfl⟩
    rw [← hH] at N10
    have i1 : intBits (1 : Int) ≤ 1 := by decide
    k_steps
    refine stop_in ?_
    have hG1 : (1 : Int) * 2 ^ (wd - 1).toNat = 2 ^ (wd.toNat - 1) := by
      rw [Int.one_mul]; congr 1; lia
    rw [hG1]
    rename Fr _ _ _ _ => F11
    rename News _ _ _ _ => N11
    refine storeC (rest := (L + 1 + 1 + 1 + 1 + 1, o5) :: (L + 1 + 1 + 1 + 1, o4) :: (L + 1 + 1 + 1, o3) :: (L + 1 + 1, o2) :: (L + 1, o1) :: TT10) [_, _, _, _] F11 N11 rfl d6 (.no rfl (.no rfl (.no rfl (.no rfl .nil)))) (.ne (neN (by lia)) (.ne (neN (by lia)) (.ne (neN (by lia)) (.ne (neN (by lia)) (.ne (neN (by lia)) (.tab TL10)))))) ?_
    clear F11 N11
    intro h12 o6' F12 N12 d6'
    replace N12 : News g L h12 (_ :: _ :: _ :: _ :: cl6 L o6' o5 o4 o3 o2 o1 TT10) := N12
    obtain ⟨G, hG⟩ : ∃ G : Int, G = 2 ^ (wd.toNat - 1) := ⟨_, rfl⟩
    rw [← hG] at d6'
    k_steps
    refine stop_in ?_
    rename Fr _ _ _ _ => F13
    rename News _ _ _ _ => N13
    refine LCg.ListComp_U (F₀ := F13) (by with_unfolding_all rfl) (by decide) rfl (by decide) rfl ?_
    have i2 : intBits (2 : Int) ≤ 2 := by decide
    k_steps
    any_goals (exact IntMulOk.of_right (intBits_le_64 (by lia) (by lia)))
    refine stop_in ?_
    rename Fr _ _ _ _ => F14
    rename News _ _ _ _ => N14
    have hn0 : Builtin.Range.rangeSize 0 (2 * (x.length : Int)) 1 = ((2 * x.length : Nat) : Int) := by
      unfold Builtin.Range.rangeSize
      simp
      lia
    refine LCg.CompSrc.range rfl F14 N14 (by assumption) (small_one (by lia) (by lia) (by lia) (by lia)) hn0 (by unfold sizeLine; lia) ?_
    intro g4
    clear F14 N14
    have hGb : intBits G ≤ wd.toNat := by
      rw [hG]
      refine bits_lt (Int.le_of_lt (p2pos _)) ?_
      rw [← kbt_cast, ← kbt_cast]
      exact_mod_cast Nat.pow_lt_pow_right (by decide) (by lia)
    refine compU_ind (fun i ws => IntsAre ws ((List.range i).map fun (j : Nat) => G * 2 ^ (wd.toNat * j))) _ .nil ?turn2 ?done2
    case turn2 =>
      intro k i ws hi hW ih
      refine LCg.CompRest.succ ?_
      intro v It oI Ct oC D m₂ h tk E' hv hC hx F N off ne
      obtain ⟨tv, rfl⟩ := hv
      have hi2 : i < 2 * x.length := by lia
      have e0 : (0 : Int) + (i : Int) = (i : Int) := by lia
      rw [e0] at hx
      have ib : intBits (i : Int) ≤ 5 := bits_lt (by lia) (by lia)
      have ibw : intBits wd ≤ 13 := bits_lt (by lia) (by lia)
      have sh0 : 0 ≤ wd * (i : Int) := Int.mul_nonneg (by lia) (by lia)
      have sh1 : wd * (i : Int) ≤ 4400 * 22 := by
        have a1 : wd * (i : Int) ≤ wd * 22 := Int.mul_le_mul_of_nonneg_left (by lia) (by lia)
        lia
      have shn : (wd * (i : Int)).toNat = wd.toNat * i := by
        have a1 : ((wd.toNat * i : Nat) : Int) = wd * (i : Int) := by rw [Int.natCast_mul, Int.toNat_of_nonneg (by lia)]
        lia
      k_steps
      rotate_left
      · exact IntMulOk.of_right (intBits_le_64 (by lia) (by lia))
      refine stop_in ⟨_, _, _, rfl, by assumption, by assumption, off, trivial, ih _ ?_⟩
      rw [List.range_succ, List.map_append]
      refine hW.append ?_
      rw [shn]
      exact .cons _ _ .nil
    case done2 =>
      intro ws hW
      have hsum := level_is wd.toNat G (2 * x.length)
      obtain ⟨LV, hLV⟩ : ∃ LV, LV = (List.range (2 * x.length)).map fun (j : Nat) => G * 2 ^ (wd.toNat * j) := ⟨_, rfl⟩
      rw [← hLV] at hW hsum
      have hwl := hW.length
      have hLVl : LV.length = 2 * x.length := by rw [hLV]; simp
      intro Dl h tk F N0 _
      k_steps
      refine stop_in ?_
      have hdv := DEP_vl x wd.toNat G
      rw [← hH, ← hsum] at hdv
      have hdg := (DEP_dig (x := x) (k := wd.toNat) hxl hk1).1
      have hdn := DEP_nd (x := x) (k := wd.toNat) hxl hk1
      have hdd := DEP_digs (x := x) (k := wd.toNat) hxl hk1
      rw [← hG] at hdg hdn hdd
      have hdb := vl_bounds hdg
      rw [hdv] at hdn hdd hdb
      rename Fr _ _ _ _ => F15
      rename News _ _ _ _ => N15
      refine sp_i2d I F15 N15 TL10 (.cons rfl (.cons rfl (.cons rfl (.cons rfl (.cons rfl (ends6 d6' d5 d4 d3 d2 d1)))))) (by walk_at "my room") hdb.1 (by lia) (by lia) (Nat.le_trans (Nat.le_of_eq hdn) (by lia)) ?_
      clear F15 N15
      intro Dd dv ed h16 tk16 TT16 F16 N16 TL16 hid
      have hid : IntsAre dv (DEP x G) := by rw [← hdd]; exact hid
      k_steps
      rename Fr _ _ _ _ => F17
      rename News _ _ _ _ => N17
      rw [← hG] at hK
      refine hK Dd dv ed o6' _ _ _ _ TT16 _ (fr_set (fr_set (fr_set F17 rfl) rfl) rfl) (news_part N17 (kp (dr (dr (dr (dr (dr sub_rfl))))))) TL16 d6' hid
end

inductive ZpI (s₂ : Shared) (z TI TO i1 i2 l1 l2 : Addr) (xs ys : List Value) (ns ms : List Int) (hb : Heap) (Dn C : Addr) (k : Nat) (s' : Shared) : Prop
  | mk (h' : Heap) (tk i : Nat) (vs : List Value) (m' : Str → Option Value) (hs : s' = { s₂ with heap := h', toks := tk }) (hi : i ≤ ns.length) (hk : k = ns.length + 1 - i)
    (hst : IsZip h' z TI TO .none ∧ IsPair h' TI (.ref i1) (.ref i2) ∧ (∃ a b, IsPair h' TO a b) ∧ h'.IsListIter i1 l1 i ∧ h'.IsListIter i2 l2 i ∧ h'.IsList l1 xs.toArray ∧ h'.IsList l2 ys.toArray)
    (hb' : ∀ c o, hb.get? c = some o → h'.get? c = some o) (hD : h'.get? Dn = some (LCg.lst vs)) (hn : h'.Ns C m') (hv : IntsAre vs ((List.zipWith (· + ·) ns ms).take i))
section
variable {prog : Program} {w : World} {A : Around} {E : Value → Shared → Prop} {env : Env}
theorem zip_int {xs ys : List Value} {ns ms : List Int} (hx : IntsAre xs ns) (hy : IntsAre ys ms) {i : Nat} {v u : Value} (h1 : xs[i]? = some v) (h2 : ys[i]? = some u) :
    ∃ t1 t2, v = .int (ns.getD i 0) t1 ∧ u = .int (ms.getD i 0) t2 := by
  obtain ⟨t1, e1⟩ := hx.int_at i v h1
  obtain ⟨t2, e2⟩ := hy.int_at i u h2
  exact ⟨t1, t2, e1, e2⟩
/-- a list made of the sums of two lists of ints, taken in step -/
theorem zip_block {elt iter : Expr} {a b : Str} {pa pb tp : Pos} {kk : Nat} {scope : Scope} {cl : List (Str × Addr)} {pos : Pos} {s₂ : Shared} {hb : Heap} {z TI TO i1 i2 l1 l2 : Addr} {xs ys : List Value} {ns ms : List Int} {RR : Value → Addr → Result → Shared → Prop}
    (hh : A.handled = none) (DD : ZipApart z TI TO i1 i2 l1 l2) (hx : IntsAre xs ns) (hy : IntsAre ys ms) (hl : ns.length = ms.length) (hsz : ns.length ≤ 1000)
    (hst : IsZip s₂.heap z TI TO .none ∧ IsPair s₂.heap TI (.ref i1) (.ref i2) ∧ (∃ a b, IsPair s₂.heap TO a b) ∧ s₂.heap.IsListIter i1 l1 0 ∧ s₂.heap.IsListIter i2 l2 0 ∧ s₂.heap.IsList l1 xs.toArray ∧ s₂.heap.IsList l2 ys.toArray)
    (hbz : @LE.le Nat _ hb.objs.size z) (hbTO : @LE.le Nat _ hb.objs.size TO) (hb1 : @LE.le Nat _ hb.objs.size i1) (hb2 : @LE.le Nat _ hb.objs.size i2)
    (hold : ∀ c o, hb.get? c = some o → s₂.heap.get? c = some o)
    (hcell : ∀ y ∈ scope.names, y.2 ≠ .cell) (hkind : scope.kind = .function) (hxa : scope.names.lookup a = some .local) (hxb : scope.names.lookup b = some .local) (hab : ¬ a = b)
    (helt : ∀ (C : Addr) (m₂ : Str → Option Value) (s₀ : Shared) (n k : Int) (t1 t2 : Tok) (Q : Value → Shared → Prop) (E : Value → Shared → Prop), s₀.heap.Ns C m₂ → m₂ a = some (.int n t1) → m₂ b = some (.int k t2) → (∀ t tk, Q (.int (n + k) t) { s₀ with toks := tk }) →
      wpAny (model prog w) A (eval elt (compEnvC scope cl C env)) Q E s₀)
    (hRR : ∀ Dn C h tk m' vs, (∀ c o, hb.get? c = some o → h.get? c = some o) → h.get? Dn = some (LCg.lst vs) → h.Ns C m' → hb.get? C = none → hb.get? Dn = none → C ≠ Dn → IntsAre vs (List.zipWith (· + ·) ns ms) → RR (.ref Dn) C (.ok .next) { s₂ with heap := h, toks := tk }) :
    wpAny (model prog w) A (newList []) (fun acc s₃ => wpAny (model prog w) A (newFunctionEnv scope env.globals cl [] env.qual none .none (some env)) (fun cenv s₄ =>
      codeAny (model prog w) A (.compStart (.ListComp elt [⟨.Tuple [.Name a pa, .Name b pb] kk tp, iter, [], 0⟩] scope pos) 0 (.ref z) acc { cenv with scope := relabel scope env }) (RR acc cenv.locals) s₄) E s₃) E s₂ := by
  refine wpAny_newObj_type (wpAny_newFunctionEnv hcell (by intro y hy; simp at hy) (fun h₁ hns₁ hsb₁ => ?_) hkind)
  dsimp only at hns₁ hsb₁ ⊢
  generalize hH2 : s₂.heap.push { cls := .type "list", dict := none, data := .seq ([] : List Value).toArray } = H2 at hns₁ hsb₁ ⊢
  have hC : H2.objs.size = s₂.heap.objs.size + 1 := by rw [← hH2, Heap.size_push]
  have old : ∀ c o, s₂.heap.get? c = some o → h₁.get? c = some o := fun c o e => hsb₁.extBut c o (by rw [hC]; exact Nat.ne_of_lt (Nat.lt_succ_of_lt (Heap.lt_size e))) (Heap.get?_push_of_some _ (hH2 ▸ Heap.get?_push_of_some _ e))
  have hacc : h₁.get? s₂.heap.objs.size = some (LCg.lst []) := hsb₁.extBut _ _ (by rw [hC]; exact Nat.ne_of_lt (Nat.lt_succ_self _)) (Heap.get?_push_of_some _ (hH2 ▸ Heap.get?_push_size _ rfl))
  obtain ⟨Dn, hDn⟩ : ∃ Dn : Addr, Dn = s₂.heap.objs.size := ⟨_, rfl⟩
  obtain ⟨C, hCe⟩ : ∃ C : Addr, C = H2.objs.size := ⟨_, rfl⟩
  rw [← hCe, ← hDn] at hC
  rw [← hDn] at hacc
  rw [← hCe] at hns₁
  have hCe2 : @Eq Nat C (Dn + 1) := hC
  have lt : ∀ {c o}, s₂.heap.get? c = some o → @LT.lt Nat _ c Dn := fun e => by rw [hDn]; exact Heap.lt_size e
  have hDC : Dn ≠ C := neN (a := Dn) (by lia)
  obtain ⟨hz0, hTI0, ⟨a0, b0, hTO0⟩, ⟨oi1, hi1, _⟩, ⟨oi2, hi2, _⟩, ⟨ol1, hl1, _⟩, ⟨ol2, hl2, _⟩⟩ := id hst
  have lz := lt hz0
  have lTI := lt hTI0
  have lTO := lt hTO0
  have li1 := lt hi1
  have li2 := lt hi2
  have ll1 := lt hl1
  have ll2 := lt hl2
  have hDfp : Dn ∉ [z, TI, TO, i1, i2, l1, l2] := fun h => by
    simp only [List.mem_cons, List.not_mem_nil, or_false] at h
    rcases h with h | h | h | h | h | h | h
    · exact Nat.ne_of_gt lz h
    · exact Nat.ne_of_gt lTI h
    · exact Nat.ne_of_gt lTO h
    · exact Nat.ne_of_gt li1 h
    · exact Nat.ne_of_gt li2 h
    · exact Nat.ne_of_gt ll1 h
    · exact Nat.ne_of_gt ll2 h
  have lDC : @LT.lt Nat _ Dn C := by lia
  have hCfp : C ∉ [z, TI, TO, i1, i2, l1, l2] := fun h => by
    simp only [List.mem_cons, List.not_mem_nil, or_false] at h
    rcases h with h | h | h | h | h | h | h
    · exact Nat.ne_of_gt (Nat.lt_trans lz lDC) h
    · exact Nat.ne_of_gt (Nat.lt_trans lTI lDC) h
    · exact Nat.ne_of_gt (Nat.lt_trans lTO lDC) h
    · exact Nat.ne_of_gt (Nat.lt_trans li1 lDC) h
    · exact Nat.ne_of_gt (Nat.lt_trans li2 lDC) h
    · exact Nat.ne_of_gt (Nat.lt_trans ll1 lDC) h
    · exact Nat.ne_of_gt (Nat.lt_trans ll2 lDC) h
  have wrfp : ∀ c, c ∉ [z, TI, TO, i1, i2, l1, l2] → c ∉ [z, TO, i1, i2] := fun c hc h => hc (by
    simp only [List.mem_cons, List.not_mem_nil, or_false] at h ⊢
    rcases h with h | h | h | h <;> simp [h])
  have bwr : ∀ {c o}, hb.get? c = some o → c ∉ [z, TO, i1, i2] := fun {c o} e h => by
    have l : @LT.lt Nat _ c hb.objs.size := Heap.lt_size e
    simp only [List.mem_cons, List.not_mem_nil, or_false] at h
    rcases h with h | h | h | h
    · exact absurd l (Nat.not_lt.mpr (h ▸ hbz))
    · exact absurd l (Nat.not_lt.mpr (h ▸ hbTO))
    · exact absurd l (Nat.not_lt.mpr (h ▸ hb1))
    · exact absurd l (Nat.not_lt.mpr (h ▸ hb2))
  have bD : ∀ {c o}, hb.get? c = some o → c ≠ Dn := fun {c o} e h => by
    have := lt (hold c o e)
    exact Nat.ne_of_lt this h
  have bC : ∀ {c o}, hb.get? c = some o → c ≠ C := fun {c o} e h => by
    have := lt (hold c o e)
    exact Nat.ne_of_lt (Nat.lt_trans this lDC) h
  have nC : hb.get? C = none := by
    cases e : hb.get? C with
    | none => rfl
    | some o => exact absurd rfl (bC e)
  have nD : hb.get? Dn = none := by
    cases e : hb.get? Dn with
    | none => rfl
    | some o => exact absurd rfl (bD e)
  have W := WalksT.zip2 (prog := prog) (w := w) hh z TI TO i1 i2 l1 l2 DD xs.toArray ys.toArray
  have hsx : min xs.toArray.size ys.toArray.size = ns.length := by
    rw [List.size_toArray, List.size_toArray, hx.length, hy.length, ← hl, Nat.min_self]
  rw [hsx] at W
  have loop : ∀ s₃ : Shared, s₃ = { s₂ with heap := h₁, toks := s₂.toks + ([] : List (Str × Value)).length } →
      codeAny (model prog w) A (.compLoop (.ListComp elt [⟨.Tuple [.Name a pa, .Name b pb] kk tp, iter, [], 0⟩] scope pos) 0 (.ref z) (.ref Dn) (compEnvC scope cl C env)) (RR (.ref Dn) C) s₃ := by
    rintro s₃ rfl
    refine kcp_loop (ZpI s₂ z TI TO i1 i2 l1 l2 xs ys ns ms hb Dn C) ?_ (ns.length + 1)
      ⟨h₁, _, 0, [], _, rfl, Nat.zero_le _, rfl, W.frame 0 _ _ hst fun c _ o e => old c o e, fun c o e => old _ _ (hold c o e), hacc, hns₁, .nil⟩
    rintro k s' ⟨h', tk, i, vs, m', rfl, hi, rfl, hst', hb', hD', hn', hvs⟩
    have hvl := hvs.length
    rw [List.length_take, List.length_zipWith, ← hl, Nat.min_self, Nat.min_eq_left hi] at hvl
    by_cases hlt : i < ns.length
    · refine W.item i _ _ _ hlt hst' ?_
      intro T vals h₂ tk₂ hP hTsz hT hMid hk₂
      obtain ⟨v, u, hv, hu, rfl⟩ := hP
      obtain ⟨t1, t2, rfl, rfl⟩ := zip_int hx hy (by simpa using hv) (by simpa using hu)
      refine W.go _ _ _ i T _ _ _ hMid ?_
      intro h₃ hSt hk₃
      dsimp only at hk₂ hk₃ hTsz
      have up₃ : ∀ c o, c ∉ [z, TO, i1, i2] → h'.get? c = some o → h₃.get? c = some o := fun c o hc e => hk₃ c o hc (hk₂ c o hc e)
      have hTw : T ∉ [z, TO, i1, i2] := fun h => by
        obtain ⟨_, _, _, _, _, _, _, n1, n2, n3, n4⟩ := hMid
        simp only [List.mem_cons, List.not_mem_nil, or_false] at h
        rcases h with h | h | h | h
        · exact n1 h
        · exact n2 h
        · exact n3 h
        · exact n4 h
      have hT₃ : h₃.IsTuple T #[.int (ns.getD i 0) t1, .int (ms.getD i 0) t2] := by
        obtain ⟨oT, hoT, r⟩ := hT
        exact ⟨oT, hk₃ _ _ hTw hoT, r⟩
      refine kcp_assign (env := compEnvC scope cl C env) hh hT₃ (lookup_relabel_local hxa) (lookup_relabel_local hxb) (by simp [compEnvC, relabel, hkind]) (hn'.at' fun o e => up₃ _ o (wrfp _ hCfp) e) fun h₄ tk₄ hn₄ hs₄ => ?_
      refine helt C _ _ (ns.getD i 0) (ms.getD i 0) t1 t2 _ _ hn₄ (by simp [hab]) (by simp) fun tv tk₅ => ?_
      have up : ∀ c o, c ∉ [z, TO, i1, i2] → c ≠ C → h'.get? c = some o → h₄.get? c = some o := fun c o h1 h2 e => hs₄ c o h2 (up₃ c o h1 e)
      have hD₄ := up Dn _ (wrfp _ hDfp) hDC hD'
      refine append_at (hsz := by show vs.toArray.size ≤ sizeLine; rw [List.size_toArray, hvl]; unfold sizeLine; lia) hD₄ fun h₆ hs₆ hD₆ => ?_
      have hSt₄ := W.frame (i + 1) _ h₄ hSt fun c hc o e => hs₄ c o (fun (q : c = C) => hCfp (q ▸ hc)) e
      refine ⟨ns.length + 1 - (i + 1), by lia, h₆, tk₅, i + 1, vs ++ [.int (ns.getD i 0 + ms.getD i 0) tv], _, rfl, hlt, rfl, W.frame (i + 1) _ _ hSt₄ fun c hc o e => hs₆.extBut c o (fun q => hDfp (q ▸ hc)) e,
        fun c o e => hs₆.extBut c o (bD e) (up c o (bwr e) (bC e) (hb' c o e)), hD₆.trans (congrArg some (LCg.lst_snoc vs _)), hn₄.sameBut hs₆ (Ne.symm hDC), ?_⟩
      have hlt2 : i < (List.zipWith (· + ·) ns ms).length := by rw [List.length_zipWith, ← hl, Nat.min_self]; exact hlt
      rw [List.take_add_one, List.getElem?_eq_getElem hlt2, List.getElem_zipWith]
      refine hvs.append ?_
      have e1 : ns.getD i 0 = ns[i] := by rw [List.getD_eq_getElem?_getD, List.getElem?_eq_getElem hlt]; rfl
      have e2 : ms.getD i 0 = ms[i]'(by lia) := by rw [List.getD_eq_getElem?_getD, List.getElem?_eq_getElem (by lia)]; rfl
      rw [e1, e2]
      exact .cons _ _ .nil
    · obtain rfl : i = ns.length := Nat.le_antisymm hi (Nat.not_lt.mp hlt)
      refine W.done _ _ _ hst' ?_
      intro h₂ tk₂ hk₂
      dsimp only at hk₂
      rw [List.take_of_length_le (by rw [List.length_zipWith, ← hl, Nat.min_self]; exact Nat.le_refl _)] at hvs
      exact hRR Dn C h₂ tk₂ _ vs (fun c o e => hk₂ c o (bwr e) (hb' c o e)) (hk₂ _ _ (wrfp _ hDfp) hD') (hn'.at' fun o e => hk₂ _ o (wrfp _ hCfp) e) nC nD (Ne.symm hDC) hvs
  rw [← hCe, ← hDn]
  exact codeAny_compStart_list (loop _ rfl) (wpAny_pyIter_zip (old _ _ hz0) (loop _ rfl))
end
section
variable {prog : Program} {w : World} {A : Around} {E : Value → Shared → Prop} {s : Shared} {env : Env} {g : Heap} {L : Addr} {m : Str → Option Value} {Q : Value → Shared → Prop}
def ZipEnd (g : Heap) (L : Addr) (m : Str → Option Value) (Q : Value → Shared → Prop) (xv : Value) (s₁ : Shared) : Prop :=
  ∃ (hb : Heap) (z TI TO i1 i2 l1 l2 : Addr) (xs ys : List Value) (ns ms : List Int) (news : List (Addr × Obj)), xv = .ref z ∧ ZipApart z TI TO i1 i2 l1 l2 ∧ IntsAre xs ns ∧ IntsAre ys ms ∧ ns.length = ms.length ∧ ns.length ≤ 1000 ∧
    (IsZip s₁.heap z TI TO .none ∧ IsPair s₁.heap TI (.ref i1) (.ref i2) ∧ (∃ a b, IsPair s₁.heap TO a b) ∧ s₁.heap.IsListIter i1 l1 0 ∧ s₁.heap.IsListIter i2 l2 0 ∧ s₁.heap.IsList l1 xs.toArray ∧ s₁.heap.IsList l2 ys.toArray) ∧
    @LE.le Nat _ hb.objs.size z ∧ @LE.le Nat _ hb.objs.size TO ∧ @LE.le Nat _ hb.objs.size i1 ∧ @LE.le Nat _ hb.objs.size i2 ∧ (∀ c o, hb.get? c = some o → s₁.heap.get? c = some o) ∧ Fr g L hb m ∧ News g L hb news ∧
    ∀ D h tk vs, Fr g L h m → News g L h ((D, LCg.lst vs) :: news) → IntsAre vs (List.zipWith (· + ·) ns ms) → Q (.ref D) { s₁ with heap := h, toks := tk }
theorem zip_ListComp {elt iter : Expr} {a b : Str} {pa pb tp : Pos} {kk : Nat} {scope : Scope} {cl : List (Str × Addr)} {pos : Pos} (_F₀ : Fr g L s.heap m) (hh : A.handled = none)
    (hclos : closureFor scope env = pure cl) (hcell : ∀ y ∈ scope.names, y.2 ≠ .cell) (hkind : scope.kind = .function)
    (hnames : ∀ y ∈ scope.names, y.2 = .local → scope.names.lookup y.1 = some .local) (hxa : scope.names.lookup a = some .local) (hxb : scope.names.lookup b = some .local) (hab : ¬ a = b)
    (helt : ∀ (C : Addr) (m₂ : Str → Option Value) (s₀ : Shared) (n k : Int) (t1 t2 : Tok) (Q : Value → Shared → Prop) (E : Value → Shared → Prop), s₀.heap.Ns C m₂ → m₂ a = some (.int n t1) → m₂ b = some (.int k t2) → (∀ t tk, Q (.int (n + k) t) { s₀ with toks := tk }) →
      wpAny (model prog w) A (eval elt (compEnvC scope cl C env)) Q E s₀)
    (h : wpAny (model prog w) A (eval iter env) (ZipEnd g L m Q) E s)
    (hs : ∀ x, foldedSetIterable iter env x = pure x := by intro _; rfl) :
    wpAny (model prog w) A (eval (.ListComp elt [⟨.Tuple [.Name a pa, .Name b pb] kk tp, iter, [], 0⟩] scope pos) env) Q E s := by
  rw [eval_ListComp]
  refine wpAny_comprehension_free (use := none) rfl hs hclos hkind hnames (wpAny_mono h (fun xv s₁ h₁ => ?_) fun _ _ e => e)
  obtain ⟨hb, z, TI, TO, i1, i2, l1, l2, xs, ys, ns, ms, news, rfl, DD, hx, hy, hl, hsz, hst, b1, b2, b3, b4, hold, F, N, hQ⟩ := h₁
  refine wpAny_pyIter_zip hst.1 ?_
  refine zip_block (hb := hb) hh DD hx hy hl hsz hst b1 b2 b3 b4 hold hcell hkind hxa hxb hab helt ?_
  intro Dn C h tk m' vs hk hD hn nC nD hCD hvs
  have gnone : ∀ c, hb.get? c = none → g.get? c = none := fun c e => by
    cases q : g.get? c with
    | none => rfl
    | some o => rw [F.keep c o q] at e; cases e
  obtain ⟨oL, es, ep, eL, rL⟩ := id F.ns
  have neL : ∀ c, hb.get? c = none → c ≠ L := fun c e q => by rw [q, eL] at e; cases e
  refine ⟨m', hn, fun h'' hs'' => hQ Dn h'' tk vs ?_ ?_ hvs⟩
  · exact (F.keeps hk).change hs'' (neL C nC) (gnone C nC)
  · intro p hp
    rcases List.mem_cons.mp hp with rfl | hp
    · exact ⟨hs''.extBut _ _ (Ne.symm hCD) hD, neL Dn nD, gnone Dn nD⟩
    · refine ⟨hs''.extBut _ _ (fun q => ?_) (hk _ _ (N p hp).1), (N p hp).2⟩
      have := (N p hp).1
      rw [q, nC] at this; cases this
end

theorem dep_take (x : Str) (G : Int) : (DEP x G).take x.length = (pre 0 (CC x)).map (G + ·) := by
  have h : (pre 0 (CC x)).length = x.length := by rw [pre_length, CC_length]
  rw [DEP, wnd, List.map_append, List.take_append_of_le_length (by rw [List.length_map, h]; exact Nat.le_refl _), List.take_of_length_le (by rw [List.length_map, h]; exact Nat.le_refl _)]
theorem dep_drop (x : Str) (G : Int) : (DEP x G).drop x.length = ((pre 0 (CC x)).map ((CC x).sum - ·)).map (G + ·) := by
  have h : (pre 0 (CC x)).length = x.length := by rw [pre_length, CC_length]
  rw [DEP, wnd, List.map_append, List.drop_left' (by rw [List.length_map, h])]
theorem zip_dep (T G : Int) : ∀ p : List Int, List.zipWith (· + ·) (p.map (G + ·)) ((p.map (T - ·)).map (G + ·)) = List.replicate p.length (G + (G + T))
  | [] => rfl
  | d :: p => by
    rw [List.map_cons, List.map_cons, List.map_cons, List.zipWith_cons_cons, zip_dep T G p, List.length_cons, List.replicate_succ]
    congr 1
    lia
theorem last_line (G : Int) (c : List Int) : (G :: (pre 0 c).map (G + ·)).getD (-1 + ((G :: (pre 0 c).map (G + ·)).length : Int)).toNat 0 = G + c.sum := by
  have e : (-1 + ((G :: (pre 0 c).map (G + ·)).length : Int)).toNat = c.length := by
    rw [List.length_cons, List.length_map, pre_length]; lia
  rw [e]
  cases c with
  | nil => simp [pre]
  | cons d c =>
    have h := pre_last (d :: c) 0 (by simp)
    rw [List.length_cons, Nat.add_sub_cancel] at h
    rw [List.length_cons, List.getD_cons_succ, List.getD_eq_getElem?_getD, List.getElem?_map]
    rw [List.getD_eq_getElem?_getD] at h
    have hl : c.length < (pre 0 (d :: c)).length := by rw [pre_length]; simp
    rw [List.getElem?_eq_getElem hl] at h ⊢
    have h' : (pre 0 (d :: c))[c.length] = 0 + (d :: c).sum := h
    rw [Option.map_some, Option.getD_some, h']
    lia
theorem chkD_iff : ∀ (ds : List Int) (o : Int), chkD o ds = decide ((∀ p ∈ pre o ds, 0 ≤ p) ∧ o + ds.sum = 0)
  | [], o => by simp [chkD, pre]
  | d :: ds, o => by
    have ih := chkD_iff ds (o + d)
    rw [chkD, pre, List.sum_cons, ← Int.add_assoc]
    by_cases h : o + d < 0
    · rw [if_pos h]
      symm
      rw [decide_eq_false_iff_not]
      intro hh
      have := hh.1 (o + d) (.head _)
      lia
    · rw [if_neg h, ih, decide_eq_decide]
      constructor
      · rintro ⟨h1, h2⟩
        refine ⟨fun p hp => ?_, h2⟩
        rcases List.mem_cons.mp hp with rfl | hp
        · lia
        · exact h1 p hp
      · rintro ⟨h1, h2⟩
        exact ⟨fun p hp => h1 p (.tail _ hp), h2⟩
theorem end_yes {x : Str} {G M : Int} (hb : ∀ a ∈ [G] ++ (pre 0 (CC x)).map (G + ·), M ≤ a) (hM : M = G) :
    (checkS x == (([G] ++ (pre 0 (CC x)).map (G + ·)).getD (-1 + (([G] ++ (pre 0 (CC x)).map (G + ·)).length : Int)).toNat 0 == G)) = true := by
  have h := last_line G (CC x)
  rw [show [G] ++ (pre 0 (CC x)).map (G + ·) = G :: (pre 0 (CC x)).map (G + ·) from rfl] at hb ⊢
  rw [h, check_eq, chkD_iff]
  have h1 : ∀ p ∈ pre 0 (CC x), 0 ≤ p := fun p hp => by
    have := hb (G + p) (.tail _ (List.mem_map_of_mem hp))
    lia
  have e : (G + (CC x).sum == G) = decide (0 + (CC x).sum = 0) := by
    by_cases hs : (CC x).sum = 0
    · simp [hs]
    · have : ¬ G + (CC x).sum = G := by lia
      simp [hs, this]
  rw [e]
  by_cases hs : 0 + (CC x).sum = 0
  · rw [decide_eq_true hs, decide_eq_true ⟨h1, hs⟩]; rfl
  · rw [decide_eq_false hs, decide_eq_false fun h => hs h.2]; rfl
theorem end_no {x : Str} {G M : Int} (ha : M ∈ [G] ++ (pre 0 (CC x)).map (G + ·)) (hb : ∀ a ∈ [G] ++ (pre 0 (CC x)).map (G + ·), M ≤ a) (hM : M ≠ G) : (checkS x == (M == G)) = true := by
  have h0 := hb G (List.mem_append_left _ (.head _))
  rw [check_eq, chkD_iff]
  have e : (M == G) = false := by simpa using hM
  rw [e, decide_eq_false]
  · rfl
  · rintro ⟨h1, _⟩
    rcases List.mem_append.mp ha with ha | ha
    · exact hM (List.mem_singleton.mp ha)
    · obtain ⟨p, hp, rfl⟩ := List.mem_map.mp ha
      have := h1 p hp
      lia
theorem reps_are (v : Int) (t : Tok) : ∀ n : Nat, IntsAre ((List.replicate n [Value.int v t]).flatten) (List.replicate n v)
  | 0 => .nil
  | n + 1 => .cons _ _ (reps_are v t n)
section
variable {prog : Program} {w : World} {A : Around}
theorem elt_sum {scope : Scope} {cl : List (Str × Addr)} {env : Env} {p1 p2 p3 : Pos} (hkind : scope.kind = .function) (ha : scope.names.lookup (Str.ofString "now") = some .local) (hb : scope.names.lookup (Str.ofString "ahead") = some .local) :
    ∀ (C : Addr) (m₂ : Str → Option Value) (s₀ : Shared) (n k : Int) (t1 t2 : Tok) (Q : Value → Shared → Prop) (E : Value → Shared → Prop), s₀.heap.Ns C m₂ → m₂ (Str.ofString "now") = some (.int n t1) → m₂ (Str.ofString "ahead") = some (.int k t2) → (∀ t tk, Q (.int (n + k) t) { s₀ with toks := tk }) →
      wpAny (model prog w) A (eval (.BinOp (.Name (Str.ofString "now") p1) .Add (.Name (Str.ofString "ahead") p2) p3) (compEnvC scope cl C env)) Q E s₀ := by
  intro C m₂ s₀ n k t1 t2 Q E hn h1 h2 hQ
  refine wpAny_BinOp ?_
  refine wpAny_Name (wpAny_loadName_local (by simp [compEnvC, relabel, hkind]) (lookup_relabel_local ha) hn h1 ?_) (by decide)
  refine wpAny_Name (wpAny_loadName_local (by simp [compEnvC, relabel, hkind]) (lookup_relabel_local hb) hn h2 ?_) (by decide)
  exact wpAny_add_int (hQ _ _)
end
section
variable {w : World} {mg mb : Str → Option Value} {LO : List Str} {mean : ExcName → Option Value} {dp un : Nat} {fr : Option (List Env)} {gd : Option (List Code)} {s : Shared} {g : Heap} {L : Addr} {m0 : Str → Option Value} {TT : List (Addr × Obj)}
  {R : Flow → Shared → Prop}
local macro_rules | `(tactic| walk_at "call ref") => `(tactic| (refine stop_out ?_))
local macro_rules | `(tactic| walk_at "eval ListComp") => `(tactic| (refine stop_out ?_))
local macro_rules | `(tactic| walk_at "call type:zip") => `(tactic| (refine stop_out ?_))
local macro_rules | `(tactic| walk_at "subscriptTail Name Slice ref ref") => `(tactic| (refine stop_out ?_))
local macro_rules | `(tactic| walk_at "binaryOp Add ref ref") => `(tactic| (refine stop_out ?_))
local macro_rules | `(tactic| walk_at "binaryOp Mult ref int") => `(tactic| (refine stop_out ?_))
local macro_rules | `(tactic| walk_at "compareOp NotEq ref ref") => `(tactic| (refine stop_out ?_))
theorem one_p6 {x : Str} {t t2 : Tok} {wd : Int} {o1 o2 o3 o4 o5 o6 : Obj} {Dd : Addr} {dv : List Value} {ed : Nat} {tS tO tG : Tok} (I : Inv w mg mb LO mean g) (F : Fr g L s.heap (setM (Str.ofString "depths") (.ref Dd) (setM (Str.ofString "over") (.int 0 tO) (setM (Str.ofString "size") (.int x.length tS) m0))))
    (N : News g L s.heap ((Dd, listOf dv.toArray ed) :: cl6 L o6 o5 o4 o3 o2 o1 TT)) (TL : TabL TT) (hroom : dp < 700) (hun : un < 5000) (hxl : x.length ≤ 11) (hw : 6 ≤ wd) (hw2 : wd ≤ 4400)
    {v3 v4 v5 : Option Value} (d1 : o1.data = .cell (some (.str x t))) (d2 : o2.data = .cell (some (.int wd t2))) (d3 : o3.data = .cell v3) (d4 : o4.data = .cell v4) (d5 : o5.data = .cell v5) (d6 : o6.data = .cell (some (.int (2 ^ (wd.toNat - 1)) tG)))
    (hid : IntsAre dv (DEP x (2 ^ (wd.toNat - 1))))
    (hR : ∀ h' tk' gens' m' own' TT', (AllBare s.gens → AllBare gens') → Fr g L h' m' → News g L h' (own' ++ TT') → TabL TT' → R (.ret (.bool true)) { s with heap := h', toks := tk', gens := gens' }) :
    wpAny (model PR w) ((mkA dp fr gd un).deeper (oneEnv L)) (execs (oneBody.drop 19) (oneEnv L)) R (fun _ _ => False) s := by
  have X := I.X
  rw [show oneBody.drop 19 = [_, _, _, _] from rfl]
  unfold oneEnv
  rw [show oneScope = Scope.mk _ _ _ _ _ from rfl]
  unfold setM at F
  have hk1 : 6 ≤ wd.toNat := by lia
  obtain ⟨G, hG⟩ : ∃ G : Int, G = 2 ^ (wd.toNat - 1) := ⟨_, rfl⟩
  rw [← hG] at d6 hid
  have hdl := hid.length
  have hDl := DEP_length x G
  have i2 : intBits (2 : Int) ≤ 2 := by decide
  have hlen2 : ((DEP x G).length : Int) = 2 * (x.length : Int) := by lia
  refine letE ?_
  intro ML eL AL sL
  refine letN1 N ?_
  clear N
  intro CL N
  k_steps
  refine stop_in ?_
  rename Fr _ _ _ _ => F1
  rename News _ _ _ _ => N1
  refine kmk_slice_ints (ms := (DEP x G).take (x.length : Int).toNat) F1 N1 (News.isList N1 (.tail _ (.head _))) .none (.int _ _) hid (kmk_upto hid (by lia)) rfl ?_ (by with_unfolding_all rfl) (by intro _; with_unfolding_all rfl) (by rw [List.size_toArray]; unfold sizeLine; lia)
  rw [Int.toNat_natCast, dep_take]
  intro D1 ws1 h3 F3 N3 _ hi1 _ _
  have hpl : ((pre 0 (CC x)).map (G + ·)).length = x.length := by rw [List.length_map, pre_length, CC_length]
  have hwl1 := hi1.length
  k_steps
  refine stop_in ?_
  rename Fr _ _ _ _ => F4
  rename News _ _ _ _ => N4
  refine add_lists_ints F4 N4 (News.isList N4 (.tail _ (.head _))) (News.isList N4 (.head _)) (ns := [G]) (.cons _ _ .nil) hi1 ?_ (by simp only [List.length_cons, List.length_nil]; unfold sizeLine; lia)
  intro h5 F5 N5 hi5
  rw [List.cons_append, List.nil_append] at hi5
  generalize hDl' : ({ heap := h3, gens := _, drawn := _, toks := _, os := _ } : Shared).heap.objs.size = Dl at N5 ⊢
  obtain ⟨el, N5⟩ : ∃ el, News g L h5 ((Dl, listOf (Value.int G tG :: ws1).toArray el) :: (D1, listOf ws1.toArray 0) :: _) := ⟨_, N5⟩
  clear F4 N4 hDl'
  k_steps
  · exact absurd hlen2 (by assumption)
  rotate_left
  · exact IntMulOk.of_right (intBits_le_64 (by lia) (by lia))
  refine stop_in ?_
  rename Fr _ _ _ _ => F6
  refine zip_ListComp F6 rfl (by with_unfolding_all rfl) (by decide) rfl (by decide) rfl rfl (by decide) (elt_sum rfl rfl rfl) ?_
  k_steps
  refine stop_in ?_
  rename Fr _ _ _ _ => F7
  rename News _ _ _ _ => N7
  refine kmk_slice_ints (ms := (DEP x G).take (x.length : Int).toNat) F7 N7 (News.isList N7 (.tail _ (.tail _ (.tail _ (.head _))))) .none (.int _ _) hid (kmk_upto hid (by lia)) rfl ?_ (by with_unfolding_all rfl) (by intro _; with_unfolding_all rfl) (by rw [List.size_toArray]; unfold sizeLine; lia)
  rw [Int.toNat_natCast, dep_take]
  intro D2 ws2 h8 F8 N8 _ hi8 _ _
  k_steps
  refine stop_in ?_
  rename Fr _ _ _ _ => F9
  rename News _ _ _ _ => N9
  refine kmk_slice_ints (ms := (DEP x G).drop (x.length : Int).toNat) F9 N9 (News.isList N9 (.tail _ (.tail _ (.tail _ (.tail _ (.head _)))))) (.int _ _) .none hid (kmk_from hid (by lia)) rfl ?_ (by with_unfolding_all rfl) (by intro _; with_unfolding_all rfl) (by rw [List.size_toArray]; unfold sizeLine; lia)
  rw [Int.toNat_natCast, dep_drop]
  intro D3 ws3 h10 F10 N10 l10 hi10 _ _
  k_steps
  refine stop_in ?_
  have hln : ((pre 0 (CC x)).map (G + ·)).length = (((pre 0 (CC x)).map ((CC x).sum - ·)).map (G + ·)).length := by simp
  refine call_zip_2 (News.isList N10 (.tail _ (.head _))) (News.isList N10 (.head _)) ?_
  intro hz hZ hTI hTO hZ1 hZ2 hZs hZk
  dsimp only at hZ hTI hTO hZ1 hZ2 hZs hZk
  have q2 : @LT.lt Nat _ D2 h10.objs.size := Heap.lt_size (N10 _ (.tail _ (.head _))).1
  have q3 : @LT.lt Nat _ D3 h10.objs.size := Heap.lt_size (N10 _ (.head _)).1
  refine ⟨h10, h10.objs.size + 4, h10.objs.size + 2, h10.objs.size + 3, h10.objs.size, h10.objs.size + 1, D2, D3, ws2, ws3, _, _, _, rfl, ⟨neN (by lia), neN (by lia), neN (by lia), neN (by lia), neN (by lia), neN (by lia), neN (by lia), neN (by lia), neN (by lia), neN (by lia), neN (a := D2) (by lia), neN (a := D2) (by lia), neN (a := D2) (by lia), neN (a := D2) (by lia), neN (a := D3) (by lia), neN (a := D3) (by lia), neN (a := D3) (by lia), neN (a := D3) (by lia)⟩, hi8, hi10, hln, by rw [hpl]; lia,
    ⟨hZ, hTI, ⟨_, _, hTO⟩, hZ1, hZ2, (News.isList N10 (.tail _ (.head _))).at fun o e => hZk _ o e, (News.isList N10 (.head _)).at fun o e => hZk _ o e⟩, Nat.le_add_right _ _, Nat.le_add_right _ _, Nat.le_refl _, Nat.le_add_right _ _, hZk, F10, N10, ?_⟩
  intro Dz h11 tk11 zs F11 N0 hzs
  rw [zip_dep, pre_length, CC_length] at hzs
  have hzl := hzs.length
  rw [List.length_replicate] at hzl
  obtain ⟨ez, N11⟩ : ∃ ez, News g L h11 ((Dz, listOf zs.toArray ez) :: _) := ⟨_, N0⟩
  clear F10 N10 N0
  have hll := hi5.length
  simp only [List.length_cons, List.length_append, List.length_nil, hpl] at hll
  k_steps
  refine stop_in ?_
  rename Fr _ _ _ _ => F12
  rename News _ _ _ _ => N12
  refine KMa.mul F12 N12 (vs := [Value.int _ _]) (News.isList N12 (.head _)) (by lia) (by lia) (by simp; lia) rfl ?_
  rw [Int.toNat_natCast]
  intro D4 h13 F13 N13 _
  k_steps
  refine stop_in ?_
  rename Fr _ _ _ _ => F14
  rename News _ _ _ _ => N14
  refine ke_ne_ints (News.isList N14 (.tail _ (.tail _ (.head _)))) (News.isList N14 (.head _)) hzs (reps_are _ _ _) (show un + 3 + 64 < 9900 by lia) ?_
  rw [last_line, decide_eq_true rfl]
  k_steps
  refine stop_in ?_
  rename Fr _ _ _ _ => F15
  rename News _ _ _ _ => N15
  refine sp_check I F15 N15 TL (.cons rfl (.cons rfl (.cons rfl (.cons rfl (.cons rfl (.cons rfl (.cons rfl (.cons rfl (.cons rfl (ends6 d6 d5 d4 d3 d2 d1)))))))))) (by walk_at "my room") hxl ?_
  intro t16 h16 tk16 gens16 hb16 F16 N16
  replace N16 : News g L h16 (_ :: _ :: _ :: _ :: _ :: _ :: _ :: _ :: _ :: cl6 L o6 o5 o4 o3 o2 o1 TT) := N16
  k_steps
  · rename News _ _ _ _ => N17
    rename Fr _ _ _ _ => F17
    rename ∀ a ∈ _, _ ≤ a => hb17
    rename _ = G => hM17
    rw [end_yes hb17 hM17]
    exact hR _ _ gens16 _ (_ :: _ :: _ :: _ :: _ :: _ :: _ :: _ :: _ :: _ :: _ :: _ :: _ :: _ :: _ :: []) TT hb16 F17 N17 TL
  · rename News _ _ _ _ => N17
    rename Fr _ _ _ _ => F17
    rename ∀ a ∈ _, _ ≤ a => hb17
    rename _ ∈ [G] ++ _ => ha17
    rename _ ≠ G => hM17
    rw [end_no ha17 hb17 hM17]
    exact hR _ _ gens16 _ (_ :: _ :: _ :: _ :: _ :: _ :: _ :: _ :: _ :: _ :: _ :: _ :: _ :: _ :: _ :: []) TT hb16 F17 N17 TL
end

section
variable {w : World} {mg mb : Str → Option Value} {LO : List Str} {mean : ExcName → Option Value} {dp un : Nat} {fr : Option (List Env)} {gd : Option (List Code)} {s : Shared} {g : Heap} {L : Addr} {m : Str → Option Value} {own news TT : List (Addr × Obj)}
  {Q : Value → Shared → Prop} {E : Value → Shared → Prop}
theorem sp_one {x : Str} {t t2 : Tok} {wd : Int} (I : Inv w mg mb LO mean g) (F : Fr g L s.heap m) (N : News g L s.heap news) (TL : TabL TT) (En : Ends own news TT) (hroom : dp < 700) (hun : un < 5000) (hxl : x.length ≤ 11) (hok : okT x) (hw : 6 ≤ wd) (hw2 : wd ≤ 4400)
    (hQ : ∀ h' tk' gens' TT', (AllBare s.gens → AllBare gens') → Fr g L h' m → News g L h' (own ++ TT') → TabL TT' → Q (.bool true) { s with heap := h', toks := tk', gens := gens' }) :
    wpAny (model PR w) (mkA dp fr gd un) (call (.ref 106) [.str x t, .int wd t2]) Q E s := by
  refine enterC (f := 106) I F N TL En (by lia) rfl (by kernel_rfl) rfl (fun _ => none) (fun _ => rfl) rfl (by decide +kernel) ?_
  clear I F N
  intro g' L' h₁ tk cells mL ML eL AL sL I F N Y hown lv
  obtain rfl := En.eq
  obtain ⟨o6, o5, o4, o3, o2, o1, he, d6, d5, d4, d3, d2, d1⟩ := cells_six Y
  subst he
  clear Y
  have d1' : o1.data = .cell (some (.str x t)) := d1
  have d2' : o2.data = .cell (some (.int wd t2)) := d2
  have d3' : o3.data = .cell none := d3
  have d4' : o4.data = .cell none := d4
  have d5' : o5.data = .cell none := d5
  have d6' : o6.data = .cell none := d6
  clear d1 d2 d3 d4 d5 d6
  refine one_p1 I F N TL hroom hxl hw hw2 d1' d2' d3' d4' d5' d6' ?_
  intro Dt Du vt et DT c o3' h2 tk2 TT2 tS vp F2 N2 TL2 d3'' hit hUT
  refine one_p2 I F2 N2 TL2 hroom hun hxl hok d1' d2' d3'' d4' d5' d6' hUT ?_
  intro h3 tk3 gens3 hb3 F3 N3
  refine one_p3 I (fr_set F3 rfl) N3 TL2 hroom hun hxl hw hw2 d1' d2' d3'' d4' d5' d6' hit ?_
  intro Dp Dr ps rv ep er o4' o5' h4 tk4 TT4 m4 F4 N4 TL4 d4'' d5'' hip hir
  refine one_p4 I F4 N4 TL4 hroom hun hxl hw hw2 d1' d2' d3'' d4'' d5'' d6' hit hip hir ?_
  intro Ds ss es h5 tk5 gens5 m5 hb5 F5 N5 his
  refine one_p5 I F5 N5 TL4 hroom hun hxl hw hw2 d1' d2' d3'' d4'' d5'' d6' hit his ?_
  intro Dd dv ed o6' tG tO h6 tk6 TT6 m6 F6 N6 TL6 d6'' hid
  refine one_p6 I F6 N6 TL6 hroom hun hxl hw hw2 d1' d2' d3'' d4'' d5'' d6'' hid ?_
  intro h7 tk7 gens7 m7 own7 TT7 hb7 F7 N7 TL7
  obtain ⟨F8, N8⟩ := lv h7 m7 own7 TT7 F7 N7
  exact hQ h7 tk7 gens7 TT7 (fun h => hb7 (hb5 (hb3 h))) F8 (fun p hp => N8 p (List.mem_append_right _ hp)) TL7
end

theorem item_one {x : Str} {i : Int} (h : (Txt.item x i).length = 1) : ∃ c, Txt.item x i = ⟨#[c]⟩ := by
  generalize Txt.item x i = y at h
  obtain ⟨⟨l⟩⟩ := y
  match l, h with
  | [c], _ => exact ⟨c, rfl⟩
theorem item_ok {y : Str} (h : okT y) (i : Int) : okT (Txt.item y i) := fun c hc => by
  have e : (Txt.item y i).cps.toList = [(Txt.charAt y i).getD 0] := rfl
  rw [e] at hc
  rw [List.mem_singleton.mp hc]
  cases hq : Txt.charAt y i with
  | none => decide
  | some d =>
    refine h d ?_
    unfold Txt.charAt at hq
    obtain ⟨j, _, hj⟩ := Option.bind_eq_some_iff.mp hq
    have := Array.mem_of_getElem? hj
    simpa using this
section
variable {w : World} {mg mb : Str → Option Value} {LO : List Str} {mean : ExcName → Option Value} {dp un : Nat} {fr : Option (List Env)} {gd : Option (List Code)} {s : Shared} {g : Heap} {L : Addr} {m : Str → Option Value} {own news TT : List (Addr × Obj)}
  {Q : Value → Shared → Prop} {E : Value → Shared → Prop}
theorem sp_sign {n : Int} {t : Tok} (I : Inv w mg mb LO mean g) (F : Fr g L s.heap m) (N : News g L s.heap news) (TL : TabL TT) (En : Ends own news TT) (hroom : dp < 980)
    (hQ : ∀ c h' tk' tok, c < 0x110000 → Fr g L h' m → News g L h' news → Q (.str ⟨#[c]⟩ tok) { s with heap := h', toks := tk' }) : wpAny (model PR w) (mkA dp fr gd un) (call (.ref 84) [.int n t]) Q E s := by
  refine enterF (f := 84) [(Str.ofString "number", .int n t)] I F N TL En (by lia) rfl (by kernel_rfl) rfl (by decide) (locs rfl) rfl ?_
  clear I F N
  intro g' L' h₁ t₁ mL ML eL AL sL I F N _ lv
  have X := I.X
  obtain rfl := En.eq
  have hlit : okT (Str.ofString "()\"\\") := fun c hc => by
    have e : (Str.ofString "()\"\\").cps.toList = [40, 41, 34, 92] := by decide
    rw [e] at hc
    simp only [List.mem_cons, List.not_mem_nil, or_false] at hc
    lia
  have hfm := Int.fmod_lt_of_pos (n.fdiv 5) (show (0 : Int) < 55296 by decide)
  have hfm0 := Int.fmod_nonneg_of_pos (n.fdiv 5) (show (0 : Int) < 55296 by decide)
  k_steps
  · have k := lv.out F N .nil
    refine hQ _ _ _ _ ?_ k.1 k.2
    lia
  · have k := lv.out F N .nil
    obtain ⟨c, hc⟩ := item_one (by assumption)
    have hi := item_ok hlit (n.fmod 5)
    try dsimp only
    rw [hc] at hi ⊢
    exact hQ _ _ _ _ (hi c (by simp)) k.1 k.2
end

inductive LpT (gs₀ : Array GenState) (dw : Drawn) (os : OsState) (g : Heap) (L I : Addr) (oI : Obj) (Dl : Addr) (vs : List Value) (c : Nat) (i : Nat) (J : Nat → (Str → Option Value) → List (Addr × Obj) → Prop) (s₃ : Shared) : Prop
  | mk (h' : Heap) (tk' : Nat) (gens'' : Array GenState) (m' : Str → Option Value) (nw' : List (Addr × Obj)) (hs : s₃ = ⟨h', gens'', dw, tk', os⟩) (hb : AllBare gs₀ → AllBare gens'') (F : Fr g L h' m') (N : News g L h' ((I, oI) :: (Dl, listOf vs.toArray c) :: nw')) (hne : ∀ p ∈ (Dl, listOf vs.toArray c) :: nw', p.1 ≠ I) (hJ : J (i + 1) m' nw')
inductive LpI (s : Shared) (g : Heap) (L I Dl : Addr) (vs : List Value) (c : Nat) (J : Nat → (Str → Option Value) → List (Addr × Obj) → Prop) (k : Nat) (s' : Shared) : Prop
  | mk (i : Nat) (h : Heap) (tk : Nat) (gens' : Array GenState) (m : Str → Option Value) (nw : List (Addr × Obj)) (oI : Obj) (hik : i + k = vs.length) (hs : s' = { s with heap := h, toks := tk, gens := gens' }) (hb : AllBare s.gens → AllBare gens') (hc : oI.cls = .type "list_iterator") (hd : oI.data = .fields #[.ref Dl, .int (i : Nat) 0])
    (F : Fr g L h m) (N : News g L h ((I, oI) :: (Dl, listOf vs.toArray c) :: nw)) (hne : ∀ p ∈ (Dl, listOf vs.toArray c) :: nw, p.1 ≠ I) (hJ : J i m nw)
section
variable {w : World} {A : Around} {s : Shared} {g : Heap} {L : Addr} {Q : Flow → Shared → Prop} {m : Str → Option Value} {nw : List (Addr × Obj)} {E : Value → Shared → Prop}
/-- a for loop over a made list; its turns may leave suspended generators behind -/
theorem lfor {y : Str} {pos : Pos} {body : List Stmt} {env : Env} {Dl : Addr} {vs : List Value} {c : Nat} (J : Nat → (Str → Option Value) → List (Addr × Obj) → Prop)
    (hh : A.handled = none) (F : Fr g L s.heap m) (N : News g L s.heap ((Dl, listOf vs.toArray c) :: nw)) (hJ : J 0 m nw)
    (turn : ∀ (i : Nat) (v : Value) (I : Addr) (oI : Obj) (h : Heap) (tk : Nat) (gens' : Array GenState) (m : Str → Option Value) (nw : List (Addr × Obj)), vs[i]? = some v → J i m nw → (∀ p ∈ (Dl, listOf vs.toArray c) :: nw, p.1 ≠ I) → (AllBare s.gens → AllBare gens') →
      isF oI = false → Fr g L h m → News g L h ((I, oI) :: (Dl, listOf vs.toArray c) :: nw) →
      wpAny (model PR w) A (assign (.Name y pos) env v) (fun _ s₂ => wpAny (model PR w) A (execs body env) (fun f s₃ => match f with
          | .next | .cont => Stop (LpT s.gens s.drawn s.os g L I oI Dl vs c i J s₃)
          | .brk => False
          | .ret v => Q (.ret v) s₃) (fun _ _ => False) s₂) (fun _ _ => False) { s with heap := h, toks := tk, gens := gens' })
    (done : ∀ (h : Heap) (tk : Nat) (gens' : Array GenState) (m : Str → Option Value) (nw : List (Addr × Obj)), J vs.length m nw → (AllBare s.gens → AllBare gens') → Fr g L h m → News g L h ((Dl, listOf vs.toArray c) :: nw) → Q .next { s with heap := h, toks := tk, gens := gens' }) :
    wpAny (model PR w) A (pyIter (.ref Dl)) (fun it s₁ => codeAny (model PR w) A (.forLoop (.Name y pos) it body [] env) (fun r s' => match r with | .ok f => Q f s' | .error e => cameBackBy (model PR w) A env (fun _ _ => False) e s') s₁) E s := by
  refine wpAny_pyIter_list (News.isList N (.head _)) ?_
  obtain ⟨I, hI⟩ : ∃ I, I = s.heap.objs.size := ⟨_, rfl⟩
  obtain ⟨oL, es, ep, e1, r1⟩ := F.ns
  have hIg : g.get? I = none := by
    cases hg : g.get? I with
    | none => rfl
    | some o => exact absurd (Heap.lt_size (F.keep _ _ hg)) (by rw [hI]; exact Nat.lt_irrefl _)
  have hIL : I ≠ L := fun q => absurd (Heap.lt_size e1) (by rw [← q, hI]; exact Nat.lt_irrefl _)
  rw [← hI]
  refine for_my (LpI s g L I Dl vs c J) ?turn vs.length ?init
  case init =>
    refine ⟨0, _, s.toks, s.gens, m, nw, { cls := .type "list_iterator", data := .fields #[.ref Dl, .int 0 0] }, by lia, rfl, id, rfl, rfl, F.push _, fun p hp => ?_, fun p hp => ?_, hJ⟩
    · rcases List.mem_cons.mp hp with rfl | hp
      · refine ⟨?_, hIL, hIg⟩
        rw [hI]
        exact Heap.get?_push_size _ rfl
      · exact ⟨Heap.get?_push_of_some _ (N p hp).1, (N p hp).2⟩
    · rw [hI]; exact Nat.ne_of_lt (Heap.lt_size (N p hp).1)
  case turn =>
    rintro k s' ⟨i, h, tk, gens', m, nw, oI, hik, rfl, hb, hc, hd, F, N, hne, hJ⟩
    have hlist := News.isList N (.tail _ (.head _))
    have hit : h.IsListIter I Dl i := ⟨oI, (N _ (.head _)).1, hc, hd⟩
    cases k with
    | zero =>
      have hin : i = vs.length := by lia
      subst hin
      refine wpAny_pyNext_list_end hh hit hlist (by simp) fun h' hx => ?_
      exact done h' tk gens' m nw hJ hb (fr_ext F N hx) (news_ext N hx hne)
    | succ k =>
      have hil : i < vs.length := by lia
      refine wpAny_pyNext_list_item hit hlist (x := vs[i]) (by simp [hil]) fun h' hit' hs => ?_
      obtain ⟨oI', ho', hc', hd'⟩ := hit'
      have F2 := fr_same F N hs
      have N2 := news_same N hs ho' hne
      refine wpAny_mono (turn i vs[i] I oI' h' tk gens' m nw (List.getElem?_eq_getElem hil) hJ hne hb (isF_it hc' hd') F2 N2) (fun _ s₂ h₂ => ?_) fun _ _ x => x.elim
      refine wpAny_mono h₂ (fun f s₃ h₃ => ?_) fun _ _ x => x.elim
      have nxt : LpT s.gens s.drawn s.os g L I oI' Dl vs c i J s₃ → ∃ k', k' < k + 1 ∧ LpI s g L I Dl vs c J k' s₃ := by
        rintro ⟨h4, tk4, gens4, m4, nw4, rfl, hb4, F4, N4, hne4, hJ4⟩
        exact ⟨k, Nat.lt_succ_self _, i + 1, h4, tk4, gens4, m4, nw4, oI', by lia, rfl, hb4, hc', hd', F4, N4, hne4, hJ4⟩
      cases f with
      | next => exact nxt h₃
      | cont => exact nxt h₃
      | brk => exact h₃.elim
      | ret v => exact h₃
end

def lawBody : List Stmt := match defAt 18 with | some p => p.1 | none => []
def lawScope : Scope := match defAt 18 with | some p => p.2 | none => { kind := .function, names := [], isGenerator := false, isCoroutine := false }
abbrev lawEnv (L fa : Addr) (cd : Value) : Env := envOfC (Str.ofString "law") lawScope L fa cd
section
variable {w : World} {mg mb : Str → Option Value} {LO : List Str} {mean : ExcName → Option Value} {dp un : Nat} {fr : Option (List Env)} {gd : Option (List Code)} {s : Shared} {g : Heap} {L fa : Addr} {cd : Value} {m0 : Str → Option Value} {TT : List (Addr × Obj)}
  {R : Flow → Shared → Prop}
local macro_rules | `(tactic| walk_at "call ref") => `(tactic| (refine stop_out ?_))
local macro_rules | `(tactic| walk_at "eval ListComp") => `(tactic| (refine stop_out ?_))
local macro_rules | `(tactic| walk_at "CompSrc") => `(tactic| (refine stop_out ?_))
local macro_rules | `(tactic| walk_at "CompEnd") => `(tactic| (refine stop_out ?_))
local macro_rules | `(tactic| walk_at "subscriptTail Name Slice ref ref") => `(tactic| (refine stop_out ?_))
local macro_rules | `(tactic| walk_at "binaryOp Add ref ref") => `(tactic| (refine stop_out ?_))
local macro_rules | `(tactic| walk_at "call builtin:str.join") => `(tactic| (refine stop_out ?_))
local macro_rules | `(tactic| walk_at "storeName") => `(tactic| (with_reducible first | show wpAny _ _ (storeName _ (Str.ofString "drawn") _) _ _ _ | show wpAny _ _ (storeName _ (Str.ofString "own") _) _ _ _; refine stop_out ?_))
theorem law_p1 {o1 o2 : Obj} {l : Addr} {vs : List Value} {ns : List Int} (I : Inv w mg mb LO mean g) (F : Fr g L s.heap (setM (Str.ofString "script") (.ref l) m0))
    (N : News g L s.heap ((L + 1 + 1, o2) :: (L + 1, o1) :: TT)) (TL : TabL TT) (hroom : dp < 600) (d1 : o1.data = .cell none) (d2 : o2.data = .cell none)
    (hl : g.IsList l vs.toArray) (hi : IntsAre vs ns) (hn : ns.length ≤ 63)
    (hK : ∀ (x : Str) t o1' o2' h' tk' m', x.length ≤ 11 → okT x → Fr g L h' (setM (Str.ofString "text") (.str x t) (setM (Str.ofString "script") (.ref l) m')) → News g L h' ((L + 1 + 1, o2') :: (L + 1, o1') :: TT) → isC o1' = true → isC o2' = true →
      wpAny (model PR w) ((mkA dp fr gd un).deeper (lawEnv L fa cd)) (execs (lawBody.drop 4) (lawEnv L fa cd)) R (fun _ _ => False) { s with heap := h', toks := tk' }) :
    wpAny (model PR w) ((mkA dp fr gd un).deeper (lawEnv L fa cd)) (execs lawBody (lawEnv L fa cd)) R (fun _ _ => False) s := by
  have X := I.X
  rw [show lawBody = _ :: _ :: _ :: _ :: lawBody.drop 4 from rfl]
  unfold lawEnv at hK ⊢
  rw [show lawScope = Scope.mk _ _ _ _ _ from rfl] at hK ⊢
  generalize lawBody.drop 4 = rest at hK ⊢
  unfold setM at F
  k_steps
  refine stop_in ?_
  have hvl := hi.length
  refine kmk_slice_ints (ms := ns.take (11 : Int).toNat) F N (hl.at fun o e => F.keep _ o e) .none (.int _ _) hi (kmk_upto hi (by decide)) rfl ?_ (by with_unfolding_all rfl) (by intro _; with_unfolding_all rfl) (by rw [List.size_toArray]; unfold sizeLine; lia)
  intro D1 ws1 h1 F1 N1 _ hi1 _ _
  refine stop_in ?_
  refine storeC (rest := TT) [_, _] F1 N1 rfl d1 (.no rfl (.ne (neN (by lia)) .nil)) (.tab TL) ?_
  intro h2 o1' F2 N2 d1'
  simp only [List.cons_append, List.nil_append] at N2
  have hw1 := hi1.length
  have ht1 : (ns.take (11 : Int).toNat).length ≤ 11 := by rw [List.length_take]; exact Nat.min_le_left _ _
  obtain ⟨dr, hdr⟩ : ∃ dr, dr = ns.take (11 : Int).toNat := ⟨_, rfl⟩
  rw [← hdr] at hi1 ht1 hw1
  k_steps
  refine stop_in ?_
  rename Fr _ _ _ _ => F3
  rename News _ _ _ _ => N3
  rename_i Do _ lDo
  obtain ⟨os, N3, hos⟩ : ∃ os : List Value, News g L _ ((Do, listOf os.toArray 0) :: (D1, listOf ws1.toArray 0) :: (L + 1 + 1, o2) :: (L + 1, o1') :: TT) ∧ IntsAre os [0, 2, 3, 2, 2, 1] := ⟨[_, _, _, _, _, _], N3, .cons _ _ (.cons _ _ (.cons _ _ (.cons _ _ (.cons _ _ (.cons _ _ .nil)))))⟩
  refine storeC (rest := (L + 1, o1') :: TT) [_, _] F3 N3 rfl d2 (.no rfl (.no rfl .nil)) (.ne (neN (by lia)) (.tab TL)) ?_
  clear F3 N3
  intro h4 o2' F4 N4 d2'
  simp only [List.cons_append, List.nil_append] at N4
  have hol := hos.length
  k_steps
  refine stop_in ?_
  rename Fr _ _ _ _ => F5
  rename News _ _ _ _ => N5
  refine LCg.ListComp_U (F₀ := F5) (by with_unfolding_all rfl) (by decide) rfl (by decide) rfl ?_
  k_steps
  refine stop_in ?_
  rename Fr _ _ _ _ => F6
  rename News _ _ _ _ => N6
  refine LCg.CompSrc.range (n := 6) rfl F6 N6 (by assumption) (by decide) (by decide) (by decide) ?_
  intro g3
  clear F6 N6
  refine compU_ind (fun i ws => ∃ zs : List Int, IntsAre ws zs ∧ zs.length = i) 6 ⟨[], .nil, rfl⟩ ?turn ?done
  case turn =>
    intro k i ws hik hJ ih
    obtain ⟨zs, hz, hzl⟩ := hJ
    refine LCg.CompRest.succ ?_
    intro v It oI Ct oC D m₂ h tk E' hv hC hx F N off ne
    obtain ⟨tv, rfl⟩ := hv
    have e0 : (0 : Int) + (i : Int) = (i : Int) := by lia
    rw [e0] at hx
    have hi6 : i < 6 := by lia
    k_steps
    · exact stop_in ⟨_, _, _, rfl, by assumption, by assumption, off, trivial, ih _ ⟨zs ++ [_], hz.append (.cons _ _ .nil), by simp [hzl]⟩⟩
    · exact stop_in ⟨_, _, _, rfl, by assumption, by assumption, off, trivial, ih _ ⟨zs ++ [_], hz.append (.cons _ _ .nil), by simp [hzl]⟩⟩
  case done =>
    intro ws hJ
    obtain ⟨zs, hz, hzl⟩ := hJ
    intro D2 h tk F0 N0 _
    obtain ⟨e2, N⟩ : ∃ e2, News g L h ((D2, listOf ws.toArray e2) :: (Do, listOf os.toArray 0) :: (D1, listOf ws1.toArray 0) :: (L + 1 + 1, o2') :: (L + 1, o1') :: TT) := ⟨_, N0⟩
    clear N0
    k_steps
    refine stop_in ?_
    rename Fr _ _ _ _ => F7
    rename News _ _ _ _ => N7
    refine kmk_slice_ints (ms := dr.drop (6 : Int).toNat) F7 N7 (News.isList N7 (.tail _ (.tail _ (.head _)))) (.int _ _) .none hi1 (kmk_from hi1 (by decide)) rfl ?_ (by with_unfolding_all rfl) (by intro _; with_unfolding_all rfl) (by rw [List.size_toArray]; unfold sizeLine; lia)
    clear F7 N7
    intro D3 ws3 h8 F8 N8 _ hi3 _ _
    have ht3 : (dr.drop (6 : Int).toNat).length ≤ 5 := by rw [List.length_drop]; show dr.length - 6 ≤ 5; lia
    k_steps
    refine stop_in ?_
    rename Fr _ _ _ _ => F9
    rename News _ _ _ _ => N9
    refine add_lists_ints F9 N9 (News.isList N9 (.tail _ (.head _))) (News.isList N9 (.head _)) hz hi3 ?_ (by unfold sizeLine; lia)
    intro h10 F10 N10 hi10
    generalize hDc' : ({ heap := h8, gens := _, drawn := _, toks := _, os := _ } : Shared).heap.objs.size = Dc at N10 ⊢
    obtain ⟨cs, hcs⟩ : ∃ cs, cs = zs ++ dr.drop (6 : Int).toNat := ⟨_, rfl⟩
    obtain ⟨cv, hcv⟩ : ∃ cv, cv = ws ++ ws3 := ⟨_, rfl⟩
    obtain ⟨ec, N10⟩ : ∃ ec, News g L h10 ((Dc, listOf cv.toArray ec) :: (L + 1 + 1, o2') :: (L + 1, o1') :: TT) := ⟨_, news_part N10 fun p hp => by
      rw [hcv] at hp
      rcases List.mem_cons.mp hp with hp | hp
      · rw [hp]; exact .head _
      · exact .tail _ (.tail _ (.tail _ (.tail _ (.tail _ hp))))⟩
    rw [← hcv, ← hcs] at hi10
    have hcl : cs.length ≤ 11 := by rw [hcs, List.length_append]; lia
    have hcvl := hi10.length
    clear hDc'
    k_steps
    refine stop_in ?_
    rename Fr _ _ _ _ => F11
    rename News _ _ _ _ => N11
    refine LCg.ListComp_U (F₀ := F11) (by with_unfolding_all rfl) (by decide) rfl (by decide) rfl ?_
    k_steps
    refine stop_in ?_
    rename Fr _ _ _ _ => F12
    rename News _ _ _ _ => N12
    have hys : cv.toArray.size = cs.length := by rw [List.size_toArray, hcvl]
    refine LCg.CompSrc.ledger rfl F12 N12 (.head _) (by rw [hys]; unfold sizeLine; lia) ?_
    rw [hys]
    intro g4
    clear F12 N12
    refine compU_ind (fun i ws => ∃ ss : List Str, StrsAre ws ss ∧ ss.length = i ∧ ∀ a ∈ ss, a.length = 1 ∧ okT a) cs.length ⟨[], .nil, rfl, fun _ h => nomatch h⟩ ?turn2 ?done2
    case turn2 =>
      intro k i ws' hik hJ ih
      obtain ⟨ss, hs, hsl, hsa⟩ := hJ
      refine LCg.CompRest.succ ?_
      intro v It oI Ct oC D m₂ h tk E' hv hC hx F N off ne
      obtain ⟨tv, htv⟩ := hi10.int_at i v (by simpa using hv)
      subst htv
      have hofT : ∀ p ∈ TT, p.1 ≠ It ∧ p.1 ≠ Ct := fun p hp => by
        have := off.mem p (.tail _ (.tail _ (.tail _ hp)))
        exact ⟨this.1, this.2.1⟩
      k_steps
      refine stop_in ?_
      rename Fr _ _ _ _ => F13
      rename News _ _ _ _ => N13
      refine sp_sign I F13 N13 TL (.off (fun q => by obtain ⟨p, hp, e⟩ := List.mem_map.mp q; exact (hofT p hp).1 e) (.off (fun q => by obtain ⟨p, hp, e⟩ := List.mem_map.mp q; exact (hofT p hp).2 e) (.cons rfl (.cons rfl (.cons (isF_cell d2') (.cons (isF_cell d1') .nil)))))) (by walk_at "my room") ?_
      intro c h14 tk14 tok14 hc F14 N14
      k_steps
      refine stop_in ⟨_, _, _, rfl, by assumption, by assumption, off, .inr ⟨_, .head _, rfl, _, rfl⟩, ih _ ⟨ss ++ [⟨#[c]⟩], hs.append' (.cons _ _ .nil), by simp [hsl], fun a ha => ?_⟩⟩
      rcases List.mem_append.mp ha with ha | ha
      · exact hsa a ha
      · rw [List.mem_singleton.mp ha]
        exact ⟨rfl, fun d hd => by have : d = c := by simpa using hd
                                   rw [this]; exact hc⟩
    case done2 =>
      intro ws' hJ
      obtain ⟨ss, hs, hsl, hsa⟩ := hJ
      intro Dj h tk F N0 _
      have hsum : (ss.map (·.length)).sum = ss.length := sumLen_of_ones ss fun a ha => (hsa a ha).1
      k_steps
      refine stop_in ?_
      refine join_list (News.isList N0 (.head _)) (ys := ss) hs (by rw [show (Str.ofString "").length = 0 by decide, Nat.mul_zero]; lia) ?_
      intro t16 k16
      have hjl : (Txt.join (Str.ofString "") ss).length ≤ 11 := by
        have e : (Txt.join (Str.ofString "") ss).length = (Txt.join (Str.ofString "") ss).cps.toList.length := by simp [Str.length]
        rw [e, join_flat, ← flat_len, hsum]; lia
      have hjo : okT (Txt.join (Str.ofString "") ss) := fun c hc => by
        rw [join_flat] at hc
        obtain ⟨l, hl, hc⟩ := List.mem_flatten.mp hc
        obtain ⟨a, ha, rfl⟩ := List.mem_map.mp hl
        exact (hsa a ha).2 c hc
      k_steps
      rename Fr _ _ _ _ => F17
      rename News _ _ _ _ => N17
      refine hK _ t16 o1' o2' _ _ _ hjl hjo (fr_set (fr_set F17 ?_) ?_) (news_part N17 fun p hp => .tail _ (.tail _ hp)) (by unfold isC; rw [d1']) (by unfold isC; rw [d2'])
      · rfl
      · rfl
end

theorem isC_isF {o : Obj} (h : isC o = true) : isF o = false := by
  unfold isC at h
  split at h
  · rename_i v hd; exact isF_cell hd
  · cases h
theorem slice_okT {x : Str} {j : Int} (h0 : 0 ≤ j) (h2 : j ≤ x.length) (hx : okT x) : okT (Txt.slice x none (some j)) := fun c hc => by
  rw [eq_of_beq (slice_closes_toL (x := x) h0 h2)] at hc
  have hc' : c ∈ (x.cps.toList.drop (0 : Int).toNat).take (j - 0).toNat := hc
  exact hx c (List.mem_of_mem_drop (List.mem_of_mem_take hc'))
theorem law_total {T : Int} : 6 ≤ 6 + T.fmod 4300 ∧ 6 + T.fmod 4300 ≤ 4400 := by
  have h1 := Int.fmod_nonneg_of_pos T (show (0 : Int) < 4300 by decide)
  have h2 := Int.fmod_lt_of_pos T (show (0 : Int) < 4300 by decide)
  lia
def lawM (vp : Option Value) (m0 : Str → Option Value) : Str → Option Value := fun y => if y = Str.ofString "part" then vp else m0 y
theorem lawM_eq {vp : Option Value} {m m0 : Str → Option Value} (h1 : m (Str.ofString "part") = vp) (h : ∀ y, y ≠ Str.ofString "part" → m y = m0 y) : m = lawM vp m0 := by
  funext y
  unfold lawM
  by_cases e1 : y = Str.ofString "part"
  · rw [if_pos e1, e1, h1]
  · rw [if_neg e1, h y e1]
inductive LwJ (L : Addr) (o2 o1 : Obj) (m1 : Str → Option Value) (i : Nat) (m : Str → Option Value) (nw : List (Addr × Obj)) : Prop
  | mk (vp : Option Value) (TT' : List (Addr × Obj)) (hm : m = lawM vp m1) (hn : nw = (L + 1 + 1, o2) :: (L + 1, o1) :: TT') (T : TabL TT')
section
variable {w : World} {mg mb : Str → Option Value} {LO : List Str} {mean : ExcName → Option Value} {dp un : Nat} {fr : Option (List Env)} {gd : Option (List Code)} {s : Shared} {g : Heap} {L fa : Addr} {cd : Value} {m0 : Str → Option Value} {TT : List (Addr × Obj)}
  {R : Flow → Shared → Prop}
local macro_rules | `(tactic| walk_at "call ref") => `(tactic| (refine stop_out ?_))
local macro_rules | `(tactic| walk_at "pyIter ref") => `(tactic| (refine stop_out ?_))
local macro_rules | `(tactic| walk_at "exec For") => `(tactic| (refine stop_out ?_))
local macro_rules | `(tactic| walk_at "exec For Name List cons nil") => `(tactic| (refine stop_out ?_))
theorem law_p2 {x : Str} {t : Tok} {o1 o2 : Obj} {l : Addr} {vs : List Value} {ns : List Int} (I : Inv w mg mb LO mean g) (F : Fr g L s.heap (setM (Str.ofString "text") (.str x t) (setM (Str.ofString "script") (.ref l) m0)))
    (N : News g L s.heap ((L + 1 + 1, o2) :: (L + 1, o1) :: TT)) (TL : TabL TT) (hroom : dp < 600) (hun : un < 4900) (c1 : isC o1 = true) (c2 : isC o2 = true)
    (hl : g.IsList l vs.toArray) (hi : IntsAre vs ns) (hn : ns.length ≤ 63) (hxl : x.length ≤ 11) (hok : okT x)
    (hR : ∀ h' tk' gens' m' own' TT', (AllBare s.gens → AllBare gens') → Fr g L h' m' → News g L h' (own' ++ TT') → TabL TT' → R (.ret (.bool true)) { s with heap := h', toks := tk', gens := gens' }) :
    wpAny (model PR w) ((mkA dp fr gd un).deeper (lawEnv L fa cd)) (execs (lawBody.drop 4) (lawEnv L fa cd)) R (fun _ _ => False) s := by
  have X := I.X
  rw [show lawBody.drop 4 = [_, _, _] from rfl]
  unfold lawEnv
  rw [show lawScope = Scope.mk _ _ _ _ _ from rfl]
  unfold setM at F
  have hvl := hi.length
  k_steps
  refine stop_in ?_
  refine wpAny_For ?_
  have hfm := Int.fmod_nonneg_of_pos ns.sum (show (0 : Int) < (x.length : Int) + 1 by lia)
  have hfm2 := Int.fmod_lt_of_pos ns.sum (show (0 : Int) < (x.length : Int) + 1 by lia)
  k_steps
  refine stop_in ?_
  rename Fr _ _ _ _ => F3
  rename News _ _ _ _ => N3
  rename (Txt.slice x none _).length ≤ _ => hsl
  rename_i Dl _ _
  have hso := slice_okT (x := x) hfm (by lia) hok
  obtain ⟨pv, hpv, N3⟩ : ∃ pv : List Value, (∀ v ∈ pv, ∃ (y : Str) (ty : Tok), v = .str y ty ∧ y.length ≤ 11 ∧ okT y) ∧ News g L _ ((Dl, listOf pv.toArray 0) :: (L + 1 + 1, o2) :: (L + 1, o1) :: TT) := ⟨[_, _], fun v hv => by
    rcases List.mem_cons.mp hv with rfl | hv
    · exact ⟨x, t, rfl, hxl, hok⟩
    · rw [List.mem_singleton.mp hv]
      exact ⟨_, _, rfl, Nat.le_trans hsl hxl, hso⟩, N3⟩
  have hlt := law_total (T := ns.sum)
  obtain ⟨m1, hm1, F3⟩ := fr_name F3
  refine lfor (LwJ L o2 o1 m1) rfl F3 N3 ⟨m1 (Str.ofString "part"), TT, lawM_eq rfl fun _ _ => rfl, rfl, TL⟩ ?turn ?done
  case turn =>
    rintro i v It oI h tk gens' m nw hv ⟨vp, TT', rfl, rfl, TL'⟩ hne hb hoI F N
    obtain ⟨y, ty, rfl, hyl, hyo⟩ := hpv v (List.mem_of_getElem? hv)
    clear F3 N3
    subst hm1
    unfold lawM at F
    k_steps
    refine stop_in ?_
    rename Fr _ _ _ _ => F4
    rename News _ _ _ _ => N4
    refine sp_one I F4 N4 TL' (.cons hoI (.cons rfl (.cons (isC_isF c2) (.cons (isC_isF c1) .nil)))) (show dp + 1 < 700 by lia) (show un + 3 < 5000 by lia) hyl hyo hlt.1 hlt.2 ?_
    intro h5 tk5 gens5 TT5 hb5 F5 N5 TL5
    simp only [List.cons_append, List.nil_append] at N5
    k_steps
    rename Fr _ _ _ _ => F6
    rename News _ _ _ _ => N6
    refine stop_in ⟨_, _, gens5, _, (L + 1 + 1, o2) :: (L + 1, o1) :: TT5, rfl, fun h => hb5 (hb h), F6, N6, fun p hp => ?_, some (.str y ty), TT5, lawM_eq rfl fun z hz => ?_, rfl, TL5⟩
    · rcases List.mem_cons.mp hp with rfl | hp
      · exact hne _ (.head _)
      · rcases List.mem_cons.mp hp with rfl | hp
        · exact hne _ (.tail _ (.head _))
        · rcases List.mem_cons.mp hp with rfl | hp
          · exact hne _ (.tail _ (.tail _ (.head _)))
          · exact ne_tab N6 TL5 (.head _) hoI (fun q hq => .tail _ (.tail _ (.tail _ (.tail _ hq)))) p hp
    · simp only [if_neg hz]
  case done =>
    rintro h tk gens' m nw ⟨vp, TT', rfl, rfl, TL'⟩ hb F N
    clear F3 N3
    subst hm1
    unfold lawM at F
    dsimp only
    k_steps
    exact hR _ _ gens' _ [_, _, _] TT' hb F N TL'
end

/-- the law's end: True, the old objects kept, what is suspended bare, the two tables grown -/
theorem my_post {M : Model} {A : Around} {cd : Code} {s s₁ : Shared} {cw : ClaimW} {cl : Str → Option Addr} {mean : ExcName → Option Value} {args : List WData} {tabs : List (Addr × Addr)} (hT : TabsAt tabs s₁.heap) (hn : ∀ x, cw.raises args x = false) (hp : cw.post args (.bool true) args = true)
    (h : codeAny M A cd (fun r s' => r = .ok (.ret (.bool true)) ∧ (∀ b o, (ghostOf s₁.heap tabs).get? b = some o → s'.heap.get? b = some o) ∧ s'.os = s₁.os ∧ AllBare s'.gens ∧ GrownAll tabs s'.heap) s) : codeAny M A cd (GoodWG cw cl mean args s₁) s :=
  codeAny_mono h fun r s' ⟨hr, hk, hos, hg, hgr⟩ => by
    have grown : ∀ b o, b ∈ tabs.map (·.2) → s₁.heap.get? b = some o → isCodeTable s₁.heap b ∧ o = tabObj #[] ∧ ∃ ps, s'.heap.get? b = some (tabObj ps) := fun b o hb e => by
      obtain ⟨q, hq, rfl⟩ := List.mem_map.mp hb
      have e2 := (hT q hq).2
      rw [e] at e2
      exact ⟨((hT q hq).1.tab (hT q hq).2).isCodeTable, Option.some.inj e2, hgr.get q hq⟩
    refine ⟨.inl ⟨.bool true, .bool true, [], hr, hn, .bool true, hp, fun _ => ⟨.nil, fun _ h => nomatch h⟩⟩, ⟨fun b o e => ?_, fun b o e => ?_⟩, hos, hg⟩
    · by_cases hb : b ∈ tabs.map (·.2)
      · obtain ⟨ht, rfl, ps, hP⟩ := grown b o hb e
        exact .inr (.inl ⟨ht, rfl, #[], ps, rfl, by rw [Array.empty_append]; exact hP⟩)
      · exact .inl (hk b o (ghost_ne e hb))
    · by_cases hb : b ∈ tabs.map (·.2)
      · obtain ⟨_, _, ps, hP⟩ := grown b o hb e
        exact ⟨_, hP⟩
      · exact ⟨o, hk b o (ghost_ne e hb)⟩
theorem tabL0 : TabL [(58, tabObj #[]), (51, tabObj #[])] where
  f := fun q hq => by
    rcases List.mem_cons.mp hq with rfl | hq
    · rfl
    · rw [List.mem_singleton.mp hq]; rfl
  t1 := ⟨#[], .tail _ (.head _), ⟨.inl rfl⟩⟩
  t2 := ⟨#[], .head _, ⟨.inl rfl⟩⟩
theorem TabL.grown {TT : List (Addr × Obj)} {g h : Heap} {L : Addr} {own : List (Addr × Obj)} (T : TabL TT) (N : News g L h (own ++ TT)) : GrownAll [(62, 58), (55, 51)] h := by
  obtain ⟨p1, h1, _⟩ := T.t1
  obtain ⟨p2, h2, _⟩ := T.t2
  exact ⟨⟨p2, (N _ (List.mem_append_right _ h2)).1⟩, ⟨p1, (N _ (List.mem_append_right _ h1)).1⟩, trivial⟩
theorem law_is : PySem.Challenge.rw_ph0129_01.row.post = WTm.eq .res (.lit (.bool true)) := by rfl
theorem law_post (args : List WData) : PySem.Challenge.rw_ph0129_01.row.toRowW.claim.post args (.bool true) args = true :=
  postW_of (r := PySem.Challenge.rw_ph0129_01.row.toRowW) (X := (true == true)) (by rfl) (Eq.trans (congrArg (fun t => WTm.value PySem.Challenge.rw_ph0129_01.row.toRowW.records t { args := args, res := some (WData.bool true), after := args }) law_is) (w_eq_bool (w_res rfl) w_lit)) rfl
section
variable {w : World} {mg mb : Str → Option Value} {LO : List Str} {mean : ExcName → Option Value} {dp un : Nat} {fr : Option (List Env)} {gd : Option (List Code)} {s : Shared} {g : Heap} {L fa : Addr} {cd : Value} {m0 : Str → Option Value} {TT : List (Addr × Obj)}
  {R : Flow → Shared → Prop}
theorem law_all {o1 o2 : Obj} {l : Addr} {vs : List Value} {ns : List Int} (I : Inv w mg mb LO mean g) (F : Fr g L s.heap m0) (hm : m0 (Str.ofString "script") = some (.ref l))
    (N : News g L s.heap ((L + 1 + 1, o2) :: (L + 1, o1) :: TT)) (TL : TabL TT) (hroom : dp < 600) (hun : un < 4900) (d1 : o1.data = .cell none) (d2 : o2.data = .cell none)
    (hl : g.IsList l vs.toArray) (hi : IntsAre vs ns) (hn : ns.length ≤ 63)
    (hR : ∀ h' tk' gens' m' own' TT', (AllBare s.gens → AllBare gens') → Fr g L h' m' → News g L h' (own' ++ TT') → TabL TT' → R (.ret (.bool true)) { s with heap := h', toks := tk', gens := gens' }) :
    wpAny (model PR w) ((mkA dp fr gd un).deeper (lawEnv L fa cd)) (execs lawBody (lawEnv L fa cd)) R (fun _ _ => False) s := by
  refine law_p1 I (fr_set F hm) N TL hroom d1 d2 hl hi hn ?_
  intro x t o1' o2' h' tk' m' hxl hok F' N' c1 c2
  exact law_p2 I F' N' TL hroom hun c1 c2 hl hi hn hxl hok fun h2 tk2 gens2 m2 own2 TT2 hb F2 N2 T2 => hR h2 tk2 gens2 m2 own2 TT2 hb F2 N2 T2
end

end Mine
theorem PySem.Challenge.cw_ph0129_01_holds : PySem.Challenge.rw_ph0129_01.Holds := by
  refine Mine.hd ?_
  k_fill
  intro w s₀ s₁ mg mb G Y fa o pm cd doc dV kV ho hd hcd hD hmg hg args vals as hpre hlay hrd hwl hlo
  have KX := km_in_of Y
  km_tabs Y
  have X := (Ground.X G).1
  have V := (Ground.X G).2
  refine Ground.open G ?_
  intro T B D TE TW
  try (refine guard_noD D (by decide +kernel) ?_; clear D)
  km_lay T hmg ho hd cd
  clear hmg
  wrow_args hpre hlay hrd hwl hlo
  all_goals (
    first | refine callC_kw (enter_call ?_) | refine enter_call ?_
    w_top on)
  refine Mine.my_post hT9 (fun _ => rfl) (Mine.law_post _) ?_
  w_call any ho hd hcd hD T F
  clear hd
  kn_ghosts F T
  k_drop
  rename News _ _ _ _ => N5
  rename Fr _ _ _ _ => F5
  rename Frag.In _ _ => X5
  rename Top _ _ _ _ _ _ => T5
  rename CodeHd _ (62, 58).1 _ => C62
  rename CodeHd _ (55, 51).1 _ => C55
  rename IntsAre _ _ => hi5
  rename ¬ _ < _ => hn5
  rename Heap.IsList (ghostOf _ _) _ _ => hl5
  have I5 : Mine.Inv w mg mb _ _ _ := ⟨X5, T5, C55, C62⟩
  refine wpAny_mono (Mine.law_all (dp := callerA.depth) (un := callerA.units) (fr := callerA.frames) (gd := callerA.guards) I5 F5 rfl N5 Mine.tabL0 (by decide) (by decide) (by assumption) (by assumption) hl5 hi5 (by lia) ?_) (fun _ _ x => x) (fun _ _ x => x.elim)
  intro h' tk' gens' m' own' TT' hb F' N' T'
  exact ⟨rfl, F'.keep, rfl, hb (AllBare.of_eq hg), T'.grown N'⟩
