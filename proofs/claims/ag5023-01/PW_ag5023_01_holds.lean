import PyProof.Rows.All
import Wide.All
import OpenK.AllK
import Wide.FinOn
import PyProof.ZipIter
import PyProof.WalkInts
import PyProof.CollectStr
import PySem.Challenge.RW_ag5023_01
set_option Elab.async false

section -- Hd
open PySem PySem.W PyProof.Rows
set_option Elab.async false
set_option maxRecDepth 100000
set_option maxHeartbeats 8000000
namespace Mine
open_top hd for PySem.Challenge.rw_ag5023_01
end Mine
end

section -- Inf
set_option Elab.async false
set_option maxRecDepth 100000
set_option maxHeartbeats 2000000
namespace Mine
open PySem PySem.W PySem.Spec PySem.Calls PyProof.Rows

/-- an order of addresses, as numbers -/
abbrev ltn (a b : Nat) : Prop := a < b

/-- what surrounds a call: the frames below -/
@[reducible] def ar (dp un : Nat) (gd : Option (List Code)) (outer : List Env) : Around := { handled := none, depth := dp, frames := some outer, guards := gd, units := un }

/-- the top of the text, as every frame sees it -/
abbrev TopM (mean : ExcName → Option Value) (mg mb : Str → Option Value) (g : Heap) : Prop := Top hd.view_39 (looseW hd.view_39 [Str.ofString "Base", Str.ofString "LCSSeq"]) mean mg mb g

/-- objects of a footprint: they stand in h, and not in the frame g -/
def Foot (g h : Heap) (nu : List (Addr × Obj)) : Prop := ∀ p ∈ nu, h.get? p.1 = some p.2 ∧ g.get? p.1 = none

/-- a contract of a call of the def at f: out of the footprint nu it makes v and a footprint nu'; all of the frame g stays -/
def CC (w : World) (mean : ExcName → Option Value) (mg mb : Str → Option Value) (f : Addr) (d u : Nat) (args : Args) (Pre : Heap → Prop) (nu : List (Addr × Obj)) (Post : Value → List (Addr × Obj) → Prop) : Prop :=
  ∀ (dp un : Nat) (gd : Option (List Code)) (outer : List Env) (base g : Heap) (s : Shared) (R : Result → Shared → Prop),
    dp + d < recursionLimit → un + u < cLine → Below (ar dp un gd outer) base outer g → (hd.heap_39 w.params).In g → Top hd.view_39 (looseW hd.view_39 [Str.ofString "Base", Str.ofString "LCSSeq"]) mean mg mb g →
    (∀ b o, g.get? b = some o → s.heap.get? b = some o) → g.objs.size ≤ s.heap.objs.size → Foot g s.heap nu → Pre g →
    (∀ v h' tk' nu', (∀ b o, g.get? b = some o → h'.get? b = some o) → Foot g h' nu' → Post v nu' → R (.ok (.ret v)) { s with heap := h', toks := tk' }) →
    codeAny (model PySem.Challenge.rw_ag5023_01.row.prog w) (ar dp un gd outer) (.call (.ref f) args) R s

section
variable {w : World} {mean : ExcName → Option Value} {mg mb : Str → Option Value} {dp un : Nat} {gd : Option (List Code)} {outer : List Env} {base g : Heap} {s : Shared} {R : Result → Shared → Prop} {K : Frag}
  {name qual : Str} {params : Arguments} {body : List Stmt} {scope : Scope} {dV kV doc pm cdv ct oc : Value} {an od : Option Addr} {osl : Array (Option Value)} {f : Addr} {args : Args} {binds : List (Str × Value)} {nu : List (Addr × Obj)} {prog : Program}

/-- the entry of a def without cells -/
theorem enter_plain (hroom : dp < recursionLimit) (X : K.In g) (T : TopM mean mg mb g) (sub : ∀ b o, g.get? b = some o → s.heap.get? b = some o) (hsz : g.objs.size ≤ s.heap.objs.size) (N : Foot g s.heap nu)
    (ho : K.lookup f = some ⟨oc, od, .func (fnOf name qual params body scope dV kV doc pm an cdv ct), osl⟩) (hcd : codeIn K cdv qual = true)
    (hbind : BindsTo s (fnOf name qual params body scope dV kV doc pm an cdv ct) args binds) (hloc : ∀ y ∈ binds, scope.names.lookup y.1 = some .local)
    (h : ∀ L' h₁, Fr g L' h₁ (fun y => binds.reverse.lookup y) → News g L' h₁ nu → (∀ p ∈ nu, p.1 < L') →
      wpAny (model prog w) ((ar dp un gd outer).deeper (envOf qual scope L' f cdv)) (execs body (envOf qual scope L' f cdv))
        (fun fl s' => R (.ok (.ret (match fl with | .ret v => v | _ => .none))) s') (fun _ _ => False) { s with heap := h₁, toks := s.toks + binds.length })
    (hcell : ∀ x ∈ scope.names, x.2 ≠ .cell) (hco : scope.isCoroutine = false) (hgen : scope.isGenerator = false) (hk : scope.kind = .function) :
    codeAny (model prog w) (ar dp un gd outer) (.call (.ref f) args) R s := by
  refine codeAny_call_def (fd := fnOf name qual params body scope dV kV doc pm an cdv ct) (body := body) (binds := binds) hroom (sub _ _ (X _ _ ho)) rfl (T.nolimit.keeps sub) (codeRec_of (fun a o e => sub a o (X a o e)) hcd) rfl hbind hcell hloc (fun h₁ hns hk₁ => ?_) hco hgen hk
  refine wpAny_noRaise (h s.heap.objs.size h₁ ⟨hns, fun b o e => hk₁ b o (sub b o e), hsz⟩ (fun p hp => ⟨hk₁ _ _ (N p hp).1, Nat.ne_of_lt (Heap.lt_size (N p hp).1), (N p hp).2⟩) fun p hp => Heap.lt_size (N p hp).1)

/-- the entry of a def with cells -/
theorem enter_cells (hroom : dp < recursionLimit) (X : K.In g) (T : TopM mean mg mb g) (sub : ∀ b o, g.get? b = some o → s.heap.get? b = some o) (hsz : g.objs.size ≤ s.heap.objs.size) (N : Foot g s.heap nu)
    (ho : K.lookup f = some ⟨oc, od, .func (fnOf name qual params body scope dV kV doc pm an cdv ct), osl⟩) (hcd : codeIn K cdv qual = true)
    (hbind : BindsTo s (fnOf name qual params body scope dV kV doc pm an cdv ct) args binds)
    (hkind : (binds.all fun y => scope.names.lookup y.1 == some .local || scope.names.lookup y.1 == some .cell) = true)
    (hnd : ((cellsFrom 0 scope.names []).map (·.1)).Nodup)
    (h : ∀ L' h₁ tk cells, Fr g L' h₁ (bindL (envOfC qual scope L' f cdv).kindOf binds fun _ => none) → News g L' h₁ (cells ++ nu) →
      CellsAre (bindC (envOfC qual scope L' f cdv).kindOf binds fun _ => none) (cellsFrom (L' + 1) scope.names []) cells → (∀ p ∈ nu, p.1 < L') →
      wpAny (model prog w) ((ar dp un gd outer).deeper (envOfC qual scope L' f cdv)) (execs body (envOfC qual scope L' f cdv))
        (fun fl s' => R (.ok (.ret (match fl with | .ret v => v | _ => .none))) s') (fun _ _ => False) { s with heap := h₁, toks := tk })
    (hco : scope.isCoroutine = false) (hgen : scope.isGenerator = false) (hk : scope.kind = .function) :
    codeAny (model prog w) (ar dp un gd outer) (.call (.ref f) args) R s := by
  refine codeAny_call_function hroom (sub _ _ (X _ _ ho)) rfl hco hgen rfl (codeRec_of (fun a o e => sub a o (X a o e)) hcd) (hbind _ _ _ _ ?_)
  refine wpAny_newFunctionEnv_cells hk (kindsX hkind _) fun env' he s' x => ?_
  subst he
  refine ⟨(T.nolimit.keeps sub).keeps x.toInCall.keep, codeAny_func ?_⟩
  obtain ⟨h₁, tk, rfl, _⟩ := x.done
  have hk₁ := x.toInCall.keep
  obtain ⟨cells, NC, Y⟩ := Cl.news (h₀ := s.heap) (Nat.le_refl _) fun n c hm => ⟨x.cell n c (lookup_of_mem_nodup (cellsFrom_names scope.names 0 (s.heap.objs.size + 1) [] [] rfl ▸ hnd) hm), x.above n c hm⟩
  refine wpAny_noRaise (h s.heap.objs.size h₁ tk cells ⟨x.toInCall.ns, fun b o e => hk₁ b o (sub b o e), hsz⟩ (fun p hp => ?_) Y fun p hp => Heap.lt_size (N p hp).1)
  rcases List.mem_append.mp hp with hp | hp
  · refine ⟨(NC p hp).1, (NC p hp).2.1, ?_⟩
    cases q : g.get? p.1 with
    | none => rfl
    | some o => have := sub _ _ q; rw [(NC p hp).2.2] at this; cases this
  · exact ⟨hk₁ _ _ (N p hp).1, Nat.ne_of_lt (Heap.lt_size (N p hp).1), (N p hp).2⟩
end

section
variable {w : World} {mean : ExcName → Option Value} {mg mb : Str → Option Value} {dp un d u : Nat} {gd : Option (List Code)} {env : Env} {outer : List Env} {A₀ : Around} {base h₀ : Heap} {L : Addr} {m : Str → Option Value} {s : Shared} {f : Addr} {args : Args} {Pre : Heap → Prop}
  {nu rest : List (Addr × Obj)} {Post : Value → List (Addr × Obj) → Prop} {R : Result → Shared → Prop}

/-- a contract, used from a frame -/
theorem cc_use (C : CC w mean mg mb f d u args Pre nu Post) (B : Below A₀ base outer h₀) (F : Fr h₀ L s.heap m) (X : (hd.heap_39 w.params).In h₀) (T : TopM mean mg mb h₀) (N : News h₀ L s.heap (nu ++ rest))
    (hd : ∀ p ∈ rest, p.1 ∉ nu.map (·.1)) (hf : env.frame = some L) (hke : env.scope.kind = .function) (hroom : dp + d < recursionLimit) (hu : un + u < cLine)
    (pre : ∀ g : Heap, (∀ b o, s.heap.get? b = some o → b ∉ nu.map (·.1) → g.get? b = some o) → Pre g)
    (h : ∀ v h' tk' nu', Fr h₀ L h' m → News h₀ L h' (nu' ++ rest) → (∀ p ∈ nu', ∀ q ∈ rest, p.1 ≠ q.1) → Post v nu' → R (.ok (.ret v)) { s with heap := h', toks := tk' }) :
    codeAny (model PySem.Challenge.rw_ag5023_01.row.prog w) (ar dp un gd (env :: outer)) (.call (.ref f) args) R s := by
  have Nn : News h₀ L s.heap nu := fun p hp => N p (List.mem_append_left _ hp)
  obtain ⟨FG, BG, st, -⟩ := groundX (R := R) (A := ar dp un gd (env :: outer)) B F Nn rfl hf hke
  have sub : ∀ b o, (hideAll s.heap (nu.map (·.1))).get? b = some o → s.heap.get? b = some o := fun b o e => of_hideAll _ e
  obtain ⟨oL, es, ep, hL, hLd, hLk, hLf⟩ := FG.ns
  refine C dp un gd (env :: outer) base _ s R hroom hu BG (fun a o e => st a o (X a o e)) (T.keeps st) sub (Nat.le_of_eq (hideAll_size _ _)) (fun p hp => ⟨(Nn p hp).1, hideAll_none _ (List.mem_map_of_mem hp)⟩)
    (pre _ fun b o e hb => hideAll_get _ e hb) fun v h' tk' nu' keep foot post => ?_
  refine h v h' tk' nu' ⟨⟨oL, es, ep, keep _ _ hL, hLd, hLk, hLf⟩, fun b o e => keep b o (st b o e), F.above⟩ (fun p hp => ?_) (fun p hp q hq e => ?_) post
  · rcases List.mem_append.mp hp with hp | hp
    · refine ⟨(foot p hp).1, fun q => ?_, ?_⟩
      · have := (foot p hp).2; rw [q, hL] at this; cases this
      · cases q : h₀.get? p.1 with
        | none => rfl
        | some o => have := (foot p hp).2; rw [st _ _ q] at this; cases this
    · have P := N p (List.mem_append_right _ hp)
      exact ⟨keep _ _ (hideAll_get _ P.1 (hd p hp)), P.2⟩
  · have P := N q (List.mem_append_right _ hq)
    have := hideAll_get _ P.1 (hd q hq)
    rw [← e, (foot p hp).2] at this; cases this
end
end Mine
end

section -- Lp
set_option Elab.async false
set_option maxRecDepth 100000
set_option maxHeartbeats 2000000
namespace Mine
open PySem PySem.W PySem.Spec PySem.Calls PyProof.Rows

abbrev NoE : Value → Shared → Prop := fun _ _ => False

/-- a for behind its source -/
def LoopG (prog : Program) (w : World) (A : Around) (env : Env) (target : Expr) (body : List Stmt) (Q : Flow → Shared → Prop) (xv : Value) (s₁ : Shared) : Prop :=
  wpAny (model prog w) A (pyIter xv) (fun it s₂ => codeAny (model prog w) A (.forLoop target it body [] env) (fun r s' => match r with | .ok f => Q f s' | .error _ => False) s₂) NoE s₁

/-- a turn's end -/
def TurnG (h₀ : Heap) (L : Addr) (s : Shared) (Jn : (Str → Option Value) → List (Addr × Obj) → Prop) (it : Addr × Obj) (Q : Flow → Shared → Prop) (f : Flow) (s₃ : Shared) : Prop :=
  match f with
  | .ret v => Q (.ret v) s₃
  | .brk => Q .next s₃
  | _ => ∃ h' tk m' nx', s₃ = { s with heap := h', toks := tk } ∧ Fr h₀ L h' m' ∧ News h₀ L h' (it :: nx') ∧ (∀ p ∈ nx', p.1 ≠ it.1) ∧ Jn m' nx'

section
variable {prog : Program} {w : World} {A : Around} {s : Shared} {env : Env} {h₀ : Heap} {L : Addr} {target : Expr} {body : List Stmt} {Q : Flow → Shared → Prop} {m : Str → Option Value} {nx : List (Addr × Obj)}

theorem for_G {iter : Expr} {pos : Pos} (h : wpAny (model prog w) A (eval iter env) (fun xv s₁ => LoopG prog w A env target body Q xv s₁) NoE s) (hs : ∀ x, foldedSetIterable iter env x = pure x := by intro _; rfl) :
    wpAny (model prog w) A (exec (.For target iter body [] pos) env) Q NoE s :=
  wpAny_For (wpAny_mono h (fun xv s₁ h₁ => wpAny_mono h₁ (fun it s₂ h₂ => codeAny_mono h₂ fun r s' hr => by
    cases r with
    | ok f => exact hr
    | error e => exact hr.elim) fun _ _ x => x) fun _ _ x => x) hs

theorem keep_iter {h h' : Heap} {I : Addr} (F : Fr h₀ L h m) (N : News h₀ L h nx) (hn : ∀ p ∈ nx, p.1 ≠ I) (hL : I ≠ L) (h0 : h₀.get? I = none) (hk : ∀ b o, b ≠ I → h.get? b = some o → h'.get? b = some o) :
    Fr h₀ L h' m ∧ News h₀ L h' nx := by
  obtain ⟨oL, es, ep, hLo, r⟩ := F.ns
  exact ⟨⟨⟨oL, es, ep, hk _ _ (Ne.symm hL) hLo, r⟩, fun b o e => hk b o (fun q => by rw [q, h0] at e; cases e) (F.keep b o e), F.above⟩, fun p hp => ⟨hk _ _ (hn p hp) (N p hp).1, (N p hp).2⟩⟩

theorem loopG_list {l : Addr} {vs : List Value} (J : Nat → (Str → Option Value) → List (Addr × Obj) → Prop) (hh : A.handled = none) (ht : ∀ it v, letOwnedTupleGo target it v = pure ())
    (F : Fr h₀ L s.heap m) (N : News h₀ L s.heap nx) (hJ : J 0 m nx)
    (hl : ∀ i m nx h, J i m nx → Fr h₀ L h m → News h₀ L h nx → h.IsList l vs.toArray)
    (turn : ∀ i v m₁ nx₁ h tk I o, vs[i]? = some v → J i m₁ nx₁ → (∀ p ∈ nx₁, p.1 ≠ I) → (∀ p ∈ nx, p.1 < I) → Fr h₀ L h m₁ → News h₀ L h ((I, o) :: nx₁) →
      wpAny (model prog w) A (assign target env v) (fun _ s₂ => wpAny (model prog w) A (execs body env) (TurnG h₀ L s (J (i + 1)) (I, o) Q) NoE s₂) NoE { s with heap := h, toks := tk })
    (done : ∀ m₁ nx₁ h tk, J vs.length m₁ nx₁ → Fr h₀ L h m₁ → News h₀ L h nx₁ → Q .next { s with heap := h, toks := tk }) :
    LoopG prog w A env target body Q (.ref l) s := by
  have hls := hl 0 m nx _ hJ F N
  have hgt : ∀ p ∈ nx, p.1 < s.heap.objs.size := fun p hp => Heap.lt_size (N p hp).1
  refine wpAny_pyIter_list hls ?_
  refine codeAny_forLoop (fun k s' => ∃ i h tk m' nx', s' = { s with heap := h, toks := tk } ∧ k = vs.length + 1 - i ∧ i ≤ vs.length ∧ h.IsListIter s.heap.objs.size l i ∧ Fr h₀ L h m' ∧ News h₀ L h nx' ∧ (∀ p ∈ nx', p.1 ≠ s.heap.objs.size) ∧ J i m' nx')
    ?_ (vs.length + 1) ⟨0, _, s.toks, m, nx, rfl, rfl, Nat.zero_le _, ⟨_, Heap.get?_push_size _ rfl, rfl, rfl⟩, F.push _, fun p hp => ⟨Heap.get?_push_of_some _ (N p hp).1, (N p hp).2⟩, fun p hp => Nat.ne_of_lt (hgt p hp), hJ⟩ (ht _)
  have hL : s.heap.objs.size ≠ L := Nat.ne_of_gt F.ns.lt
  have h0 : h₀.get? s.heap.objs.size = none := by
    cases q : h₀.get? s.heap.objs.size with
    | none => rfl
    | some o => exact absurd (Heap.lt_size (F.keep _ _ q)) (Nat.lt_irrefl _)
  rintro k s' ⟨i, h, tk, m', nx', rfl, rfl, hi, hit, F', N', hn, hJ'⟩
  have hls' := hl i m' nx' h hJ' F' N'
  by_cases hlt : i < vs.length
  · have hx : vs.toArray[i]? = some vs[i] := by simp [hlt]
    refine wpAny_pyNext_list_item hit hls' hx fun h₁ hit₁ hs₁ => ?_
    obtain ⟨F₁, N₁⟩ := keep_iter F' N' hn hL h0 (fun b o hb e => (hs₁.2 b hb).trans e)
    obtain ⟨o, ho, hc, hd⟩ := hit₁
    refine wpAny_noRaise (wpAny_mono (turn i vs[i] m' nx' h₁ tk s.heap.objs.size o (by simp [hlt]) hJ' hn hgt F₁ (fun p hp => by
      rcases List.mem_cons.mp hp with rfl | hp
      · exact ⟨ho, hL, h0⟩
      · exact N₁ p hp)) (fun _ s₂ h₂ => wpAny_noRaise (wpAny_mono h₂ (fun f s₃ h₃ => ?_) fun _ _ x => x)) fun _ _ x => x)
    cases f with
    | ret v => exact h₃
    | brk => exact h₃
    | next =>
      obtain ⟨h', tk', m₂, nx₂, rfl, F₂, N₂, hn₂, hJ₂⟩ := h₃
      exact ⟨vs.length + 1 - (i + 1), by omega, i + 1, h', tk', m₂, nx₂, rfl, rfl, hlt, ⟨o, (N₂ _ (.head _)).1, hc, hd⟩, F₂, fun p hp => N₂ p (.tail _ hp), hn₂, hJ₂⟩
    | cont =>
      obtain ⟨h', tk', m₂, nx₂, rfl, F₂, N₂, hn₂, hJ₂⟩ := h₃
      exact ⟨vs.length + 1 - (i + 1), by omega, i + 1, h', tk', m₂, nx₂, rfl, rfl, hlt, ⟨o, (N₂ _ (.head _)).1, hc, hd⟩, F₂, fun p hp => N₂ p (.tail _ hp), hn₂, hJ₂⟩
  · have he : i = vs.length := by omega
    subst he
    refine wpAny_pyNext_list_end hh hit hls' (by simp) fun h₁ hx₁ => wpAny_execs_nil ?_
    obtain ⟨F₁, N₁⟩ := keep_iter F' N' hn hL h0 (fun b o hb e => hx₁ b o hb e)
    exact done m' nx' h₁ tk hJ' F₁ N₁
end
end Mine
end

section -- Cp
set_option Elab.async false
set_option maxRecDepth 100000
set_option maxHeartbeats 2000000
namespace Mine
open PySem PySem.W PySem.Spec PySem.Calls PyProof.Rows

section
variable {prog : Program} {w : World} {A : Around} {s : Shared} {env : Env} {h₀ : Heap} {L : Addr} {m : Str → Option Value} {news : List (Addr × Obj)} {ct elt : Expr} {x : Str} {px : Pos} {scope : Scope} {cl : List (Str × Addr)}
  {S : List (Addr × Obj) → Prop} {Fin : List Value → List (Addr × Obj) → Prop} {P : Nat → Value → Prop} {n : Nat}

/-- a list comprehension that keeps what a test lets through -/
theorem restT_filter (its : List Value) (p : Value → Bool)
    (htest : ∀ v I oI C oC D oD m₂ h tk (E' : Value → Shared → Prop), v ∈ its → LCg.NsObj oC m₂ → m₂ x = some v → Fr h₀ L h m → News h₀ L h ((I, oI) :: (C, oC) :: (D, oD) :: news) →
      wpAny (model prog w) A (isTrue ct (compEnvC scope cl C env) (eval ct (compEnvC scope cl C env))) (fun ok s' => ok = p v ∧ ∃ tk', s' = { s with heap := h, toks := tk' }) E' { s with heap := h, toks := tk })
    (hS : S news) (fin : Fin (its.filter p) news)
    (hk : scope.kind = .function) (hl : ∀ C, (compEnvC scope cl C env).kindOf x = some .local) (hd : (x == ("__debug__" : Str)) = false) :
    LCt.CompRestT prog w A h₀ L m env ct (.Name x px) x scope cl s S (fun i v => its.toArray[i]? = some v) Fin its.length 0 [] news := by
  have go : ∀ k i, k + i = its.length → LCt.CompRestT prog w A h₀ L m env ct (.Name x px) x scope cl s S (fun i v => its.toArray[i]? = some v) Fin k i ((its.take i).filter p) news := by
    intro k
    induction k with
    | zero =>
      intro i hi
      have : i = its.length := by omega
      subst this
      refine LCt.CompRestT.zero ?_
      rw [List.take_length]; exact fin
    | succ k ih =>
      intro i hi
      refine LCt.CompRestT.succ fun v I oI C oC D m₂ h tk E' hv hC hx F N off ne => ?_
      have hlt : i < its.length := by omega
      have hv' : its[i]? = some v := by simpa using hv
      have hvi : its[i] = v := by rw [List.getElem?_eq_getElem hlt] at hv'; exact Option.some.inj hv'
      have htk : its.take (i + 1) = its.take i ++ [v] := by rw [List.take_add_one, hv']; rfl
      have nx := ih (i + 1) (by omega)
      rw [htk, List.filter_append] at nx
      refine wpAny_mono (htest v I oI C oC D _ m₂ h tk E' (List.mem_of_getElem? hv') hC hx F N) (fun ok s' hs' => ?_) fun _ _ e => e
      obtain ⟨rfl, tk', rfl⟩ := hs'
      have hoff : LCg.Off3 I C D news := off
      cases hp : p v with
      | true =>
        simp only [if_true]
        refine LCgL.ld_own (N := N) (hm := by simp) hC hx ?_ hk (hl C) hd
        have e : [v].filter p = [v] := by simp [hp]
        rw [e] at nx
        exact ⟨h, tk', news, rfl, F, N, hoff, hS, nx⟩
      | false =>
        simp only [Bool.false_eq_true, if_false]
        have e : [v].filter p = [] := by simp [hp]
        rw [e, List.append_nil] at nx
        exact ⟨h, tk', news, rfl, F, N, hoff, hS, nx⟩
  exact go its.length 0 rfl

/-- a list comprehension that maps: each element's value stands in a relation to its item -/
theorem restU_map (n : Nat) (P : Nat → Value → Prop) (Rel : Nat → Value → Prop)
    (helt : ∀ i v I oI C oC D oD m₂ h tk (E' : Value → Shared → Prop), i < n → P i v → LCg.NsObj oC m₂ → m₂ x = some v → Fr h₀ L h m → News h₀ L h ((I, oI) :: (C, oC) :: (D, oD) :: news) → LCg.Off3 I C D news → ((@Ne Nat I C) ∧ (@Ne Nat I D) ∧ (@Ne Nat C D)) →
      wpAny (model prog w) A (eval elt (compEnvC scope cl C env)) (fun y s' => Rel i y ∧ ∃ h' tk', s' = { s with heap := h', toks := tk' } ∧ Fr h₀ L h' m ∧ News h₀ L h' ((I, oI) :: (C, oC) :: (D, oD) :: news)) E' { s with heap := h, toks := tk })
    (hS : S news) (fin : ∀ ys : List Value, ys.length = n → (∀ j y, ys[j]? = some y → Rel j y) → Fin ys news) :
    LCg.CompRest prog w A h₀ L m env elt x scope cl s S P Fin n 0 [] news := by
  have go : ∀ k i (ys : List Value), k + i = n → ys.length = i → (∀ j y, ys[j]? = some y → Rel j y) → LCg.CompRest prog w A h₀ L m env elt x scope cl s S P Fin k i ys news := by
    intro k
    induction k with
    | zero =>
      intro i ys hi hl hr
      exact LCg.CompRest.zero (fin ys (by omega) hr)
    | succ k ih =>
      intro i ys hi hl hr
      refine LCg.CompRest.succ fun v I oI C oC D m₂ h tk E' hv hC hx F N off ne => ?_
      refine wpAny_mono (helt i v I oI C oC D _ m₂ h tk E' (by omega) hv hC hx F N off ne) (fun y s' hs' => ?_) fun _ _ e => e
      obtain ⟨hy, h', tk', rfl, F', N'⟩ := hs'
      refine ⟨h', tk', news, rfl, F', N', off, hS, ih (i + 1) (ys ++ [y]) (by omega) (by simp [hl]) fun j z hz => ?_⟩
      by_cases hj : j < ys.length
      · rw [List.getElem?_append_left hj] at hz; exact hr j z hz
      · have hj' : j = i := by
          have := (List.getElem?_eq_some_iff.mp hz).1
          simp at this; omega
        subst hj'
        rw [List.getElem?_append_right (by omega)] at hz
        simp [hl] at hz
        exact hz ▸ hy
  exact go n 0 [] rfl rfl (by simp)
end
end Mine
end

section -- Fn
set_option Elab.async false
namespace Mine
open PySem PySem.W PySem.Spec PySem.Calls PyProof.Rows

theorem foot_of {g h : Heap} {L : Addr} {nu : List (Addr × Obj)} (N : News g L h nu) : Foot g h nu := fun p hp => ⟨(N p hp).1, (N p hp).2.2⟩

/-- one number put on the piles -/
def pileStep (ts : List Int) (x : Int) : List Int :=
  ts.take (ts.filter (fun a => decide (a < x))).length ++ [x] ++ ts.drop ((ts.filter (fun a => decide (a < x))).length + 1)
/-- the tops of the piles of patience -/
def piles (ns : List Int) : List Int := ns.foldl pileStep []

theorem pileStep_length (ts : List Int) (x : Int) : (pileStep ts x).length ≤ ts.length + 1 := by
  unfold pileStep
  simp only [List.length_append, List.length_take, List.length_drop, List.length_cons, List.length_nil]
  omega
theorem piles_snoc (ns : List Int) (x : Int) : piles (ns ++ [x]) = pileStep (piles ns) x := by
  unfold piles; rw [List.foldl_append]; rfl
theorem piles_length (ns : List Int) : (piles ns).length ≤ ns.length := by
  unfold piles
  have go : ∀ (ns ts : List Int), (ns.foldl pileStep ts).length ≤ ts.length + ns.length := by
    intro ns
    induction ns with
    | nil => intro ts; simp
    | cons x r ih => intro ts; rw [List.foldl_cons, List.length_cons]; have := ih (pileStep ts x); have := pileStep_length ts x; omega
  simpa using go ns []

theorem ints_filter {vs : List Value} {ns : List Int} (h : IntsAre vs ns) (x : Int) : IntsAre (vs.filter (fun v => match v with | .int a _ => decide (a < x) | _ => false)) (ns.filter (fun a => decide (a < x))) := by
  induction h with
  | nil => exact .nil
  | cons n t h ih =>
    by_cases hd : n < x
    · rw [List.filter_cons_of_pos (by simp [hd]), List.filter_cons_of_pos (by simp [hd])]; exact .cons n t ih
    · rw [List.filter_cons_of_neg (by simp [hd]), List.filter_cons_of_neg (by simp [hd])]; exact ih
/-- 0, 1, .. n - 1 -/
def ids (n : Nat) : List Int := (List.range n).map Int.ofNat
theorem ids_length (n : Nat) : (ids n).length = n := by simp [ids]
/-- the letters of a row -/
def word (ns : List Int) : Str := ⟨(ns.map fun n => (97 + n).toNat).toArray⟩

theorem word_length (ns : List Int) : (word ns).length = ns.length := by unfold word Str.length; simp
theorem join_words (ns : List Int) : Txt.join (Str.ofString "") (ns.map fun n => (⟨#[(97 + n).toNat]⟩ : Str)) = word ns := by
  unfold Txt.join
  rw [StrLaws.glued_eq_join, show Str.ofString "" = (⟨#[]⟩ : Str) from by decide +kernel]
  induction ns with
  | nil => rfl
  | cons n r ih =>
    cases r with
    | nil => rfl
    | cons k r =>
      show (⟨#[(97 + n).toNat]⟩ : Str) ++ ⟨#[]⟩ ++ Str.join ⟨#[]⟩ ((k :: r).map fun n => (⟨#[(97 + n).toNat]⟩ : Str)) = _
      rw [ih]
      show (⟨(#[(97 + n).toNat] ++ #[]) ++ ((k :: r).map fun n => (97 + n).toNat).toArray⟩ : Str) = ⟨((97 + n).toNat :: ((k :: r).map fun n => (97 + n).toNat)).toArray⟩
      simp
theorem sum_ones (ns : List Int) : (ns.map fun _ => 1).sum = ns.length := by
  induction ns with
  | nil => rfl
  | cons n r ih => rw [List.map_cons, List.sum_cons, ih, List.length_cons]; omega
theorem strs_of_rel {ys : List Value} {ns : List Int} {f : Int → Str} (hl : ys.length = ns.length) (h : ∀ (j : Nat) (y : Value), ys[j]? = some y → ∃ n t, ns[j]? = some n ∧ y = Value.str (f n) t) : StrsAre ys (ns.map f) := by
  induction ys generalizing ns with
  | nil => cases ns with
    | nil => exact .nil
    | cons n r => simp at hl
  | cons y ys ih => cases ns with
    | nil => simp at hl
    | cons n r =>
      obtain ⟨n', t, hn, rfl⟩ := h 0 y rfl
      have e : n = n' := by simpa using hn
      subst e
      exact .cons _ _ (ih (by simpa using hl) fun j z hz => by simpa using h (j + 1) z (by simpa using hz))

end Mine
end

section -- C1
set_option Elab.async false
set_option maxRecDepth 100000
set_option maxHeartbeats 4000000
namespace Mine
open PySem PySem.W PySem.Spec PySem.Calls PyProof.Rows

local macro_rules | `(tactic| walk_at "eval ListComp") => `(tactic| (k_here; lct_look; lcg_calm; k_dflt (refine LCt.ListComp_T (F₀ := by k_asm) (by with_unfolding_all rfl) (by decide) (by rfl) (by decide) (by rfl) ?_)))

local macro_rules | `(tactic| walk_at "call builtin:len") => `(tactic| (k_here; k_dflt (refine' kst_len ?k1 ?k2 ?k3 ?k4 ?_; (case k1 => k_asm); (case k2 => k_memK); (case k3 => exact IntsAre.length (by assumption)); (case k4 => omega); k_whole)))

local macro_rules | `(tactic| walk_at "subscriptTail Name Slice ref ref") => `(tactic| (k_here; (with_reducible show wpAny _ _ (subscriptTail _ (PySem.Expr.Slice _ _ none _) (Value.ref _) (Value.ref _)) _ _ _); k_dflt (refine' kmk_slice_ints ?F ?N ?l ?p ?q ?i ?m ?c ?_ ?s ?t ?z; (case F => k_asm); (case N => k_asm); (case l => exact News.isList (by k_asm) (by k_memK)); (case p => kmk_part); (case q => kmk_part); (case i => assumption); (case m => first | exact kmk_upto (by assumption) (by omega) | exact kmk_from (by assumption) (by omega)); (case c => kmk_len); (case s => with_unfolding_all rfl); (case t => kmk_pure); (case z => (rw [List.size_toArray, IntsAre.length (by assumption), sizeLine_eq]; omega))); intro D' ws' h' F' N' l1 hI' hC' hL'; k_lt l1; (try k_sweep)))

theorem piles_cc {w : World} {mean : ExcName → Option Value} {mg mb : Str → Option Value} (l : Addr) (ns : List Int) (hlen : ns.length ≤ 20) :
    CC w mean mg mb 246 5 50 ⟨[.ref l], []⟩ (fun g => ∃ vs : List Value, g.IsList l vs.toArray ∧ IntsAre vs ns) [] (fun v nu' => nu' = [] ∧ ∃ t, v = .int ((piles ns).length : Int) t) := by
  w_top off
  have hlaw : PySem.Challenge.rw_ag5023_01 = PySem.Challenge.rw_ag5023_01 := rfl
  unfold CC
  k_fill
  intro dp un gd outer base g s R hd hu B X T sub hsz N pre ret
  obtain ⟨vs, hl, hi⟩ := pre
  k_dflt (refine' enter_cells ?k1 ?k2 ?k3 ?k4 ?k5 ?k6 ?k7 ?k8 ?k9 ?k10 ?k11 ?k12 ?k13 ?k14 ?k15; (case k1 => omega); (case k2 => exact X); (case k3 => exact T); (case k4 => exact sub); (case k5 => exact hsz); (case k6 => exact N); (case k7 => k_is); (case k8 => k_is); (case k9 => exact BindsTo.of_eq rfl); (case k10 => exact rfl); (case k11 => decide); (case k13 => rfl); (case k14 => rfl); (case k15 => rfl))
  intro L' h' tk' cells' F' N' Y' l1
  k_cells Y'
  try simp only [List.cons_append, List.nil_append] at N'
  try dsimp only
  try k_fold
  k_steps
  refine for_G ?_
  k_steps
  rename Fr _ _ _ _ => F₁
  rename News _ _ _ _ => N₁
  clear N
  refine loopG_list (vs := vs) (fun i m nx => ∃ (u : Str → Option Value) (lt : Addr) (vt : List Value) (n : Nat) (o : Obj) (cv : Option Value), m = (fun y => if y = Str.ofString "tops" then some (.ref lt) else u y) ∧ nx = [(lt, listOf vt.toArray n), (L' + 1, o)] ∧ o.data = .cell cv ∧ IntsAre vt (piles (ns.take i)) ∧ ltn (L' + 1) lt) rfl (by intro _ _; rfl) F₁ N₁ ?_ ?_ ?_ ?_
  · exact ⟨_, _, [], _, _, _, rfl, rfl, by assumption, .nil, by assumption⟩
  · intro i m nx h _ F _
    exact Heap.IsList.at hl fun o e => F.keep l o e
  · rintro i v m₁ nx₁ h tk I o hv ⟨u, lt, vt, n, oc, cv, rfl, rfl, hoc, hit, hlt⟩ hnI hI F₂ N₂
    obtain ⟨x, t, rfl, hx⟩ := hi.at i v hv
    have hi20 : i < 20 := by have := (List.getElem?_eq_some_iff.mp hx).1; omega
    have hsn : piles (ns.take (i + 1)) = pileStep (piles (ns.take i)) x := by rw [List.take_add_one, hx]; exact piles_snoc _ _
    have hle := piles_length (ns.take i)
    rw [List.length_take] at hle
    generalize piles (ns.take i) = ts at *
    clear F₁ N₁
    have hts20 : ts.length ≤ 20 := by omega
    replace hI := allLt_of hI
    simp only [AllLt, and_true] at hI
    have hnI1 : @Ne Nat lt I := hnI _ (.head _)
    have hnI2 : @Ne Nat (L' + 1) I := hnI _ (.tail _ (.head _))
    refine wpAny_assign_Name ?_
    k_steps
    rename Fr _ _ _ _ => F3
    rename News _ _ _ _ => N3
    rename Obj.data _ = Data.cell (some _) => d3
    refine LCt.CompSrcT.ledger rfl F3 N3 (.tail _ (.head _)) (by rw [List.size_toArray, PySem.sizeLine_eq, hit.length]; omega) ?_
    intro g9
    refine restT_filter vt (fun v => match v with | .int a _ => decide (a < x) | _ => false) ?_ (.inr ⟨_, .tail _ (.head _), rfl, _, rfl⟩) ?_ rfl (fun _ => rfl) (by decide)
    · intro v I9 oI9 C9 oC9 D9 oD9 m9 h9 tk9 E9 hv9 hC9 hx9 F9 N9
      obtain ⟨b9, t9, rfl⟩ := hit.all v hv9
      k_steps
    · intro D9 h9 tk9 F9 N9 o9
      clear F3 N3
      have hfi := ints_filter hit x
      have hlf := List.length_filter_le (fun a => decide (a < x)) ts
      simp only [LCg.Off1, and_true] at o9
      generalize vt.filter (fun v => match v with | .int a _ => decide (a < x) | _ => false) = vf at *
      k_steps
      rename Fr _ _ _ _ => F8
      rename News _ _ _ _ => N8
      rename IntsAre _ _ => i8
      refine ⟨_, _, _, [(_, _), (_, _)], rfl, F8, kst_newsOf (l' := [_, (_, listOf (List.toArray _) 0), (_, _)]) N8 (List.forall_mem_cons.mpr ⟨?_, List.forall_mem_cons.mpr ⟨List.Mem.head _, List.forall_mem_cons.mpr ⟨?_, List.forall_mem_nil _⟩⟩⟩), ?_, _, _, _, _, _, _, rfl, rfl, d3, ?_, ?_⟩
      · k_memK
      · k_memK
      · k_all
      · rw [hsn]
        unfold pileStep
        simpa using i8
      · show _ < _
        omega
  · rintro m₁ nx₁ h tk ⟨u, lt, vt, n, oc, cv, rfl, rfl, hoc, hit, hlt⟩ F₂ N₂
    rw [hi.length, List.take_length] at hit
    have hle := piles_length ns
    clear F₁ N₁
    dsimp only
    k_steps
    exact ret _ _ _ [] F₂.keep (fun _ h => nomatch h) ⟨rfl, _, rfl⟩
end Mine
end

section -- C2
set_option Elab.async false
set_option maxRecDepth 100000
set_option maxHeartbeats 4000000
namespace Mine
open PySem PySem.W PySem.Spec PySem.Calls PyProof.Rows

local macro_rules | `(tactic| walk_at "eval ListComp") => `(tactic| (k_here; k_dflt (refine LCg.ListComp_U (F₀ := by k_asm) (by with_unfolding_all rfl) (by decide) (by rfl) (by decide) (by rfl) ?_)))
theorem letters_cc {w : World} {mean : ExcName → Option Value} {mg mb : Str → Option Value} (l : Addr) (ns : List Int) (hlen : ns.length ≤ 20) (hb : ∀ n ∈ ns, 0 ≤ n ∧ n ≤ 20) :
    CC w mean mg mb 256 5 50 ⟨[.ref l], []⟩ (fun g => ∃ vs : List Value, g.IsList l vs.toArray ∧ IntsAre vs ns) [] (fun v nu' => nu' = [] ∧ ∃ t, v = .str (word ns) t) := by
  w_top off
  have hlaw : PySem.Challenge.rw_ag5023_01 = PySem.Challenge.rw_ag5023_01 := rfl
  unfold CC
  k_fill
  intro dp un gd outer base g s R hd hu B X T sub hsz N pre ret
  obtain ⟨vs, hl, hi⟩ := pre
  k_dflt (refine' enter_plain ?k1 ?k2 ?k3 ?k4 ?k5 ?k6 ?k7 ?k8 ?k9 ?k10 ?k11 ?k12 ?k13 ?k14 ?k15; (case k1 => omega); (case k2 => exact X); (case k3 => exact T); (case k4 => exact sub); (case k5 => exact hsz); (case k6 => exact N); (case k7 => k_is); (case k8 => k_is); (case k9 => exact BindsTo.of_eq rfl); (case k10 => exact locs rfl); (case k12 => decide); (case k13 => rfl); (case k14 => rfl); (case k15 => rfl))
  intro L' h' F' N' l1
  clear N
  try dsimp only
  try k_fold
  k_steps
  rename Fr _ _ _ _ => F₁
  rename News _ _ _ _ => N₁
  refine LCg.CompSrc.base rfl F₁ N₁ hl (by rw [List.size_toArray, PySem.sizeLine_eq, hi.length]; omega) ?_
  intro g9
  refine restU_map vs.toArray.size _ (fun i y => ∃ n t, ns[i]? = some n ∧ y = .str ⟨#[(97 + n).toNat]⟩ t) ?_ (.inl hl) ?_
  · intro i v I oI C oC D oD m₂ h tk E' hin hv hC hx F N off ne
    obtain ⟨n, t, rfl, hn⟩ := hi.at i v (by simpa using hv)
    have hb' := hb n (List.mem_of_getElem? hn)
    k_steps
    · exact F
    · exact N
  · intro ys hys hrel D9 h9 tk9 F9 N9 o9
    clear F₁ N₁
    k_steps
    have hst := strs_of_rel (f := fun n => ⟨#[(97 + n).toNat]⟩) (by simpa [hi.length] using hys) hrel
    refine join_listW (News.isList N9 (.head _)) hst (by decide +kernel) ?_ fun t' k => ?_
    · have e : ((ns.map fun n => (⟨#[(97 + n).toNat]⟩ : Str)).map (·.length)) = ns.map fun _ => 1 := by rw [List.map_map]; rfl
      rw [e, List.length_map, sum_ones]
      omega
    rw [join_words]
    k_steps
    exact ret _ _ _ [] F9.keep (fun _ h => nomatch h) ⟨rfl, _, rfl⟩
theorem letters_range_cc {w : World} {mean : ExcName → Option Value} {mg mb : Str → Option Value} (l : Addr) (n : Nat) (hlen : n ≤ 20) :
    CC w mean mg mb 256 5 50 ⟨[.ref l], []⟩ (fun g => ∃ t u v, IsRange g l 0 n 1 t u v) [] (fun v nu' => nu' = [] ∧ ∃ t, v = .str (word (ids n)) t) := by
  w_top off
  have hlaw : PySem.Challenge.rw_ag5023_01 = PySem.Challenge.rw_ag5023_01 := rfl
  unfold CC
  k_fill
  intro dp un gd outer base g s R hd hu B X T sub hsz N pre ret
  obtain ⟨tr, ur, vr, hl⟩ := pre
  k_dflt (refine' enter_plain ?k1 ?k2 ?k3 ?k4 ?k5 ?k6 ?k7 ?k8 ?k9 ?k10 ?k11 ?k12 ?k13 ?k14 ?k15; (case k1 => omega); (case k2 => exact X); (case k3 => exact T); (case k4 => exact sub); (case k5 => exact hsz); (case k6 => exact N); (case k7 => k_is); (case k8 => k_is); (case k9 => exact BindsTo.of_eq rfl); (case k10 => exact locs rfl); (case k12 => decide); (case k13 => rfl); (case k14 => rfl); (case k15 => rfl))
  intro L' h' F' N' l1
  clear N
  try dsimp only
  try k_fold
  k_steps
  rename Fr _ _ _ _ => F₁
  rename News _ _ _ _ => N₁
  refine LCg.CompSrc.range (n := n) rfl F₁ N₁ (F₁.keep _ _ hl) (small_one (by omega) (by omega) (by omega) (by omega)) (rangeSize_nat _ _) (by rw [PySem.sizeLine_eq]; omega) ?_
  intro g9
  refine restU_map n _ (fun i y => ∃ k t, (ids n)[i]? = some k ∧ y = .str ⟨#[(97 + k).toNat]⟩ t) ?_ trivial ?_
  · intro i v I oI C oC D oD m₂ h tk E' hin hv hC hx F N off ne
    obtain ⟨t, rfl⟩ := hv
    have hn : (ids n)[i]? = some (0 + (i : Int)) := by simp [ids, hin]
    generalize hk : (0 + (i : Int)) = k at *
    have hb' : 0 ≤ k ∧ k ≤ 20 := by omega
    k_steps
    · exact F
    · exact N
  · intro ys hys hrel D9 h9 tk9 F9 N9 o9
    clear F₁ N₁
    k_steps
    have hst := strs_of_rel (f := fun n => ⟨#[(97 + n).toNat]⟩) (by rw [ids_length]; exact hys) hrel
    refine join_listW (News.isList N9 (.head _)) hst (by decide +kernel) ?_ fun t' k => ?_
    · have e : (((ids n).map fun n => (⟨#[(97 + n).toNat]⟩ : Str)).map (·.length)) = (ids n).map fun _ => 1 := by rw [List.map_map]; rfl
      rw [e, List.length_map, sum_ones, ids_length]
      omega
    rw [join_words]
    k_steps
    exact ret _ _ _ [] F9.keep (fun _ h => nomatch h) ⟨rfl, _, rfl⟩
end Mine
end

section -- C3
set_option Elab.async false
set_option maxRecDepth 100000
set_option maxHeartbeats 4000000
namespace Mine
open PySem PySem.W PySem.Spec PySem.Calls PyProof.Rows

theorem seven_log (e : Nat) (he : e ≤ 1000) : ((7 : Int) ^ e).natAbs.log2 < 9000 := by
  rw [Int.natAbs_pow]
  have h7 : (7 : Int).natAbs = 7 := rfl
  rw [h7, Nat.log2_lt (Nat.pos_iff_ne_zero.mp (Nat.pow_pos (by decide)))]
  calc 7 ^ e ≤ 8 ^ e := Nat.pow_le_pow_left (by decide) e
    _ = (2 ^ 3) ^ e := rfl
    _ = 2 ^ (3 * e) := (Nat.pow_mul 2 3 e).symm
    _ < 2 ^ 9000 := Nat.pow_lt_pow_right (by decide) (by omega)
theorem pow_any {prog : Program} {w : World} {A : Around} {E : Value → Shared → Prop} {s : Shared} {n : Int} {t u : Tok} {Q : Value → Shared → Prop} (hn : 0 ≤ n) (hn2 : n ≤ 1000) (h : ∀ q : Int, q ≠ 0 → q.natAbs.log2 < 9000 → Q (.int q s.toks) { s with toks := s.toks + 1 }) :
    wpAny (model prog w) A (binaryOp .Pow (.int 7 t) (.int n u)) Q E s :=
  pow_int_small hn (by omega) (by decide) (h _ (Int.ne_of_gt (Int.pow_pos (by decide))) (seven_log _ (by omega)))
theorem fdiv_bounds {k l : Int} (h0 : 0 ≤ k) (hl : 0 < l) : 0 ≤ Int.fdiv k l ∧ Int.fdiv k l ≤ k := by
  rw [Int.fdiv_eq_ediv_of_nonneg _ (Int.le_of_lt hl)]
  exact ⟨Int.ediv_nonneg h0 (Int.le_of_lt hl), Int.ediv_le_self _ h0⟩
local macro_rules | `(tactic| walk_at "binaryOp Pow int int") => `(tactic| (k_here; k_dflt (refine' pow_any ?p0 ?p1 ?_; (case p0 => exact (fdiv_bounds (by first | assumption | omega) (by omega)).1); (case p1 => exact Int.le_trans (fdiv_bounds (by first | assumption | omega) (by omega)).2 (by omega)); k_whole); intro q' hq' hr'))
local macro_rules | `(tactic| walk_at "binaryOp FloorDiv int int") => `(tactic| (k_here; k_dflt (refine' floordiv_int ?p0 ?_ (Or.inl (PyProof.noPylong_of_log2 ?p1)); (case p0 => first | assumption | omega); (case p1 => assumption); k_whole)))

theorem drawn_cc {w : World} {mean : ExcName → Option Value} {mg mb : Str → Option Value} (lt a : Addr) (ns : List Int) (h1 : 0 < ns.length) (h2 : ns.length ≤ 100) (k b : Int) (tk₀ tb : Tok) (n : Nat) (hk : 0 ≤ k ∧ k ≤ 50) (hb : 1 ≤ b ∧ b ≤ 20) :
    CC w mean mg mb 234 5 50 ⟨[.ref lt, .ref a, .int b tb], []⟩ (fun g => ∃ vs : List Value, g.IsList lt vs.toArray ∧ IntsAre vs ns) [(a, listOf #[.int k tk₀] n)] (fun v nu' => (∃ r t, v = .int r t ∧ 0 ≤ r ∧ r < b) ∧ ∃ t n', nu' = [(a, listOf #[.int (k + 1) t] n')]) := by
  w_top off
  have hlaw : PySem.Challenge.rw_ag5023_01 = PySem.Challenge.rw_ag5023_01 := rfl
  unfold CC
  k_fill
  intro dp un gd outer base g s R hd hu B X T sub hsz N pre ret
  obtain ⟨vs, hl, hi⟩ := pre
  k_dflt (refine' enter_plain ?k1 ?k2 ?k3 ?k4 ?k5 ?k6 ?k7 ?k8 ?k9 ?k10 ?k11 ?k12 ?k13 ?k14 ?k15; (case k1 => omega); (case k2 => exact X); (case k3 => exact T); (case k4 => exact sub); (case k5 => exact hsz); (case k6 => exact N); (case k7 => k_is); (case k8 => k_is); (case k9 => exact BindsTo.of_eq rfl); (case k10 => exact locs rfl); (case k12 => decide); (case k13 => rfl); (case k14 => rfl); (case k15 => rfl))
  intro L' h' F' N' l1
  clear N
  try dsimp only
  try k_fold
  have hk0 : ([k] : List Int).getD (Int.toNat 0) 0 = k := rfl
  k_steps
  rename Fr _ _ _ _ => F8
  rename News _ _ _ _ => N8
  exact ret _ _ _ _ F8.keep (foot_of N8) ⟨⟨_, _, rfl, Int.fmod_nonneg_of_pos _ (by omega), Int.fmod_lt_of_pos _ (by omega)⟩, _, _, rfl⟩
end Mine
end

section -- C4
set_option Elab.async false
set_option maxRecDepth 100000
set_option maxHeartbeats 4000000
namespace Mine
open PySem PySem.W PySem.Spec PySem.Calls PyProof.Rows

theorem ids_range (n : Nat) : rangeKs 0 ((n : Int) - 0).toNat = ids n := by
  rw [Int.sub_zero, Int.toNat_natCast]
  unfold rangeKs ids
  refine List.map_congr_left fun i _ => ?_
  rw [Int.zero_add]; rfl

theorem cut_at : ∀ (l : List Value) (k : Nat), k < l.length → ∃ p y q, kl_cut l k = some (p, y, q)
  | [], _, h => absurd h (Nat.not_lt_zero _)
  | x :: r, 0, _ => ⟨[], x, r, rfl⟩
  | x :: r, k + 1, h => by
    obtain ⟨p, y, q, e⟩ := cut_at r k (Nat.lt_of_succ_lt_succ h)
    exact ⟨x :: p, y, q, by unfold kl_cut; rw [e]⟩
theorem cut_ints {vl p q : List Value} {y : Value} {left : List Int} {k : Nat} (h : IntsAre vl left) (e : kl_cut vl k = some (p, y, q)) : ∃ b t, y = .int b t ∧ IntsAre (p ++ q) (left.take k ++ left.drop (k + 1)) ∧ left = left.take k ++ b :: left.drop (k + 1) := by
  obtain ⟨rfl, rfl⟩ := kl_cut_spec e
  obtain ⟨b, t, rfl, hb⟩ := h.at p.length y (by simp)
  have h1 := h.take p.length
  have h2 := h.drop (p.length + 1)
  rw [List.take_left'  rfl] at h1
  rw [show (p ++ Value.int b t :: q).drop (p.length + 1) = q by simp] at h2
  refine ⟨b, t, rfl, h1.append h2, ?_⟩
  obtain ⟨hlt, hb'⟩ := List.getElem?_eq_some_iff.mp hb
  rw [← hb', List.getElem_cons_drop, List.take_append_drop]
theorem fits_index {r : Int} (h0 : 0 ≤ r) (h1 : r < 1000) : Builtin.List.listFitsIndex r = true := by
  unfold Builtin.List.listFitsIndex
  simp only [Bool.and_eq_true, decide_eq_true_eq]
  omega
theorem seq_index {r : Int} {n : Nat} (h0 : 0 ≤ r) (h1 : r < n) : seqIndex? r n = some r.toNat := by
  unfold seqIndex?
  simp only [if_neg (show ¬ (r < 0) by omega)]
  rw [decide_eq_true h0, decide_eq_true h1]
  rfl

theorem drawn_row_cc {w : World} {mean : ExcName → Option Value} {mg mb : Str → Option Value} (lt a : Addr) (ns : List Int) (h1 : 0 < ns.length) (h2 : ns.length ≤ 100) (k : Int) (size : Nat) (tk₀ tb : Tok) (n : Nat) (hk : 0 ≤ k ∧ k ≤ 20) (hsize : size ≤ 20) :
    CC w mean mg mb 241 20 100 ⟨[.ref lt, .ref a, .int size tb], []⟩ (fun g => ∃ vs : List Value, g.IsList lt vs.toArray ∧ IntsAre vs ns) [(a, listOf #[.int k tk₀] n)]
      (fun v nu' => ∃ r rv rs nr t n', v = .ref r ∧ IntsAre rv rs ∧ rs.Perm (ids size) ∧ nu' = [(r, listOf (List.toArray rv) nr), (a, listOf #[.int (k + size) t] n')] ∧ ltn a r) := by
  w_top off
  have hlaw : PySem.Challenge.rw_ag5023_01 = PySem.Challenge.rw_ag5023_01 := rfl
  unfold CC
  k_fill
  intro dp un gd outer base g s R hd hu B X T sub hsz N pre ret
  have ⟨vs, hl, hi⟩ := pre
  k_dflt (refine' enter_plain ?k1 ?k2 ?k3 ?k4 ?k5 ?k6 ?k7 ?k8 ?k9 ?k10 ?k11 ?k12 ?k13 ?k14 ?k15; (case k1 => omega); (case k2 => exact X); (case k3 => exact T); (case k4 => exact sub); (case k5 => exact hsz); (case k6 => exact N); (case k7 => k_is); (case k8 => k_is); (case k9 => exact BindsTo.of_eq rfl); (case k10 => exact locs rfl); (case k12 => decide); (case k13 => rfl); (case k14 => rfl); (case k15 => rfl))
  intro L' h' F' N' l1
  clear N
  k_lt l1
  try dsimp only
  try k_fold
  repeat' (first | (fail_if_success (with_reducible show wpAny _ _ (exec (Stmt.While _ _ _ _) _) _ _ _)); (first | (k_unfold; (try dsimp only)) | (k_end; wrow_close) | walk1 | (dsimp only; walk1)))
  rename_i t1 u1 v1 rgX a1 ll vl0 cl0 h2' tk2 iI l1a lr h3 l1b D3 h4 l1c h5 h6 h7 F₁ N₁
  generalize hm₁ : (fun y => if y = Str.ofString "left" then some (Value.ref ll) else _) = m₁ at F₁
  have hlla : ltn a ll := l1a
  have hlllr : ltn ll lr := l1b.1
  refine While_inv2 (fun nn m nx => m = m₁ ∧ ∃ (left row : List Int) (vl vr : List Value) (nl nr na : Nat) (t : Tok), nx = [(lr, listOf vr.toArray nr), (ll, listOf vl.toArray nl), (a, listOf #[.int (k + (row.length : Int)) t] na)] ∧ IntsAre vl left ∧ IntsAre vr row ∧ (row ++ left).Perm (ids size) ∧ nn = left.length) (n₀ := size) F₁ (news := [(lr, listOf #[] 0), (ll, listOf vl0.toArray cl0), (a, listOf #[.int k tk₀] n)]) (kst_newsOf N₁ (by kst_inAny)) ?_ ?_ PassesOwn.never
  · refine ⟨rfl, _, [], vl0, [], cl0, 0, n, tk₀, by simp, iI, .nil, ?_, ?_⟩
    · rw [ids_range]; exact .refl _
    · rw [ids_range, ids_length]
  · rintro nn m₂ nx h tk F₂ N₂ ⟨rfl, left, row, vl, vr, nl, nr, na, t, rfl, hil, hir, hperm, rfl⟩
    have hlen : row.length + left.length = size := by simpa [ids_length] using hperm.length_eq
    subst hm₁
    clear F₁ N₁ iI
    k_steps
    · rename (decide (left = []) = true) => hem
      have hem' : left = [] := by simpa using hem
      subst hem'
      dsimp only
      rename Fr _ _ _ _ => F8
      rename News _ _ _ _ => N8
      simp only [List.length_nil, Nat.add_zero] at hlen
      rw [hlen] at N8
      exact ret _ _ _ [(lr, listOf vr.toArray nr), (a, listOf #[.int (k + (size : Int)) t] na)] F8.keep (foot_of (kst_newsOf N8 (by kst_inAny))) ⟨lr, vr, row, nr, t, na, rfl, hir, by simpa using hperm, rfl, Nat.lt_trans hlla hlllr⟩
    · rename (decide (left = []) = false) => hne
      have hne' : left ≠ [] := by simpa using hne
      have hll : 0 < left.length := List.length_pos_iff.mpr hne'
      rename Fr _ _ _ _ => F8
      rename News _ _ _ _ => N8
      have hla : lt ≠ a := fun q => by
        obtain ⟨o, ho, _⟩ := hl
        have := (N8 _ (.tail _ (.tail _ (.tail _ (.head _))))).2.2
        rw [q] at ho
        rw [ho] at this
        cases this
      refine wpAny_call ?_
      refine cc_use (dp := dp + 1) (un := un + 3) (rest := [(lr, listOf vr.toArray nr), (ll, listOf vl.toArray nl)]) (drawn_cc lt a ns h1 h2 (k + (row.length : Int)) left.length t _ na ⟨by omega, by omega⟩ ⟨by omega, by omega⟩) B F8 X T (kst_newsOf N8 (by kst_inAny)) ?_ rfl rfl (by omega) (by omega) ?_ ?_
      · refine List.forall_mem_cons.mpr ⟨fun q => absurd (List.mem_singleton.mp q) (neN (by dsimp only; omega)), List.forall_mem_cons.mpr ⟨fun q => absurd (List.mem_singleton.mp q) (neN (by dsimp only; omega)), List.forall_mem_nil _⟩⟩
      · intro g' hg
        exact ⟨vs, Heap.IsList.at hl fun o e => hg lt o (F8.keep lt o e) (by simpa using hla), hi⟩
      · rintro v h' tk' nu' F9 N9 off ⟨⟨r, tr, rfl, hr0, hr1⟩, t', n', rfl⟩
        clear F8 N8 off
        simp only [List.cons_append, List.nil_append] at N9
        dsimp only
        k_steps
        obtain ⟨p, y, q, hcut⟩ := cut_at vl r.toNat (by rw [hil.length]; omega)
        obtain ⟨b, tb', rfl, hil', hleft⟩ := cut_ints hil hcut
        refine' kl_popAt (its := vl.toArray) (D := ll) (n := nl) (k := r.toNat) ?F ?N ?f ?k ?e ?U ?z ?_
        case F => exact F9
        case N => exact N9
        case f => exact fits_index hr0 (by omega)
        case k => exact seq_index hr0 (by rw [List.size_toArray, hil.length]; exact hr1)
        case e => exact hcut
        case U => k_upd
        case z => show vl.length ≤ _; rw [hil.length, sizeLine_eq]; omega
        intro h10 F10 N10
        clear F9 N9
        have hirl := hir.length
        k_steps
        rename Fr _ _ _ _ => F11
        rename News _ _ _ _ => N11
        rw [List.push_toArray, show k + (row.length : Int) + 1 = k + ((row ++ [b]).length : Int) by rw [List.length_append, List.length_singleton]; omega] at N11
        have hlt := congrArg List.length hleft
        simp only [List.length_append, List.length_cons] at hlt
        refine ⟨_, _, _, [(lr, listOf (vr ++ [Value.int b tb']).toArray (nr + 1)), (ll, listOf (p ++ q).toArray (nl + 1)), (a, listOf #[.int (k + ((row ++ [b]).length : Int)) t'] n')], (left.take r.toNat ++ left.drop (r.toNat + 1)).length, rfl, F11, kst_newsOf N11 (by kst_inAny), ?_, rfl, _, row ++ [b], _, _, _, _, _, _, rfl, hil', hir.append (.cons b tb' .nil), ?_, rfl⟩
        · rw [List.length_append]; omega
        · refine List.Perm.trans ?_ hperm
          rw [List.append_assoc]
          refine List.Perm.append_left _ ?_
          rw [List.singleton_append]
          exact (List.perm_middle.symm).trans (.of_eq hleft.symm)
end Mine
end

section -- Fn2
set_option Elab.async false
namespace Mine
open PySem PySem.W PySem.Spec PySem.Calls PyProof.Rows

/-- the place of a number in a row -/
def bump (r : List Int) (x : Int) : Nat := (r.filter (fun a => decide (a < x))).length
/-- a number inserted in Schensted's table -/
def insT : List (List Int) → Int → List (List Int)
  | [], x => [[x]]
  | r :: T, x => if bump r x = r.length then (r ++ [x]) :: T else r.set (bump r x) x :: insT T (r.getD (bump r x) 0)
def tableOf (ns : List Int) : List (List Int) := ns.foldl insT []
theorem tableOf_snoc (ns : List Int) (x : Int) : tableOf (ns ++ [x]) = insT (tableOf ns) x := by unfold tableOf; rw [List.foldl_append]; rfl
theorem bump_le (r : List Int) (x : Int) : bump r x ≤ r.length := List.length_filter_le ..
theorem insT_rows {n : Nat} : ∀ (T : List (List Int)) (x : Int), (∀ t ∈ T, t.length ≤ n) → ∀ t ∈ insT T x, t.length ≤ n + 1
  | [], x, _ => by simp [insT]
  | r :: T, x, h => by
    unfold insT
    split
    · intro t ht
      rcases List.mem_cons.mp ht with rfl | ht
      · have := h r (.head _); simp; omega
      · exact Nat.le_succ_of_le (h t (.tail _ ht))
    · intro t ht
      rcases List.mem_cons.mp ht with rfl | ht
      · rw [List.length_set]; exact Nat.le_succ_of_le (h r (.head _))
      · exact insT_rows T _ (fun t ht => h t (.tail _ ht)) t ht
theorem insT_length : ∀ (T : List (List Int)) (x : Int), (insT T x).length ≤ T.length + 1
  | [], x => by simp [insT]
  | r :: T, x => by
    unfold insT
    split
    · simp
    · have := insT_length T (r.getD (bump r x) 0); rw [List.length_cons, List.length_cons]; omega
theorem table_bounds (ns : List Int) : (∀ t ∈ tableOf ns, t.length ≤ ns.length) ∧ (tableOf ns).length ≤ ns.length := by
  have go : ∀ (r : List Int) (n : Nat) (T : List (List Int)), (∀ t ∈ T, t.length ≤ n) → T.length ≤ n → (∀ t ∈ r.foldl insT T, t.length ≤ n + r.length) ∧ (r.foldl insT T).length ≤ n + r.length := by
    intro r
    induction r with
    | nil => intro n T h1 h2; exact ⟨h1, h2⟩
    | cons x r ih =>
      intro n T h1 h2
      have := ih (n + 1) (insT T x) (insT_rows T x h1) (by have := insT_length T x; omega)
      rw [List.length_cons, List.foldl_cons, show n + (r.length + 1) = n + 1 + r.length by omega]
      exact this
  have h := go ns 0 [] (by simp) (by simp)
  rw [Nat.zero_add] at h
  exact h

/-- rows that stand on the ledger -/
abbrev RowD := Addr × List Value × Nat
def rowsLed (R : List RowD) : List (Addr × Obj) := R.map fun x => (x.1, W.listOf x.2.1.toArray x.2.2)
def refsOf (R : List RowD) : List Value := R.map fun x => .ref x.1
inductive RowsAre : List RowD → List (List Int) → Prop
  | nil : RowsAre [] []
  | cons {a : Addr} {v : List Value} {n : Nat} {t : List Int} {R : List RowD} {T : List (List Int)} : IntsAre v t → RowsAre R T → RowsAre ((a, v, n) :: R) (t :: T)
theorem RowsAre.length : ∀ {R T}, RowsAre R T → R.length = T.length
  | _, _, .nil => rfl
  | _, _, .cons _ h => by rw [List.length_cons, List.length_cons, h.length]
theorem RowsAre.append : ∀ {R R' T T'}, RowsAre R T → RowsAre R' T' → RowsAre (R ++ R') (T ++ T')
  | _, _, _, _, .nil, h => h
  | _, _, _, _, .cons a h, h' => .cons a (h.append h')
theorem RowsAre.split : ∀ {R T}, RowsAre R T → ∀ j, j < R.length → ∃ A r v n B TA t TB, R = A ++ (r, v, n) :: B ∧ T = TA ++ t :: TB ∧ RowsAre A TA ∧ IntsAre v t ∧ RowsAre B TB ∧ A.length = j ∧ TA.length = j
  | _, _, .nil, _, h => absurd h (Nat.not_lt_zero _)
  | _, _, .cons (a := a) (v := v) (n := n) (t := t) (R := R) (T := T) hi h, 0, _ => ⟨[], a, v, n, R, [], t, T, rfl, rfl, .nil, hi, h, rfl, rfl⟩
  | _, _, .cons (a := a) (v := v) (n := n) (t := t) hi h, j + 1, hj => by
    obtain ⟨A, r, v', n', B, TA, t', TB, rfl, rfl, h1, h2, h3, h4, h5⟩ := h.split j (Nat.lt_of_succ_lt_succ hj)
    exact ⟨(a, v, n) :: A, r, v', n', B, t :: TA, t', TB, rfl, rfl, .cons hi h1, h2, h3, by simp [h4], by simp [h5]⟩
theorem rowsLed_append (A B : List RowD) : rowsLed (A ++ B) = rowsLed A ++ rowsLed B := List.map_append ..
theorem rowsLed_cons (a : Addr) (v : List Value) (n : Nat) (B : List RowD) : rowsLed ((a, v, n) :: B) = (a, W.listOf v.toArray n) :: rowsLed B := rfl
theorem led_addrs (R : List RowD) : (rowsLed R).map (·.1) = R.map (·.1) := by unfold rowsLed; rw [List.map_map]; rfl
theorem led_addr {R : List RowD} {p : Addr × Obj} (h : p ∈ rowsLed R) : p.1 ∈ R.map (·.1) := by
  obtain ⟨x, hx, rfl⟩ := List.mem_map.mp h
  exact List.mem_map.mpr ⟨x, hx, rfl⟩
theorem addr_led {R : List RowD} {a : Addr} (h : a ∈ R.map (·.1)) : ∃ o, (a, o) ∈ rowsLed R := by
  obtain ⟨x, hx, rfl⟩ := List.mem_map.mp h
  exact ⟨_, List.mem_map.mpr ⟨x, hx, rfl⟩⟩
theorem led_off {A B : List RowD} {r : Addr} (h : (A.map (·.1) ++ r :: B.map (·.1)).Nodup) : ∀ p ∈ rowsLed A ++ rowsLed B, p.1 ≠ r := by
  intro p hp q
  obtain ⟨_, h2, h3⟩ := List.nodup_append.mp h
  rcases List.mem_append.mp hp with hp | hp
  · exact h3 _ (led_addr hp) r (.head _) q
  · exact (List.nodup_cons.mp h2).1 (q ▸ led_addr hp)
theorem refsOf_length (R : List RowD) : (refsOf R).length = R.length := List.length_map ..
theorem refsOf_congr {R R' : List RowD} (h : R.map (·.1) = R'.map (·.1)) : refsOf R = refsOf R' := by
  have e : ∀ R : List RowD, refsOf R = (R.map (·.1)).map Value.ref := fun R => by unfold refsOf; rw [List.map_map]; rfl
  rw [e, e, h]
theorem ins_stop {TA TB : List (List Int)} {t1 : List Int} {b : Int} {j : Nat} (hj : TA.length = j) (h : bump t1 b = t1.length) : (TA ++ t1 :: TB).take j ++ insT ((TA ++ t1 :: TB).drop j) b = TA ++ (t1 ++ [b]) :: TB := by
  subst hj
  rw [List.take_left' rfl, List.drop_left' rfl]
  unfold insT
  rw [if_pos h]
theorem ins_go {TA TB : List (List Int)} {t1 : List Int} {b : Int} {j : Nat} (hj : TA.length = j) (h : bump t1 b ≠ t1.length) :
    (TA ++ t1.set (bump t1 b) b :: TB).take (j + 1) ++ insT ((TA ++ t1.set (bump t1 b) b :: TB).drop (j + 1)) (t1.getD (bump t1 b) 0) = (TA ++ t1 :: TB).take j ++ insT ((TA ++ t1 :: TB).drop j) b := by
  have e : TA ++ t1.set (bump t1 b) b :: TB = (TA ++ [t1.set (bump t1 b) b]) ++ TB := by simp
  subst hj
  rw [List.take_left' rfl, List.drop_left' rfl, e, List.take_left' (by simp), List.drop_left' (by simp)]
  conv => rhs; unfold insT
  rw [if_neg h, List.append_assoc]
  rfl
theorem ints_set {v : List Value} {t : List Int} (h : IntsAre v t) : ∀ (k : Nat) (b : Int) (tb : Tok), IntsAre (v.set k (.int b tb)) (t.set k b) := by
  induction h with
  | nil => intro k b tb; exact .nil
  | cons n t h ih =>
    intro k b tb
    cases k with
    | zero => exact .cons b tb h
    | succ k => exact .cons n t (ih k b tb)
theorem two_split (R : List RowD) (i : Nat) (h : i + 2 ≤ R.length) : ∃ P a0 v0 n0 a1 v1 n1 S, R = P ++ (a0, v0, n0) :: (a1, v1, n1) :: S ∧ P.length = i := by
  refine ⟨R.take i, R[i].1, R[i].2.1, R[i].2.2, R[i + 1].1, R[i + 1].2.1, R[i + 1].2.2, R.drop (i + 2), ?_, by rw [List.length_take]; omega⟩
  show R = R.take i ++ R[i] :: R[i + 1] :: R.drop (i + 2)
  rw [List.getElem_cons_drop, List.getElem_cons_drop, List.take_append_drop]
theorem refs_get {R R2 : List RowD} (h : R2.map (·.1) = R.map (·.1)) {k : Nat} {a : Addr} {v : List Value} {n : Nat} (hk : R2[k]? = some (a, v, n)) : (refsOf R)[k]? = some (.ref a) := by
  rw [← refsOf_congr h]
  unfold refsOf
  rw [List.getElem?_map, hk]
  rfl
theorem tbl_map {m : Str → Option Value} {k : Str} {v : Value} (h : m k = some v) : m = fun y => if y = k then some v else m y := by
  funext y
  by_cases e : y = k
  · rw [if_pos e, e, h]
  · rw [if_neg e]
end Mine
end

section -- C5
set_option Elab.async false
set_option maxRecDepth 100000
set_option maxHeartbeats 4000000
namespace Mine
open PySem PySem.W PySem.Spec PySem.Calls PyProof.Rows

local macro_rules | `(tactic| walk_at "eval ListComp") => `(tactic| (k_here; lct_look; lcg_calm; k_dflt (refine LCt.ListComp_T (F₀ := by k_asm) (by with_unfolding_all rfl) (by decide) (by rfl) (by decide) (by rfl) ?_)))
local macro_rules | `(tactic| walk_at "call builtin:len") => `(tactic| (k_here; k_dflt (refine' kst_len ?k1 ?k2 ?k3 ?k4 ?_; (case k1 => k_asm); (case k2 => k_memK); (case k3 => exact IntsAre.length (by assumption)); (case k4 => omega); k_whole)))
local macro_rules | `(tactic| k_all) => `(tactic| with_reducible assumption)

theorem table_cc {w : World} {mean : ExcName → Option Value} {mg mb : Str → Option Value} (l : Addr) (ns : List Int) (hlen : ns.length ≤ 20) :
    CC w mean mg mb 251 5 50 ⟨[.ref l], []⟩ (fun g => ∃ vs : List Value, g.IsList l vs.toArray ∧ IntsAre vs ns) [] (fun v nu' => ∃ lt vs n, v = .ref lt ∧ nu' = [(lt, W.listOf (List.toArray vs) n)] ∧ vs.length = (tableOf ns).length) := by
  w_top off
  have hlaw : PySem.Challenge.rw_ag5023_01 = PySem.Challenge.rw_ag5023_01 := rfl
  unfold CC
  k_fill
  intro dp un gd outer base g s R hd hu B X T sub hsz N pre ret
  obtain ⟨vs, hl, hi⟩ := pre
  k_dflt (refine' enter_cells ?k1 ?k2 ?k3 ?k4 ?k5 ?k6 ?k7 ?k8 ?k9 ?k10 ?k11 ?k12 ?k13 ?k14 ?k15; (case k1 => omega); (case k2 => exact X); (case k3 => exact T); (case k4 => exact sub); (case k5 => exact hsz); (case k6 => exact N); (case k7 => k_is); (case k8 => k_is); (case k9 => exact BindsTo.of_eq rfl); (case k10 => exact rfl); (case k11 => decide); (case k13 => rfl); (case k14 => rfl); (case k15 => rfl))
  intro L' h' tk' cells' F' N' Y' l1
  k_cells Y'
  try simp only [List.cons_append, List.nil_append] at N'
  try dsimp only
  try k_fold
  k_steps
  refine for_G ?_
  k_steps
  rename Fr _ _ _ _ => F₁
  rename News _ _ _ _ => N₁
  clear N
  rename_i o₁ d₁ lt h2 lt1 h3
  refine loopG_list (vs := vs) (fun i m nx => ∃ (Rw : List RowD) (n : Nat) (o : Obj) (cv : Option Value), m (Str.ofString "table") = some (.ref lt) ∧ nx = (lt, W.listOf (refsOf Rw).toArray n) :: (L' + 1, o) :: rowsLed Rw ∧ o.data = .cell cv ∧ RowsAre Rw (tableOf (ns.take i)) ∧ (lt :: (L' + 1) :: Rw.map (·.1)).Nodup) rfl (by intro _ _; rfl) F₁ N₁ ?_ ?_ ?_ ?_
  · refine ⟨[], _, _, _, rfl, rfl, d₁, .nil, ?_⟩
    have : @LT.lt Nat _ (L' + 1) lt := lt1
    refine List.nodup_cons.mpr ⟨?_, by simp⟩
    intro q
    rcases List.mem_cons.mp q with q | q
    · exact absurd q (neN (by omega))
    · cases q
  · intro i m nx h _ F _
    exact Heap.IsList.at hl fun o e => F.keep l o e
  · rintro i v m₁ nx₁ h tk I o hv ⟨Rw, n, oc, cv, hm, rfl, hoc, hR, hnd⟩ hnI hI F₂ N₂
    obtain ⟨x, t, rfl, hx⟩ := hi.at i v hv
    have hi20 : i < 20 := by have := (List.getElem?_eq_some_iff.mp hx).1; omega
    have hsn : tableOf (ns.take (i + 1)) = insT (tableOf (ns.take i)) x := by rw [List.take_add_one, hx]; exact tableOf_snoc _ _
    have hle := table_bounds (ns.take i)
    rw [List.length_take] at hle
    generalize tableOf (ns.take i) = Tb at *
    clear F₁ N₁ hI
    rw [tbl_map hm] at F₂
    have hlI : @Ne Nat lt I := hnI _ (.head _)
    have hcI : @Ne Nat (L' + 1) I := hnI _ (.tail _ (.head _))
    have hloI : ∀ p ∈ rowsLed Rw, p.1 ≠ I := fun p hp => hnI p (.tail _ (.tail _ hp))
    have hlc : @Ne Nat lt (L' + 1) := fun q => (List.nodup_cons.mp hnd).1 (by rw [q]; exact .head _)
    have hloc : ∀ p ∈ rowsLed Rw, p.1 ≠ L' + 1 := fun p hp q => (List.nodup_cons.mp (List.nodup_cons.mp hnd).2).1 (q ▸ led_addr hp)
    have hrow : ∀ a ∈ Rw.map (·.1), a ≠ I := fun a ha q => by
      obtain ⟨o9, h9⟩ := addr_led ha
      exact hloI _ h9 q
    generalize hlo : rowsLed Rw = lo at *
    refine wpAny_assign_Name ?_
    k_steps
    refine for_G ?_
    k_steps
    rename Fr _ _ _ _ => F3
    rename News _ _ _ _ => N3
    rename Obj.data _ = Data.cell (some _) => d3
    have hTb : ∀ t ∈ Tb, t.length < 20 := fun t ht => by have := hle.1 t ht; omega
    refine loopG_list (vs := refsOf Rw) (fun j m nx => ∃ (R' : List RowD) (T' : List (List Int)) (b : Int) (tb : Tok) (oc' : Obj), m (Str.ofString "table") = some (.ref lt) ∧ nx = (I, o) :: (lt, W.listOf (refsOf Rw).toArray n) :: (L' + 1, oc') :: rowsLed R' ∧ oc'.data = .cell (some (.int b tb)) ∧ R'.map (·.1) = Rw.map (·.1) ∧ RowsAre R' T' ∧ (∀ t ∈ T', t.length < 20) ∧ T'.length = Tb.length ∧ T'.take j ++ insT (T'.drop j) b = insT Tb x) rfl (by intro _ _; rfl) F3 N3 ?_ ?_ ?_ ?_
    · exact ⟨Rw, Tb, x, t, _, rfl, by rw [hlo], d3, rfl, hR, hTb, rfl, rfl⟩
    · rintro j m nx h ⟨R', T', b, tb, oc', -, rfl, -⟩ _ N
      exact News.isList N (.tail _ (.head _))
    · rintro j v m₂ nx₂ h4 tk4 I2 o2 hv2 ⟨R', T', b, tb, oc', hm2, rfl, hoc', hadr, hR', hT', hTl, hins⟩ hnI2 hI2 F4 N4
      clear F3 N3
      have hj : j < R'.length := by
        have h1 := (List.getElem?_eq_some_iff.mp hv2).1
        rw [refsOf_length, ← List.length_map (f := fun x : RowD => x.1), ← hadr, List.length_map] at h1
        exact h1
      obtain ⟨A, r, v1, nr, B', TA, t1, TB, rfl, rfl, hA, hi1, hB, hAl, hTAl⟩ := hR'.split j hj
      have hv2' : v = .ref r := by
        have h1 : (refsOf Rw)[j]? = (Rw.map (·.1))[j]?.map Value.ref := by simp [refsOf]; rfl
        rw [h1, ← hadr, List.map_append, List.map_cons, List.getElem?_append_right (by simp [hAl]), List.length_map, hAl, Nat.sub_self] at hv2
        simpa using hv2.symm
      subst hv2'
      rw [tbl_map hm2] at F4
      have ht1 := hT' t1 (List.mem_append_right _ (.head _))
      have hnd' : (lt :: (L' + 1) :: (A.map (·.1) ++ r :: B'.map (·.1))).Nodup := by
        have : (A ++ (r, v1, nr) :: B').map (·.1) = A.map (·.1) ++ r :: B'.map (·.1) := by rw [List.map_append, List.map_cons]
        rw [← this, hadr]; exact hnd
      have hrl : @Ne Nat r lt := fun q => (List.nodup_cons.mp hnd').1 (by rw [← q]; exact .tail _ (List.mem_append_right _ (.head _)))
      have hrc : @Ne Nat r (L' + 1) := fun q => (List.nodup_cons.mp (List.nodup_cons.mp hnd').2).1 (by rw [← q]; exact List.mem_append_right _ (.head _))
      have hrI2 : @Ne Nat r I2 := hnI2 (r, W.listOf v1.toArray nr) (.tail _ (.tail _ (.tail _ (by rw [rowsLed_append]; exact List.mem_append_right _ (.head _)))))
      have hlI2 : @Ne Nat lt I2 := hnI2 _ (.tail _ (.head _))
      have hcI2 : @Ne Nat (L' + 1) I2 := hnI2 _ (.tail _ (.tail _ (.head _)))
      have hII2 : @Ne Nat I I2 := hnI2 _ (.head _)
      have hrI : @Ne Nat r I := hrow r (by rw [← hadr]; simp)
      have hlo1 : ∀ p ∈ rowsLed A ++ rowsLed B', p.1 ≠ r := led_off (List.nodup_cons.mp (List.nodup_cons.mp hnd').2).2
      have hlo2 : ∀ p ∈ rowsLed A ++ rowsLed B', p.1 ≠ L' + 1 := fun p hp q => (List.nodup_cons.mp (List.nodup_cons.mp hnd').2).1 (by
        rw [← q]
        rcases List.mem_append.mp hp with hp | hp
        · exact List.mem_append_left _ (led_addr hp)
        · exact List.mem_append_right _ (.tail _ (led_addr hp)))
      have N5 : News g L' h4 ((I2, o2) :: (r, W.listOf v1.toArray nr) :: (I, o) :: (lt, W.listOf (refsOf Rw).toArray n) :: (L' + 1, oc') :: (rowsLed A ++ rowsLed B')) := by
        refine kst_newsOf N4 fun p hp => ?_
        rw [rowsLed_append, rowsLed_cons]
        simp only [List.mem_cons, List.mem_append] at hp ⊢
        rcases hp with h | h | h | h | h | h | h
        · exact .inl h
        · exact .inr (.inr (.inr (.inr (.inr (.inl h)))))
        · exact .inr (.inl h)
        · exact .inr (.inr (.inl h))
        · exact .inr (.inr (.inr (.inl h)))
        · exact .inr (.inr (.inr (.inr (.inl h))))
        · exact .inr (.inr (.inr (.inr (.inr (.inr h)))))
      generalize hlo3 : rowsLed A ++ rowsLed B' = lo3 at *
      clear N4 hlo hloI hloc hnI
      refine wpAny_assign_Name ?_
      k_steps
      rename Fr _ _ _ _ => F6
      rename News _ _ _ _ => N6
      refine LCt.CompSrcT.ledger rfl F6 N6 (.tail _ (.head _)) (by rw [List.size_toArray, PySem.sizeLine_eq, hi1.length]; omega) ?_
      intro g9
      refine restT_filter v1 (fun v => match v with | .int a _ => decide (a < b) | _ => false) ?_ (.inr ⟨_, .tail _ (.head _), rfl, _, rfl⟩) ?_ rfl (fun _ => rfl) (by decide)
      · intro v I9 oI9 C9 oC9 D9 oD9 m9 h9 tk9 E9 hv9 hC9 hx9 F9 N9
        obtain ⟨b9, t9, rfl⟩ := hi1.all v hv9
        k_steps
      · intro D9 h9 tk9 F9 N9 o9
        clear F6 N6
        have hfi := ints_filter hi1 b
        have hlf := bump_le t1 b
        unfold bump at hlf
        simp only [LCg.Off1] at o9
        generalize v1.filter (fun v => match v with | .int a _ => decide (a < b) | _ => false) = vf at *
        k_steps
        · rename ((_ : Int) = _) => heq
          have hb : bump t1 b = t1.length := by unfold bump; omega
          dsimp only [TurnG]
          k_steps
          rename Fr _ _ _ _ => F10
          rename News _ _ _ _ => N10
          rename Obj.data _ = Data.cell (some Value.none) => d10
          have hrf : refsOf Rw = refsOf (A ++ (r, v1 ++ [.int b tb], nr + 1) :: B') := refsOf_congr (by rw [← hadr]; simp)
          rw [List.push_toArray, hrf] at N10
          refine ⟨_, _, _, (lt, W.listOf (refsOf (A ++ (r, v1 ++ [.int b tb], nr + 1) :: B')).toArray n) :: (L' + 1, _) :: rowsLed (A ++ (r, v1 ++ [.int b tb], nr + 1) :: B'), rfl, F10, kst_newsOf N10 fun p hp => ?_, ?_, A ++ (r, v1 ++ [.int b tb], nr + 1) :: B', n, _, _, rfl, rfl, d10, ?_, ?_⟩
          · rw [rowsLed_append, rowsLed_cons] at hp
            rw [← hlo3]
            simp only [List.mem_cons, List.mem_append] at hp ⊢
            grind
          · refine List.forall_mem_cons.mpr ⟨hlI, List.forall_mem_cons.mpr ⟨hcI, fun p hp => hrow _ ?_⟩⟩
            rw [← hadr]
            have := led_addr hp
            rw [List.map_append, List.map_cons] at this ⊢
            exact this
          · rw [hsn, ← hins, ins_stop hTAl hb]
            exact hA.append (.cons (hi1.append (.cons b tb .nil)) hB)
          · rw [List.map_append, List.map_cons]; exact hnd'
        · rename Fr _ _ _ _ => F10
          rename News _ _ _ _ => N10
          rename Obj.data _ = Data.cell (some _) => d10
          have hb : bump t1 b ≠ t1.length := by unfold bump; omega
          have hbt : (((t1.filter (fun a => decide (a < b))).length : Int)).toNat = bump t1 b := by unfold bump; simp
          rw [hbt] at N10 d10
          refine ⟨_, _, _, (I, o) :: (lt, W.listOf (refsOf Rw).toArray n) :: (L' + 1, _) :: rowsLed (A ++ (r, v1.set (bump t1 b) (.int b tb), nr) :: B'), rfl, F10, kst_newsOf N10 fun p hp => ?_, ?_, A ++ (r, v1.set (bump t1 b) (.int b tb), nr) :: B', TA ++ t1.set (bump t1 b) b :: TB, _, _, _, rfl, rfl, d10, ?_, hA.append (.cons (ints_set hi1 _ _ _) hB), ?_, ?_, ?_⟩
          · rw [rowsLed_append, rowsLed_cons] at hp
            rw [← hlo3]
            simp only [List.mem_cons, List.mem_append] at hp ⊢
            grind
          · intro p hp
            rw [rowsLed_append, rowsLed_cons] at hp
            rw [rowsLed_append, rowsLed_cons] at hnI2
            simp only [List.mem_cons, List.mem_append] at hp hnI2
            grind
          · rw [← hadr, List.map_append, List.map_append, List.map_cons, List.map_cons]
          · intro t ht
            rcases List.mem_append.mp ht with ht | ht
            · exact hT' t (List.mem_append_left _ ht)
            · rcases List.mem_cons.mp ht with rfl | ht
              · rw [List.length_set]; exact ht1
              · exact hT' t (List.mem_append_right _ (.tail _ ht))
          · rw [← hTl]; simp
          · rw [ins_go hTAl hb]; exact hins
    · rintro m₂ nx₂ h4 tk4 ⟨R', T', b, tb, oc', hm2, rfl, hoc', hadr, hR', hT', hTl, hins⟩ F4 N4
      clear F3 N3
      rw [tbl_map hm2] at F4
      have hrf : refsOf Rw = refsOf R' := refsOf_congr hadr.symm
      have hlen4 : (refsOf R').length < 20 := by rw [refsOf_length, hR'.length, hTl]; omega
      rw [hrf] at N4
      have hlo4l : ∀ p ∈ rowsLed R', p.1 ≠ lt := fun p hp q => (List.nodup_cons.mp hnd).1 (.tail _ (by rw [← hadr, ← q]; exact led_addr hp))
      have hlo4I : ∀ p ∈ rowsLed R', p.1 ≠ I := fun p hp => hrow _ (by rw [← hadr]; exact led_addr hp)
      generalize hlo4 : rowsLed R' = lo4 at *
      dsimp only
      k_steps
      rename Fr _ _ _ _ => F10
      rename News _ _ _ _ => N10
      rename_i l9 _ l1d _
      have hrf2 : refsOf R' ++ [.ref l9] = refsOf (R' ++ [(l9, [.int b tb], 0)]) := by unfold refsOf; rw [List.map_append]; rfl
      rw [List.push_toArray, hrf2] at N10
      refine ⟨_, _, _, (lt, W.listOf (refsOf (R' ++ [(l9, [.int b tb], 0)])).toArray (n + 1)) :: (L' + 1, oc') :: rowsLed (R' ++ [(l9, [.int b tb], 0)]), rfl, F10, kst_newsOf N10 fun p hp => ?_, ?_, R' ++ [(l9, [.int b tb], 0)], n + 1, _, _, rfl, rfl, hoc', ?_, ?_⟩
      · rw [rowsLed_append, rowsLed_cons, hlo4] at hp
        simp only [List.mem_cons, List.mem_append] at hp ⊢
        grind [rowsLed]
      · refine List.forall_mem_cons.mpr ⟨hlI, List.forall_mem_cons.mpr ⟨hcI, fun p hp => ?_⟩⟩
        rw [rowsLed_append, hlo4] at hp
        rcases List.mem_append.mp hp with hp | hp
        · exact hlo4I p hp
        · rw [List.mem_singleton.mp hp]
          exact neN (by show l9 ≠ I; have := l1d.1; exact Nat.ne_of_gt this)
      · have hl9 : (refsOf Rw).length = T'.length := by rw [hrf, refsOf_length, hR'.length]
        rw [hl9, List.take_length, List.drop_length] at hins
        rw [hsn, ← hins]
        exact hR'.append (.cons (.cons b tb .nil) .nil)
      · rw [List.map_append, ← List.cons_append, ← List.cons_append, List.nodup_append]
        refine ⟨by rw [hadr]; exact hnd, by simp, ?_⟩
        intro a ha b' hb' q
        rw [List.map_cons, List.map_nil, List.mem_singleton] at hb'
        subst hb'
        subst q
        obtain ⟨_, q1, q2, q3⟩ := l1d
        rcases List.mem_cons.mp ha with ha | ha
        · rw [ha] at q1; exact Nat.lt_irrefl _ q1
        · rcases List.mem_cons.mp ha with ha | ha
          · rw [ha] at q2; exact Nat.lt_irrefl _ q2
          · obtain ⟨o8, h8⟩ := addr_led ha
            rw [hlo4] at h8
            exact Nat.lt_irrefl _ (kst_ltOf q3 _ h8)
  · rintro m₁ nx₁ h tk ⟨Rw, n, oc, cv, hm, rfl, hoc, hR, hnd⟩ F₂ N₂
    rw [hi.length, List.take_length] at hR
    clear F₁ N₁
    rw [tbl_map hm] at F₂
    generalize hlo4 : rowsLed Rw = lo4 at *
    dsimp only
    k_steps
    exact ret _ _ _ [_] F₂.keep (foot_of (kst_newsOf N₂ fun p hp => by rw [List.mem_singleton.mp hp]; exact .head _)) ⟨lt, refsOf Rw, n, rfl, rfl, by rw [refsOf_length, hR.length]⟩
end Mine
end

section -- Fn3
set_option Elab.async false
namespace Mine
open PySem PySem.W PySem.Spec PySem.Calls PyProof.Rows

/-- the lengths of the longest common rows of two beginnings -/
def dyn (a b : List Nat) : Nat → Nat → Nat
  | 0, _ => 0
  | _ + 1, 0 => 0
  | i + 1, j + 1 => if a[i]? = b[j]? then dyn a b i j + 1 else max (dyn a b (i + 1) j) (dyn a b i (j + 1))
termination_by i j => i + j
theorem dyn_zero (a b : List Nat) (j : Nat) : dyn a b 0 j = 0 := by rw [dyn]
theorem dyn_zero' (a b : List Nat) (i : Nat) : dyn a b i 0 = 0 := by cases i <;> rw [dyn]
theorem dyn_succ (a b : List Nat) (i j : Nat) : dyn a b (i + 1) (j + 1) = if a[i]? = b[j]? then dyn a b i j + 1 else max (dyn a b (i + 1) j) (dyn a b i (j + 1)) := by rw [dyn]

/-- r is a longest common row of a and b -/
def IsLcs (a b r : List Nat) : Prop := r.Sublist a ∧ r.Sublist b ∧ ∀ c : List Nat, c.Sublist a → c.Sublist b → c.length ≤ r.length

theorem dyn_max (a b : List Nat) : ∀ i j, i ≤ a.length → j ≤ b.length → ∀ c : List Nat, c.Sublist (a.take i).reverse → c.Sublist (b.take j).reverse → c.length ≤ dyn a b i j := by
  intro i
  induction i with
  | zero => intro j _ _ c h _; rw [List.take_zero, List.reverse_nil, List.sublist_nil] at h; subst h; exact Nat.zero_le _
  | succ i ihi =>
    intro j
    induction j with
    | zero => intro _ _ c _ h; rw [List.take_zero, List.reverse_nil, List.sublist_nil] at h; subst h; exact Nat.zero_le _
    | succ j ihj =>
      intro hi hj c h1 h2
      have ea : (a.take (i + 1)).reverse = a[i] :: (a.take i).reverse := by
        rw [List.take_add_one, List.getElem?_eq_getElem (by omega)]; simp
      have eb : (b.take (j + 1)).reverse = b[j] :: (b.take j).reverse := by
        rw [List.take_add_one, List.getElem?_eq_getElem (by omega)]; simp
      have h1' := h1
      have h2' := h2
      rw [ea, List.sublist_cons_iff] at h1'
      rw [eb, List.sublist_cons_iff] at h2'
      rw [dyn_succ]
      have hab : (a[i]? = b[j]?) ↔ a[i] = b[j] := by
        rw [List.getElem?_eq_getElem (by omega), List.getElem?_eq_getElem (by omega)]; simp
      split
      · rename_i heq
        have tail : ∀ {c p : List Nat} {x : Nat}, (x :: c).Sublist p → c.Sublist p := fun h => (List.sublist_cons_self _ _).trans h
        rcases h1' with h1' | ⟨c1, rfl, h1'⟩
        · rcases h2' with h2' | ⟨c2, rfl, h2'⟩
          · have := ihi j (by omega) (by omega) c h1' h2'; omega
          · have := ihi j (by omega) (by omega) c2 (tail h1') h2'; simp; omega
        · rcases h2' with h2' | ⟨c2, hc, h2'⟩
          · have := ihi j (by omega) (by omega) c1 h1' (tail h2'); simp; omega
          · have := ihi j (by omega) (by omega) c1 h1' ((List.cons.inj hc).2 ▸ h2'); simp; omega
      · rename_i hne
        rw [hab] at hne
        rcases h1' with h1' | ⟨c1, rfl, h1'⟩
        · have := ihi (j + 1) (by omega) hj c h1' h2; omega
        · rcases h2' with h2' | ⟨c2, hc, h2'⟩
          · have := ihj hi (by omega) _ h1 h2'; omega
          · exact absurd (List.cons.inj hc).1 hne
theorem isLcs_of {a b r : List Nat} (h1 : r.Sublist a) (h2 : r.Sublist b) (hl : r.length = dyn a b a.length b.length) : IsLcs a b r := by
  refine ⟨h1, h2, fun c c1 c2 => ?_⟩
  have := dyn_max a b a.length b.length (Nat.le_refl _) (Nat.le_refl _) c.reverse (by rw [List.take_length]; exact c1.reverse) (by rw [List.take_length]; exact c2.reverse)
  rw [List.length_reverse] at this
  omega
theorem dyn_le (a b : List Nat) : ∀ i j, dyn a b i j ≤ i := by
  intro i
  induction i with
  | zero => intro j; rw [dyn_zero]; exact Nat.le_refl _
  | succ i ih =>
    intro j
    induction j with
    | zero => rw [dyn_zero']; omega
    | succ j ihj => rw [dyn_succ]; have := ih j; have := ih (j + 1); split <;> omega

/-- a row of the table, filled up to a column -/
def rowF (a b : List Nat) (i j : Nat) : List Int := (List.range (b.length + 1)).map fun c => if c ≤ j then (dyn a b i c : Int) else 0
theorem rowF_length (a b : List Nat) (i j : Nat) : (rowF a b i j).length = b.length + 1 := by simp [rowF]
theorem rowF_get {a b : List Nat} {i j c : Nat} (h : c ≤ b.length) : (rowF a b i j).getD c 0 = if c ≤ j then (dyn a b i c : Int) else 0 := by
  unfold rowF
  simp [List.getD_eq_getElem?_getD, List.getElem?_map, List.getElem?_range (show c < b.length + 1 by omega)]
theorem rowF_zero (a b : List Nat) (i : Nat) : rowF a b i 0 = List.replicate (b.length + 1) 0 := by
  refine List.ext_getElem (by simp [rowF]) fun k h1 h2 => ?_
  simp only [rowF, List.getElem_map, List.getElem_range, List.getElem_replicate]
  split
  · have : k = 0 := by omega
    subst this
    rw [dyn_zero']; rfl
  · rfl
theorem rowF_top (a b : List Nat) (j : Nat) : rowF a b 0 j = List.replicate (b.length + 1) 0 := by
  refine List.ext_getElem (by simp [rowF]) fun k h1 h2 => ?_
  simp only [rowF, List.getElem_map, List.getElem_range, List.getElem_replicate, dyn_zero]
  split <;> rfl
theorem rowF_set (a b : List Nat) (i j : Nat) : (rowF a b i j).set (j + 1) (dyn a b i (j + 1) : Int) = rowF a b i (j + 1) := by
  refine List.ext_getElem (by simp [rowF]) fun k h1 h2 => ?_
  simp only [rowF, List.getElem_set, List.getElem_map, List.getElem_range]
  by_cases h : j + 1 = k
  · subst h; simp
  · rw [if_neg h]
    by_cases h' : k ≤ j
    · rw [if_pos h', if_pos (by omega)]
    · rw [if_neg h', if_neg (by omega)]
/-- the rows of the table while the row i + 1 is filled up to j; and between two rows -/
def rowIn (a b : List Nat) (i j k : Nat) : List Int := if k ≤ i then rowF a b k b.length else if k = i + 1 then rowF a b k j else rowF a b k 0
def rowOut (a b : List Nat) (i k : Nat) : List Int := if k ≤ i then rowF a b k b.length else rowF a b k 0
theorem rowIn_other {a b : List Nat} {i j k : Nat} (h : k ≠ i + 1) : rowIn a b i (j + 1) k = rowIn a b i j k := by
  unfold rowIn
  split
  · rfl
  · simp only [if_neg h]
theorem rowIn_done (a b : List Nat) (i k : Nat) : rowIn a b i b.length k = rowOut a b (i + 1) k := by
  unfold rowIn rowOut
  by_cases h : k ≤ i
  · rw [if_pos h, if_pos (by omega)]
  · rw [if_neg h]
    by_cases h' : k = i + 1
    · rw [if_pos h', if_pos (by omega)]
    · rw [if_neg h', if_neg (by omega)]
theorem get_other {P S : List RowD} {x0 x1 x2 : RowD} {k : Nat} (h : k ≠ P.length + 1) : (P ++ x0 :: x2 :: S)[k]? = (P ++ x0 :: x1 :: S)[k]? := by
  by_cases h1 : k < P.length
  · rw [List.getElem?_append_left h1, List.getElem?_append_left h1]
  · rw [List.getElem?_append_right (by omega), List.getElem?_append_right (by omega)]
    match hk : k - P.length with
    | 0 => rfl
    | 1 => omega
    | n + 2 => rfl
theorem mem_shuf1 {α : Type} {p x0 x1 D c : α} {P S own own2 : List α} : p ∈ own2 ++ D :: c :: ((P ++ x0 :: x1 :: S) ++ own) ↔ p ∈ x1 :: x0 :: D :: c :: (P ++ S ++ own ++ own2) := by
  simp only [List.mem_cons, List.mem_append]; grind
theorem mem_shuf2 {α : Type} {p D c : α} {P own : List α} : p ∈ own ++ D :: (P ++ [c]) ↔ p ∈ D :: c :: (P ++ own) := by
  simp only [List.mem_cons, List.mem_append]; grind
/-- the table, when it is filled -/
theorem rowOut_done {a b : List Nat} {k : Nat} (h : k ≤ a.length) : rowOut a b a.length k = rowF a b k b.length := by unfold rowOut; rw [if_pos h]
theorem rowF_at {a b : List Nat} {i j : Nat} (h : j ≤ b.length) : (rowF a b i b.length).getD j 0 = (dyn a b i j : Int) := by rw [rowF_get h, if_pos h]
theorem signs_at {x : Str} {i : Nat} {a : Str} (h : (signs x)[i]? = some a) : ∃ c, x.cps.toList[i]? = some c ∧ a = ⟨#[c]⟩ := by
  cases hc : x.cps[i]? with
  | none =>
    have h1 := (List.getElem?_eq_some_iff.mp h).1
    rw [signs_length] at h1
    have h2 : x.cps.size ≤ i := by simpa using hc
    exact absurd h1 (Nat.not_lt.mpr h2)
  | some c =>
    rw [signs_get hc] at h
    exact ⟨c, by simpa using hc, (Option.some.inj h).symm⟩
theorem cell_eq {a b : List Nat} {i j : Nat} (hj : j < b.length) (h : a[i]? = b[j]?) : (rowF a b i b.length).getD ((j : Int)).toNat 0 + 1 = (dyn a b (i + 1) (j + 1) : Int) := by
  rw [Int.toNat_natCast, rowF_get (by omega), if_pos (by omega), dyn_succ, if_pos h]
  omega
theorem cell_ne {a b : List Nat} {i j : Nat} (hj : j < b.length) (h : a[i]? ≠ b[j]?) :
    (if (rowF a b i b.length).getD ((j : Int) + 1).toNat 0 > (rowF a b (i + 1) j).getD ((j : Int)).toNat 0 then (rowF a b i b.length).getD ((j : Int) + 1).toNat 0 else (rowF a b (i + 1) j).getD ((j : Int)).toNat 0) = (dyn a b (i + 1) (j + 1) : Int) := by
  have e1 : (rowF a b i b.length).getD (j + 1) 0 = (dyn a b i (j + 1) : Int) := by rw [rowF_get (by omega), if_pos (by omega)]
  have e2 : (rowF a b (i + 1) j).getD j 0 = (dyn a b (i + 1) j : Int) := by rw [rowF_get (by omega), if_pos (by omega)]
  rw [Int.toNat_natCast, show ((j : Int) + 1).toNat = j + 1 by omega, e1, e2, dyn_succ, if_neg h]
  split <;> omega
theorem back_up {a b : List Nat} {i j : Nat} (hi : i ≤ a.length) (hj : j ≤ b.length) (h : (rowF a b i b.length).getD ((j : Int)).toNat 0 = (rowF a b (i - 1) b.length).getD ((j : Int)).toNat 0) : dyn a b i j = dyn a b (i - 1) j := by
  rw [Int.toNat_natCast, rowF_at hj, rowF_at hj] at h
  omega
theorem back_left {a b : List Nat} {i j : Nat} (hj0 : (j : Int) ≠ 0) (hj : j ≤ b.length) (h : (rowF a b i b.length).getD ((j : Int)).toNat 0 = (rowF a b i b.length).getD ((j : Int) - 1).toNat 0) : dyn a b i j = dyn a b i (j - 1) := by
  rw [Int.toNat_natCast, show ((j : Int) - 1).toNat = j - 1 by omega, rowF_at hj, rowF_at (by omega)] at h
  omega
theorem back_both {a b : List Nat} {i j : Nat} (hi0 : (i : Int) ≠ 0) (hj0 : (j : Int) ≠ 0) (hi : i ≤ a.length) (hj : j ≤ b.length) (h1 : (rowF a b i b.length).getD ((j : Int)).toNat 0 ≠ (rowF a b (i - 1) b.length).getD ((j : Int)).toNat 0)
    (h2 : (rowF a b i b.length).getD ((j : Int)).toNat 0 ≠ (rowF a b i b.length).getD ((j : Int) - 1).toNat 0) : ∃ c, a[i - 1]? = some c ∧ b[j - 1]? = some c ∧ dyn a b i j = dyn a b (i - 1) (j - 1) + 1 := by
  rw [Int.toNat_natCast, rowF_at hj, rowF_at hj] at h1
  rw [Int.toNat_natCast, show ((j : Int) - 1).toNat = j - 1 by omega, rowF_at hj, rowF_at (by omega)] at h2
  obtain ⟨i, rfl⟩ : ∃ k, i = k + 1 := ⟨i - 1, by omega⟩
  obtain ⟨j, rfl⟩ : ∃ k, j = k + 1 := ⟨j - 1, by omega⟩
  simp only [Nat.add_sub_cancel] at h1 h2 ⊢
  rw [dyn_succ] at h1 h2 ⊢
  by_cases hab : a[i]? = b[j]?
  · rw [if_pos hab]
    exact ⟨a[i], List.getElem?_eq_getElem (by omega), by rw [← hab]; exact List.getElem?_eq_getElem (by omega), rfl⟩
  · rw [if_neg hab] at h1 h2
    omega
theorem drop_pred {l : List Nat} {i : Nat} {c : Nat} (hi : (i : Int) ≠ 0) (h : l[i - 1]? = some c) : l.drop (i - 1) = c :: l.drop i := by
  obtain ⟨k, rfl⟩ : ∃ k, i = k + 1 := ⟨i - 1, by omega⟩
  simp only [Nat.add_sub_cancel] at h ⊢
  obtain ⟨hk, e⟩ := List.getElem?_eq_some_iff.mp h
  rw [← e, List.getElem_cons_drop]
theorem item_at {x : Str} {i c : Nat} (hi : (i : Int) ≠ 0) (h : x.cps.toList[i - 1]? = some c) : Txt.item x ((i : Int) - 1) = ⟨#[c]⟩ :=
  item_meets (by omega) (by rw [show ((i : Int) - 1).toNat = i - 1 by omega]; simpa using h)
theorem sign_append (c : Nat) (r : Str) : ((⟨#[c]⟩ : Str) ++ r).cps.toList = c :: r.cps.toList := by
  show (#[c] ++ r.cps).toList = _
  simp
end Mine
end

section -- Cr
set_option Elab.async false
set_option maxRecDepth 100000
set_option maxHeartbeats 2000000
namespace Mine
open PySem PySem.W PySem.Spec PySem.Calls PyProof.Rows

section
variable {prog : Program} {w : World} {A : Around} {s : Shared} {env : Env} {h₀ : Heap} {L : Addr} {m : Str → Option Value} {elt : Expr} {x : Str} {scope : Scope} {cl : List (Str × Addr)}
  {Fin : List Value → List (Addr × Obj) → Prop} {P : Nat → Value → Prop}

/-- what a turn's element comes to: a new list -/
def RowPost (h₀ : Heap) (L : Addr) (m : Str → Option Value) (s : Shared) (Pv : List Value → Prop) (nx : List (Addr × Obj)) (y : Value) (s' : Shared) : Prop :=
  ∃ a vals h' tk', y = .ref a ∧ Pv vals ∧ s' = { s with heap := h', toks := tk' } ∧ Fr h₀ L h' m ∧ News h₀ L h' ((a, W.listOf (List.toArray vals) 0) :: nx) ∧ ∀ p ∈ nx, p.1 < a

/-- a list comprehension that makes a new list at each turn -/
theorem restU_rows (n : Nat) (Pv : List Value → Prop) (base : List (Addr × Obj))
    (helt : ∀ news I oI C oC D oD m₂ h tk (E' : Value → Shared → Prop), (∀ p ∈ base, p ∈ news) → LCg.NsObj oC m₂ → Fr h₀ L h m → News h₀ L h ((I, oI) :: (C, oC) :: (D, oD) :: news) →
      wpAny (model prog w) A (eval elt (compEnvC scope cl C env)) (RowPost h₀ L m s Pv ((I, oI) :: (C, oC) :: (D, oD) :: news)) E' { s with heap := h, toks := tk })
    (fin : ∀ R : List RowD, R.length = n → (∀ r ∈ R, Pv r.2.1) → (R.map (·.1)).Nodup → (∀ a ∈ R.map (·.1), ∀ p ∈ base, p.1 ≠ a) → Fin (refsOf R) (rowsLed R ++ base)) :
    LCg.CompRest prog w A h₀ L m env elt x scope cl s (fun _ => True) P Fin n 0 [] base := by
  have go : ∀ k (R : List RowD), k + R.length = n → (∀ r ∈ R, Pv r.2.1) → (R.map (·.1)).Nodup → (∀ a ∈ R.map (·.1), ∀ p ∈ base, p.1 ≠ a) →
      LCg.CompRest prog w A h₀ L m env elt x scope cl s (fun _ => True) P Fin k R.length (refsOf R) (rowsLed R ++ base) := by
    intro k
    induction k with
    | zero =>
      intro R hi hr hn hd
      exact LCg.CompRest.zero (fin R (by omega) hr hn hd)
    | succ k ih =>
      intro R hi hr hn hd
      refine LCg.CompRest.succ fun v I oI C oC D m₂ h tk E' hv hC hx F N off ne => ?_
      refine wpAny_mono (helt _ I oI C oC D _ m₂ h tk E' (fun p hp => List.mem_append_right _ hp) hC F N) (fun y s' hs' => ?_) fun _ _ e => e
      obtain ⟨a, vals, h', tk', rfl, hpv, rfl, F', N', hlt⟩ := hs'
      have hlt' : ∀ p ∈ rowsLed R ++ base, p.1 < a := fun p hp => hlt p (.tail _ (.tail _ (.tail _ hp)))
      have nx := ih (R ++ [(a, vals, 0)]) (by simp; omega) (fun r hm => by
        rcases List.mem_append.mp hm with hm | hm
        · exact hr r hm
        · rw [List.mem_singleton.mp hm]; exact hpv) (by
        rw [List.map_append, List.nodup_append]
        refine ⟨hn, by simp, fun b hb c hc q => ?_⟩
        have hc' : c = a := by simpa using hc
        obtain ⟨o, ho⟩ := addr_led hb
        have := hlt' _ (List.mem_append_left _ ho)
        rw [q, hc'] at this
        exact Nat.lt_irrefl _ this) (fun b hb p hp q => by
        rw [List.map_append, List.mem_append] at hb
        rcases hb with hb | hb
        · exact hd b hb p hp q
        · have hb' : b = a := by simpa using hb
          have := hlt' p (List.mem_append_right _ hp)
          rw [q, hb'] at this
          exact Nat.lt_irrefl _ this)
      have e1 : (R ++ [(a, vals, 0)]).length = R.length + 1 := by simp
      have e2 : refsOf (R ++ [(a, vals, 0)]) = refsOf R ++ [.ref a] := by unfold refsOf; rw [List.map_append]; rfl
      rw [e1, e2] at nx
      refine ⟨h', tk', rowsLed (R ++ [(a, vals, 0)]) ++ base, rfl, F', fun p hp => N' p ?_, ?_, trivial, nx⟩
      · rw [rowsLed_append] at hp
        simp only [List.mem_cons, List.mem_append] at hp ⊢
        grind [rowsLed]
      · refine LCg.Off3.of fun p hp => ?_
        rw [rowsLed_append, List.append_assoc, List.mem_append] at hp
        have old : p ∈ rowsLed R ++ base → p.1 ≠ I ∧ p.1 ≠ C ∧ p.1 ≠ D := fun hp => off.mem p hp
        rcases hp with hp | hp
        · exact old (List.mem_append_left _ hp)
        · rcases List.mem_append.mp hp with hp | hp
          · rw [List.mem_singleton.mp hp]
            exact ⟨Nat.ne_of_gt (hlt _ (.head _)), Nat.ne_of_gt (hlt _ (.tail _ (.head _))), Nat.ne_of_gt (hlt _ (.tail _ (.tail _ (.head _))))⟩
          · exact old (List.mem_append_right _ hp)
  exact go n [] (by simp) (by simp) (by simp) (by simp)
end
end Mine
end

section -- C6
set_option Elab.async false
set_option maxRecDepth 100000
set_option maxHeartbeats 1000000
namespace Mine
open PySem PySem.W PySem.Spec PySem.Calls PyProof.Rows
local macro_rules | `(tactic| walk_at "exec Assign cons ListComp") => `(tactic| (k_here; k_dflt (refine LCg.Assign_ListComp_U (F₀ := by k_asm) (by rfl) (by with_unfolding_all rfl) (by with_unfolding_all rfl) (by decide) (by rfl) (by decide) (by rfl) (by rfl) (by rfl) ?_)))
local macro_rules | `(tactic| k_all) => `(tactic| with_reducible assumption)

local macro_rules | `(tactic| walk_at "call builtin:len") => `(tactic| (k_here; (with_reducible show wpAny _ _ (call (Value.builtin "len") [Value.str _ _]) _ _ _); k_dflt (refine' PySem.P.len_str ?p ?_; (case p => omega))))

local macro_rules | `(tactic| walk_at "eval Name") => `(tactic| (k_here; (with_reducible show wpAny _ _ (eval (Expr.Name (Str.ofString "seq2") _) (compEnvC _ _ _ _)) _ _ _); k_dflt (refine' lcf_cell ?N ?c ?m ?d ?_ ?a ?b; (case a => rfl); (case b => rfl); (case N => assumption); (case c => rfl); (case m => exact List.mem_cons_of_mem _ (List.mem_cons_of_mem _ (List.mem_cons_of_mem _ (List.mem_cons_of_mem _ (by assumption))))); (case d => assumption); k_whole)))

theorem flat_rep (n : Nat) : (List.replicate n [(0 : Int)]).flatten = List.replicate n 0 := by
  induction n with
  | zero => rfl
  | succ n ih => rw [List.replicate_succ, List.flatten_cons, ih, List.replicate_succ]; rfl

theorem item_ref {prog : Program} {w : World} {A : Around} {E : Value → Shared → Prop} {s : Shared} {h₀ : Heap} {L l : Addr} {news : List (Addr × Obj)} {value slice : PySem.Expr} {vs : List Value} {n : Nat} {k : Int} {u : Tok} {v : Addr} {Q : Value → Shared → Prop} (N : News h₀ L s.heap news) (hm : (l, W.listOf vs.toArray n) ∈ news)
    (h0 : 0 ≤ k) (hhi : k < 2 ^ 63) (hx : vs[k.toNat]? = some (.ref v)) (h : Q (.ref v) s)
    (hs : subscripted slice false (.ref l) (.int k u) = operate [.ref l, .int k u] (getItem (.ref l) (.int k u)) := by with_unfolding_all rfl) :
    wpAny (model prog w) A (subscriptTail value slice (.ref l) (.int k u)) Q E s :=
  have hl := News.isList N hm
  tail_any hl.typeIs slot_list_getitem.lookup (wpAny_getItem_list hl h0 hhi (by simpa using hx) h) hs
local macro_rules | `(tactic| walk_at "subscriptTail") => `(tactic| (k_here; (with_reducible show wpAny _ _ (subscriptTail _ _ (Value.ref _) (Value.int _ _)) _ _ _); k_dflt (refine' item_ref ?N ?m ?a ?b ?x ?_ ?s; (case N => k_asm); (case m => k_memK); (case x => with_reducible assumption); (case a => omega); (case b => omega); (case s => with_unfolding_all rfl); k_whole)))

theorem dynamic_cc {w : World} {mean : ExcName → Option Value} {mg mb : Str → Option Value} (self : Value) (x y : Str) (tx ty : Tok) (hx : x.length ≤ 20) (hy : y.length ≤ 20) :
    CC w mean mg mb 203 5 50 ⟨[self, .str x tx, .str y ty], []⟩ (fun _ => True) [] (fun v nu' => nu' = [] ∧ ∃ r t, v = .str r t ∧ IsLcs x.cps.toList y.cps.toList r.cps.toList) := by
  w_top off
  have hlaw : PySem.Challenge.rw_ag5023_01 = PySem.Challenge.rw_ag5023_01 := rfl
  unfold CC
  k_fill
  intro dp un gd outer base g s R hd hu B X T sub hsz N pre ret
  k_dflt (refine' enter_cells ?k1 ?k2 ?k3 ?k4 ?k5 ?k6 ?k7 ?k8 ?k9 ?k10 ?k11 ?k12 ?k13 ?k14 ?k15; (case k1 => omega); (case k2 => exact X); (case k3 => exact T); (case k4 => exact sub); (case k5 => exact hsz); (case k6 => exact N); (case k7 => k_is); (case k8 => k_is); (case k9 => exact BindsTo.of_eq rfl); (case k10 => exact rfl); (case k11 => decide); (case k13 => rfl); (case k14 => rfl); (case k15 => rfl))
  intro L' h' tk' cells' F' N' Y' l1
  clear N
  k_cells Y'
  rename_i oc0 d1
  replace d1 : oc0.data = Data.cell (some (Value.str y ty)) := d1
  try simp only [List.cons_append, List.nil_append] at N'
  try dsimp only
  try k_fold
  repeat' (first | (fail_if_success (with_reducible show LCg.CompSrc _ _ _ _ _ _ _ _ _ _ _ _ _ _)); (first | (k_unfold; (try dsimp only)) | (k_end; wrow_close) | walk1 | (dsimp only; walk1)))
  rename Fr _ _ _ _ => F₁
  rename News _ _ _ _ => N₁
  rename IsRange _ _ _ _ _ _ _ _ => rgX
  refine LCg.CompSrc.range (n := x.length + 1) rfl F₁ N₁ rgX (small_one (by omega) (by omega) (by omega) (by omega)) (rangeSize_nat _ _) (by rw [PySem.sizeLine_eq]; omega) ?_
  intro g9
  refine restU_rows (x.length + 1) (fun vals => IntsAre vals (List.replicate (y.length + 1) 0)) _ ?_ ?_
  · intro news I oI C oC D oD m₂ h tk E' hb hC F N
    have hmm := hb _ (.head _)
    k_steps
    rename Fr _ _ _ _ => F9
    rename News _ _ _ _ => N9
    rename IntsAre _ _ => i9
    rename (_ ∧ _) => l9
    refine ⟨_, _, _, _, rfl, ?_, rfl, F9, kst_newsOf N9 (List.forall_mem_cons.mpr ⟨.head _, fun p hp => .tail _ (.tail _ hp)⟩), ?_⟩
    · have e : (List.replicate ((y.length : Int) + 1).toNat [(0 : Int)]).flatten = List.replicate (y.length + 1) 0 := by
        rw [show ((y.length : Int) + 1).toNat = y.length + 1 by omega]
        exact flat_rep _
      rw [← e]
      exact i9
    · obtain ⟨_, q1, q2, q3, q4⟩ := l9
      exact List.forall_mem_cons.mpr ⟨q1, List.forall_mem_cons.mpr ⟨q2, List.forall_mem_cons.mpr ⟨q3, fun p hp => kst_ltOf q4 p hp⟩⟩⟩
  · intro R hRl hRv hRn hRb D9 h9 tk9 F9 N9 o9
    clear F₁ N₁
    k_steps
    rename PairSrcL _ _ _ _ _ _ _ _ _ _ _ _ => S1
    refine (S1.at _ rfl) _ _ _ _ (fun i m nx => ∃ R' : List RowD, m (Str.ofString "lengths") = some (.ref D9) ∧ m (Str.ofString "seq1") = some (.str x tx) ∧ nx = (D9, LCg.lst (refsOf R)) :: (rowsLed R' ++ [(L' + 1, oc0)]) ∧ R'.map (·.1) = R.map (·.1) ∧ ∀ k r, R'[k]? = some r → IntsAre r.2.1 (rowOut x.cps.toList y.cps.toList i k)) ?_ ?_ ?_
    · refine ⟨R, rfl, rfl, rfl, rfl, fun k r hk => ?_⟩
      have h1 := hRv r (List.mem_of_getElem? hk)
      unfold rowOut
      by_cases hk0 : k ≤ 0
      · have : k = 0 := by omega
        subst this
        rw [if_pos (Nat.le_refl _), rowF_top]
        simpa [Str.length] using h1
      · rw [if_neg hk0, rowF_zero]
        simpa [Str.length] using h1
    · rintro i a t v m₁ nx₁ s₁ own ⟨h10, tk10, rfl⟩ hga ⟨u, rfl⟩ ⟨R', hm1, hm2, rfl, hadr, hrows⟩ hfix hown F10 N10
      have hi10 : i < x.length := by have := (List.getElem?_eq_some_iff.mp hga).1; rw [signs_length] at this; exact this
      rw [tbl_map hm1, tbl_map hm2] at F10
      replace F10 : Fr g L' h10 _ := F10
      replace N10 : News g L' h10 _ := N10
      have N11 := kst_newsOf (l' := (D9, LCg.lst (refsOf R)) :: (L' + 1, oc0) :: (rowsLed R' ++ own)) N10 (fun p hp => by
        simp only [List.mem_cons, List.mem_append] at hp ⊢
        grind)
      clear N10 S1
      have hown1 : ∀ a ∈ R.map (·.1), ∀ p ∈ own, p.1 ≠ a := fun a ha p hp => by
        obtain ⟨o8, h8⟩ := addr_led ha
        exact hown p hp (a, o8) (.tail _ (List.mem_append_left _ h8))
      generalize hlo : rowsLed R' ++ own = lo at N11
      k_steps
      rename PairSrcL _ _ _ _ _ _ _ _ _ _ _ _ => S2
      refine (S2.at _ rfl) _ _ _ _ (fun j m nx => ∃ R2 : List RowD, m (Str.ofString "lengths") = some (.ref D9) ∧ m (Str.ofString "seq1") = some (.str x tx) ∧ m (Str.ofString "char1") = some (.str a u) ∧ m (Str.ofString "i") = some (.int i t) ∧ nx = (D9, LCg.lst (refsOf R)) :: (L' + 1, oc0) :: (rowsLed R2 ++ own) ∧ R2.map (·.1) = R.map (·.1) ∧ ∀ k r, R2[k]? = some r → IntsAre r.2.1 (rowIn x.cps.toList y.cps.toList i j k)) ?_ ?_ ?_
      · refine ⟨R', rfl, rfl, rfl, rfl, by rw [hlo], hadr, fun k r hk => ?_⟩
        have h1 := hrows k r hk
        unfold rowOut at h1
        unfold rowIn
        by_cases hk0 : k ≤ i
        · rw [if_pos hk0] at h1 ⊢; exact h1
        · rw [if_neg hk0] at h1 ⊢
          split <;> exact h1
      · rintro j a2 t2 v2 m₂ nx₂ s₂ own2 ⟨h12, tk12, rfl⟩ hga2 ⟨u2, rfl⟩ ⟨R2, hm3, hm4, hm5, hm6, rfl, hadr2, hrows2⟩ hfix2 hown2 F12 N12
        have hj10 : j < y.length := by have := (List.getElem?_eq_some_iff.mp hga2).1; rw [signs_length] at this; exact this
        rw [tbl_map hm3, tbl_map hm4, tbl_map hm5, tbl_map hm6] at F12
        replace F12 : Fr g L' h12 _ := F12
        replace N12 : News g L' h12 _ := N12
        clear S2
        have hlen2 : R2.length = x.length + 1 := by rw [← List.length_map (f := fun r : RowD => r.1), hadr2, List.length_map, hRl]
        obtain ⟨P, a0, v0, n0, a1, v1, n1, S, rfl, hP⟩ := two_split R2 i (by omega)
        have hg0 : (P ++ (a0, v0, n0) :: (a1, v1, n1) :: S)[i]? = some (a0, v0, n0) := by rw [List.getElem?_append_right (by omega), hP, Nat.sub_self]; rfl
        have hg1 : (P ++ (a0, v0, n0) :: (a1, v1, n1) :: S)[i + 1]? = some (a1, v1, n1) := by rw [List.getElem?_append_right (by omega), hP, Nat.add_sub_cancel_left]; rfl
        have i0 : IntsAre v0 (rowF x.cps.toList y.cps.toList i y.cps.toList.length) := by have := hrows2 i _ hg0; unfold rowIn at this; rwa [if_pos (Nat.le_refl _)] at this
        have i1 : IntsAre v1 (rowF x.cps.toList y.cps.toList (i + 1) j) := by have := hrows2 (i + 1) _ hg1; unfold rowIn at this; rwa [if_neg (by omega), if_pos rfl] at this
        have hx0 : (refsOf R)[((i : Int)).toNat]? = some (.ref a0) := refs_get hadr2 (by rw [Int.toNat_natCast]; exact hg0)
        have hx1 : (refsOf R)[((i : Int) + 1).toNat]? = some (.ref a1) := refs_get hadr2 (by rw [show ((i : Int) + 1).toNat = i + 1 by omega]; exact hg1)
        have hnd := hadr2 ▸ hRn
        have hm1a : a1 ∈ R.map (·.1) := by rw [← hadr2]; simp
        have h01 : @Ne Nat a0 a1 := by
          rw [List.map_append, List.nodup_append] at hnd
          intro q
          exact (List.nodup_cons.mp hnd.2.1).1 (by rw [q]; exact .head _)
        have hD1 : @Ne Nat D9 a1 := by
          obtain ⟨o8, h8⟩ := addr_led hm1a
          have : ∀ {l : List (Addr × Obj)}, LCg.Off1 D9 l → ∀ p ∈ l, p.1 ≠ D9 := by
            intro l
            induction l with
            | nil => intro _ p hp; cases hp
            | cons q l ih =>
              intro h p hp
              rcases List.mem_cons.mp hp with rfl | hp
              · exact h.1
              · exact ih h.2 p hp
          exact fun q => this o9 _ (List.mem_append_left _ h8) q.symm
        have hL1 : @Ne Nat (L' + 1) a1 := hRb a1 hm1a _ (.head _)
        have N13 := kst_newsOf (l' := (a1, W.listOf v1.toArray n1) :: (a0, W.listOf v0.toArray n0) :: (D9, LCg.lst (refsOf R)) :: (L' + 1, oc0) :: (rowsLed P ++ rowsLed S ++ own ++ own2)) N12 (fun p hp => by
          rw [rowsLed_append, rowsLed_cons, rowsLed_cons]
          exact mem_shuf1.mpr hp)
        have hoffs : ∀ p ∈ rowsLed P ++ rowsLed S ++ own ++ own2, p.1 ≠ a1 := by
          intro p hp q
          rw [List.map_append, List.nodup_append] at hnd
          rcases List.mem_append.mp hp with hp | hp
          · rcases List.mem_append.mp hp with hp | hp
            · rcases List.mem_append.mp hp with hp | hp
              · exact hnd.2.2 _ (led_addr hp) a1 (.tail _ (.head _)) q
              · exact (List.nodup_cons.mp (List.nodup_cons.mp hnd.2.1).2).1 (q ▸ led_addr hp)
            · exact hown1 a1 hm1a p hp q
          · obtain ⟨o8, h8⟩ := addr_led (hadr ▸ hm1a : a1 ∈ R'.map (·.1))
            exact hown2 p hp (a1, o8) (.tail _ (.tail _ (by rw [← hlo]; exact List.mem_append_left _ h8))) q
        have hb0 := rowF_length x.cps.toList y.cps.toList i y.cps.toList.length
        have hb1 := rowF_length x.cps.toList y.cps.toList (i + 1) j
        have hyl : y.cps.toList.length = y.length := rfl
        generalize hlo4 : rowsLed P ++ rowsLed S ++ own ++ own2 = lo4 at *
        clear N12
        obtain ⟨c1, hc1, rfl⟩ := signs_at hga
        obtain ⟨c2, hc2, rfl⟩ := signs_at hga2
        have fin : ∀ (v3 : List Value) (n3 : Nat), IntsAre v3 (rowF x.cps.toList y.cps.toList (i + 1) (j + 1)) → (P ++ (a0, v0, n0) :: (a1, v3, n3) :: S).map (·.1) = R.map (·.1) ∧ ∀ k r, (P ++ (a0, v0, n0) :: (a1, v3, n3) :: S)[k]? = some r → IntsAre r.2.1 (rowIn x.cps.toList y.cps.toList i (j + 1) k) := by
          intro v3 n3 h3
          refine ⟨by rw [← hadr2]; simp, fun k r hk => ?_⟩
          by_cases hki : k = i + 1
          · subst hki
            rw [List.getElem?_append_right (by omega), hP, Nat.add_sub_cancel_left] at hk
            have hr : (a1, v3, n3) = r := Option.some.inj hk
            subst hr
            unfold rowIn
            rw [if_neg (by omega), if_pos rfl]
            exact h3
          · rw [get_other (x1 := (a1, v1, n1)) (by omega)] at hk
            rw [rowIn_other hki]
            exact hrows2 k r hk
        k_steps
        · rename (((⟨#[c1]⟩ : Str) == ⟨#[c2]⟩) = true) => heq
          have heq' : x.cps.toList[i]? = y.cps.toList[j]? := by
            have : c1 = c2 := by simpa using heq
            rw [hc1, hc2, this]
          rename Fr _ _ _ _ => F14
          rename News _ _ _ _ => N14
          rename IntsAre _ _ => i14
          rw [cell_eq (by omega) heq', show ((j : Int) + 1).toNat = j + 1 by omega] at i14 N14
          rw [rowF_set] at i14
          obtain ⟨f1, f2⟩ := fin _ n1 i14
          refine LoopStep2.intro (news₂ := (D9, LCg.lst (refsOf R)) :: (L' + 1, oc0) :: (rowsLed (P ++ (a0, v0, n0) :: (a1, _, n1) :: S) ++ own)) F14 (kst_newsOf N14 fun p hp => ?_) ?_ ⟨_, rfl, rfl, rfl, rfl, rfl, f1, f2⟩
          · rw [rowsLed_append, rowsLed_cons, rowsLed_cons] at hp
            rw [← hlo4]
            exact mem_shuf1.mp hp
          · simp [rowsLed_append, rowsLed_cons]
        · rename (((⟨#[c1]⟩ : Str) == ⟨#[c2]⟩) = false) => heq
          have heq' : x.cps.toList[i]? ≠ y.cps.toList[j]? := by
            have : c1 ≠ c2 := by simpa using heq
            rw [hc1, hc2]
            exact fun q => this (Option.some.inj q)
          rename Fr _ _ _ _ => F14
          rename News _ _ _ _ => N14
          rename IntsAre _ _ => i14
          rw [cell_ne (by omega) heq', show ((j : Int) + 1).toNat = j + 1 by omega] at i14 N14
          rw [rowF_set] at i14
          obtain ⟨f1, f2⟩ := fin _ n1 i14
          refine LoopStep2.intro (news₂ := (D9, LCg.lst (refsOf R)) :: (L' + 1, oc0) :: (rowsLed (P ++ (a0, v0, n0) :: (a1, _, n1) :: S) ++ own)) F14 (kst_newsOf N14 fun p hp => ?_) ?_ ⟨_, rfl, rfl, rfl, rfl, rfl, f1, f2⟩
          · rw [rowsLed_append, rowsLed_cons, rowsLed_cons] at hp
            rw [← hlo4]
            exact mem_shuf1.mp hp
          · simp [rowsLed_append, rowsLed_cons]
      · rintro h12 tk12 m₂ nx₂ F12 N12 hfix2 ⟨R2, hm3, hm4, hm5, hm6, rfl, hadr2, hrows2⟩
        rw [tbl_map hm3, tbl_map hm4] at F12
        replace F12 : Fr g L' h12 _ := F12
        replace N12 : News g L' h12 _ := N12
        clear S2
        dsimp only
        k_steps
        rename Fr _ _ _ _ => F14
        rename News _ _ _ _ => N14
        refine LoopStep2.intro (news₂ := (D9, LCg.lst (refsOf R)) :: (rowsLed R2 ++ [(L' + 1, oc0)])) F14 (kst_newsOf N14 fun p hp => mem_shuf2.mp hp) ?_ ⟨R2, rfl, rfl, rfl, hadr2, fun k r hk => ?_⟩
        · simp only [List.map_cons, List.map_append, List.map_nil]
          rw [led_addrs, led_addrs, hadr, hadr2]
        · have h1 := hrows2 k r hk
          rw [signs_length] at h1
          rw [← rowIn_done]
          exact h1
    · rintro h10 tk10 m₁ nx₁ F10 N10 hfix ⟨R', hm1, hm2, rfl, hadr, hrows⟩
      rw [signs_length] at hrows
      have hrowsD : ∀ k r, R'[k]? = some r → IntsAre r.2.1 (rowOut x.cps.toList y.cps.toList x.cps.toList.length k) := hrows
      rw [tbl_map hm1, tbl_map hm2] at F10
      replace F10 : Fr g L' h10 _ := F10
      replace N10 : News g L' h10 _ := N10
      clear S1
      have hlen2 : R'.length = x.length + 1 := by rw [← List.length_map (f := fun r : RowD => r.1), hadr, List.length_map, hRl]
      generalize hlo : rowsLed R' ++ [(L' + 1, oc0)] = lo at N10
      have hmc : (L' + 1, oc0) ∈ lo := by rw [← hlo]; simp
      have N11 := kst_newsOf (l' := (D9, LCg.lst (refsOf R)) :: (L' + 1, oc0) :: lo) N10 (fun p hp => by
        rcases List.mem_cons.mp hp with rfl | hp
        · exact .head _
        · rcases List.mem_cons.mp hp with rfl | hp
          · exact .tail _ hmc
          · exact .tail _ hp)
      clear N10
      dsimp only
      repeat' (first | (fail_if_success (with_reducible show wpAny _ _ (exec (Stmt.While _ _ _ _) _) _ _ _)); (first | (k_unfold; (try dsimp only)) | (k_end; wrow_close) | walk1 | (dsimp only; walk1)))
      rename Fr _ _ _ _ => F12
      rename News _ _ _ _ => N12
      clear hrows hfix hRv
      refine While_inv2 (fun nn m nx => ∃ (i j : Nat) (ti tj tr : Tok) (r : Str), m (Str.ofString "lengths") = some (.ref D9) ∧ m (Str.ofString "seq1") = some (.str x tx) ∧ m (Str.ofString "i") = some (.int i ti) ∧ m (Str.ofString "j") = some (.int j tj) ∧ m (Str.ofString "result") = some (.str r tr) ∧ nx = (D9, LCg.lst (refsOf R)) :: (L' + 1, oc0) :: lo ∧ i ≤ x.length ∧ j ≤ y.length ∧ r.cps.toList.Sublist (x.cps.toList.drop i) ∧ r.cps.toList.Sublist (y.cps.toList.drop j) ∧ r.length + dyn x.cps.toList y.cps.toList i j = dyn x.cps.toList y.cps.toList x.length y.length ∧ nn = i + j) (n₀ := x.length + y.length) F12 (kst_newsOf (l' := (D9, LCg.lst (refsOf R)) :: (L' + 1, oc0) :: lo) N12 fun p hp => .tail _ hp) ?_ ?_ PassesOwn.never
      · refine ⟨x.length, y.length, _, _, _, Str.ofString "", rfl, rfl, rfl, rfl, rfl, rfl, Nat.le_refl _, Nat.le_refl _, ?_, ?_, ?_, rfl⟩
        · rw [show (Str.ofString "").cps.toList = [] from by decide +kernel]; exact List.nil_sublist _
        · rw [show (Str.ofString "").cps.toList = [] from by decide +kernel]; exact List.nil_sublist _
        · rw [show (Str.ofString "").length = 0 from by decide +kernel, Nat.zero_add]
      · rintro nn m₂ nx₂ h12 tk12 F13 N13 ⟨i, j, ti, tj, tr, r, hm3, hm4, hm5, hm6, hm7, rfl, hi, hj, hr1, hr2, hrd, rfl⟩
        clear F12 N12
        rw [tbl_map hm3, tbl_map hm4, tbl_map hm5, tbl_map hm6, tbl_map hm7] at F13
        obtain ⟨⟨a0, v0, n0⟩, hg0⟩ : ∃ r, R'[i]? = some r := ⟨_, List.getElem?_eq_getElem (by omega)⟩
        obtain ⟨⟨a1, v1, n1⟩, hg1⟩ : ∃ r, R'[i - 1]? = some r := ⟨_, List.getElem?_eq_getElem (by omega)⟩
        have hxl : x.cps.toList.length = x.length := rfl
        have hyl : y.cps.toList.length = y.length := rfl
        have i0 : IntsAre v0 (rowF x.cps.toList y.cps.toList i y.cps.toList.length) := by have := hrowsD i _ hg0; rwa [rowOut_done hi] at this
        have i1 : IntsAre v1 (rowF x.cps.toList y.cps.toList (i - 1) y.cps.toList.length) := by have := hrowsD (i - 1) _ hg1; rwa [rowOut_done (by omega)] at this
        have hx0 : (refsOf R)[((i : Int)).toNat]? = some (.ref a0) := refs_get hadr (by rw [Int.toNat_natCast]; exact hg0)
        have hx1 : (refsOf R)[((i : Int) - 1).toNat]? = some (.ref a1) := refs_get hadr (by rw [show ((i : Int) - 1).toNat = i - 1 by omega]; exact hg1)
        have N14 := kst_newsOf (l' := (a0, W.listOf v0.toArray n0) :: (a1, W.listOf v1.toArray n1) :: (D9, LCg.lst (refsOf R)) :: (L' + 1, oc0) :: lo) N13 (fun p hp => by
          rcases List.mem_cons.mp hp with rfl | hp
          · exact .tail _ (.tail _ (by rw [← hlo]; exact List.mem_append_left _ (List.mem_map.mpr ⟨_, List.mem_of_getElem? hg0, rfl⟩)))
          · rcases List.mem_cons.mp hp with rfl | hp
            · exact .tail _ (.tail _ (by rw [← hlo]; exact List.mem_append_left _ (List.mem_map.mpr ⟨_, List.mem_of_getElem? hg1, rfl⟩)))
            · exact hp)
        have hb0 := rowF_length x.cps.toList y.cps.toList i y.cps.toList.length
        have hb1 := rowF_length x.cps.toList y.cps.toList (i - 1) y.cps.toList.length
        clear N13
        have hrl : r.length ≤ 20 := by have := dyn_le x.cps.toList y.cps.toList x.length y.length; omega
        k_steps
        · rename ((_ : Int) = _) => heq
          rename Fr _ _ _ _ => F14
          have hd := back_up hi hj heq
          rename (((i : Nat) : Int) ≠ 0) => hi0
          rw [show (i : Int) - 1 = ((i - 1 : Nat) : Int) by omega] at F14
          refine ⟨_, _, _, (D9, LCg.lst (refsOf R)) :: (L' + 1, oc0) :: lo, i - 1 + j, rfl, F14, kst_newsOf (by assumption) fun p hp => .tail _ (.tail _ hp), by omega, i - 1, j, _, _, _, r, rfl, rfl, rfl, rfl, rfl, rfl, by omega, hj, hr1.trans (List.drop_sublist_drop_left _ (by omega)), hr2, by omega, rfl⟩
        · rename ((_ : Int) = _) => heq
          rename Fr _ _ _ _ => F14
          rename (((j : Nat) : Int) ≠ 0) => hj0
          have hd := back_left hj0 hj heq
          rw [show (j : Int) - 1 = ((j - 1 : Nat) : Int) by omega] at F14
          refine ⟨_, _, _, (D9, LCg.lst (refsOf R)) :: (L' + 1, oc0) :: lo, i + (j - 1), rfl, F14, kst_newsOf (by assumption) fun p hp => .tail _ (.tail _ hp), by omega, i, j - 1, _, _, _, r, rfl, rfl, rfl, rfl, rfl, rfl, hi, by omega, hr1, hr2.trans (List.drop_sublist_drop_left _ (by omega)), by omega, rfl⟩
        · rename (((i : Nat) : Int) ≠ 0) => hi0
          rename (((j : Nat) : Int) ≠ 0) => hj0
          rename ((rowF x.cps.toList y.cps.toList i y.cps.toList.length).getD ((j : Int)).toNat 0 ≠ (rowF x.cps.toList y.cps.toList (i - 1) y.cps.toList.length).getD ((j : Int)).toNat 0) => hne1
          rename ((rowF x.cps.toList y.cps.toList i y.cps.toList.length).getD ((j : Int)).toNat 0 ≠ (rowF x.cps.toList y.cps.toList i y.cps.toList.length).getD ((j : Int) - 1).toNat 0) => hne2
          obtain ⟨c, hc1, hc2, hd⟩ := back_both hi0 hj0 hi hj hne1 hne2
          rename Fr _ _ _ _ => F14
          rw [item_at hi0 hc1, show (i : Int) - 1 = ((i - 1 : Nat) : Int) by omega, show (j : Int) - 1 = ((j - 1 : Nat) : Int) by omega] at F14
          refine ⟨_, _, _, (D9, LCg.lst (refsOf R)) :: (L' + 1, oc0) :: lo, i - 1 + (j - 1), rfl, F14, kst_newsOf (by assumption) fun p hp => .tail _ (.tail _ hp), by omega, i - 1, j - 1, _, _, _, _, rfl, rfl, rfl, rfl, rfl, rfl, by omega, by omega, ?_, ?_, ?_, rfl⟩
          · rw [sign_append, drop_pred hi0 hc1]; exact hr1.cons_cons c
          · rw [sign_append, drop_pred hj0 hc2]; exact hr2.cons_cons c
          · have : ((⟨#[c]⟩ : Str) ++ r).length = r.length + 1 := by
              show ((⟨#[c]⟩ : Str) ++ r).cps.size = _
              rw [← Array.length_toList, sign_append]; rfl
            omega
        · rename (((i : Nat) : Int) ≠ 0) => hi0
          rename (((j : Nat) : Int) ≠ 0) => hj0
          rename ((rowF x.cps.toList y.cps.toList i y.cps.toList.length).getD ((j : Int)).toNat 0 ≠ (rowF x.cps.toList y.cps.toList (i - 1) y.cps.toList.length).getD ((j : Int)).toNat 0) => hne1
          rename ((rowF x.cps.toList y.cps.toList i y.cps.toList.length).getD ((j : Int)).toNat 0 ≠ (rowF x.cps.toList y.cps.toList i y.cps.toList.length).getD ((j : Int) - 1).toNat 0) => hne2
          rename ((Txt.item x ((i : Int) - 1) == Txt.item y ((j : Int) - 1)) = false) => hf
          obtain ⟨c, hc1, hc2, hd⟩ := back_both hi0 hj0 hi hj hne1 hne2
          rw [item_at hi0 hc1, item_at hj0 hc2] at hf
          simp at hf
        · dsimp only
          rename (((j : Nat) : Int) = 0) => hj0
          have hj0' : j = 0 := by omega
          subst hj0'
          rw [dyn_zero', Nat.add_zero] at hrd
          rename Fr _ _ _ _ => F14
          exact ret _ _ _ [] F14.keep (fun _ h => nomatch h) ⟨rfl, r, _, rfl, isLcs_of (hr1.trans (List.drop_sublist _ _)) (by simpa using hr2) hrd⟩
        · dsimp only
          rename (((i : Nat) : Int) = 0) => hi0
          have hi0' : i = 0 := by omega
          subst hi0'
          rw [dyn_zero, Nat.add_zero] at hrd
          rename Fr _ _ _ _ => F14
          exact ret _ _ _ [] F14.keep (fun _ h => nomatch h) ⟨rfl, r, _, rfl, isLcs_of (by simpa using hr1) (hr2.trans (List.drop_sublist _ _)) hrd⟩
end Mine
end

section -- Dr
open PySem PySem.W PySem.Spec PySem.Calls PyProof.Rows
set_option Elab.async false
set_option maxRecDepth 100000
set_option maxHeartbeats 8000000
namespace Mine
theorem execs_app (env : Env) : ∀ a b : List Stmt, execs (a ++ b) env = (execs a env >>= fun fl => match fl with | .next => execs b env | f => pure f)
  | [], b => by rw [List.nil_append, execs_nil, pure_bind]
  | st :: a, b => by
    rw [List.cons_append, execs_cons, execs_cons, bind_assoc]
    congr 1
    funext fl
    cases fl
    case next => exact execs_app env a b
    all_goals rw [pure_bind]
theorem execs_split {M : Model} {A : Around} {E : Value → Shared → Prop} {Q : Flow → Shared → Prop} {env : Env} {s : Shared} {s1 s2 s3 : Stmt} {r : List Stmt} (J : Shared → Prop)
    (h1 : wpAny M A (execs [s1, s2, s3] env) (fun fl s' => fl = .next ∧ J s') E s) (h2 : ∀ s', J s' → wpAny M A (execs r env) Q E s') : wpAny M A (execs (s1 :: s2 :: s3 :: r) env) Q E s := by
  rw [show s1 :: s2 :: s3 :: r = [s1, s2, s3] ++ r from rfl, execs_app]
  refine wpAny_bind (wpAny_mono h1 (fun fl s' h => ?_) fun _ _ h => h)
  obtain ⟨rfl, h⟩ := h
  exact h2 s' h

theorem off_lt {a : Addr} {o : Obj} {l : List (Addr × Obj)} (h : ∀ p ∈ l, p.1 < a) : ∀ p ∈ l, p.1 ∉ [(a, o)].map (·.1) := fun p hp q => by
  have h1 : p.1 = a := by simpa using q
  exact Nat.ne_of_lt (h p hp) h1
theorem off4 {a x1 x2 x3 x4 : Addr} {o o1 o2 o3 o4 : Obj} (h : x1 < a ∧ x2 < a ∧ x3 < a ∧ x4 < a) : ∀ p ∈ [(x1, o1), (x2, o2), (x3, o3), (x4, o4)], p.1 ∉ [(a, o)].map (·.1) :=
  off_lt (List.forall_mem_cons.mpr ⟨h.1, List.forall_mem_cons.mpr ⟨h.2.1, List.forall_mem_cons.mpr ⟨h.2.2.1, List.forall_mem_cons.mpr ⟨h.2.2.2, fun _ h => nomatch h⟩⟩⟩⟩)
theorem off5 {a x0 x1 x2 x3 x4 : Addr} {o o0 o1 o2 o3 o4 : Obj} (h : x0 < a ∧ x1 < a ∧ x2 < a ∧ x3 < a ∧ x4 < a) : ∀ p ∈ [(x0, o0), (x1, o1), (x2, o2), (x3, o3), (x4, o4)], p.1 ∉ [(a, o)].map (·.1) :=
  off_lt (List.forall_mem_cons.mpr ⟨h.1, List.forall_mem_cons.mpr ⟨h.2.1, List.forall_mem_cons.mpr ⟨h.2.2.1, List.forall_mem_cons.mpr ⟨h.2.2.2.1, List.forall_mem_cons.mpr ⟨h.2.2.2.2, fun _ h => nomatch h⟩⟩⟩⟩⟩)
theorem pre_base {h₀ h : Heap} {L lt a : Addr} {o : Obj} {m : Str → Option Value} {news : List (Addr × Obj)} {vs : List Value} {ns : List Int} (F : Fr h₀ L h m) (N : News h₀ L h news) (hm : (a, o) ∈ news) (l : h₀.IsList lt vs.toArray) (i : IntsAre vs ns) {nu : List (Addr × Obj)} (hnu : nu.map (·.1) = [a]) :
    ∀ g : Heap, (∀ b o, h.get? b = some o → b ∉ nu.map (·.1) → g.get? b = some o) → ∃ vs : List Value, g.IsList lt vs.toArray ∧ IntsAre vs ns := fun g hg => by
  refine ⟨vs, Heap.IsList.at l fun o e => hg lt o (F.keep lt o e) ?_, i⟩
  rw [hnu]
  intro q
  have h1 : lt = a := by simpa using q
  have := (N _ hm).2.2
  dsimp only at this
  rw [← h1, e] at this
  cases this
theorem pre_news {h₀ h : Heap} {L lt a : Addr} {n : Nat} {news : List (Addr × Obj)} {vs : List Value} {ns : List Int} (N : News h₀ L h news) (hm : (lt, listOf vs.toArray n) ∈ news) (hl : lt < a) (i : IntsAre vs ns) {nu : List (Addr × Obj)} (hnu : nu.map (·.1) = [a]) :
    ∀ g : Heap, (∀ b o, h.get? b = some o → b ∉ nu.map (·.1) → g.get? b = some o) → ∃ vs : List Value, g.IsList lt vs.toArray ∧ IntsAre vs ns := fun g hg => by
  refine ⟨vs, Heap.IsList.at (News.isList N hm) fun o e => hg lt o e ?_, i⟩
  rw [hnu]
  intro q
  have h1 : lt = a := by simpa using q
  exact Nat.ne_of_lt hl h1


/-- what stands after the draws -/
def Drawn (h₀ : Heap) (L : Addr) (s s' : Shared) : Prop :=
  ∃ (size : Nat) (m : Str → Option Value) (h : Heap) (tk : Nat) (o1 o2 o3 o4 : Obj) (r1 r2 : Addr) (rv1 rv2 : List Value) (rs1 rs2 : List Int) (n1 n2 : Nat) (t : Tok) (c4 : Option Value),
    s' = { s with heap := h, toks := tk } ∧ Fr h₀ L h m ∧ News h₀ L h [(r2, listOf rv2.toArray n2), (r1, listOf rv1.toArray n1), (L + 1 + 1 + 1 + 1, o4), (L + 1 + 1 + 1, o3), (L + 1 + 1, o2), (L + 1, o1)] ∧
    o4.data = Data.cell c4 ∧ o3.data = Data.cell (some (.ref r2)) ∧ o2.data = Data.cell (some (.ref r1)) ∧ o1.data = Data.cell (some (.int size t)) ∧ 1 ≤ size ∧ size ≤ 7 ∧
    IntsAre rv1 rs1 ∧ IntsAre rv2 rs2 ∧ rs1.Perm (ids size) ∧ rs2.Perm (ids size) ∧ @Ne Nat r2 r1 ∧ ltn (L + 1 + 1 + 1 + 1) r1 ∧ ltn (L + 1 + 1 + 1 + 1) r2

end Mine
end

section -- Sm
open PySem PySem.W PySem.Spec PySem.Calls PyProof.Rows
set_option Elab.async false
set_option maxRecDepth 100000
namespace Mine
section
variable {prog : Program} {w : World} {A : Around} {E : Value → Shared → Prop} {s : Shared} {K : Frag} {x C p L : Addr} {ox od : Obj} {name : Str} {h₀ : Heap} {m : Str → Option Value} {news : List (Addr × Obj)} {es : List DictEntry} {n : Nat} {expr : Bool} {Q : Value → Shared → Prop} {fv : Value} {rest : List Value}
theorem get_sm (F : Fr h₀ L s.heap m) (X₀ : K.In h₀) (I : InstAt s.heap x ox C (some (dictOf es n))) (hg : plainGet K C name = true) (hh : hasDictIn K C = true) (ha : findIn K (.ref C) name = some (some (.ref p)))
    (hgf : specialIn K (.ref p) "__get__" = some (some (.builtin "staticmethod.__get__"))) (hts : takesIn K (.ref p) = some false) (hc : copiedNames.contains name = false) (hl : getL name es = some none) (hp : recIn K p "staticmethod" = some (fv :: rest)) (hv : handedIn fv = true)
    (h : Q fv { s with toks := s.toks + 1 }) : wpAny (model prog w) A (getAttr (.ref x) name expr) Q E s :=
  (get_bind (X₀.keeps F.keep) I (plainGet_of hg).1 (findObj_fn hh ha hgf hts hc (by show lookIn name (dictOf es n) = _; rw [lookIn_dict, hl])) (plainGet_of hg).2
      (wpAny_call (sm_get (s := { s with toks := s.toks + 1 }) (X₀.keeps F.keep) hp (handed_on hv h))))
end
end Mine
end

section -- En
open PySem PySem.W PySem.Spec PySem.Calls PyProof.Rows
set_option Elab.async false
set_option maxRecDepth 100000
set_option maxHeartbeats 2000000
namespace Mine
theorem wp_peek1 {α : Type} {K : Frag} {M : Model} {A : Around} {E : Value → Shared → Prop} {Q : α → Shared → Prop} {s : Shared} {o : Obj} {r : Addr → α} (X : K.In s.heap)
    (q : Q (r s.heap.objs.size) { s with heap := s.heap.push o }) :
    ∀ (t : Sem α) (g : Addr → Option α), peek1 K ⟨M.prog, M.w.params⟩ t = some (o, g) → (∀ D, g D = some (r D)) → wpAny M A t Q E s := by
  intro t
  induction t with
  | rule _ k ih => intro g e hg Γ p hΓ; exact ih () g e hg Γ p hΓ
  | point _ k ih => intro g e hg Γ p hΓ; exact ih () g e hg Γ p hΓ
  | ask k ih => intro g e hg Γ p hΓ; exact ih _ g e hg Γ p hΓ
  | load a _ k ih =>
    intro g e hg Γ p hΓ
    simp only [peek1] at e
    split at e
    · rename_i ob ho; exact ⟨ob, X _ _ ho, ih ob g e hg Γ p hΓ⟩
    · cases e
  | alloc ob k _ =>
    intro g e hg
    have e : some (ob, fun D => peek K ⟨M.prog, M.w.params⟩ (k D)) = some (o, g) := e
    obtain ⟨e1, e2⟩ := Prod.mk.inj (Option.some.inj e)
    subst e1
    subst e2
    have X' : K.In (s.heap.push ob) := X.keeps fun b x hb => Heap.get?_push_of_some _ hb
    show wpAny M A (alloc ob >>= k) Q E s
    refine wpAny_bind (wpAny_alloc ?_)
    exact (Looks.of_peek (M := M) (h := s.heap.push ob) X' (hg s.heap.objs.size)).here (s := { s with heap := s.heap.push ob }) q
  | _ => intro g e; cases e

section
variable {w : World} {mean : ExcName → Option Value} {mg mb : Str → Option Value} {dp un : Nat} {gd : Option (List Code)} {outer : List Env} {base g : Heap} {s : Shared} {R : Result → Shared → Prop} {K : Frag}
  {name qual : Str} {params : Arguments} {body : List Stmt} {scope : Scope} {dV kV doc pm cdv ct oc : Value} {an od : Option Addr} {osl : Array (Option Value)} {f : Addr} {args : Args} {nu : List (Addr × Obj)} {prog : Program}
  {vs : List Value} {g₁ : Addr → Option (List (Str × Value))} {binds : Addr → List (Str × Value)}

/-- the entry of a def with a rest parameter -/
theorem enter_rest (hroom : dp < recursionLimit) (X : K.In g) (T : TopM mean mg mb g) (sub : ∀ b o, g.get? b = some o → s.heap.get? b = some o) (hsz : g.objs.size ≤ s.heap.objs.size) (N : Foot g s.heap nu)
    (ho : K.lookup f = some ⟨oc, od, .func (fnOf name qual params body scope dV kV doc pm an cdv ct), osl⟩) (hcd : codeIn K cdv qual = true)
    (hp : peek1 K ⟨prog, w.params⟩ (bindArgs (fnOf name qual params body scope dV kV doc pm an cdv ct) args) = some (({ cls := .type "tuple", data := .seq vs.toArray } : Obj), g₁))
    (hg : ∀ D, g₁ D = some (binds D)) (hloc : ∀ D, ∀ y ∈ binds D, scope.names.lookup y.1 = some .local)
    (h : ∀ D L' h₁, (∀ p ∈ nu, p.1 < D) → Fr g L' h₁ (fun y => (binds D).reverse.lookup y) → News g L' h₁ ((D, ({ cls := .type "tuple", data := .seq vs.toArray } : Obj)) :: nu) →
      wpAny (model prog w) ((ar dp un gd outer).deeper (envOf qual scope L' f cdv)) (execs body (envOf qual scope L' f cdv))
        (fun fl s' => R (.ok (.ret (match fl with | .ret v => v | _ => .none))) s') (fun _ _ => False) { s with heap := h₁, toks := s.toks + (binds D).length })
    (hcell : ∀ x ∈ scope.names, x.2 ≠ .cell) (hco : scope.isCoroutine = false) (hgen : scope.isGenerator = false) (hk : scope.kind = .function) :
    codeAny (model prog w) (ar dp un gd outer) (.call (.ref f) args) R s := by
  refine codeAny_call_function (fd := fnOf name qual params body scope dV kV doc pm an cdv ct) (body := body) hroom (sub _ _ (X _ _ ho)) rfl hco hgen rfl (codeRec_of (fun a o e => sub a o (X a o e)) hcd) ?_
  refine wp_peek1 (K := K) (o := ({ cls := .type "tuple", data := .seq vs.toArray } : Obj)) (r := binds) (fun a o e => sub a o (X a o e)) ?_ _ g₁ hp hg
  refine wpAny_newFunctionEnv hcell (hloc _) (fun h₁ hns hsb => ⟨((T.nolimit.keeps sub).keeps fun b o e => Heap.get?_push_of_some _ e).fresh _ hsb, codeAny_func ?_⟩) hk
  have hk₁ : ∀ b o, (s.heap.push ({ cls := .type "tuple", data := .seq vs.toArray } : Obj)).get? b = some o → h₁.get? b = some o := fun b o e => hsb.extBut b o (Nat.ne_of_lt (Heap.lt_size e)) (Heap.get?_push_of_some _ e)
  have hk₂ : ∀ b o, s.heap.get? b = some o → h₁.get? b = some o := fun b o e => hk₁ b o (Heap.get?_push_of_some _ e)
  have hsz2 : (s.heap.push ({ cls := .type "tuple", data := .seq vs.toArray } : Obj)).objs.size = s.heap.objs.size + 1 := Heap.size_push ..
  refine wpAny_noRaise (h s.heap.objs.size _ h₁ (fun p hp => Heap.lt_size (N p hp).1) ⟨hns, fun b o e => hk₂ b o (sub b o e), by rw [hsz2]; exact Nat.le_succ_of_le hsz⟩ (fun p hp => ?_))
  rcases List.mem_cons.mp hp with rfl | hp
  · refine ⟨hk₁ _ _ (Heap.get?_push_size _ rfl), ?_, ?_⟩
    · rw [hsz2]; exact Nat.ne_of_lt (Nat.lt_succ_self _)
    · cases q : g.get? s.heap.objs.size with
      | none => rfl
      | some o => exact absurd (Heap.lt_size q) (Nat.not_lt.mpr hsz)
  · refine ⟨hk₂ _ _ (N p hp).1, ?_, (N p hp).2⟩
    rw [hsz2]
    exact Nat.ne_of_lt (Nat.lt_succ_of_lt (Heap.lt_size (N p hp).1))
end
end Mine
end

section -- En2
open PySem PySem.W PySem.Spec PySem.Calls PyProof.Rows
set_option Elab.async false
set_option maxRecDepth 100000
set_option maxHeartbeats 2000000
namespace Mine
section
variable {M : Model} {A : Around} {E : Value → Shared → Prop} {s : Shared} {K : Frag} {env : Env} {pos p apos : Pos} {first : List Value} {Q : Value → Shared → Prop} {h₀ : Heap} {L q g x C : Addr} {e o : Expr} {args : List Expr} {name : Str} {news : List (Addr × Obj)} {self : Value} {ox : Obj} {od : Option Obj}
theorem method_star (h : wpAny M A (eval o env) (fun ov s₁ => wpAny M A (getAttr ov name true) (fun f s₂ => wpAny M A (callWith pos f [] (backTo pos (starEach args env)) []) Q E s₂) E s₁) E s)
    (he : eval (.Call (.Attribute o name apos) args [] pos) env = (do
      let ov ← eval o env
      standAt apos.atName
      let (f, first) ← holding [ov] (do pure (← getAttr ov name true, []))
      callWith pos f first (backTo pos (starEach args env)) []) := by rfl) :
    wpAny M A (eval (.Call (.Attribute o name apos) args [] pos) env) Q E s := by
  rw [he]
  refine wpAny_bind (wpAny_mono h (fun ov s₁ h₁ => wpAny_bind (wpAny_standAt (wpAny_bind (wpAny_holding (wpAny_bind (wpAny_mono h₁ (fun fx s₂ h₂ => wpAny_pure ?_) fun _ _ x => x)))))) fun _ _ x => x)
  exact h₂
theorem callWith_SM (_X : K.In h₀) (_N : News h₀ L s.heap news) (_q : (q, methodObj (.ref g) self) ∈ news) (hf : fnIn K g = true) (h : wpAny M A (eval e env) (fun v s₁ => StarOf M A E v (fun vs s₂ => MethP K q g self s₂.heap ∧ wpAny M A (call (.ref q) (first ++ vs)) Q E s₂) s₁) E s)
    (he : starEach [.Starred e p] env = [(true, eval e env)] := by rfl) :
    wpAny M A (callWith pos (.ref q) first (backTo pos (starEach [.Starred e p] env)) []) Q E s := by
  rw [he]
  exact ks_call rfl (keeps_M hf) (ks_lone h)
theorem ks_callO {args : List (Bool × Sem Value)} (hst : args.any (·.1) = true) (hd : ox.data = .plain)
    (h : wpAny M A (evalArgs (.ref x) true args []) (fun a s₁ => kco_P K x C ox od s₁.heap ∧ wpAny M A (call (.ref x) (first ++ a.pos) a.kw) Q E s₁) E s) : wpAny M A (callWith pos (.ref x) first args []) Q E s := by
  unfold callWith
  refine wpAny_bind (wpAny_holding (wpAny_mono h (fun a s₁ h₁ => wpAny_bind (wpAny_standAt ?_)) fun _ _ y => y))
  have L := kco_keeper (M := M) h₁.1.2 hd
  simp only [hst, Bool.true_or]
  refine wpAny_bind (L.here ?_)
  have tail : ∀ {t : Sem Value}, wpAny M A t Q E s₁ → wpAny M A (t >>= fun r => holding [r] point >>= fun _ => pure r) Q E s₁ :=
    fun ht => wpAny_bind (wpAny_mono ht (fun r s₂ hr => wpAny_bind (wpAny_holding (wpAny_point (wpAny_pure hr)))) fun _ _ y => y)
  first | exact tail (wpAny_operateT h₁.2) | exact tail (wpAny_operating h₁.2)
theorem callWith_SO {f : Addr} (_X : K.In s.heap) (_I : InstAt s.heap x ox C od) (hd : ox.data = .plain) (_hs : findIn K (.ref C) "__call__" = some (some (.ref f))) (h : wpAny M A (eval e env) (fun v s₁ => StarOf M A E v (fun vs s₂ => kco_P K x C ox od s₂.heap ∧ wpAny M A (call (.ref x) (first ++ vs)) Q E s₂) s₁) E s)
    (he : starEach [.Starred e p] env = [(true, eval e env)] := by rfl) :
    wpAny M A (callWith pos (.ref x) first (backTo pos (starEach [.Starred e p] env)) []) Q E s := by
  rw [he]
  exact ks_callO rfl hd (ks_lone h)
end
section
variable {w : World} {mean : ExcName → Option Value} {mg mb : Str → Option Value} {dp un : Nat} {gd : Option (List Code)} {outer : List Env} {base g : Heap} {s : Shared} {R : Result → Shared → Prop} {K : Frag}
  {name qual : Str} {params : Arguments} {body : List Stmt} {scope : Scope} {dV kV doc pm cdv ct oc : Value} {an od : Option Addr} {osl : Array (Option Value)} {f : Addr} {args : Args} {nu : List (Addr × Obj)} {prog : Program}
  {vs : List Value} {g₁ : Addr → Option (List (Str × Value))} {binds : Addr → List (Str × Value)}

/-- the entry of a def with a rest parameter and cells -/
theorem enter_rest_cells (hroom : dp < recursionLimit) (X : K.In g) (T : TopM mean mg mb g) (sub : ∀ b o, g.get? b = some o → s.heap.get? b = some o) (hsz : g.objs.size ≤ s.heap.objs.size) (N : Foot g s.heap nu)
    (ho : K.lookup f = some ⟨oc, od, .func (fnOf name qual params body scope dV kV doc pm an cdv ct), osl⟩) (hcd : codeIn K cdv qual = true)
    (hp : peek1 K ⟨prog, w.params⟩ (bindArgs (fnOf name qual params body scope dV kV doc pm an cdv ct) args) = some (({ cls := .type "tuple", data := .seq vs.toArray } : Obj), g₁))
    (hg : ∀ D, g₁ D = some (binds D)) (hkind : ∀ D, ((binds D).all fun y => scope.names.lookup y.1 == some .local || scope.names.lookup y.1 == some .cell) = true)
    (hnd : ((cellsFrom 0 scope.names []).map (·.1)).Nodup)
    (h : ∀ D L' h₁ tk cells, (∀ p ∈ nu, p.1 < D) → D < L' → Fr g L' h₁ (bindL (envOfC qual scope L' f cdv).kindOf (binds D) fun _ => none) → News g L' h₁ (cells ++ (D, ({ cls := .type "tuple", data := .seq vs.toArray } : Obj)) :: nu) →
      CellsAre (bindC (envOfC qual scope L' f cdv).kindOf (binds D) fun _ => none) (cellsFrom (L' + 1) scope.names []) cells →
      wpAny (model prog w) ((ar dp un gd outer).deeper (envOfC qual scope L' f cdv)) (execs body (envOfC qual scope L' f cdv))
        (fun fl s' => R (.ok (.ret (match fl with | .ret v => v | _ => .none))) s') (fun _ _ => False) { s with heap := h₁, toks := tk })
    (hco : scope.isCoroutine = false) (hgen : scope.isGenerator = false) (hk : scope.kind = .function) :
    codeAny (model prog w) (ar dp un gd outer) (.call (.ref f) args) R s := by
  refine codeAny_call_function (fd := fnOf name qual params body scope dV kV doc pm an cdv ct) (body := body) hroom (sub _ _ (X _ _ ho)) rfl hco hgen rfl (codeRec_of (fun a o e => sub a o (X a o e)) hcd) ?_
  refine wp_peek1 (K := K) (o := ({ cls := .type "tuple", data := .seq vs.toArray } : Obj)) (r := binds) (fun a o e => sub a o (X a o e)) ?_ _ g₁ hp hg
  have hsz2 : (s.heap.push ({ cls := .type "tuple", data := .seq vs.toArray } : Obj)).objs.size = s.heap.objs.size + 1 := Heap.size_push ..
  have hpush : ∀ b o, s.heap.get? b = some o → (s.heap.push ({ cls := .type "tuple", data := .seq vs.toArray } : Obj)).get? b = some o := fun b o e => Heap.get?_push_of_some _ e
  refine wpAny_newFunctionEnv_cells hk (kindsX (hkind _) _) fun env' he s' x => ?_
  subst he
  refine ⟨((T.nolimit.keeps sub).keeps hpush).keeps x.toInCall.keep, codeAny_func ?_⟩
  obtain ⟨h₁, tk, rfl, _⟩ := x.done
  have hk₁ := x.toInCall.keep
  obtain ⟨cells, NC, Y⟩ := Cl.news (h₀ := s.heap.push ({ cls := .type "tuple", data := .seq vs.toArray } : Obj)) (Nat.le_refl _) fun n c hm => ⟨x.cell n c (lookup_of_mem_nodup (cellsFrom_names scope.names 0 ((s.heap.push ({ cls := .type "tuple", data := .seq vs.toArray } : Obj)).objs.size + 1) [] [] rfl ▸ hnd) hm), x.above n c hm⟩
  refine wpAny_noRaise (h s.heap.objs.size (s.heap.push ({ cls := .type "tuple", data := .seq vs.toArray } : Obj)).objs.size h₁ tk cells (fun p hp => Heap.lt_size (N p hp).1) (by rw [hsz2]; exact Nat.lt_succ_self _) ⟨x.toInCall.ns, fun b o e => hk₁ b o (hpush b o (sub b o e)), by rw [hsz2]; exact Nat.le_succ_of_le hsz⟩ (fun p hp => ?_) Y)
  rcases List.mem_append.mp hp with hp | hp
  · refine ⟨(NC p hp).1, (NC p hp).2.1, ?_⟩
    cases q : g.get? p.1 with
    | none => rfl
    | some o => have := hpush _ _ (sub _ _ q); rw [(NC p hp).2.2] at this; cases this
  · rcases List.mem_cons.mp hp with rfl | hp
    · refine ⟨hk₁ _ _ (Heap.get?_push_size _ rfl), ?_, ?_⟩
      · rw [hsz2]; exact Nat.ne_of_lt (Nat.lt_succ_self _)
      · cases q : g.get? s.heap.objs.size with
        | none => rfl
        | some o => exact absurd (Heap.lt_size q) (Nat.not_lt.mpr hsz)
    · refine ⟨hk₁ _ _ (hpush _ _ (N p hp).1), ?_, (N p hp).2⟩
      rw [hsz2]
      exact Nat.ne_of_lt (Nat.lt_succ_of_lt (Heap.lt_size (N p hp).1))
end
end Mine
end

section -- C7
set_option Elab.async false
set_option maxRecDepth 100000
set_option maxHeartbeats 1000000
namespace Mine
open PySem PySem.W PySem.Spec PySem.Calls PyProof.Rows

local macro_rules | `(tactic| walk_at "no such place") => `(tactic| fail)
local macro_rules | `(tactic| walk_at "eval Call Attribute") => `(tactic| (k_here; (with_reducible show wpAny _ _ (eval (Expr.Call (Expr.Attribute _ _ _) [Expr.Starred _ _] [] _) _) _ _ _); k_dflt (refine' method_star ?_; k_whole)))
local macro_rules | `(tactic| walk_at "callWith ref") => `(tactic| (k_here; (with_reducible show wpAny _ _ (callWith _ (Value.ref _) _ (backTo _ (starEach [Expr.Starred _ _] _)) []) _ _ _); k_dflt (refine' callWith_SM ?k1 ?k2 ?k3 ?k4 ?_; (case k1 => k_asm); (case k2 => k_asm); (case k3 => k_mem); (case k4 => k_is); k_whole)))
local macro_rules | `(tactic| walk_at "callWith ref") => `(tactic| (k_here; (with_reducible show wpAny _ _ (callWith _ (Value.ref _) _ (backTo _ (starEach [Expr.Starred _ _] _)) []) _ _ _); k_dflt (refine' callWith_SO ?k1 ?k2 ?k3 ?k4 ?_; (case k1 => k_in); (case k2 => k_inst); (case k3 => rfl); (case k4 => k_is); k_whole)))

local macro_rules | `(tactic| walk_at "And") => `(tactic| ((with_reducible show MethP _ _ _ _ _ ∧ _); (with_reducible rename News _ _ _ _ => kN); refine ⟨methP kN (List.Mem.head _) (by k_in), ?_⟩; try dsimp only [List.nil_append, List.cons_append]))
local macro_rules | `(tactic| k_room) => `(tactic| ((try simp only [depth_under_make, depth_under_kw, depth_in1, depth_deeper, depth_caller]); omega))
/-- the dict of an LCSSeq -/
abbrev dict3 (w : World) (t1 t2 t3 t4 : Tok) (r : Addr) (b : Bool) : Obj := dictOf [{ hash := PyData.keyHash w.params (Str.ofString "qval"), key := .str (Str.ofString "qval") t1, val := .int 1 t4 }, { hash := PyData.keyHash w.params (Str.ofString "test_func"), key := .str (Str.ofString "test_func") t2, val := .ref r }, { hash := PyData.keyHash w.params (Str.ofString "external"), key := .str (Str.ofString "external") t3, val := .bool b }] 3

theorem seqs_cc {w : World} {mean : ExcName → Option Value} {mg mb : Str → Option Value} (x dx r : Addr) (t1 t2 t3 t4 : Tok) (b : Bool) (u v : Str) (tu tv : Tok) :
    CC w mean mg mb 108 5 50 ⟨[.ref x, .str u tu, .str v tv], []⟩ (fun _ => True) [(x, instObj 225 dx), (dx, dict3 w t1 t2 t3 t4 r b)]
      (fun z nu' => ∃ l n, z = .ref l ∧ nu' = [(l, listOf #[.str u tu, .str v tv] n), (x, instObj 225 dx), (dx, dict3 w t1 t2 t3 t4 r b)] ∧ ltn x l ∧ ltn dx l) := by
  w_top off
  have hlaw : PySem.Challenge.rw_ag5023_01 = PySem.Challenge.rw_ag5023_01 := rfl
  unfold CC
  k_fill
  intro dp un gd outer base g s R hd hu B X T sub hsz N pre ret
  k_dflt (refine' enter_rest_cells (vs := [.str u tu, .str v tv]) ?k1 ?k2 ?k3 ?k4 ?k5 ?k6 ?k7 ?k8 ?k9 ?k10 ?k11 ?kD ?_ ?k13 ?k14 ?k15; (case k1 => omega); (case k2 => exact X); (case k3 => exact T); (case k4 => exact sub); (case k5 => exact hsz); (case k6 => exact N); (case k7 => k_is); (case k8 => k_is); (case k9 => exact rfl); (case k10 => exact fun _ => rfl); (case k11 => exact fun _ => rfl); (case kD => decide); (case k13 => rfl); (case k14 => rfl); (case k15 => rfl))
  intro D' L' h' tk' cells' l1 l0 F' N' Y'
  clear N
  k_cells Y'
  rename_i oc0 d1
  try simp only [List.cons_append, List.nil_append] at N'
  try dsimp only
  try k_fold
  have l2 : ltn x D' := l1 _ (.head _)
  have l3 : ltn dx D' := l1 _ (.tail _ (.head _))
  have l4 : ltn D' L' := l0
  repeat' (first | (fail_if_success (with_reducible show wpAny _ _ (call (Value.ref 203) _) _ _ _)); (first | (k_unfold; (try dsimp only)) | (k_end; wrow_close) | walk1 | (dsimp only; walk1)))
  rename Fr _ _ _ _ => F8
  rename News _ _ _ _ => N8
  rename (_ ∧ _) => l8
  exact ret _ _ _ [(_, listOf #[.str u tu, .str v tv] _), (x, instObj 225 dx), (dx, dict3 w t1 t2 t3 t4 r b)] F8.keep (foot_of (kst_newsOf N8 (by kst_inAny))) ⟨_, _, rfl, rfl, l8.2.2.1, l8.2.2.2⟩
theorem call_cc {w : World} {mean : ExcName → Option Value} {mg mb : Str → Option Value} (x dx r : Addr) (t1 t2 t3 t4 : Tok) (b : Bool) (u v : Str) (tu tv : Tok) (hu' : u.length ≤ 20) (hv' : v.length ≤ 20) :
    CC w mean mg mb 215 20 100 ⟨[.ref x, .str u tu, .str v tv], []⟩ (fun _ => @Ne Nat x dx) [(x, instObj 225 dx), (dx, dict3 w t1 t2 t3 t4 r b)]
      (fun z nu' => nu' = [(x, instObj 225 dx), (dx, dict3 w t1 t2 t3 t4 r b)] ∧ ∃ r t, z = .str r t ∧ IsLcs u.cps.toList v.cps.toList r.cps.toList) := by
  w_top off
  have hlaw : PySem.Challenge.rw_ag5023_01 = PySem.Challenge.rw_ag5023_01 := rfl
  unfold CC
  k_fill
  intro dp un gd outer base g s R hd hu B X T sub hsz N pre ret
  k_dflt (refine' enter_rest (vs := [.str u tu, .str v tv]) ?k1 ?k2 ?k3 ?k4 ?k5 ?k6 ?k7 ?k8 ?k9 ?k10 ?k11 ?_ ?k12 ?k13 ?k14 ?k15; (case k1 => omega); (case k2 => exact X); (case k3 => exact T); (case k4 => exact sub); (case k5 => exact hsz); (case k6 => exact N); (case k7 => k_is); (case k8 => k_is); (case k9 => exact rfl); (case k10 => exact fun _ => rfl); (case k11 => exact fun _ => locs rfl); (case k12 => decide); (case k13 => rfl); (case k14 => rfl); (case k15 => rfl))
  intro D' L' h' l1 F' N'
  clear N
  try dsimp only
  try k_fold
  have l2 : ltn x D' := l1 _ (.head _)
  have l3 : ltn dx D' := l1 _ (.tail _ (.head _))
  repeat' (first | (fail_if_success (with_reducible show wpAny _ _ (call (Value.ref _) _) _ _ _)); (first | (k_unfold; (try dsimp only)) | (k_end; wrow_close) | walk1 | (dsimp only; walk1)))
  rename Fr _ _ _ _ => F8
  rename News _ _ _ _ => N8
  rename (_ ∧ _) => l8
  refine call_meth N8 (.head _) ?_
  refine cc_use (dp := dp + 1) (un := un + 3) (rest := [(D', _)]) (seqs_cc x dx r t1 t2 t3 t4 b u v tu tv) B F8 X T (kst_newsOf N8 (by kst_inAny)) ?_ rfl rfl (by omega) (by omega) (fun _ _ => trivial) ?_
  · exact fun p hp q => by
      have h1 : p.1 = D' := by simpa using congrArg (·.1) (List.mem_singleton.mp hp)
      rw [h1] at q
      rcases List.mem_cons.mp q with q | q
      · exact Nat.ne_of_gt l2 q
      · exact Nat.ne_of_gt l3 (List.mem_singleton.mp q)
  rintro z h' tk' nu' F9 N9 off ⟨l, n, rfl, rfl, lx, ldx⟩
  clear F8 N8 off
  simp only [List.cons_append, List.nil_append] at N9
  dsimp only
  try k_fold
  repeat' (first | (fail_if_success (with_reducible show wpAny _ _ (call (Value.ref _) _) _ _ _)); (first | (k_unfold; (try dsimp only)) | (k_end; wrow_close) | walk1 | (dsimp only; walk1)))
  rename Fr _ _ _ _ => F8
  rename News _ _ _ _ => N8
  refine call_meth N8 (.head _) ?_
  refine cc_use (dp := dp + 1) (un := un + 3) (rest := [(x, instObj 225 dx), (dx, dict3 w t1 t2 t3 t4 r b)]) (dynamic_cc (.ref x) u v tu tv hu' hv') B F8 X T (kst_newsOf N8 (by kst_inAny)) (fun _ _ q => nomatch q) rfl rfl (by omega) (by omega) (fun _ _ => trivial) ?_
  rintro z h' tk' nu' F9 N9 off ⟨rfl, r', t', rfl, hl⟩
  clear F8 N8 off
  simp only [List.nil_append] at N9
  dsimp only
  try k_fold
  repeat' (first | (fail_if_success (with_reducible show wpAny _ _ (call (Value.ref _) _) _ _ _)); (first | (k_unfold; (try dsimp only)) | (k_end; wrow_close) | walk1 | (dsimp only; walk1)))
  exact ret _ _ _ _ F9.keep (foot_of N9) ⟨rfl, r', t', rfl, hl⟩
end Mine
end

section -- C8
set_option Elab.async false
set_option maxRecDepth 100000
set_option maxHeartbeats 1000000
namespace Mine
open PySem PySem.W PySem.Spec PySem.Calls PyProof.Rows
local macro_rules | `(tactic| walk_at "no such place") => `(tactic| fail)
local macro_rules | `(tactic| walk_at "eval Call Attribute") => `(tactic| (k_here; (with_reducible show wpAny _ _ (eval (Expr.Call (Expr.Attribute _ _ _) [Expr.Starred _ _] [] _) _) _ _ _); k_dflt (refine' method_star ?_; k_whole)))
local macro_rules | `(tactic| walk_at "callWith ref") => `(tactic| (k_here; (with_reducible show wpAny _ _ (callWith _ (Value.ref _) _ (backTo _ (starEach [Expr.Starred _ _] _)) []) _ _ _); k_dflt (refine' callWith_SM ?k1 ?k2 ?k3 ?k4 ?_; (case k1 => k_asm); (case k2 => k_asm); (case k3 => k_mem); (case k4 => k_is); k_whole)))
local macro_rules | `(tactic| walk_at "callWith ref") => `(tactic| (k_here; (with_reducible show wpAny _ _ (callWith _ (Value.ref _) _ (backTo _ (starEach [Expr.Starred _ _] _)) []) _ _ _); k_dflt (refine' callWith_SO ?k1 ?k2 ?k3 ?k4 ?_; (case k1 => k_in); (case k2 => k_inst); (case k3 => rfl); (case k4 => k_is); k_whole)))

local macro_rules | `(tactic| walk_at "And") => `(tactic| ((with_reducible show MethP _ _ _ _ _ ∧ _); (with_reducible rename News _ _ _ _ => kN); refine ⟨methP kN (List.Mem.head _) (by k_in), ?_⟩; try dsimp only [List.nil_append, List.cons_append]))
local macro_rules | `(tactic| k_room) => `(tactic| ((try simp only [depth_under_make, depth_under_kw, depth_in1, depth_deeper, depth_caller]); omega))

local macro_rules | `(tactic| walk_at "call builtin:len") => `(tactic| (k_here; (with_reducible show wpAny _ _ (call (Value.builtin "len") [Value.str _ _]) _ _ _); k_dflt (refine' PySem.P.len_str ?p ?_; (case p => omega))))

theorem sim_cc {w : World} {mean : ExcName → Option Value} {mg mb : Str → Option Value} (x dx r : Addr) (t1 t2 t3 t4 : Tok) (b : Bool) (u v : Str) (tu tv : Tok) (hu' : u.length ≤ 20) (hv' : v.length ≤ 20) :
    CC w mean mg mb 222 30 150 ⟨[.ref x, .str u tu, .str v tv], []⟩ (fun _ => @Ne Nat x dx) [(x, instObj 225 dx), (dx, dict3 w t1 t2 t3 t4 r b)]
      (fun z nu' => nu' = [(x, instObj 225 dx), (dx, dict3 w t1 t2 t3 t4 r b)] ∧ ∃ (r : List Nat) (t : Tok), z = .int r.length t ∧ IsLcs u.cps.toList v.cps.toList r) := by
  w_top off
  have hlaw : PySem.Challenge.rw_ag5023_01 = PySem.Challenge.rw_ag5023_01 := rfl
  unfold CC
  k_fill
  intro dp un gd outer base g s R hd hu B X T sub hsz N pre ret
  k_dflt (refine' enter_rest (vs := [.str u tu, .str v tv]) ?k1 ?k2 ?k3 ?k4 ?k5 ?k6 ?k7 ?k8 ?k9 ?k10 ?k11 ?_ ?k12 ?k13 ?k14 ?k15; (case k1 => omega); (case k2 => exact X); (case k3 => exact T); (case k4 => exact sub); (case k5 => exact hsz); (case k6 => exact N); (case k7 => k_is); (case k8 => k_is); (case k9 => exact rfl); (case k10 => exact fun _ => rfl); (case k11 => exact fun _ => locs rfl); (case k12 => decide); (case k13 => rfl); (case k14 => rfl); (case k15 => rfl))
  intro D' L' h' l1 F' N'
  clear N
  try dsimp only
  try k_fold
  have l2 : ltn x D' := l1 _ (.head _)
  have l3 : ltn dx D' := l1 _ (.tail _ (.head _))
  repeat' (first | (fail_if_success (with_reducible show wpAny _ _ (call (Value.ref _) _) _ _ _)); (first | (k_unfold; (try dsimp only)) | (k_end; wrow_close) | walk1 | (dsimp only; walk1)))
  rename Fr _ _ _ _ => F8
  rename News _ _ _ _ => N8
  refine wpAny_call ?_
  k_dflt (refine' kco_code ?k1 ?k2 ?k3 ?k4 ?k5 ?k6 ?_; (case k1 => k_in); (case k2 => k_inst); (case k3 => rfl); (case k4 => k_is); (case k5 => k_is); (case k6 => k_is))
  refine cc_use (dp := dp + 1) (un := un + 3) (rest := [(D', _)]) (call_cc x dx r t1 t2 t3 t4 b u v tu tv hu' hv') B F8 X T (kst_newsOf N8 (by kst_inAny)) ?_ rfl rfl (by omega) (by omega) (fun _ _ => pre) ?_
  · exact fun p hp q => by
      have h1 : p.1 = D' := by simpa using congrArg (·.1) (List.mem_singleton.mp hp)
      rw [h1] at q
      rcases List.mem_cons.mp q with q | q
      · exact Nat.ne_of_gt l2 q
      · exact Nat.ne_of_gt l3 (List.mem_singleton.mp q)
  rintro z h' tk' nu' F9 N9 off ⟨rfl, r', t', rfl, hl⟩
  clear F8 N8 off
  have hrl : r'.length ≤ 20 := by have := hl.1.length_le; have : r'.cps.toList.length = r'.length := rfl; have : u.cps.toList.length = u.length := rfl; omega
  simp only [List.cons_append, List.nil_append] at N9
  dsimp only
  try k_fold
  repeat' (first | (fail_if_success (with_reducible show wpAny _ _ (call (Value.ref _) _) _ _ _)); (first | (k_unfold; (try dsimp only)) | (k_end; wrow_close) | walk1 | (dsimp only; walk1)))
  rename News _ _ _ _ => N8
  exact ret _ _ _ [(x, instObj 225 dx), (dx, dict3 w t1 t2 t3 t4 r b)] F9.keep (foot_of (kst_newsOf N8 (by kst_inAny))) ⟨rfl, r'.cps.toList, _, rfl, hl⟩
end Mine
end

section -- Mp
set_option Elab.async false
set_option maxRecDepth 100000
set_option maxHeartbeats 1000000
namespace Mine
open PySem PySem.W PySem.Spec PySem.Calls PyProof.Rows
section facts
theorem owner_map : Manifest.owners.lookup (String.ofList ['p', 'a', 'm'].reverse) = some Manifest.sig_map := by kernel_rfl
theorem slot_map_next : Slot "map" "__next__" "map.__next__" :=
  .of (owner := "map") (n := "__next__") (by rw [typeLookup_type, builtinLookup_eq_fast]; kernel_rfl) (by decide +kernel) (by decide +kernel) (by decide +kernel)
    (by first | exact .inl (by decide +kernel) | exact .inr (by decide +kernel)) (by rw [isSubtype_type]; kernel_rfl)
theorem entry_map_next : entryFor table "map.__next__" = some Builtin.«map.__next__» := entryFor_of_tree (by kernel_rfl)
theorem args_map_next_1 (a : Value) : argsOk "map.__next__" ⟨[a], []⟩ := by
  unfold argsOk; rw [signature?_of (id := "map.__next__") (n := ['_', '_', 't', 'x', 'e', 'n', '_', '_']) (o := ['p', 'a', 'm']) (by kernel_rfl) owner_map]; kernel_rfl
theorem slot_map_init : Slot "map" "__init__" "object.__init__" :=
  .of (owner := "object") (n := "__init__") (by rw [typeLookup_type, builtinLookup_eq_fast]; kernel_rfl) (by decide +kernel) (by decide +kernel) (by decide +kernel)
    (by first | exact .inl (by decide +kernel) | exact .inr (by decide +kernel)) (by rw [isSubtype_type]; kernel_rfl)
theorem slot_map_iter : Slot "map" "__iter__" "map.__iter__" :=
  .of (owner := "map") (n := "__iter__") (by rw [typeLookup_type, builtinLookup_eq_fast]; kernel_rfl) (by decide +kernel) (by decide +kernel) (by decide +kernel)
    (by first | exact .inl (by decide +kernel) | exact .inr (by decide +kernel)) (by rw [isSubtype_type]; kernel_rfl)
theorem args_map_iter_1 (a : Value) : argsOk "map.__iter__" ⟨[a], []⟩ := by
  unfold argsOk; rw [signature?_of (id := "map.__iter__") (n := ['_', '_', 'r', 'e', 't', 'i', '_', '_']) (o := ['p', 'a', 'm']) (by kernel_rfl) owner_map]; kernel_rfl
theorem entry_map_iter : entryFor table "map.__iter__" = some Builtin.«dict_keyiterator.__iter__» :=
  entryFor_alias (id' := "dict_keyiterator.__iter__") (by rw [fastTable_eq_tree]; kernel_rfl) rfl (by decide +kernel) (by rw [fastTable_eq_tree]; kernel_rfl)
theorem mro_map : mroOf (.type "map") = pure [.type "map", .type "object"] := by rw [mroOf_type]; kernel_rfl
theorem lookup_map_new : typeLookup (.type "map") "__new__" = pure (some (.builtin "map.__new__")) := by rw [typeLookup_type, builtinLookup_eq_fast]; kernel_rfl
theorem called_map : TypeCalled "map" "map.__new__" "object.__init__" :=
  ⟨by decide +kernel, by decide +kernel, ⟨_, _, mro_map⟩, madeBy_type mro_map lookup_map_new (by decide +kernel), by decide +kernel, by rw [isSubtype_type]; kernel_rfl, slot_map_init⟩
theorem typeCall_map_2 (a b : Value) : checkTypeCall "map" ⟨[a, b], []⟩ = pure () := by kernel_rfl
theorem newCall_map_2 (a b : Value) : checkBuiltinCall "map.__new__" ⟨[.type "map", a, b], []⟩ = pure () := by
  unfold checkBuiltinCall; rw [signature?_of (id := "map.__new__") (n := ['_', '_', 'w', 'e', 'n', '_', '_']) (o := ['p', 'a', 'm']) (by kernel_rfl) owner_map]; kernel_rfl
theorem entry_map_new : entryFor table "map.__new__" = some Builtin.«map.__new__» := entryFor_of_tree (by kernel_rfl)
theorem sub_map : isSubtype (.type "map") (.type "map") = pure true := by rw [isSubtype_type]; kernel_rfl
end facts

abbrev IsMap (h : Heap) (z TI : Addr) (f : Value) : Prop := h.get? z = some { cls := .type "map", dict := none, data := .fields #[.ref TI, f], slots := #[] }
abbrev IsOne (h : Heap) (T i : Addr) : Prop := h.get? T = some { cls := .type "tuple", data := .seq #[.ref i] }

section
variable {prog : Program} {w : World} {A : Around} {E : Value → Shared → Prop} {s : Shared}

theorem nextOf_tuple_item {it l : Addr} {i : Nat} {items} {x : Value} {Q : Value → Shared → Prop} (hit : s.heap.IsTupleIter it l i)
    (hl : s.heap.IsTuple l items) (hx : items[i]? = some x)
    (hQ : ∀ h', h'.IsTupleIter it l (i + 1) → Heap.SameBut it s.heap h' → Q x { s with heap := h' }) :
    wpAny (model prog w) A (Builtin.SmallTypes.nextOf (.ref it)) Q E s := by
  obtain ⟨o, ho, hc, hd⟩ := id hit
  obtain ⟨ol, hol, _, nl, hdl⟩ := hl
  unfold Builtin.SmallTypes.nextOf
  refine wpAny_bind (wpAny_callSpecial?_slot (name := Str.ofString "__next__") hit.typeIs F.slot_tuple_iterator_next
    (wpAny_call_entry F.slot_tuple_iterator_next hit.typeIs F.entry_tuple_iterator_next ?_ (F.args_tuple_iterator_next_1 _)))
  show wpAny _ _ (field (.ref it) 0 >>= _) _ _ s
  refine wpAny_bind (wpAny_field ho hd (x := .ref l) rfl ?_)
  show wpAny _ _ (if (Value.ref l == Value.none) = true then _ else _) _ _ s
  rw [if_neg (show ¬ ((Value.ref l == Value.none) = true) from Bool.false_ne_true)]
  show wpAny _ _ (field (.ref it) 1 >>= _) _ _ s
  refine wpAny_bind (wpAny_field ho hd (x := .int i 0) rfl ?_)
  show wpAny _ _ (seqItems? (.ref l) >>= _) _ _ s
  refine wpAny_bind (wpAny_seqItems hol hdl ?_)
  simp only [Int.toNat_natCast, hx]
  refine wpAny_bind (wpAny_setField ho hd (by simp) (wpAny_pure ⟨x, rfl, wpAny_pure (hQ _ ?_ (Heap.SameBut.update ..))⟩))
  exact ⟨_, Heap.get?_update_self _ ho (Obj.isFreed_of_fields (Obj.data_mapFields hd _)), (Obj.cls_mapFields ..).trans hc, by
    rw [Obj.data_mapFields hd]; simp [rawInt]⟩

theorem nextOf_tuple_end {it t : Addr} {i : Nat} {items} {Q : Value → Shared → Prop} (hh : A.handled = none)
    (hit : s.heap.IsTupleIter it t i) (ht : s.heap.IsTuple t items) (hx : items[i]? = none)
    (hE : ∀ h' e, Heap.ExtBut it s.heap h' → (∃ o, h'.get? e = some o ∧ o.cls = .type "StopIteration") → E (.ref e) { s with heap := h' }) :
    wpAny (model prog w) A (Builtin.SmallTypes.nextOf (.ref it)) Q E s := by
  obtain ⟨o, ho, hc, hd⟩ := id hit
  obtain ⟨ol, hol, _, nl, hdl⟩ := ht
  unfold Builtin.SmallTypes.nextOf
  refine wpAny_bind (wpAny_callSpecial?_slot (name := Str.ofString "__next__") hit.typeIs F.slot_tuple_iterator_next
    (wpAny_call_entry F.slot_tuple_iterator_next hit.typeIs F.entry_tuple_iterator_next ?_ (F.args_tuple_iterator_next_1 _)))
  show wpAny _ _ (field (.ref it) 0 >>= _) _ _ s
  refine wpAny_bind (wpAny_field ho hd (x := .ref t) rfl ?_)
  show wpAny _ _ (if (Value.ref t == Value.none) = true then _ else _) _ _ s
  rw [if_neg (show ¬ ((Value.ref t == Value.none) = true) from Bool.false_ne_true)]
  show wpAny _ _ (field (.ref it) 1 >>= _) _ _ s
  refine wpAny_bind (wpAny_field ho hd (x := .int i 0) rfl ?_)
  show wpAny _ _ (seqItems? (.ref t) >>= _) _ _ s
  refine wpAny_bind (wpAny_seqItems hol hdl ?_)
  simp only [Int.toNat_natCast, hx]
  refine wpAny_bind (wpAny_rule (wpAny_bind (wpAny_setField ho hd (by simp) ?_)))
  show wpAny _ _ (newExc (.type "StopIteration") [] >>= _) _ _ _
  refine wpAny_bind ?_
  simp only [newExc, newTuple]
  refine wpAny_bind (wpAny_newObj_type ?_ (by size_fits))
  refine wpAny_bind (m := firstArgMember _ _) (wpAny_of_eq (a := Value.none) (by first | rfl | (simp only [firstArgMember]; rfl)) ?_)
  refine wpAny_newObj_type ?_ (by size_fits)
  simp only [raiseNew]
  refine wpAny_bind (wpAny_handled ?_)
  first | rw [show A.in1.handled = none from hh] | rw [hh]
  refine wpAny_bind (wpAny_pure (wpAny_throw ?_))
  exact hE _ _ (((Heap.SameBut.update ..).extBut.push _).push _) ⟨_, Heap.get?_push_size _ rfl, rfl⟩

theorem map_next_item {z TI i1 l : Addr} {k : Nat} {items : Array Value} {x : Str} {t : Tok} {Q : Value → Shared → Prop}
    (hz : IsMap s.heap z TI (.builtin "len")) (hTI : IsOne s.heap TI i1) (h1 : s.heap.IsTupleIter i1 l k) (hl : s.heap.IsTuple l items) (hx : items[k]? = some (.str x t)) (hlen : x.length ≤ 20) (hzi : z ≠ i1)
    (hQ : ∀ h' tk t', h'.IsTupleIter i1 l (k + 1) → Heap.SameBut i1 s.heap h' → s.toks ≤ tk → Q (.int x.length t') { s with heap := h', toks := tk }) :
    wpAny (model prog w) A (Builtin.«map.__next__» ⟨[.ref z], []⟩) (fun fin s' => ∃ v, fin = .done (.ret v) ∧ Q v s') E s := by
  show wpAny _ _ (field (.ref z) 0 >>= _) _ _ _
  refine wpAny_bind (wpAny_field hz rfl (x := .ref TI) rfl ?_)
  refine wpAny_bind (wpAny_seqItems hTI rfl ?_)
  refine wpAny_bind ?_
  simp only [List.forIn_toArray, List.forIn_cons, List.forIn_nil]
  refine wpAny_bind (wpAny_bind (wpAny_holding (nextOf_tuple_item h1 hl hx fun h₂ h1₂ hs₂ => ?_)))
  refine wpAny_pure (wpAny_pure ?_)
  have hz₂ : IsMap h₂ z TI (.builtin "len") := hs₂.extBut _ _ hzi hz
  refine wpAny_bind (wpAny_field hz₂ rfl (x := .builtin "len") rfl ?_)
  refine wpAny_bind (wpAny_holding (PySem.P.len_str (by omega) ?_))
  refine wpAny_bind (wpAny_letGo ?_)
  exact wpAny_pure ⟨_, rfl, hQ _ _ _ h1₂ hs₂ (Nat.le_add_right _ 2)⟩

theorem map_next_end {z TI i1 l : Addr} {k : Nat} {items : Array Value} {f : Value} {Q : Fin → Shared → Prop} (hh : A.handled = none)
    (hz : IsMap s.heap z TI f) (hTI : IsOne s.heap TI i1) (h1 : s.heap.IsTupleIter i1 l k) (hl : s.heap.IsTuple l items) (hx : items[k]? = none)
    (hE : ∀ h' e, Heap.ExtBut i1 s.heap h' → (∃ o, h'.get? e = some o ∧ o.cls = .type "StopIteration") → E (.ref e) { s with heap := h' }) :
    wpAny (model prog w) A (Builtin.«map.__next__» ⟨[.ref z], []⟩) Q E s := by
  show wpAny _ _ (field (.ref z) 0 >>= _) _ _ _
  refine wpAny_bind (wpAny_field hz rfl (x := .ref TI) rfl ?_)
  refine wpAny_bind (wpAny_seqItems hTI rfl ?_)
  refine wpAny_bind ?_
  simp only [List.forIn_toArray, List.forIn_cons, List.forIn_nil]
  exact wpAny_bind (wpAny_bind (wpAny_holding (nextOf_tuple_end hh h1 hl hx hE)))

theorem pyNext_map_item {z TI i1 l : Addr} {k : Nat} {items : Array Value} {x : Str} {t : Tok} {Q : Option Value → Shared → Prop}
    (hz : IsMap s.heap z TI (.builtin "len")) (hTI : IsOne s.heap TI i1) (h1 : s.heap.IsTupleIter i1 l k) (hl : s.heap.IsTuple l items) (hx : items[k]? = some (.str x t)) (hlen : x.length ≤ 20) (hzi : z ≠ i1)
    (hQ : ∀ h' tk t', h'.IsTupleIter i1 l (k + 1) → Heap.SameBut i1 s.heap h' → s.toks ≤ tk → Q (some (.int x.length t')) { s with heap := h', toks := tk }) :
    wpAny (model prog w) A (pyNext (.ref z)) Q E s := by
  have hT : s.TypeIs (.ref z) "map" := ⟨_, hz, rfl⟩
  unfold pyNext
  exact wpAny_bind (wpAny_attempt (wpAny_callSpecial?_slot (name := Str.ofString "__next__") hT slot_map_next
    (wpAny_call_entry slot_map_next hT entry_map_next
      (map_next_item hz hTI h1 hl hx hlen hzi fun h' tk t' a b c => wpAny_pure (hQ h' tk t' a b c)) (args_map_next_1 _))))

theorem pyNext_map_end {z TI i1 l : Addr} {k : Nat} {items : Array Value} {f : Value} {Q : Option Value → Shared → Prop} (hh : A.handled = none)
    (hz : IsMap s.heap z TI f) (hTI : IsOne s.heap TI i1) (h1 : s.heap.IsTupleIter i1 l k) (hl : s.heap.IsTuple l items) (hx : items[k]? = none)
    (hQ : ∀ h', Heap.ExtBut i1 s.heap h' → Q none { s with heap := h' }) :
    wpAny (model prog w) A (pyNext (.ref z)) Q E s := by
  have hT : s.TypeIs (.ref z) "map" := ⟨_, hz, rfl⟩
  unfold pyNext
  refine wpAny_bind (wpAny_attempt (wpAny_callSpecial?_slot (name := Str.ofString "__next__") hT slot_map_next
    (wpAny_call_entry slot_map_next hT entry_map_next (map_next_end hh hz hTI h1 hl hx fun h' e hk he => ?_) (args_map_next_1 _))))
  obtain ⟨o, ho, hc⟩ := he
  refine wpAny_bind (wpAny_isInstance (T := "StopIteration") (b := true) ⟨o, ho, hc⟩ isSubtype_stop ?_)
  exact wpAny_pure (hQ _ hk)

theorem pyIter_map {z TI : Addr} {f : Value} {Q : Value → Shared → Prop} (hz : IsMap s.heap z TI f) (h : Q (.ref z) s) : wpAny (model prog w) A (pyIter (.ref z)) Q E s := by
  have hT : s.TypeIs (.ref z) "map" := ⟨_, hz, rfl⟩
  refine wpAny_pyIter_slot hT slot_map_iter (wpAny_call_entry slot_map_iter hT entry_map_iter ?_ (args_map_iter_1 _))
  show wpAny _ _ (ret (.ref z)) _ _ s
  exact wpAny_pure ⟨_, rfl, "map", _, hT, slot_map_next.lookup, h⟩

theorem walks_map (hh : A.handled = none) (z TI i1 D : Addr) (h1 : z ≠ i1) (h2 : TI ≠ i1) (h3 : D ≠ i1) (xs : List (Str × Tok)) (hlen : ∀ p ∈ xs, p.1.length ≤ 20) :
    Walks prog w A z [z, TI, i1, D] [i1] xs.length (fun i v => ∃ p t, xs[i]? = some p ∧ v = .int (p.1.length : Nat) t)
      (fun i h => IsMap h z TI (.builtin "len") ∧ IsOne h TI i1 ∧ h.IsTupleIter i1 D i ∧ h.IsTuple D (xs.map fun p => Value.str p.1 p.2).toArray) where
  sub := fun b hb => by simp at hb; simp [hb]
  frame := fun _ _ _ st hk => ⟨hk z (by simp) _ st.1, hk TI (by simp) _ st.2.1, st.2.2.1.at fun o e => hk i1 (by simp) o e, st.2.2.2.at fun o e => hk D (by simp) o e⟩
  item := fun i s Q E hi st hQ => by
    refine pyNext_map_item st.1 st.2.1 st.2.2.1 st.2.2.2 (x := xs[i].1) (t := xs[i].2) (by simp [hi]) (hlen _ (List.getElem_mem hi)) h1 fun h' tk t' hit' hs' _ => ?_
    exact hQ _ h' tk ⟨xs[i], t', List.getElem?_eq_getElem hi, rfl⟩ ⟨hs'.extBut _ _ h1 st.1, hs'.extBut _ _ h2 st.2.1, hit', st.2.2.2.extBut hs'.extBut h3⟩ fun b o hb e => hs'.extBut b o (fun h => hb (by simp [h])) e
  done := fun s Q E st hQ => pyNext_map_end hh st.1 st.2.1 st.2.2.1 st.2.2.2 (by simp) fun h' he' => hQ h' s.toks fun b o hb e => he' b o (fun h => hb (by simp [h])) e
  self := fun _ _ _ _ st hQ => pyIter_map st.1 hQ
end

abbrev mapH1 (h : Heap) (l : Addr) : Heap := h.push { cls := .type "tuple_iterator", data := .fields #[.ref l, .int 0 0] }
abbrev mapH2 (h : Heap) (l : Addr) : Heap := (mapH1 h l).push { cls := .type "tuple", data := .seq #[.ref h.objs.size] }
abbrev mapH3 (h : Heap) (l : Addr) (f : Value) : Heap := (mapH2 h l).push { cls := .type "map", data := .fields #[.ref (mapH1 h l).objs.size, f] }

theorem meets_map_new (f : Value) (l : Addr) (xs : Array Value) :
    Meets (Builtin.«map.__new__» ⟨[.type "map", f, .ref l], []⟩) (fun _ R s => s.heap.IsTuple l xs ∧
      R (.ok (.ret (.ref (mapH2 s.heap l).objs.size))) { s with heap := mapH3 s.heap l f }) :=
  .of_wp fun prog w A R s h => by
    obtain ⟨hp, g, d, tk, os⟩ := s; obtain ⟨hl1, h⟩ := h
    have hsub := sub_map
    have hL1 : Heap.IsTuple (Shared.heap ⟨hp, g, d, tk, os⟩) l xs := hl1
    wp_walk using wpAny_pyIter_tuple hL1
    exact ⟨_, rfl, h⟩

section
variable {prog : Program} {w : World} {A : Around} {E : Value → Shared → Prop} {s : Shared}
theorem call_map {f : Value} {l : Addr} {xs : Array Value} {Q : Value → Shared → Prop} (hl : s.heap.IsTuple l xs)
    (h : ∀ h', IsMap h' (s.heap.objs.size + 2) (s.heap.objs.size + 1) f → IsOne h' (s.heap.objs.size + 1) s.heap.objs.size →
      h'.IsTupleIter s.heap.objs.size l 0 → h'.objs.size = s.heap.objs.size + 3 →
      (∀ c o, s.heap.get? c = some o → h'.get? c = some o) → Q (.ref (s.heap.objs.size + 2)) { s with heap := h' }) :
    wpAny (model prog w) A (call (.type "map") [f, .ref l]) Q E s := by
  refine callType_new called_map (by decide) (typeCall_map_2 _ _) (newCall_map_2 _ _) (fun obj => F.args_object_init_3 obj _ _) entry_map_new
    (meets_map_new f l xs) ⟨hl, ?_⟩
  have z1 : (mapH1 s.heap l).objs.size = s.heap.objs.size + 1 := Heap.size_push ..
  have z2 : (mapH2 s.heap l).objs.size = s.heap.objs.size + 2 := by rw [Heap.size_push, z1]
  have z3 : (mapH3 s.heap l f).objs.size = s.heap.objs.size + 3 := by rw [Heap.size_push, z2]
  have g3 : (mapH3 s.heap l f).get? (mapH2 s.heap l).objs.size = some _ := Heap.get?_push_size _ rfl
  have g2 : (mapH3 s.heap l f).get? (mapH1 s.heap l).objs.size = some _ := Heap.get?_push_of_some _ (Heap.get?_push_size _ rfl)
  have g1 : (mapH3 s.heap l f).get? s.heap.objs.size = some _ := Heap.get?_push_of_some _ (Heap.get?_push_of_some _ (Heap.get?_push_size _ rfl))
  show _ ∧ _
  rw [z1, z2] at g3
  rw [z1] at g2
  rw [z2]
  exact ⟨⟨_, g3, rfl⟩, h _ g3 g2 ⟨_, g1, rfl, rfl⟩ z3 fun c o x => Heap.get?_push_of_some _ (Heap.get?_push_of_some _ (Heap.get?_push_of_some _ x))⟩

theorem max_map2 {z TI i1 D : Addr} {x y : Str} {t u : Tok} {Q : Value → Shared → Prop} (hh : A.handled = none) (h1 : z ≠ i1) (h2 : TI ≠ i1) (h3 : D ≠ i1) (hx : x.length ≤ 20) (hy : y.length ≤ 20)
    (hz : IsMap s.heap z TI (.builtin "len")) (hTI : IsOne s.heap TI i1) (hit : s.heap.IsTupleIter i1 D 0) (hD : s.heap.IsTuple D #[.str x t, .str y u])
    (h : ∀ h' tk t', (∀ b o, b ∉ [i1] → s.heap.get? b = some o → h'.get? b = some o) → Q (.int (max x.length y.length : Nat) t') { s with heap := h', toks := tk }) :
    wpAny (model prog w) A (call (.builtin "max") [.ref z]) Q E s := by
  refine call_max_walk (pyIter_map hz ⟨z, _, _, _, _, _, (fun i j => decide ((if i = 0 then (x.length : Int) else y.length) > (if j = 0 then (x.length : Int) else y.length))), rfl, walks_map (A := A.in1) hh z TI i1 D h1 h2 h3 [(x, t), (y, u)] ?_, ⟨hz, hTI, hit, hD⟩, ?_, Nat.succ_pos _, ?_, ?_⟩)
  · intro p hp
    rcases List.mem_cons.mp hp with rfl | hp
    · exact hx
    · rw [List.mem_singleton.mp hp]; exact hy
  · intro b hb
    obtain ⟨oi, hi, _⟩ := hit
    obtain ⟨od, hd, _⟩ := hD
    simp only [List.mem_cons, List.not_mem_nil, or_false] at hb
    rcases hb with rfl | rfl | rfl | rfl
    · exact Heap.lt_size hz
    · exact Heap.lt_size hTI
    · exact Heap.lt_size hi
    · exact Heap.lt_size hd
  · refine CmpOf.ints_gt (fun i => if i = 0 then (x.length : Int) else y.length) fun i v hv => ?_
    obtain ⟨p, t', hp, rfl⟩ := hv
    match i, hp with
    | 0, hp => cases hp; exact ⟨t', rfl⟩
    | 1, hp => cases hp; exact ⟨t', rfl⟩
    | _ + 2, hp => simp at hp
  · intro v h' tk hv hk
    obtain ⟨p, t', hp, rfl⟩ := hv
    have e : argBest (fun i j => decide ((if i = 0 then (x.length : Int) else y.length) > (if j = 0 then (x.length : Int) else y.length))) 1 = if (y.length : Int) > x.length then 1 else 0 := by
      simp [argBest]
    rw [show [(x, t), (y, u)].length - 1 = 1 from rfl, e] at hp
    by_cases hgt : (y.length : Int) > x.length
    · rw [if_pos hgt] at hp
      cases hp
      have := h h' tk t' hk
      rwa [show max x.length y.length = y.length by omega] at this
    · rw [if_neg hgt] at hp
      cases hp
      have := h h' tk t' hk
      rwa [show max x.length y.length = x.length by omega] at this
end
end Mine
end

section -- C9
set_option Elab.async false
set_option maxRecDepth 100000
set_option maxHeartbeats 1000000
namespace Mine
open PySem PySem.W PySem.Spec PySem.Calls PyProof.Rows
local macro_rules | `(tactic| walk_at "eval Call Attribute") => `(tactic| (k_here; (with_reducible show wpAny _ _ (eval (Expr.Call (Expr.Attribute _ _ _) [Expr.Starred _ _] [] _) _) _ _ _); k_dflt (refine' method_star ?_; k_whole)))
local macro_rules | `(tactic| walk_at "callWith ref") => `(tactic| (k_here; (with_reducible show wpAny _ _ (callWith _ (Value.ref _) _ (backTo _ (starEach [Expr.Starred _ _] _)) []) _ _ _); k_dflt (refine' callWith_SM ?k1 ?k2 ?k3 ?k4 ?_; (case k1 => k_asm); (case k2 => k_asm); (case k3 => k_mem); (case k4 => k_is); k_whole)))
local macro_rules | `(tactic| walk_at "callWith ref") => `(tactic| (k_here; (with_reducible show wpAny _ _ (callWith _ (Value.ref _) _ (backTo _ (starEach [Expr.Starred _ _] _)) []) _ _ _); k_dflt (refine' callWith_SO ?k1 ?k2 ?k3 ?k4 ?_; (case k1 => k_in); (case k2 => k_inst); (case k3 => rfl); (case k4 => k_is); k_whole)))

local macro_rules | `(tactic| walk_at "And") => `(tactic| ((with_reducible show MethP _ _ _ _ _ ∧ _); (with_reducible rename News _ _ _ _ => kN); refine ⟨methP kN (List.Mem.head _) (by k_in), ?_⟩; try dsimp only [List.nil_append, List.cons_append]))
local macro_rules | `(tactic| k_room) => `(tactic| ((try simp only [depth_under_make, depth_under_kw, depth_in1, depth_deeper, depth_caller]); omega))

theorem max_cc {w : World} {mean : ExcName → Option Value} {mg mb : Str → Option Value} (u v : Str) (tu tv : Tok) (hu' : u.length ≤ 20) (hv' : v.length ≤ 20) :
    CC w mean mg mb 55 5 50 ⟨[.str u tu, .str v tv], []⟩ (fun _ => True) [] (fun z nu' => nu' = [] ∧ ∃ t : Tok, z = .int (max u.length v.length : Nat) t) := by
  w_top off
  have hlaw : PySem.Challenge.rw_ag5023_01 = PySem.Challenge.rw_ag5023_01 := rfl
  unfold CC
  k_fill
  intro dp un gd outer base g s R hd hu B X T sub hsz N pre ret
  k_dflt (refine' enter_rest (vs := [.str u tu, .str v tv]) ?k1 ?k2 ?k3 ?k4 ?k5 ?k6 ?k7 ?k8 ?k9 ?k10 ?k11 ?_ ?k12 ?k13 ?k14 ?k15; (case k1 => omega); (case k2 => exact X); (case k3 => exact T); (case k4 => exact sub); (case k5 => exact hsz); (case k6 => exact N); (case k7 => k_is); (case k8 => k_is); (case k9 => exact rfl); (case k10 => exact fun _ => rfl); (case k11 => exact fun _ => locs rfl); (case k12 => decide); (case k13 => rfl); (case k14 => rfl); (case k15 => rfl))
  intro D' L' h' l1 F' N'
  clear N
  try dsimp only
  try k_fold
  repeat' (first | (fail_if_success (with_reducible show wpAny _ _ (call (Value.type "map") _) _ _ _)); (first | (k_unfold; (try dsimp only)) | (k_end; wrow_close) | walk1 | (dsimp only; walk1)))
  have hlt : L' < h'.objs.size := F'.ns.lt
  have hD := N' _ (.head _)
  have hDlt : D' < h'.objs.size := Heap.lt_size hD.1
  have h0 : g.get? h'.objs.size = none := Heap.get?_none_of_le (Nat.le_trans F'.above (Nat.le_of_lt hlt))
  refine call_map ⟨_, hD.1, rfl, _, rfl⟩ fun h2 a1 a2 a3 a4 a5 => ?_
  have F2 := kmb_fr (I := h'.objs.size) F' (fun b o _ e => a5 b o e) (Nat.ne_of_gt hlt) h0
  have hT2 : h2.IsTuple D' #[.str u tu, .str v tv] := ⟨_, a5 _ _ hD.1, rfl, _, rfl⟩
  have hkg : ∀ b o, g.get? b = some o → h2.get? b = some o := F2.keep
  clear N' F'
  dsimp only at a1 a2 a3 a4
  repeat' (first | (fail_if_success (with_reducible show wpAny _ _ (call (Value.builtin "max") _) _ _ _)); (first | (k_unfold; (try dsimp only)) | (k_end; wrow_close) | walk1 | (dsimp only; walk1)))
  refine max_map2 rfl ?_ ?_ ?_ hu' hv' a1 a2 a3 hT2 fun h3 tk3 t3 hk3 => ?_
  · exact Nat.ne_of_gt (Nat.lt_succ_of_lt (Nat.lt_succ_self _))
  · exact Nat.ne_of_gt (Nat.lt_succ_self _)
  · exact Nat.ne_of_lt hDlt
  exact ret _ _ _ [] (fun b o e => hk3 b o (fun q => by rw [List.mem_singleton.mp q] at e; rw [h0] at e; cases e) (hkg b o e)) (fun _ h => nomatch h) ⟨rfl, t3, rfl⟩
end Mine
end

section -- C10
set_option Elab.async false
set_option maxRecDepth 100000
set_option maxHeartbeats 1000000
namespace Mine
open PySem PySem.W PySem.Spec PySem.Calls PyProof.Rows
local macro_rules | `(tactic| walk_at "eval Call Attribute") => `(tactic| (k_here; (with_reducible show wpAny _ _ (eval (Expr.Call (Expr.Attribute _ _ _) [Expr.Starred _ _] [] _) _) _ _ _); k_dflt (refine' method_star ?_; k_whole)))
local macro_rules | `(tactic| walk_at "callWith ref") => `(tactic| (k_here; (with_reducible show wpAny _ _ (callWith _ (Value.ref _) _ (backTo _ (starEach [Expr.Starred _ _] _)) []) _ _ _); k_dflt (refine' callWith_SM ?k1 ?k2 ?k3 ?k4 ?_; (case k1 => k_asm); (case k2 => k_asm); (case k3 => k_mem); (case k4 => k_is); k_whole)))
local macro_rules | `(tactic| walk_at "callWith ref") => `(tactic| (k_here; (with_reducible show wpAny _ _ (callWith _ (Value.ref _) _ (backTo _ (starEach [Expr.Starred _ _] _)) []) _ _ _); k_dflt (refine' callWith_SO ?k1 ?k2 ?k3 ?k4 ?_; (case k1 => k_in); (case k2 => k_inst); (case k3 => rfl); (case k4 => k_is); k_whole)))

local macro_rules | `(tactic| walk_at "And") => `(tactic| ((with_reducible show MethP _ _ _ _ _ ∧ _); (with_reducible rename News _ _ _ _ => kN); refine ⟨methP kN (List.Mem.head _) (by k_in), ?_⟩; try dsimp only [List.nil_append, List.cons_append]))
local macro_rules | `(tactic| k_room) => `(tactic| ((try simp only [depth_under_make, depth_under_kw, depth_in1, depth_deeper, depth_caller]); omega))

local macro_rules | `(tactic| walk_at "getAttr ref") => `(tactic| (k_here; k_dflt (refine' get_sm ?k1 ?k2 ?k4 ?k5 ?k6 ?k7 ?k9 ?k10 ?k11 ?k12 ?k13 ?k14 ?_; (case k1 => k_asm); (case k2 => k_asm); (case k4 => k_inst); (case k5 => k_is); (case k6 => k_is); (case k7 => k_is); (case k9 => k_is); (case k10 => k_is); (case k11 => decide +kernel); (case k12 => k_get); (case k13 => k_is); (case k14 => k_handed); k_whole)))

theorem dist_cc {w : World} {mean : ExcName → Option Value} {mg mb : Str → Option Value} (x dx r : Addr) (t1 t2 t3 t4 : Tok) (b : Bool) (u v : Str) (tu tv : Tok) (hu' : u.length ≤ 20) (hv' : v.length ≤ 20) :
    CC w mean mg mb 164 40 200 ⟨[.ref x, .str u tu, .str v tv], []⟩ (fun _ => @Ne Nat x dx) [(x, instObj 225 dx), (dx, dict3 w t1 t2 t3 t4 r b)]
      (fun z nu' => nu' = [(x, instObj 225 dx), (dx, dict3 w t1 t2 t3 t4 r b)] ∧ ∃ (r : List Nat) (t : Tok), z = .int ((max u.length v.length : Nat) - r.length) t ∧ IsLcs u.cps.toList v.cps.toList r) := by
  w_top off
  have hlaw : PySem.Challenge.rw_ag5023_01 = PySem.Challenge.rw_ag5023_01 := rfl
  unfold CC
  k_fill
  intro dp un gd outer base g s R hd hu B X T sub hsz N pre ret
  k_dflt (refine' enter_rest (vs := [.str u tu, .str v tv]) ?k1 ?k2 ?k3 ?k4 ?k5 ?k6 ?k7 ?k8 ?k9 ?k10 ?k11 ?_ ?k12 ?k13 ?k14 ?k15; (case k1 => omega); (case k2 => exact X); (case k3 => exact T); (case k4 => exact sub); (case k5 => exact hsz); (case k6 => exact N); (case k7 => k_is); (case k8 => k_is); (case k9 => exact rfl); (case k10 => exact fun _ => rfl); (case k11 => exact fun _ => locs rfl); (case k12 => decide); (case k13 => rfl); (case k14 => rfl); (case k15 => rfl))
  intro D' L' h' l1 F' N'
  clear N
  try dsimp only
  try k_fold
  have l2 : ltn x D' := l1 _ (.head _)
  have l3 : ltn dx D' := l1 _ (.tail _ (.head _))
  repeat' (first | (fail_if_success (with_reducible show wpAny _ _ (call (Value.ref _) _) _ _ _)); (first | (k_unfold; (try dsimp only)) | (k_end; wrow_close) | walk1 | (dsimp only; walk1)))
  rename Fr _ _ _ _ => F8
  rename News _ _ _ _ => N8
  refine wpAny_call ?_
  refine cc_use (dp := dp + 1) (un := un + 3) (rest := [(D', _), (x, _), (dx, _)]) (max_cc u v tu tv hu' hv') B F8 X T (kst_newsOf N8 (by kst_inAny)) (fun _ _ q => nomatch q) rfl rfl (by omega) (by omega) (fun _ _ => trivial) ?_
  rintro z h' tk' nu' F9 N9 off ⟨rfl, t', rfl⟩
  clear F8 N8 off
  simp only [List.cons_append, List.nil_append] at N9
  dsimp only
  try k_fold
  repeat' (first | (fail_if_success (with_reducible show wpAny _ _ (call (Value.ref _) _) _ _ _)); (first | (k_unfold; (try dsimp only)) | (k_end; wrow_close) | walk1 | (dsimp only; walk1)))
  rename Fr _ _ _ _ => F8
  rename News _ _ _ _ => N8
  refine call_meth N8 (.head _) ?_
  refine cc_use (dp := dp + 1) (un := un + 3) (rest := []) (sim_cc x dx r t1 t2 t3 t4 b u v tu tv hu' hv') B F8 X T (kst_newsOf N8 (by kst_inAny)) (fun _ q => nomatch q) rfl rfl (by omega) (by omega) (fun _ _ => pre) ?_
  rintro z h' tk' nu' F9 N9 off ⟨rfl, r', t', rfl, hl⟩
  clear F8 N8 off
  have hrl : r'.length ≤ 20 := by have := hl.1.length_le; have : u.cps.toList.length = u.length := rfl; omega
  simp only [List.cons_append, List.nil_append] at N9
  dsimp only
  try k_fold
  repeat' (first | (fail_if_success (with_reducible show wpAny _ _ (call (Value.ref _) _) _ _ _)); (first | (k_unfold; (try dsimp only)) | (k_end; wrow_close) | walk1 | (dsimp only; walk1)))
  rename News _ _ _ _ => N8
  exact ret _ _ _ [(x, instObj 225 dx), (dx, dict3 w t1 t2 t3 t4 r b)] F9.keep (foot_of (kst_newsOf N8 (by kst_inAny))) ⟨rfl, r', _, rfl, hl⟩
end Mine
end

section -- Us
set_option Elab.async false
set_option maxRecDepth 100000
set_option maxHeartbeats 1000000
namespace Mine
open PySem PySem.W PySem.Spec PySem.Calls PyProof.Rows
section
variable {w : World} {mean : ExcName → Option Value} {mg mb : Str → Option Value} {dp un d u : Nat} {gd : Option (List Code)} {env : Env} {outer : List Env} {A₀ : Around} {base h₀ : Heap} {L : Addr} {m : Str → Option Value} {s : Shared} {f : Addr} {args : Args} {Pre : Heap → Prop}
  {nu news : List (Addr × Obj)} {P : Value → Prop} {R : Result → Shared → Prop}

/-- a contract whose footprint stays as it is, used from a frame -/
theorem cc_same (C : CC w mean mg mb f d u args Pre nu (fun v nu' => nu' = nu ∧ P v)) (B : Below A₀ base outer h₀) (F : Fr h₀ L s.heap m) (X : (hd.heap_39 w.params).In h₀) (T : TopM mean mg mb h₀) (N : News h₀ L s.heap news)
    (hin : ∀ p ∈ nu, p ∈ news) (hf : env.frame = some L) (hke : env.scope.kind = .function) (hroom : dp + d < recursionLimit) (hu : un + u < cLine)
    (pre : ∀ g : Heap, (∀ b o, s.heap.get? b = some o → b ∉ nu.map (·.1) → g.get? b = some o) → Pre g)
    (h : ∀ v h' tk', Fr h₀ L h' m → News h₀ L h' news → P v → R (.ok (.ret v)) { s with heap := h', toks := tk' }) :
    codeAny (model PySem.Challenge.rw_ag5023_01.row.prog w) (ar dp un gd (env :: outer)) (.call (.ref f) args) R s := by
  refine cc_use (rest := news.filter fun p => !(nu.map (·.1)).contains p.1) C B F X T (kst_newsOf N fun p hp => ?_) (fun p hp => ?_) hf hke hroom hu pre fun v h' tk' nu' F' N' _ post => ?_
  · rcases List.mem_append.mp hp with hp | hp
    · exact hin p hp
    · exact (List.mem_filter.mp hp).1
  · have := (List.mem_filter.mp hp).2
    simpa using this
  · obtain ⟨rfl, hP⟩ := post
    refine h v h' tk' F' (fun p hp => ?_) hP
    by_cases hq : p.1 ∈ nu'.map (·.1)
    · obtain ⟨q, hq1, hq2⟩ := List.mem_map.mp hq
      have e1 := (N p hp).1
      have e2 := (N q (hin q hq1)).1
      rw [hq2, e1] at e2
      have e3 : q = p := Prod.ext hq2 (Option.some.inj e2).symm
      exact N' p (List.mem_append_left _ (e3 ▸ hq1))
    · exact N' p (List.mem_append_right _ (List.mem_filter.mpr ⟨hp, by simpa using hq⟩))
end
theorem pre_list {h₀ h : Heap} {L l : Addr} {n : Nat} {news : List (Addr × Obj)} {vs : List Value} {ns : List Int} (N : News h₀ L h news) (hm : (l, W.listOf vs.toArray n) ∈ news) (i : IntsAre vs ns) :
    ∀ g : Heap, (∀ b o, h.get? b = some o → b ∉ ([] : List (Addr × Obj)).map (·.1) → g.get? b = some o) → ∃ vs : List Value, g.IsList l vs.toArray ∧ IntsAre vs ns :=
  fun _ hg => ⟨vs, Heap.IsList.at (News.isList N hm) fun o e => hg _ o e (List.not_mem_nil), i⟩
theorem exec_cut {M : Model} {A : Around} {E : Value → Shared → Prop} {Q : Flow → Shared → Prop} {env : Env} {s : Shared} {s1 s2 : Stmt} {r : List Stmt} (J : Shared → Prop)
    (h1 : wpAny M A (execs [s1, s2] env) (fun fl s' => fl = .next ∧ J s') E s) (h2 : ∀ s', J s' → wpAny M A (execs r env) Q E s') : wpAny M A (execs (s1 :: s2 :: r) env) Q E s := by
  rw [show s1 :: s2 :: r = [s1, s2] ++ r from rfl, execs_app]
  refine wpAny_bind (wpAny_mono h1 (fun fl s' h => ?_) fun _ _ h => h)
  obtain ⟨rfl, h⟩ := h
  exact h2 s' h
theorem word_at (ns : List Int) : (word ns).length = ns.length := word_length ns

/-- what stands when the words are made -/
def Made (w : World) (h₀ : Heap) (L : Addr) (s s' : Shared) : Prop :=
  ∃ (size : Nat) (m : Str → Option Value) (h : Heap) (tk : Nat) (o1 o2 o3 o4 : Obj) (r1 r2 x dx : Addr) (rv1 rv2 : List Value) (rs1 rs2 : List Int) (n1 n2 : Nat) (t tr tw t1 t2 t3 t4 : Tok) (r : Addr) (b : Bool),
    s' = { s with heap := h, toks := tk } ∧ Fr h₀ L h m ∧ News h₀ L h [(x, instObj 225 dx), (dx, dict3 w t1 t2 t3 t4 r b), (r2, listOf rv2.toArray n2), (r1, listOf rv1.toArray n1), (L + 1 + 1 + 1 + 1, o4), (L + 1 + 1 + 1, o3), (L + 1 + 1, o2), (L + 1, o1)] ∧
    m (Str.ofString "common") = some (.ref x) ∧ m (Str.ofString "rising") = some (.str (word (ids size)) tr) ∧
    o4.data = Data.cell (some (.str (word rs1) tw)) ∧ o3.data = Data.cell (some (.ref r2)) ∧ o2.data = Data.cell (some (.ref r1)) ∧ o1.data = Data.cell (some (.int size t)) ∧ 1 ≤ size ∧ size ≤ 7 ∧
    IntsAre rv1 rs1 ∧ IntsAre rv2 rs2 ∧ rs1.Perm (ids size) ∧ rs2.Perm (ids size) ∧ @Ne Nat r2 r1 ∧ ltn (L + 1 + 1 + 1 + 1) r1 ∧ ltn (L + 1 + 1 + 1 + 1) r2 ∧ ltn dx x ∧ ltn r1 dx ∧ ltn r2 dx
end Mine
end

section -- Sl
set_option Elab.async false
set_option maxRecDepth 100000
namespace Mine
open PySem PySem.W PySem.Spec PySem.Calls PyProof.Rows Builtin Builtin.Str
theorem picked_rev (n : Nat) : strSliceIndices none none (-1) n = (List.range n).map fun k => n - 1 - k := by
  unfold strSliceIndices sliceRange
  simp only [show ¬ ((-1 : Int) > 0) from by decide, if_false]
  have e : (if (n : Int) - 1 > -1 then ((n : Int) - 1 - -1 - -1 - 1) / (- -1) else 0).toNat = n := by
    split
    · rw [show (- -1 : Int) = 1 from rfl, Int.ediv_one]; omega
    · omega
  simp only [e]
  refine List.map_congr_left fun k hk => ?_
  have := List.mem_range.mp hk
  omega
theorem filterMap_get (l : List Nat) : ∀ is : List Nat, (∀ i ∈ is, i < l.length) → is.filterMap (l.toArray[·]?) = is.map fun i => l.getD i 0
  | [], _ => rfl
  | i :: is, h => by
    have hi := h i (.head _)
    rw [List.filterMap_cons, List.map_cons, filterMap_get l is fun j hj => h j (.tail _ hj)]
    simp [hi]
theorem slice_rev (s : PySem.Str) (t : Tok) : (Txt.sliceBy s none none (-1, t)).cps.toList = s.cps.toList.reverse := by
  have e : Txt.sliceBy s none none (-1, t) = ⟨((strSliceIndices none none (-1) s.length).filterMap (s.cps[·]?)).toArray⟩ := by
    unfold Txt.sliceBy slicePicked
    simp
  rw [e, picked_rev]
  obtain ⟨⟨l⟩⟩ := s
  show (List.filterMap (l.toArray[·]?) _) = l.reverse
  rw [filterMap_get]
  · refine List.ext_getElem (by simp [PySem.Str.length]) fun i h1 h2 => ?_
    simp [PySem.Str.length] at h1 h2 ⊢
    simp [h2, List.getElem?_eq_getElem (show l.length - 1 - i < l.length by omega)]
  · intro i hi
    have hs : PySem.Str.length ⟨l.toArray⟩ = l.length := by simp [PySem.Str.length]
    rw [hs] at hi
    obtain ⟨k, hk, rfl⟩ := List.mem_map.mp hi
    have := List.mem_range.mp hk
    omega
theorem picked_init (n : Nat) : strSliceIndices none (some (-1)) 1 n = List.range (n - 1) := by
  unfold strSliceIndices sliceRange
  simp only [show ((1 : Int) > 0) from by decide, if_true, show ((-1 : Int) < 0) from by decide]
  have e : (if (0 : Int) < max 0 (min (-1 + (n : Int)) n) then (max 0 (min (-1 + (n : Int)) n) - 0 + 1 - 1) / 1 else 0).toNat = n - 1 := by
    split
    · rw [Int.ediv_one]; omega
    · omega
  simp only [e]
  conv => rhs; rw [← List.map_id (List.range (n - 1))]
  refine List.map_congr_left fun k hk => ?_
  show _ = k
  omega
theorem slice_init (s : PySem.Str) : (Txt.slice s none (some (-1))).cps.toList = s.cps.toList.dropLast := by
  obtain ⟨⟨l⟩⟩ := s
  unfold Txt.slice
  rw [picked_init]
  have hs : PySem.Str.length ⟨l.toArray⟩ = l.length := by simp [PySem.Str.length]
  split
  · rename_i h
    simp [hs] at h
    have : l = [] := List.length_eq_zero_iff.mp (by omega)
    subst this; rfl
  · show (List.filterMap (l.toArray[·]?) _) = l.dropLast
    rw [filterMap_get]
    · refine List.ext_getElem (by simp [hs]) fun i h1 h2 => ?_
      simp [hs] at h1 h2 ⊢
      simp [List.getElem?_eq_getElem (show i < l.length by omega)]
    · intro i hi
      have := List.mem_range.mp hi
      rw [hs] at this
      omega
end Mine
end

section -- Pq
set_option Elab.async false
namespace Mine

/-- a row that rises -/
abbrev Ris (r : List Int) : Prop := r.Pairwise (· < ·)
/-- a row that falls -/
abbrev Fal (r : List Int) : Prop := r.Pairwise (· > ·)

/-- a number put into a rising row -/
def rowPut : List Int → Int → List Int
  | [], x => [x]
  | y :: t, x => if y < x then y :: rowPut t x else x :: t
/-- what it drives out -/
def rowOutOf : List Int → Int → Option Int
  | [], _ => none
  | y :: t, x => if y < x then rowOutOf t x else some y

theorem bump_nil (b : Int) : bump [] b = 0 := rfl
theorem bump_cons (y : Int) (t : List Int) (b : Int) : bump (y :: t) b = (if y < b then 1 else 0) + bump t b := by
  unfold bump
  by_cases h : y < b
  · rw [List.filter_cons_of_pos (by simp [h]), List.length_cons, if_pos h]; omega
  · rw [List.filter_cons_of_neg (by simp [h]), if_neg h]; omega
theorem bump_zero {t : List Int} {b : Int} (h : ∀ z ∈ t, b ≤ z) : bump t b = 0 := by
  induction t with
  | nil => rfl
  | cons y t ih =>
    have := h y (.head _)
    rw [bump_cons, if_neg (by omega), ih fun z hz => h z (.tail _ hz)]
theorem mem_rowPut {x z : Int} : ∀ {r : List Int}, z ∈ rowPut r x → z = x ∨ z ∈ r
  | [], h => by simp [rowPut] at h; exact .inl h
  | y :: t, h => by
    unfold rowPut at h
    split at h
    · rcases List.mem_cons.mp h with rfl | h
      · exact .inr (.head _)
      · rcases mem_rowPut h with h | h
        · exact .inl h
        · exact .inr (.tail _ h)
    · rcases List.mem_cons.mp h with rfl | h
      · exact .inl rfl
      · exact .inr (.tail _ h)
theorem self_rowPut (x : Int) : ∀ r : List Int, x ∈ rowPut r x
  | [] => .head _
  | y :: t => by
    unfold rowPut
    split
    · exact .tail _ (self_rowPut x t)
    · exact .head _
theorem ris_rowPut {x : Int} : ∀ {r : List Int}, Ris r → Ris (rowPut r x)
  | [], _ => by simp [rowPut, Ris]
  | y :: t, h => by
    have h' := List.pairwise_cons.mp h
    unfold rowPut
    split
    · refine List.pairwise_cons.mpr ⟨fun z hz => ?_, ris_rowPut h'.2⟩
      rcases mem_rowPut hz with rfl | hz
      · assumption
      · exact h'.1 z hz
    · refine List.pairwise_cons.mpr ⟨fun z hz => ?_, h'.2⟩
      have := h'.1 z hz
      omega
theorem bump_rowPut_ge {x b : Int} (h : b ≤ x) : ∀ r : List Int, bump (rowPut r x) b = bump r b
  | [] => by unfold rowPut; rw [bump_cons, if_neg (by omega), Nat.zero_add]
  | y :: t => by
    unfold rowPut
    split
    · rw [bump_cons, bump_cons, bump_rowPut_ge h t]
    · rw [bump_cons, bump_cons, if_neg (by omega), if_neg (by omega)]
theorem bump_rowPut_lt {x b : Int} (h : x < b) : ∀ {r : List Int}, Ris r → bump (rowPut r x) b = max (bump r b) (bump r x + 1)
  | [], _ => by unfold rowPut; rw [bump_cons, if_pos h, bump_nil, bump_nil]; rfl
  | y :: t, hr => by
    have h' := List.pairwise_cons.mp hr
    unfold rowPut
    split
    · rename_i hyx
      have hyb : y < b := Int.lt_trans hyx h
      rw [bump_cons, bump_cons, bump_cons, bump_rowPut_lt h h'.2]
      simp only [if_pos hyx, if_pos hyb]
      omega
    · rename_i hyx
      rw [bump_cons, bump_cons, bump_cons, bump_zero (t := t) (b := x) fun z hz => by have := h'.1 z hz; omega]
      simp only [if_pos h, if_neg hyx]
      by_cases hy : y < b
      · rw [if_pos hy]; omega
      · rw [if_neg hy, bump_zero (t := t) (b := b) fun z hz => by have := h'.1 z hz; omega]; rfl
theorem bump_mono_put {x b : Int} {r : List Int} (hr : Ris r) : bump r b ≤ bump (rowPut r x) b := by
  by_cases h : x < b
  · rw [bump_rowPut_lt h hr]; omega
  · rw [bump_rowPut_ge (by omega)]; omega
theorem bump_length (r : List Int) (b : Int) : bump r b ≤ r.length := List.length_filter_le ..
theorem length_rowPut (x : Int) : ∀ {r : List Int}, Ris r → (rowPut r x).length = max r.length (bump r x + 1)
  | [], _ => by simp [rowPut, bump_nil]
  | y :: t, hr => by
    have h' := List.pairwise_cons.mp hr
    unfold rowPut
    split
    · rw [List.length_cons, List.length_cons, bump_cons, length_rowPut x h'.2, if_pos (by omega)]; omega
    · rw [List.length_cons, List.length_cons, bump_cons, if_neg (by omega), bump_zero (t := t) (b := x) fun z hz => by have := h'.1 z hz; omega]; omega
theorem pileStep_put (x : Int) : ∀ {r : List Int}, Ris r → pileStep r x = rowPut r x
  | [], _ => rfl
  | y :: t, hr => by
    have h' := List.pairwise_cons.mp hr
    have ih := pileStep_put x h'.2
    unfold pileStep at ih ⊢
    unfold rowPut
    by_cases h : y < x
    · rw [List.filter_cons_of_pos (by simp [h]), List.length_cons, if_pos h, List.take_succ_cons, List.drop_succ_cons, ← ih]; simp
    · have e : (t.filter fun a => decide (a < x)).length = 0 := bump_zero (t := t) (b := x) fun z hz => by have := h'.1 z hz; omega
      rw [List.filter_cons_of_neg (by simp [h]), e, if_neg h]; rfl

/-- many numbers put into a row -/
def rowRun (r w : List Int) : List Int := w.foldl rowPut r
theorem rowRun_cons (r : List Int) (x : Int) (w : List Int) : rowRun r (x :: w) = rowRun (rowPut r x) w := rfl
theorem piles_run_go (w : List Int) : ∀ {r : List Int}, Ris r → w.foldl pileStep r = rowRun r w := by
  induction w with
  | nil => intro r _; rfl
  | cons x w ih => intro r hr; rw [List.foldl_cons, pileStep_put x hr, ih (ris_rowPut hr)]; rfl
theorem piles_run (w : List Int) : piles w = rowRun [] w := piles_run_go w .nil
theorem run_mono (w : List Int) : ∀ {r : List Int}, Ris r → r.length ≤ (rowRun r w).length := by
  induction w with
  | nil => intro r _; exact Nat.le_refl _
  | cons x w ih => intro r hr; rw [rowRun_cons]; have := ih (ris_rowPut (x := x) hr); have := length_rowPut x hr; omega
theorem run_ge (w : List Int) : ∀ {r : List Int}, Ris r → ∀ (b : Int) (c : List Int), Ris (b :: c) → (b :: c).Sublist w → bump r b + (b :: c).length ≤ (rowRun r w).length := by
  induction w with
  | nil => intro r _ b c _ h; cases h
  | cons x w ih =>
    intro r hr b c hc hs
    rw [rowRun_cons]
    rcases List.sublist_cons_iff.mp hs with hs | ⟨c', he, hs⟩
    · have := ih (ris_rowPut (x := x) hr) b c hc hs
      have := bump_mono_put (x := x) (b := b) hr
      omega
    · obtain ⟨rfl, rfl⟩ := List.cons.inj he
      clear he
      cases c with
      | nil => 
        have := run_mono w (ris_rowPut (x := b) hr)
        have := length_rowPut b hr
        simp only [List.length_cons, List.length_nil]; omega
      | cons b' c =>
        have h' := List.pairwise_cons.mp hc
        have := ih (ris_rowPut (x := b) hr) b' c h'.2 hs
        have hb := h'.1 b' (.head _)
        rw [bump_rowPut_lt hb hr] at this
        rw [List.length_cons]
        omega
theorem run_le (w : List Int) : ∀ {r : List Int}, Ris r → (rowRun r w).length = r.length ∨ ∃ (b : Int) (c : List Int), Ris (b :: c) ∧ (b :: c).Sublist w ∧ (rowRun r w).length = bump r b + (b :: c).length := by
  induction w with
  | nil => intro r _; exact .inl rfl
  | cons x w ih =>
    intro r hr
    rw [rowRun_cons]
    have hl := length_rowPut x hr
    have hb := bump_length r x
    rcases ih (ris_rowPut (x := x) hr) with h | ⟨b, c, hc, hs, h⟩
    · by_cases he : bump r x = r.length
      · refine .inr ⟨x, [], List.pairwise_singleton .., (List.nil_sublist _).cons_cons _, ?_⟩
        simp only [List.length_cons, List.length_nil]; omega
      · exact .inl (by omega)
    · by_cases hx : x < b
      · rw [bump_rowPut_lt hx hr] at h
        by_cases hm : bump r x + 1 ≤ bump r b
        · exact .inr ⟨b, c, hc, hs.cons _, by omega⟩
        · refine .inr ⟨x, b :: c, List.pairwise_cons.mpr ⟨fun z hz => ?_, hc⟩, hs.cons_cons _, by rw [List.length_cons (a := x)]; omega⟩
          rcases List.mem_cons.mp hz with rfl | hz
          · exact hx
          · have := (List.pairwise_cons.mp hc).1 z hz; omega
      · rw [bump_rowPut_ge (by omega)] at h
        exact .inr ⟨b, c, hc, hs.cons _, h⟩
/-- the piles count a longest rising row -/
theorem piles_max {w c : List Int} (hs : c.Sublist w) (hc : Ris c) : c.length ≤ (piles w).length := by
  rw [piles_run]
  cases c with
  | nil => exact Nat.zero_le _
  | cons b c => have := run_ge w (r := []) .nil b c hc hs; omega
theorem piles_some (w : List Int) : ∃ c : List Int, c.Sublist w ∧ Ris c ∧ c.length = (piles w).length := by
  rw [piles_run]
  rcases run_le w (r := []) .nil with h | ⟨b, c, hc, hs, h⟩
  · exact ⟨[], List.nil_sublist _, .nil, by rw [h]⟩
  · exact ⟨b :: c, hs, hc, by rw [h, bump_nil]; omega⟩

/-- what a row drives out, in its order -/
def rowBumps : List Int → List Int → List Int
  | _, [] => []
  | r, x :: w => (rowOutOf r x).toList ++ rowBumps (rowPut r x) w
theorem insT_put (x : Int) (T : List (List Int)) {r : List Int} (hr : Ris r) : insT (r :: T) x = rowPut r x :: (rowOutOf r x).toList.foldl insT T := by
  unfold insT
  have key : ∀ {r : List Int}, Ris r → (if bump r x = r.length then rowPut r x = r ++ [x] ∧ rowOutOf r x = none else rowPut r x = r.set (bump r x) x ∧ rowOutOf r x = some (r.getD (bump r x) 0)) := by
    intro r
    induction r with
    | nil => intro _; exact ⟨rfl, rfl⟩
    | cons y t ih =>
      intro hr
      have h' := List.pairwise_cons.mp hr
      have ih := ih h'.2
      unfold rowPut rowOutOf
      by_cases h : y < x
      · rw [bump_cons, if_pos h, if_pos h, if_pos h, List.length_cons]
        by_cases he : bump t x = t.length
        · rw [if_pos he] at ih
          rw [if_pos (by omega), ih.1, ih.2]; exact ⟨rfl, rfl⟩
        · rw [if_neg he] at ih
          rw [if_neg (by omega), ih.1, ih.2, Nat.add_comm 1]; exact ⟨rfl, rfl⟩
      · have e : bump t x = 0 := bump_zero fun z hz => by have := h'.1 z hz; omega
        rw [bump_cons, if_neg h, if_neg h, if_neg h, e, if_neg (by simp)]
        exact ⟨rfl, rfl⟩
  have k := key hr
  split
  · rename_i he
    rw [if_pos he] at k
    rw [k.1, k.2]; rfl
  · rename_i he
    rw [if_neg he] at k
    rw [k.1, k.2]; rfl
theorem table_run (w : List Int) : ∀ (r : List Int) (T : List (List Int)), Ris r → w.foldl insT (r :: T) = rowRun r w :: (rowBumps r w).foldl insT T := by
  induction w with
  | nil => intro r T _; rfl
  | cons x w ih =>
    intro r T hr
    rw [List.foldl_cons, insT_put x T hr, ih _ _ (ris_rowPut hr), rowRun_cons]
    show _ = _ :: ((rowOutOf r x).toList ++ rowBumps (rowPut r x) w).foldl insT T
    rw [List.foldl_append]
theorem tableOf_cons (x : Int) (w : List Int) : (tableOf (x :: w)).length = (tableOf (rowBumps [] (x :: w))).length + 1 := by
  unfold tableOf
  rw [List.foldl_cons]
  show (w.foldl insT ([x] :: [])).length = _
  rw [table_run w [x] [] (List.pairwise_singleton ..), List.length_cons]
  rfl
theorem put_perm (x : Int) : ∀ r : List Int, (rowPut r x ++ (rowOutOf r x).toList).Perm (x :: r)
  | [] => .refl _
  | y :: t => by
    unfold rowPut rowOutOf
    by_cases h : y < x
    · rw [if_pos h, if_pos h, List.cons_append]
      exact ((put_perm x t).cons y).trans (.swap ..)
    · rw [if_neg h, if_neg h]
      show (x :: (t ++ [y])).Perm (x :: y :: t)
      exact List.Perm.cons x (List.perm_append_comm (l₁ := t) (l₂ := [y]))
theorem run_perm (w : List Int) : ∀ r : List Int, (rowRun r w ++ rowBumps r w).Perm (r ++ w) := by
  induction w with
  | nil => intro r; rw [List.append_nil]; exact .of_eq (List.append_nil _)
  | cons x w ih =>
    intro r
    rw [rowRun_cons]
    show (rowRun (rowPut r x) w ++ ((rowOutOf r x).toList ++ rowBumps (rowPut r x) w)).Perm _
    have h1 : (rowRun (rowPut r x) w ++ ((rowOutOf r x).toList ++ rowBumps (rowPut r x) w)).Perm ((rowOutOf r x).toList ++ (rowRun (rowPut r x) w ++ rowBumps (rowPut r x) w)) := by
      rw [← List.append_assoc, ← List.append_assoc]
      exact List.Perm.append_right _ List.perm_append_comm
    refine h1.trans (((ih (rowPut r x)).append_left _).trans ?_)
    rw [← List.append_assoc]
    refine (List.Perm.append_right w (List.perm_append_comm.trans (put_perm x r))).trans ?_
    exact List.perm_middle.symm
theorem out_mem {x y : Int} : ∀ {r : List Int}, rowOutOf r x = some y → y ∈ r ∧ x ≤ y
  | [], h => by simp [rowOutOf] at h
  | z :: t, h => by
    unfold rowOutOf at h
    split at h
    · exact ⟨.tail _ (out_mem h).1, (out_mem h).2⟩
    · cases h; exact ⟨.head _, by omega⟩
theorem out_some {x a : Int} : ∀ {r : List Int}, Ris r → a ∈ r → x ≤ a → ∃ y, rowOutOf r x = some y ∧ y ≤ a
  | [], _, h, _ => by cases h
  | z :: t, hr, h, hx => by
    have h' := List.pairwise_cons.mp hr
    unfold rowOutOf
    split
    · rcases List.mem_cons.mp h with rfl | h
      · omega
      · exact out_some h'.2 h hx
    · refine ⟨z, rfl, ?_⟩
      rcases List.mem_cons.mp h with rfl | h
      · omega
      · have := h'.1 a h; omega
theorem put_keeps {x a : Int} : ∀ {r : List Int}, a ∈ r → rowOutOf r x ≠ some a → a ∈ rowPut r x
  | [], h, _ => by cases h
  | z :: t, h, hn => by
    unfold rowOutOf at hn
    unfold rowPut
    split
    · rename_i hz
      rw [if_pos hz] at hn
      rcases List.mem_cons.mp h with rfl | h
      · exact .head _
      · exact .tail _ (put_keeps h hn)
    · rename_i hz
      rw [if_neg hz] at hn
      rcases List.mem_cons.mp h with rfl | h
      · exact absurd rfl hn
      · exact .tail _ h
/-- what is left below the driven-out number is not above the new one -/
theorem put_below {x y z : Int} : ∀ {r : List Int}, Ris r → rowOutOf r x = some y → z ∈ rowPut r x → z < y → z ≤ x
  | [], _, h, _, _ => by simp [rowOutOf] at h
  | u :: t, hr, h, hz, hl => by
    have h' := List.pairwise_cons.mp hr
    unfold rowOutOf at h
    unfold rowPut at hz
    split at h
    · rename_i hu
      rw [if_pos hu] at hz
      rcases List.mem_cons.mp hz with rfl | hz
      · omega
      · exact put_below h'.2 h hz hl
    · rename_i hu
      rw [if_neg hu] at hz
      cases h
      rcases List.mem_cons.mp hz with rfl | hz
      · omega
      · have := h'.1 z hz; omega
theorem nodup_step {r w : List Int} {x : Int} (h : (r ++ x :: w).Nodup) : (rowPut r x ++ w).Nodup ∧ x ∉ r ∧ ∀ y, rowOutOf r x = some y → y ∉ rowPut r x ++ w := by
  have h1 : ((rowPut r x ++ (rowOutOf r x).toList) ++ w).Nodup := (List.Perm.append_right w (put_perm x r)).nodup_iff.mpr (List.perm_middle.nodup_iff.mp h)
  refine ⟨?_, ?_, ?_⟩
  · refine h1.sublist ?_
    rw [List.append_assoc]
    exact List.Sublist.append_left (List.sublist_append_right _ _) _
  · have := List.perm_middle.nodup_iff.mp h
    intro q
    exact (List.nodup_cons.mp this).1 (List.mem_append_left _ q)
  · intro y hy
    rw [hy] at h1
    have h2 : (y :: (rowPut r x ++ w)).Nodup := by
      refine List.Perm.nodup_iff ?_ |>.mp h1
      show ((rowPut r x ++ [y]) ++ w).Perm _
      rw [List.append_assoc]
      exact List.perm_middle
    exact (List.nodup_cons.mp h2).1
theorem bumps_cons (r : List Int) (x : Int) (w : List Int) : (rowBumps (rowPut r x) w).Sublist (rowBumps r (x :: w)) := List.sublist_append_right _ _
theorem bumps_some {r : List Int} {x y : Int} {w d : List Int} (h : rowOutOf r x = some y) (hd : d.Sublist (rowBumps (rowPut r x) w)) : (y :: d).Sublist (rowBumps r (x :: w)) := by
  show (y :: d).Sublist ((rowOutOf r x).toList ++ _)
  rw [h]
  exact hd.cons_cons _
theorem fal_cons {b : Int} {c : List Int} (h : ∀ z ∈ c, z < b) (hc : Fal c) : Fal (b :: c) := List.pairwise_cons.mpr ⟨fun z hz => h z hz, hc⟩

theorem down (w : List Int) : ∀ r : List Int, Ris r → (r ++ w).Nodup →
    (∀ (a : Int) (c : List Int), a ∈ r → Fal (a :: c) → c.Sublist w → ∃ d : List Int, d.Sublist (rowBumps r w) ∧ Fal d ∧ d.length = c.length ∧ ∀ z ∈ d, z ≤ a) ∧
    (∀ (b : Int) (c : List Int), Fal (b :: c) → (b :: c).Sublist w → ∃ d : List Int, d.Sublist (rowBumps r w) ∧ Fal d ∧ d.length = c.length ∧ ∀ z ∈ d, z ≤ b) := by
  induction w with
  | nil =>
    intro r _ _
    refine ⟨fun a c _ _ h => ?_, fun b c _ h => by cases h⟩
    rw [List.sublist_nil] at h
    subst h
    exact ⟨[], List.nil_sublist _, .nil, rfl, fun _ h => by cases h⟩
  | cons x w ih =>
    intro r hr hnd
    obtain ⟨hnd', hxr, hout⟩ := nodup_step hnd
    obtain ⟨ih1, ih2⟩ := ih _ (ris_rowPut (x := x) hr) hnd'
    refine ⟨fun a c ha hc hs => ?_, fun b c hc hs => ?_⟩
    · rcases List.sublist_cons_iff.mp hs with hs | ⟨c', he, hs2⟩
      · by_cases hb : rowOutOf r x = some a
        · cases c with
          | nil => exact ⟨[], List.nil_sublist _, .nil, rfl, fun _ h => by cases h⟩
          | cons b c =>
            have h' := List.pairwise_cons.mp hc
            have hba := h'.1 b (.head _)
            obtain ⟨d, d1, d2, d3, d4⟩ := ih2 b c h'.2 hs
            refine ⟨a :: d, bumps_some hb d1, fal_cons (fun z hz => by have := d4 z hz; omega) d2, by simp [d3], fun z hz => ?_⟩
            rcases List.mem_cons.mp hz with rfl | hz
            · omega
            · have := d4 z hz; omega
        · obtain ⟨d, d1, d2⟩ := ih1 a c (put_keeps ha hb) hc hs
          exact ⟨d, d1.trans (bumps_cons r x w), d2⟩
      · subst he
        have h' := List.pairwise_cons.mp hc
        have hxa := h'.1 x (.head _)
        obtain ⟨y, hy, hya⟩ := out_some (x := x) hr ha (by omega)
        obtain ⟨hym, hxy⟩ := out_mem hy
        have hne : x ≠ y := fun q => hxr (q ▸ hym)
        obtain ⟨d, d1, d2, d3, d4⟩ := ih1 x c' (self_rowPut x r) h'.2 hs2
        refine ⟨y :: d, bumps_some hy d1, fal_cons (fun z hz => by have := d4 z hz; omega) d2, by simp [d3], fun z hz => ?_⟩
        rcases List.mem_cons.mp hz with rfl | hz
        · omega
        · have := d4 z hz; omega
    · rcases List.sublist_cons_iff.mp hs with hs | ⟨c', he, hs⟩
      · obtain ⟨d, d1, d2⟩ := ih2 b c hc hs
        exact ⟨d, d1.trans (bumps_cons r x w), d2⟩
      · obtain ⟨rfl, rfl⟩ := List.cons.inj he
        obtain ⟨d, d1, d2⟩ := ih1 b c (self_rowPut b r) hc hs
        exact ⟨d, d1.trans (bumps_cons r b w), d2⟩
theorem bumps_split {r : List Int} {x : Int} {w : List Int} {b : Int} {d : List Int} (h : (b :: d).Sublist (rowBumps r (x :: w))) :
    (rowOutOf r x = some b ∧ d.Sublist (rowBumps (rowPut r x) w)) ∨ (b :: d).Sublist (rowBumps (rowPut r x) w) := by
  have h1 : (b :: d).Sublist ((rowOutOf r x).toList ++ rowBumps (rowPut r x) w) := h
  cases ho : rowOutOf r x with
  | none => rw [ho] at h1; exact .inr h1
  | some y =>
    rw [ho] at h1
    rcases List.sublist_cons_iff.mp h1 with h1 | ⟨d', he, h1⟩
    · exact .inr h1
    · cases he; exact .inl ⟨rfl, h1⟩
theorem up_ (w : List Int) : ∀ r : List Int, Ris r → (r ++ w).Nodup → ∀ (b : Int) (d : List Int), Fal (b :: d) → (b :: d).Sublist (rowBumps r w) →
    (∃ c : List Int, c.Sublist w ∧ Fal c ∧ c.length = d.length + 1 ∧ ∀ z ∈ c, z < b) ∧
    (b ∉ r → ∃ c : List Int, c.Sublist w ∧ Fal c ∧ c.length = d.length + 1 + 1 ∧ ∀ z ∈ c, z ≤ b) := by
  induction w with
  | nil => intro r _ _ b d _ h; cases h
  | cons x w ih =>
    intro r hr hnd b d hd hs
    obtain ⟨hnd', hxr, hout⟩ := nodup_step hnd
    have ih := ih _ (ris_rowPut (x := x) hr) hnd'
    refine ⟨?_, fun hb => ?_⟩
    · rcases bumps_split hs with ⟨hb, hs⟩ | hs
      · obtain ⟨hbm, hxb⟩ := out_mem hb
        have hne : x ≠ b := fun q => hxr (q ▸ hbm)
        cases d with
        | nil => exact ⟨[x], (List.nil_sublist _).cons_cons _, List.pairwise_singleton .., rfl, fun z hz => by rw [List.mem_singleton.mp hz]; omega⟩
        | cons b2 d =>
          have h' := List.pairwise_cons.mp hd
          have hb2 := h'.1 b2 (.head _)
          obtain ⟨i1, i2⟩ := ih b2 d h'.2 hs
          by_cases hm : b2 ∈ rowPut r x
          · obtain ⟨c, c1, c2, c3, c4⟩ := i1
            have hbx := put_below hr hb hm hb2
            refine ⟨x :: c, c1.cons_cons _, fal_cons (fun z hz => by have := c4 z hz; omega) c2, by simp [c3], fun z hz => ?_⟩
            rcases List.mem_cons.mp hz with rfl | hz
            · omega
            · have := c4 z hz; omega
          · obtain ⟨c, c1, c2, c3, c4⟩ := i2 hm
            exact ⟨c, c1.cons _, c2, c3, fun z hz => by have := c4 z hz; omega⟩
      · obtain ⟨⟨c, c1, c2⟩, -⟩ := ih b d hd hs
        exact ⟨c, c1.cons _, c2⟩
    · rcases bumps_split hs with ⟨hb', hs⟩ | hs
      · exact absurd (out_mem hb').1 hb
      · obtain ⟨i1, i2⟩ := ih b d hd hs
        by_cases hm : b ∈ rowPut r x
        · rcases mem_rowPut hm with rfl | hm
          · obtain ⟨c, c1, c2, c3, c4⟩ := i1
            refine ⟨b :: c, c1.cons_cons _, fal_cons c4 c2, by simp [c3], fun z hz => ?_⟩
            rcases List.mem_cons.mp hz with rfl | hz
            · omega
            · have := c4 z hz; omega
          · exact absurd hm hb
        · obtain ⟨c, c1, c2⟩ := i2 hm
          exact ⟨c, c1.cons _, c2⟩
/-- Schensted: the table's rows count a longest falling row -/
theorem table_dec : ∀ (n : Nat) (w : List Int), w.length ≤ n → w.Nodup → (∃ c : List Int, c.Sublist w ∧ Fal c ∧ c.length = (tableOf w).length) ∧ ∀ c : List Int, c.Sublist w → Fal c → c.length ≤ (tableOf w).length
  | n, [], _, _ => by
    refine ⟨⟨[], .refl _, .nil, rfl⟩, fun c h _ => ?_⟩
    rw [List.sublist_nil.mp h]; exact Nat.zero_le _
  | 0, x :: w, h, _ => by simp at h
  | n + 1, x :: w, hl, hnd => by
    have hp := run_perm (x :: w) []
    rw [List.nil_append] at hp
    have hnb : (rowBumps [] (x :: w)).Nodup := (hp.nodup_iff.mpr hnd).sublist (List.sublist_append_right _ _)
    have hlen := hp.length_eq
    rw [List.length_append] at hlen
    have h1 : 1 ≤ (rowRun [] (x :: w)).length := run_mono w (r := [x]) (List.pairwise_singleton ..)
    obtain ⟨⟨d, d1, d2, d3⟩, hmax⟩ := table_dec n (rowBumps [] (x :: w)) (by omega) hnb
    rw [tableOf_cons]
    have hup := up_ (x :: w) [] .nil (by rw [List.nil_append]; exact hnd)
    have hdn := down (x :: w) [] .nil (by rw [List.nil_append]; exact hnd)
    refine ⟨?_, fun c hs hc => ?_⟩
    · cases d with
      | nil => exact ⟨[x], (List.nil_sublist _).cons_cons _, List.pairwise_singleton .., by rw [← d3]; rfl⟩
      | cons b d =>
        obtain ⟨c, c1, c2, c3, -⟩ := (hup b d d2 d1).2 (List.not_mem_nil)
        exact ⟨c, c1, c2, by rw [← d3, c3, List.length_cons]⟩
    · cases c with
      | nil => exact Nat.zero_le _
      | cons b c =>
        obtain ⟨d, d1, d2, d3, -⟩ := hdn.2 b c hc hs
        have := hmax d d1 d2
        rw [List.length_cons]; omega
end Mine
end

section -- Pl
set_option Elab.async false
namespace Mine
open PySem
/-- the letter of a number -/
def letterOf (x : Int) : Nat := (97 + x).toNat
theorem word_list (A : List Int) : (word A).cps.toList = A.map letterOf := rfl
theorem letter_inj {x y : Int} (hx : 0 ≤ x) (hy : 0 ≤ y) (h : letterOf x = letterOf y) : x = y := by unfold letterOf at h; omega
theorem mem_ids {n : Nat} {x : Int} : x ∈ ids n ↔ 0 ≤ x ∧ x < n := by
  constructor
  · intro h
    obtain ⟨i, hi, rfl⟩ := List.mem_map.mp h
    have := List.mem_range.mp hi
    show (0 : Int) ≤ (i : Int) ∧ (i : Int) < n
    omega
  · intro h
    exact List.mem_map.mpr ⟨x.toNat, List.mem_range.mpr (by omega), by show (x.toNat : Int) = x; omega⟩
theorem ids_ris (n : Nat) : Ris (ids n) := by
  unfold ids Ris
  rw [List.pairwise_map]
  exact List.pairwise_lt_range.imp fun {a b} h => by show (a : Int) < (b : Int); omega
theorem ris_nodup {l : List Int} (h : Ris l) : l.Nodup := h.imp fun {a b} (hab : a < b) q => by omega
theorem ids_nodup (n : Nat) : (ids n).Nodup := ris_nodup (ids_ris n)
theorem perm_mem {n : Nat} {A : List Int} (hp : A.Perm (ids n)) {x : Int} : x ∈ A ↔ 0 ≤ x ∧ x < n := hp.mem_iff.trans mem_ids
theorem perm_nodup {n : Nat} {A : List Int} (hp : A.Perm (ids n)) : A.Nodup := hp.nodup_iff.mpr (ids_nodup n)
theorem map_nodup {A : List Int} {f : Int → Nat} (hf : ∀ x ∈ A, ∀ y ∈ A, f x = f y → x = y) (h : A.Nodup) : (A.map f).Nodup := by
  induction A with
  | nil => exact List.nodup_nil
  | cons x A ih =>
    obtain ⟨h1, h2⟩ := List.nodup_cons.mp h
    rw [List.map_cons]
    refine List.nodup_cons.mpr ⟨fun q => ?_, ih (fun a ha b hb => hf a (.tail _ ha) b (.tail _ hb)) h2⟩
    obtain ⟨y, hy, e⟩ := List.mem_map.mp q
    have := hf y (.tail _ hy) x (.head _) e
    exact h1 (this ▸ hy)
theorem word_nodup {n : Nat} {A : List Int} (hp : A.Perm (ids n)) : (word A).cps.toList.Nodup := by
  rw [word_list]
  exact map_nodup (fun x hx y hy h => letter_inj ((perm_mem hp).mp hx).1 ((perm_mem hp).mp hy).1 h) (perm_nodup hp)

/-- a longest common row of two rows of numbers -/
def LcsI (a b t : List Int) : Prop := t.Sublist a ∧ t.Sublist b ∧ ∀ c : List Int, c.Sublist a → c.Sublist b → c.length ≤ t.length
theorem lcsI_unique {a b r r' : List Int} (h : LcsI a b r) (h' : LcsI a b r') : r.length = r'.length := Nat.le_antisymm (h'.2.2 r h.1 h.2.1) (h.2.2 r' h'.1 h'.2.1)
theorem lcsI_symm {a b r : List Int} (h : LcsI a b r) : LcsI b a r := ⟨h.2.1, h.1, fun c h1 h2 => h.2.2 c h2 h1⟩
theorem lcsI_rev {a b r : List Int} (h : LcsI a b r) : LcsI a.reverse b.reverse r.reverse := by
  refine ⟨h.1.reverse, h.2.1.reverse, fun c h1 h2 => ?_⟩
  have h3 := h1.reverse
  have h4 := h2.reverse
  rw [List.reverse_reverse] at h3 h4
  have := h.2.2 _ h3 h4
  rw [List.length_reverse] at this ⊢
  exact this
theorem map_inj_on {α β : Type} {f : α → β} : ∀ {l l' : List α}, (∀ x ∈ l, ∀ y ∈ l', f x = f y → x = y) → l.map f = l'.map f → l = l'
  | [], [], _, _ => rfl
  | [], _ :: _, _, h => by cases h
  | _ :: _, [], _, h => by cases h
  | x :: l, y :: l', hf, h => by
    rw [List.map_cons, List.map_cons] at h
    obtain ⟨h1, h2⟩ := List.cons.inj h
    rw [hf x (.head _) y (.head _) h1, map_inj_on (fun a ha b hb => hf a (.tail _ ha) b (.tail _ hb)) h2]
/-- longest common rows of two rows told by other names -/
theorem lcs_back {β : Type} {f : Int → β} {a b : List Int} (hf : ∀ x ∈ a, ∀ y ∈ b, f x = f y → x = y) {r : List β} (h1 : r.Sublist (a.map f)) (h2 : r.Sublist (b.map f)) : ∃ t : List Int, r = t.map f ∧ t.Sublist a ∧ t.Sublist b := by
  obtain ⟨t, ht, rfl⟩ := List.sublist_map_iff.mp h1
  obtain ⟨t', ht', e⟩ := List.sublist_map_iff.mp h2
  have : t = t' := map_inj_on (fun x hx y hy => hf x (ht.subset hx) y (ht'.subset hy)) e
  exact ⟨t, rfl, ht, this ▸ ht'⟩
theorem lcs_int {a b : List Int} (ha : ∀ x ∈ a, 0 ≤ x) (hb : ∀ x ∈ b, 0 ≤ x) {r : List Nat} (h : IsLcs (a.map letterOf) (b.map letterOf) r) : ∃ t : List Int, r = t.map letterOf ∧ LcsI a b t := by
  obtain ⟨t, rfl, h1, h2⟩ := lcs_back (fun x hx y hy => letter_inj (ha x hx) (hb y hy)) h.1 h.2.1
  refine ⟨t, rfl, h1, h2, fun c c1 c2 => ?_⟩
  have := h.2.2 _ (c1.map letterOf) (c2.map letterOf)
  rw [List.length_map, List.length_map] at this
  exact this
theorem lcs_relabel {a b t : List Int} {f : Int → Int} (hf : ∀ x ∈ a, ∀ y ∈ b, f x = f y → x = y) (h : LcsI a b t) : LcsI (a.map f) (b.map f) (t.map f) := by
  refine ⟨h.1.map f, h.2.1.map f, fun c c1 c2 => ?_⟩
  obtain ⟨s, rfl, s1, s2⟩ := lcs_back hf c1 c2
  rw [List.length_map, List.length_map]
  exact h.2.2 s s1 s2
theorem ris_sub : ∀ {b t : List Int}, Ris t → Ris b → (∀ x ∈ t, x ∈ b) → t.Sublist b
  | _, [], _, _, _ => List.nil_sublist _
  | [], x :: t, _, _, h => by cases h x (.head _)
  | y :: b, x :: t, ht, hb, h => by
    have ht' := List.pairwise_cons.mp ht
    have hb' := List.pairwise_cons.mp hb
    by_cases hxy : x = y
    · subst hxy
      refine (ris_sub ht'.2 hb'.2 fun z hz => ?_).cons_cons _
      have h1 := ht'.1 z hz
      rcases List.mem_cons.mp (h z (.tail _ hz)) with rfl | h2
      · omega
      · exact h2
    · refine (ris_sub ht hb'.2 fun z hz => ?_).cons _
      have hx : y < x := by
        rcases List.mem_cons.mp (h x (.head _)) with h2 | h2
        · exact absurd h2 hxy
        · exact hb'.1 x h2
      rcases List.mem_cons.mp (h z hz) with rfl | h2
      · rcases List.mem_cons.mp hz with rfl | hz
        · exact absurd rfl hxy
        · have := ht'.1 z hz; omega
      · exact h2
/-- common rows with a rising row that holds all: rising rows -/
theorem lcs_piles {a b t : List Int} (hb : Ris b) (hab : ∀ x ∈ a, x ∈ b) (h : LcsI a b t) : t.length = (piles a).length := by
  obtain ⟨c, c1, c2, c3⟩ := piles_some a
  refine Nat.le_antisymm (piles_max h.1 (hb.sublist h.2.1)) ?_
  rw [← c3]
  exact h.2.2 c c1 (ris_sub c2 hb fun x hx => hab x (c1.subset hx))
theorem lcs_table {a b t : List Int} (hb : Ris b) (ha : a.Nodup) (hab : ∀ x ∈ a, x ∈ b) (h : LcsI a b.reverse t) : t.length = (tableOf a).length := by
  obtain ⟨⟨c, c1, c2, c3⟩, hmax⟩ := table_dec a.length a (Nat.le_refl _) ha
  refine Nat.le_antisymm (hmax t h.1 ?_) ?_
  · have := hb.sublist (by simpa using h.2.1.reverse : t.reverse.Sublist b)
    exact List.pairwise_reverse.mp this
  · rw [← c3]
    refine h.2.2 c c1 ?_
    have h1 : Ris c.reverse := List.pairwise_reverse.mpr c2
    have := (ris_sub h1 hb fun x hx => hab x (c1.subset (List.mem_reverse.mp hx))).reverse
    rwa [List.reverse_reverse] at this

theorem lcs_unique {a b r r' : List Nat} (h : IsLcs a b r) (h' : IsLcs a b r') : r.length = r'.length := Nat.le_antisymm (h'.2.2 r h.1 h.2.1) (h.2.2 r' h'.1 h'.2.1)
theorem lcs_symm {a b r : List Nat} (h : IsLcs a b r) : IsLcs b a r := ⟨h.2.1, h.1, fun c h1 h2 => h.2.2 c h2 h1⟩

section
variable {n : Nat} {A : List Int} (hp : A.Perm (ids n))
include hp
theorem law_up_at {r : List Nat} (h : IsLcs (word A).cps.toList (word (ids n)).cps.toList r) : r.length = (piles A).length := by
  rw [word_list, word_list] at h
  obtain ⟨t, rfl, ht⟩ := lcs_int (fun x hx => ((perm_mem hp).mp hx).1) (fun x hx => (mem_ids.mp hx).1) h
  rw [List.length_map]
  exact lcs_piles (ids_ris n) (fun x hx => hp.mem_iff.mp hx) ht
theorem law_down_at {r : List Nat} (h : IsLcs (word A).cps.toList (word (ids n)).cps.toList.reverse r) : r.length = (tableOf A).length := by
  rw [word_list, word_list, ← List.map_reverse] at h
  obtain ⟨t, rfl, ht⟩ := lcs_int (fun x hx => ((perm_mem hp).mp hx).1) (fun x hx => (mem_ids.mp (List.mem_reverse.mp hx)).1) h
  rw [List.length_map]
  exact lcs_table (ids_ris n) (perm_nodup hp) (fun x hx => hp.mem_iff.mp hx) ht
end
theorem law_up {n : Nat} {A : List Int} (hp : A.Perm (ids n)) (_ : n ≤ 7) {r : List Nat} (h : IsLcs (word A).cps.toList (word (ids n)).cps.toList r) : r.length = (piles A).length := law_up_at hp h
theorem law_down {n : Nat} {A : List Int} (hp : A.Perm (ids n)) (_ : n ≤ 7) {r : List Nat} (h : IsLcs (word A).cps.toList (word (ids n)).cps.toList.reverse r) : r.length = (tableOf A).length := law_down_at hp h

/-- a number dealt upon whole piles, each with its newest number first -/
def stackPut : List (List Int) → Int → List (List Int)
  | [], x => [[x]]
  | c :: S, x => if c.headD 0 < x then c :: stackPut S x else (x :: c) :: S
theorem stack_mem {x : Int} {c : List Int} : ∀ {S : List (List Int)}, c ∈ stackPut S x → c ∈ S ∨ c = [x] ∨ ∃ d ∈ S, x ≤ d.headD 0 ∧ c = x :: d
  | [], h => by
    rw [List.mem_singleton.mp h]; exact .inr (.inl rfl)
  | d :: S, h => by
    unfold stackPut at h
    split at h
    · rcases List.mem_cons.mp h with rfl | h
      · exact .inl (.head _)
      · rcases stack_mem h with h | h | ⟨e, h1, h2⟩
        · exact .inl (.tail _ h)
        · exact .inr (.inl h)
        · exact .inr (.inr ⟨e, .tail _ h1, h2⟩)
    · rcases List.mem_cons.mp h with rfl | h
      · exact .inr (.inr ⟨d, .head _, by omega, rfl⟩)
      · exact .inl (.tail _ h)
theorem stack_tops (x : Int) : ∀ S : List (List Int), (stackPut S x).map (·.headD 0) = rowPut (S.map (·.headD 0)) x
  | [] => rfl
  | c :: S => by
    unfold stackPut
    rw [List.map_cons]
    unfold rowPut
    split
    · rw [List.map_cons, stack_tops x S]
    · rfl
theorem stack_sum (x : Int) : ∀ S : List (List Int), ((stackPut S x).map (·.length)).sum = (S.map (·.length)).sum + 1
  | [] => rfl
  | c :: S => by
    unfold stackPut
    split
    · rw [List.map_cons, List.sum_cons, stack_sum x S, List.map_cons, List.sum_cons]; omega
    · rw [List.map_cons, List.sum_cons, List.map_cons, List.sum_cons, List.length_cons]; omega
/-- the piles after a row was dealt -/
structure Dealt (S : List (List Int)) (p : List Int) : Prop where
  row : ∀ c ∈ S, Ris c ∧ c.reverse.Sublist p
  tops : S.map (·.headD 0) = rowRun [] p
  sum : (S.map (·.length)).sum = p.length
theorem dealt_step {S : List (List Int)} {p : List Int} {x : Int} (h : Dealt S p) (hx : x ∉ p) : Dealt (stackPut S x) (p ++ [x]) := by
  refine ⟨fun c hc => ?_, ?_, ?_⟩
  · rcases stack_mem hc with hc | rfl | ⟨d, hd, hdx, rfl⟩
    · exact ⟨(h.row c hc).1, (h.row c hc).2.trans (List.sublist_append_left _ _)⟩
    · exact ⟨List.pairwise_singleton .., List.sublist_append_right _ _⟩
    · obtain ⟨h1, h2⟩ := h.row d hd
      refine ⟨List.pairwise_cons.mpr ⟨fun z hz => ?_, h1⟩, ?_⟩
      · have hne : x ≠ z := fun q => hx (q ▸ h2.subset (List.mem_reverse.mpr hz))
        have : d.headD 0 ≤ z := by
          cases d with
          | nil => cases hz
          | cons y d =>
            rcases List.mem_cons.mp hz with rfl | hz
            · exact Int.le_refl _
            · exact Int.le_of_lt ((List.pairwise_cons.mp h1).1 z hz)
        omega
      · rw [List.reverse_cons]
        exact h2.append (.refl _)
  · rw [stack_tops, h.tops]
    unfold rowRun
    rw [List.foldl_append]; rfl
  · rw [stack_sum, h.sum, List.length_append]; rfl
theorem dealt_all (w : List Int) : ∀ (p : List Int) (S : List (List Int)), Dealt S p → (p ++ w).Nodup → ∃ S', Dealt S' (p ++ w) := by
  induction w with
  | nil => intro p S h _; exact ⟨S, by rw [List.append_nil]; exact h⟩
  | cons x w ih =>
    intro p S h hn
    have e : p ++ x :: w = (p ++ [x]) ++ w := by simp
    have hx : x ∉ p := fun q => (List.nodup_append.mp hn).2.2 x q x (.head _) rfl
    rw [e] at hn ⊢
    exact ih _ _ (dealt_step h hx) hn
theorem sum_le {k : Nat} : ∀ S : List (List Int), (∀ c ∈ S, c.length ≤ k) → (S.map (·.length)).sum ≤ S.length * k
  | [], _ => by simp
  | c :: S, h => by
    have h1 := h c (.head _)
    have h2 := sum_le S fun c hc => h c (.tail _ hc)
    rw [List.map_cons, List.sum_cons, List.length_cons, Nat.add_mul, Nat.one_mul]
    omega
theorem law_es {n : Nat} {A : List Int} (hp : A.Perm (ids n)) (_ : n ≤ 7) : n ≤ (piles A).length * (tableOf A).length := by
  obtain ⟨S, hS⟩ := dealt_all A [] [] ⟨fun _ h => (nomatch h), rfl, rfl⟩ (by rw [List.nil_append]; exact perm_nodup hp)
  rw [List.nil_append] at hS
  have h1 : S.length = (piles A).length := by rw [piles_run, ← hS.tops, List.length_map]
  have h2 := sum_le (k := (tableOf A).length) S fun c hc => by
    have h3 := (table_dec A.length A (Nat.le_refl _) (perm_nodup hp)).2 c.reverse (hS.row c hc).2 (List.pairwise_reverse.mpr (hS.row c hc).1)
    rwa [List.length_reverse] at h3
  rw [hS.sum, hp.length_eq, ids_length, h1] at h2
  exact h2
theorem letters_rise {n : Nat} : (word (ids n)).cps.toList.Pairwise (· < ·) := by
  rw [word_list, List.pairwise_map]
  refine (List.pairwise_iff_forall_sublist.mpr fun {a b} hs => ?_)
  have h1 : Ris [a, b] := (ids_ris n).sublist hs
  have h2 := (List.pairwise_cons.mp h1).1 b (.head _)
  have ha := (mem_ids.mp (hs.subset (.head _))).1
  unfold letterOf
  omega
theorem nat_same {a b : List Nat} (hp : a.Perm b) (ha : a.Pairwise (· ≤ ·)) (hb : b.Pairwise (· ≤ ·)) : a = b := hp.eq_of_pairwise (fun _ _ _ _ h1 h2 => Nat.le_antisymm h1 h2) ha hb
theorem str_eq {r : Str} {cs : List Nat} (h : r.cps.toList = cs) : r = ⟨cs.toArray⟩ := by
  obtain ⟨c⟩ := r
  obtain ⟨l⟩ := c
  show (⟨⟨l⟩⟩ : Str) = ⟨⟨cs⟩⟩
  have : l = cs := h
  rw [this]
theorem law_sorted_up {n : Nat} {A : List Int} {r : Str} (h : IsLcs (word A).cps.toList (word (ids n)).cps.toList r.cps.toList) {cs : List Nat} (hp : cs.Perm r.cps.toList) (hs : cs.Pairwise (· ≤ ·)) : r = ⟨cs.toArray⟩ :=
  str_eq (nat_same hp.symm ((letters_rise.sublist h.2.1).imp fun h => Nat.le_of_lt h) hs)
theorem law_sorted_down {n : Nat} {A : List Int} {r : Str} (h : IsLcs (word A).cps.toList (word (ids n)).cps.toList.reverse r.cps.toList) {cs : List Nat} (hp : cs.Perm r.cps.toList) (hs : cs.Pairwise (· ≤ ·)) {r' : Str} (hr : r'.cps.toList = cs.reverse) : r = r' := by
  have h1 : r.cps.toList.reverse.Sublist (word (ids n)).cps.toList := by simpa using h.2.1.reverse
  have h2 : cs = r.cps.toList.reverse := nat_same (hp.trans (List.reverse_perm _).symm) hs ((letters_rise.sublist h1).imp fun h => Nat.le_of_lt h)
  have h3 : r'.cps.toList = r.cps.toList := by rw [hr, h2, List.reverse_reverse]
  rw [str_eq h3.symm, ← str_eq (rfl : r'.cps.toList = r'.cps.toList)]
theorem ids_last {n : Nat} (h1 : 1 ≤ n) : (ids n).dropLast = ids (n - 1) := by
  obtain ⟨k, rfl⟩ : ∃ k, n = k + 1 := ⟨n - 1, by omega⟩
  unfold ids
  rw [List.range_succ, List.map_append, List.map_singleton, List.dropLast_concat]
  rfl
theorem law_fewer {n : Nat} {A : List Int} (hp : A.Perm (ids n)) (h1 : 1 ≤ n) {r : List Nat} (h : IsLcs (word A).cps.toList (word (ids n)).cps.toList.dropLast r) : r.length = (piles (A.filter fun a => decide (a < (n : Int) - 1))).length := by
  rw [word_list, word_list, ← List.map_dropLast, ids_last h1] at h
  obtain ⟨t, rfl, ht⟩ := lcs_int (fun x hx => ((perm_mem hp).mp hx).1) (fun x hx => (mem_ids.mp hx).1) h
  rw [List.length_map]
  refine lcs_piles (ids_ris (n - 1)) (fun x hx => ?_) (t := t) ⟨?_, ht.2.1, fun c c1 c2 => ht.2.2 c (c1.trans List.filter_sublist) c2⟩
  · obtain ⟨hx1, hx2⟩ := List.mem_filter.mp hx
    have := (perm_mem hp).mp hx1
    exact mem_ids.mpr (by simp at hx2; omega)
  · have h2 := ht.1.filter fun a => decide (a < (n : Int) - 1)
    rwa [List.filter_eq_self.mpr fun x hx => by have := mem_ids.mp (ht.2.1.subset hx); simp; omega] at h2

/-- the place of a number in a row -/
def placeIn (B : List Int) (x : Int) : Int := Int.ofNat (B.idxOf x)
theorem placeIn_inj {B : List Int} {x y : Int} (hx : x ∈ B) (hy : y ∈ B) (h : placeIn B x = placeIn B y) : x = y := by
  have h1 : B.idxOf x = B.idxOf y := Int.ofNat.inj h
  have h2 : B[B.idxOf x]'(List.idxOf_lt_length_of_mem hx) = x := List.getElem_idxOf ..
  have h3 : B[B.idxOf y]'(List.idxOf_lt_length_of_mem hy) = y := List.getElem_idxOf ..
  rw [← h2, ← h3]
  simp only [h1]
theorem placeIn_self {B : List Int} (h : B.Nodup) : B.map (placeIn B) = ids B.length := by
  refine List.ext_getElem (by simp [ids]) fun i h1 h2 => ?_
  rw [List.getElem_map]
  unfold placeIn
  rw [h.idxOf_getElem i (by simpa using h1)]
  simp [ids]
theorem placeIn_mem {n : Nat} {B : List Int} (hp : B.Perm (ids n)) {x : Int} (hx : x ∈ ids n) : placeIn B x ∈ ids n := by
  have h1 := List.idxOf_lt_length_of_mem (hp.mem_iff.mpr hx)
  rw [hp.length_eq, ids_length] at h1
  refine mem_ids.mpr ?_
  show (0 : Int) ≤ (B.idxOf x : Int) ∧ (B.idxOf x : Int) < n
  omega
section
variable {n : Nat} {A : List Int} (hp : A.Perm (ids n))
include hp
theorem law_inv_up {r r' : List Nat} (h : IsLcs (word A).cps.toList (word (ids n)).cps.toList r) (h' : IsLcs (word ((ids n).map (placeIn A))).cps.toList (word (ids n)).cps.toList r') : r'.length = r.length := by
  rw [word_list, word_list] at h h'
  obtain ⟨t, rfl, ht⟩ := lcs_int (fun x hx => ((perm_mem hp).mp hx).1) (fun x hx => (mem_ids.mp hx).1) h
  obtain ⟨t', rfl, ht'⟩ := lcs_int (fun x hx => by obtain ⟨y, _, rfl⟩ := List.mem_map.mp hx; exact Int.natCast_nonneg _) (fun x hx => (mem_ids.mp hx).1) h'
  have h1 := lcs_relabel (f := placeIn A) (fun x hx y hy => placeIn_inj hx (hp.mem_iff.mpr hy)) ht
  rw [placeIn_self (perm_nodup hp), hp.length_eq, ids_length] at h1
  have := lcsI_unique ht' (lcsI_symm h1)
  simpa using this
theorem law_inv_down {r r' : List Nat} (h : IsLcs (word A).cps.toList (word (ids n)).cps.toList.reverse r) (h' : IsLcs (word ((ids n).map (placeIn A))).cps.toList (word (ids n)).cps.toList.reverse r') : r'.length = r.length := by
  rw [word_list, word_list, ← List.map_reverse] at h h'
  obtain ⟨t, rfl, ht⟩ := lcs_int (fun x hx => ((perm_mem hp).mp hx).1) (fun x hx => (mem_ids.mp (List.mem_reverse.mp hx)).1) h
  obtain ⟨t', rfl, ht'⟩ := lcs_int (fun x hx => by obtain ⟨y, _, rfl⟩ := List.mem_map.mp hx; exact Int.natCast_nonneg _) (fun x hx => (mem_ids.mp (List.mem_reverse.mp hx)).1) h'
  have h1 := lcs_relabel (f := placeIn A) (fun x hx y hy => placeIn_inj hx (hp.mem_iff.mpr (List.mem_reverse.mp hy))) ht
  rw [placeIn_self (perm_nodup hp), hp.length_eq, ids_length, List.map_reverse] at h1
  have h2 := lcsI_rev h1
  rw [List.reverse_reverse] at h2
  have := lcsI_unique ht' (lcsI_symm h2)
  simpa using this
theorem law_two {B : List Int} (hq : B.Perm (ids n)) {r : List Nat} (h : IsLcs (word A).cps.toList (word B).cps.toList r) : r.length = (piles (A.map (placeIn B))).length := by
  rw [word_list, word_list] at h
  obtain ⟨t, rfl, ht⟩ := lcs_int (fun x hx => ((perm_mem hp).mp hx).1) (fun x hx => ((perm_mem hq).mp hx).1) h
  have h1 := lcs_relabel (f := placeIn B) (fun x hx y hy => placeIn_inj (hq.mem_iff.mpr (hp.mem_iff.mp hx)) hy) ht
  rw [placeIn_self (perm_nodup hq), hq.length_eq, ids_length] at h1
  have := lcs_piles (ids_ris n) (fun x hx => by obtain ⟨y, hy, rfl⟩ := List.mem_map.mp hx; exact placeIn_mem hq (hp.mem_iff.mp hy)) h1
  simpa using this
end
end Mine
end

section -- Us2
set_option Elab.async false
set_option maxRecDepth 100000
set_option maxHeartbeats 1000000
namespace Mine
open PySem PySem.W PySem.Spec PySem.Calls PyProof.Rows
theorem ids_bound {n : Nat} (h : n ≤ 7) : ∀ x ∈ ids n, 0 ≤ x ∧ x ≤ 20 := by
  intro x hx
  obtain ⟨i, hi, rfl⟩ := List.mem_map.mp hx
  have := List.mem_range.mp hi
  show (0 : Int) ≤ (i : Int) ∧ (i : Int) ≤ 20
  omega
theorem len_led {prog : Program} {w : World} {A : Around} {E : Value → Shared → Prop} {s : Shared} {h₀ : Heap} {L l : Addr} {news : List (Addr × Obj)} {vs : List Value} {n : Nat} {Q : Value → Shared → Prop} (N : News h₀ L s.heap news) (hm : (l, W.listOf vs.toArray n) ∈ news)
    (hfit : vs.length ≤ 1000) (h : Q (.int vs.length (s.toks + 1)) { s with toks := s.toks + 1 + 1 }) : wpAny (model prog w) A (call (.builtin "len") [.ref l]) Q E s := by
  have e : vs.toArray.size = vs.length := List.size_toArray ..
  refine len_list (News.isList N hm) (by rw [e]; omega) ?_
  rw [e]
  exact h
/-- a cut of the walk: the text went on, and J stands -/
structure Nx (J : Shared → Prop) (fl : Flow) (s : Shared) : Prop where
  fl : fl = .next
  st : J s
theorem cut_at_ {M : Model} {A : Around} {E : Value → Shared → Prop} {Q : Flow → Shared → Prop} {env : Env} {s : Shared} (a : List Stmt) {r : List Stmt} (J : Shared → Prop)
    (h1 : wpAny M A (execs a env) (Nx J) E s) (h2 : ∀ s', J s' → wpAny M A (execs r env) Q E s') : wpAny M A (execs (a ++ r) env) Q E s := by
  rw [execs_app]
  refine wpAny_bind (wpAny_mono h1 (fun fl s' h => ?_) fun _ _ h => h)
  obtain ⟨rfl, h⟩ := h
  exact h2 s' h
section
variable {M : Model} {A : Around} {E : Value → Shared → Prop} {Q : Flow → Shared → Prop} {env : Env} {s : Shared} {s1 s2 s3 : Stmt} {r : List Stmt}
theorem cut1 (J : Shared → Prop) (h2 : ∀ s', J s' → wpAny M A (execs r env) Q E s') (h1 : wpAny M A (execs [s1] env) (Nx J) E s) : wpAny M A (execs (s1 :: r) env) Q E s := cut_at_ [s1] J h1 h2
theorem cut2 (J : Shared → Prop) (h2 : ∀ s', J s' → wpAny M A (execs r env) Q E s') (h1 : wpAny M A (execs [s1, s2] env) (Nx J) E s) : wpAny M A (execs (s1 :: s2 :: r) env) Q E s := cut_at_ [s1, s2] J h1 h2
theorem cut3 (J : Shared → Prop) (h2 : ∀ s', J s' → wpAny M A (execs r env) Q E s') (h1 : wpAny M A (execs [s1, s2, s3] env) (Nx J) E s) : wpAny M A (execs (s1 :: s2 :: s3 :: r) env) Q E s := cut_at_ [s1, s2, s3] J h1 h2
end
/-- what stands when up and down are found -/
def Lined (w : World) (h₀ : Heap) (L : Addr) (s s' : Shared) : Prop :=
  ∃ (size : Nat) (m : Str → Option Value) (h : Heap) (tk : Nat) (o1 o2 o3 o4 : Obj) (r1 r2 x dx : Addr) (rv1 rv2 : List Value) (rs1 rs2 : List Int) (n1 n2 : Nat) (t tr tw t1 t2 t3 t4 tu td : Tok) (r : Addr) (b : Bool) (up dn : Str),
    s' = { s with heap := h, toks := tk } ∧ Fr h₀ L h m ∧ News h₀ L h [(x, instObj 225 dx), (dx, dict3 w t1 t2 t3 t4 r b), (r2, listOf rv2.toArray n2), (r1, listOf rv1.toArray n1), (L + 1 + 1 + 1 + 1, o4), (L + 1 + 1 + 1, o3), (L + 1 + 1, o2), (L + 1, o1)] ∧
    m (Str.ofString "common") = some (.ref x) ∧ m (Str.ofString "rising") = some (.str (word (ids size)) tr) ∧ m (Str.ofString "up") = some (.str up tu) ∧ m (Str.ofString "down") = some (.str dn td) ∧
    o4.data = Data.cell (some (.str (word rs1) tw)) ∧ o3.data = Data.cell (some (.ref r2)) ∧ o2.data = Data.cell (some (.ref r1)) ∧ o1.data = Data.cell (some (.int size t)) ∧ 1 ≤ size ∧ size ≤ 7 ∧
    IntsAre rv1 rs1 ∧ IntsAre rv2 rs2 ∧ rs1.Perm (ids size) ∧ rs2.Perm (ids size) ∧ @Ne Nat r2 r1 ∧ ltn (L + 1 + 1 + 1 + 1) r1 ∧ ltn (L + 1 + 1 + 1 + 1) r2 ∧ ltn dx x ∧ ltn r1 dx ∧ ltn r2 dx ∧
    IsLcs (word rs1).cps.toList (word (ids size)).cps.toList up.cps.toList ∧ IsLcs (word rs1).cps.toList (word (ids size)).cps.toList.reverse dn.cps.toList
end Mine
end

section -- St
set_option Elab.async false
set_option maxRecDepth 100000
set_option maxHeartbeats 1000000
namespace Mine
open PySem PySem.W PySem.Spec PySem.Calls PyProof.Rows
/-- the signs of a text, each as a text -/
def chs (x : PySem.Str) : List PySem.Str := x.cps.toList.map fun c => ⟨#[c]⟩
theorem chs_of {x : PySem.Str} {acc : Array Value} (h : ItemsOf (SignAt x) acc x.cps.size) : StrsAre acc.toList (chs x) := by
  obtain ⟨hl, hv⟩ := h
  have key : ∀ (l : List Value) (cs : List Nat), l.length = cs.length → (∀ (j : Nat) (v : Value), l[j]? = some v → ∃ (c : Nat) (t : Tok), cs[j]? = some c ∧ v = Value.str ⟨#[c]⟩ t) → StrsAre l (cs.map fun c => ⟨#[c]⟩) := by
    intro l
    induction l with
    | nil => intro cs h _; cases cs with | nil => exact .nil | cons _ _ => cases h
    | cons v l ih =>
      intro cs h hv
      cases cs with
      | nil => cases h
      | cons c cs =>
        obtain ⟨c', t, hc, rfl⟩ := hv 0 v rfl
        cases hc
        exact .cons _ _ (ih cs (Nat.succ.inj h) fun j u hj => hv (j + 1) u hj)
  refine key _ _ (by rw [Array.length_toList, hl, Array.length_toList]) fun j v hj => ?_
  obtain ⟨c, u, hc, e⟩ := hv j v (by simpa using hj)
  exact ⟨c, u, by simpa using hc, e⟩
section
variable {prog : Program} {w : World} {A : Around} {E : Value → Shared → Prop} {s : Shared} {h₀ : Heap} {L : Addr} {m : PySem.Str → Option Value} {news : List (Addr × Obj)} {x : PySem.Str} {t : Tok} {Q : Value → Shared → Prop}
theorem sorted_text (hh : A.handled = none) (F : Fr h₀ L s.heap m) (N : News h₀ L s.heap news) (hx : x.length ≤ 20)
    (h : ∀ (B : Addr) (h' : Heap) (tk : Nat) (vs' : List Value) (ss' : List PySem.Str) (e : Nat), Fr h₀ L h' m → News h₀ L h' ((B, W.listOf vs'.toArray e) :: news) → (∀ p ∈ news, p.1 < B) →
      StrsAre vs' ss' → ss'.Perm (chs x) → sortedS ss' = true → Q (.ref B) { s with heap := h', toks := tk }) :
    wpAny (model prog w) A (call (.builtin "sorted") [.str x t]) Q E s := by
  have hx' : x.cps.size ≤ 20 := hx
  refine Calls.call_function_entry kind_sorted plain_sorted entry_sorted (args_sorted1 _) ?_
  unfold Builtin.«sorted»
  refine wpAny_bind (m := checkCount "sorted" 1 1 _) (wpAny_pure ?_)
  refine wpAny_bind (wpAny_collect_str (A := A.in1) hh x t (fun s' acc hk hg hdr hos hacc => ?_) (by rw [sizeLine_eq]; omega))
  have hS := chs_of hacc
  have hl : acc.toList.length ≤ 20 := by rw [Array.length_toList, hacc.1]; exact hx'
  obtain ⟨hp', g', d', tk', os'⟩ := s'
  obtain ⟨hp, g, d, tk, os⟩ := s
  dsimp only at hk hg hdr hos
  subst hg hdr hos
  refine wpAny_bind (wpAny_newList ?_ (by rw [sizeLine_eq]; omega))
  have F1 : Fr h₀ L (hp'.push (seqObj "list" acc.toList.toArray 0)) m := (F.keeps hk).push _
  have N0 : News h₀ L hp' news := fun p hp => ⟨hk _ _ (N p hp).1, (N p hp).2⟩
  have hB : (hp'.push (seqObj "list" acc.toList.toArray 0)).get? hp'.objs.size = some (seqObj "list" acc.toList.toArray 0) := Heap.get?_push_size _ rfl
  refine wpAny_bind (wpAny_holding (wpAny_call_entry slot_list_sort ⟨_, hB, rfl⟩ entry_list_sort (list_sort_treeK (κ := PyProof.Rows.strKind) strKind_oneLt hB hS.keysOf (fun v₁ v₂ rest e => keyKind_strs (by rw [← e]; exact hS)) (by omega) fun st' a1 a2 => ⟨_, rfl, ?_⟩) (args_list_sort _)))
  refine wpAny_pure ⟨_, rfl, ?_⟩
  obtain ⟨ss', b1, b2, b3⟩ := sorted_out_str hS a1 a2
  obtain ⟨e, he⟩ := sortedHeap_at (out := (arrOf st').map (·.2)) hB
  have hlt : hp'.objs.size < (hp'.push (seqObj "list" acc.toList.toArray 0)).objs.size := by rw [size_push']; exact Nat.lt_succ_self _
  have old : ∀ b o, hp'.get? b = some o → (sortedHeap (hp'.push (seqObj "list" acc.toList.toArray 0)) hp'.objs.size acc.toList ((arrOf st').map (·.2))).get? b = some o := fun b o hb => by
    rw [sortedHeap_old (Nat.ne_of_lt (Heap.lt_size hb)) (by rw [size_push']; exact Nat.lt_succ_of_lt (Heap.lt_size hb))]
    exact Heap.get?_push_of_some _ hb
  have hL : L < hp'.objs.size := (F.keeps hk).ns.lt
  refine h hp'.objs.size _ tk' ((arrOf st').map (·.2)).toList ss' e ((F.keeps hk).keeps old) (fun p hp => ?_) (fun p hp => Heap.lt_size (N0 p hp).1) b1 b2 b3
  rcases List.mem_cons.mp hp with rfl | hp
  · refine ⟨he, Nat.ne_of_gt hL, Heap.get?_none_of_le (Nat.le_trans (F.keeps hk).above (Nat.le_of_lt hL))⟩
  · exact ⟨old _ _ (N0 p hp).1, (N0 p hp).2⟩
end
abbrev one1 (c : Nat) : PySem.Str := ⟨#[c]⟩
theorem rising_pw : ∀ (l : List Nat) (p : Nat), risingS (one1 p) (l.map one1) = true → (p :: l).Pairwise (· ≤ ·)
  | [], p, _ => by simp
  | x :: l, p, h => by
    have h1 : (!ltCps (one1 x).cps.toList (one1 p).cps.toList && risingS (one1 x) (l.map one1)) = true := h
    rw [Bool.and_eq_true] at h1
    have hx : p ≤ x := by
      have h2 := h1.1
      have h3 : ltCps [x] [p] = false := by simpa using h2
      rw [ltCps_eq] at h3
      have h4 : ¬ ([x] < [p]) := of_decide_eq_false h3
      by_cases hlt : x < p
      · exact absurd (List.cons_lt_cons_iff.mpr (.inl hlt)) h4
      · omega
    have ih := rising_pw l x h1.2
    refine List.pairwise_cons.mpr ⟨fun y hy => ?_, ih⟩
    rcases List.mem_cons.mp hy with rfl | hy
    · exact hx
    · exact Nat.le_trans hx ((List.pairwise_cons.mp ih).1 y hy)
theorem sorted_pw : ∀ (l : List Nat), sortedS (l.map one1) = true → l.Pairwise (· ≤ ·)
  | [], _ => .nil
  | x :: l, h => rising_pw l x h
theorem ones_of {ss : List PySem.Str} {l : List Nat} (h : ss.Perm (l.map one1)) : ∃ cs : List Nat, ss = cs.map one1 ∧ cs.Perm l := by
  refine ⟨ss.map fun s => s.cps.getD 0 0, ?_, ?_⟩
  · rw [List.map_map]
    conv => lhs; rw [← List.map_id ss]
    refine List.map_congr_left fun s hs => ?_
    obtain ⟨c, _, rfl⟩ := List.mem_map.mp (h.mem_iff.mp hs)
    rfl
  · have := h.map fun s : PySem.Str => s.cps.getD 0 0
    rw [List.map_map] at this
    have e : l.map ((fun s : PySem.Str => s.cps.getD 0 0) ∘ one1) = l := by
      conv => rhs; rw [← List.map_id l]
      exact List.map_congr_left fun c _ => rfl
    rwa [e] at this
theorem join_ones (cs : List Nat) : Txt.join (PySem.Str.ofString "") (cs.map one1) = ⟨cs.toArray⟩ := by
  unfold Txt.join
  rw [StrLaws.glued_eq_join, show PySem.Str.ofString "" = (⟨#[]⟩ : PySem.Str) from by decide +kernel]
  induction cs with
  | nil => rfl
  | cons c r ih =>
    cases r with
    | nil => rfl
    | cons k r =>
      show (⟨#[c]⟩ : PySem.Str) ++ ⟨#[]⟩ ++ PySem.Str.join ⟨#[]⟩ ((k :: r).map one1) = _
      rw [ih]
      show (⟨(#[c] ++ #[]) ++ (k :: r).toArray⟩ : PySem.Str) = ⟨(c :: (k :: r)).toArray⟩
      simp
theorem slice_rev_mk (cs : List Nat) (t : Tok) : (Txt.sliceBy ⟨cs.toArray⟩ none none (-1, t)).cps.toList = cs.reverse := slice_rev ⟨cs.toArray⟩ t
theorem ones_sum (cs : List Nat) : ((cs.map one1).map (·.length)).sum = cs.length := by
  induction cs with
  | nil => rfl
  | cons c cs ih => rw [List.map_cons, List.map_cons, List.sum_cons, ih, List.length_cons]; show 1 + _ = _; omega
section
variable {prog : Program} {w : World} {A : Around} {E : Value → Shared → Prop} {s : Shared} {h₀ : Heap} {L B : Addr} {m : PySem.Str → Option Value} {news : List (Addr × Obj)} {x : PySem.Str} {t : Tok} {Q : Value → Shared → Prop} {vs : List Value} {cs : List Nat} {e : Nat}
theorem sorted_text2 (hh : A.handled = none) (F : Fr h₀ L s.heap m) (N : News h₀ L s.heap news) (hx : x.length ≤ 20)
    (h : ∀ (B : Addr) (h' : Heap) (tk : Nat) (vs' : List Value) (cs : List Nat) (e : Nat), Fr h₀ L h' m → News h₀ L h' ((B, W.listOf vs'.toArray e) :: news) → (∀ p ∈ news, p.1 < B) →
      StrsAre vs' (cs.map one1) → cs.Perm x.cps.toList → cs.Pairwise (· ≤ ·) → cs.length ≤ 20 → Q (.ref B) { s with heap := h', toks := tk }) :
    wpAny (model prog w) A (call (.builtin "sorted") [.str x t]) Q E s :=
  sorted_text hh F N hx fun B h' tk vs' ss' e F' N' l1 sS sP sO => by
    obtain ⟨cs, rfl, hp⟩ := ones_of sP
    exact h B h' tk vs' cs e F' N' l1 sS hp (sorted_pw cs sO) (by rw [hp.length_eq]; exact hx)
theorem join_chars (N : News h₀ L s.heap news) (hm : (B, W.listOf vs.toArray e) ∈ news) (sS : StrsAre vs (cs.map one1)) (hl : cs.length ≤ 20) (h : ∀ t' k, Q (.str ⟨cs.toArray⟩ t') { s with toks := k }) :
    wpAny (model prog w) A (call (.builtin "str.join") [.str (PySem.Str.ofString "") t, .ref B]) Q E s := by
  refine join_listW (News.isList N hm) (by simpa using sS) (by decide +kernel) ?_ fun t' k => ?_
  · rw [ones_sum, List.length_map]; omega
  · rw [join_ones]; exact h t' k
end
end Mine
end

section -- Sc
set_option Elab.async false
set_option maxRecDepth 100000
set_option maxHeartbeats 1000000
namespace Mine
open PySem PySem.W PySem.Spec PySem.Calls PyProof.Rows
section
variable {prog : Program} {w : World} {A : Around} {E : Value → Shared → Prop} {s : Shared} {h₀ : Heap} {L : Addr} {m : PySem.Str → Option Value} {env : Env}
/-- a comprehension over a text -/
def CompTxt (prog : Program) (w : World) (A : Around) (h₀ : Heap) (L : Addr) (m : PySem.Str → Option Value) (env : Env) (elt : Expr) (x : PySem.Str) (scope : Scope) (cl : List (PySem.Str × Addr)) (Fin : Shared → List Value → List (Addr × Obj) → Prop) (xv : Value) (s₁ : Shared) : Prop :=
  ∃ z t news, xv = .str z t ∧ A.handled = none ∧ Fr h₀ L s₁.heap m ∧ News h₀ L s₁.heap news ∧ z.cps.size ≤ sizeLine ∧
    ∀ s₂ : Shared, (∃ h, s₂ = { s₁ with heap := h }) → LCg.CompRest prog w A h₀ L m env elt x scope cl s₂ (fun _ => True) (SignAt z) (Fin s₂) z.cps.size 0 [] news
theorem striter_st {I : Addr} {ty : String} {z : PySem.Str} {t : Tok} : ∀ i (h h' : Heap) (o : Obj) (nw : List (Addr × Obj)), h.IsStrIter I ty z t i → h.get? I = some o → h'.get? I = some o → (∀ b o, h₀.get? b = some o → h'.get? b = some o) → News h₀ L h' nw → True → h'.IsStrIter I ty z t i :=
  fun i h h' o nw st e e' _ _ _ => by
    obtain ⟨o', q, r⟩ := st
    rw [e] at q
    cases q
    exact ⟨o, e', r⟩
theorem Assign_ListComp_S {elt iter : Expr} {x y : PySem.Str} {px py : Pos} {scope : Scope} {cl : List (PySem.Str × Addr)} {pos spos : Pos} {Q : Flow → Shared → Prop} (F₀ : Fr h₀ L s.heap m) (hLe : env.locals = L)
    (hsw : swapsWith (.ListComp elt [⟨.Name x px, iter, [], 0⟩] scope pos) (some (.Name y py)) spos.line env = pure true)
    (hclos : closureFor scope env = pure cl) (hcell : ∀ z ∈ scope.names, z.2 ≠ .cell) (hkind : scope.kind = .function)
    (hnames : ∀ z ∈ scope.names, z.2 = .local → scope.names.lookup z.1 = some .local) (hx : scope.names.lookup x = some .local)
    (hy : env.kindOf y = some .local) (hp : (env.scope.kind == .class || (env.scope.kind == .module && env.locals != env.globals)) = false)
    (h : wpAny (model prog w) A (eval iter env) (CompTxt prog w A h₀ L m env elt x scope cl (fun s₂ => LCg.FinA h₀ L m s₂ y Q)) E s)
    (hs : ∀ x, foldedSetIterable iter env x = pure x := by intro _; rfl) :
    wpAny (model prog w) A (exec (.Assign [.Name y py] (.ListComp elt [⟨.Name x px, iter, [], 0⟩] scope pos) spos) env) Q E s := by
  subst hLe
  rw [exec_Assign_Name_used _ _ _ _ hsw]
  refine wpAny_bind (wpAny_standAt (wpAny_bind ?_))
  show wpAny _ A (do let _ ← comprehension (.ListComp elt [⟨.Name x px, iter, [], 0⟩] scope pos) scope env _ (newList []) false (eval iter env) (some (assign (.Name y py) env))) _ _ s
  refine wpAny_bind (wpAny_mono (wpAny_comprehension_free (use := some (assign (.Name y py) env)) (Q := fun _ s' => Q .next s') rfl hs hclos hkind hnames
    (wpAny_mono h (fun xv s₁ h₁ => ?_) fun _ _ e => e)) (fun _ s' hq => wpAny_pure (wpAny_pure hq)) fun _ _ e => e)
  obtain ⟨z, t, news, rfl, hh, F, N, hsz, R⟩ := h₁
  cases ha : z.cps.all (· < 128)
  · refine wpAny_pyIter_wide ha ?_
    refine LCg.block_U (Walks.strWide hh s₁.heap.objs.size z t) hsz (fun i h st => by obtain ⟨o, e, _⟩ := st; exact ⟨o, e⟩) striter_st hcell hkind hx ⟨_, Heap.get?_push_size _ rfl, rfl, rfl⟩ (fun b hb => ?_)
      (F.keeps fun _ _ e => Heap.get?_push_of_some _ e) (N.grown fun _ _ e => Heap.get?_push_of_some _ e) (Nat.ne_of_lt F.ns.lt) (next_is_new F) (fun p hp => Nat.ne_of_lt (Heap.lt_size (N p hp).1)) trivial (R _ ⟨_, rfl⟩) ?_
    · rw [List.mem_singleton.mp hb]
      show s₁.heap.objs.size < (s₁.heap.push _).objs.size
      rw [Heap.size_push]; exact Nat.lt_succ_self _
    · intro D C h' tk m' ys news' F' N' o1 hn hC₀ hD₀ hCL hDL hCD offC fin
      show wpAny _ A (assign (.Name y py) env (.ref D)) _ _ _
      refine wpAny_assign_Name (wpAny_storeName_local hy F'.ns (fun h₂ hn₂ hs₂ => ?_) hp)
      have hL₀ : h₀.get? env.locals = none := Heap.get?_none_of_le F'.above
      have F₂ : Fr h₀ env.locals h₂ (fun z => if z = y then some (.ref D) else m z) := ⟨hn₂, fun b o e => hs₂.extBut b o (fun q => by rw [q, hL₀] at e; cases e) (F'.keep b o e), F'.above⟩
      refine ⟨m', hn.sameBut hs₂ hCL, fun h'' hs'' => fin D h'' _ (F₂.change hs'' hCL hC₀) (fun p hp => ?_) o1⟩
      have z : h₂.get? p.1 = some p.2 := hs₂.extBut _ _ (N' p hp).2.1 (N' p hp).1
      refine ⟨hs''.extBut _ _ ?_ z, (N' p hp).2⟩
      rcases List.mem_cons.mp hp with rfl | hp
      · exact Ne.symm hCD
      · exact offC p hp
  · refine wpAny_pyIter_ascii ha ?_
    refine LCg.block_U (Walks.strAscii hh s₁.heap.objs.size z t) hsz (fun i h st => by obtain ⟨o, e, _⟩ := st; exact ⟨o, e⟩) striter_st hcell hkind hx ⟨_, Heap.get?_push_size _ rfl, rfl, rfl⟩ (fun b hb => ?_)
      (F.keeps fun _ _ e => Heap.get?_push_of_some _ e) (N.grown fun _ _ e => Heap.get?_push_of_some _ e) (Nat.ne_of_lt F.ns.lt) (next_is_new F) (fun p hp => Nat.ne_of_lt (Heap.lt_size (N p hp).1)) trivial (R _ ⟨_, rfl⟩) ?_
    · rw [List.mem_singleton.mp hb]
      show s₁.heap.objs.size < (s₁.heap.push _).objs.size
      rw [Heap.size_push]; exact Nat.lt_succ_self _
    · intro D C h' tk m' ys news' F' N' o1 hn hC₀ hD₀ hCL hDL hCD offC fin
      show wpAny _ A (assign (.Name y py) env (.ref D)) _ _ _
      refine wpAny_assign_Name (wpAny_storeName_local hy F'.ns (fun h₂ hn₂ hs₂ => ?_) hp)
      have hL₀ : h₀.get? env.locals = none := Heap.get?_none_of_le F'.above
      have F₂ : Fr h₀ env.locals h₂ (fun z => if z = y then some (.ref D) else m z) := ⟨hn₂, fun b o e => hs₂.extBut b o (fun q => by rw [q, hL₀] at e; cases e) (F'.keep b o e), F'.above⟩
      refine ⟨m', hn.sameBut hs₂ hCL, fun h'' hs'' => fin D h'' _ (F₂.change hs'' hCL hC₀) (fun p hp => ?_) o1⟩
      have z : h₂.get? p.1 = some p.2 := hs₂.extBut _ _ (N' p hp).2.1 (N' p hp).1
      refine ⟨hs''.extBut _ _ ?_ z, (N' p hp).2⟩
      rcases List.mem_cons.mp hp with rfl | hp
      · exact Ne.symm hCD
      · exact offC p hp
end
end Mine
end

section -- Fi
set_option Elab.async false
set_option maxRecDepth 100000
namespace Mine
open PySem PySem.W PySem.Spec PySem.Calls PyProof.Rows Builtin Builtin.Str
theorem occ_mem (s sub : PySem.Str) (hi limit : Nat) : ∀ (l : List Nat) (st : Array Nat × Nat), (∀ j ∈ st.fst, j + sub.length ≤ hi ∧ subAt s sub j = true) →
    ∀ j ∈ (forIn l st (StrLaws.occBody s sub hi limit)).run.fst, j + sub.length ≤ hi ∧ subAt s sub j = true
  | [], st, h => h
  | a :: l, st, h => by
    rw [List.forIn_cons]
    unfold StrLaws.occBody
    split
    · rename_i hc
      refine occ_mem s sub hi limit l _ fun j hj => ?_
      rcases Array.mem_push.mp hj with hj | rfl
      · exact h j hj
      · exact ⟨hc.1.2, hc.2⟩
    · exact occ_mem s sub hi limit l _ h
theorem find_at {x : PySem.Str} {c : Nat} (h : c ∈ x.cps.toList) : ∃ p : Nat, Txt.find x ⟨#[c]⟩ = p ∧ x.cps.toList[p]? = some c := by
  have h1 := StrLaws.found_one x c
  rw [decide_eq_true h] at h1
  have h2 : ∀ j ∈ occurrences x ⟨#[c]⟩ 0 x.length 1, x.cps.toList[j]? = some c := by
    rw [StrLaws.occ_eq]
    intro j hj
    exact (StrLaws.subAt_one x c j).mp (occ_mem x _ _ _ _ _ (fun _ h => absurd h (Array.not_mem_empty _)) j (Array.mem_toList_iff.mp hj))
  unfold Txt.find
  cases ho : occurrences x ⟨#[c]⟩ 0 x.length 1 with
  | nil => rw [ho] at h1; simp at h1
  | cons p r => exact ⟨p, rfl, h2 p (by rw [ho]; exact .head _)⟩
end Mine
end

section -- Ix
set_option Elab.async false
set_option maxRecDepth 100000
namespace Mine
open PySem PySem.W PySem.Spec PySem.Calls PyProof.Rows
/-- a sign of a text and its place in another one -/
structure IdxRel (W z : PySem.Str) (i : Nat) (y : Value) : Prop where
  at_ : ∃ (c p : Nat) (t : Tok), z.cps.toList[i]? = some c ∧ y = .int p t ∧ W.cps.toList[p]? = some c
theorem idx_ints {W z : PySem.Str} {ys : List Value} (hl : ys.length = z.cps.size) (h : ∀ (j : Nat) (y : Value), ys[j]? = some y → IdxRel W z j y) :
    ∃ ps : List Nat, IntsAre ys (ps.map Int.ofNat) ∧ ps.map (fun p => W.cps.toList[p]?) = z.cps.toList.map some := by
  have key : ∀ (zs : List Nat) (ys : List Value), ys.length = zs.length → (∀ (j : Nat) (y : Value), ys[j]? = some y → ∃ (c p : Nat) (t : Tok), zs[j]? = some c ∧ y = .int p t ∧ W.cps.toList[p]? = some c) →
      ∃ ps : List Nat, IntsAre ys (ps.map Int.ofNat) ∧ ps.map (fun p => W.cps.toList[p]?) = zs.map some := by
    intro zs
    induction zs with
    | nil => intro ys hl _; cases ys with
      | nil => exact ⟨[], .nil, rfl⟩
      | cons y ys => cases hl
    | cons c zs ih => intro ys hl h; cases ys with
      | nil => cases hl
      | cons y ys =>
        obtain ⟨ps, h1, h2⟩ := ih ys (Nat.succ.inj hl) fun j y hj => h (j + 1) y hj
        obtain ⟨c', p, t, hc, rfl, hp⟩ := h 0 y rfl
        cases hc
        exact ⟨p :: ps, .cons _ _ h1, by rw [List.map_cons, List.map_cons, h2, hp]⟩
  exact key _ ys (by rw [hl, Array.length_toList]) fun j y hj => (h j y hj).at_
theorem places_rise {W z : List Nat} (hW : W.Nodup) (hz : z.Sublist W) {ps : List Nat} (h : ps.map (fun p => W[p]?) = z.map some) : (ps.map Int.ofNat).Pairwise (· < ·) := by
  obtain ⟨is, hi, hp⟩ := List.sublist_eq_map_getElem hz
  have e : ps = is.map fun i => i.val := by
    have h1 : ps.map (fun p => W[p]?) = (is.map fun i => i.val).map (fun p => W[p]?) := by
      rw [h, hi, List.map_map, List.map_map]
      refine List.map_congr_left fun i _ => ?_
      simp
    have h2 : ∀ (a b : List Nat), (∀ p ∈ b, p < W.length) → a.map (fun p => W[p]?) = b.map (fun p => W[p]?) → a = b := by
      intro a
      induction a with
      | nil => intro b _ hb; cases b with
        | nil => rfl
        | cons y b => cases hb
      | cons x a ih => intro b hlt hb; cases b with
        | nil => cases hb
        | cons y b =>
          rw [List.map_cons, List.map_cons] at hb
          obtain ⟨h3, h4⟩ := List.cons.inj hb
          have hy := hlt y (.head _)
          have h5 : W[x]? = some W[y] := by rw [h3, List.getElem?_eq_getElem hy]
          obtain ⟨hx, h6⟩ := List.getElem?_eq_some_iff.mp h5
          have : x = y := (List.getElem?_inj hx hW).mp h3
          rw [this, ih b (fun p hp => hlt p (.tail _ hp)) h4]
    refine h2 _ _ (fun p hp => ?_) h1
    obtain ⟨i, _, rfl⟩ := List.mem_map.mp hp
    exact i.isLt
  rw [e, List.map_map, List.pairwise_map]
  refine hp.imp fun {a b} hab => ?_
  show Int.ofNat a.val < Int.ofNat b.val
  have : a.val < b.val := hab
  exact Int.ofNat_lt.mpr this
section
variable {prog : Program} {w : World} {A : Around} {E : Value → Shared → Prop} {s : Shared} {h₀ : Heap} {L l : Addr} {m : PySem.Str → Option Value} {news : List (Addr × Obj)} {x : PySem.Str} {t u : Tok} {c : Nat} {vs : List Value} {ns : List Int} {n : Nat} {Q : Value → Shared → Prop}
theorem index_one (hA : A.handled = none) (hc : c ∈ x.cps.toList) (h : ∀ p : Nat, x.cps.toList[p]? = some c → Q (.int p s.toks) { s with toks := s.toks + 1 }) :
    wpAny (model prog w) A (call (.builtin "str.index") [.str x t, .str ⟨#[c]⟩ u]) Q E s := by
  obtain ⟨p, hp, hx⟩ := find_at hc
  refine index_or hA (fun q _ => ?_) fun _ _ => ?_
  · rw [hp] at q; exact absurd q (by omega)
  · rw [hp]; exact h p hx
/-- a set of ints, by its size -/
structure SetN (prog : Program) (w : World) (o : Obj) (n : Nat) : Prop where
  so : ∃ S, o.SetObjOf (intKind prog w) S n
theorem met_all {ns : List Int} (hn : ns.Nodup) : ∀ i, i ≤ ns.length → firstMet (fun i => ns.getD i 0) i = ns.take i
  | 0, _ => by rw [firstMet_zero]; rfl
  | i + 1, hi => by
    have hlt : i < ns.length := hi
    rw [firstMet_succ, met_all hn i (by omega)]
    have e : ns.getD i 0 = ns[i] := by simp [hlt]
    rw [e, List.take_add_one, List.getElem?_eq_getElem hlt]
    unfold step_dedup
    have hno : ns[i] ∉ ns.take i := by
      have h1 := hn
      rw [← List.take_append_drop i ns, List.nodup_append] at h1
      intro q
      exact h1.2.2 _ q ns[i] (by rw [List.drop_eq_getElem_cons hlt]; exact .head _) rfl
    simp [hno]
theorem set_led (F : Fr h₀ L s.heap m) (N : News h₀ L s.heap news) (hm : (l, W.listOf vs.toArray n) ∈ news) (hh : A.handled = none) (hi : IntsAre vs ns) (hn : ns.Nodup) (hb : ns.length ≤ 1000)
    (h : ∀ h' (tk : Nat) a o, Fr h₀ L h' m → News h₀ L h' ((a, o) :: news) → (∀ q ∈ news, q.1 < a) → SetN prog w o ns.length → Q (.ref a) { s with heap := h', toks := tk }) :
    wpAny (model prog w) A (call (.type "set") [.ref l]) Q E s := by
  have hl' : s.heap.IsList l vs.toArray := News.isList N hm
  have hvn : vs.length = ns.length := IntsAre.length hi
  have hsz : vs.toArray.size = vs.length := List.size_toArray
  refine PySem.call_set_list (items := vs.toArray) (ns := ns) hh hl' (by simpa using hi) (by rw [hsz]; unfold scanBound; omega) fun h' tk hS hk => ?_
  rw [hsz, hvn, met_all hn _ (Nat.le_refl _), List.take_length] at hS
  obtain ⟨o, ho, hso⟩ := hS.objOf
  obtain ⟨oL, _, _, hL, _⟩ := F.ns
  have hLlt : L < s.heap.objs.size := Heap.lt_size hL
  refine h h' tk _ o ⟨F.ns.at' fun o' e => hk L o' hLlt e, fun b o' e => hk b o' (Heap.lt_size (F.keep b o' e)) (F.keep b o' e), F.above⟩ (fun p hp => ?_) (fun q hq => Heap.lt_size (N q hq).1) ⟨_, hso⟩
  rcases List.mem_cons.mp hp with rfl | hp
  · refine ⟨ho, Nat.ne_of_gt hLlt, ?_⟩
    cases hq : h₀.get? s.heap.objs.size with
    | none => rfl
    | some o' => exact absurd (Heap.lt_size (F.keep _ _ hq)) (Nat.lt_irrefl _)
  · exact ⟨hk _ _ (Heap.lt_size (N p hp).1) (N p hp).1, (N p hp).2.1, (N p hp).2.2⟩
theorem len_setN {a : Addr} {o : Obj} (N : News h₀ L s.heap news) (hm : (a, o) ∈ news) (hs : SetN prog w o n) (hfit : n ≤ 1000)
    (h : Q (.int n (s.toks + 1)) { s with toks := s.toks + 1 + 1 }) : wpAny (model prog w) A (call (.builtin "len") [.ref a]) Q E s := by
  obtain ⟨S, hex, es, ep, t, hd, _, _, hn, hf⟩ := hs.so
  subst hn
  exact call_len_set (N _ hm).1 hex hd hf (by omega) h
end
end Mine
end

section -- Ix2
set_option Elab.async false
set_option maxRecDepth 100000
namespace Mine
open PySem PySem.W PySem.Spec PySem.Calls PyProof.Rows
/-- a row's number at a place -/
structure IntRel (ns : List Int) (i : Nat) (y : Value) : Prop where
  at_ : ∃ (k : Int) (t : Tok), ns[i]? = some k ∧ y = .int k t
theorem ints_of_rel : ∀ {ns : List Int} {ys : List Value}, ys.length = ns.length → (∀ (j : Nat) (y : Value), ys[j]? = some y → IntRel ns j y) → IntsAre ys ns
  | [], [], _, _ => .nil
  | [], _ :: _, h, _ => by cases h
  | _ :: _, [], h, _ => by cases h
  | n :: ns, y :: ys, hl, h => by
    obtain ⟨k, t, hk, rfl⟩ := (h 0 y rfl).at_
    cases hk
    exact .cons _ _ (ints_of_rel (Nat.succ.inj hl) fun j z hz => ⟨(h (j + 1) z hz).at_⟩)
theorem lay_ids : ∀ {n : Nat}, n ≤ 7 → PyData.layable0 (.list ((ids n).map .int)) = true
  | 0, _ => by decide
  | 1, _ => by decide
  | 2, _ => by decide
  | 3, _ => by decide
  | 4, _ => by decide
  | 5, _ => by decide
  | 6, _ => by decide
  | 7, _ => by decide
  | n + 8, h => absurd h (by omega)
theorem lay_perm {n : Nat} {A : List Int} (hp : A.Perm (ids n)) (h : n ≤ 7) : PyData.layable0 (.list (A.map .int)) = true := layable_ints_perm hp (lay_ids h)
theorem index_led {prog : Program} {w : World} {A : Around} {E : Value → Shared → Prop} {s : Shared} {h₀ : Heap} {L l : Addr} {news : List (Addr × Obj)} {vs : List Value} {ns : List Int} {n : Nat} {k : Int} {t : Tok} {Q : Value → Shared → Prop} (N : News h₀ L s.heap news) (hm : (l, W.listOf vs.toArray n) ∈ news) (hi : IntsAre vs ns)
    (hlay : PyData.layable0 (.list (ns.map .int)) = true) (hk : k ∈ ns) (h : Q (.int (placeIn ns k) s.toks) { s with toks := s.toks + 1 }) :
    wpAny (model prog w) A (call (.builtin "list.index") [.ref l, .int k t]) Q E s := index_list_ints (News.isList N hm) hi hlay hk h
theorem place_bound {n : Nat} {A : List Int} (hp : A.Perm (ids n)) (hn : n ≤ 7) {B : List Int} (hB : ∀ x ∈ B, x ∈ ids n) : ∀ x ∈ B.map (placeIn A), 0 ≤ x ∧ x ≤ 20 := by
  intro x hx
  obtain ⟨y, hy, rfl⟩ := List.mem_map.mp hx
  have := mem_ids.mp (placeIn_mem hp (hB y hy))
  omega
end Mine
end

section
open PySem PySem.W PySem.Spec PySem.Calls PyProof.Rows
set_option maxRecDepth 100000
set_option maxHeartbeats 40000000
namespace Mine
local macro_rules | `(tactic| walk_at "getAttr ref") => `(tactic| (k_here; (with_reducible show wpAny _ _ (getAttr (Value.ref _) (PySem.Str.ofString "_ident") _) _ _ _); k_dflt (refine' get_sm ?k1 ?k2 ?k4 ?k5 ?k6 ?k7 ?k9 ?k10 ?k11 ?k12 ?k13 ?k14 ?_; (case k1 => k_asm); (case k2 => k_asm); (case k4 => k_inst); (case k5 => k_is); (case k6 => k_is); (case k7 => k_is); (case k9 => k_is); (case k10 => k_is); (case k11 => decide +kernel); (case k12 => k_get); (case k13 => k_is); (case k14 => k_handed); k_whole)))
local macro_rules | `(tactic| walk_at "call builtin:len") => `(tactic| (k_here; (with_reducible show wpAny _ _ (call (Value.builtin "len") [Value.str _ _]) _ _ _); k_dflt (refine' PySem.P.len_str ?p ?_; (case p => omega))))
local macro_rules | `(tactic| walk_at "call builtin:len") => `(tactic| (k_here; (with_reducible show wpAny _ _ (call (Value.builtin "len") [Value.ref _]) _ _ _); k_dflt (refine' len_led ?N ?m ?f ?_; (case N => k_asm); (case m => k_mem); (case f => omega); k_whole)))
local macro_rules | `(tactic| walk_at "call builtin:sorted") => `(tactic| (k_here; (with_reducible show wpAny _ _ (call (Value.builtin "sorted") [Value.str _ _]) _ _ _); k_dflt (refine' sorted_text2 ?h ?F ?N ?x ?_; (case h => rfl); (case F => k_asm); (case N => k_asm); (case x => omega); k_whole); intro B' h' tk' vs' cs' e' F' N' l1 sS sP sO sL; (try k_lt l1); (try k_sweep)))
local macro_rules | `(tactic| walk_at "call builtin:str.join") => `(tactic| (k_here; (with_reducible show wpAny _ _ (call (Value.builtin "str.join") [Value.str _ _, Value.ref _]) _ _ _); k_dflt (refine' join_chars ?N ?m ?s ?l ?_; (case N => k_asm); (case m => k_mem); (case s => with_reducible assumption); (case l => with_reducible assumption); k_whole); intro t' k'))
local macro_rules | `(tactic| walk_at "eval ListComp") => `(tactic| (k_here; lct_look; lcg_calm; k_dflt (refine LCt.ListComp_T (F₀ := by k_asm) (by with_unfolding_all rfl) (by decide) (by rfl) (by decide) (by rfl) ?_)))
local macro_rules | `(tactic| walk_at "eval Name") => `(tactic| (k_here; (with_reducible show wpAny _ _ (eval (Expr.Name (Str.ofString "size") _) (compEnvC _ _ _ _)) _ _ _); k_dflt (refine' lcf_cell ?N ?c ?m ?d ?_ ?a ?b; (case a => rfl); (case b => rfl); (case N => assumption); (case c => rfl); (case m => k_mem); (case d => assumption); k_whole)))
local macro_rules | `(tactic| walk_at "exec Assign cons ListComp") => `(tactic| (k_here; (with_reducible show wpAny _ _ (exec (Stmt.Assign _ (Expr.ListComp _ [Comprehension.mk (Expr.Name (Str.ofString "letter") _) _ _ _] _ _) _) _) _ _ _); k_dflt (refine Assign_ListComp_S (F₀ := by k_asm) (by rfl) (by with_unfolding_all rfl) (by with_unfolding_all rfl) (by decide) (by rfl) (by decide) (by rfl) (by rfl) (by rfl) ?_)))
local macro_rules | `(tactic| walk_at "eval Name") => `(tactic| (k_here; (with_reducible show wpAny _ _ (eval (Expr.Name (Str.ofString "word") _) (compEnvC _ _ _ _)) _ _ _); k_dflt (refine' lcf_cell ?N ?c ?m ?d ?_ ?a ?b; (case a => rfl); (case b => rfl); (case N => assumption); (case c => rfl); (case m => k_mem); (case d => assumption); k_whole)))
local macro_rules | `(tactic| walk_at "call builtin:str.index") => `(tactic| (k_here; k_dflt (refine' index_one ?h ?c ?_; (case h => rfl); (case c => with_reducible assumption); k_whole); intro p' hp'))
local macro_rules | `(tactic| walk_at "call type:set cons nil") => `(tactic| (k_here; (with_reducible show wpAny _ _ (call (Value.type "set") [Value.ref _]) _ _ _); k_dflt (refine' set_led ?F ?N ?m ?h ?i ?n ?b ?_; (case F => k_asm); (case N => k_asm); (case m => k_mem); (case h => rfl); (case i => with_reducible assumption); (case n => with_reducible assumption); (case b => omega); k_whole); intro h' tk' a' o' F' N' l1 s'; (try k_lt l1)))
local macro_rules | `(tactic| walk_at "call builtin:len") => `(tactic| (k_here; (with_reducible show wpAny _ _ (call (Value.builtin "len") [Value.ref _]) _ _ _); k_dflt (refine' len_setN ?N ?m ?s ?f ?_; (case N => k_asm); (case m => k_mem); (case s => with_reducible assumption); (case f => omega); k_whole)))
local macro_rules | `(tactic| walk_at "eval ListComp") => `(tactic| (k_here; (with_reducible show wpAny _ _ (eval (Expr.ListComp _ [Comprehension.mk (Expr.Name (Str.ofString "number") _) _ [] _] _ _) _) _ _ _); k_dflt (refine LCg.ListComp_U (F₀ := by k_asm) (by with_unfolding_all rfl) (by decide) (by rfl) (by decide) (by rfl) ?_)))
local macro_rules | `(tactic| walk_at "eval Name") => `(tactic| (k_here; (with_reducible show wpAny _ _ (eval (Expr.Name (Str.ofString "first") _) (compEnvC _ _ _ _)) _ _ _); k_dflt (refine' lcf_cell ?N ?c ?m ?d ?_ ?a ?b; (case a => rfl); (case b => rfl); (case N => assumption); (case c => rfl); (case m => k_mem); (case d => assumption); k_whole)))
local macro_rules | `(tactic| walk_at "call builtin:list.index") => `(tactic| (k_here; k_dflt (refine' index_led ?N ?m ?i ?l ?k ?_; (case N => k_asm); (case m => k_mem); (case i => with_reducible assumption); (case l => with_reducible assumption); (case k => with_reducible assumption); k_whole)))
local macro_rules | `(tactic| walk_at "exec Assign cons ListComp") => `(tactic| (k_here; (with_reducible show wpAny _ _ (exec (Stmt.Assign _ (Expr.ListComp _ [Comprehension.mk (Expr.Name (Str.ofString "number") _) _ _ _] _ _) _) _) _ _ _); k_dflt (refine LCg.Assign_ListComp_U (F₀ := by k_asm) (by rfl) (by with_unfolding_all rfl) (by with_unfolding_all rfl) (by decide) (by rfl) (by decide) (by rfl) (by rfl) (by rfl) ?_)))
local macro_rules | `(tactic| walk_at "eval Name") => `(tactic| (k_here; (with_reducible show wpAny _ _ (eval (Expr.Name (Str.ofString "second") _) (compEnvC _ _ _ _)) _ _ _); k_dflt (refine' lcf_cell ?N ?c ?m ?d ?_ ?a ?b; (case a => rfl); (case b => rfl); (case N => assumption); (case c => rfl); (case m => k_mem); (case d => assumption); k_whole)))
theorem law_holds : PySem.Challenge.rw_ag5023_01.Holds := hd (by
  w_top off
  k_go0
  all_goals try k_fold
  rename World => w
  rename Shared => s₁
  rename IntsAre _ _ => iS
  rename (¬ (_ : Int) < _) => hlen
  rename Below _ _ _ _ => K0
  replace K0 : Below callerA s₁.heap [] s₁.heap := K0
  rename Frag.In _ _ => KX
  rename Top _ _ _ _ _ _ => TT
  rename Heap.IsList _ _ _ => lS
  rename_i d0 dl1 dl2 dl3 N0 X0
  refine execs_split (Drawn s₁.heap s₁.heap.objs.size s₁) ?_ ?_
  · repeat' (first | (fail_if_success (with_reducible show wpAny _ _ (call (Value.ref _) _) _ _ _)); (first | (k_unfold; (try dsimp only)) | (k_end; wrow_close) | walk1 | (dsimp only; walk1)))
    · rename Fr _ _ _ _ => F
      rename News _ _ _ _ => N
      rename (_ < List.length _) => hpos
      have hle := hlen
      rename ((_ : Addr) < _ ∧ (_ : Addr) < _ ∧ _ < _ ∧ _ < _) => l1
      refine wpAny_call ?_
      refine cc_use (outer := []) (rest := [_, _, _, _]) (drawn_cc _ _ _ hpos (by omega) 0 7 _ _ _ ⟨by omega, by omega⟩ ⟨by omega, by omega⟩) K0 F KX TT (kst_newsOf N (List.forall_mem_cons.mpr ⟨.tail _ (.head _), fun p hp => .tail _ (.tail _ hp)⟩)) (off4 l1) rfl rfl (by decide) (by decide) (pre_base F N (.tail _ (.head _)) lS iS rfl) ?_
      rintro v h' tk' nu' F1 N1 off ⟨⟨r, tr, rfl, hr0, hr1⟩, t', n', rfl⟩
      clear F N off
      simp only [List.cons_append, List.nil_append] at N1
      dsimp only
      try k_fold
      repeat' (first | (fail_if_success (with_reducible show wpAny _ _ (call (Value.ref _) _) _ _ _)); (first | (k_unfold; (try dsimp only)) | (k_end; wrow_close) | walk1 | (dsimp only; walk1)))
      rename Fr _ _ _ _ => F
      rename News _ _ _ _ => N
      rename _ = Data.cell (some (Value.int (1 + r) _)) => d1
      obtain ⟨size, hsz⟩ : ∃ size : Nat, 1 + r = size := ⟨(1 + r).toNat, by omega⟩
      rw [hsz] at d1 ⊢
      refine wpAny_call ?_
      refine cc_use (outer := []) (rest := [_, _, _, _]) (drawn_row_cc _ _ _ hpos (by omega) (0 + 1) size _ _ _ ⟨by omega, by omega⟩ (by omega)) K0 F KX TT (kst_newsOf N (List.forall_mem_cons.mpr ⟨.head _, fun p hp => .tail _ hp⟩)) (off4 l1) rfl rfl (by decide) (by decide) (pre_base F N (.head _) lS iS rfl) ?_
      rintro v h' tk' nu' F1 N1 off1 ⟨r1, rv1, rs1, nr1, t1, n1, rfl, i1, p1, rfl, la1⟩
      clear F N
      simp only [List.cons_append, List.nil_append] at N1
      dsimp only
      try k_fold
      repeat' (first | (fail_if_success (with_reducible show wpAny _ _ (call (Value.ref _) _) _ _ _)); (first | (k_unfold; (try dsimp only)) | (k_end; wrow_close) | walk1 | (dsimp only; walk1)))
      rename Fr _ _ _ _ => F
      rename News _ _ _ _ => N
      refine wpAny_call ?_
      refine cc_use (outer := []) (rest := (r1, _) :: [_, _, _, _]) (drawn_row_cc _ _ _ hpos (by omega) (0 + 1 + size) size _ _ _ ⟨by omega, by omega⟩ (by omega)) K0 F KX TT (kst_newsOf N (List.forall_mem_cons.mpr ⟨.tail _ (.head _), List.forall_mem_cons.mpr ⟨.head _, fun p hp => .tail _ (.tail _ hp)⟩⟩)) (List.forall_mem_cons.mpr ⟨?_, off4 l1⟩) rfl rfl (by decide) (by decide) (pre_base F N (.tail _ (.head _)) lS iS rfl) ?_
      · exact fun q => Nat.ne_of_gt la1 (by simpa using q)
      rintro v h' tk' nu' F1 N1 off2 ⟨r2, rv2, rs2, nr2, t2, n2, rfl, i2, p2, rfl, la2⟩
      clear F N
      have e21 : @Ne Nat r2 r1 := off2 _ (.head _) _ (.head _)
      simp only [List.cons_append, List.nil_append] at N1
      dsimp only
      try k_fold
      repeat' (first | (fail_if_success (with_reducible show wpAny _ _ (call (Value.ref _) _) _ _ _)); (first | (k_unfold; (try dsimp only)) | (k_end; wrow_close) | walk1 | (dsimp only; walk1)))
      rename Fr _ _ _ _ => F
      rename News _ _ _ _ => N
      rename _ = Data.cell (some (Value.ref r1)) => d2
      rename _ = Data.cell (some (Value.ref r2)) => d3
      exact ⟨size, _, _, _, _, _, _, _, r1, r2, rv1, rv2, rs1, rs2, nr1, nr2, _, _, rfl, F, kst_newsOf N (by kst_inAny), d0, d3, d2, d1, by omega, by omega, i1, i2, p1, p2, e21, Nat.lt_trans l1.1 la1, Nat.lt_trans l1.1 la2⟩
    · rename Fr _ _ _ _ => F
      rename News _ _ _ _ => N
      clear hlen
      have hlen : ¬ (63 : Int) < (([3, 1, 4] : List Int).length : Int) := by decide
      have hpos : 0 < ([3, 1, 4] : List Int).length := by decide
      have iT : ∀ a b c : Tok, IntsAre [Value.int 3 a, Value.int 1 b, Value.int 4 c] [3, 1, 4] := fun _ _ _ => .cons _ _ (.cons _ _ (.cons _ _ .nil))
      rename ((_ : Addr) < _ ∧ (_ : Addr) < _ ∧ _ < _ ∧ _ < _ ∧ _ < _) => l1
      refine wpAny_call ?_
      refine cc_use (outer := []) (rest := [_, _, _, _, _]) (drawn_cc _ _ _ hpos (by omega) 0 7 _ _ _ ⟨by omega, by omega⟩ ⟨by omega, by omega⟩) K0 F KX TT (kst_newsOf N (List.forall_mem_cons.mpr ⟨.tail _ (.head _), fun p hp => .tail _ (.tail _ hp)⟩)) (off5 l1) rfl rfl (by decide) (by decide) (pre_news N (.tail _ (.tail _ (.head _))) l1.1 (iT _ _ _) rfl) ?_
      rintro v h' tk' nu' F1 N1 off ⟨⟨r, tr, rfl, hr0, hr1⟩, t', n', rfl⟩
      clear F N off
      simp only [List.cons_append, List.nil_append] at N1
      dsimp only
      try k_fold
      repeat' (first | (fail_if_success (with_reducible show wpAny _ _ (call (Value.ref _) _) _ _ _)); (first | (k_unfold; (try dsimp only)) | (k_end; wrow_close) | walk1 | (dsimp only; walk1)))
      rename Fr _ _ _ _ => F
      rename News _ _ _ _ => N
      rename _ = Data.cell (some (Value.int (1 + r) _)) => d1
      obtain ⟨size, hsz⟩ : ∃ size : Nat, 1 + r = size := ⟨(1 + r).toNat, by omega⟩
      rw [hsz] at d1 ⊢
      refine wpAny_call ?_
      refine cc_use (outer := []) (rest := [_, _, _, _, _]) (drawn_row_cc _ _ _ hpos (by omega) (0 + 1) size _ _ _ ⟨by omega, by omega⟩ (by omega)) K0 F KX TT (kst_newsOf N (List.forall_mem_cons.mpr ⟨.head _, fun p hp => .tail _ hp⟩)) (off5 l1) rfl rfl (by decide) (by decide) (pre_news N (.tail _ (.head _)) l1.1 (iT _ _ _) rfl) ?_
      rintro v h' tk' nu' F1 N1 off1 ⟨r1, rv1, rs1, nr1, t1, n1, rfl, i1, p1, rfl, la1⟩
      clear F N
      simp only [List.cons_append, List.nil_append] at N1
      dsimp only
      try k_fold
      repeat' (first | (fail_if_success (with_reducible show wpAny _ _ (call (Value.ref _) _) _ _ _)); (first | (k_unfold; (try dsimp only)) | (k_end; wrow_close) | walk1 | (dsimp only; walk1)))
      rename Fr _ _ _ _ => F
      rename News _ _ _ _ => N
      refine wpAny_call ?_
      refine cc_use (outer := []) (rest := (r1, _) :: [_, _, _, _, _]) (drawn_row_cc _ _ _ hpos (by omega) (0 + 1 + size) size _ _ _ ⟨by omega, by omega⟩ (by omega)) K0 F KX TT (kst_newsOf N (List.forall_mem_cons.mpr ⟨.tail _ (.head _), List.forall_mem_cons.mpr ⟨.head _, fun p hp => .tail _ (.tail _ hp)⟩⟩)) (List.forall_mem_cons.mpr ⟨?_, off5 l1⟩) rfl rfl (by decide) (by decide) (pre_news N (.tail _ (.tail _ (.head _))) l1.1 (iT _ _ _) rfl) ?_
      · exact fun q => Nat.ne_of_gt la1 (by simpa using q)
      rintro v h' tk' nu' F1 N1 off2 ⟨r2, rv2, rs2, nr2, t2, n2, rfl, i2, p2, rfl, la2⟩
      clear F N
      have e21 : @Ne Nat r2 r1 := off2 _ (.head _) _ (.head _)
      simp only [List.cons_append, List.nil_append] at N1
      dsimp only
      try k_fold
      repeat' (first | (fail_if_success (with_reducible show wpAny _ _ (call (Value.ref _) _) _ _ _)); (first | (k_unfold; (try dsimp only)) | (k_end; wrow_close) | walk1 | (dsimp only; walk1)))
      rename Fr _ _ _ _ => F
      rename News _ _ _ _ => N
      rename _ = Data.cell (some (Value.ref r1)) => d2
      rename _ = Data.cell (some (Value.ref r2)) => d3
      exact ⟨size, _, _, _, _, _, _, _, r1, r2, rv1, rv2, rs1, rs2, nr1, nr2, _, _, rfl, F, kst_newsOf N (by kst_inAny), d0, d3, d2, d1, by omega, by omega, i1, i2, p1, p2, e21, Nat.lt_trans l1.2.1 la1, Nat.lt_trans l1.2.1 la2⟩
  · clear X0 d0 dl1 dl2 dl3 N0
    rintro s' ⟨size, m, h, tk, o1, o2, o3, o4, r1, r2, rv1, rv2, rs1, rs2, n1, n2, t, c4, rfl, F, N, d4, d3, d2, d1, hs1, hs7, i1, i2, p1, p2, e21, g1, g2⟩
    have hb1 : ∀ x ∈ rs1, 0 ≤ x ∧ x ≤ 20 := fun x hx => ids_bound hs7 x (p1.mem_iff.mp hx)
    have hl1 : rs1.length ≤ 20 := by have := p1.length_eq; rw [ids_length] at this; omega
    refine exec_cut (Made w s₁.heap s₁.heap.objs.size s₁) ?_ ?_
    · repeat' (first | (fail_if_success (with_reducible show wpAny _ _ (call (Value.ref 256) _) _ _ _)); (first | (k_unfold; (try dsimp only)) | (k_end; wrow_close) | walk1 | (dsimp only; walk1)))
      rename Fr _ _ _ _ => F8
      rename News _ _ _ _ => N8
      rename IsRange _ _ _ _ _ _ _ _ => rgX
      rename ((_ : Addr) < _ ∧ (_ : Addr) < _ ∧ _ < _ ∧ _ < _ ∧ _ < _ ∧ _ < _) => l1
      rename ((_ : Addr) < (_ : Addr)) => l2
      rename_i x dx _ _ _ _ _ _ _ _ _ _ _ _ _ _ _ _ _ _ _ _ _ _ _ _ _ _ _ _
      obtain ⟨t1, t2, t3, t4, r, b, N9⟩ : ∃ t1 t2 t3 t4 r b, News s₁.heap s₁.heap.objs.size _ ((x, instObj 225 dx) :: (dx, dict3 w t1 t2 t3 t4 r b) :: _) := ⟨_, _, _, _, _, _, N8⟩
      clear N8
      refine wpAny_call ?_
      refine cc_same (outer := []) (letters_range_cc _ size (by omega)) K0 F8 KX TT N9 (fun _ q => nomatch q) rfl rfl (by decide) (by decide) (fun g hg => ⟨_, _, _, hg _ _ rgX List.not_mem_nil⟩) ?_
      clear N9
      rintro z h' tk' F9 N9 ⟨tr, rfl⟩
      dsimp only
      repeat' (first | (fail_if_success (with_reducible show wpAny _ _ (call (Value.ref _) _) _ _ _)); (first | (k_unfold; (try dsimp only)) | (k_end; wrow_close) | walk1 | (dsimp only; walk1)))
      rename Fr _ _ _ _ => F8
      rename News _ _ _ _ => N8
      refine wpAny_call ?_
      refine cc_same (outer := []) (letters_cc r1 rs1 hl1 hb1) K0 F8 KX TT N8 (fun _ q => nomatch q) rfl rfl (by decide) (by decide) (pre_list N8 (by k_mem) i1) ?_
      rintro z h' tk' F9 N9 ⟨tw, rfl⟩
      dsimp only
      repeat' (first | (fail_if_success (with_reducible show wpAny _ _ (call (Value.ref _) _) _ _ _)); (first | (k_unfold; (try dsimp only)) | (k_end; wrow_close) | walk1 | (dsimp only; walk1)))
      rename Fr _ _ _ _ => F8
      rename News _ _ _ _ => N8
      rename _ = Data.cell (some (Value.str _ _)) => d5
      exact ⟨size, _, _, _, _, _, _, _, r1, r2, x, dx, rv1, rv2, rs1, rs2, n1, n2, t, tr, tw, t1, t2, t3, t4, r, b, rfl, F8, kst_newsOf N8 (by kst_inAny), rfl, rfl, d5, d3, d2, d1, hs1, hs7, i1, i2, p1, p2, e21, g1, g2, l2, l1.2.1, l1.1⟩
    intro s' hM
    refine cut3 (Lined w s₁.heap s₁.heap.objs.size s₁) ?_ ?_
    rotate_left
    · obtain ⟨size, m, h, tk, o1, o2, o3, o4, r1, r2, x, dx, rv1, rv2, rs1, rs2, n1, n2, t, tr, tw, t1, t2, t3, t4, r, b, rfl, F, N, hm1, hm2, d4, d3, d2, d1, hs1, hs7, i1, i2, p1, p2, e21, g1, g2, l1, l2, l3⟩ := hM
      have hb1 : ∀ x ∈ rs1, 0 ≤ x ∧ x ≤ 20 := fun x hx => ids_bound hs7 x (p1.mem_iff.mp hx)
      have hl1 : rs1.length = size := by rw [p1.length_eq, ids_length]
      have hb2 : ∀ x ∈ rs2, 0 ≤ x ∧ x ≤ 20 := fun x hx => ids_bound hs7 x (p2.mem_iff.mp hx)
      have hl2 : rs2.length = size := by rw [p2.length_eq, ids_length]
      have hlw : (word rs1).length = size := by rw [word_length, hl1]
      have hlr : (word (ids size)).length = size := by rw [word_length, ids_length]
      have hxd : @Ne Nat x dx := Nat.ne_of_gt l1
      rw [tbl_map hm1, tbl_map hm2] at F
      repeat' (first | (fail_if_success (with_reducible show wpAny _ _ (call (Value.ref _) _) _ _ _)); (first | (k_unfold; (try dsimp only)) | (k_end; wrow_close) | walk1 | (dsimp only; walk1)))
      rename Fr _ _ _ _ => F8
      rename News _ _ _ _ => N8
      refine wpAny_call ?_
      k_dflt (refine' kco_code ?k1 ?k2 ?k3 ?k4 ?k5 ?k6 ?_; (case k1 => k_in); (case k2 => k_inst); (case k3 => rfl); (case k4 => k_is); (case k5 => k_is); (case k6 => k_is))
      refine cc_same (outer := []) (call_cc x dx r t1 t2 t3 t4 b _ _ _ _ (by omega) (by omega)) K0 F8 KX TT N8 (by kst_inAny) rfl rfl (by decide) (by decide) (fun _ _ => hxd) ?_
      rintro z h' tk' F9 N9 ⟨up, tu, rfl, lcU⟩
      clear F8 N8
      have hlu : up.length ≤ 20 := by have := lcU.1.length_le; have : up.cps.toList.length = up.length := rfl; have : (word rs1).cps.toList.length = (word rs1).length := rfl; omega
      dsimp only
      repeat' (first | (fail_if_success (with_reducible show wpAny _ _ (call (Value.ref _) _) _ _ _)); (first | (k_unfold; (try dsimp only)) | (k_end; wrow_close) | walk1 | (dsimp only; walk1)))
      rename Fr _ _ _ _ => F8
      rename News _ _ _ _ => N8
      obtain ⟨rev, hrev, hrl⟩ : ∃ rev : Str, rev = Txt.sliceBy (word (ids size)) none none (-1, _) ∧ rev.cps.toList = (word (ids size)).cps.toList.reverse := ⟨_, rfl, slice_rev _ _⟩
      rw [← hrev]
      have hlv : rev.length = size := by rw [← hlr]; exact (congrArg List.length hrl).trans List.length_reverse
      refine wpAny_call ?_
      k_dflt (refine' kco_code ?k1 ?k2 ?k3 ?k4 ?k5 ?k6 ?_; (case k1 => k_in); (case k2 => k_inst); (case k3 => rfl); (case k4 => k_is); (case k5 => k_is); (case k6 => k_is))
      refine cc_same (outer := []) (call_cc x dx r t1 t2 t3 t4 b _ _ _ _ (by omega) (by omega)) K0 F8 KX TT N8 (by kst_inAny) rfl rfl (by decide) (by decide) (fun _ _ => hxd) ?_
      rintro z h' tk' F9 N9 ⟨dn, tdn, rfl, lcD⟩
      clear F8 N8
      have hld : dn.length ≤ 20 := by have := lcD.1.length_le; have : dn.cps.toList.length = dn.length := rfl; have : (word rs1).cps.toList.length = (word rs1).length := rfl; omega
      dsimp only
      repeat' (first | (fail_if_success (with_reducible show wpAny _ _ (call (Value.ref _) _) _ _ _)); (first | (k_unfold; (try dsimp only)) | (k_end; wrow_close) | walk1 | (dsimp only; walk1)))
      rename Fr _ _ _ _ => F8
      rename News _ _ _ _ => N8
      refine wpAny_call ?_
      refine cc_use (outer := []) (nu := []) (table_cc r1 rs1 (by omega)) K0 F8 KX TT N8 (fun _ _ q => nomatch q) rfl rfl (by decide) (by decide) (pre_list N8 (by k_mem) i1) ?_
      rintro z h' tk' nu' F9 N9 off ⟨lt, tvs, tn, rfl, rfl, htl⟩
      clear F8 N8 off
      simp only [List.cons_append, List.nil_append] at N9
      have hU := law_up p1 hs7 lcU
      have hD := law_down p1 hs7 (hrl ▸ lcD)
      replace hU : up.length = _ := hU
      replace hD : dn.length = _ := hD
      rw [← hD] at htl
      dsimp only
      repeat' (first | (fail_if_success (with_reducible show wpAny _ _ (call (Value.ref _) _) _ _ _)); (first | (k_unfold; (try dsimp only)) | (k_end; wrow_close) | walk1 | (dsimp only; walk1)))
      · rename (_ * _ < _) => hbad
        exfalso
        have := law_es p1 hs7
        rw [← hU, ← hD] at this
        have h2 : ((up.length * dn.length : Nat) : Int) < (size : Int) := by push_cast; exact hbad
        omega
      rename Fr _ _ _ _ => F8
      rename News _ _ _ _ => N8
      refine wpAny_call ?_
      refine cc_same (outer := []) (piles_cc r1 rs1 (by omega)) K0 F8 KX TT N8 (fun _ q => nomatch q) rfl rfl (by decide) (by decide) (pre_list N8 (by k_mem) i1) ?_
      rintro z h' tk' F9 N9 ⟨tp, rfl⟩
      clear F8 N8
      dsimp only
      repeat' (first | (fail_if_success (with_reducible show wpAny _ _ (call (Value.ref _) _) _ _ _)); (first | (k_unfold; (try dsimp only)) | (k_end; wrow_close) | walk1 | (dsimp only; walk1)))
      · exfalso; omega
      · exfalso; omega
      rename Fr _ _ _ _ => F8
      rename News _ _ _ _ => N8
      exact ⟨rfl, size, _, _, _, _, _, _, _, r1, r2, x, dx, rv1, rv2, rs1, rs2, n1, n2, t, tr, tw, t1, t2, t3, t4, tu, tdn, r, b, up, dn, rfl, F8, kst_newsOf N8 (by kst_inAny), rfl, rfl, rfl, rfl, d4, d3, d2, d1, hs1, hs7, i1, i2, p1, p2, e21, g1, g2, l1, l2, l3, lcU, hrl ▸ lcD⟩
    clear hM s'
    intro s' hL
    refine cut1 (Lined w s₁.heap s₁.heap.objs.size s₁) ?_ ?_
    rotate_left
    · obtain ⟨size, m, h, tk, o1, o2, o3, o4, r1, r2, x, dx, rv1, rv2, rs1, rs2, n1, n2, t, tr, tw, t1, t2, t3, t4, tu, tdn, r, b, up, dn, rfl, F, N, hm1, hm2, hm3, hm4, d4, d3, d2, d1, hs1, hs7, i1, i2, p1, p2, e21, g1, g2, l1, l2, l3, lcU, lcD⟩ := hL
      have hb1 : ∀ x ∈ rs1, 0 ≤ x ∧ x ≤ 20 := fun x hx => ids_bound hs7 x (p1.mem_iff.mp hx)
      have hl1 : rs1.length = size := by rw [p1.length_eq, ids_length]
      have hb2 : ∀ x ∈ rs2, 0 ≤ x ∧ x ≤ 20 := fun x hx => ids_bound hs7 x (p2.mem_iff.mp hx)
      have hl2 : rs2.length = size := by rw [p2.length_eq, ids_length]
      have hlw : (word rs1).length = size := by rw [word_length, hl1]
      have hlr : (word (ids size)).length = size := by rw [word_length, ids_length]
      have hxd : @Ne Nat x dx := Nat.ne_of_gt l1
      have hlu : up.length ≤ 20 := by have := lcU.1.length_le; have : up.cps.toList.length = up.length := rfl; have : (word rs1).cps.toList.length = (word rs1).length := rfl; omega
      have hld : dn.length ≤ 20 := by have := lcD.1.length_le; have : dn.cps.toList.length = dn.length := rfl; have : (word rs1).cps.toList.length = (word rs1).length := rfl; omega
      rw [tbl_map hm1, tbl_map hm2, tbl_map hm3, tbl_map hm4] at F
      repeat' (first | (fail_if_success (with_reducible show wpAny _ _ (call (Value.ref _) _) _ _ _)); (first | (k_unfold; (try dsimp only)) | (k_end; wrow_close) | walk1 | (dsimp only; walk1)))
      · rename _ = true => hbad
        rename List.Pairwise _ _ => sO
        rename List.Perm _ up.cps.toList => sP
        have := law_sorted_up lcU sP sO
        exfalso
        simp [← this] at hbad
      · rename _ = true => hbad
        rename List.Pairwise _ _ => sO
        rename List.Perm _ dn.cps.toList => sP
        have := fun t => law_sorted_down lcD sP sO (slice_rev_mk _ t)
        exfalso
        rw [← this] at hbad
        simp at hbad
      rename Fr _ _ _ _ => F8
      rename News _ _ _ _ => N8
      refine wpAny_call ?_
      refine cc_same (outer := []) (dist_cc x dx r t1 t2 t3 t4 b _ _ _ _ (by omega) (by omega)) K0 F8 KX TT N8 (by kst_inAny) rfl rfl (by decide) (by decide) (fun _ _ => hxd) ?_
      rintro z h' tk' F9 N9 ⟨ur, tz, rfl, lcU2⟩
      clear F8 N8
      have hu2 := lcs_unique lcU lcU2
      replace hu2 : up.length = ur.length := hu2
      rw [← hu2, hlw, hlr]
      dsimp only
      repeat' (first | (fail_if_success (with_reducible show wpAny _ _ (call (Value.ref _) _) _ _ _)); (first | (k_unfold; (try dsimp only)) | (k_end; wrow_close) | walk1 | (dsimp only; walk1)))
      · exfalso; rename _ ≠ _ => hbad; omega
      rename Fr _ _ _ _ => F8
      rename News _ _ _ _ => N8
      obtain ⟨rev, hrev, hrl⟩ : ∃ rev : Str, rev = Txt.sliceBy (word (ids size)) none none (-1, _) ∧ rev.cps.toList = (word (ids size)).cps.toList.reverse := ⟨_, rfl, slice_rev _ _⟩
      rw [← hrev]
      have hlv : rev.length = size := by rw [← hlr]; exact (congrArg List.length hrl).trans List.length_reverse
      refine wpAny_call ?_
      refine cc_same (outer := []) (dist_cc x dx r t1 t2 t3 t4 b _ _ _ _ (by omega) (by omega)) K0 F8 KX TT N8 (by kst_inAny) rfl rfl (by decide) (by decide) (fun _ _ => hxd) ?_
      rintro z h' tk' F9 N9 ⟨dr, tz2, rfl, lcD2⟩
      clear F8 N8
      have hd2 := lcs_unique lcD (hrl ▸ lcD2)
      replace hd2 : dn.length = dr.length := hd2
      rw [← hd2, hlw, hlv]
      dsimp only
      repeat' (first | (fail_if_success (with_reducible show wpAny _ _ (call (Value.ref _) _) _ _ _)); (first | (k_unfold; (try dsimp only)) | (k_end; wrow_close) | walk1 | (dsimp only; walk1)))
      · exfalso; rename _ ≠ _ => hbad; omega
      rename Fr _ _ _ _ => F8
      rename News _ _ _ _ => N8
      exact ⟨rfl, size, _, _, _, _, _, _, _, r1, r2, x, dx, rv1, rv2, rs1, rs2, n1, n2, t, tr, tw, t1, t2, t3, t4, tu, tdn, r, b, up, dn, rfl, F8, kst_newsOf N8 (by kst_inAny), rfl, rfl, rfl, rfl, d4, d3, d2, d1, hs1, hs7, i1, i2, p1, p2, e21, g1, g2, l1, l2, l3, lcU, lcD⟩
    clear hL s'
    intro s' hL
    refine cut2 (Lined w s₁.heap s₁.heap.objs.size s₁) ?_ ?_
    rotate_left
    · obtain ⟨size, m, h, tk, o1, o2, o3, o4, r1, r2, x, dx, rv1, rv2, rs1, rs2, n1, n2, t, tr, tw, t1, t2, t3, t4, tu, tdn, r, b, up, dn, rfl, F, N, hm1, hm2, hm3, hm4, d4, d3, d2, d1, hs1, hs7, i1, i2, p1, p2, e21, g1, g2, l1, l2, l3, lcU, lcD⟩ := hL
      have hb1 : ∀ x ∈ rs1, 0 ≤ x ∧ x ≤ 20 := fun x hx => ids_bound hs7 x (p1.mem_iff.mp hx)
      have hl1 : rs1.length = size := by rw [p1.length_eq, ids_length]
      have hb2 : ∀ x ∈ rs2, 0 ≤ x ∧ x ≤ 20 := fun x hx => ids_bound hs7 x (p2.mem_iff.mp hx)
      have hl2 : rs2.length = size := by rw [p2.length_eq, ids_length]
      have hlw : (word rs1).length = size := by rw [word_length, hl1]
      have hlr : (word (ids size)).length = size := by rw [word_length, ids_length]
      have hxd : @Ne Nat x dx := Nat.ne_of_gt l1
      have hlu : up.length ≤ 20 := by have := lcU.1.length_le; have : up.cps.toList.length = up.length := rfl; have : (word rs1).cps.toList.length = (word rs1).length := rfl; omega
      have hld : dn.length ≤ 20 := by have := lcD.1.length_le; have : dn.cps.toList.length = dn.length := rfl; have : (word rs1).cps.toList.length = (word rs1).length := rfl; omega
      rw [tbl_map hm1, tbl_map hm2, tbl_map hm3, tbl_map hm4] at F
      repeat' (first | (fail_if_success (with_reducible show wpAny _ _ (call (Value.ref _) _) _ _ _)); (first | (k_unfold; (try dsimp only)) | (k_end; wrow_close) | walk1 | (dsimp only; walk1)))
      rename Fr _ _ _ _ => F3
      rename News _ _ _ _ => N3
      refine LCt.CompSrcT.ledger rfl F3 N3 (.tail _ (.tail _ (.tail _ (.head _)))) (by rw [List.size_toArray, PySem.sizeLine_eq, i1.length]; omega) ?_
      intro g9
      refine restT_filter rv1 (fun v => match v with | .int a _ => decide (a < (size : Int) - 1) | _ => false) ?_ (.inr ⟨_, .tail _ (.tail _ (.tail _ (.head _))), rfl, _, rfl⟩) ?_ rfl (fun _ => rfl) (by decide)
      · intro v I9 oI9 C9 oC9 D9 oD9 m9 h9 tk9 E9 hv9 hC9 hx9 F9 N9
        obtain ⟨b9, t9, rfl⟩ := i1.all v hv9
        k_steps
      · intro D9 h9 tk9 F9 N9 o9
        clear F3 N3
        have hfi := ints_filter i1 ((size : Int) - 1)
        have hlf := List.length_filter_le (fun a => decide (a < (size : Int) - 1)) rs1
        simp only [LCg.Off1, and_true] at o9
        generalize rv1.filter (fun v => match v with | .int a _ => decide (a < (size : Int) - 1) | _ => false) = vf at *
        repeat' (first | (fail_if_success (with_reducible show wpAny _ _ (call (Value.ref _) _) _ _ _)); (first | (k_unfold; (try dsimp only)) | (k_end; wrow_close) | walk1 | (dsimp only; walk1)))
        rename Fr _ _ _ _ => F8
        rename News _ _ _ _ => N8
        refine wpAny_call ?_
        refine cc_same (outer := []) (piles_cc D9 _ (by omega)) K0 F8 KX TT N8 (fun _ q => nomatch q) rfl rfl (by decide) (by decide) (pre_list N8 (by k_mem) hfi) ?_
        rintro z h' tk' F9 N9 ⟨tp, rfl⟩
        clear F8 N8
        have hpl := piles_length (rs1.filter fun a => decide (a < (size : Int) - 1))
        dsimp only
        repeat' (first | (fail_if_success (with_reducible show wpAny _ _ (call (Value.ref _) _) _ _ _)); (first | (k_unfold; (try dsimp only)) | (k_end; wrow_close) | walk1 | (dsimp only; walk1)))
        rename Fr _ _ _ _ => F8
        rename News _ _ _ _ => N8
        obtain ⟨sh, hsh, hsl⟩ : ∃ sh : Str, sh = Txt.slice (word (ids size)) none (some (-1)) ∧ sh.cps.toList = (word (ids size)).cps.toList.dropLast := ⟨_, rfl, slice_init _⟩
        rw [← hsh]
        have hlv : sh.length = size - 1 := by rw [← hlr]; exact (congrArg List.length hsl).trans (List.length_dropLast ..)
        refine wpAny_call ?_
        refine cc_same (outer := []) (dist_cc x dx r t1 t2 t3 t4 b _ _ _ _ (by omega) (by omega)) K0 F8 KX TT N8 (by kst_inAny) rfl rfl (by decide) (by decide) (fun _ _ => hxd) ?_
        rintro z h' tk' F9 N9 ⟨fr, tz2, rfl, lcF⟩
        clear F8 N8
        have hf2 := law_fewer p1 hs1 (hsl ▸ lcF)
        rw [hf2, hlw, hlv, show max size (size - 1) = size by omega]
        dsimp only
        repeat' (first | (fail_if_success (with_reducible show wpAny _ _ (call (Value.ref _) _) _ _ _)); (first | (k_unfold; (try dsimp only)) | (k_end; wrow_close) | walk1 | (dsimp only; walk1)))
        · exfalso; rename _ ≠ _ => hbad; omega
        rename Fr _ _ _ _ => F8
        rename News _ _ _ _ => N8
        clear hsl hlv
        obtain ⟨sh, hsh, hsl⟩ : ∃ sh : Str, sh = Txt.slice (word (ids size)) none (some (-1)) ∧ sh.cps.toList = (word (ids size)).cps.toList.dropLast := ⟨_, rfl, slice_init _⟩
        rw [← hsh]
        have hlv : sh.length = size - 1 := by rw [← hlr]; exact (congrArg List.length hsl).trans (List.length_dropLast ..)
        refine wpAny_call ?_
        refine cc_same (outer := []) (dist_cc x dx r t1 t2 t3 t4 b _ _ _ _ (by omega) (by omega)) K0 F8 KX TT N8 (by kst_inAny) rfl rfl (by decide) (by decide) (fun _ _ => hxd) ?_
        rintro z h' tk' F9 N9 ⟨fr, tz2, rfl, lcF⟩
        clear F8 N8
        have hf2 := law_fewer p1 hs1 (hsl ▸ lcs_symm lcF)
        rw [hf2, hlv, hlw, show max (size - 1) size = size by omega]
        dsimp only
        repeat' (first | (fail_if_success (with_reducible show wpAny _ _ (call (Value.ref _) _) _ _ _)); (first | (k_unfold; (try dsimp only)) | (k_end; wrow_close) | walk1 | (dsimp only; walk1)))
        · exfalso; rename _ ≠ _ => hbad; omega
        rename Fr _ _ _ _ => F8
        rename News _ _ _ _ => N8
        exact ⟨rfl, size, _, _, _, _, _, _, _, r1, r2, x, dx, rv1, rv2, rs1, rs2, n1, n2, t, tr, tw, t1, t2, t3, t4, tu, tdn, r, b, up, dn, rfl, F8, kst_newsOf N8 (by kst_inAny), rfl, rfl, rfl, rfl, d4, d3, d2, d1, hs1, hs7, i1, i2, p1, p2, e21, g1, g2, l1, l2, l3, lcU, lcD⟩
    clear hL s'
    intro s' hL
    refine cut1 (Lined w s₁.heap s₁.heap.objs.size s₁) ?_ ?_
    rotate_left
    · obtain ⟨size, m, h, tk, o1, o2, o3, o4, r1, r2, x, dx, rv1, rv2, rs1, rs2, n1, n2, t, tr, tw, t1, t2, t3, t4, tu, tdn, r, b, up, dn, rfl, F, N, hm1, hm2, hm3, hm4, d4, d3, d2, d1, hs1, hs7, i1, i2, p1, p2, e21, g1, g2, l1, l2, l3, lcU, lcD⟩ := hL
      have hb1 : ∀ x ∈ rs1, 0 ≤ x ∧ x ≤ 20 := fun x hx => ids_bound hs7 x (p1.mem_iff.mp hx)
      have hl1 : rs1.length = size := by rw [p1.length_eq, ids_length]
      have hb2 : ∀ x ∈ rs2, 0 ≤ x ∧ x ≤ 20 := fun x hx => ids_bound hs7 x (p2.mem_iff.mp hx)
      have hl2 : rs2.length = size := by rw [p2.length_eq, ids_length]
      have hlw : (word rs1).length = size := by rw [word_length, hl1]
      have hlr : (word (ids size)).length = size := by rw [word_length, ids_length]
      have hxd : @Ne Nat x dx := Nat.ne_of_gt l1
      have hlu : up.length ≤ 20 := by have := lcU.1.length_le; have : up.cps.toList.length = up.length := rfl; have : (word rs1).cps.toList.length = (word rs1).length := rfl; omega
      have hld : dn.length ≤ 20 := by have := lcD.1.length_le; have : dn.cps.toList.length = dn.length := rfl; have : (word rs1).cps.toList.length = (word rs1).length := rfl; omega
      rw [tbl_map hm1, tbl_map hm2, tbl_map hm3, tbl_map hm4] at F
      repeat' (first | (fail_if_success (with_reducible show wpAny _ _ (call (Value.ref _) _) _ _ _)); (first | (k_unfold; (try dsimp only)) | (k_end; wrow_close) | walk1 | (dsimp only; walk1)))
      rename Fr _ _ _ _ => F3
      rename News _ _ _ _ => N3
      refine ⟨up, _, _, rfl, rfl, F3, N3, by rw [PySem.sizeLine_eq]; have : up.cps.size = up.length := rfl; omega, ?_⟩
      rintro _ ⟨g9, rfl⟩
      refine restU_map up.cps.size (SignAt up) (IdxRel (word rs1) up) ?_ trivial ?_
      · intro i v I oI C oC D oD m₂ h tk E' hin hv hC hx F N off ne
        obtain ⟨c, u, hc, rfl⟩ := hv
        have hc' : up.cps.toList[i]? = some c := by simpa using hc
        have hmem : c ∈ (word rs1).cps.toList := lcU.1.subset (List.mem_of_getElem? hc')
        k_steps
        · exact ⟨_, _, _, hc', rfl, by assumption⟩
        · exact F
        · exact N
      · intro ys hys hrel D9 h9 tk9 F9 N9 o9
        clear F3 N3
        obtain ⟨ps, hpi, hpm⟩ := idx_ints hys hrel
        have hpr := places_rise (word_nodup p1) lcU.1 hpm
        have hpw : (ps.map Int.ofNat).Pairwise (· ≤ ·) := hpr.imp fun h => Int.le_of_lt h
        have hnd : (ps.map Int.ofNat).Nodup := hpr.imp fun h => Int.ne_of_lt h
        have hpl : (ps.map Int.ofNat).length ≤ 20 := by have h1 := hpi.length; have h2 : up.cps.size = up.length := rfl; omega
        generalize ps.map Int.ofNat = qs at *
        clear hpm hrel hpr
        repeat' (first | (fail_if_success (with_reducible show wpAny _ _ (call (Value.ref _) _) _ _ _)); (first | (k_unfold; (try dsimp only)) | (k_end; wrow_close) | walk1 | (dsimp only; walk1)))
        · exfalso; rename ((_ : Int) ≠ _) => hbad; exact hbad rfl
        repeat' (first | (fail_if_success (with_reducible show wpAny _ _ (call (Value.ref _) _) _ _ _)); (first | (k_unfold; (try dsimp only)) | (k_end; wrow_close) | walk1 | (dsimp only; walk1)))
        rename Fr _ _ _ _ => F3
        rename News _ _ _ _ => N3
        refine ⟨dn, _, _, rfl, rfl, F3, N3, by rw [PySem.sizeLine_eq]; have : dn.cps.size = dn.length := rfl; omega, ?_⟩
        rintro _ ⟨g9, rfl⟩
        refine restU_map dn.cps.size (SignAt dn) (IdxRel (word rs1) dn) ?_ trivial ?_
        · intro i v I oI C oC D oD m₂ h tk E' hin hv hC hx F N off ne
          obtain ⟨c, u, hc, rfl⟩ := hv
          have hc' : dn.cps.toList[i]? = some c := by simpa using hc
          have hmem : c ∈ (word rs1).cps.toList := lcD.1.subset (List.mem_of_getElem? hc')
          k_steps
          · exact ⟨_, _, _, hc', rfl, by assumption⟩
          · exact F
          · exact N
        · intro ys hys hrel D9 h9 tk9 F9 N9 o9
          clear F3 N3
          obtain ⟨ps, hpi, hpm⟩ := idx_ints hys hrel
          have hpr := places_rise (word_nodup p1) lcD.1 hpm
          have hpw : (ps.map Int.ofNat).Pairwise (· ≤ ·) := hpr.imp fun h => Int.le_of_lt h
          have hnd : (ps.map Int.ofNat).Nodup := hpr.imp fun h => Int.ne_of_lt h
          have hpl : (ps.map Int.ofNat).length ≤ 20 := by have h1 := hpi.length; have h2 : dn.cps.size = dn.length := rfl; omega
          generalize ps.map Int.ofNat = qs at *
          clear hpm hrel hpr
          repeat' (first | (fail_if_success (with_reducible show wpAny _ _ (call (Value.ref _) _) _ _ _)); (first | (k_unfold; (try dsimp only)) | (k_end; wrow_close) | walk1 | (dsimp only; walk1)))
          · exfalso; rename ((_ : Int) ≠ _) => hbad; exact hbad rfl
          rename Fr _ _ _ _ => F8
          rename News _ _ _ _ => N8
          exact ⟨rfl, size, _, _, _, _, _, _, _, r1, r2, x, dx, rv1, rv2, rs1, rs2, n1, n2, t, tr, tw, t1, t2, t3, t4, tu, tdn, r, b, up, dn, rfl, F8, kst_newsOf N8 (by kst_inAny), rfl, rfl, rfl, rfl, d4, d3, d2, d1, hs1, hs7, i1, i2, p1, p2, e21, g1, g2, l1, l2, l3, lcU, lcD⟩
    clear hL s'
    intro s' hL
    refine cut2 (Lined w s₁.heap s₁.heap.objs.size s₁) ?_ ?_
    rotate_left
    · obtain ⟨size, m, h, tk, o1, o2, o3, o4, r1, r2, x, dx, rv1, rv2, rs1, rs2, n1, n2, t, tr, tw, t1, t2, t3, t4, tu, tdn, r, b, up, dn, rfl, F, N, hm1, hm2, hm3, hm4, d4, d3, d2, d1, hs1, hs7, i1, i2, p1, p2, e21, g1, g2, l1, l2, l3, lcU, lcD⟩ := hL
      have hb1 : ∀ x ∈ rs1, 0 ≤ x ∧ x ≤ 20 := fun x hx => ids_bound hs7 x (p1.mem_iff.mp hx)
      have hl1 : rs1.length = size := by rw [p1.length_eq, ids_length]
      have hb2 : ∀ x ∈ rs2, 0 ≤ x ∧ x ≤ 20 := fun x hx => ids_bound hs7 x (p2.mem_iff.mp hx)
      have hl2 : rs2.length = size := by rw [p2.length_eq, ids_length]
      have hlw : (word rs1).length = size := by rw [word_length, hl1]
      have hlr : (word (ids size)).length = size := by rw [word_length, ids_length]
      have hxd : @Ne Nat x dx := Nat.ne_of_gt l1
      have hlu : up.length ≤ 20 := by have := lcU.1.length_le; have : up.cps.toList.length = up.length := rfl; have : (word rs1).cps.toList.length = (word rs1).length := rfl; omega
      have hld : dn.length ≤ 20 := by have := lcD.1.length_le; have : dn.cps.toList.length = dn.length := rfl; have : (word rs1).cps.toList.length = (word rs1).length := rfl; omega
      rw [tbl_map hm1, tbl_map hm2, tbl_map hm3, tbl_map hm4] at F
      repeat' (first | (fail_if_success (first | (with_reducible show wpAny _ _ (call (Value.ref _) _) _ _ _) | (with_reducible show LCg.CompSrc _ _ _ _ _ _ _ _ _ _ _ _ _ _))); (first | (k_unfold; (try dsimp only)) | (k_end; wrow_close) | walk1 | (dsimp only; walk1)))
      rename Fr _ _ _ _ => F₁
      rename News _ _ _ _ => N₁
      rename IsRange _ _ _ _ _ _ _ _ => rgX
      refine LCg.CompSrc.range (n := size) rfl F₁ N₁ rgX (small_one (by omega) (by omega) (by omega) (by omega)) (rangeSize_nat _ _) (by rw [PySem.sizeLine_eq]; omega) ?_
      intro g9
      refine restU_map size _ (IntRel ((ids size).map (placeIn rs1))) ?_ trivial ?_
      · intro i v I oI C oC D oD m₂ h tk E' hin hv hC hx F N off ne
        obtain ⟨t, rfl⟩ := hv
        have hn : (ids size)[i]? = some (0 + (i : Int)) := by simp [ids, hin]
        generalize hk : (0 + (i : Int)) = k at *
        have hmem : k ∈ rs1 := p1.mem_iff.mpr (List.mem_of_getElem? hn)
        have hlay := lay_perm p1 hs7
        k_steps
        · exact ⟨_, _, by rw [List.getElem?_map, hn]; rfl, rfl⟩
        · exact F
        · exact N
      · intro ys hys hrel D9 h9 tk9 F9 N9 o9
        clear F₁ N₁
        have hpi := ints_of_rel (by rw [List.length_map, ids_length]; exact hys) hrel
        have hpb := place_bound p1 hs7 (B := ids size) fun _ h => h
        have hpl : ((ids size).map (placeIn rs1)).length = size := by rw [List.length_map, ids_length]
        obtain ⟨qs, hqs⟩ : ∃ qs, qs = (ids size).map (placeIn rs1) := ⟨_, rfl⟩
        rw [← hqs] at hpi hpb hpl
        clear hrel
        have hlq : (word qs).length = size := by rw [word_length, hpl]
        repeat' (first | (fail_if_success (with_reducible show wpAny _ _ (call (Value.ref _) _) _ _ _)); (first | (k_unfold; (try dsimp only)) | (k_end; wrow_close) | walk1 | (dsimp only; walk1)))
        rename Fr _ _ _ _ => F8
        rename News _ _ _ _ => N8
        refine wpAny_call ?_
        refine cc_same (outer := []) (letters_cc D9 qs (by omega) hpb) K0 F8 KX TT N8 (fun _ q => nomatch q) rfl rfl (by decide) (by decide) (pre_list N8 (by k_mem) hpi) ?_
        rintro z h' tk' F9 N9 ⟨tq, rfl⟩
        clear F8 N8
        dsimp only
        repeat' (first | (fail_if_success (with_reducible show wpAny _ _ (call (Value.ref _) _) _ _ _)); (first | (k_unfold; (try dsimp only)) | (k_end; wrow_close) | walk1 | (dsimp only; walk1)))
        rename Fr _ _ _ _ => F8
        rename News _ _ _ _ => N8
        refine wpAny_call ?_
        refine cc_same (outer := []) (sim_cc x dx r t1 t2 t3 t4 b _ _ _ _ (by omega) (by omega)) K0 F8 KX TT N8 (by kst_inAny) rfl rfl (by decide) (by decide) (fun _ _ => hxd) ?_
        rintro z h' tk' F9 N9 ⟨ur, tz, rfl, lcU2⟩
        clear F8 N8
        have hu2 := law_inv_up p1 lcU (hqs ▸ lcU2)
        replace hu2 : ur.length = up.length := hu2
        rw [hu2]
        dsimp only
        repeat' (first | (fail_if_success (with_reducible show wpAny _ _ (call (Value.ref _) _) _ _ _)); (first | (k_unfold; (try dsimp only)) | (k_end; wrow_close) | walk1 | (dsimp only; walk1)))
        · exfalso; rename _ ≠ _ => hbad; omega
        rename Fr _ _ _ _ => F8
        rename News _ _ _ _ => N8
        obtain ⟨rev, hrev, hrl⟩ : ∃ rev : Str, rev = Txt.sliceBy (word (ids size)) none none (-1, _) ∧ rev.cps.toList = (word (ids size)).cps.toList.reverse := ⟨_, rfl, slice_rev _ _⟩
        rw [← hrev]
        have hlv : rev.length = size := by rw [← hlr]; exact (congrArg List.length hrl).trans List.length_reverse
        refine wpAny_call ?_
        refine cc_same (outer := []) (sim_cc x dx r t1 t2 t3 t4 b _ _ _ _ (by omega) (by omega)) K0 F8 KX TT N8 (by kst_inAny) rfl rfl (by decide) (by decide) (fun _ _ => hxd) ?_
        rintro z h' tk' F9 N9 ⟨dr, tz2, rfl, lcD2⟩
        clear F8 N8
        have hd2 := law_inv_down p1 lcD (hqs ▸ hrl ▸ lcD2)
        replace hd2 : dr.length = dn.length := hd2
        rw [hd2]
        dsimp only
        repeat' (first | (fail_if_success (with_reducible show wpAny _ _ (call (Value.ref _) _) _ _ _)); (first | (k_unfold; (try dsimp only)) | (k_end; wrow_close) | walk1 | (dsimp only; walk1)))
        · exfalso; rename _ ≠ _ => hbad; omega
        rename Fr _ _ _ _ => F8
        rename News _ _ _ _ => N8
        exact ⟨rfl, size, _, _, _, _, _, _, _, r1, r2, x, dx, rv1, rv2, rs1, rs2, n1, n2, t, tr, tw, t1, t2, t3, t4, tu, tdn, r, b, up, dn, rfl, F8, kst_newsOf N8 (by kst_inAny), rfl, rfl, rfl, rfl, d4, d3, d2, d1, hs1, hs7, i1, i2, p1, p2, e21, g1, g2, l1, l2, l3, lcU, lcD⟩
    clear hL s'
    rintro s' ⟨size, m, h, tk, o1, o2, o3, o4, r1, r2, x, dx, rv1, rv2, rs1, rs2, n1, n2, t, tr, tw, t1, t2, t3, t4, tu, tdn, r, b, up, dn, rfl, F, N, hm1, hm2, hm3, hm4, d4, d3, d2, d1, hs1, hs7, i1, i2, p1, p2, e21, g1, g2, l1, l2, l3, lcU, lcD⟩
    have hb1 : ∀ x ∈ rs1, 0 ≤ x ∧ x ≤ 20 := fun x hx => ids_bound hs7 x (p1.mem_iff.mp hx)
    have hl1 : rs1.length = size := by rw [p1.length_eq, ids_length]
    have hb2 : ∀ x ∈ rs2, 0 ≤ x ∧ x ≤ 20 := fun x hx => ids_bound hs7 x (p2.mem_iff.mp hx)
    have hl2 : rs2.length = size := by rw [p2.length_eq, ids_length]
    have hlw : (word rs1).length = size := by rw [word_length, hl1]
    have hlr : (word (ids size)).length = size := by rw [word_length, ids_length]
    have hxd : @Ne Nat x dx := Nat.ne_of_gt l1
    have hlu : up.length ≤ 20 := by have := lcU.1.length_le; have : up.cps.toList.length = up.length := rfl; have : (word rs1).cps.toList.length = (word rs1).length := rfl; omega
    have hld : dn.length ≤ 20 := by have := lcD.1.length_le; have : dn.cps.toList.length = dn.length := rfl; have : (word rs1).cps.toList.length = (word rs1).length := rfl; omega
    rw [tbl_map hm1, tbl_map hm2, tbl_map hm3, tbl_map hm4] at F
    repeat' (first | (fail_if_success (first | (with_reducible show wpAny _ _ (call (Value.ref _) _) _ _ _) | (with_reducible show LCg.CompSrc _ _ _ _ _ _ _ _ _ _ _ _ _ _))); (first | (k_unfold; (try dsimp only)) | (k_end; wrow_close) | walk1 | (dsimp only; walk1)))
    rename Fr _ _ _ _ => F₁
    rename News _ _ _ _ => N₁
    refine LCg.CompSrc.ledger rfl F₁ N₁ (.tail _ (.tail _ (.tail _ (.head _)))) (by rw [List.size_toArray, PySem.sizeLine_eq, i1.length]; omega) ?_
    intro g9
    refine restU_map rv1.toArray.size _ (IntRel (rs1.map (placeIn rs2))) ?_ (.inr ⟨_, .tail _ (.tail _ (.tail _ (.head _))), rfl, _, rfl⟩) ?_
    · intro i v I oI C oC D oD m₂ h tk E' hin hv hC hx F N off ne
      obtain ⟨k, t, rfl, hn⟩ := i1.at i v (by simpa using hv)
      have hmem : k ∈ rs2 := p2.mem_iff.mpr (p1.mem_iff.mp (List.mem_of_getElem? hn))
      have hlay := lay_perm p2 hs7
      k_steps
      · exact ⟨_, _, by rw [List.getElem?_map, hn]; rfl, rfl⟩
      · exact F
      · exact N
    · intro ys hys hrel D9 h9 tk9 F9 N9 o9
      clear F₁ N₁
      have hpi := ints_of_rel (by rw [List.length_map, hys, List.size_toArray, i1.length]) hrel
      have hpl : (rs1.map (placeIn rs2)).length = size := by rw [List.length_map, hl1]
      obtain ⟨qs, hqs⟩ : ∃ qs, qs = rs1.map (placeIn rs2) := ⟨_, rfl⟩
      rw [← hqs] at hpi hpl
      clear hrel
      have hlz : (word rs2).length = size := by rw [word_length, hl2]
      repeat' (first | (fail_if_success (with_reducible show wpAny _ _ (call (Value.ref _) _) _ _ _)); (first | (k_unfold; (try dsimp only)) | (k_end; wrow_close) | walk1 | (dsimp only; walk1)))
      rename Fr _ _ _ _ => F8
      rename News _ _ _ _ => N8
      refine wpAny_call ?_
      refine cc_same (outer := []) (piles_cc D9 qs (by omega)) K0 F8 KX TT N8 (fun _ q => nomatch q) rfl rfl (by decide) (by decide) (pre_list N8 (by k_mem) hpi) ?_
      rintro z h' tk' F9 N9 ⟨tp, rfl⟩
      clear F8 N8
      have hpq := piles_length qs
      dsimp only
      repeat' (first | (fail_if_success (with_reducible show wpAny _ _ (call (Value.ref _) _) _ _ _)); (first | (k_unfold; (try dsimp only)) | (k_end; wrow_close) | walk1 | (dsimp only; walk1)))
      rename Fr _ _ _ _ => F8
      rename News _ _ _ _ => N8
      refine wpAny_call ?_
      refine cc_same (outer := []) (letters_cc r2 rs2 (by omega) hb2) K0 F8 KX TT N8 (fun _ q => nomatch q) rfl rfl (by decide) (by decide) (pre_list N8 (by k_mem) i2) ?_
      rintro z h' tk' F9 N9 ⟨tq, rfl⟩
      clear F8 N8
      dsimp only
      repeat' (first | (fail_if_success (with_reducible show wpAny _ _ (call (Value.ref _) _) _ _ _)); (first | (k_unfold; (try dsimp only)) | (k_end; wrow_close) | walk1 | (dsimp only; walk1)))
      rename Fr _ _ _ _ => F8
      rename News _ _ _ _ => N8
      refine wpAny_call ?_
      refine cc_same (outer := []) (sim_cc x dx r t1 t2 t3 t4 b _ _ _ _ (by omega) (by omega)) K0 F8 KX TT N8 (by kst_inAny) rfl rfl (by decide) (by decide) (fun _ _ => hxd) ?_
      rintro z h' tk' F9 N9 ⟨ur, tz, rfl, lcU2⟩
      clear F8 N8
      have hu2 := law_two p1 p2 lcU2
      rw [← hqs] at hu2
      rw [hu2]
      dsimp only
      repeat' (first | (fail_if_success (with_reducible show wpAny _ _ (call (Value.ref _) _) _ _ _)); (first | (k_unfold; (try dsimp only)) | (k_end; wrow_close) | walk1 | (dsimp only; walk1)))
      rotate_left
      · exfalso; rename ((_ : Int) ≠ _) => hbad; exact hbad rfl
      clear hu2 lcU2
      rename Fr _ _ _ _ => F8
      rename News _ _ _ _ => N8
      refine wpAny_call ?_
      refine cc_same (outer := []) (letters_cc r2 rs2 (by omega) hb2) K0 F8 KX TT N8 (fun _ q => nomatch q) rfl rfl (by decide) (by decide) (pre_list N8 (by k_mem) i2) ?_
      rintro z h' tk' F9 N9 ⟨tq, rfl⟩
      clear F8 N8
      dsimp only
      repeat' (first | (fail_if_success (with_reducible show wpAny _ _ (call (Value.ref _) _) _ _ _)); (first | (k_unfold; (try dsimp only)) | (k_end; wrow_close) | walk1 | (dsimp only; walk1)))
      rename Fr _ _ _ _ => F8
      rename News _ _ _ _ => N8
      refine wpAny_call ?_
      refine cc_same (outer := []) (sim_cc x dx r t1 t2 t3 t4 b _ _ _ _ (by omega) (by omega)) K0 F8 KX TT N8 (by kst_inAny) rfl rfl (by decide) (by decide) (fun _ _ => hxd) ?_
      rintro z h' tk' F9 N9 ⟨ur, tz, rfl, lcU2⟩
      clear F8 N8
      have hu2 := law_two p1 p2 (lcs_symm lcU2)
      rw [← hqs] at hu2
      rw [hu2]
      dsimp only
      repeat' (first | (fail_if_success (with_reducible show wpAny _ _ (call (Value.ref _) _) _ _ _)); (first | (k_unfold; (try dsimp only)) | (k_end; wrow_close) | walk1 | (dsimp only; walk1)))
      clear hu2 lcU2
      rename Fr _ _ _ _ => F8
      rename News _ _ _ _ => N8
      refine wpAny_call ?_
      refine cc_same (outer := []) (letters_cc r2 rs2 (by omega) hb2) K0 F8 KX TT N8 (fun _ q => nomatch q) rfl rfl (by decide) (by decide) (pre_list N8 (by k_mem) i2) ?_
      rintro z h' tk' F9 N9 ⟨tq, rfl⟩
      clear F8 N8
      dsimp only
      repeat' (first | (fail_if_success (with_reducible show wpAny _ _ (call (Value.ref _) _) _ _ _)); (first | (k_unfold; (try dsimp only)) | (k_end; wrow_close) | walk1 | (dsimp only; walk1)))
      rename Fr _ _ _ _ => F8
      rename News _ _ _ _ => N8
      refine wpAny_call ?_
      refine cc_same (outer := []) (dist_cc x dx r t1 t2 t3 t4 b _ _ _ _ (by omega) (by omega)) K0 F8 KX TT N8 (by kst_inAny) rfl rfl (by decide) (by decide) (fun _ _ => hxd) ?_
      rintro z h' tk' F9 N9 ⟨ur, tz, rfl, lcU2⟩
      clear F8 N8
      have hu2 := law_two p1 p2 lcU2
      rw [← hqs] at hu2
      rw [hu2, hlw, hlz, Nat.max_self]
      dsimp only
      repeat' (first | (fail_if_success (with_reducible show wpAny _ _ (call (Value.ref _) _) _ _ _)); (first | (k_unfold; (try dsimp only)) | (k_end; wrow_close) | walk1 | (dsimp only; walk1))))
end Mine
end

theorem PySem.Challenge.cw_ag5023_01_holds : PySem.Challenge.rw_ag5023_01.Holds := by
  exact Mine.law_holds
