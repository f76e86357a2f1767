import PyProof.Rows.All
import Wide.All
import OpenK.AllK
import Wide.FinOn
import PySem.Challenge.RW_oy0059_01
set_option Elab.async false

-- Hd
section
open PySem PySem.W PyProof.Rows
namespace Mine
set_option maxRecDepth 100000 in
set_option maxHeartbeats 8000000 in
open_top hd for PySem.Challenge.rw_oy0059_01
end Mine

end

-- Base
section
open PySem PySem.W PySem.Calls PyProof.Rows
set_option maxRecDepth 100000
namespace Mine
/-- the surroundings of a call: depth, units, guards, frames -/
def At (dp un : Nat) (gd : Option (List Code)) (fr : List Env) : Around := { handled := none, depth := dp, frames := some fr, guards := gd, units := un }
theorem depth_At (dp un : Nat) (gd : Option (List Code)) (fr : List Env) : (At dp un gd fr).depth = dp := rfl

section
variable {prog : Program} {w : World} {A : Around} {s : Shared} {K : Frag} {mg mb : Str → Option Value} {p : Program} {loose : List Str} {mean : ExcName → Option Value}
theorem enterQ {R : Result → Shared → Prop} {name qual : Str} {params : Arguments} {body : List Stmt} {scope : Scope} {dV kV doc pm cdv ct oc : Value} {an od : Option Addr} {osl : Array (Option Value)} {f : Addr} {args : Args} {binds : List (Str × Value)}
    (X : K.In s.heap) (T : Top p loose mean mg mb s.heap)
    (ho : K.lookup f = some ⟨oc, od, .func (fnOf name qual params body scope dV kV doc pm an cdv ct), osl⟩) (hcd : codeIn K cdv qual = true) (hroom : A.depth < recursionLimit)
    (hbind : BindsTo s (fnOf name qual params body scope dV kV doc pm an cdv ct) args binds) (hloc : ∀ y ∈ binds, scope.names.lookup y.1 = some .local)
    (h : ∀ L' h₁, Fr s.heap L' h₁ (fun y => binds.reverse.lookup y) → News s.heap L' h₁ [] →
      wpAny (model prog w) (A.deeper (envOf qual scope L' f cdv)) (execs body (envOf qual scope L' f cdv))
        (fun fl s' => R (.ok (.ret (match fl with | .ret v => v | _ => .none))) s') (fun _ _ => False)
        { s with heap := h₁, toks := s.toks + binds.length })
    (hco : scope.isCoroutine = false) (hgen : scope.isGenerator = false) (hk : scope.kind = .function)
    (hcell : ∀ x ∈ scope.names, x.2 ≠ .cell) : codeAny (model prog w) A (.call (.ref f) args) R s := by
  refine codeAny_call_def (fd := fnOf name qual params body scope dV kV doc pm an cdv ct) (body := body) (binds := binds) hroom (X _ _ ho) rfl T.nolimit (codeRec_of X hcd) rfl hbind hcell hloc (fun h₁ hns hk₁ => ?_) hco hgen hk
  exact wpAny_mono (h _ h₁ ⟨hns, hk₁, Nat.le_refl _⟩ News.nil) (fun _ _ x => x) (fun _ _ x => x.elim)

/-- enterQ with the tokens forgotten but for their least -/
theorem enterT {R : Result → Shared → Prop} {name qual : Str} {params : Arguments} {body : List Stmt} {scope : Scope} {dV kV doc pm cdv ct oc : Value} {an od : Option Addr} {osl : Array (Option Value)} {f : Addr} {args : Args} {binds : List (Str × Value)}
    (X : K.In s.heap) (T : Top p loose mean mg mb s.heap)
    (ho : K.lookup f = some ⟨oc, od, .func (fnOf name qual params body scope dV kV doc pm an cdv ct), osl⟩) (hcd : codeIn K cdv qual = true) (hroom : A.depth < recursionLimit)
    (hbind : BindsTo s (fnOf name qual params body scope dV kV doc pm an cdv ct) args binds) (hloc : ∀ y ∈ binds, scope.names.lookup y.1 = some .local)
    (h : ∀ L' h₁ tk, s.toks ≤ tk → Fr s.heap L' h₁ (fun y => binds.reverse.lookup y) → News s.heap L' h₁ [] →
      wpAny (model prog w) (A.deeper (envOf qual scope L' f cdv)) (execs body (envOf qual scope L' f cdv))
        (fun fl s' => R (.ok (.ret (match fl with | .ret v => v | _ => .none))) s') (fun _ _ => False)
        { s with heap := h₁, toks := tk })
    (hco : scope.isCoroutine = false) (hgen : scope.isGenerator = false) (hk : scope.kind = .function)
    (hcell : ∀ x ∈ scope.names, x.2 ≠ .cell) : codeAny (model prog w) A (.call (.ref f) args) R s :=
  enterQ X T ho hcd hroom hbind hloc (fun L' h₁ F N => h L' h₁ _ (Nat.le_add_right _ _) F N) hco hgen hk hcell

theorem enterQC {R : Result → Shared → Prop} {name qual : Str} {params : Arguments} {body : List Stmt} {scope : Scope} {dV kV doc pm cdv ct oc : Value} {an od : Option Addr} {osl : Array (Option Value)} {f : Addr} {args : Args} {binds : List (Str × Value)}
    (X : K.In s.heap) (T : Top p loose mean mg mb s.heap)
    (ho : K.lookup f = some ⟨oc, od, .func (fnOf name qual params body scope dV kV doc pm an cdv ct), osl⟩) (hcd : codeIn K cdv qual = true) (hroom : A.depth < recursionLimit)
    (hbind : BindsTo s (fnOf name qual params body scope dV kV doc pm an cdv ct) args binds) (hkind : (binds.all fun y => scope.names.lookup y.1 == some .local || scope.names.lookup y.1 == some .cell) = true)
    (hnd : ((cellsFrom 0 scope.names []).map (·.1)).Nodup)
    (h : ∀ L' h₁ tk cells, Fr s.heap L' h₁ (bindL (envOfC qual scope L' f cdv).kindOf binds fun _ => none) → News s.heap L' h₁ (cells ++ []) →
      CellsAre (bindC (envOfC qual scope L' f cdv).kindOf binds fun _ => none) (cellsFrom (L' + 1) scope.names []) cells →
      wpAny (model prog w) (A.deeper (envOfC qual scope L' f cdv)) (execs body (envOfC qual scope L' f cdv))
        (fun fl s' => R (.ok (.ret (match fl with | .ret v => v | _ => .none))) s') (fun _ _ => False)
        { s with heap := h₁, toks := tk })
    (hco : scope.isCoroutine = false) (hgen : scope.isGenerator = false) (hk : scope.kind = .function) : codeAny (model prog w) A (.call (.ref f) args) R s := by
  refine codeAny_call_function hroom (X _ _ ho) rfl hco hgen rfl (codeRec_of X hcd) (hbind _ _ _ _ ?_)
  refine wpAny_newFunctionEnv_cells hk (kindsX hkind _) fun env' he s' x => ?_
  subst he
  refine ⟨T.nolimit.keeps x.toInCall.keep, codeAny_func ?_⟩
  obtain ⟨h₁, tk, rfl, _⟩ := x.done
  have hk₁ := x.toInCall.keep
  obtain ⟨cells, NC, Y⟩ := Cl.news (h₀ := s.heap) (Nat.le_refl _) fun n c hm => ⟨x.cell n c (lookup_of_mem_nodup (cellsFrom_names scope.names 0 (s.heap.objs.size + 1) [] [] rfl ▸ hnd) hm), x.above n c hm⟩
  refine wpAny_mono (h s.heap.objs.size h₁ tk cells ⟨x.toInCall.ns, hk₁, Nat.le_refl _⟩ (fun p hp => ?_) Y) (fun _ _ x => x) (fun _ _ x => x.elim)
  rw [List.append_nil] at hp
  exact NC p hp
end
end Mine

end

-- Loops
section
open PySem PySem.W PySem.Calls PyProof.Rows
set_option maxRecDepth 100000
namespace Mine
section
variable {prog : Program} {w : World} {A : Around} {s : Shared} {env : Env} {h₀ : Heap} {target : Expr} {body orelse : List Stmt}

def TEnd (h₀ : Heap) (L : Addr) (s : Shared) (wr : List Addr) (its : List (Addr × Obj)) (Jn : (Str → Option Value) → List (Addr × Obj) → Prop) (s' : Shared) : Prop :=
  ∃ h' tk' m' news', s' = { s with heap := h', toks := tk' } ∧ Fr h₀ L h' m' ∧ News h₀ L h' (its ++ news') ∧ (∀ p ∈ news', p.1 ∉ wr) ∧ Jn m' news'
def TPost (h₀ : Heap) (L : Addr) (s : Shared) (wr : List Addr) (its : List (Addr × Obj)) (Jn : (Str → Option Value) → List (Addr × Obj) → Prop) (Qr : Flow → Shared → Prop) (f : Flow) (s' : Shared) : Prop :=
  match f with
  | .ret v => Qr (.ret v) s'
  | .brk => Qr .next s'
  | _ => TEnd h₀ L s wr its Jn s'
theorem TPost.brk {L : Addr} {wr : List Addr} {its : List (Addr × Obj)} {Jn : (Str → Option Value) → List (Addr × Obj) → Prop} {Qr : Flow → Shared → Prop} {s' : Shared} (h : Qr .next s') : TPost h₀ L s wr its Jn Qr .brk s' := h
theorem TPost.next {L : Addr} {wr : List Addr} {its : List (Addr × Obj)} {Jn : (Str → Option Value) → List (Addr × Obj) → Prop} {Qr : Flow → Shared → Prop} {h' : Heap} {tk' : Nat} {m' : Str → Option Value} {all : List (Addr × Obj)}
    (F : Fr h₀ L h' m') (N : News h₀ L h' all) (news' : List (Addr × Obj)) (sub : ∀ p ∈ its ++ news', p ∈ all) (off : ∀ p ∈ news', p.1 ∉ wr) (j : Jn m' news') :
    TPost h₀ L s wr its Jn Qr .next { s with heap := h', toks := tk' } := ⟨h', tk', m', news', rfl, F, fun p hp => N p (sub p hp), off, j⟩

theorem off_nil {wr : List Addr} : ∀ p ∈ ([] : List (Addr × Obj)), p.1 ∉ wr := fun _ h => nomatch h
theorem off_cons1 {I a : Nat} {o : Obj} {r : List (Addr × Obj)} (h : a ≠ I) (hr : ∀ p ∈ r, p.1 ∉ [I]) : ∀ p ∈ ((a, o) :: r : List (Addr × Obj)), p.1 ∉ [I] := fun p hp e => by
  rcases List.mem_cons.mp hp with rfl | hp
  · exact h (List.mem_singleton.mp e)
  · exact hr p hp e
theorem off_cons2 {I K a : Nat} {o : Obj} {r : List (Addr × Obj)} (h : a ≠ I) (h' : a ≠ K) (hr : ∀ p ∈ r, p.1 ∉ [I, K]) : ∀ p ∈ ((a, o) :: r : List (Addr × Obj)), p.1 ∉ [I, K] := fun p hp e => by
  rcases List.mem_cons.mp hp with rfl | hp
  · rcases List.mem_cons.mp e with e | e
    · exact h e
    · exact h' (List.mem_singleton.mp e)
  · exact hr p hp e

theorem loopQ {R : Result → Shared → Prop} {I : Addr} {fp wr : List Addr} {n : Nat} {P Md : Nat → Value → Heap → Prop} {St : Nat → Heap → Prop} {m : Str → Option Value} {news : List (Addr × Obj)} (W : KTurns prog w A target I fp wr n P Md St)
    (hL : env.locals ∉ fp) (hwr : ∀ b ∈ wr, h₀.get? b = none) (J : Nat → (Str → Option Value) → List (Addr × Obj) → Prop)
    (hlive : ∀ i h, St i h → ∃ its : List (Addr × Obj), its.map (·.1) = wr ∧ ∀ p ∈ its, h.get? p.1 = some p.2)
    (hkeep : ∀ b ∈ fp, b ∈ wr ∨ (∃ o, h₀.get? b = some o) ∨ (∃ o, ∀ i m nw, J i m nw → (b, o) ∈ nw))
    (hst : St 0 s.heap) (F : Fr h₀ env.locals s.heap m) (N : News h₀ env.locals s.heap news) (hnw : ∀ p ∈ news, p.1 ∉ wr) (h0 : J 0 m news)
    (turn : ∀ i v m₁ news₁ h tk its, i < n → P i v h → J i m₁ news₁ → (∀ p ∈ news₁, p.1 ∉ wr) → its.map (·.1) = wr → Fr h₀ env.locals h m₁ → News h₀ env.locals h (its ++ news₁) →
      wpAny (model prog w) A (assign target env v) (fun _ s₃ => wpAny (model prog w) A (execs body env) (TPost h₀ env.locals s wr its (J (i + 1)) (fun f s' => R (.ok f) s')) (fun _ _ => False) s₃) (fun _ _ => False) { s with heap := h, toks := tk })
    (done : ∀ h tk m' news', Fr h₀ env.locals h m' → News h₀ env.locals h news' → (∀ p ∈ news', p.1 ∉ wr) → J n m' news' → wpAny (model prog w) A (execs orelse env) (fun f s' => R (.ok f) s') (fun _ _ => False) { s with heap := h, toks := tk }) :
    codeAny (model prog w) A (.forLoop target (.ref I) body orelse env) R s := by
  have hLw : env.locals ∉ wr := fun h => hL (W.sub _ h)
  have old : ∀ b o, h₀.get? b = some o → b ∉ wr := fun b o e hb => by rw [hwr b hb] at e; cases e
  refine codeAny_forLoop_any
    (fun k s' => ∃ h' tk m' news' i, s' = { s with heap := h', toks := tk } ∧ St i h' ∧ Fr h₀ env.locals h' m' ∧ News h₀ env.locals h' news' ∧ (∀ p ∈ news', p.1 ∉ wr) ∧ J i m' news' ∧ i ≤ n ∧ k = n + 1 - i) ?_ (n + 1)
    ⟨s.heap, s.toks, m, news, 0, rfl, hst, F, N, hnw, h0, Nat.zero_le _, rfl⟩
  rintro k s' ⟨h', tk, m', news', i, rfl, hst', F', N', hnw', hJ, hi, rfl⟩
  have next : ∀ h₁ : Heap, (∀ b o, b ∉ wr → h'.get? b = some o → h₁.get? b = some o) → Fr h₀ env.locals h₁ m' ∧ News h₀ env.locals h₁ news' := fun h₁ hk₁ =>
    ⟨⟨F'.ns.at' fun o e => hk₁ _ o hLw e, fun b o e => hk₁ b o (old b o e) (F'.keep b o e), F'.above⟩, fun p hp => ⟨hk₁ _ _ (hnw' p hp) (N' p hp).1, (N' p hp).2⟩⟩
  by_cases hlt : i < n
  · refine W.item i _ _ _ hlt hst' fun v h₁ tk₁ hMd hk₁ => ?_
    refine W.go i v _ _ _ hMd fun h₂ hP hst₂ hk₂ => ?_
    obtain ⟨F₂, N₂⟩ := next h₂ fun b o hb x => hk₂ b o hb (hk₁ b o hb x)
    obtain ⟨its, hmap, hits⟩ := hlive _ _ hst₂
    have N₃ : News h₀ env.locals h₂ (its ++ news') := fun p hp => by
      rcases List.mem_append.mp hp with hp | hp
      · have hb : p.1 ∈ wr := hmap ▸ List.mem_map.mpr ⟨p, hp, rfl⟩
        exact ⟨hits p hp, fun e => hLw (e ▸ hb), hwr _ hb⟩
      · exact N₂ p hp
    have T := turn i v m' news' h₂ tk₁ its hlt hP hJ hnw' hmap F₂ N₃
    have fin : ∀ s₃, TEnd h₀ env.locals s wr its (J (i + 1)) s₃ → ∃ m, m < n + 1 - i ∧ ∃ h' tk m' news' i, s₃ = { s with heap := h', toks := tk } ∧ St i h' ∧ Fr h₀ env.locals h' m' ∧ News h₀ env.locals h' news' ∧ (∀ p ∈ news', p.1 ∉ wr) ∧ J i m' news' ∧ i ≤ n ∧ m = n + 1 - i := by
      rintro s₃ ⟨h₃, tk₃, m₃, news₃, rfl, F₃, N₄, off, hJ₃⟩
      refine ⟨n + 1 - (i + 1), by omega, h₃, tk₃, m₃, news₃, i + 1, rfl, ?_, F₃, fun p hp => N₄ p (List.mem_append_right _ hp), off, hJ₃, hlt, rfl⟩
      refine W.frame _ _ _ hst₂ fun b hb o e => ?_
      rcases hkeep b hb with hw | ⟨o', ho'⟩ | ⟨o', ho'⟩
      · rw [← hmap] at hw
        obtain ⟨q, hq, hqb⟩ := List.mem_map.mp hw
        subst hqb
        have h5 := hits q hq
        rw [e] at h5
        have h6 := (N₄ q (List.mem_append_left _ hq)).1
        rw [h6, ← Option.some.inj h5]
      · have q := F₂.keep b o' ho'
        rw [e] at q
        rw [Option.some.inj q]
        exact F₃.keep b o' ho'
      · have q := (N₂ _ (ho' _ _ _ hJ)).1
        have q' := (N₄ _ (List.mem_append_right its (ho' _ _ _ hJ₃))).1
        dsimp only at q q'
        rw [e] at q
        rw [q', ← Option.some.inj q]
    refine wpAny_mono T (fun _ s₂ h₂' => wpAny_mono h₂' (fun f s₃ h₃ => ?_) fun _ _ e => e.elim) fun _ _ e => e.elim
    cases f with
    | ret v => exact h₃
    | brk => exact h₃
    | cont => exact fin _ h₃
    | next => exact fin _ h₃
  · have hin : i = n := by omega
    subst hin
    refine W.done _ _ _ hst' fun h₁ tk₁ hk₁ => ?_
    obtain ⟨F₁, N₁⟩ := next h₁ hk₁
    exact wpAny_mono (done h₁ tk₁ m' news' F₁ N₁ hnw' hJ) (fun _ _ x => x) (fun _ _ x => x.elim)
end
end Mine

end

-- Fors
section
open PySem PySem.W PySem.Calls PyProof.Rows
set_option maxRecDepth 100000
namespace Mine
/-- a for loop over a made iterator, its flows handed to Q, no exception -/
def FL (prog : Program) (w : World) (A : Around) (env : Env) (target : Expr) (body orelse : List Stmt) (Q : Flow → Shared → Prop) (it : Value) (s : Shared) : Prop :=
  codeAny (model prog w) A (.forLoop target it body orelse env) (fun r s' => match r with | .ok f => Q f s' | .error _ => False) s
section
variable {prog : Program} {w : World} {A : Around} {s : Shared} {env : Env} {h₀ : Heap} {target : Expr} {body orelse : List Stmt} {Q : Flow → Shared → Prop}

theorem For_FL {iter : Expr} {pos : Pos} {m : Str → Option Value} (_F : Fr h₀ env.locals s.heap m)
    (h : wpAny (model prog w) A (eval iter env) (fun xv s₁ => wpAny (model prog w) A (pyIter xv) (fun it s₂ => FL prog w A env target body orelse Q it s₂) (fun _ _ => False) s₁) (fun _ _ => False) s)
    (hs : ∀ x, foldedSetIterable iter env x = pure x := by intro _; rfl) :
    wpAny (model prog w) A (exec (.For target iter body orelse pos) env) Q (fun _ _ => False) s := by
  refine wpAny_For (wpAny_mono h (fun xv s₁ h₁ => wpAny_mono h₁ (fun it s₂ h₂ => ?_) fun _ _ e => e) fun _ _ e => e) hs
  refine codeAny_mono h₂ fun r s' x => ?_
  cases r with
  | ok f => exact x
  | error e => exact x.elim

theorem its_one {I : Addr} {its : List (Addr × Obj)} (h : its.map (·.1) = [I]) : ∃ o, its = [(I, o)] := by
  cases its with
  | nil => cases h
  | cons p r =>
    rw [List.map_cons] at h
    obtain ⟨h1, h2⟩ := List.cons.inj h
    have h3 : r = [] := List.map_eq_nil_iff.mp h2
    subst h3 h1
    exact ⟨p.2, rfl⟩
theorem its_two {I K : Addr} {its : List (Addr × Obj)} (h : its.map (·.1) = [I, K]) : ∃ o o', its = [(I, o), (K, o')] := by
  cases its with
  | nil => cases h
  | cons p r =>
    rw [List.map_cons] at h
    obtain ⟨h1, h2⟩ := List.cons.inj h
    obtain ⟨o', h3⟩ := its_one h2
    subst h3 h1
    exact ⟨p.2, o', rfl⟩

/-- one iterator object, made last -/
theorem oneFL {I : Addr} {fp : List Addr} {n : Nat} {P : Nat → Value → Prop} {St : Nat → Heap → Prop} {m : Str → Option Value} {news : List (Addr × Obj)} {hp : Heap} {tk0 : Nat} (W : Walks prog w A I fp [I] n P St)
    (hgo : ∀ i v (s : Shared) (Q : Unit → Shared → Prop) (E : Value → Shared → Prop), St i s.heap → Q () s → wpAny (model prog w) A (letOwnedTupleGo target (.ref I) v) Q E s)
    (hL : env.locals ∉ fp) (hI : h₀.get? I = none) (J : Nat → (Str → Option Value) → List (Addr × Obj) → Prop)
    (hlive : ∀ i h, St i h → ∃ o, h.get? I = some o)
    (hkeep : ∀ b ∈ fp, b = I ∨ (∃ o, h₀.get? b = some o) ∨ (∃ o, ∀ i m nw, J i m nw → (b, o) ∈ nw))
    (hst : St 0 hp) (F : Fr h₀ env.locals hp m) (N : News h₀ env.locals hp news) (hnw : ∀ p ∈ news, p.1 ≠ I) (h0 : J 0 m news)
    (turn : ∀ i v m₁ news₁ h tk oI, i < n → P i v → J i m₁ news₁ → (∀ p ∈ news₁, p.1 ≠ I) → Fr h₀ env.locals h m₁ → News h₀ env.locals h ((I, oI) :: news₁) →
      wpAny (model prog w) A (assign target env v) (fun _ s₃ => wpAny (model prog w) A (execs body env) (TPost h₀ env.locals s [I] [(I, oI)] (J (i + 1)) Q) (fun _ _ => False) s₃) (fun _ _ => False) { s with heap := h, toks := tk })
    (done : ∀ h tk m' news', Fr h₀ env.locals h m' → News h₀ env.locals h news' → J n m' news' → wpAny (model prog w) A (execs orelse env) Q (fun _ _ => False) { s with heap := h, toks := tk }) :
    FL prog w A env target body orelse Q (.ref I) { s with heap := hp, toks := tk0 } := by
  refine loopQ (KTurns.ofWalks W hgo) hL (fun b hb => by rw [List.mem_singleton.mp hb]; exact hI) J (fun i h st => ?_) (fun b hb => ?_) hst F N (fun p hp' => ?_) h0 ?_ ?_
  · obtain ⟨o, ho⟩ := hlive i h st
    exact ⟨[(I, o)], rfl, fun p hp' => by rw [List.mem_singleton.mp hp']; exact ho⟩
  · rcases hkeep b hb with e | e | e
    · exact .inl (by rw [e]; exact List.mem_singleton.mpr rfl)
    · exact .inr (.inl e)
    · exact .inr (.inr e)
  · intro e
    exact hnw p hp' (List.mem_singleton.mp e)
  · intro i v m₁ news₁ h tk its hi hP hJ off hmap F₁ N₁
    obtain ⟨o, rfl⟩ := its_one hmap
    exact turn i v m₁ news₁ h tk o hi hP hJ (fun p hp' e => off p hp' (List.mem_singleton.mpr e)) F₁ N₁
  · intro h tk m' news' F' N' _ hJ
    exact done h tk m' news' F' N' hJ

/-- over a tuple that stood before the call -/
theorem tupB_FL {ax : Addr} {vs : List Value} {m : Str → Option Value} {news : List (Addr × Obj)} (J : Nat → (Str → Option Value) → List (Addr × Obj) → Prop)
    (hh : A.handled = none) (ht : h₀.IsTuple ax vs.toArray) (F : Fr h₀ env.locals s.heap m) (N : News h₀ env.locals s.heap news) (h0 : J 0 m news)
    (turn : ∀ I, (∀ p ∈ news, p.1 < I) → ∀ i v m₁ news₁ h tk oI, vs[i]? = some v → J i m₁ news₁ → (∀ p ∈ news₁, p.1 ≠ I) → Fr h₀ env.locals h m₁ → News h₀ env.locals h ((I, oI) :: news₁) →
      wpAny (model prog w) A (assign target env v) (fun _ s₃ => wpAny (model prog w) A (execs body env) (TPost h₀ env.locals s [I] [(I, oI)] (J (i + 1)) Q) (fun _ _ => False) s₃) (fun _ _ => False) { s with heap := h, toks := tk })
    (done : ∀ h tk m' news', Fr h₀ env.locals h m' → News h₀ env.locals h news' → J vs.length m' news' → wpAny (model prog w) A (execs orelse env) Q (fun _ _ => False) { s with heap := h, toks := tk }) :
    wpAny (model prog w) A (pyIter (.ref ax)) (fun it s₂ => FL prog w A env target body orelse Q it s₂) (fun _ _ => False) s := by
  obtain ⟨ol, hol, hr⟩ := id ht
  have hts : s.heap.IsTuple ax vs.toArray := ⟨ol, F.keep _ _ hol, hr⟩
  have hlt : ax < s.heap.objs.size := Heap.lt_size (F.keep _ _ hol)
  have hne : ax ≠ s.heap.objs.size := Nat.ne_of_lt hlt
  have hax : ax < h₀.objs.size := Heap.lt_size hol
  refine wpAny_pyIter_tuple hts ?_
  have W := Walks.tuple (prog := prog) (w := w) hh s.heap.objs.size ax hne vs.toArray
  rw [List.size_toArray] at W
  refine oneFL (s := s) (tk0 := s.toks) W (fun i v s Q E st q => letGo_tupleiter st.1 q) ?_ (next_is_new F) J (fun i h st => let ⟨o, ho, _⟩ := st.1; ⟨o, ho⟩) (fun b hb => ?_) ⟨⟨_, Heap.get?_push_size _ rfl, rfl, rfl⟩, hts.push _⟩ (F.push _) (fun p hp => ⟨Heap.get?_push_of_some _ (N p hp).1, (N p hp).2⟩) (fun p hp => Nat.ne_of_lt (Heap.lt_size (N p hp).1)) h0 ?_ done
  · intro hm
    rcases List.mem_cons.mp hm with e | hm
    · exact absurd F.ns.lt (e ▸ Nat.lt_irrefl _)
    · exact absurd (Nat.lt_of_lt_of_le hax F.above) ((List.mem_singleton.mp hm) ▸ Nat.lt_irrefl _)
  · rcases List.mem_cons.mp hb with e | hb
    · exact .inl e
    · exact .inr (.inl ⟨ol, by rw [List.mem_singleton.mp hb]; exact hol⟩)
  · intro i v m₁ news₁ h tk oI _ hP hJ off F₁ N₁
    exact turn _ (fun p hp => Heap.lt_size (N p hp).1) i v m₁ news₁ h tk oI (by simpa using hP) hJ off F₁ N₁

/-- over a list of the ledger's -/
theorem listN_FL {ax : Addr} {vs : List Value} {nn : Nat} {m : Str → Option Value} {news : List (Addr × Obj)} (J : Nat → (Str → Option Value) → List (Addr × Obj) → Prop)
    (hh : A.handled = none) (hJ : ∀ i m nw, J i m nw → (ax, listOf vs.toArray nn) ∈ nw) (F : Fr h₀ env.locals s.heap m) (N : News h₀ env.locals s.heap news) (h0 : J 0 m news)
    (turn : ∀ I, (∀ p ∈ news, p.1 < I) → ∀ i v m₁ news₁ h tk oI, vs[i]? = some v → J i m₁ news₁ → (∀ p ∈ news₁, p.1 ≠ I) → Fr h₀ env.locals h m₁ → News h₀ env.locals h ((I, oI) :: news₁) →
      wpAny (model prog w) A (assign target env v) (fun _ s₃ => wpAny (model prog w) A (execs body env) (TPost h₀ env.locals s [I] [(I, oI)] (J (i + 1)) Q) (fun _ _ => False) s₃) (fun _ _ => False) { s with heap := h, toks := tk })
    (done : ∀ h tk m' news', Fr h₀ env.locals h m' → News h₀ env.locals h news' → J vs.length m' news' → wpAny (model prog w) A (execs orelse env) Q (fun _ _ => False) { s with heap := h, toks := tk }) :
    wpAny (model prog w) A (pyIter (.ref ax)) (fun it s₂ => FL prog w A env target body orelse Q it s₂) (fun _ _ => False) s := by
  have hax := N _ (hJ _ _ _ h0)
  have hts : s.heap.IsList ax vs.toArray := ⟨_, hax.1, rfl, nn, rfl⟩
  have hlt : ax < s.heap.objs.size := Heap.lt_size hax.1
  have hne : ax ≠ s.heap.objs.size := Nat.ne_of_lt hlt
  refine wpAny_pyIter_list hts ?_
  have W := Walks.list (prog := prog) (w := w) hh s.heap.objs.size ax hne vs.toArray
  rw [List.size_toArray] at W
  refine oneFL (s := s) (tk0 := s.toks) W (fun i v s Q E st q => letGo_listiter st.1 q) ?_ (next_is_new F) J (fun i h st => let ⟨o, ho, _⟩ := st.1; ⟨o, ho⟩) (fun b hb => ?_) ⟨⟨_, Heap.get?_push_size _ rfl, rfl, rfl⟩, hts.at fun o e => Heap.get?_push_of_some _ e⟩ (F.push _) (fun p hp => ⟨Heap.get?_push_of_some _ (N p hp).1, (N p hp).2⟩) (fun p hp => Nat.ne_of_lt (Heap.lt_size (N p hp).1)) h0 ?_ done
  · intro hm
    rcases List.mem_cons.mp hm with e | hm
    · exact absurd F.ns.lt (e ▸ Nat.lt_irrefl _)
    · exact hax.2.1 (List.mem_singleton.mp hm).symm
  · rcases List.mem_cons.mp hb with e | hb
    · exact .inl e
    · exact .inr (.inr ⟨_, fun i m nw hj => by rw [List.mem_singleton.mp hb]; exact hJ i m nw hj⟩)
  · intro i v m₁ news₁ h tk oI _ hP hJ off F₁ N₁
    exact turn _ (fun p hp => Heap.lt_size (N p hp).1) i v m₁ news₁ h tk oI (by simpa using hP) hJ off F₁ N₁

/-- over a tuple of the ledger's -/
theorem tupN_FL {ax : Addr} {o : Obj} {vs : List Value} {nn : Nat} {m : Str → Option Value} {news : List (Addr × Obj)} (J : Nat → (Str → Option Value) → List (Addr × Obj) → Prop)
    (hh : A.handled = none) (hc : o.cls = .type "tuple") (hd : o.data = .seq vs.toArray nn) (hJ : ∀ i m nw, J i m nw → (ax, o) ∈ nw) (F : Fr h₀ env.locals s.heap m) (N : News h₀ env.locals s.heap news) (h0 : J 0 m news)
    (turn : ∀ I, (∀ p ∈ news, p.1 < I) → ∀ i v m₁ news₁ h tk oI, vs[i]? = some v → J i m₁ news₁ → (∀ p ∈ news₁, p.1 ≠ I) → Fr h₀ env.locals h m₁ → News h₀ env.locals h ((I, oI) :: news₁) →
      wpAny (model prog w) A (assign target env v) (fun _ s₃ => wpAny (model prog w) A (execs body env) (TPost h₀ env.locals s [I] [(I, oI)] (J (i + 1)) Q) (fun _ _ => False) s₃) (fun _ _ => False) { s with heap := h, toks := tk })
    (done : ∀ h tk m' news', Fr h₀ env.locals h m' → News h₀ env.locals h news' → J vs.length m' news' → wpAny (model prog w) A (execs orelse env) Q (fun _ _ => False) { s with heap := h, toks := tk }) :
    wpAny (model prog w) A (pyIter (.ref ax)) (fun it s₂ => FL prog w A env target body orelse Q it s₂) (fun _ _ => False) s := by
  have hax := N _ (hJ _ _ _ h0)
  have hts : s.heap.IsTuple ax vs.toArray := ⟨_, hax.1, hc, nn, hd⟩
  have hlt : ax < s.heap.objs.size := Heap.lt_size hax.1
  have hne : ax ≠ s.heap.objs.size := Nat.ne_of_lt hlt
  refine wpAny_pyIter_tuple hts ?_
  have W := Walks.tuple (prog := prog) (w := w) hh s.heap.objs.size ax hne vs.toArray
  rw [List.size_toArray] at W
  refine oneFL (s := s) (tk0 := s.toks) W (fun i v s Q E st q => letGo_tupleiter st.1 q) ?_ (next_is_new F) J (fun i h st => let ⟨o, ho, _⟩ := st.1; ⟨o, ho⟩) (fun b hb => ?_) ⟨⟨_, Heap.get?_push_size _ rfl, rfl, rfl⟩, hts.push _⟩ (F.push _) (fun p hp => ⟨Heap.get?_push_of_some _ (N p hp).1, (N p hp).2⟩) (fun p hp => Nat.ne_of_lt (Heap.lt_size (N p hp).1)) h0 ?_ done
  · intro hm
    rcases List.mem_cons.mp hm with e | hm
    · exact absurd F.ns.lt (e ▸ Nat.lt_irrefl _)
    · exact hax.2.1 (List.mem_singleton.mp hm).symm
  · rcases List.mem_cons.mp hb with e | hb
    · exact .inl e
    · exact .inr (.inr ⟨_, fun i m nw hj => by rw [List.mem_singleton.mp hb]; exact hJ i m nw hj⟩)
  · intro i v m₁ news₁ h tk oI _ hP hJ off F₁ N₁
    exact turn _ (fun p hp => Heap.lt_size (N p hp).1) i v m₁ news₁ h tk oI (by simpa using hP) hJ off F₁ N₁

/-- over a range -/
theorem range_FL {r : Addr} {a b c : Int} {t u v : Tok} {n : Nat} {m : Str → Option Value} {news : List (Addr × Obj)} {x : Str} {px : Pos} (J : Nat → (Str → Option Value) → List (Addr × Obj) → Prop)
    (hh : A.handled = none) (hr : IsRange s.heap r a b c t u v) (hsm : Builtin.Range.small a b c = true) (hn : Builtin.Range.rangeSize a b c = (n : Int)) (F : Fr h₀ env.locals s.heap m) (N : News h₀ env.locals s.heap news) (h0 : J 0 m news)
    (turn : ∀ I, (∀ p ∈ news, p.1 < I) → ∀ i t m₁ news₁ h tk oI, i < n → J i m₁ news₁ → (∀ p ∈ news₁, p.1 ≠ I) → Fr h₀ env.locals h m₁ → News h₀ env.locals h ((I, oI) :: news₁) →
      wpAny (model prog w) A (assign (.Name x px) env (.int (a + (i : Int) * c) t)) (fun _ s₃ => wpAny (model prog w) A (execs body env) (TPost h₀ env.locals s [I] [(I, oI)] (J (i + 1)) Q) (fun _ _ => False) s₃) (fun _ _ => False) { s with heap := h, toks := tk })
    (done : ∀ h tk m' news', Fr h₀ env.locals h m' → News h₀ env.locals h news' → J n m' news' → wpAny (model prog w) A (execs orelse env) Q (fun _ _ => False) { s with heap := h, toks := tk }) :
    wpAny (model prog w) A (pyIter (.ref r)) (fun it s₂ => FL prog w A env (.Name x px) body orelse Q it s₂) (fun _ _ => False) s := by
  refine wpAny_pyIter_range hr hsm ?_
  have W := Walks.range (prog := prog) (w := w) hh s.heap.objs.size a c n
  refine oneFL (s := s) (tk0 := s.toks) W (fun i v s Q E st q => wpAny_pure q) ?_ (next_is_new F) J (fun i h st => ⟨_, st⟩) (fun b hb => .inl (List.mem_singleton.mp hb)) (by show IsRangeIter _ _ _ _ _; rw [hn]; simpa using Heap.get?_push_size _ rfl) (F.push _) (fun p hp => ⟨Heap.get?_push_of_some _ (N p hp).1, (N p hp).2⟩) (fun p hp => Nat.ne_of_lt (Heap.lt_size (N p hp).1)) h0 ?_ done
  · intro hm
    exact absurd F.ns.lt ((List.mem_singleton.mp hm) ▸ Nat.lt_irrefl _)
  · rintro i _ m₁ news₁ h tk oI hi ⟨t, rfl⟩ hJ off F₁ N₁
    exact turn _ (fun p hp => Heap.lt_size (N p hp).1) i t m₁ news₁ h tk oI hi hJ off F₁ N₁

/-- over a text -/
theorem str_FL {y : Str} {ty : Tok} {m : Str → Option Value} {news : List (Addr × Obj)} {x : Str} {px : Pos} (J : Nat → (Str → Option Value) → List (Addr × Obj) → Prop)
    (hh : A.handled = none) (F : Fr h₀ env.locals s.heap m) (N : News h₀ env.locals s.heap news) (h0 : J 0 m news)
    (turn : ∀ I, (∀ p ∈ news, p.1 < I) → ∀ i c t m₁ news₁ h tk oI, y.cps[i]? = some c → J i m₁ news₁ → (∀ p ∈ news₁, p.1 ≠ I) → Fr h₀ env.locals h m₁ → News h₀ env.locals h ((I, oI) :: news₁) →
      wpAny (model prog w) A (assign (.Name x px) env (.str ⟨#[c]⟩ t)) (fun _ s₃ => wpAny (model prog w) A (execs body env) (TPost h₀ env.locals s [I] [(I, oI)] (J (i + 1)) Q) (fun _ _ => False) s₃) (fun _ _ => False) { s with heap := h, toks := tk })
    (done : ∀ h tk m' news', Fr h₀ env.locals h m' → News h₀ env.locals h news' → J y.cps.size m' news' → wpAny (model prog w) A (execs orelse env) Q (fun _ _ => False) { s with heap := h, toks := tk }) :
    wpAny (model prog w) A (pyIter (.str y ty)) (fun it s₂ => FL prog w A env (.Name x px) body orelse Q it s₂) (fun _ _ => False) s := by
  have key : ∀ cls, (∀ i h, Heap.IsStrIter h s.heap.objs.size cls y ty i → ∃ o, h.get? s.heap.objs.size = some o) → Walks prog w A s.heap.objs.size [s.heap.objs.size] [s.heap.objs.size] y.cps.size (SignAt y) (fun i h => h.IsStrIter s.heap.objs.size cls y ty i) →
      Heap.IsStrIter (s.heap.push { cls := .type cls, data := .fields #[.str y ty, .int 0 0] }) s.heap.objs.size cls y ty 0 →
      FL prog w A env (.Name x px) body orelse Q (.ref s.heap.objs.size) { s with heap := s.heap.push { cls := .type cls, data := .fields #[.str y ty, .int 0 0] } } := by
    intro cls hl W hst
    refine oneFL (s := s) (tk0 := s.toks) W (fun i v s Q E st q => wpAny_pure q) ?_ (next_is_new F) J hl (fun b hb => .inl (List.mem_singleton.mp hb)) hst (F.push _) (fun p hp => ⟨Heap.get?_push_of_some _ (N p hp).1, (N p hp).2⟩) (fun p hp => Nat.ne_of_lt (Heap.lt_size (N p hp).1)) h0 ?_ done
    · intro hm
      exact absurd F.ns.lt ((List.mem_singleton.mp hm) ▸ Nat.lt_irrefl _)
    · rintro i _ m₁ news₁ h tk oI hi ⟨c, t, hc, rfl⟩ hJ off F₁ N₁
      exact turn _ (fun p hp => Heap.lt_size (N p hp).1) i c t m₁ news₁ h tk oI hc hJ off F₁ N₁
  have live : ∀ cls i h, Heap.IsStrIter h s.heap.objs.size cls y ty i → ∃ o, h.get? s.heap.objs.size = some o := fun cls i h st => let ⟨o, ho, _⟩ := st; ⟨o, ho⟩
  cases ha : y.cps.all (· < 128)
  · exact wpAny_pyIter_wide ha (key "str_iterator" (live _) (Walks.strWide hh _ y ty) ⟨_, Heap.get?_push_size _ rfl, rfl, rfl⟩)
  · exact wpAny_pyIter_ascii ha (key "str_ascii_iterator" (live _) (Walks.strAscii hh _ y ty) ⟨_, Heap.get?_push_size _ rfl, rfl, rfl⟩)
end
end Mine

end

-- Enum
section
open PySem PySem.W PySem.Calls PyProof.Rows
open AutoSeq1 (wpAny_loadPart')
set_option maxRecDepth 100000
namespace Mine
section
variable {prog : Program} {w : World} {A : Around} {E : Value → Shared → Prop} {s : Shared}
theorem nextOf_tuple_item {it t : Addr} {i : Nat} {items : Array Value} {x : Value} {Q : Value → Shared → Prop} (hit : s.heap.IsTupleIter it t i)
    (ht : s.heap.IsTuple t items) (hx : items[i]? = some x)
    (hQ : ∀ h', h'.IsTupleIter it t (i + 1) → Heap.SameBut it s.heap h' → Q x { s with heap := h' }) :
    wpAny (model prog w) A (Builtin.SmallTypes.nextOf (.ref it)) Q E s := by
  obtain ⟨o, ho, hc, hd⟩ := id hit
  obtain ⟨ol, hol, _, nl, hdl⟩ := ht
  unfold Builtin.SmallTypes.nextOf
  refine wpAny_bind (wpAny_callSpecial?_slot (name := Str.ofString "__next__") hit.typeIs F.slot_tuple_iterator_next
    (wpAny_call_entry F.slot_tuple_iterator_next hit.typeIs F.entry_tuple_iterator_next ?_ (F.args_tuple_iterator_next_1 _)))
  show wpAny _ _ (field (.ref it) 0 >>= _) _ _ s
  refine wpAny_bind (wpAny_field ho hd (x := .ref t) rfl ?_)
  show wpAny _ _ (if (Value.ref t == Value.none) = true then _ else _) _ _ s
  rw [if_neg (show ¬ ((Value.ref t == Value.none) = true) from Bool.false_ne_true)]
  show wpAny _ _ (field (.ref it) 1 >>= _) _ _ s
  refine wpAny_bind (wpAny_field ho hd (x := .int i 0) rfl ?_)
  show wpAny _ _ (seqItems? (.ref t) >>= _) _ _ s
  refine wpAny_bind (wpAny_seqItems hol hdl ?_)
  simp only [Int.toNat_natCast, hx]
  refine wpAny_bind (wpAny_setField ho hd (by simp) (wpAny_pure ⟨x, rfl, wpAny_pure (hQ _ ?_ (Heap.SameBut.update ..))⟩))
  exact ⟨_, Heap.get?_update_self _ ho (Obj.isFreed_of_fields (Obj.data_mapFields hd _)), (Obj.cls_mapFields ..).trans hc, by
    rw [Obj.data_mapFields hd]; simp [rawInt]⟩

theorem nextOf_tuple_end {it t : Addr} {i : Nat} {items : Array Value} {Q : Value → Shared → Prop} (hh : A.handled = none)
    (hit : s.heap.IsTupleIter it t i) (ht : s.heap.IsTuple t items) (hx : items[i]? = none)
    (hE : ∀ h' e, Heap.ExtBut it s.heap h' → (∃ o, h'.get? e = some o ∧ o.cls = .type "StopIteration") → E (.ref e) { s with heap := h' }) :
    wpAny (model prog w) A (Builtin.SmallTypes.nextOf (.ref it)) Q E s := by
  obtain ⟨o, ho, hc, hd⟩ := id hit
  obtain ⟨ol, hol, _, nl, hdl⟩ := ht
  unfold Builtin.SmallTypes.nextOf
  refine wpAny_bind (wpAny_callSpecial?_slot (name := Str.ofString "__next__") hit.typeIs F.slot_tuple_iterator_next
    (wpAny_call_entry F.slot_tuple_iterator_next hit.typeIs F.entry_tuple_iterator_next ?_ (F.args_tuple_iterator_next_1 _)))
  show wpAny _ _ (field (.ref it) 0 >>= _) _ _ s
  refine wpAny_bind (wpAny_field ho hd (x := .ref t) rfl ?_)
  show wpAny _ _ (if (Value.ref t == Value.none) = true then _ else _) _ _ s
  rw [if_neg (show ¬ ((Value.ref t == Value.none) = true) from Bool.false_ne_true)]
  show wpAny _ _ (field (.ref it) 1 >>= _) _ _ s
  refine wpAny_bind (wpAny_field ho hd (x := .int i 0) rfl ?_)
  show wpAny _ _ (seqItems? (.ref t) >>= _) _ _ s
  refine wpAny_bind (wpAny_seqItems hol hdl ?_)
  simp only [Int.toNat_natCast, hx]
  refine wpAny_bind (wpAny_rule (wpAny_bind (wpAny_setField ho hd (by simp) ?_)))
  show wpAny _ _ (newExc (.type "StopIteration") [] >>= _) _ _ _
  refine wpAny_bind ?_
  simp only [newExc, newTuple]
  refine wpAny_bind (wpAny_newObj_type ?_ (by size_fits))
  refine wpAny_bind (m := firstArgMember _ _) (wpAny_of_eq (a := Value.none) (by first | rfl | (simp only [firstArgMember]; rfl)) ?_)
  refine wpAny_newObj_type ?_ (by size_fits)
  simp only [raiseNew]
  refine wpAny_bind (wpAny_handled ?_)
  first | rw [show A.in1.handled = none from hh] | rw [hh]
  refine wpAny_bind (wpAny_pure (wpAny_throw ?_))
  exact hE _ _ (((Heap.SameBut.update ..).extBut.push _).push _) ⟨_, Heap.get?_push_size _ rfl, rfl⟩
end
theorem drawsTuple {prog : Program} {w : World} {A : Around} (hh : A.handled = none) (it l : Addr) (hne : l ≠ it) (items : Array Value) :
    Draws prog w A it [it, l] items.size (fun i v => items[i]? = some v) (fun i h => h.IsTupleIter it l i ∧ h.IsTuple l items) where
  live := fun _ _ st => let ⟨o, ho, _⟩ := st.1; ⟨o, ho⟩
  frame := fun _ _ _ st hk => ⟨st.1.at fun o e => hk it (by simp) o e, st.2.at fun o e => hk l (by simp) o e⟩
  item := fun i s Q E hi st hQ => by
    refine nextOf_tuple_item st.1 st.2 (x := items[i]) (by simp [hi]) fun h' hit' hs' => ?_
    exact hQ _ h' s.toks (by simp [hi]) ⟨hit', st.2.extBut hs'.extBut hne⟩ hs'
  done := fun s Q E st hE => nextOf_tuple_end hh st.1 st.2 (by simp) hE

theorem meets_enum_newT (l : Addr) (items : Array Value) (n : Nat) (dct : Option Addr) (sl : Array (Option Value)) :
    Meets (Builtin.«enumerate.__new__» ⟨[.type "enumerate", .ref l], []⟩) (fun _ R s => s.heap.get? l = some { cls := .type "tuple", dict := dct, data := .seq items n, slots := sl } ∧
      R (.ok (.ret (.ref (s.heap.push { cls := .type "tuple_iterator", data := .fields #[.ref l, .int 0 0] }).objs.size)))
        { s with heap := (s.heap.push { cls := .type "tuple_iterator", data := .fields #[.ref l, .int 0 0] }).push { cls := .type "enumerate", data := .fields #[.none, .bool false, .ref s.heap.objs.size, rawInt 0, .none, .none] } }) :=
  .of_wp fun prog w A R s h => by
    obtain ⟨hp, g, d, tk, os⟩ := s; obtain ⟨hl, h⟩ := h
    have hsub := sub_enumerate
    have hL : Heap.IsTuple (Shared.heap ⟨hp, g, d, tk, os⟩) l items := ⟨_, hl, rfl, n, rfl⟩
    wp_walk using wpAny_loadPart' hl
    refine wpAny_stack_any fun st => wpAny_pure ?_
    split
    · rename_i c _ _ _ _ _
      cases (c == Value.type "enumerate")
      · wp_walk using wpAny_loadPart' hl, wpAny_pyIter_tuple hL
        exact ⟨_, rfl, h⟩
      · wp_walk using wpAny_loadPart' hl, wpAny_pyIter_tuple hL
        exact ⟨_, rfl, h⟩
    · wp_walk using wpAny_loadPart' hl, wpAny_pyIter_tuple hL
      exact ⟨_, rfl, h⟩

section
variable {prog : Program} {w : World} {A : Around} {E : Value → Shared → Prop} {s : Shared}
theorem call_enum_tuple {l : Addr} {items : Array Value} {Q : Value → Shared → Prop} (hL : s.heap.IsTuple l items)
    (h : ∀ h', IsEnum h' (s.heap.objs.size + 1) s.heap.objs.size 0 .none → h'.IsTupleIter s.heap.objs.size l 0 → h'.objs.size = s.heap.objs.size + 2 →
      (∀ b o, s.heap.get? b = some o → h'.get? b = some o) → Q (.ref (s.heap.objs.size + 1)) { s with heap := h' }) :
    wpAny (model prog w) A (call (.type "enumerate") [.ref l]) Q E s := by
  obtain ⟨⟨c, dct, dt, sl⟩, hl, hc, n, hd⟩ := hL
  replace hc : c = .type "tuple" := hc
  replace hd : dt = .seq items n := hd
  subst hc hd
  refine callType_new F.called_enumerate (by decide) (F.typeCall_enumerate_1 _) (F.newCall_enumerate_1 _) (fun obj => F.args_object_init_2 obj _) F.entry_enumerate_new
    (meets_enum_newT l items n dct sl) ⟨hl, ?_⟩
  have hz : (s.heap.push { cls := .type "tuple_iterator", data := .fields #[.ref l, .int 0 0] }).objs.size = s.heap.objs.size + 1 := Heap.size_push ..
  show _ ∧ _
  rw [hz]
  have he : IsEnum ((s.heap.push { cls := .type "tuple_iterator", data := .fields #[.ref l, .int 0 0] }).push
      { cls := .type "enumerate", data := .fields #[.none, .bool false, .ref s.heap.objs.size, rawInt 0, .none, .none] }) (s.heap.objs.size + 1) s.heap.objs.size 0 .none := by
    have := Heap.get?_push_size (s.heap.push { cls := .type "tuple_iterator", data := .fields #[.ref l, .int 0 0] })
      (o := { cls := .type "enumerate", data := .fields #[.none, .bool false, .ref s.heap.objs.size, rawInt 0, .none, .none] }) rfl
    rw [hz] at this; exact this
  refine ⟨⟨_, he, rfl⟩, h _ he ⟨_, Heap.get?_push_of_some _ (Heap.get?_push_size _ rfl), rfl, rfl⟩ (by rw [Heap.size_push, hz]) fun b o x => Heap.get?_push_of_some _ (Heap.get?_push_of_some _ x)⟩
end

section
variable {prog : Program} {w : World} {A : Around} {s : Shared} {env : Env} {h₀ : Heap} {body orelse : List Stmt} {Q : Flow → Shared → Prop}
/-- for .. in enumerate(a tuple that stood before the call) -/
theorem enumB_FL {ax : Addr} {vs : List Value} {elts : List Expr} {k : Nat} {pos : Pos} {m : Str → Option Value} {news : List (Addr × Obj)} (J : Nat → (Str → Option Value) → List (Addr × Obj) → Prop)
    (hh : A.handled = none) (ht : h₀.IsTuple ax vs.toArray) (F : Fr h₀ env.locals s.heap m) (N : News h₀ env.locals s.heap news) (h0 : J 0 m news)
    (turn : ∀ I, (∀ p ∈ news, p.1 < I) → ∀ i T t x m₁ news₁ h tk oE oI, vs[i]? = some x → h.IsTuple T #[.int i t, x] → J i m₁ news₁ → (∀ p ∈ news₁, p.1 ≠ I + 1 ∧ p.1 ≠ I) → Fr h₀ env.locals h m₁ → News h₀ env.locals h ((I + 1, oE) :: (I, oI) :: news₁) →
      wpAny (model prog w) A (assign (.Tuple elts k pos) env (.ref T)) (fun _ s₃ => wpAny (model prog w) A (execs body env) (TPost h₀ env.locals s [I + 1, I] [(I + 1, oE), (I, oI)] (J (i + 1)) Q) (fun _ _ => False) s₃) (fun _ _ => False) { s with heap := h, toks := tk })
    (done : ∀ h tk m' news', Fr h₀ env.locals h m' → News h₀ env.locals h news' → J vs.length m' news' → wpAny (model prog w) A (execs orelse env) Q (fun _ _ => False) { s with heap := h, toks := tk }) :
    wpAny (model prog w) A (call (.type "enumerate") [.ref ax]) (fun xv s₁ => wpAny (model prog w) A (pyIter xv) (fun it s₂ => FL prog w A env (.Tuple elts k pos) body orelse Q it s₂) (fun _ _ => False) s₁) (fun _ _ => False) s := by
  obtain ⟨ol, hol, hr⟩ := id ht
  have hts : s.heap.IsTuple ax vs.toArray := ⟨ol, F.keep _ _ hol, hr⟩
  have hlt : ax < s.heap.objs.size := Heap.lt_size (F.keep _ _ hol)
  have hne : ax ≠ s.heap.objs.size := Nat.ne_of_lt hlt
  have hax : ax < h₀.objs.size := Heap.lt_size hol
  have hLs : env.locals < s.heap.objs.size := F.ns.lt
  have hxL : ax < env.locals := Nat.lt_of_lt_of_le hax F.above
  refine call_enum_tuple hts fun h' hE hI hsz hk => ?_
  refine wpAny_pyIter_enum hE ?_
  have W := KTurns.ofWalksU (elts := elts) (k := k) (pos := pos) (WalksT.enumerateD (prog := prog) (w := w) (A := A) (drawsTuple (A := A.in1) hh s.heap.objs.size ax hne vs.toArray) (s.heap.objs.size + 1) (Nat.succ_ne_self _)
    (by intro hm; rcases List.mem_cons.mp hm with e | hm
        · exact absurd e (Nat.succ_ne_self _)
        · have e := List.mem_singleton.mp hm
          exact absurd hlt (by rw [← e]; exact Nat.not_lt.mpr (Nat.le_succ _))) (List.mem_cons_self ..)).toU
  rw [List.size_toArray] at W
  show codeAny _ _ _ _ _
  refine loopQ (s := { s with heap := h' }) W ?_ ?_ J (fun i h st => ?_) (fun b hb => ?_) ⟨⟨.none, hE⟩, hI, hts.at fun o e => hk ax o e⟩ (F.keeps hk) (N.grown hk) ?_ h0 ?_ ?_
  · intro hm
    rcases List.mem_cons.mp hm with e | hm
    · exact absurd hLs (by rw [e]; exact Nat.not_lt.mpr (Nat.le_succ _))
    rcases List.mem_cons.mp hm with e | hm
    · exact absurd hLs (by rw [e]; exact Nat.lt_irrefl _)
    · exact absurd hxL (by rw [List.mem_singleton.mp hm]; exact Nat.lt_irrefl _)
  · intro b hb
    rcases List.mem_cons.mp hb with rfl | hb
    · exact ktu_new F (Nat.le_succ _)
    · rw [List.mem_singleton.mp hb]; exact ktu_new F (Nat.le_refl _)
  · obtain ⟨⟨old, he⟩, ⟨oi, hoi, _⟩, _⟩ := st
    exact ⟨[(s.heap.objs.size + 1, _), (s.heap.objs.size, oi)], rfl, fun p hp => by
      rcases List.mem_cons.mp hp with rfl | hp
      · exact he
      · rw [List.mem_singleton.mp hp]; exact hoi⟩
  · rcases List.mem_cons.mp hb with e | hb
    · exact .inl (by rw [e]; exact List.mem_cons_self ..)
    rcases List.mem_cons.mp hb with e | hb
    · exact .inl (by rw [e]; exact List.mem_cons_of_mem _ (List.mem_cons_self ..))
    · exact .inr (.inl ⟨ol, by rw [List.mem_singleton.mp hb]; exact hol⟩)
  · intro p hp hm
    have hlp := Heap.lt_size (N p hp).1
    rcases List.mem_cons.mp hm with e | hm
    · exact absurd hlp (by rw [e]; exact Nat.not_lt.mpr (Nat.le_succ _))
    · exact absurd hlp (by rw [List.mem_singleton.mp hm]; exact Nat.lt_irrefl _)
  · rintro i v m₁ news₁ h tk its hi ⟨T, vals, rfl, ⟨t, x, hx, rfl⟩, hT⟩ hJ off hmap F₁ N₁
    obtain ⟨oE, oI, rfl⟩ := its_two hmap
    exact turn _ (fun p hp => Heap.lt_size (N p hp).1) i T t x m₁ news₁ h tk oE oI (by simpa using hx) hT hJ (fun p hp => ⟨fun e => off p hp (by rw [e]; exact List.mem_cons_self ..), fun e => off p hp (by rw [e]; exact List.mem_cons_of_mem _ (List.mem_cons_self ..))⟩) F₁ N₁
  · intro h tk m' news' F' N' _ hJ
    exact done h tk m' news' F' N' hJ

/-- unpacking a pair into two local names -/
theorem assign2 {E : Value → Shared → Prop} {cn : Str} {cs : Scope} {L fa : Addr} {ccd : Value} {cl : List (Str × Addr)} {x y : Str} {px py pos : Pos} {k : Nat} {T : Addr} {a b : Value} {m : Str → Option Value} {news : List (Addr × Obj)} {Q : Unit → Shared → Prop}
    (hh : A.handled = none) (ht : s.heap.IsTuple T #[a, b]) (F : Fr h₀ L s.heap m) (N : News h₀ L s.heap news)
    (h : ∀ h' tk', Fr h₀ L h' (fun z => if z = y then some b else if z = x then some a else m z) → News h₀ L h' news → Q () { s with heap := h', toks := tk' })
    (hk : cs.kind = .function) (hx : (envX cn cs L fa ccd cl).kindOf x = some .local) (hy : (envX cn cs L fa ccd cl).kindOf y = some .local) :
    wpAny (model prog w) A (assign (.Tuple [.Name x px, .Name y py] k pos) (envX cn cs L fa ccd cl) (.ref T)) Q E s := by
  refine wpAny_assign_Tuple hh ht rfl rfl fun h₁ ext => ?_
  have F₁ : Fr h₀ L h₁ m := ⟨F.ns.at' fun o e => ext _ o (Nat.ne_of_lt F.ns.lt) e, fun b o e => ext b o (Nat.ne_of_lt (Heap.lt_size (F.keep b o e))) (F.keep b o e), F.above⟩
  have N₁ : News h₀ L h₁ news := fun p hp => ⟨ext _ _ (Nat.ne_of_lt (Heap.lt_size (N p hp).1)) (N p hp).1, (N p hp).2⟩
  show wpAny _ _ (assignInOrder [assign (.Name x px) _, assign (.Name y py) _] [a, b]) _ _ _
  refine wpAny_assignInOrder_more (wpAny_assign_Name (storeX_L F₁ N₁ (fun h₂ F₂ N₂ => ?_) hk hx))
  refine wpAny_assignInOrder_more (wpAny_assign_Name (storeX_L F₂ N₂ (fun h₃ F₃ N₃ => ?_) hk hy))
  exact wpAny_assignInOrder_none (h _ _ F₃ N₃)
end
end Mine

end

-- FmDef
section
open PySem PySem.W PySem.Calls PyProof.Rows
set_option maxRecDepth 100000
namespace Mine
def pk (u : Nat) : List (Nat × Nat) → Nat
  | [] => 45
  | (b, c) :: r => if u &&& b = b then c else pk u r
def fmCodes (u : Nat) : List Nat := [63, pk u [(256, 114)], pk u [(128, 119)], pk u [(2112, 115), (2048, 83), (64, 120)], pk u [(32, 114)], pk u [(16, 119)], pk u [(1032, 115), (1024, 83), (8, 120)], pk u [(4, 114)], pk u [(2, 119)], pk u [(513, 116), (512, 84), (1, 120)]]
def fmStrs (u : Nat) : List Str := (fmCodes u).map fun c => ⟨#[c]⟩
def fm (u : Nat) : Str := ⟨(fmCodes u).toArray⟩
abbrev tabTop : List Value := [.ref 36, .ref 38, .ref 40, .ref 44, .ref 46, .ref 48, .ref 52, .ref 54, .ref 56, .ref 60]

def PairsAt (h : Heap) (refs : List Addr) (tab : List (Nat × Nat)) : Prop := ∀ (k : Nat) (a : Addr), refs[k]? = some a → ∃ (b c : Nat) (tb tc : Tok), tab[k]? = some (b, c) ∧ h.IsTuple a #[.int (b : Int) tb, .str ⟨#[c]⟩ tc]
theorem PairsAt.nil {h : Heap} : PairsAt h [] [] := fun k a e => by simp at e
theorem PairsAt.cons {h : Heap} {a : Addr} {r : List Addr} {b c : Nat} {tb tc : Tok} {tab : List (Nat × Nat)} (ht : h.IsTuple a #[.int (b : Int) tb, .str ⟨#[c]⟩ tc]) (hr : PairsAt h r tab) : PairsAt h (a :: r) ((b, c) :: tab) := fun k a' e => by
  cases k with
  | zero => simp at e; subst e; exact ⟨b, c, tb, tc, rfl, ht⟩
  | succ k => exact hr k a' (by simpa using e)

structure TabAt (h : Heap) (u i : Nat) (ta : Addr) (refs : List Addr) (tab : List (Nat × Nat)) : Prop where
  tup : h.IsTuple ta ((refs.map Value.ref).toArray)
  pairs : PairsAt h refs tab
  len : tab.length = refs.length
  zero : i = 0 → ∀ p ∈ tab, p.1 ≠ 0
  code : (fmCodes u)[i]? = some (if i = 0 then 63 else pk u tab)

theorem tabs_at {w : World} {h : Heap} (X : (hd.heap_39 w.params).In h) (u i : Nat) {x : Value} (e : tabTop[i]? = some x) : ∃ ta refs tab, x = .ref ta ∧ TabAt h u i ta refs tab := by
  have tp : ∀ (a : Addr) (b c : Nat) (tb tc : Tok) (n : Nat), (hd.heap_39 w.params).lookup a = some { cls := .type "tuple", data := .seq #[.int (b : Int) tb, .str ⟨#[c]⟩ tc] n } → h.IsTuple a #[.int (b : Int) tb, .str ⟨#[c]⟩ tc] := fun a b c tb tc n q => ⟨_, X _ _ q, rfl, n, rfl⟩
  have hi : i < 10 := by
    have := (List.getElem?_eq_some_iff.mp e).1
    simpa using this
  have hc : i = 0 ∨ i = 1 ∨ i = 2 ∨ i = 3 ∨ i = 4 ∨ i = 5 ∨ i = 6 ∨ i = 7 ∨ i = 8 ∨ i = 9 := by omega
  rcases hc with rfl | rfl | rfl | rfl | rfl | rfl | rfl | rfl | rfl | rfl
  · exact ⟨36, [29, 30, 31, 32, 33, 34, 35], [(40960, 108), (49152, 115), (32768, 45), (24576, 98), (16384, 100), (8192, 99), (4096, 112)], (Option.some.inj e).symm,
      ⟨⟨_, X 36 _ rfl, rfl, _, rfl⟩, .cons (tp 29 40960 108 _ _ _ rfl) (.cons (tp 30 49152 115 _ _ _ rfl) (.cons (tp 31 32768 45 _ _ _ rfl) (.cons (tp 32 24576 98 _ _ _ rfl) (.cons (tp 33 16384 100 _ _ _ rfl) (.cons (tp 34 8192 99 _ _ _ rfl) (.cons (tp 35 4096 112 _ _ _ rfl) .nil)))))), rfl, by decide, rfl⟩⟩
  · exact ⟨38, [37], [(256, 114)], (Option.some.inj e).symm, ⟨⟨_, X 38 _ rfl, rfl, _, rfl⟩, .cons (tp 37 256 114 _ _ _ rfl) .nil, rfl, by decide, rfl⟩⟩
  · exact ⟨40, [39], [(128, 119)], (Option.some.inj e).symm, ⟨⟨_, X 40 _ rfl, rfl, _, rfl⟩, .cons (tp 39 128 119 _ _ _ rfl) .nil, rfl, by decide, rfl⟩⟩
  · exact ⟨44, [41, 42, 43], [(2112, 115), (2048, 83), (64, 120)], (Option.some.inj e).symm, ⟨⟨_, X 44 _ rfl, rfl, _, rfl⟩, .cons (tp 41 2112 115 _ _ _ rfl) (.cons (tp 42 2048 83 _ _ _ rfl) (.cons (tp 43 64 120 _ _ _ rfl) .nil)), rfl, by decide, rfl⟩⟩
  · exact ⟨46, [45], [(32, 114)], (Option.some.inj e).symm, ⟨⟨_, X 46 _ rfl, rfl, _, rfl⟩, .cons (tp 45 32 114 _ _ _ rfl) .nil, rfl, by decide, rfl⟩⟩
  · exact ⟨48, [47], [(16, 119)], (Option.some.inj e).symm, ⟨⟨_, X 48 _ rfl, rfl, _, rfl⟩, .cons (tp 47 16 119 _ _ _ rfl) .nil, rfl, by decide, rfl⟩⟩
  · exact ⟨52, [49, 50, 51], [(1032, 115), (1024, 83), (8, 120)], (Option.some.inj e).symm, ⟨⟨_, X 52 _ rfl, rfl, _, rfl⟩, .cons (tp 49 1032 115 _ _ _ rfl) (.cons (tp 50 1024 83 _ _ _ rfl) (.cons (tp 51 8 120 _ _ _ rfl) .nil)), rfl, by decide, rfl⟩⟩
  · exact ⟨54, [53], [(4, 114)], (Option.some.inj e).symm, ⟨⟨_, X 54 _ rfl, rfl, _, rfl⟩, .cons (tp 53 4 114 _ _ _ rfl) .nil, rfl, by decide, rfl⟩⟩
  · exact ⟨56, [55], [(2, 119)], (Option.some.inj e).symm, ⟨⟨_, X 56 _ rfl, rfl, _, rfl⟩, .cons (tp 55 2 119 _ _ _ rfl) .nil, rfl, by decide, rfl⟩⟩
  · exact ⟨60, [57, 58, 59], [(513, 116), (512, 84), (1, 120)], (Option.some.inj e).symm, ⟨⟨_, X 60 _ rfl, rfl, _, rfl⟩, .cons (tp 57 513 116 _ _ _ rfl) (.cons (tp 58 512 84 _ _ _ rfl) (.cons (tp 59 1 120 _ _ _ rfl) .nil)), rfl, by decide, rfl⟩⟩

theorem and_nat (u b : Nat) : Builtin.bitAnd (u : Int) (b : Int) = ((u &&& b : Nat) : Int) := by
  rw [bitAnd_pp (Int.natCast_nonneg _) (Int.natCast_nonneg _)]; simp
theorem ifmt_zero {u : Nat} (hu : u < 4096) : Builtin.bitAnd (u : Int) 61440 = 0 := by
  rw [show (61440 : Int) = ((61440 : Nat) : Int) from rfl, and_nat]
  have h : u &&& 61440 = 0 := by
    apply Nat.eq_of_testBit_eq
    intro j
    rw [Nat.testBit_and, Nat.zero_testBit]
    by_cases hj : j < 12
    · have : Nat.testBit 61440 j = false := by
        have hc : j = 0 ∨ j = 1 ∨ j = 2 ∨ j = 3 ∨ j = 4 ∨ j = 5 ∨ j = 6 ∨ j = 7 ∨ j = 8 ∨ j = 9 ∨ j = 10 ∨ j = 11 := by omega
        rcases hc with rfl | rfl | rfl | rfl | rfl | rfl | rfl | rfl | rfl | rfl | rfl | rfl <;> decide
      rw [this, Bool.and_false]
    · have : u.testBit j = false := Nat.testBit_lt_two_pow (Nat.lt_of_lt_of_le hu (by have : 2 ^ 12 ≤ 2 ^ j := Nat.pow_le_pow_right (by decide) (by omega); simpa using this))
      rw [this, Bool.false_and]
  rw [h]; rfl
end Mine

end

-- Filemode
section

open PySem PySem.W PySem.Calls PyProof.Rows
set_option maxRecDepth 100000
set_option maxHeartbeats 8000000
set_option rowWalk.seconds 0
namespace Mine
theorem fr_names {h₀ h : Heap} {L : Addr} {m : Str → Option Value} (F : Fr h₀ L h m) (ps : List (Str × Value)) (e : ∀ p ∈ ps, m p.1 = some p.2) : Fr h₀ L h (kstB m ps) := by
  have : kstB m ps = m := funext fun z => kstB_eq e fun _ => rfl
  rw [this]; exact F
theorem strs_values {vs : List Value} {xs : List Str} (h : StrsAre vs xs) : ∃ l : List (Str × Tok), vs = strValues l ∧ l.map (·.1) = xs := by
  induction h with
  | nil => exact ⟨[], rfl, rfl⟩
  | cons y t _ ih =>
    obtain ⟨l, e1, e2⟩ := ih
    exact ⟨(y, t) :: l, by rw [e1]; rfl, by rw [← e2]; rfl⟩
theorem fm_join (u : Nat) : Txt.join (Str.ofString "") (fmStrs u) = fm u := by
  unfold fmStrs fm fmCodes
  generalize pk u [(256, 114)] = c1
  generalize pk u [(128, 119)] = c2
  generalize pk u [(2112, 115), (2048, 83), (64, 120)] = c3
  generalize pk u [(32, 114)] = c4
  generalize pk u [(16, 119)] = c5
  generalize pk u [(1032, 115), (1024, 83), (8, 120)] = c6
  generalize pk u [(4, 114)] = c7
  generalize pk u [(2, 119)] = c8
  generalize pk u [(513, 116), (512, 84), (1, 120)] = c9
  rfl
theorem fm_joinOk (u : Nat) : JoinOk (Str.ofString "") (fmStrs u) = true := joinOk_of (by
  have e : ((fmStrs u).map (·.length)).sum = 10 := by simp [fmStrs, fmCodes, Str.length]
  have e2 : (Str.ofString "").length = 0 := by decide
  rw [e, e2]; omega)
theorem with_first {P : Prop} {h₀ h : Heap} {L p : Addr} {o : Obj} {news : List (Addr × Obj)} (_N : News h₀ L h ((p, o) :: news)) (k : ∀ q, q = p → P) : P := k p rfl
theorem pk_hit {u k b c : Nat} {tab : List (Nat × Nat)} (htab : tab[k]? = some (b, c)) (h : Builtin.bitAnd (u : Int) (b : Int) = (b : Int)) : pk u (tab.drop k) = c := by
  obtain ⟨hk, e⟩ := List.getElem?_eq_some_iff.mp htab
  rw [List.drop_eq_getElem_cons hk, e]
  rw [and_nat] at h
  have h' : u &&& b = b := by exact_mod_cast h
  simp [pk, h']
theorem pk_miss {u k b c : Nat} {tab : List (Nat × Nat)} (htab : tab[k]? = some (b, c)) (h : ¬ Builtin.bitAnd (u : Int) (b : Int) = (b : Int)) : pk u (tab.drop k) = pk u (tab.drop (k + 1)) := by
  obtain ⟨hk, e⟩ := List.getElem?_eq_some_iff.mp htab
  rw [List.drop_eq_getElem_cons hk, e]
  rw [and_nat] at h
  have h' : ¬ u &&& b = b := by
    intro q
    exact h (by rw [q])
  simp [pk, h']
theorem fm_step {u i c : Nat} {vs : List Value} {y : Str} {tc : Tok} (hs : StrsAre vs ((fmStrs u).take i)) (hy : y = ⟨#[c]⟩) (hc : (fmCodes u)[i]? = some c) : StrsAre (vs ++ [.str y tc]) ((fmStrs u).take (i + 1)) := by
  subst hy
  have e : (fmStrs u).take (i + 1) = (fmStrs u).take i ++ [⟨#[c]⟩] := by
    rw [List.take_add_one]
    simp [fmStrs, hc]
  rw [e]
  exact StrsAre.append' hs (.cons _ _ .nil)
local macro_rules | `(tactic| k_room) => `(tactic| ((try simp only [depth_under_make, depth_under_kw, depth_in1, depth_deeper, depth_caller, depth_At]); decide))
local macro_rules | `(tactic| walk_at "exec For Tuple Call cons nil") => `(tactic| (k_here; (rename Fr _ _ _ _ => lF'); (with_unfolding_all refine' For_FL lF' ?_ ?ks; (case ks => (intro _; with_unfolding_all rfl)); k_whole)))
local macro_rules | `(tactic| walk_at "exec For Tuple Name cons cons") => `(tactic| (k_here; (rename Fr _ _ _ _ => lF'); (with_unfolding_all refine' For_FL lF' ?_ ?ks; (case ks => (intro _; with_unfolding_all rfl)); k_whole)))
theorem filemode_q {w : World} {mean : ExcName → Option Value} {mg mb : Str → Option Value} {base : Heap} {env : Env} {outer : List Env} {s : Shared} {Q : Value → Shared → Prop} {u : Nat} {t : Tok}
    (B : Below (At 303 10 (some []) (env :: outer)) base (env :: outer) s.heap) (X : (hd.heap_39 w.params).In s.heap) (T : Top hd.view_39 (looseW hd.view_39 [Str.ofString "_filemode_table"]) mean mg mb s.heap)
    (hu : u < 4096) (ret : ∀ t' h' tk', (∀ b o, s.heap.get? b = some o → h'.get? b = some o) → Q (.str (fm u) t') { s with heap := h', toks := tk' }) :
    wpAny (model PySem.Challenge.rw_oy0059_01.row.prog w) (At 303 10 (some []) (env :: outer)) (call (.ref 68) [.int u t]) Q (fun _ _ => False) s := by
  w_top off
  k_with_none
  have kf : PySem.Challenge.rw_oy0059_01.row.prog = PySem.Challenge.rw_oy0059_01.row.prog ∧ hd.heap_39 w.params = hd.heap_39 w.params := by
    k_fill
    exact ⟨rfl, rfl⟩
  clear kf
  refine wpAny_call ?_
  k_dflt (refine' enterQ ?k3 ?k5 ?k6 ?k7 ?k8 ?k9 ?kB ?_ ?c2 ?c3 ?c4 ?c5; (case k3 => k_asm); (case k5 => k_asm); (case k6 => k_is); (case k7 => k_is); (case k8 => k_room); (case k9 => exact BindsTo.of_eq rfl); (case c5 => decide); (case kB => exact locs rfl); (case c2 => exact rfl); (case c3 => exact rfl); (case c4 => exact rfl); k_whole; intro L' h' F' N'; (try dsimp only))
  have F1 : Fr s.heap L' h' (fun y => if y = Str.ofString "mode" then some (.int u t) else none) := by
    have e : (fun y => if y = Str.ofString "mode" then some (Value.int (u : Int) t) else none) = (fun y => List.lookup y (List.reverse [(Str.ofString "mode", Value.int (u : Int) t)])) := by
      funext y
      by_cases hy : y = Str.ofString "mode"
      · subst hy; simp
      · have hy' : (y == Str.ofString "mode") = false := by simpa using hy
        simp [hy, hy', List.lookup]
    rw [e]; exact F'
  clear F'
  k_steps
  have ht : s.heap.IsTuple 61 tabTop.toArray := ⟨_, X 61 _ rfl, rfl, _, rfl⟩
  rename Fr _ _ _ _ => F2
  rename News _ _ _ _ => N2
  refine with_first N2 fun p hp => ?_
  subst hp
  k_dflt (refine enumB_FL (fun i m nw => ∃ vs n, m (Str.ofString "perm") = some (.ref p) ∧ m (Str.ofString "mode") = some (.int u t) ∧ nw = [(p, listOf vs.toArray n)] ∧ StrsAre vs ((fmStrs u).take i)) rfl ht F2 N2 ⟨[], 0, rfl, rfl, rfl, .nil⟩ ?turn ?done)
  case turn =>
    intro I lI i T1 t1 x m1 nw h1 tk1 oE oI hx hT1 hJ off F3 N3
    obtain ⟨vs, n, hp, hm, rfl, hs⟩ := hJ
    have F4 := fr_names F3 [(Str.ofString "perm", .ref p), (Str.ofString "mode", .int u t)] (by simp [hp, hm])
    dsimp only [kstB] at F4
    obtain ⟨ta, refs, tab, rfl, TA⟩ := tabs_at X u i hx
    clear F3 F2 N2
    have off1 := off _ (List.mem_singleton.mpr rfl)
    clear off
    k_dflt (refine assign2 rfl hT1 F4 N3 (fun h2 tk2 F5 N5 => ?_) rfl rfl rfl)
    clear F4 N3 hT1
    have lp : @LT.lt Nat _ p I := lI _ (List.mem_singleton.mpr rfl)
    clear lI off1 hp hm
    have hlen : vs.length ≤ 10 := by
      have e := StrsAre.length hs
      have e2 : ((fmStrs u).take i).length ≤ 10 := Nat.le_trans (List.length_take_le' _ _) (by simp [fmStrs, fmCodes])
      omega
    k_steps
    rename Fr _ _ _ _ => F6
    k_dflt (refine tupB_FL (fun k m nw => m (Str.ofString "perm") = some (.ref p) ∧ m (Str.ofString "mode") = some (.int u t) ∧ m (Str.ofString "index") = some (.int i t1) ∧ nw = [(I + 1, oE), (I, oI), (p, listOf vs.toArray n)] ∧ (i ≠ 0 → pk u tab = pk u (tab.drop k))) rfl TA.tup F6 N5 ⟨rfl, rfl, rfl, rfl, fun _ => rfl⟩ ?turn2 ?done2)
    case turn2 =>
      intro I2 lI2 k v2 m2 nw2 h3 tk3 oI2 hv2 hJ2 off2 F7 N7
      obtain ⟨hp2, hm2, hi2, rfl, hpk⟩ := hJ2
      rw [List.getElem?_map] at hv2
      obtain ⟨a, ha, rfl⟩ := Option.map_eq_some_iff.mp hv2
      obtain ⟨b, c, tb, tc, htab, hTa⟩ := TA.pairs k a ha
      have hTa' : h3.IsTuple a #[.int (b : Int) tb, .str ⟨#[c]⟩ tc] := by
        obtain ⟨o, ho, r⟩ := hTa
        exact ⟨o, F7.keep _ _ ho, r⟩
      have F8 := fr_names F7 [(Str.ofString "perm", .ref p), (Str.ofString "mode", .int u t), (Str.ofString "index", .int i t1)] (by simp [hp2, hm2, hi2])
      dsimp only [kstB] at F8
      have l2 : @LT.lt Nat _ (I + 1) I2 := lI2 _ (List.mem_cons_self ..)
      clear lI2 off2 hp2 hm2 hi2 F6 N5 F7
      k_dflt (refine assign2 rfl hTa' F8 N7 (fun h4 tk4 F9 N9 => ?_) rfl rfl rfl)
      clear F8 N7 hTa'
      by_cases hi : i = 0
      · have hz := ifmt_zero hu
        have hb : (b : Int) ≠ 0 := by
          have := TA.zero hi _ (List.mem_of_getElem? htab)
          dsimp only at this
          omega
        k_steps
        all_goals try (exfalso; omega)
        refine TPost.next (by k_asm) (by k_asm) [(I + 1, oE), (I, oI), (p, listOf vs.toArray n)] (fun _ h => h) (off_cons1 (by omega) (off_cons1 (by omega) (off_cons1 (by omega) off_nil))) ⟨rfl, rfl, rfl, rfl, fun q => absurd hi q⟩
      · k_steps
        all_goals try (exfalso; omega)
        · dsimp only [TPost]
          k_steps
          rename News _ _ _ _ => N10
          rw [List.push_toArray] at N10
          refine TPost.next (by k_asm) N10 [(p, listOf (vs ++ [Value.str ⟨#[c]⟩ tc]).toArray (n + 1))] (fun _ h => List.mem_cons_of_mem _ h) (off_cons2 (by omega) (by omega) off_nil) ⟨_, _, rfl, rfl, rfl, fm_step hs rfl ?_⟩
          rw [TA.code, if_neg hi, hpk hi, pk_hit htab (by assumption)]
        · refine TPost.next (by k_asm) (by k_asm) [(I + 1, oE), (I, oI), (p, listOf vs.toArray n)] (fun _ h => h) (off_cons1 (by omega) (off_cons1 (by omega) (off_cons1 (by omega) off_nil))) ⟨rfl, rfl, rfl, rfl, fun q => (hpk q).trans (pk_miss htab (by assumption))⟩
    case done2 =>
      intro h3 tk3 m3 nw3 F7 N7 hJ3
      obtain ⟨hp2, hm2, hi2, rfl, hpk⟩ := hJ3
      have F8 := fr_names F7 [(Str.ofString "perm", .ref p), (Str.ofString "mode", .int u t), (Str.ofString "index", .int i t1)] (by simp [hp2, hm2, hi2])
      dsimp only [kstB] at F8
      clear hp2 hm2 hi2 F6 N5 F7
      k_steps
      · rename News _ _ _ _ => N10
        rw [List.push_toArray] at N10
        refine TPost.next (by k_asm) N10 [(p, listOf (vs ++ [Value.str (Str.ofString "?") _]).toArray (n + 1))] (fun _ h => h) (off_cons2 (by omega) (by omega) off_nil) ⟨_, _, rfl, rfl, rfl, fm_step hs (by decide : Str.ofString "?" = ⟨#[63]⟩) ?_⟩
        rw [TA.code, if_pos (by omega)]
      · rename News _ _ _ _ => N10
        rw [List.push_toArray] at N10
        refine TPost.next (by k_asm) N10 [(p, listOf (vs ++ [Value.str (Str.ofString "-") _]).toArray (n + 1))] (fun _ h => h) (off_cons2 (by omega) (by omega) off_nil) ⟨_, _, rfl, rfl, rfl, fm_step hs (by decide : Str.ofString "-" = ⟨#[45]⟩) ?_⟩
        have hi : i ≠ 0 := by omega
        rw [TA.code, if_neg hi, hpk hi, List.length_map, ← TA.len, List.drop_length]
        rfl
  case done =>
    intro h3 tk3 m3 nw3 F7 N7 hJ3
    obtain ⟨vs, n, hp2, hm2, rfl, hs⟩ := hJ3
    have F8 := fr_names F7 [(Str.ofString "perm", .ref p), (Str.ofString "mode", .int u t)] (by simp [hp2, hm2])
    dsimp only [kstB] at F8
    clear hp2 hm2 F2 N2 F7
    k_steps
    obtain ⟨l, rfl, hl⟩ := strs_values hs
    have hl' : l.map (·.1) = fmStrs u := by rw [hl]; rfl
    refine SC.join (News.isList (by k_asm) (.head _)) hl' (fm_joinOk u) fun t' k => ?_
    rw [fm_join]
    exact ret _ _ _ F8.keep
end Mine

end

-- StrT
section
open PySem PySem.W PySem.Calls PyProof.Rows
set_option maxRecDepth 100000
namespace Mine
section
variable {prog : Program} {w : World} {A : Around} {s : Shared} {env : Env} {h₀ : Heap} {body orelse : List Stmt} {Q : Flow → Shared → Prop}
/-- over a text of small signs, with what is known of the tokens -/
theorem strT_FL {y : Str} {ty : Tok} {m : Str → Option Value} {news : List (Addr × Obj)} {x : Str} {px : Pos} (J : Nat → (Str → Option Value) → List (Addr × Obj) → Prop)
    (hh : A.handled = none) (ha : y.cps.all (· < 128) = true) (F : Fr h₀ env.locals s.heap m) (N : News h₀ env.locals s.heap news) (h0 : J 0 m news)
    (turn : ∀ I, (∀ p ∈ news, p.1 < I) → ∀ i c (t : Nat) m₁ news₁ h tk oI, y.cps[i]? = some c → s.toks ≤ t → t < tk → J i m₁ news₁ → (∀ p ∈ news₁, p.1 ≠ I) → Fr h₀ env.locals h m₁ → News h₀ env.locals h ((I, oI) :: news₁) →
      wpAny (model prog w) A (assign (.Name x px) env (.str ⟨#[c]⟩ t)) (fun _ s₃ => wpAny (model prog w) A (execs body env) (TPost h₀ env.locals s [I] [(I, oI)] (J (i + 1)) Q) (fun _ _ => False) s₃) (fun _ _ => False) { s with heap := h, toks := tk })
    (done : ∀ h tk m' news', Fr h₀ env.locals h m' → News h₀ env.locals h news' → J y.cps.size m' news' → wpAny (model prog w) A (execs orelse env) Q (fun _ _ => False) { s with heap := h, toks := tk }) :
    wpAny (model prog w) A (pyIter (.str y ty)) (fun it s₂ => FL prog w A env (.Name x px) body orelse Q it s₂) (fun _ _ => False) s := by
  refine wpAny_pyIter_ascii ha ?_
  have hI : h₀.get? s.heap.objs.size = none := next_is_new F
  generalize hId : s.heap.objs.size = I at hI ⊢
  have hIs : s.heap.objs.size ≤ I := Nat.le_of_eq hId
  have hLI : env.locals ≠ I := by rw [← hId]; exact Nat.ne_of_lt F.ns.lt
  show codeAny _ _ _ _ _
  refine codeAny_forLoop_any
    (fun k s' => ∃ h' tk m' news' i, s' = { s with heap := h', toks := tk } ∧ s.toks ≤ tk ∧ h'.IsStrIter I "str_ascii_iterator" y ty i ∧ Fr h₀ env.locals h' m' ∧ News h₀ env.locals h' news' ∧ (∀ p ∈ news', p.1 ≠ I) ∧ J i m' news' ∧ i ≤ y.cps.size ∧ k = y.cps.size + 1 - i) ?_ (y.cps.size + 1)
    ⟨_, s.toks, m, news, 0, rfl, Nat.le_refl _, ⟨_, by rw [← hId]; exact Heap.get?_push_size _ rfl, rfl, rfl⟩, F.push _, fun p hp => ⟨Heap.get?_push_of_some _ (N p hp).1, (N p hp).2⟩, fun p hp => by rw [← hId]; exact Nat.ne_of_lt (Heap.lt_size (N p hp).1), h0, Nat.zero_le _, rfl⟩
  rintro k s' ⟨h', tk, m', news', i, rfl, htk, hst', F', N', hnw', hJ, hi, rfl⟩
  have next : ∀ h₁ : Heap, Heap.ExtBut I h' h₁ → Fr h₀ env.locals h₁ m' ∧ News h₀ env.locals h₁ news' := fun h₁ hk₁ =>
    ⟨⟨F'.ns.at' fun o e => hk₁ _ o hLI e, fun b o e => hk₁ b o (fun q => by rw [q, hI] at e; cases e) (F'.keep b o e), F'.above⟩, fun p hp => ⟨hk₁ _ _ (hnw' p hp) (N' p hp).1, (N' p hp).2⟩⟩
  by_cases hlt : i < y.cps.size
  · refine wpAny_pyNext_ascii_item hst' (c := y.cps[i]) (by simp [hlt]) fun h₁ hit₁ hs₁ => ?_
    refine wpAny_pure ?_
    obtain ⟨F₁, N₁⟩ := next h₁ hs₁.extBut
    obtain ⟨oI, hoI, hr⟩ := id hit₁
    have N₂ : News h₀ env.locals h₁ ((I, oI) :: news') := fun p hp => by
      rcases List.mem_cons.mp hp with rfl | hp
      · exact ⟨hoI, Ne.symm hLI, hI⟩
      · exact N₁ p hp
    have T := turn I (fun p hp => by rw [← hId]; exact Heap.lt_size (N p hp).1) i y.cps[i] tk m' news' h₁ (tk + 1) oI (by simp [hlt]) htk (Nat.lt_succ_self _) hJ hnw' F₁ N₂
    have fin : ∀ s₃ : Shared, s.toks ≤ s₃.toks → TEnd h₀ env.locals s [I] [(I, oI)] (J (i + 1)) s₃ → ∃ k, k < y.cps.size + 1 - i ∧ ∃ h' tk m' news' i, s₃ = { s with heap := h', toks := tk } ∧ s.toks ≤ tk ∧ h'.IsStrIter I "str_ascii_iterator" y ty i ∧ Fr h₀ env.locals h' m' ∧ News h₀ env.locals h' news' ∧ (∀ p ∈ news', p.1 ≠ I) ∧ J i m' news' ∧ i ≤ y.cps.size ∧ k = y.cps.size + 1 - i := by
      rintro s₃ htk₃ ⟨h₃, tk₃, m₃, news₃, rfl, F₃, N₄, off, hJ₃⟩
      refine ⟨y.cps.size + 1 - (i + 1), by omega, h₃, tk₃, m₃, news₃, i + 1, rfl, htk₃, ⟨oI, (N₄ (I, oI) (.head _)).1, hr⟩, F₃, fun p hp => N₄ p (List.mem_append_right _ hp), fun p hp e => off p hp (List.mem_singleton.mpr e), hJ₃, hlt, rfl⟩
    refine wpAny_mono (wpAny_toks_of (n := s.toks) (Nat.le_succ_of_le htk) T) (fun _ s₂ h₂ => wpAny_mono (wpAny_toks_of h₂.1 h₂.2) (fun f s₃ h₃ => ?_) fun _ _ e => e.2.elim) fun _ _ e => e.2.elim
    cases f with
    | ret v => exact h₃.2
    | brk => exact h₃.2
    | cont => exact fin _ h₃.1 h₃.2
    | next => exact fin _ h₃.1 h₃.2
  · have hin : i = y.cps.size := by omega
    subst hin
    refine wpAny_pyNext_ascii_end hh hst' (by simp) fun h₁ hk₁ => ?_
    obtain ⟨F₁, N₁⟩ := next h₁ hk₁
    exact wpAny_mono (done h₁ tk m' news' F₁ N₁ hJ) (fun _ _ x => x) (fun _ _ x => x.elim)
end

theorem is_str {M : Model} {A : Around} {E : Value → Shared → Prop} {s : Shared} {y z : Str} {u v : Nat} {Q : Value → Shared → Prop}
    (hu : @Ne Nat u 0) (hv : @Ne Nat v 0) (hne : y ≠ z → @Ne Nat u v) (hb : NoneBooked s.heap) (hq : ∀ b, (b = true → y = z) → Q (.bool b) s) : wpAny M A (compareOp .Is (.str y u) (.str z v)) Q E s := by
  show wpAny M A (do return .bool (← isSame (.str y u) (.str z v))) Q E s
  refine wpAny_bind ?_
  by_cases hyz : y = z
  · exact wpAny_isSame_str (by simp [hu, hv]) hb fun b => wpAny_pure (hq b fun _ => hyz)
  · refine wpAny_of_eq (isSame_str_other y z u v (by simp [hu, hv]) (by simpa using hne hyz) (by simpa using hyz)) (wpAny_pure (hq _ fun h => nomatch h))
end Mine

end

-- Cnt
section

open PySem PySem.W PySem.Calls PyProof.Rows
set_option maxRecDepth 100000
set_option maxHeartbeats 8000000
set_option rowWalk.seconds 0
namespace Mine
-- one line more than the text before: the walk keeps its table of lines by their number
local macro_rules | `(tactic| walk_at "no such key") => `(tactic| fail)
theorem cnt_hit {x : Str} {i c : Nat} (hx : x.cps[i]? = some c) (hc : c = 45) : (((x.cps.toList.take (i + 1)).count 45 : Nat) : Int) = (((x.cps.toList.take i).count 45 : Nat) : Int) + 1 := by
  have h : x.cps.toList[i]? = some c := by simpa using hx
  rw [List.take_add_one, h, hc]; simp
theorem cnt_miss {x : Str} {i c : Nat} (hx : x.cps[i]? = some c) (hc : c ≠ 45) : (((x.cps.toList.take (i + 1)).count 45 : Nat) : Int) = (((x.cps.toList.take i).count 45 : Nat) : Int) := by
  have h : x.cps.toList[i]? = some c := by simpa using hx
  rw [List.take_add_one, h]; simp [hc]
theorem dash_is {c : Nat} : (⟨#[c]⟩ : Str) = Str.ofString "-" ↔ c = 45 := by
  rw [show Str.ofString "-" = ⟨#[45]⟩ by decide]; simp
theorem none_booked_K {w : World} {h : Heap} (X : (hd.heap_39 w.params).In h) : NoneBooked h := ⟨fun _ => none, ⟨_, _, _, X 2 _ rfl, rfl, (by intro e he; simp at he), fun _ => rfl⟩, rfl⟩
local macro_rules | `(tactic| k_room) => `(tactic| ((try simp only [depth_under_make, depth_under_kw, depth_in1, depth_deeper, depth_caller, depth_At]); decide))
local macro_rules | `(tactic| walk_at "exec For Name Name cons nil") => `(tactic| (k_here; (rename Fr _ _ _ _ => lF'); (with_unfolding_all refine' For_FL lF' ?_ ?ks; (case ks => (intro _; with_unfolding_all rfl)); k_whole)))
local macro_rules | `(tactic| walk_at "compareOp Is str str") => `(tactic| (k_here; (refine is_str (by omega) (by omega) (by intro _; omega) (none_booked_K (Frag.In.keeps (by k_asm) (Fr.keep (by k_asm)))) ?_); intro bq hbq))
theorem countOf_q {w : World} {mean : ExcName → Option Value} {mg mb : Str → Option Value} {base : Heap} {env : Env} {outer : List Env} {s : Shared} {Q : Value → Shared → Prop} {x : Str} {t1 : Tok} {t2 : Nat}
    (B : Below (At 303 10 (some []) (env :: outer)) base (env :: outer) s.heap) (X : (hd.heap_39 w.params).In s.heap) (T : Top hd.view_39 (looseW hd.view_39 [Str.ofString "_filemode_table"]) mean mg mb s.heap)
    (ha : x.cps.all (· < 128) = true) (ht0 : @Ne Nat t2 0) (ht : @LT.lt Nat _ t2 s.toks)
    (ret : ∀ t' h' tk', (∀ b o, s.heap.get? b = some o → h'.get? b = some o) → Q (.int ((x.cps.toList.count 45 : Nat) : Int) t') { s with heap := h', toks := tk' }) :
    wpAny (model PySem.Challenge.rw_oy0059_01.row.prog w) (At 303 10 (some []) (env :: outer)) (call (.ref 103) [.str x t1, .str (Str.ofString "-") t2]) Q (fun _ _ => False) s := by
  w_top off
  k_with_none
  have kf : PySem.Challenge.rw_oy0059_01.row.prog = PySem.Challenge.rw_oy0059_01.row.prog ∧ hd.heap_39 w.params = hd.heap_39 w.params := by
    k_fill
    exact ⟨rfl, rfl⟩
  clear kf
  refine wpAny_call ?_
  k_dflt (refine' enterT ?k3 ?k5 ?k6 ?k7 ?k8 ?k9 ?kB ?_ ?c2 ?c3 ?c4 ?c5; (case k3 => k_asm); (case k5 => k_asm); (case k6 => k_is); (case k7 => k_is); (case k8 => k_room); (case k9 => exact BindsTo.of_eq rfl); (case c5 => decide); (case kB => exact locs rfl); (case c2 => exact rfl); (case c3 => exact rfl); (case c4 => exact rfl); k_whole; intro L' h' tk0 htk0 F' N'; (try dsimp only))
  have F1 := fr_names F' [(Str.ofString "a", .str x t1), (Str.ofString "b", .str (Str.ofString "-") t2)] (List.forall_mem_cons.mpr ⟨rfl, List.forall_mem_cons.mpr ⟨rfl, List.forall_mem_nil _⟩⟩)
  dsimp only [kstB] at F1
  clear F'
  k_steps
  rename Fr _ _ _ _ => F2
  rename News _ _ _ _ => N2
  k_dflt (refine strT_FL (fun i m nw => nw = [] ∧ m (Str.ofString "b") = some (.str (Str.ofString "-") t2) ∧ ∃ tc, m (Str.ofString "count") = some (.int (((x.cps.toList.take i).count 45 : Nat) : Int) tc)) rfl ha F2 N2 ⟨rfl, rfl, _, rfl⟩ ?turn ?done)
  case turn =>
    intro I lI i c t3 m1 nw h1 tk1 oI hx ht3 ht3' hJ off F3 N3
    obtain ⟨rfl, hb, tc, hc⟩ := hJ
    have F4 := fr_names F3 [(Str.ofString "b", .str (Str.ofString "-") t2), (Str.ofString "count", .int (((x.cps.toList.take i).count 45 : Nat) : Int) tc)] (by simp [hb, hc])
    dsimp only [kstB] at F4
    dsimp only at ht3
    clear F2 N2 F3 lI off hb hc
    refine wpAny_assign_Name ?_
    k_steps
    · refine TPost.next (by k_asm) (by k_asm) [] (fun _ h => h) off_nil ⟨rfl, rfl, ?_⟩
      rename (_ = true → _) => hbq
      rw [cnt_hit hx (dash_is.mp (hbq (by assumption)))]
      exact ⟨_, rfl⟩
    · refine TPost.next (by k_asm) (by k_asm) [] (fun _ h => h) off_nil ⟨rfl, rfl, ?_⟩
      rename (_ == _) = true => hbq
      rw [cnt_hit hx (dash_is.mp (eq_of_beq hbq))]
      exact ⟨_, rfl⟩
    · refine TPost.next (by k_asm) (by k_asm) [] (fun _ h => h) off_nil ⟨rfl, rfl, ?_⟩
      rename (_ == _) = false => hbq
      rw [cnt_miss hx fun q => ne_of_beq_false hbq (dash_is.mpr q)]
      exact ⟨_, rfl⟩
  case done =>
    intro h3 tk3 m3 nw3 F7 N7 hJ3
    obtain ⟨rfl, hb, tc, hc⟩ := hJ3
    have F8 := fr_names F7 [(Str.ofString "count", .int _ tc)] (by intro p hp; rw [List.mem_singleton.mp hp]; exact hc)
    dsimp only [kstB] at F8
    clear F2 N2 F7 hb hc
    k_steps
    have e : x.cps.toList.take x.cps.size = x.cps.toList := List.take_of_length_le (by simp)
    rw [e]
    exact ret _ _ _ F8.keep
end Mine

end

-- Bits
section
open PySem PySem.W PySem.Calls PyProof.Rows
namespace Mine
theorem xor_and_sum : ∀ (n a b : Nat), a ≤ n → (a ^^^ b) + 2 * (a &&& b) = a + b
  | 0, a, b, h => by
    have : a = 0 := by omega
    subst this; simp
  | n + 1, a, b, h => by
    by_cases ha : a = 0
    · subst ha; simp
    · have ih := xor_and_sum n (a / 2) (b / 2) (by omega)
      have h1 : (a ^^^ b) / 2 = a / 2 ^^^ b / 2 := Nat.xor_div_two
      have h2 : (a &&& b) / 2 = a / 2 &&& b / 2 := Nat.and_div_two
      have h3 : (a ^^^ b) % 2 = 1 ↔ ¬(a % 2 = 1 ↔ b % 2 = 1) := Nat.xor_mod_two_eq_one
      have h4 : (a &&& b) % 2 = 1 ↔ a % 2 = 1 ∧ b % 2 = 1 := Nat.and_mod_two_eq_one
      omega
theorem xor_nat (a b : Nat) : Builtin.bitXor (a : Int) (b : Int) = ((a ^^^ b : Nat) : Int) := by
  rw [bitXor_and, and_nat]
  have := xor_and_sum a a b (Nat.le_refl _)
  omega
theorem mask_nat (x : Int) : ∃ r : Nat, r < 4096 ∧ Builtin.bitAnd x 4095 = (r : Int) := by
  have h := kbt_mask x 12
  have e : (2 ^ 12 - 1 : Int) = 4095 := by decide
  have e2 : (2 ^ 12 : Int) = 4096 := by decide
  rw [e, e2] at h
  refine ⟨(x % 4096).toNat, by omega, ?_⟩
  rw [h]; omega
theorem xor_mask {a x : Int} (h0 : 0 ≤ a) (h1 : a < 4096) : 0 ≤ Builtin.bitXor a (Builtin.bitAnd x 4095) ∧ Builtin.bitXor a (Builtin.bitAnd x 4095) < 4096 := by
  obtain ⟨r, hr, e⟩ := mask_nat x
  obtain ⟨n, rfl⟩ := Int.eq_ofNat_of_zero_le h0
  rw [e, xor_nat]
  have hn : n < 2 ^ 12 := by omega
  have := Nat.xor_lt_two_pow hn (show r < 2 ^ 12 by omega)
  omega
theorem files_keep {fs : List Int} {i : Nat} {x : Int} (hl : fs.length = 4) (hv : ∀ v ∈ fs, 0 ≤ v ∧ v < 4096) :
    (fs.set i (Builtin.bitXor (fs.getD i 0) (Builtin.bitAnd x 4095))).length = 4 ∧ ∀ v ∈ fs.set i (Builtin.bitXor (fs.getD i 0) (Builtin.bitAnd x 4095)), 0 ≤ v ∧ v < 4096 := by
  refine ⟨by rw [List.length_set]; exact hl, fun v hm => ?_⟩
  rcases List.mem_or_eq_of_mem_set hm with h | h
  · exact hv v h
  · rw [h]
    have : 0 ≤ fs.getD i 0 ∧ fs.getD i 0 < 4096 := by
      rw [List.getD_eq_getElem?_getD]
      cases e : fs[i]? with
      | none => simp
      | some y => exact hv y (List.mem_of_getElem? e)
    exact xor_mask this.1 this.2
end Mine

end

-- Files
section
open PySem PySem.W PySem.Calls PyProof.Rows
set_option maxRecDepth 100000
set_option maxHeartbeats 8000000
set_option rowWalk.seconds 0
namespace Mine
local macro_rules | `(tactic| k_room) => `(tactic| ((try simp only [depth_under_make, depth_under_kw, depth_in1, depth_deeper, depth_caller, depth_At]); decide))
theorem files_q {w : World} {mean : ExcName → Option Value} {mg mb : Str → Option Value} {base : Heap} {env : Env} {outer : List Env} {s : Shared} {Q : Value → Shared → Prop} {l : Addr} {vs : List Value} {ns : List Int}
    (B : Below (At 302 7 (some []) (env :: outer)) base (env :: outer) s.heap) (X : (hd.heap_39 w.params).In s.heap) (T : Top hd.view_39 (looseW hd.view_39 [Str.ofString "_filemode_table"]) mean mg mb s.heap)
    (hl : s.heap.IsList l vs.toArray) (hi : IntsAre vs ns) (hn : ns.length ≤ 63)
    (ret : ∀ a vs' fs n h' tk', (∀ b o, s.heap.get? b = some o → h'.get? b = some o) → s.heap.get? a = none → h'.get? a = some (listOf vs'.toArray n) → IntsAre vs' fs → fs.length = 4 → (∀ v ∈ fs, 0 ≤ v ∧ v < 4096) → Q (.ref a) { s with heap := h', toks := tk' }) :
    wpAny (model PySem.Challenge.rw_oy0059_01.row.prog w) (At 302 7 (some []) (env :: outer)) (call (.ref 117) [.ref l]) Q (fun _ _ => False) s := by
  w_top off
  k_with_none
  have kf : PySem.Challenge.rw_oy0059_01.row.prog = PySem.Challenge.rw_oy0059_01.row.prog ∧ hd.heap_39 w.params = hd.heap_39 w.params := by
    k_fill
    exact ⟨rfl, rfl⟩
  clear kf
  refine wpAny_call ?_
  k_dflt (refine' enterT ?k3 ?k5 ?k6 ?k7 ?k8 ?k9 ?kB ?_ ?c2 ?c3 ?c4 ?c5; (case k3 => k_asm); (case k5 => k_asm); (case k6 => k_is); (case k7 => k_is); (case k8 => k_room); (case k9 => exact BindsTo.of_eq rfl); (case c5 => decide); (case kB => exact locs rfl); (case c2 => exact rfl); (case c3 => exact rfl); (case c4 => exact rfl); k_whole; intro L' h' tk0 htk0 F' N'; (try dsimp only))
  have F1 := fr_names F' [(Str.ofString "script", .ref l)] (List.forall_mem_cons.mpr ⟨rfl, List.forall_mem_nil _⟩)
  dsimp only [kstB] at F1
  clear F'
  k_with "pyIter ref" => k_state (fun pre files => files.length = 4 ∧ ∀ v ∈ files, 0 ≤ v ∧ v < 4096) "files"
  k_with "state" => first | exact files_keep (by assumption) (by assumption) | decide
  k_steps
  rename Fr _ _ _ _ => Fz
  rename News _ _ _ _ => Nz
  exact ret _ _ _ _ _ _ Fz.keep (Nz _ (.head _)).2.2 (Nz _ (.head _)).1 (by assumption) (by assumption) (by assumption)
end Mine

end

-- ListB
section
open PySem PySem.W PySem.Calls PyProof.Rows
set_option maxRecDepth 100000
namespace Mine
section
variable {prog : Program} {w : World} {A : Around} {s : Shared} {env : Env} {h₀ : Heap} {target : Expr} {body orelse : List Stmt} {Q : Flow → Shared → Prop}
/-- over a list that stood before the call and is not touched -/
theorem listB_FL {ax : Addr} {vs : List Value} {m : Str → Option Value} {news : List (Addr × Obj)} (J : Nat → (Str → Option Value) → List (Addr × Obj) → Prop)
    (hh : A.handled = none) (ht : h₀.IsList ax vs.toArray) (F : Fr h₀ env.locals s.heap m) (N : News h₀ env.locals s.heap news) (h0 : J 0 m news)
    (turn : ∀ I, (∀ p ∈ news, p.1 < I) → ∀ i v m₁ news₁ h tk oI, vs[i]? = some v → J i m₁ news₁ → (∀ p ∈ news₁, p.1 ≠ I) → Fr h₀ env.locals h m₁ → News h₀ env.locals h ((I, oI) :: news₁) →
      wpAny (model prog w) A (assign target env v) (fun _ s₃ => wpAny (model prog w) A (execs body env) (TPost h₀ env.locals s [I] [(I, oI)] (J (i + 1)) Q) (fun _ _ => False) s₃) (fun _ _ => False) { s with heap := h, toks := tk })
    (done : ∀ h tk m' news', Fr h₀ env.locals h m' → News h₀ env.locals h news' → J vs.length m' news' → wpAny (model prog w) A (execs orelse env) Q (fun _ _ => False) { s with heap := h, toks := tk }) :
    wpAny (model prog w) A (pyIter (.ref ax)) (fun it s₂ => FL prog w A env target body orelse Q it s₂) (fun _ _ => False) s := by
  obtain ⟨ol, hol, hr⟩ := id ht
  have hts : s.heap.IsList ax vs.toArray := ⟨ol, F.keep _ _ hol, hr⟩
  have hlt : ax < s.heap.objs.size := Heap.lt_size (F.keep _ _ hol)
  have hne : ax ≠ s.heap.objs.size := Nat.ne_of_lt hlt
  have hax : ax < h₀.objs.size := Heap.lt_size hol
  refine wpAny_pyIter_list hts ?_
  have W := Walks.list (prog := prog) (w := w) hh s.heap.objs.size ax hne vs.toArray
  rw [List.size_toArray] at W
  refine oneFL (s := s) (tk0 := s.toks) W (fun i v s Q E st q => letGo_listiter st.1 q) ?_ (next_is_new F) J (fun i h st => let ⟨o, ho, _⟩ := st.1; ⟨o, ho⟩) (fun b hb => ?_) ⟨⟨_, Heap.get?_push_size _ rfl, rfl, rfl⟩, hts.at fun o e => Heap.get?_push_of_some _ e⟩ (F.push _) (fun p hp => ⟨Heap.get?_push_of_some _ (N p hp).1, (N p hp).2⟩) (fun p hp => Nat.ne_of_lt (Heap.lt_size (N p hp).1)) h0 ?_ done
  · intro hm
    rcases List.mem_cons.mp hm with e | hm
    · exact absurd F.ns.lt (e ▸ Nat.lt_irrefl _)
    · exact absurd (Nat.lt_of_lt_of_le hax F.above) ((List.mem_singleton.mp hm) ▸ Nat.lt_irrefl _)
  · rcases List.mem_cons.mp hb with e | hb
    · exact .inl e
    · exact .inr (.inl ⟨ol, by rw [List.mem_singleton.mp hb]; exact hol⟩)
  · intro i v m₁ news₁ h tk oI _ hP hJ off F₁ N₁
    exact turn _ (fun p hp => Heap.lt_size (N p hp).1) i v m₁ news₁ h tk oI (by simpa using hP) hJ off F₁ N₁
end
end Mine

end

-- Comps
section
open PySem PySem.W PySem.Calls PyProof.Rows PyProof.Rows.LCg PyProof.Rows.LCt
set_option maxRecDepth 100000
namespace Mine
section
variable {prog : Program} {w : World} {A : Around} {s : Shared} {env : Env} {h₀ : Heap} {L : Addr} {m : Str → Option Value} {elt ct : Expr} {x : Str} {scope : Scope} {cl : List (Str × Addr)} {S : List (Addr × Obj) → Prop} {P : Nat → Value → Prop} {Fin : List Value → List (Addr × Obj) → Prop} {news : List (Addr × Obj)}

/-- what a turn of a comprehension must leave -/
def CStep (h₀ : Heap) (L : Addr) (m : Str → Option Value) (s : Shared) (led : List (Addr × Obj)) (K : Prop) (s' : Shared) : Prop :=
  ∃ h' tk', s' = { s with heap := h', toks := tk' } ∧ Fr h₀ L h' m ∧ News h₀ L h' led ∧ K
theorem CStep.intro {led all : List (Addr × Obj)} {K : Prop} {h' : Heap} {tk' : Nat} (F : Fr h₀ L h' m) (N : News h₀ L h' all) (sub : ∀ p ∈ led, p ∈ all) (k : K) : CStep h₀ L m s led K { s with heap := h', toks := tk' } :=
  ⟨h', tk', rfl, F, fun p hp => N p (sub p hp), k⟩

theorem comp_U {n : Nat} (Inv : Nat → List Value → Prop) (hS : S news) (fin : ∀ ys, Inv n ys → Fin ys news)
    (step : ∀ i v ys I oI C oC D m₂ h tk, i < n → P i v → Inv i ys → NsObj oC m₂ → m₂ x = some v → Fr h₀ L h m → News h₀ L h ((I, oI) :: (C, oC) :: (D, lst ys) :: news) → Off3 I C D news → ((@Ne Nat I C) ∧ (@Ne Nat I D) ∧ (@Ne Nat C D)) →
      wpAny (model prog w) A (eval elt (compEnvC scope cl C env)) (fun y s' => CStep h₀ L m s ((I, oI) :: (C, oC) :: (D, lst ys) :: news) (Inv (i + 1) (ys ++ [y])) s') (fun _ _ => False) { s with heap := h, toks := tk }) :
    ∀ k i ys, i + k = n → Inv i ys → CompRest prog w A h₀ L m env elt x scope cl s S P Fin k i ys news
  | 0, i, ys, e, h => by
    have e' : i = n := by omega
    subst e'
    exact CompRest.zero (fin ys h)
  | k + 1, i, ys, e, h => CompRest.succ fun v I oI C oC D m₂ hp tk E' hP hC hx F N off ne =>
      wpAny_mono (step i v ys I oI C oC D m₂ hp tk (by omega) hP h hC hx F N off ne) (fun y s' z => by
        obtain ⟨h', tk', rfl, F', N', hk⟩ := z
        exact ⟨h', tk', news, rfl, F', N', off, hS, comp_U Inv hS fin step k (i + 1) (ys ++ [y]) (by omega) hk⟩) fun _ _ z => z.elim

theorem comp_T {n : Nat} (Inv : Nat → List Value → Prop) (hS : S news) (fin : ∀ ys, Inv n ys → Fin ys news)
    (step : ∀ i v ys I oI C oC D m₂ h tk, i < n → P i v → Inv i ys → NsObj oC m₂ → m₂ x = some v → Fr h₀ L h m → News h₀ L h ((I, oI) :: (C, oC) :: (D, lst ys) :: news) → Off3 I C D news → ((@Ne Nat I C) ∧ (@Ne Nat I D) ∧ (@Ne Nat C D)) →
      wpAny (model prog w) A (isTrue ct (compEnvC scope cl C env) (eval ct (compEnvC scope cl C env))) (fun ok s' => if ok = true then
        wpAny (model prog w) A (eval elt (compEnvC scope cl C env)) (fun y s'' => CStep h₀ L m s ((I, oI) :: (C, oC) :: (D, lst ys) :: news) (Inv (i + 1) (ys ++ [y])) s'') (fun _ _ => False) s'
        else CStep h₀ L m s ((I, oI) :: (C, oC) :: (D, lst ys) :: news) (Inv (i + 1) ys) s') (fun _ _ => False) { s with heap := h, toks := tk }) :
    ∀ k i ys, i + k = n → Inv i ys → CompRestT prog w A h₀ L m env ct elt x scope cl s S P Fin k i ys news
  | 0, i, ys, e, h => by
    have e' : i = n := by omega
    subst e'
    exact CompRestT.zero (fin ys h)
  | k + 1, i, ys, e, h => CompRestT.succ fun v I oI C oC D m₂ hp tk E' hP hC hx F N off ne =>
      wpAny_mono (step i v ys I oI C oC D m₂ hp tk (by omega) hP h hC hx F N off ne) (fun ok s' z => by
        cases ok with
        | true =>
          simp only [if_true] at z ⊢
          refine wpAny_mono z (fun y s'' z => ?_) fun _ _ z => z.elim
          obtain ⟨h', tk', rfl, F', N', hk⟩ := z
          exact ⟨h', tk', news, rfl, F', N', off, hS, comp_T Inv hS fin step k (i + 1) (ys ++ [y]) (by omega) hk⟩
        | false =>
          simp only [Bool.false_eq_true, if_false] at z ⊢
          obtain ⟨h', tk', rfl, F', N', hk⟩ := z
          exact ⟨h', tk', news, rfl, F', N', off, hS, comp_T Inv hS fin step k (i + 1) ys (by omega) hk⟩) fun _ _ z => z.elim
end
end Mine

end

-- Rows
section
open PySem PySem.W PySem.Calls PyProof.Rows
set_option maxRecDepth 100000
set_option maxHeartbeats 8000000
set_option rowWalk.seconds 0
namespace Mine
theorem ints_at {vs : List Value} {ns : List Int} {i : Nat} {v : Value} (h : IntsAre vs ns) (e : vs[i]? = some v) : ∃ n t, ns[i]? = some n ∧ v = .int n t := by
  have hl := h.length
  have hi : i < ns.length := by rw [← hl]; exact (List.getElem?_eq_some_iff.mp e).1
  obtain ⟨t, ht⟩ := h.get i ns[i] (by simp [hi])
  rw [e] at ht
  exact ⟨ns[i], t, by simp [hi], Option.some.inj ht⟩
def wdsI (fs : List Int) : List Int := fs.foldl (fun ws f => ws ++ ws.map (fun x => Builtin.bitXor f x)) [0]
theorem wdsI_snoc (fs : List Int) (f : Int) : wdsI (fs ++ [f]) = wdsI fs ++ (wdsI fs).map (fun x => Builtin.bitXor f x) := by simp [wdsI, List.foldl_append]
theorem wdsI_len (n : Nat) : ∀ fs : List Int, fs.length = n → (wdsI fs).length = 2 ^ n := by
  induction n with
  | zero => intro fs h; rw [List.length_eq_zero_iff.mp h]; rfl
  | succ n ih =>
    intro fs h
    have hne : fs ≠ [] := fun e => by rw [e] at h; cases h
    rw [← List.dropLast_concat_getLast hne, wdsI_snoc, List.length_append, List.length_map, ih _ (by rw [List.length_dropLast]; omega)]
    rw [Nat.pow_succ]; omega
theorem wdsI_le {fs : List Int} {i : Nat} (hi : i < 4) : (wdsI (fs.take i)).length ≤ 8 := by
  rw [wdsI_len _ _ rfl]
  have h : (fs.take i).length ≤ 3 := by rw [List.length_take]; omega
  have := Nat.pow_le_pow_right (show 0 < 2 by decide) h
  simpa using this
theorem with_second {P : Prop} {h₀ h : Heap} {L p q : Addr} {o o' : Obj} {news : List (Addr × Obj)} (_N : News h₀ L h ((p, o) :: (q, o') :: news)) (k : ∀ r ob, r = p → ob = o' → P) : P := k p o' rfl rfl
def wdsN (fs : List Nat) : List Nat := fs.foldl (fun ws f => ws ++ ws.map (fun x => f ^^^ x)) [0]
theorem wdsN_cast (fs : List Nat) : wdsI (fs.map fun n : Nat => (n : Int)) = (wdsN fs).map fun n : Nat => (n : Int) := by
  have key : ∀ (fs ws : List Nat), (fs.map fun n : Nat => (n : Int)).foldl (fun ws f => ws ++ ws.map (fun x => Builtin.bitXor f x)) (ws.map fun n : Nat => (n : Int)) = (fs.foldl (fun ws f => ws ++ ws.map (fun x => f ^^^ x)) ws).map fun n : Nat => (n : Int) := by
    intro fs
    induction fs with
    | nil => intro ws; rfl
    | cons f r ih =>
      intro ws
      rw [List.map_cons, List.foldl_cons, List.foldl_cons, ← ih]
      congr 1
      rw [List.map_append, List.map_map, List.map_map]
      congr 1
      refine List.map_congr_left fun x _ => ?_
      exact xor_nat f x
  exact key fs [0]
theorem wdsN_lt {fs : List Nat} (h : ∀ f ∈ fs, f < 4096) : ∀ u ∈ wdsN fs, u < 4096 := by
  have key : ∀ (fs ws : List Nat), (∀ f ∈ fs, f < 4096) → (∀ u ∈ ws, u < 4096) → ∀ u ∈ fs.foldl (fun ws f => ws ++ ws.map (fun x => f ^^^ x)) ws, u < 4096 := by
    intro fs
    induction fs with
    | nil => intro ws _ h; exact h
    | cons f r ih =>
      intro ws hf hw
      refine ih _ (fun g hg => hf g (.tail _ hg)) fun u hu => ?_
      rcases List.mem_append.mp hu with hu | hu
      · exact hw u hu
      · obtain ⟨x, hx, rfl⟩ := List.mem_map.mp hu
        exact Nat.xor_lt_two_pow (n := 12) (hf f (.head _)) (hw x hx)
  exact key fs [0] h (by simp)
section
variable {w : World} {mean : ExcName → Option Value} {mg mb : Str → Option Value} {base h₀ : Heap} {env1 : Env} {outer : List Env} {s : Shared} {Q E : Value → Shared → Prop} {L : Addr} {m : Str → Option Value} {news : List (Addr × Obj)}
theorem filemode_use {u : Nat} {t : Tok} (B : Below (At 302 7 (some []) outer) base outer h₀) (F : Fr h₀ L s.heap m) (X : (hd.heap_39 w.params).In h₀) (N : News h₀ L s.heap news) (T : Top hd.view_39 (looseW hd.view_39 [Str.ofString "_filemode_table"]) mean mg mb h₀)
    (hf : env1.frame = some L) (hk : env1.scope.kind = .function) (hu : u < 4096) (h : ∀ t' h' tk', Fr h₀ L h' m → News h₀ L h' news → Q (.str (fm u) t') { s with heap := h', toks := tk' }) :
    wpAny (model PySem.Challenge.rw_oy0059_01.row.prog w) ((At 302 7 (some []) outer).deeper env1) (call (.ref 68) [.int (u : Int) t]) Q E s :=
  wpAny_mono (filemode_q (pushX B F hf hk) (X.keeps F.keep) (T.keeps F.keep) hu fun t' h' tk' hkp => h t' h' tk' (F.keeps hkp) (N.grown hkp)) (fun _ _ x => x) (fun _ _ x => x.elim)
end
local macro_rules | `(tactic| k_room) => `(tactic| ((try simp only [depth_under_make, depth_under_kw, depth_in1, depth_deeper, depth_caller, depth_At]); decide))
local macro_rules | `(tactic| walk_at "exec For Name Name cons nil") => `(tactic| (k_here; (rename Fr _ _ _ _ => lF'); (with_unfolding_all refine' For_FL lF' ?_ ?ks; (case ks => (intro _; with_unfolding_all rfl)); k_whole)))
local macro_rules | `(tactic| walk_at "call ref") => `(tactic| (k_here; k_dflt (refine' filemode_use ?k1 ?k2 ?k3 ?k4 ?k5 ?k6 ?k7 ?k8 ?_; (case k1 => k_asm); (case k2 => k_asm); (case k3 => k_asm); (case k4 => k_asm); (case k5 => k_asm); (case k6 => exact rfl); (case k7 => exact rfl); (case k8 => assumption); k_whole); intro t' h' tk' F' N'))
theorem rows_q {w : World} {mean : ExcName → Option Value} {mg mb : Str → Option Value} {base : Heap} {env : Env} {outer : List Env} {s : Shared} {Q : Value → Shared → Prop} {l : Addr} {vs : List Value} {fs : List Nat}
    (B : Below (At 302 7 (some []) (env :: outer)) base (env :: outer) s.heap) (X : (hd.heap_39 w.params).In s.heap) (T : Top hd.view_39 (looseW hd.view_39 [Str.ofString "_filemode_table"]) mean mg mb s.heap)
    (hl : s.heap.IsList l vs.toArray) (hi : IntsAre vs (fs.map fun n : Nat => (n : Int))) (hn : fs.length = 4) (hv : ∀ f ∈ fs, f < 4096)
    (ret : ∀ a vs' n h' tk', (∀ b o, s.heap.get? b = some o → h'.get? b = some o) → s.heap.get? a = none → h'.get? a = some (listOf vs'.toArray n) → StrsAre vs' ((wdsN fs).map fm) → Q (.ref a) { s with heap := h', toks := tk' }) :
    wpAny (model PySem.Challenge.rw_oy0059_01.row.prog w) (At 302 7 (some []) (env :: outer)) (call (.ref 122) [.ref l]) Q (fun _ _ => False) s := by
  w_top off
  k_with_none
  have kf : PySem.Challenge.rw_oy0059_01.row.prog = PySem.Challenge.rw_oy0059_01.row.prog ∧ hd.heap_39 w.params = hd.heap_39 w.params := by
    k_fill
    exact ⟨rfl, rfl⟩
  clear kf
  generalize hns : (fs.map fun n : Nat => (n : Int)) = ns at hi
  have hn4 : ns.length = 4 := by rw [← hns, List.length_map, hn]
  refine wpAny_call ?_
  k_dflt (refine' enterQC ?k3 ?k5 ?k6 ?k7 ?k8 ?k9 ?kB ?kD ?_ ?c2 ?c3 ?c4; (case k3 => k_asm); (case k5 => k_asm); (case k6 => k_is); (case k7 => k_is); (case k8 => k_room); (case k9 => exact BindsTo.of_eq rfl); (case kB => exact rfl); (case kD => decide +kernel); (case c2 => exact rfl); (case c3 => exact rfl); (case c4 => exact rfl); k_whole; intro L' h' tk0 cells' F' N' Y'; k_cells Y'; (try simp only [List.cons_append, List.nil_append] at N'); (try dsimp only))
  have F1 := fr_names F' [(Str.ofString "files", .ref l)] (List.forall_mem_cons.mpr ⟨rfl, List.forall_mem_nil _⟩)
  dsimp only [kstB] at F1
  clear F'
  k_steps
  rename Fr _ _ _ _ => F2
  rename News _ _ _ _ => N2
  refine with_second N2 fun wl0 oc0 hp hq => ?_
  subst hp hq
  k_dflt (refine listB_FL (fun i m nw => ∃ wl ws n oc c0, m (Str.ofString "words") = some (.ref wl) ∧ nw = [(wl, listOf ws.toArray n), (L' + 1, oc)] ∧ oc.data = .cell c0 ∧ IntsAre ws (wdsI (ns.take i)) ∧ @LT.lt Nat _ (L' + 1) wl) rfl hl F2 N2 ⟨_, _, _, _, _, rfl, rfl, by assumption, .cons _ _ .nil, by assumption⟩ ?turn ?done)
  case turn =>
    intro I lI i v m1 nw h1 tk1 oI hx hJ off F3 N3
    obtain ⟨wl, ws, n, oc, c0, hw, rfl, hoc, hws, hlt⟩ := hJ
    have F4 := fr_names F3 [(Str.ofString "words", .ref wl)] (by simp [hw])
    dsimp only [kstB] at F4
    have o1 : @Ne Nat wl I := off _ (.head _)
    have o2 : @LT.lt Nat _ (L' + 1) I := lI _ (.tail _ (.head _))
    clear F2 N2 F3 lI off hw
    refine wpAny_assign_Name ?_
    obtain ⟨f, tf, hf, rfl⟩ := ints_at hi hx
    have hi4 : i < 4 := by rw [← hn4]; exact (List.getElem?_eq_some_iff.mp hf).1
    have hwl : (wdsI (ns.take i)).length ≤ 8 := wdsI_le hi4
    have hsz1 : (wdsI (ns.take i)).length ≤ sizeLine := by rw [sizeLine_eq]; omega
    have hsz2 : (wdsI (ns.take i)).length + (wdsI (ns.take i)).length ≤ sizeLine := by rw [sizeLine_eq]; omega
    k_steps
    rename News _ _ _ _ => N9
    have e9 : wdsI (ns.take (i + 1)) = wdsI (ns.take i) ++ (wdsI (ns.take i)).map (fun x => Builtin.bitXor f x) := by
      rw [List.take_add_one, hf]
      exact wdsI_snoc _ _
    refine TPost.next (by k_asm) N9 [_, (L' + 1, _)] (List.forall_mem_cons.mpr ⟨.tail _ (.tail _ (.head _)), List.forall_mem_cons.mpr ⟨.head _, List.forall_mem_cons.mpr ⟨.tail _ (.tail _ (.tail _ (.tail _ (.head _)))), List.forall_mem_nil _⟩⟩⟩) (off_cons1 (by omega) (off_cons1 (by omega) off_nil)) ⟨_, _, _, _, _, rfl, rfl, by assumption, by rw [e9]; assumption, by omega⟩
  case done =>
    intro h3 tk3 m3 nw3 F7 N7 hJ3
    obtain ⟨wl, ws, n, oc, c0, hw, rfl, hoc, hws, hlt⟩ := hJ3
    have F4 := fr_names F7 [(Str.ofString "words", .ref wl)] (by simp [hw])
    dsimp only [kstB] at F4
    clear F2 N2 F7 hw
    rw [List.take_of_length_le (Nat.le_of_eq hi.length.symm), ← hns, wdsN_cast] at hws
    have hlw : (wdsN fs).length = 16 := by
      have := wdsI_len 4 (fs.map fun n : Nat => (n : Int)) (by rw [List.length_map, hn])
      rw [wdsN_cast, List.length_map] at this
      exact this
    have hlv : ws.length = 16 := by rw [hws.length, List.length_map, hlw]
    iterate 5 walk1
    k_dflt (refine LCg.CompSrc.ledger rfl F4 N7 (.head _) (by rw [List.size_toArray, hlv, sizeLine_eq]; omega) fun g => comp_U (n := ws.toArray.size) (fun j ys => StrsAre ys (((wdsN fs).take j).map fm)) (.inr ⟨_, .head _, rfl, _, rfl⟩) ?fin ?step _ 0 [] (Nat.zero_add _) .nil)
    case step =>
      intro j v ys I3 o3 C3 oC3 D3 m4 h4 tk4 hj hP hInv hC hm4 F6 N6 off3 ne3
      obtain ⟨y, ty, hy, rfl⟩ := ints_at hws (by simpa using hP)
      rw [List.getElem?_map] at hy
      obtain ⟨u, hu, rfl⟩ := Option.map_eq_some_iff.mp hy
      have hu' : u < 4096 := wdsN_lt hv u (List.mem_of_getElem? hu)
      clear N7 F4
      k_steps
      refine CStep.intro (by k_asm) (by k_asm) (fun _ h => h) ?_
      rw [List.take_add_one, hu, Option.toList_some, List.map_append]
      exact StrsAre.append' hInv (.cons _ _ .nil)
    case fin =>
      intro ys hys D3 h4 tk4 F6 N6 off3
      rw [List.take_of_length_le (Nat.le_of_eq (by rw [List.size_toArray, hlv, hlw]))] at hys
      exact ret _ _ _ _ _ F6.keep (N6 _ (.head _)).2.2 (N6 _ (.head _)).1 hys
end Mine

end

-- Book
section
open PySem PySem.W PySem.Calls PyProof.Rows
set_option maxRecDepth 100000
set_option maxHeartbeats 8000000
set_option rowWalk.seconds 0
namespace Mine
def dist (x y : Str) : Nat := ((List.range 10).filter fun n => x.cps[n]? != y.cps[n]?).length
def nearS (rs : List Str) (lst : Int) (k j : Nat) : Bool := decide ((dist (rs.getD k Str.empty) (rs.getD j Str.empty) : Int) < lst)
def bookN (nr : Nat → Nat → Bool) : Nat → List Nat
  | 0 => []
  | i + 1 => if (bookN nr i).any (nr i) then bookN nr i else bookN nr i ++ [i]
theorem bookN_lt (nr : Nat → Nat → Bool) : ∀ i, ∀ j ∈ bookN nr i, j < i
  | 0, j, h => nomatch h
  | i + 1, j, h => by
    unfold bookN at h
    split at h
    · exact Nat.lt_succ_of_lt (bookN_lt nr i j h)
    · rcases List.mem_append.mp h with h | h
      · exact Nat.lt_succ_of_lt (bookN_lt nr i j h)
      · rw [List.mem_singleton.mp h]; exact Nat.lt_succ_self _
theorem bookN_len (nr : Nat → Nat → Bool) : ∀ i, (bookN nr i).length ≤ i
  | 0 => Nat.le_refl _
  | i + 1 => by
    unfold bookN
    split
    · exact Nat.le_succ_of_le (bookN_len nr i)
    · rw [List.length_append]; exact Nat.succ_le_succ (bookN_len nr i)
theorem with_four {P : Prop} {h₀ h : Heap} {L a1 a2 a3 a4 : Addr} {o1 o2 o3 o4 : Obj} (_N : News h₀ L h [(a1, o1), (a2, o2), (a3, o3), (a4, o4)]) (k : ∀ b q2 q3 q4, b = a1 → q2 = o2 → q3 = o3 → q4 = o4 → P) : P := k a1 o2 o3 o4 rfl rfl rfl rfl
theorem row_len {rs : List Str} {i : Nat} (hn : rs.length = 16) (hv : ∀ x ∈ rs, x.cps.size = 10) (hi : i < 16) : (rs.getD ((i : Nat) : Int).toNat Str.empty).length = 10 := by
  rw [Int.toNat_natCast, List.getD_eq_getElem?_getD, List.getElem?_eq_getElem (by omega)]
  exact hv _ (List.getElem_mem _)
theorem rs10 : Builtin.Range.rangeSize 0 10 1 = ((10 : Nat) : Int) := by decide
theorem le10 : 10 ≤ sizeLine := by rw [sizeLine_eq]; omega
theorem item_differs {x y : Str} {p : Nat} (hx : x.length = 10) (hy : y.length = 10) (hp : p < 10) : (Txt.item x (p : Int) != Txt.item y (p : Int)) = (x.cps[p]? != y.cps[p]?) := by
  have hx' : p < x.cps.size := by have : x.cps.size = 10 := hx; omega
  have hy' : p < y.cps.size := by have : y.cps.size = 10 := hy; omega
  rw [item_at (x := x) (n := p) (by omega) (by omega) (by omega), item_at (x := y) (n := p) (by omega) (by omega) (by omega)]
  have e1 : x.cps[p]? = some (x.cps.getD p 0) := by simp [Array.getD, hx']
  have e2 : y.cps[p]? = some (y.cps.getD p 0) := by simp [Array.getD, hy']
  rw [e1, e2]
  by_cases h : x.cps.getD p 0 = y.cps.getD p 0
  · rw [h]; simp
  · have h1 : (⟨#[x.cps.getD p 0]⟩ : Str) ≠ ⟨#[y.cps.getD p 0]⟩ := fun q => h (by simpa using q)
    simp only [bne, beq_eq_false_iff_ne.mpr h1, beq_eq_false_iff_ne.mpr (fun q => h (Option.some.inj q) : some (x.cps.getD p 0) ≠ some (y.cps.getD p 0))]
theorem cs_hit {f : Nat → Bool} {p : Nat} {ys : List Value} {v : Value} (h : ys.length = ((List.range p).filter f).length) (hf : f p = true) : (ys ++ [v]).length = ((List.range (p + 1)).filter f).length := by
  rw [List.range_succ, List.filter_append, List.length_append, List.length_append, h]; simp [hf]
theorem cs_miss {f : Nat → Bool} {p : Nat} {ys : List Value} (h : ys.length = ((List.range p).filter f).length) (hf : f p = false) : ys.length = ((List.range (p + 1)).filter f).length := by
  rw [List.range_succ, List.filter_append, List.length_append, h]; simp [hf]
theorem dist_le (x y : Str) : dist x y ≤ 10 := by
  unfold dist
  exact Nat.le_trans (List.length_filter_le _ _) (by simp)
theorem bookN_far {nr : Nat → Nat → Bool} {i : Nat} (h : ∀ j ∈ bookN nr i, nr i j = false) : bookN nr (i + 1) = bookN nr i ++ [i] := by
  have e : (bookN nr i).any (nr i) = false := by
    rw [List.any_eq_false]
    intro j hj
    rw [h j hj]; exact Bool.false_ne_true
  show (if (bookN nr i).any (nr i) = true then _ else _) = _
  rw [e]; rfl
theorem bookN_near {nr : Nat → Nat → Bool} {i j : Nat} (hj : j ∈ bookN nr i) (h : nr i j = true) : bookN nr (i + 1) = bookN nr i := by
  have e : (bookN nr i).any (nr i) = true := List.any_eq_true.mpr ⟨j, hj, h⟩
  show (if (bookN nr i).any (nr i) = true then _ else _) = _
  rw [e]; rfl
theorem with_mem {P : Prop} {h₀ h : Heap} {L a : Addr} {o : Obj} {news : List (Addr × Obj)} (_N : News h₀ L h news) (_hm : (a, o) ∈ news) (k : ∀ b q, b = a → q = o → P) : P := k a o rfl rfl
local macro_rules | `(tactic| k_room) => `(tactic| ((try simp only [depth_under_make, depth_under_kw, depth_in1, depth_deeper, depth_caller, depth_At]); decide))
local macro_rules | `(tactic| walk_at "exec For Name Name cons nil") => `(tactic| (k_here; (rename Fr _ _ _ _ => lF'); (with_unfolding_all refine' For_FL lF' ?_ ?ks; (case ks => (intro _; with_unfolding_all rfl)); k_whole)))
local macro_rules | `(tactic| walk_at "exec For Name Call cons nil") => `(tactic| (k_here; (rename Fr _ _ _ _ => lF'); (with_unfolding_all refine' For_FL lF' ?_ ?ks; (case ks => (intro _; with_unfolding_all rfl)); k_whole)))
local macro_rules | `(tactic| walk_at "eval ListComp") => `(tactic| (k_here; lct_look; k_dflt (refine LCt.ListComp_T (F₀ := by k_asm) (by with_unfolding_all rfl) (by decide) (by rfl) (by decide) (by rfl) ?_)))
theorem book_q {w : World} {mean : ExcName → Option Value} {mg mb : Str → Option Value} {base : Heap} {env : Env} {outer : List Env} {s : Shared} {Q : Value → Shared → Prop} {l : Addr} {vs : List Value} {rs : List Str} {lst : Int} {tl : Tok}
    (B : Below (At 302 7 (some []) (env :: outer)) base (env :: outer) s.heap) (X : (hd.heap_39 w.params).In s.heap) (T : Top hd.view_39 (looseW hd.view_39 [Str.ofString "_filemode_table"]) mean mg mb s.heap)
    (hl : s.heap.IsList l vs.toArray) (hs : StrsAre vs rs) (hn : rs.length = 16) (hv : ∀ x ∈ rs, x.cps.size = 10)
    (ret : ∀ a vs' n h' tk', (∀ b o, s.heap.get? b = some o → h'.get? b = some o) → s.heap.get? a = none → h'.get? a = some (listOf vs'.toArray n) → IntsAre vs' ((bookN (nearS rs lst) 16).map fun n : Nat => (n : Int)) → Q (.ref a) { s with heap := h', toks := tk' }) :
    wpAny (model PySem.Challenge.rw_oy0059_01.row.prog w) (At 302 7 (some []) (env :: outer)) (call (.ref 127) [.ref l, .int lst tl]) Q (fun _ _ => False) s := by
  w_top off
  k_with_none
  have kf : PySem.Challenge.rw_oy0059_01.row.prog = PySem.Challenge.rw_oy0059_01.row.prog ∧ hd.heap_39 w.params = hd.heap_39 w.params := by
    k_fill
    exact ⟨rfl, rfl⟩
  clear kf
  have hvl : vs.length = 16 := by rw [hs.length, hn]
  refine wpAny_call ?_
  k_dflt (refine' enterQC ?k3 ?k5 ?k6 ?k7 ?k8 ?k9 ?kB ?kD ?_ ?c2 ?c3 ?c4; (case k3 => k_asm); (case k5 => k_asm); (case k6 => k_is); (case k7 => k_is); (case k8 => k_room); (case k9 => exact BindsTo.of_eq rfl); (case kB => exact rfl); (case kD => decide +kernel); (case c2 => exact rfl); (case c3 => exact rfl); (case c4 => exact rfl); k_whole; intro L' h' tk0 cells' F' N' Y'; k_cells Y'; (try simp only [List.cons_append, List.nil_append] at N'); (try dsimp only))
  have F1 := fr_names F' [(Str.ofString "least", .int lst tl)] (List.forall_mem_cons.mpr ⟨rfl, List.forall_mem_nil _⟩)
  dsimp only [kstB] at F1
  clear F'
  k_steps
  rename Fr _ _ _ _ => F2
  rename News _ _ _ _ => N2
  rename IsRange _ _ _ _ _ _ _ _ => R2
  refine with_four N2 fun bl oj0 ok0 orw e1 e2 e3 e4 => ?_
  subst e1 e2 e3 e4
  k_dflt (refine range_FL (n := 16) (fun i m nw => ∃ bvs n oj ok cj ck, m (Str.ofString "book") = some (.ref bl) ∧ m (Str.ofString "least") = some (.int lst tl) ∧ nw = [(bl, listOf bvs.toArray n), (L' + 1 + 1 + 1, oj), (L' + 1 + 1, ok), (L' + 1, orw)] ∧ oj.data = .cell cj ∧ ok.data = .cell ck ∧ IntsAre bvs ((bookN (nearS rs lst) i).map fun n : Nat => (n : Int))) rfl R2 (by rw [hn]; decide) (by rw [hn]; rfl) F2 N2 ⟨[], _, _, _, _, _, rfl, rfl, rfl, by assumption, by assumption, .nil⟩ ?turn ?done)
  case turn =>
    intro I lI i t1 m1 nw h1 tk1 oI hi hJ off F3 N3
    obtain ⟨bvs, n, oj, ok, cj, ck, hb, hle, rfl, hoj, hok, hbv⟩ := hJ
    have F4 := fr_names F3 [(Str.ofString "book", .ref bl), (Str.ofString "least", .int lst tl)] (by simp [hb, hle])
    dsimp only [kstB] at F4
    have o1 : @LT.lt Nat _ bl I := lI _ (.head _)
    have hbl := bookN_len (nearS rs lst) i
    have hbl' : bvs.length ≤ 16 := by rw [hbv.length, List.length_map]; omega
    clear F2 N2 F3 lI off hb hle
    have hrw : orw.data = .cell (some (.ref l)) := by assumption
    rw [show (0 : Int) + (i : Int) * 1 = (i : Int) by omega]
    refine wpAny_assign_Name ?_
    k_steps
    rename Fr _ _ _ _ => F5
    rename News _ _ _ _ => N5
    refine with_mem N5 (.tail _ (.tail _ (.tail _ (.head _)))) fun _ ok' _ e => ?_
    subst e
    have hok' : ok'.data = .cell (some (.int (i : Int) t1)) := by assumption
    k_dflt (refine listN_FL (vs := bvs) (nn := n) (fun q m nw => m (Str.ofString "book") = some (.ref bl) ∧ m (Str.ofString "least") = some (.int lst tl) ∧ m (Str.ofString "near") = some (.bool false) ∧ (∃ oj cj, nw = [(I, oI), (bl, listOf bvs.toArray n), (L' + 1 + 1 + 1, oj), (L' + 1 + 1, ok'), (L' + 1, orw)] ∧ oj.data = .cell cj) ∧ ∀ j ∈ (bookN (nearS rs lst) i).take q, nearS rs lst i j = false) rfl ?hmem F5 N5 ⟨rfl, rfl, rfl, ⟨_, _, rfl, hoj⟩, fun j hj => by simp at hj⟩ ?turn2 ?done2)
    case hmem =>
      rintro q m nw ⟨_, _, _, ⟨oj, cj, rfl, _⟩, _⟩
      exact .tail _ (.head _)
    case turn2 =>
      intro I2 lI2 q v2 m2 nw2 h2 tk2 oI2 hv2 hJ2 off2 F6 N6
      obtain ⟨hb2, hle2, hne2, ⟨oj2, cj2, rfl, hoj2⟩, hfar⟩ := hJ2
      have F7 := fr_names F6 [(Str.ofString "book", .ref bl), (Str.ofString "least", .int lst tl), (Str.ofString "near", .bool false)] (by simp [hb2, hle2, hne2])
      dsimp only [kstB] at F7
      have o2 : @LT.lt Nat _ I I2 := lI2 _ (.head _)
      obtain ⟨j0, tj, hj0, rfl⟩ := ints_at hbv hv2
      rw [List.getElem?_map] at hj0
      obtain ⟨j, hj, rfl⟩ := Option.map_eq_some_iff.mp hj0
      have hji : j < i := bookN_lt _ _ _ (List.mem_of_getElem? hj)
      clear F5 N5 F6 lI2 off2 hb2 hle2 hne2
      have hLi := row_len hn hv hi
      have hLj := row_len hn hv (show j < 16 by omega)
      refine wpAny_assign_Name ?_
      iterate 17 walk1
      rename IsRange _ _ _ _ _ _ _ _ => R9
      k_dflt (refine' LCt.CompSrcT.range (n := 10) ?h1 ?F ?N ?hr ?sm ?sz ?le ?_; (case h1 => exact rfl); (case F => with_reducible assumption); (case N => with_reducible assumption); (case hr => exact R9); (case sm => decide); (case sz => exact rs10); (case le => exact le10))
      intro g9
      refine comp_T (n := 10) (fun p ys => ys.length = ((List.range p).filter fun n => (rs.getD (i : Int).toNat Str.empty).cps[n]? != (rs.getD (j : Int).toNat Str.empty).cps[n]?).length) trivial ?fin ?step 10 0 [] rfl rfl
      case step =>
        intro p v ys I3 o3 C3 oC3 D3 m3 h3 tk3 hp hP hInv hC hm3 F8 N8 off3 ne3
        obtain ⟨tp, rfl⟩ := hP
        rw [show (0 : Int) + (p : Int) = (p : Int) by omega] at hm3
        k_steps
        all_goals try (exfalso; omega)
        · rename (_ != _) = true => hd9
          rw [item_differs hLi hLj hp] at hd9
          exact CStep.intro (by k_asm) (by k_asm) (fun _ h => h) (cs_hit hInv hd9)
        · rename (_ != _) = false => hd9
          rw [item_differs hLi hLj hp] at hd9
          exact CStep.intro (by k_asm) (by k_asm) (fun _ h => h) (cs_miss hInv hd9)
      case fin =>
        intro ys hys D3 h3 tk3 F8 N8 off3
        have hys' : ys.toArray.size = dist (rs.getD i Str.empty) (rs.getD j Str.empty) := by
          rw [List.size_toArray, hys]; rfl
        have hd10 : dist (rs.getD i Str.empty) (rs.getD j Str.empty) ≤ 10 := dist_le _ _
        have hDl : h3.IsList D3 ys.toArray := ⟨_, (N8 _ (.head _)).1, rfl, _, rfl⟩
        k_steps
        · dsimp only [TPost]
          k_steps
          rename News _ _ _ _ => N10
          refine TPost.next (by k_asm) N10 [(bl, listOf bvs.toArray n), (L' + 1 + 1 + 1, _), (L' + 1 + 1, ok'), (L' + 1, orw)] (fun p hp => .tail _ (.tail _ hp)) (off_cons1 (by omega) (off_cons1 (by omega) (off_cons1 (by omega) (off_cons1 (by omega) off_nil)))) ⟨_, _, _, _, _, _, rfl, rfl, rfl, by assumption, hok', ?_⟩
          rw [bookN_near (List.mem_of_getElem? hj) (decide_eq_true (by assumption))]
          exact hbv
        · refine TPost.next (by k_asm) (by k_asm) [(I, oI), (bl, listOf bvs.toArray n), (L' + 1 + 1 + 1, _), (L' + 1 + 1, ok'), (L' + 1, orw)] (fun p hp => List.mem_cons_of_mem _ hp) (off_cons1 (by omega) (off_cons1 (by omega) (off_cons1 (by omega) (off_cons1 (by omega) (off_cons1 (by omega) off_nil))))) ⟨rfl, rfl, rfl, ⟨_, _, rfl, by assumption⟩, ?_⟩
          intro j' hj'
          rw [List.take_add_one, hj] at hj'
          rcases List.mem_append.mp hj' with hj' | hj'
          · exact hfar j' hj'
          · have e : j' = j := by simpa using hj'
            rw [e]
            exact decide_eq_false (by assumption)
    case done2 =>
      intro h3 tk3 m3 nw3 F8 N8 hJ3
      obtain ⟨hb2, hle2, hne2, ⟨oj2, cj2, rfl, hoj2⟩, hfar⟩ := hJ3
      have F9 := fr_names F8 [(Str.ofString "book", .ref bl), (Str.ofString "least", .int lst tl), (Str.ofString "near", .bool false)] (by simp [hb2, hle2, hne2])
      dsimp only [kstB] at F9
      clear F5 N5 F8 hb2 hle2 hne2
      k_steps
      rename News _ _ _ _ => N10
      rw [List.push_toArray] at N10
      refine TPost.next (by k_asm) N10 [(bl, listOf (bvs ++ [Value.int (i : Int) t1]).toArray (n + 1)), (L' + 1 + 1 + 1, oj2), (L' + 1 + 1, ok'), (L' + 1, orw)] (fun _ h => h) (off_cons1 (by omega) (off_cons1 (by omega) (off_cons1 (by omega) (off_cons1 (by omega) off_nil)))) ⟨_, _, _, _, _, _, rfl, rfl, rfl, hoj2, hok', ?_⟩
      rw [bookN_far (fun j hj => hfar j (by rw [List.take_of_length_le (Nat.le_of_eq (by rw [hbv.length, List.length_map]))]; exact hj)), List.map_append]
      exact hbv.append (.cons _ _ .nil)
  case done =>
    intro h3 tk3 m3 nw3 F8 N8 hJ3
    obtain ⟨bvs, n, oj, ok, cj, ck, hb, hle, rfl, hoj, hok, hbv⟩ := hJ3
    have F9 := fr_names F8 [(Str.ofString "book", .ref bl)] (by simp [hb])
    dsimp only [kstB] at F9
    clear F2 N2 F8 hb hle
    k_steps
    exact ret _ _ _ _ _ F9.keep (N8 _ (.head _)).2.2 (N8 _ (.head _)).1 hbv
end Mine

end

-- GDef
section
open PySem PySem.W PySem.Calls PyProof.Rows
namespace Mine
theorem strs_at {vs : List Value} {ns : List Str} : ∀ {i : Nat} {v : Value}, StrsAre vs ns → vs[i]? = some v → ∃ x t, ns[i]? = some x ∧ v = .str x t := by
  intro i v h
  induction h generalizing i with
  | nil => intro e; simp at e
  | cons y t _ ih =>
    intro e
    cases i with
    | zero => exact ⟨y, t, rfl, by simpa using e.symm⟩
    | succ i => simpa using ih (by simpa using e)
def shownI (rs : List Str) : List Int := rs.map fun x => 9 - ((x.cps.toList.count 45 : Nat) : Int)
def okK (lo : Nat → Bool) (g : List Nat) (k : Nat) : Bool := g.all fun j => !lo (k ^^^ j)
def gStep (lo : Nat → Bool) (g : List Nat) (sz : Nat) : List Nat := match (List.range' sz sz).find? (okK lo g) with
  | some k => g ++ g.map fun j => k ^^^ j
  | none => g
def grownN (lo : Nat → Bool) : Nat → List Nat
  | 0 => [0]
  | i + 1 => gStep lo (grownN lo i) (2 ^ i)
theorem gStep_lt {lo : Nat → Bool} {g : List Nat} {i : Nat} (h : ∀ j ∈ g, j < 2 ^ i) : ∀ j ∈ gStep lo g (2 ^ i), j < 2 ^ (i + 1) := by
  have up : 2 ^ i ≤ 2 ^ (i + 1) := Nat.pow_le_pow_right (by decide) (Nat.le_succ _)
  intro j hj
  unfold gStep at hj
  split at hj
  · rename_i k hk
    have hk' := List.mem_of_find?_eq_some hk
    have hk2 : k < 2 ^ (i + 1) := by
      have := List.mem_range'_1.mp hk'
      rw [Nat.pow_succ]; omega
    rcases List.mem_append.mp hj with hj | hj
    · exact Nat.lt_of_lt_of_le (h j hj) up
    · obtain ⟨q, hq, rfl⟩ := List.mem_map.mp hj
      exact Nat.xor_lt_two_pow hk2 (Nat.lt_of_lt_of_le (h q hq) up)
  · exact Nat.lt_of_lt_of_le (h j hj) up
theorem gStep_len {lo : Nat → Bool} {g : List Nat} {sz : Nat} : (gStep lo g sz).length ≤ 2 * g.length := by
  unfold gStep
  split
  · rw [List.length_append, List.length_map]; omega
  · omega
theorem grownN_lt (lo : Nat → Bool) : ∀ i, ∀ j ∈ grownN lo i, j < 2 ^ i
  | 0, j, h => by rw [List.mem_singleton.mp h]; decide
  | i + 1, j, h => gStep_lt (grownN_lt lo i) j h
theorem grownN_len (lo : Nat → Bool) : ∀ i, (grownN lo i).length ≤ 2 ^ i
  | 0 => Nat.le_refl _
  | i + 1 => by
    have := grownN_len lo i
    have h2 : (gStep lo (grownN lo i) (2 ^ i)).length ≤ _ := gStep_len
    rw [Nat.pow_succ]
    show (gStep lo (grownN lo i) (2 ^ i)).length ≤ _
    omega
def lowS (rs : List Str) (lst : Int) (d : Nat) : Bool := decide ((shownI rs).getD d 0 < lst)
theorem size_at {i : Nat} {v : Value} {t1 t2 t3 t4 : Tok} (h : [Value.int 1 t1, .int 2 t2, .int 4 t3, .int 8 t4][i]? = some v) : i < 4 ∧ ∃ t, v = .int ((2 ^ i : Nat) : Int) t := by
  have hi : i < 4 := by
    have := (List.getElem?_eq_some_iff.mp h).1
    simpa using this
  have hc : i = 0 ∨ i = 1 ∨ i = 2 ∨ i = 3 := by omega
  rcases hc with rfl | rfl | rfl | rfl
  · exact ⟨hi, t1, (Option.some.inj h).symm⟩
  · exact ⟨hi, t2, (Option.some.inj h).symm⟩
  · exact ⟨hi, t3, (Option.some.inj h).symm⟩
  · exact ⟨hi, t4, (Option.some.inj h).symm⟩
theorem find_none {p : Nat → Bool} {s q : Nat} (h : ∀ k ∈ List.range' s q, p k = false) : (List.range' s q).find? p = none := by
  rw [List.find?_eq_none]
  intro k hk
  rw [h k hk]; exact Bool.false_ne_true
theorem gStep_hit {lo : Nat → Bool} {g : List Nat} {sz q k : Nat} (hkd : sz + q = k) (hq : q < sz) (hno : ∀ k' ∈ List.range' sz q, okK lo g k' = false) (hok : okK lo g k = true) : gStep lo g sz = g ++ g.map fun j => k ^^^ j := by
  have e : (List.range' sz sz).find? (okK lo g) = some k := by
    have h1 : List.range' sz sz = List.range' sz q ++ List.range' (sz + q) (sz - q) := by
      have := List.range'_append (s := sz) (m := q) (n := sz - q) (step := 1)
      rw [Nat.one_mul] at this
      rw [this]
      congr 1; omega
    have h2 : sz - q = (sz - q - 1) + 1 := by omega
    rw [h1, List.find?_append, find_none hno, Option.none_or, h2, List.range'_succ, hkd, List.find?_cons, hok]
  unfold gStep
  rw [e]
theorem gStep_miss {lo : Nat → Bool} {g : List Nat} {sz : Nat} (hno : ∀ k' ∈ List.range' sz sz, okK lo g k' = false) : gStep lo g sz = g := by
  unfold gStep
  rw [find_none hno]
theorem okK_filter {lo : Nat → Bool} {g : List Nat} {k : Nat} (h : (g.filter fun j => lo (k ^^^ j)).map (fun n : Nat => (n : Int)) = []) : okK lo g k = true := by
  have h1 := List.filter_eq_nil_iff.mp (List.map_eq_nil_iff.mp h)
  unfold okK
  rw [List.all_eq_true]
  intro j hj
  have := h1 j hj
  simpa using this
theorem okK_filter' {lo : Nat → Bool} {g : List Nat} {k : Nat} (h : (g.filter fun j => lo (k ^^^ j)).map (fun n : Nat => (n : Int)) ≠ []) : okK lo g k = false := by
  cases e : okK lo g k with
  | false => rfl
  | true =>
    refine absurd ?_ h
    rw [List.map_eq_nil_iff, List.filter_eq_nil_iff]
    intro j hj
    unfold okK at e
    have := List.all_eq_true.mp e j hj
    simpa using this
theorem grow_cast {g : List Nat} {k : Nat} : (g.map fun n : Nat => (n : Int)) ++ (g.map fun n : Nat => (n : Int)).map (fun j => Builtin.bitXor (k : Int) j) = (g ++ g.map fun j => k ^^^ j).map fun n : Nat => (n : Int) := by
  rw [List.map_append, List.map_map, List.map_map]
  congr 1
  exact List.map_congr_left fun x _ => xor_nat k x
end Mine

end

-- Greedy
section
namespace Mine
theorem lt_xor : ∀ (n x a c : Nat), a ^^^ c ≤ n → x < a ^^^ c → x ^^^ c < a ∨ x ^^^ a < c
  | 0, x, a, c, h, hx => by omega
  | n + 1, x, a, c, h, hx => by
    have e1 : (a ^^^ c) / 2 = a / 2 ^^^ c / 2 := Nat.xor_div_two
    have e2 : (x ^^^ c) / 2 = x / 2 ^^^ c / 2 := Nat.xor_div_two
    have e3 : (x ^^^ a) / 2 = x / 2 ^^^ a / 2 := Nat.xor_div_two
    by_cases hlt : x / 2 < a / 2 ^^^ c / 2
    · rcases lt_xor n (x / 2) (a / 2) (c / 2) (by omega) hlt with h1 | h1
      · left; omega
      · right; omega
    · have he : x / 2 = a / 2 ^^^ c / 2 := by omega
      have m1 : (a ^^^ c) % 2 = 1 ↔ ¬(a % 2 = 1 ↔ c % 2 = 1) := Nat.xor_mod_two_eq_one
      have m2 : (x ^^^ c) % 2 = 1 ↔ ¬(x % 2 = 1 ↔ c % 2 = 1) := Nat.xor_mod_two_eq_one
      have m3 : (x ^^^ a) % 2 = 1 ↔ ¬(x % 2 = 1 ↔ a % 2 = 1) := Nat.xor_mod_two_eq_one
      rw [he, Nat.xor_assoc, Nat.xor_self, Nat.xor_zero] at e2
      rw [he, Nat.xor_comm (a / 2), Nat.xor_assoc, Nat.xor_self, Nat.xor_zero] at e3
      by_cases hc : c % 2 = 1
      · right; omega
      · left; omega
def InB (lo : Nat → Bool) (k : Nat) : Prop := ∀ j ∈ bookN (fun k j => lo (k ^^^ j)) k, lo (k ^^^ j) = false
theorem mem_book (lo : Nat → Bool) (k : Nat) : ∀ n, k ∈ bookN (fun k j => lo (k ^^^ j)) n ↔ k < n ∧ InB lo k
  | 0 => by simp [bookN]
  | n + 1 => by
    have ih := mem_book lo k n
    by_cases hf : InB lo n
    · rw [bookN_far (nr := fun k j => lo (k ^^^ j)) hf, List.mem_append, List.mem_singleton, ih]
      constructor
      · rintro (⟨h1, h2⟩ | rfl)
        · exact ⟨by omega, h2⟩
        · exact ⟨by omega, hf⟩
      · rintro ⟨h1, h2⟩
        by_cases e : k = n
        · exact .inr e
        · exact .inl ⟨by omega, h2⟩
    · have hf' : ∃ j ∈ bookN (fun k j => lo (k ^^^ j)) n, lo (n ^^^ j) = true := Classical.byContradiction fun q => hf fun j hj => by
        cases e : lo (n ^^^ j) with
        | false => rfl
        | true => exact absurd ⟨j, hj, e⟩ q
      obtain ⟨j, hj, e⟩ := hf'
      rw [bookN_near (nr := fun k j => lo (k ^^^ j)) hj e, ih]
      constructor
      · rintro ⟨h1, h2⟩
        exact ⟨by omega, h2⟩
      · rintro ⟨h1, h2⟩
        by_cases e : k = n
        · subst e; exact absurd h2 hf
        · exact ⟨by omega, h2⟩
theorem InB.far {lo : Nat → Bool} {k j : Nat} (h : InB lo k) (hj : j < k) (hb : InB lo j) : lo (k ^^^ j) = false := h j ((mem_book lo j k).mpr ⟨hj, hb⟩)
theorem InB.of {lo : Nat → Bool} {k : Nat} (h : ∀ j, j < k → InB lo j → lo (k ^^^ j) = false) : InB lo k := fun j hj => h j ((mem_book lo j k).mp hj).1 ((mem_book lo j k).mp hj).2
theorem InB.not {lo : Nat → Bool} {k : Nat} (h : ¬ InB lo k) : ∃ j, j < k ∧ InB lo j ∧ lo (k ^^^ j) = true := Classical.byContradiction fun q => h (InB.of fun j hj hb => by
  cases e : lo (k ^^^ j) with
  | false => rfl
  | true => exact absurd ⟨j, hj, hb, e⟩ q)
theorem InB.zero {lo : Nat → Bool} : InB lo 0 := fun j hj => nomatch hj
theorem okK_iff {lo : Nat → Bool} {g : List Nat} {k : Nat} : okK lo g k = true ↔ ∀ j ∈ g, lo (k ^^^ j) = false := by
  simp [okK]
theorem hi_xor_lo {i a j : Nat} (h1 : 2 ^ i ≤ a) (h2 : a < 2 * 2 ^ i) (hj : j < 2 ^ i) : 2 ^ i ≤ a ^^^ j ∧ a ^^^ j < 2 * 2 ^ i := by
  have e : 2 * 2 ^ i = 2 ^ (i + 1) := by rw [Nat.pow_succ]; omega
  constructor
  · refine Nat.le_of_not_lt fun q => ?_
    have := Nat.xor_lt_two_pow q hj
    rw [Nat.xor_assoc, Nat.xor_self, Nat.xor_zero] at this
    omega
  · rw [e]
    exact Nat.xor_lt_two_pow (by omega) (by omega)
theorem hi_xor_hi {i a x : Nat} (h1 : 2 ^ i ≤ a) (h2 : a < 2 * 2 ^ i) (h3 : 2 ^ i ≤ x) (h4 : x < 2 * 2 ^ i) : x ^^^ a < 2 ^ i := by
  have hp : 0 < 2 ^ i := Nat.two_pow_pos i
  have e : (x ^^^ a) / 2 ^ i = x / 2 ^ i ^^^ a / 2 ^ i := Nat.xor_div_two_pow
  have q1 : x / 2 ^ i = 1 := by rw [Nat.div_eq_iff hp]; omega
  have q2 : a / 2 ^ i = 1 := by rw [Nat.div_eq_iff hp]; omega
  rw [q1, q2, Nat.xor_self, Nat.div_eq_zero_iff] at e
  omega
theorem xor_back (a b : Nat) : a ^^^ (a ^^^ b) = b := by rw [← Nat.xor_assoc, Nat.xor_self, Nat.zero_xor]
theorem xor_shift (x y a : Nat) : x ^^^ y = (x ^^^ a) ^^^ (y ^^^ a) := by
  rw [Nat.xor_comm y a, Nat.xor_assoc, xor_back]
/-- in a stretch, from the first good one on: the book takes just its coset -/
theorem stretch {lo : Nat → Bool} {g : List Nat} {i a : Nat} (hg : ∀ x, x ∈ g ↔ x < 2 ^ i ∧ InB lo x) (hx : ∀ x ∈ g, ∀ y ∈ g, x ^^^ y ∈ g)
    (h1 : 2 ^ i ≤ a) (h2 : a < 2 * 2 ^ i) (hok : ∀ j ∈ g, lo (a ^^^ j) = false) (hfirst : ∀ k, 2 ^ i ≤ k → k < a → ∃ j ∈ g, lo (k ^^^ j) = true) :
    ∀ n x, x ≤ n → 2 ^ i ≤ x → x < 2 * 2 ^ i → (InB lo x ↔ x ^^^ a ∈ g) := by
  have h0 : 0 ∈ g := (hg 0).mpr ⟨Nat.two_pow_pos i, InB.zero⟩
  intro n
  induction n with
  | zero => intro x hxn hS; have := Nat.two_pow_pos i; omega
  | succ n ih =>
    intro x hxn hS hS2
    constructor
    · intro hb
      have okx : ∀ j ∈ g, lo (x ^^^ j) = false := fun j hj => hb.far (by have := ((hg j).mp hj).1; omega) ((hg j).mp hj).2
      have hax : a ≤ x := Nat.le_of_not_lt fun q => by
        obtain ⟨j, hj, e⟩ := hfirst x hS q
        rw [okx j hj] at e; cases e
      by_cases he : x = a
      · rw [he, Nat.xor_self]; exact h0
      · refine Classical.byContradiction fun hz => ?_
        have hzS := hi_xor_hi h1 h2 hS hS2
        have hnb : ¬ InB lo (x ^^^ a) := fun q => hz ((hg _).mpr ⟨hzS, q⟩)
        obtain ⟨c, hcz, hcb, hlo⟩ := InB.not hnb
        have hcS : c < 2 ^ i := by omega
        have hc : c ∈ g := (hg c).mpr ⟨hcS, hcb⟩
        have hac := hi_xor_lo h1 h2 hcS
        have e1 : x ^^^ (a ^^^ c) = x ^^^ a ^^^ c := (Nat.xor_assoc _ _ _).symm
        by_cases hlt : a ^^^ c < x
        · have hb2 : InB lo (a ^^^ c) := (ih (a ^^^ c) (by omega) hac.1 hac.2).mpr (by rw [Nat.xor_comm a c, Nat.xor_assoc, Nat.xor_self, Nat.xor_zero]; exact hc)
          have := hb.far hlt hb2
          rw [e1, hlo] at this; cases this
        · have hne : x ≠ a ^^^ c := fun q => by
            have : x ^^^ a = c := by rw [q, Nat.xor_comm a c, Nat.xor_assoc, Nat.xor_self, Nat.xor_zero]
            exact hz (this ▸ hc)
          rcases lt_xor _ x a c (Nat.le_refl _) (by omega) with q | q
          · have hxc := hi_xor_lo hS hS2 hcS
            obtain ⟨c', hc', e⟩ := hfirst _ hxc.1 q
            rw [Nat.xor_assoc, okx _ (hx c hc c' hc')] at e; cases e
          · omega
    · intro hc
      refine InB.of fun j hj hbj => ?_
      by_cases hjS : j < 2 ^ i
      · have e : x ^^^ j = a ^^^ ((x ^^^ a) ^^^ j) := by
          rw [Nat.xor_comm x a, Nat.xor_assoc, xor_back]
        rw [e]
        exact hok _ (hx _ hc _ ((hg j).mpr ⟨hjS, hbj⟩))
      · have hjg := (ih j (by omega) (by omega) (by omega)).mp hbj
        have hd : x ^^^ j ∈ g := by rw [xor_shift x j a]; exact hx _ hc _ hjg
        have hdb := ((hg _).mp hd).2
        have hpos : 0 < x ^^^ j := Nat.pos_of_ne_zero fun q => by
          have : x = j := by
            have := xor_back x j
            rw [q, Nat.xor_zero] at this
            exact this
          omega
        have := hdb.far hpos InB.zero
        rw [Nat.xor_zero] at this
        exact this
theorem find_first {p : Nat → Bool} {a : Nat} : ∀ (n s : Nat), (List.range' s n).find? p = some a → (s ≤ a ∧ a < s + n) ∧ p a = true ∧ ∀ k, s ≤ k → k < a → p k = false
  | 0, s, h => by simp at h
  | n + 1, s, h => by
    rw [List.range'_succ, List.find?_cons] at h
    cases e : p s with
    | true =>
      rw [e] at h
      have : s = a := Option.some.inj h
      subst this
      exact ⟨⟨Nat.le_refl _, by omega⟩, e, fun k h1 h2 => by omega⟩
    | false =>
      rw [e] at h
      obtain ⟨⟨h1, h2⟩, h3, h4⟩ := find_first n (s + 1) h
      refine ⟨⟨by omega, by omega⟩, h3, fun k hk1 hk2 => ?_⟩
      by_cases q : k = s
      · rw [q]; exact e
      · exact h4 k (by omega) hk2
theorem greedy (lo : Nat → Bool) : ∀ i, (∀ x, x ∈ grownN lo i ↔ x < 2 ^ i ∧ InB lo x) ∧ ∀ x ∈ grownN lo i, ∀ y ∈ grownN lo i, x ^^^ y ∈ grownN lo i
  | 0 => by
    refine ⟨fun x => ?_, fun x hx y hy => ?_⟩
    · show x ∈ [0] ↔ _
      rw [List.mem_singleton]
      constructor
      · rintro rfl; exact ⟨by decide, InB.zero⟩
      · rintro ⟨h, _⟩; simpa using h
    · rw [List.mem_singleton.mp hx, List.mem_singleton.mp hy]; exact List.mem_singleton.mpr rfl
  | i + 1 => by
    obtain ⟨hg, hx⟩ := greedy lo i
    have hst : grownN lo (i + 1) = gStep lo (grownN lo i) (2 ^ i) := rfl
    rw [hst]
    generalize grownN lo i = g at hg hx
    have hS : 2 ^ (i + 1) = 2 * 2 ^ i := by rw [Nat.pow_succ]; omega
    unfold gStep
    rw [hS]
    split
    · rename_i a ha
      obtain ⟨⟨h1, h2⟩, h3, h4⟩ := find_first _ _ ha
      have h2' : a < 2 * 2 ^ i := by omega
      have hok := okK_iff.mp h3
      have hfirst : ∀ k, 2 ^ i ≤ k → k < a → ∃ j ∈ g, lo (k ^^^ j) = true := fun k hk1 hk2 => Classical.byContradiction fun q => by
        have : okK lo g k = true := okK_iff.mpr fun j hj => by
          cases e : lo (k ^^^ j) with
          | false => rfl
          | true => exact absurd ⟨j, hj, e⟩ q
        rw [h4 k hk1 hk2] at this; cases this
      have key : ∀ x, 2 ^ i ≤ x → x < 2 * 2 ^ i → (InB lo x ↔ x ^^^ a ∈ g) := fun x q1 q2 => stretch hg hx h1 h2' hok hfirst x x (Nat.le_refl _) q1 q2
      have memS : ∀ x, x ∈ g ++ g.map (fun j => a ^^^ j) ↔ x ∈ g ∨ x ^^^ a ∈ g := fun x => by
        rw [List.mem_append, List.mem_map]
        constructor
        · rintro (q | ⟨j, hj, rfl⟩)
          · exact .inl q
          · exact .inr (by rw [Nat.xor_comm a j, Nat.xor_assoc, Nat.xor_self, Nat.xor_zero]; exact hj)
        · rintro (q | q)
          · exact .inl q
          · exact .inr ⟨_, q, by rw [Nat.xor_comm x a, xor_back]⟩
      refine ⟨fun x => ?_, fun x hx1 y hy1 => ?_⟩
      · rw [memS]
        constructor
        · rintro (q | q)
          · exact ⟨by have := ((hg x).mp q).1; omega, ((hg x).mp q).2⟩
          · have hb := hi_xor_lo h1 h2' ((hg _).mp q).1
            rw [Nat.xor_comm x a, xor_back] at hb
            exact ⟨hb.2, (key x hb.1 hb.2).mpr q⟩
        · rintro ⟨q1, q2⟩
          by_cases hlt : x < 2 ^ i
          · exact .inl ((hg x).mpr ⟨hlt, q2⟩)
          · exact .inr ((key x (by omega) q1).mp q2)
      · rw [memS] at hx1 hy1 ⊢
        rcases hx1 with hx1 | hx1 <;> rcases hy1 with hy1 | hy1
        · exact .inl (hx _ hx1 _ hy1)
        · exact .inr (by rw [Nat.xor_assoc]; exact hx _ hx1 _ hy1)
        · refine .inr ?_
          rw [Nat.xor_assoc, Nat.xor_comm y a, ← Nat.xor_assoc]
          exact hx _ hx1 _ hy1
        · exact .inl (by rw [xor_shift x y a]; exact hx _ hx1 _ hy1)
    · rename_i ha
      rw [List.find?_eq_none] at ha
      refine ⟨fun x => ?_, hx⟩
      constructor
      · intro q
        exact ⟨by have := ((hg x).mp q).1; omega, ((hg x).mp q).2⟩
      · rintro ⟨q1, q2⟩
        by_cases hlt : x < 2 ^ i
        · exact (hg x).mpr ⟨hlt, q2⟩
        · exfalso
          refine ha x (List.mem_range'_1.mpr ⟨by omega, by omega⟩) (okK_iff.mpr fun j hj => ?_)
          exact q2.far (by have := ((hg j).mp hj).1; omega) ((hg j).mp hj).2
theorem book_grown (lo : Nat → Bool) (k : Nat) : k ∈ grownN lo 4 ↔ k ∈ bookN (fun k j => lo (k ^^^ j)) 16 := by
  rw [mem_book, (greedy lo 4).1]
end Mine

end

-- Grown
section
open PySem PySem.W PySem.Calls PyProof.Rows
set_option maxRecDepth 100000
set_option maxHeartbeats 8000000
set_option rowWalk.seconds 0
namespace Mine
section
variable {w : World} {mean : ExcName → Option Value} {mg mb : Str → Option Value} {base h₀ : Heap} {env1 : Env} {outer : List Env} {s : Shared} {Q E : Value → Shared → Prop} {L : Addr} {m : Str → Option Value} {news : List (Addr × Obj)}
theorem countOf_use {x : Str} {t1 : Tok} {t2 : Nat} (B : Below (At 302 7 (some []) outer) base outer h₀) (F : Fr h₀ L s.heap m) (X : (hd.heap_39 w.params).In h₀) (N : News h₀ L s.heap news) (T : Top hd.view_39 (looseW hd.view_39 [Str.ofString "_filemode_table"]) mean mg mb h₀)
    (hf : env1.frame = some L) (hk : env1.scope.kind = .function) (ha : x.cps.all (· < 128) = true) (ht0 : @Ne Nat t2 0) (ht : @LT.lt Nat _ t2 s.toks) (h : ∀ t' h' tk', Fr h₀ L h' m → News h₀ L h' news → Q (.int ((x.cps.toList.count 45 : Nat) : Int) t') { s with heap := h', toks := tk' }) :
    wpAny (model PySem.Challenge.rw_oy0059_01.row.prog w) ((At 302 7 (some []) outer).deeper env1) (call (.ref 103) [.str x t1, .str (Str.ofString "-") t2]) Q E s :=
  wpAny_mono (countOf_q (pushX B F hf hk) (X.keeps F.keep) (T.keeps F.keep) ha ht0 ht fun t' h' tk' hkp => h t' h' tk' (F.keeps hkp) (N.grown hkp)) (fun _ _ x => x) (fun _ _ x => x.elim)
end
local macro_rules | `(tactic| k_room) => `(tactic| ((try simp only [depth_under_make, depth_under_kw, depth_in1, depth_deeper, depth_caller, depth_At]); decide))
local macro_rules | `(tactic| walk_at "exec For Name Name cons nil") => `(tactic| (k_here; (rename Fr _ _ _ _ => lF'); (with_unfolding_all refine' For_FL lF' ?_ ?ks; (case ks => (intro _; with_unfolding_all rfl)); k_whole)))
local macro_rules | `(tactic| walk_at "exec For Name Call cons nil") => `(tactic| (k_here; (rename Fr _ _ _ _ => lF'); (with_unfolding_all refine' For_FL lF' ?_ ?ks; (case ks => (intro _; with_unfolding_all rfl)); k_whole)))
local macro_rules | `(tactic| walk_at "exec For Name Tuple cons nil") => `(tactic| (k_here; (rename Fr _ _ _ _ => lF'); (with_unfolding_all refine' For_FL lF' ?_ ?ks; (case ks => (intro _; with_unfolding_all rfl)); k_whole)))
local macro_rules | `(tactic| walk_at "call ref") => `(tactic| (k_here; k_dflt (refine' countOf_use ?k1 ?k2 ?k3 ?k4 ?k5 ?k6 ?k7 ?k8 ?k9 ?k10 ?_; (case k1 => k_asm); (case k2 => k_asm); (case k3 => k_asm); (case k4 => k_asm); (case k5 => k_asm); (case k6 => exact rfl); (case k7 => exact rfl); (case k8 => assumption); (case k9 => omega); (case k10 => (dsimp only; omega)); k_whole); intro t' h' tk' F' N'))
local macro_rules | `(tactic| walk_at "eval ListComp") => `(tactic| (k_here; lct_look; k_dflt (refine LCt.ListComp_T (F₀ := by k_asm) (by with_unfolding_all rfl) (by decide) (by rfl) (by decide) (by rfl) ?_)))
theorem rg_small {sz : Nat} (h1 : 1 ≤ sz) (h8 : sz ≤ 8) : Builtin.Range.small (sz : Int) (2 * (sz : Int)) 1 = true := by
  have hc : sz = 1 ∨ sz = 2 ∨ sz = 3 ∨ sz = 4 ∨ sz = 5 ∨ sz = 6 ∨ sz = 7 ∨ sz = 8 := by omega
  rcases hc with rfl | rfl | rfl | rfl | rfl | rfl | rfl | rfl <;> decide
theorem rg_size {sz : Nat} (h1 : 1 ≤ sz) (h8 : sz ≤ 8) : Builtin.Range.rangeSize (sz : Int) (2 * (sz : Int)) 1 = ((sz : Nat) : Int) := by
  have hc : sz = 1 ∨ sz = 2 ∨ sz = 3 ∨ sz = 4 ∨ sz = 5 ∨ sz = 6 ∨ sz = 7 ∨ sz = 8 := by omega
  rcases hc with rfl | rfl | rfl | rfl | rfl | rfl | rfl | rfl <;> decide
theorem grown_q {w : World} {mean : ExcName → Option Value} {mg mb : Str → Option Value} {base : Heap} {env : Env} {outer : List Env} {s : Shared} {Q : Value → Shared → Prop} {l : Addr} {vs : List Value} {rs : List Str} {lst : Int} {tl : Tok}
    (B : Below (At 302 7 (some []) (env :: outer)) base (env :: outer) s.heap) (X : (hd.heap_39 w.params).In s.heap) (T : Top hd.view_39 (looseW hd.view_39 [Str.ofString "_filemode_table"]) mean mg mb s.heap)
    (hl : s.heap.IsList l vs.toArray) (hs : StrsAre vs rs) (hn : rs.length = 16) (hv : ∀ x ∈ rs, x.cps.all (· < 128) = true)
    (ret : ∀ a vs' n h' tk', (∀ b o, s.heap.get? b = some o → h'.get? b = some o) → s.heap.get? a = none → h'.get? a = some (listOf vs'.toArray n) → IntsAre vs' ((grownN (lowS rs lst) 4).map fun n : Nat => (n : Int)) → Q (.ref a) { s with heap := h', toks := tk' }) :
    wpAny (model PySem.Challenge.rw_oy0059_01.row.prog w) (At 302 7 (some []) (env :: outer)) (call (.ref 132) [.ref l, .int lst tl]) Q (fun _ _ => False) s := by
  w_top off
  k_with_none
  have kf : PySem.Challenge.rw_oy0059_01.row.prog = PySem.Challenge.rw_oy0059_01.row.prog ∧ hd.heap_39 w.params = hd.heap_39 w.params := by
    k_fill
    exact ⟨rfl, rfl⟩
  clear kf
  have hvl : vs.length = 16 := by rw [hs.length, hn]
  refine wpAny_call ?_
  k_dflt (refine' enterQC ?k3 ?k5 ?k6 ?k7 ?k8 ?k9 ?kB ?kD ?_ ?c2 ?c3 ?c4; (case k3 => k_asm); (case k5 => k_asm); (case k6 => k_is); (case k7 => k_is); (case k8 => k_room); (case k9 => exact BindsTo.of_eq rfl); (case kB => exact rfl); (case kD => decide +kernel); (case c2 => exact rfl); (case c3 => exact rfl); (case c4 => exact rfl); k_whole; intro L' h' tk0 cells' F' N' Y'; k_cells Y'; (try simp only [List.cons_append, List.nil_append] at N'); (try dsimp only))
  have F1 := fr_names F' [(Str.ofString "rows", .ref l)] (List.forall_mem_cons.mpr ⟨rfl, List.forall_mem_nil _⟩)
  dsimp only [kstB] at F1
  clear F'
  refine with_mem N' (.tail _ (.tail _ (.head _))) fun _ ole _ e => ?_
  subst e
  have hle : ole.data = Data.cell (some (Value.int lst tl)) := by assumption
  iterate 2 walk1
  k_dflt (refine LCg.ListComp_U (F₀ := F1) (by with_unfolding_all rfl) (by decide) (by rfl) (by decide) (by rfl) ?_)
  walk1
  k_dflt (refine LCg.CompSrc.base rfl F1 N' hl (by rw [List.size_toArray, hvl, sizeLine_eq]; omega) fun g => comp_U (n := vs.toArray.size) (fun j ys => IntsAre ys ((shownI rs).take j)) (.inl hl) ?fin ?step _ 0 [] (Nat.zero_add _) .nil)
  case step =>
    intro j v ys I3 o3 C3 oC3 D3 m3 h3 tk3 hj hP hInv hC hm3 F6 N6 off3 ne3
    obtain ⟨x, tx, hx, rfl⟩ := strs_at hs (by simpa using hP)
    have hax := hv x (List.mem_of_getElem? hx)
    k_steps
    refine CStep.intro (by k_asm) (by k_asm) (fun _ h => h) ?_
    have e9 : (shownI rs)[j]? = some (9 - ((x.cps.toList.count 45 : Nat) : Int)) := by rw [shownI, List.getElem?_map, hx]; rfl
    rw [List.take_add_one, e9, Option.toList_some]
    exact hInv.append (.cons _ _ .nil)
  case fin =>
    intro shv hys D3 h3 tk3 F6 N6 off3
    have hlen16 : (shownI rs).length = 16 := by rw [shownI, List.length_map, hn]
    rw [List.take_of_length_le (by rw [List.size_toArray, hvl, hlen16]; omega)] at hys
    clear F1 N'
    obtain ⟨q1, q2, q3, _⟩ := off3
    dsimp only at q1 q2 q3
    k_steps
    rename Fr _ _ _ _ => F7
    rename News _ _ _ _ => N7
    refine with_mem N7 (.head _) fun tp otp e1 e2 => ?_
    subst e1
    refine with_mem N7 (.tail _ (.head _)) fun gl0 _ e1 _ => ?_
    subst e1
    refine with_mem N7 (.tail _ (.tail _ (.tail _ (.tail _ (.head _))))) fun _ osh _ e1 => ?_
    subst e1
    have hosh : osh.data = Data.cell (some (Value.ref D3)) := by assumption
    k_dflt (refine tupN_FL (o := otp) (vs := [Value.int 1 _, .int 2 _, .int 4 _, .int 8 _]) (nn := 0) (fun i m nw => ∃ gl gvs n okk ck, m (Str.ofString "grown") = some (.ref gl) ∧ nw = [(tp, otp), (gl, listOf gvs.toArray n), (D3, LCg.lst shv), (L' + 1 + 1 + 1, okk), (L' + 1 + 1, osh), (L' + 1, ole)] ∧ okk.data = .cell ck ∧ IntsAre gvs ((grownN (lowS rs lst) i).map fun n : Nat => (n : Int)) ∧ @Ne Nat gl tp ∧ @LT.lt Nat _ D3 gl ∧ @LT.lt Nat _ (L' + 1 + 1 + 1) gl) rfl (by rw [e2]) (by rw [e2]) ?hmem F7 (e2 ▸ N7) ⟨gl0, _, _, _, _, rfl, rfl, by assumption, .cons _ _ .nil, by omega, by omega, by omega⟩ ?turn ?done)
    case hmem =>
      rintro q m nw ⟨gl, gvs, n, okk, ck, _, rfl, _⟩
      exact .head _
    case turn =>
      intro I lI i v m1 nw h1 tk1 oI hx hJ off F8 N8
      obtain ⟨gl, gvs, n, okk, ck, hg, rfl, hokk, hgv, n1, n2, n3⟩ := hJ
      obtain ⟨hi4, t9, rfl⟩ := size_at hx
      clear hx
      have hglt := grownN_lt (lowS rs lst) i
      have hgl := grownN_len (lowS rs lst) i
      have hst : grownN (lowS rs lst) (i + 1) = gStep (lowS rs lst) (grownN (lowS rs lst) i) (2 ^ i) := rfl
      have hs1 : 1 ≤ 2 ^ i := Nat.one_le_two_pow
      have hs8 : 2 ^ i ≤ 8 := by
        have := Nat.pow_le_pow_right (show 0 < 2 by decide) (show i ≤ 3 by omega)
        simpa using this
      generalize grownN (lowS rs lst) (i + 1) = gnext at hst
      generalize hgd : grownN (lowS rs lst) i = g at hgv hglt hgl hst
      generalize (2 : Nat) ^ i = sz at hglt hgl hst hs1 hs8 ⊢
      have F9 := fr_names F8 [(Str.ofString "grown", .ref gl)] (by simp [hg])
      dsimp only [kstB] at F9
      have o1 : @LT.lt Nat _ tp I := lI _ (.head _)
      have o2 : @Ne Nat gl I := off _ (.tail _ (.head _))
      have o3 : @LT.lt Nat _ D3 I := lI _ (.tail _ (.tail _ (.head _)))
      have o4 : @LT.lt Nat _ (L' + 1 + 1 + 1) I := lI _ (.tail _ (.tail _ (.tail _ (.head _))))
      have hgvl : gvs.length ≤ 8 := by rw [hgv.length, List.length_map]; omega
      clear F7 N7 F8 lI off hg e2
      refine wpAny_assign_Name ?_
      k_steps
      rename Fr _ _ _ _ => F10
      rename News _ _ _ _ => N10
      rename IsRange _ _ _ _ _ _ _ _ => R10
      k_dflt (refine range_FL (n := sz) (fun q m nw => m (Str.ofString "grown") = some (.ref gl) ∧ (∃ ok2 ck2, nw = [(I, oI), (tp, otp), (gl, listOf gvs.toArray n), (D3, LCg.lst shv), (L' + 1 + 1 + 1, ok2), (L' + 1 + 1, osh), (L' + 1, ole)] ∧ ok2.data = .cell ck2) ∧ ∀ k' ∈ List.range' sz q, okK (lowS rs lst) g k' = false) rfl R10 (rg_small hs1 hs8) (rg_size hs1 hs8) F10 N10 ⟨rfl, ⟨_, _, rfl, hokk⟩, fun k' hk' => by simp at hk'⟩ ?turn2 ?done2)
      case turn2 =>
        intro I2 lI2 q t2 m2 nw2 h2 tk2 oI2 hq hJ2 off2 F11 N11
        obtain ⟨hg2, ⟨ok2, ck2, rfl, hok2⟩, hno⟩ := hJ2
        have F12 := fr_names F11 [(Str.ofString "grown", .ref gl)] (by simp [hg2])
        dsimp only [kstB] at F12
        have p1 : @LT.lt Nat _ I I2 := lI2 _ (.head _)
        have p2 : @LT.lt Nat _ gl I2 := lI2 _ (.tail _ (.tail _ (.head _)))
        clear F10 N10 F11 lI2 off2 hg2
        rw [show (sz : Int) + (q : Int) * 1 = ((sz + q : Nat) : Int) by omega]
        have hk16 : sz + q < 2 * sz := by omega
        generalize hkd : sz + q = k at hk16
        refine wpAny_assign_Name ?_
        iterate 7 walk1
        rename Fr _ _ _ _ => F13
        rename News _ _ _ _ => N13
        refine with_mem N13 (.tail _ (.tail _ (.tail _ (.tail _ (.tail _ (.head _)))))) fun _ ok3 _ e3 => ?_
        subst e3
        have hok3 : ok3.data = Data.cell (some (Value.int (k : Int) t2)) := by assumption
        k_dflt (refine LCt.CompSrcT.ledger rfl F13 N13 (.tail _ (.tail _ (.tail _ (.head _)))) (by rw [List.size_toArray, sizeLine_eq]; omega) fun g9 => ?_)
        k_dflt (refine comp_T (n := gvs.toArray.size) (fun p ys => IntsAre ys (((g.take p).filter fun j => lowS rs lst (k ^^^ j)).map fun n : Nat => (n : Int))) (.inr ⟨_, .tail _ (.tail _ (.tail _ (.head _))), rfl, _, rfl⟩) ?fin3 ?step3 _ 0 [] (Nat.zero_add _) .nil)
        case step3 =>
          intro p v zs I3 o3 C3 oC3 D4 m3 h3 tk3 hp hP hInv hC hm3 F14 N14 off4 ne4
          obtain ⟨j0, tj, hj0, rfl⟩ := ints_at hgv (by simpa using hP)
          rw [List.getElem?_map] at hj0
          obtain ⟨j, hj, rfl⟩ := Option.map_eq_some_iff.mp hj0
          have hjg : j < sz := hglt j (List.mem_of_getElem? hj)
          have hx16 : k ^^^ j < 16 := Nat.xor_lt_two_pow (n := 4) (by omega) (by omega)
          have hxe : Builtin.bitXor (k : Int) (j : Int) = ((k ^^^ j : Nat) : Int) := xor_nat k j
          have hx0 : 0 ≤ Builtin.bitXor (k : Int) (j : Int) := by omega
          have hx1 : Builtin.bitXor (k : Int) (j : Int) < 16 := by omega
          clear F13 N13 hP hj0
          k_steps
          · rename (_ < _) => hlo9
            have hlow : lowS rs lst (k ^^^ j) = true := by rw [hxe, Int.toNat_natCast] at hlo9; exact decide_eq_true hlo9
            refine CStep.intro (by k_asm) (by k_asm) (fun _ h => h) ?_
            rw [List.take_add_one, hj, Option.toList_some, List.filter_append, List.map_append]
            rw [show List.filter (fun j => lowS rs lst (k ^^^ j)) [j] = [j] by simp [hlow]]
            exact hInv.append (.cons _ _ .nil)
          · rename (¬ _ < _) => hlo9
            have hlow : lowS rs lst (k ^^^ j) = false := by rw [hxe, Int.toNat_natCast] at hlo9; exact decide_eq_false hlo9
            refine CStep.intro (by k_asm) (by k_asm) (fun _ h => h) ?_
            rw [List.take_add_one, hj, Option.toList_some, List.filter_append, List.map_append]
            rw [show List.filter (fun j => lowS rs lst (k ^^^ j)) [j] = [] by simp [hlow], List.map_nil, List.append_nil]
            exact hInv
        case fin3 =>
          intro zs hzs D4 h4 tk4 F15 N15 off5
          rw [List.take_of_length_le (by rw [List.size_toArray, hgv.length, List.length_map]; exact Nat.le_refl _)] at hzs
          have hzl : zs.length ≤ 8 := by
            rw [hzs.length, List.length_map]
            have := List.length_filter_le (fun j => lowS rs lst (k ^^^ j)) g
            omega
          obtain ⟨r1, r2, r3, r4, r5, r6, r7, r8, _⟩ := off5
          dsimp only at r1 r2 r3 r4 r5 r6 r7 r8
          clear F13 N13
          k_steps
          · dsimp only [TPost]
            k_steps
            rename (decide _ = true) => hdec
            have hok9 := okK_filter (of_decide_eq_true hdec)
            have hnx := hst.trans (gStep_hit hkd hq hno hok9)
            rename News _ _ _ _ => N16
            refine with_mem N16 (.head _) fun gl' _ e1 _ => ?_
            subst e1
            refine TPost.next (by k_asm) N16 [(tp, otp), (gl', _), (D3, LCg.lst shv), (L' + 1 + 1 + 1, ok3), (L' + 1 + 1, osh), (L' + 1, ole)] (List.forall_mem_cons.mpr ⟨.tail _ (.tail _ (.tail _ (.tail _ (.tail _ (.head _))))), List.forall_mem_cons.mpr ⟨.tail _ (.tail _ (.tail _ (.tail _ (.tail _ (.tail _ (.head _)))))), List.forall_mem_cons.mpr ⟨.head _, List.forall_mem_cons.mpr ⟨.tail _ (.tail _ (.tail _ (.tail _ (.tail _ (.tail _ (.tail _ (.tail _ (.head _)))))))), List.forall_mem_cons.mpr ⟨.tail _ (.tail _ (.tail _ (.tail _ (.tail _ (.tail _ (.tail _ (.tail _ (.tail _ (.head _))))))))), List.forall_mem_cons.mpr ⟨.tail _ (.tail _ (.tail _ (.tail _ (.tail _ (.tail _ (.tail _ (.tail _ (.tail _ (.tail _ (.head _)))))))))), List.forall_mem_cons.mpr ⟨.tail _ (.tail _ (.tail _ (.tail _ (.tail _ (.tail _ (.tail _ (.tail _ (.tail _ (.tail _ (.tail _ (.head _))))))))))), List.forall_mem_nil _⟩⟩⟩⟩⟩⟩⟩) (off_cons1 (by omega) (off_cons1 (by omega) (off_cons1 (by omega) (off_cons1 (by omega) (off_cons1 (by omega) (off_cons1 (by omega) off_nil)))))) ⟨_, _, _, _, _, rfl, rfl, by assumption, ?_, by omega, by omega, by omega⟩
            rw [hnx, ← grow_cast]
            assumption
          · rename (decide _ = false) => hdec
            have hok9 := okK_filter' (of_decide_eq_false hdec)
            refine TPost.next (by k_asm) (by k_asm) [(I, oI), (tp, otp), (gl, listOf gvs.toArray n), (D3, LCg.lst shv), (L' + 1 + 1 + 1, ok3), (L' + 1 + 1, osh), (L' + 1, ole)] (fun p hp => .tail _ (.tail _ hp)) (off_cons1 (by omega) (off_cons1 (by omega) (off_cons1 (by omega) (off_cons1 (by omega) (off_cons1 (by omega) (off_cons1 (by omega) (off_cons1 (by omega) off_nil))))))) ⟨rfl, ⟨_, _, rfl, by assumption⟩, ?_⟩
            intro k' hk'
            rw [List.range'_concat, Nat.one_mul, hkd] at hk'
            rcases List.mem_append.mp hk' with hk' | hk'
            · exact hno k' hk'
            · rw [List.mem_singleton.mp hk']; exact hok9
      case done2 =>
        intro h3 tk3 m3 nw3 F11 N11 hJ3
        obtain ⟨hg2, ⟨ok2, ck2, rfl, hok2⟩, hno⟩ := hJ3
        have F12 := fr_names F11 [(Str.ofString "grown", .ref gl)] (by simp [hg2])
        dsimp only [kstB] at F12
        have hnx := hst.trans (gStep_miss hno)
        clear F10 N10 F11 hg2
        k_steps
        refine TPost.next (by k_asm) (by k_asm) [(tp, otp), (gl, listOf gvs.toArray n), (D3, LCg.lst shv), (L' + 1 + 1 + 1, ok2), (L' + 1 + 1, osh), (L' + 1, ole)] (fun _ h => h) (off_cons1 (by omega) (off_cons1 (by omega) (off_cons1 (by omega) (off_cons1 (by omega) (off_cons1 (by omega) (off_cons1 (by omega) off_nil)))))) ⟨_, _, _, _, _, rfl, rfl, hok2, ?_, by omega, by omega, by omega⟩
        rw [hnx]
        exact hgv
    case done =>
      intro h3 tk3 m3 nw3 F8 N8 hJ3
      obtain ⟨gl, gvs, n, okk, ck, hg, rfl, hokk, hgv, n1, n2, n3⟩ := hJ3
      have F9 := fr_names F8 [(Str.ofString "grown", .ref gl)] (by simp [hg])
      dsimp only [kstB] at F9
      clear F7 N7 F8 hg
      k_steps
      exact ret _ _ _ _ _ F9.keep (N8 _ (.tail _ (.head _))).2.2 (N8 _ (.tail _ (.head _))).1 hgv
end Mine

end

-- Uses
section
open PySem PySem.W PySem.Calls PyProof.Rows
set_option maxRecDepth 100000
namespace Mine
theorem new_back {h₀ h h' : Heap} {L a : Addr} {m : Str → Option Value} {news : List (Addr × Obj)} {o : Obj} (F : Fr h₀ L h m) (N : News h₀ L h news) (hk : ∀ b o, h.get? b = some o → h'.get? b = some o) (hn : h.get? a = none) (ha : h'.get? a = some o) :
    Fr h₀ L h' m ∧ News h₀ L h' ((a, o) :: news) ∧ ∀ p ∈ news, p.1 ≠ a := by
  refine ⟨F.keeps hk, fun p hp => ?_, fun p hp e => ?_⟩
  · rcases List.mem_cons.mp hp with rfl | hp
    · refine ⟨ha, fun e => ?_, ?_⟩
      · obtain ⟨o', ho', _⟩ := LCg.ns_obj F.ns
        dsimp only at e
        rw [e, ho'] at hn; cases hn
      · cases q : h₀.get? a with
        | none => rfl
        | some o' => rw [F.keep a o' q] at hn; cases hn
    · exact ⟨hk _ _ (N p hp).1, (N p hp).2⟩
  · rw [← e, (N p hp).1] at hn; cases hn
def RowsOk (rs : List Str) : Prop := ∃ fs : List Nat, fs.length = 4 ∧ (∀ f ∈ fs, f < 4096) ∧ rs = (wdsN fs).map fm
theorem wdsN_len {fs : List Nat} (h : fs.length = 4) : (wdsN fs).length = 16 := by
  have := wdsI_len 4 (fs.map fun n : Nat => (n : Int)) (by rw [List.length_map, h])
  rw [wdsN_cast, List.length_map] at this
  exact this
theorem pk_small (u : Nat) : ∀ (tab : List (Nat × Nat)), (∀ p ∈ tab, p.2 < 128) → pk u tab < 128
  | [], _ => by show 45 < 128; decide
  | (b, c) :: r, h => by
    unfold pk
    split
    · exact h _ (.head _)
    · exact pk_small u r fun p hp => h p (.tail _ hp)
theorem fm_small (u : Nat) : (fm u).cps.all (· < 128) = true := by
  have h : ∀ c ∈ fmCodes u, c < 128 := by
    intro c hc
    simp only [fmCodes, List.mem_cons, List.not_mem_nil, or_false] at hc
    rcases hc with rfl | rfl | rfl | rfl | rfl | rfl | rfl | rfl | rfl | rfl
    · decide
    all_goals exact pk_small u _ (by decide)
  simp only [fm, List.all_toArray, List.all_eq_true, decide_eq_true_eq]
  exact h
theorem fm_size (u : Nat) : (fm u).cps.size = 10 := rfl
theorem RowsOk.len {rs : List Str} (h : RowsOk rs) : rs.length = 16 := by
  obtain ⟨fs, h1, _, rfl⟩ := h
  rw [List.length_map, wdsN_len h1]
theorem RowsOk.small {rs : List Str} (h : RowsOk rs) : ∀ x ∈ rs, x.cps.all (· < 128) = true := by
  obtain ⟨fs, _, _, rfl⟩ := h
  intro x hx
  obtain ⟨u, _, rfl⟩ := List.mem_map.mp hx
  exact fm_small u
theorem RowsOk.size {rs : List Str} (h : RowsOk rs) : ∀ x ∈ rs, x.cps.size = 10 := by
  obtain ⟨fs, _, _, rfl⟩ := h
  intro x hx
  obtain ⟨u, _, rfl⟩ := List.mem_map.mp hx
  exact fm_size u
def Four (vs : List Value) (fs : List Nat) : Prop := IntsAre vs (fs.map fun n : Nat => (n : Int)) ∧ fs.length = 4 ∧ ∀ f ∈ fs, f < 4096
theorem four_of {vs : List Value} {fs : List Int} (hi : IntsAre vs fs) (hl : fs.length = 4) (hv : ∀ v ∈ fs, 0 ≤ v ∧ v < 4096) : Four vs (fs.map Int.toNat) := by
  refine ⟨?_, by rw [List.length_map]; exact hl, fun f hf => ?_⟩
  · have : (fs.map Int.toNat).map (fun n : Nat => (n : Int)) = fs := by
      rw [List.map_map]
      conv => rhs; rw [← List.map_id fs]
      refine List.map_congr_left fun x hx => ?_
      have := hv x hx
      show ((x.toNat : Nat) : Int) = x
      omega
    rw [this]; exact hi
  · obtain ⟨x, hx, rfl⟩ := List.mem_map.mp hf
    have := hv x hx
    omega
section
variable {w : World} {mean : ExcName → Option Value} {mg mb : Str → Option Value} {base h₀ : Heap} {env1 : Env} {outer : List Env} {s : Shared} {Q E : Value → Shared → Prop} {L : Addr} {m : Str → Option Value} {news : List (Addr × Obj)}
theorem files_use {l : Addr} {vs : List Value} {ns : List Int} (B : Below callerA base [] h₀) (F : Fr h₀ L s.heap m) (X : (hd.heap_39 w.params).In h₀) (N : News h₀ L s.heap news) (T : Top hd.view_39 (looseW hd.view_39 [Str.ofString "_filemode_table"]) mean mg mb h₀)
    (hf : env1.frame = some L) (hk : env1.scope.kind = .function) (hl : h₀.IsList l vs.toArray) (hi : IntsAre vs ns) (hn : ns.length ≤ 63)
    (h : ∀ a vs' fs n h' tk', Fr h₀ L h' m → News h₀ L h' ((a, listOf vs'.toArray n) :: news) → (∀ p ∈ news, p.1 ≠ a) → Four vs' fs → Q (.ref a) { s with heap := h', toks := tk' }) :
    wpAny (model PySem.Challenge.rw_oy0059_01.row.prog w) (callerA.deeper env1) (call (.ref 117) [.ref l]) Q E s := by
  refine wpAny_mono (files_q (base := base) (env := env1) (outer := []) (pushX B F hf hk) (X.keeps F.keep) (T.keeps F.keep) (hl.at fun o e => F.keep _ o e) hi hn (Q := Q) fun a vs' fs n h' tk' hkp hna hga his h4 hv => ?_) (fun _ _ x => x) (fun _ _ x => x.elim)
  obtain ⟨F', N', ne⟩ := new_back F N hkp hna hga
  exact h a vs' _ n h' tk' F' N' ne (four_of his h4 hv)
theorem rows_use {l : Addr} {vs : List Value} {fs : List Nat} {k : Nat} (B : Below callerA base [] h₀) (F : Fr h₀ L s.heap m) (X : (hd.heap_39 w.params).In h₀) (N : News h₀ L s.heap news) (T : Top hd.view_39 (looseW hd.view_39 [Str.ofString "_filemode_table"]) mean mg mb h₀)
    (hf : env1.frame = some L) (hk : env1.scope.kind = .function) (hm : (l, listOf vs.toArray k) ∈ news) (hi : Four vs fs)
    (h : ∀ a vs' rs n h' tk', Fr h₀ L h' m → News h₀ L h' ((a, listOf vs'.toArray n) :: news) → (∀ p ∈ news, p.1 ≠ a) → StrsAre vs' rs → RowsOk rs → Q (.ref a) { s with heap := h', toks := tk' }) :
    wpAny (model PySem.Challenge.rw_oy0059_01.row.prog w) (callerA.deeper env1) (call (.ref 122) [.ref l]) Q E s := by
  refine wpAny_mono (rows_q (base := base) (env := env1) (outer := []) (pushX B F hf hk) (X.keeps F.keep) (T.keeps F.keep) ⟨_, (N _ hm).1, rfl, _, rfl⟩ hi.1 hi.2.1 hi.2.2 (Q := Q) fun a vs' n h' tk' hkp hna hga his => ?_) (fun _ _ x => x) (fun _ _ x => x.elim)
  obtain ⟨F', N', ne⟩ := new_back F N hkp hna hga
  exact h a vs' _ n h' tk' F' N' ne his ⟨fs, hi.2.1, hi.2.2, rfl⟩
theorem grown_use {l : Addr} {vs : List Value} {rs : List Str} {k : Nat} {lst : Int} {tl : Tok} (B : Below callerA base [] h₀) (F : Fr h₀ L s.heap m) (X : (hd.heap_39 w.params).In h₀) (N : News h₀ L s.heap news) (T : Top hd.view_39 (looseW hd.view_39 [Str.ofString "_filemode_table"]) mean mg mb h₀)
    (hf : env1.frame = some L) (hk : env1.scope.kind = .function) (hm : (l, listOf vs.toArray k) ∈ news) (hs : StrsAre vs rs) (hR : RowsOk rs)
    (h : ∀ a vs' n h' tk', Fr h₀ L h' m → News h₀ L h' ((a, listOf vs'.toArray n) :: news) → (∀ p ∈ news, p.1 ≠ a) → IntsAre vs' ((grownN (lowS rs lst) 4).map fun n : Nat => (n : Int)) → Q (.ref a) { s with heap := h', toks := tk' }) :
    wpAny (model PySem.Challenge.rw_oy0059_01.row.prog w) (callerA.deeper env1) (call (.ref 132) [.ref l, .int lst tl]) Q E s := by
  refine wpAny_mono (grown_q (base := base) (env := env1) (outer := []) (pushX B F hf hk) (X.keeps F.keep) (T.keeps F.keep) ⟨_, (N _ hm).1, rfl, _, rfl⟩ hs hR.len hR.small (Q := Q) fun a vs' n h' tk' hkp hna hga his => ?_) (fun _ _ x => x) (fun _ _ x => x.elim)
  obtain ⟨F', N', ne⟩ := new_back F N hkp hna hga
  exact h a vs' n h' tk' F' N' ne his
theorem book_use {l : Addr} {vs : List Value} {rs : List Str} {k : Nat} {lst : Int} {tl : Tok} (B : Below callerA base [] h₀) (F : Fr h₀ L s.heap m) (X : (hd.heap_39 w.params).In h₀) (N : News h₀ L s.heap news) (T : Top hd.view_39 (looseW hd.view_39 [Str.ofString "_filemode_table"]) mean mg mb h₀)
    (hf : env1.frame = some L) (hk : env1.scope.kind = .function) (hm : (l, listOf vs.toArray k) ∈ news) (hs : StrsAre vs rs) (hR : RowsOk rs)
    (h : ∀ a vs' n h' tk', Fr h₀ L h' m → News h₀ L h' ((a, listOf vs'.toArray n) :: news) → (∀ p ∈ news, p.1 ≠ a) → IntsAre vs' ((bookN (nearS rs lst) 16).map fun n : Nat => (n : Int)) → Q (.ref a) { s with heap := h', toks := tk' }) :
    wpAny (model PySem.Challenge.rw_oy0059_01.row.prog w) (callerA.deeper env1) (call (.ref 127) [.ref l, .int lst tl]) Q E s := by
  refine wpAny_mono (book_q (base := base) (env := env1) (outer := []) (pushX B F hf hk) (X.keeps F.keep) (T.keeps F.keep) ⟨_, (N _ hm).1, rfl, _, rfl⟩ hs hR.len hR.size (Q := Q) fun a vs' n h' tk' hkp hna hga his => ?_) (fun _ _ x => x) (fun _ _ x => x.elim)
  obtain ⟨F', N', ne⟩ := new_back F N hkp hna hga
  exact h a vs' n h' tk' F' N' ne his
end
end Mine

end

-- Dist
section
open PySem PySem.W
namespace Mine
theorem and_sub_iff (u m : Nat) : u &&& m = m ↔ ∀ i, m.testBit i = true → u.testBit i = true := by
  constructor
  · intro h i hi
    have := congrArg (fun x => Nat.testBit x i) h
    rw [Nat.testBit_and, hi, Bool.and_true] at this
    exact this
  · intro h
    apply Nat.eq_of_testBit_eq
    intro i
    rw [Nat.testBit_and]
    cases e : m.testBit i with
    | false => rw [Bool.and_false]
    | true => rw [h i e]; rfl
theorem and_one (u i : Nat) : u &&& 2 ^ i = 2 ^ i ↔ u.testBit i = true := by
  rw [and_sub_iff]
  constructor
  · intro h; exact h i (by rw [Nat.testBit_two_pow]; exact decide_eq_true rfl)
  · intro h k hk
    rw [Nat.testBit_two_pow] at hk
    rw [← of_decide_eq_true hk]; exact h
theorem and_both (u i j : Nat) : u &&& (2 ^ i ||| 2 ^ j) = 2 ^ i ||| 2 ^ j ↔ u.testBit i = true ∧ u.testBit j = true := by
  rw [and_sub_iff]
  constructor
  · intro h
    refine ⟨h i ?_, h j ?_⟩
    · rw [Nat.testBit_or, Nat.testBit_two_pow, decide_eq_true rfl, Bool.true_or]
    · rw [Nat.testBit_or, Nat.testBit_two_pow, Nat.testBit_two_pow, decide_eq_true (rfl : j = j), Bool.or_true]
  · rintro ⟨h1, h2⟩ k hk
    rw [Nat.testBit_or, Nat.testBit_two_pow, Nat.testBit_two_pow, Bool.or_eq_true] at hk
    rcases hk with hk | hk
    · rw [← of_decide_eq_true hk]; exact h1
    · rw [← of_decide_eq_true hk]; exact h2
theorem pk_one (u b i c : Nat) (hb : b = 2 ^ i) : pk u [(b, c)] = if u.testBit i = true then c else 45 := by
  subst hb
  simp only [pk, and_one]
theorem pk_three (u b b' b'' i j c1 c2 c3 : Nat) (h : b = 2 ^ i ||| 2 ^ j) (h' : b' = 2 ^ j) (h'' : b'' = 2 ^ i) : pk u [(b, c1), (b', c2), (b'', c3)] = if u.testBit i = true ∧ u.testBit j = true then c1 else if u.testBit j = true then c2 else if u.testBit i = true then c3 else 45 := by
  subst h h' h''
  simp only [pk, and_one, and_both]
theorem apart_one {a b m i c : Nat} (hb : m = 2 ^ i) (hc : c ≠ 45) : (if pk a [(m, c)] = pk b [(m, c)] then 0 else 1) + (if pk (a ^^^ b) [(m, c)] = 45 then 1 else 0) = 1 := by
  rw [pk_one a m i c hb, pk_one b m i c hb, pk_one _ m i c hb, Nat.testBit_xor]
  cases a.testBit i <;> cases b.testBit i <;> simp [hc, Ne.symm hc]
theorem apart_three {a b m m' m'' i j c1 c2 c3 : Nat} (h : m = 2 ^ i ||| 2 ^ j) (h' : m' = 2 ^ j) (h'' : m'' = 2 ^ i) (hc1 : c1 ≠ 45) (hc2 : c2 ≠ 45) (hc3 : c3 ≠ 45) (h12 : c1 ≠ c2) (h13 : c1 ≠ c3) (h23 : c2 ≠ c3) :
    (if pk a [(m, c1), (m', c2), (m'', c3)] = pk b [(m, c1), (m', c2), (m'', c3)] then 0 else 1) + (if pk (a ^^^ b) [(m, c1), (m', c2), (m'', c3)] = 45 then 1 else 0) = 1 := by
  rw [pk_three a m m' m'' i j c1 c2 c3 h h' h'', pk_three b m m' m'' i j c1 c2 c3 h h' h'', pk_three _ m m' m'' i j c1 c2 c3 h h' h'', Nat.testBit_xor, Nat.testBit_xor]
  cases a.testBit i <;> cases b.testBit i <;> cases a.testBit j <;> cases b.testBit j <;> simp [hc1, hc2, hc3, h12, h13, h23, Ne.symm hc1, Ne.symm hc2, Ne.symm hc3, Ne.symm h12, Ne.symm h13, Ne.symm h23]
def cnt2 : List Nat → List Nat → Nat
  | x :: xs, y :: ys => (if x = y then 0 else 1) + cnt2 xs ys
  | _, _ => 0
theorem cnt2_range : ∀ (xs ys : List Nat), xs.length = ys.length → ((List.range xs.length).filter fun n => xs[n]? != ys[n]?).length = cnt2 xs ys
  | [], [], _ => rfl
  | x :: xs, y :: ys, h => by
    have ih := cnt2_range xs ys (by simpa using h)
    rw [List.length_cons, List.range_succ_eq_map, List.filter_cons, List.filter_map]
    have e : (fun n => (x :: xs)[n]? != (y :: ys)[n]?) ∘ Nat.succ = fun n => xs[n]? != ys[n]? := by
      funext n
      simp
    rw [e]
    unfold cnt2
    by_cases q : x = y
    · subst q
      simp [ih]
    · have : ((x :: xs)[0]? != (y :: ys)[0]?) = true := by simp [q]
      rw [if_pos this, if_neg q, List.length_cons, List.length_map, ih, Nat.add_comm]
  | [], _ :: _, h => by cases h
  | _ :: _, [], h => by cases h
theorem dist_fm (a b : Nat) : dist (fm a) (fm b) + (fm (a ^^^ b)).cps.toList.count 45 = 9 := by
  have h1 : dist (fm a) (fm b) = cnt2 (fmCodes a) (fmCodes b) := by
    rw [← cnt2_range (fmCodes a) (fmCodes b) rfl]
    show ((List.range 10).filter fun n => (fmCodes a).toArray[n]? != (fmCodes b).toArray[n]?).length = ((List.range 10).filter _).length
    congr 1
  have h2 : (fm (a ^^^ b)).cps.toList = fmCodes (a ^^^ b) := rfl
  rw [h1, h2]
  simp only [fmCodes, cnt2, List.count_cons, List.count_nil, beq_iff_eq, if_true]
  have e1 := @apart_one a b 256 8 114 (by decide) (by decide)
  have e2 := @apart_one a b 128 7 119 (by decide) (by decide)
  have e3 := @apart_three a b 2112 2048 64 6 11 115 83 120 (by decide) (by decide) (by decide) (by decide) (by decide) (by decide) (by decide) (by decide) (by decide)
  have e4 := @apart_one a b 32 5 114 (by decide) (by decide)
  have e5 := @apart_one a b 16 4 119 (by decide) (by decide)
  have e6 := @apart_three a b 1032 1024 8 3 10 115 83 120 (by decide) (by decide) (by decide) (by decide) (by decide) (by decide) (by decide) (by decide) (by decide)
  have e7 := @apart_one a b 4 2 114 (by decide) (by decide)
  have e8 := @apart_one a b 2 1 119 (by decide) (by decide)
  have e9 := @apart_three a b 513 512 1 0 9 116 84 120 (by decide) (by decide) (by decide) (by decide) (by decide) (by decide) (by decide) (by decide) (by decide)
  have z : (if (63 : Nat) = 45 then 1 else 0) = 0 := rfl
  omega
def selW (a b c d k : Nat) : Nat := (if k.testBit 3 = true then d else 0) ^^^ ((if k.testBit 2 = true then c else 0) ^^^ ((if k.testBit 1 = true then b else 0) ^^^ (if k.testBit 0 = true then a else 0)))
theorem wds_sel {a b c d k : Nat} (hk : k < 16) : (wdsN [a, b, c, d]).getD k 0 = selW a b c d k := by
  have hc : k = 0 ∨ k = 1 ∨ k = 2 ∨ k = 3 ∨ k = 4 ∨ k = 5 ∨ k = 6 ∨ k = 7 ∨ k = 8 ∨ k = 9 ∨ k = 10 ∨ k = 11 ∨ k = 12 ∨ k = 13 ∨ k = 14 ∨ k = 15 := by omega
  rcases hc with rfl | rfl | rfl | rfl | rfl | rfl | rfl | rfl | rfl | rfl | rfl | rfl | rfl | rfl | rfl | rfl <;> simp [wdsN, selW, Nat.testBit]
theorem bit_xor (k j i a : Nat) : (if (k ^^^ j).testBit i = true then a else 0) = (if k.testBit i = true then a else 0) ^^^ (if j.testBit i = true then a else 0) := by
  rw [Nat.testBit_xor]
  cases k.testBit i <;> cases j.testBit i <;> simp
theorem xor4 (a a' b b' c c' d d' : Nat) : (d ^^^ d') ^^^ ((c ^^^ c') ^^^ ((b ^^^ b') ^^^ (a ^^^ a'))) = (d ^^^ (c ^^^ (b ^^^ a))) ^^^ (d' ^^^ (c' ^^^ (b' ^^^ a'))) := by
  ac_rfl
theorem sel_xor (a b c d k j : Nat) : selW a b c d (k ^^^ j) = selW a b c d k ^^^ selW a b c d j := by
  unfold selW
  rw [bit_xor, bit_xor, bit_xor, bit_xor, xor4]
theorem four_list {fs : List Nat} (h : fs.length = 4) : ∃ a b c d, fs = [a, b, c, d] := by
  match fs, h with
  | [a, b, c, d], _ => exact ⟨a, b, c, d, rfl⟩
theorem wds_xor {fs : List Nat} (h : fs.length = 4) {k j : Nat} (hk : k < 16) (hj : j < 16) : (wdsN fs).getD (k ^^^ j) 0 = (wdsN fs).getD k 0 ^^^ (wdsN fs).getD j 0 := by
  obtain ⟨a, b, c, d, rfl⟩ := four_list h
  have hx : k ^^^ j < 16 := Nat.xor_lt_two_pow (n := 4) hk hj
  rw [wds_sel hk, wds_sel hj, wds_sel hx, sel_xor]
end Mine

end

-- Fin9
section
open PySem PySem.W
namespace Mine
def othN (g : List Nat) (p : Nat) : List Nat := ((List.range p).map fun i => 15 - i).filter fun k => !g.contains k
theorem othN_in {g : List Nat} {p : Nat} (h : 15 - p ∈ g) : othN g (p + 1) = othN g p := by
  unfold othN
  rw [List.range_succ, List.map_append, List.filter_append]
  simp [h]
theorem othN_out {g : List Nat} {p : Nat} (h : 15 - p ∉ g) : othN g (p + 1) = othN g p ++ [15 - p] := by
  unfold othN
  rw [List.range_succ, List.map_append, List.filter_append]
  simp [h]
theorem othN_len (g : List Nat) (p : Nat) : (othN g p).length ≤ p := by
  unfold othN
  refine Nat.le_trans (List.length_filter_le _ _) ?_
  rw [List.length_map, List.length_range]; exact Nat.le_refl _
theorem othN_congr {g g' : List Nat} (h : ∀ k, k ∈ g ↔ k ∈ g') (p : Nat) : othN g p = othN g' p := by
  unfold othN
  refine List.filter_congr fun k _ => ?_
  have e : g.contains k = g'.contains k := by
    rw [Bool.eq_iff_iff, List.contains_iff_mem, List.contains_iff_mem]; exact h k
  rw [e]
def cutN (b : List Nat) (k : Nat) : List Nat := b.filter fun x => decide (x < k)
theorem cutN_out {b : List Nat} {k : Nat} (h : k ∉ b) : cutN b (k + 1) = cutN b k := by
  unfold cutN
  refine List.filter_congr fun x hx => ?_
  have : x ≠ k := fun e => h (e ▸ hx)
  rw [decide_eq_decide]
  omega
theorem cutN_in : ∀ {b : List Nat} {k : Nat}, b.Pairwise (· < ·) → k ∈ b → cutN b (k + 1) = cutN b k ++ [k]
  | [], _, _, h => nomatch h
  | x :: r, k, hp, h => by
    obtain ⟨h1, h2⟩ := List.pairwise_cons.mp hp
    by_cases e : k = x
    · subst e
      have big : ∀ y ∈ r, k < y := h1
      have n1 : cutN r (k + 1) = [] := by
        unfold cutN
        rw [List.filter_eq_nil_iff]
        intro y hy
        have := big y hy
        simp; omega
      have n2 : cutN r k = [] := by
        unfold cutN
        rw [List.filter_eq_nil_iff]
        intro y hy
        have := big y hy
        simp; omega
      unfold cutN at n1 n2 ⊢
      rw [List.filter_cons, List.filter_cons, n1, n2]
      simp
    · have hk : k ∈ r := by
        rcases List.mem_cons.mp h with q | q
        · exact absurd q e
        · exact q
      have ih := cutN_in h2 hk
      have hx : x < k := h1 k hk
      unfold cutN at ih ⊢
      rw [List.filter_cons, List.filter_cons, ih]
      have t1 : decide (x < k + 1) = true := decide_eq_true (by omega)
      have t2 : decide (x < k) = true := decide_eq_true hx
      rw [t1, t2]; rfl
theorem cutN_all {b : List Nat} {k : Nat} (h : ∀ x ∈ b, x < k) : cutN b k = b := by
  unfold cutN
  rw [List.filter_eq_self]
  exact fun x hx => decide_eq_true (h x hx)
theorem cutN_zero (b : List Nat) : cutN b 0 = [] := by
  unfold cutN
  rw [List.filter_eq_nil_iff]
  intro x _
  simp
theorem cutN_lt {b : List Nat} {k : Nat} : ∀ x ∈ cutN b k, x < k := fun x hx => of_decide_eq_true (List.mem_filter.mp hx).2
theorem bookN_sorted (nr : Nat → Nat → Bool) : ∀ n, (bookN nr n).Pairwise (· < ·)
  | 0 => List.Pairwise.nil
  | n + 1 => by
    unfold bookN
    split
    · exact bookN_sorted nr n
    · refine List.pairwise_append.mpr ⟨bookN_sorted nr n, List.pairwise_singleton _ _, fun x hx y hy => ?_⟩
      rw [List.mem_singleton.mp hy]
      exact bookN_lt nr n x hx
theorem bookN_same {nr nr' : Nat → Nat → Bool} : ∀ n, (∀ k, k < n → ∀ j, j < k → nr k j = nr' k j) → bookN nr n = bookN nr' n
  | 0, _ => rfl
  | n + 1, h => by
    have ih := bookN_same n fun k hk j hj => h k (by omega) j hj
    have e : (bookN nr n).any (nr n) = (bookN nr' n).any (nr' n) := by
      rw [ih, Bool.eq_iff_iff, List.any_eq_true, List.any_eq_true]
      constructor
      · rintro ⟨j, hj, q⟩
        exact ⟨j, hj, by rw [← h n (by omega) j (bookN_lt _ _ _ hj)]; exact q⟩
      · rintro ⟨j, hj, q⟩
        exact ⟨j, hj, by rw [h n (by omega) j (bookN_lt _ _ _ hj)]; exact q⟩
    unfold bookN
    rw [e, ih]
theorem getD_map {f : Nat → Str} {l : List Nat} {k : Nat} (h : k < l.length) : (l.map f).getD k Str.empty = f (l.getD k 0) := by
  rw [List.getD_eq_getElem?_getD, List.getD_eq_getElem?_getD, List.getElem?_map, List.getElem?_eq_getElem h]; rfl
theorem near_low {rs : List Str} {lst : Int} (hR : RowsOk rs) {k j : Nat} (hk : k < 16) (hj : j < 16) : nearS rs lst k j = lowS rs lst (k ^^^ j) := by
  obtain ⟨fs, h4, _, rfl⟩ := hR
  have hl := wdsN_len h4
  have hx : k ^^^ j < 16 := Nat.xor_lt_two_pow (n := 4) hk hj
  unfold nearS lowS
  rw [getD_map (by omega), getD_map (by omega)]
  have e : (shownI ((wdsN fs).map fm)).getD (k ^^^ j) 0 = 9 - (((fm ((wdsN fs).getD (k ^^^ j) 0)).cps.toList.count 45 : Nat) : Int) := by
    unfold shownI
    rw [List.getD_eq_getElem?_getD, List.getD_eq_getElem?_getD, List.getElem?_map, List.getElem?_map, List.getElem?_eq_getElem (by omega)]; rfl
  rw [e, wds_xor h4 hk hj]
  have hd := dist_fm ((wdsN fs).getD k 0) ((wdsN fs).getD j 0)
  rw [decide_eq_decide]
  omega
theorem rows_same {rs : List Str} {lst : Int} (hR : RowsOk rs) (k : Nat) : k ∈ grownN (lowS rs lst) 4 ↔ k ∈ bookN (nearS rs lst) 16 := by
  rw [book_grown, bookN_same 16 fun a ha b hb => (near_low (lst := lst) hR ha (by omega)).symm]
end Mine

end

-- Uld
section
open PySem PySem.W PySem.Calls PyProof.Rows
set_option maxRecDepth 100000
set_option maxHeartbeats 8000000
set_option rowWalk.seconds 0
namespace Mine
/-- enter a def that catches: the caller's frame goes onto the ledger -/
theorem enterTry {prog : Program} {w : World} {A : Around} {s : Shared} {h₀ : Heap} {L : Addr} {m : Str → Option Value} {env : Env} {news : List (Addr × Obj)} {K : Frag} {p : Program} {loose : List Str} {mean : ExcName → Option Value} {mg mb : Str → Option Value}
    {R : Result → Shared → Prop} {name qual : Str} {params : Arguments} {body : List Stmt} {scope : Scope} {dV kV doc pm cdv ct oc : Value} {an od : Option Addr} {osl : Array (Option Value)} {f : Addr} {args : Args} {binds : List (Str × Value)}
    (F : Fr h₀ L s.heap m) (X₀ : K.In h₀) (N : News h₀ L s.heap news) (T : Top p loose mean mg mb h₀) (hf : env.frame = some L) (hke : env.scope.kind = .function)
    (ho : K.lookup f = some ⟨oc, od, .func (fnOf name qual params body scope dV kV doc pm an cdv ct), osl⟩) (hcd : codeIn K cdv qual = true) (hroom : A.depth < recursionLimit)
    (hbind : BindsTo s (fnOf name qual params body scope dV kV doc pm an cdv ct) args binds) (hloc : ∀ y ∈ binds, scope.names.lookup y.1 = some .local)
    (h : ∀ oL L' h₁ tk, TI.Caller h₀ L m oL → TI.Frs [env] [(L, oL)] → (∀ p ∈ news, p.1 < L') → Fr h₀ L' h₁ (fun y => binds.reverse.lookup y) → News h₀ L' h₁ (news ++ [(L, oL)]) →
      wpAny (model prog w) (A.deeper (envOf qual scope L' f cdv)) (execs body (envOf qual scope L' f cdv))
        (fun fl s' => R (.ok (.ret (match fl with | .ret v => v | _ => .none))) s') (fun _ _ => False)
        { s with heap := h₁, toks := tk })
    (hco : scope.isCoroutine = false) (hgen : scope.isGenerator = false) (hk : scope.kind = .function)
    (hcell : ∀ x ∈ scope.names, x.2 ≠ .cell) : codeAny (model prog w) A (.call (.ref f) args) R s := by
  have X := X₀.keeps F.keep
  obtain ⟨oL, es, ep, hL, hLd, hLk, hLf⟩ := F.ns
  have hLt := Heap.lt_size hL
  refine codeAny_call_def (fd := fnOf name qual params body scope dV kV doc pm an cdv ct) (body := body) (binds := binds) hroom (X _ _ ho) rfl (T.nolimit.keeps F.keep) (codeRec_of X hcd) rfl hbind hcell hloc (fun h₁ hns up => ?_) hco hgen hk
  have C : TI.Caller h₀ L m oL := ⟨fun _ _ e => ⟨_, es, ep, e, hLd, hLk, hLf⟩, ⟨es, ep, hLd⟩, F.above⟩
  have G : TI.Frs [env] [(L, oL)] := ⟨by rw [hke]; decide, hf, ⟨es, ep, hLd⟩, trivial⟩
  refine wpAny_mono (h oL s.heap.objs.size h₁ _ C G (fun p hp => Heap.lt_size (N p hp).1) ⟨hns, fun b o e => up b o (F.keep b o e), Nat.le_trans F.above (Nat.le_of_lt hLt)⟩ ?_) (fun _ _ x => x) (fun _ _ x => x.elim)
  intro p hp
  rcases List.mem_append.mp hp with hp | hp
  · obtain ⟨h1, h2, h3⟩ := N p hp
    exact ⟨up _ _ h1, Nat.ne_of_lt (Heap.lt_size h1), h3⟩
  · rw [List.mem_singleton.mp hp]
    exact ⟨up _ _ hL, Nat.ne_of_lt hLt, Heap.get?_none_of_le F.above⟩
def natsI (l : List Nat) : List Int := l.map fun n : Nat => (n : Int)
theorem natsI_snoc (l : List Nat) (x : Nat) : natsI (l ++ [x]) = natsI l ++ [(x : Int)] := by simp [natsI]
theorem ints_snoc {vs : List Value} {l : List Nat} {x : Nat} (h : IntsAre vs (natsI (l ++ [x]))) : ∃ q t, vs = q ++ [.int (x : Int) t] ∧ IntsAre q (natsI l) := by
  rw [natsI_snoc] at h
  obtain ⟨y, t, h1, h2, h3⟩ := kpa_ints h (by rw [h.length, List.length_append]; exact Nat.succ_pos _)
  rw [List.dropLast_concat] at h3
  refine ⟨vs.dropLast, t, ?_, h3⟩
  rw [h2] at h1
  simpa using h1
theorem kf_ints_of {vs : List Value} {ns : List Int} (h : IntsAre vs ns) : kf_ints vs = true := by
  induction h with
  | nil => rfl
  | cons k t _ ih => exact ih
theorem isInt_no {k : Int} {vs : List Value} {ns : List Int} (h : IntsAre vs ns) (hk : k ∉ ns) : ∀ y ∈ vs, isInt k y = false := by
  induction h with
  | nil => intro y hy; cases hy
  | cons a t _ ih =>
    intro y hy
    rcases List.mem_cons.mp hy with rfl | hy
    · show (a == k) = false
      exact beq_eq_false_iff_ne.mpr fun e => hk (e ▸ .head _)
    · exact ih (fun q => hk (.tail _ q)) y hy
theorem kf_at_snoc {k : Int} {t : Tok} : ∀ {r : List Value}, (∀ y ∈ r, isInt k y = false) → kf_at k (r ++ [.int k t]) = some r.length
  | [], _ => by
    have : isInt k (.int k t) = true := beq_self_eq_true k
    simp [kf_at, this]
  | x :: r, h => by
    have ih := kf_at_snoc (t := t) (r := r) fun y hy => h y (.tail _ hy)
    rw [List.cons_append]
    unfold kf_at
    rw [h x (.head _), ih]; rfl
theorem ki_delL_snoc {y : Value} : ∀ {r : List Value}, ki_delL (r ++ [y]) r.length = some r
  | [] => rfl
  | x :: r => by
    rw [List.cons_append, List.length_cons]
    unfold ki_delL
    rw [ki_delL_snoc]
section
variable {prog : Program} {w : World} {A : Around} {E : Value → Shared → Prop} {s : Shared} {h₀ : Heap} {L D : Addr} {m : Str → Option Value} {news news' : List (Addr × Obj)} {n : Nat}
theorem pop_snoc {q : List Value} {y : Value} {Q : Value → Shared → Prop} (F : Fr h₀ L s.heap m) (N : News h₀ L s.heap news) (U : Upd D (listOf (q ++ [y]).toArray n) (listOf q.toArray (n + 1)) news news')
    (hz : q.length < 20) (h : ∀ h', Fr h₀ L h' m → News h₀ L h' news' → Q y { s with heap := h' }) : wpAny (model prog w) A (call (.builtin "list.pop") [.ref D]) Q E s :=
  kl_pop F N (by show kl_last (q ++ [y]).toArray.toList = _; rw [List.toList_toArray]; exact kpa_last y q) U (by rw [List.toList_toArray, List.length_append, sizeLine_eq, List.length_singleton]; omega) h
theorem rem_hit {r : List Value} {ns : List Int} {k : Int} {t u : Tok} {Q : Value → Shared → Prop} (F : Fr h₀ L s.heap m) (N : News h₀ L s.heap news) (hi : IntsAre r ns) (hk : k ∉ ns) (U : Upd D (listOf (r ++ [Value.int k u]).toArray n) (listOf r.toArray (n + 1)) news news')
    (hz : r.length < 20) (h : ∀ h', Fr h₀ L h' m → News h₀ L h' news' → Q .none { s with heap := h' }) : wpAny (model prog w) A (call (.builtin "list.remove") [.ref D, .int k t]) Q E s :=
  kf_remove F N (by show kf_ints (r ++ [Value.int k u]).toArray.toList = true; rw [List.toList_toArray]; exact kf_ints_of (hi.append (.cons k u .nil))) (by show kf_at k (r ++ [Value.int k u]).toArray.toList = _; rw [List.toList_toArray]; exact kf_at_snoc (isInt_no hi hk)) (by rw [List.toList_toArray]; exact ki_delL_snoc) U (by rw [List.toList_toArray, List.length_append, sizeLine_eq, List.length_singleton]; omega) h
theorem rem_miss {r : List Value} {ns : List Int} {k : Int} {t : Tok} {Q : Value → Shared → Prop} (N : News h₀ L s.heap news) (hm : (D, listOf r.toArray n) ∈ news) (hi : IntsAre r ns) (hk : k ∉ ns) (hA : A.handled = none)
    (h : ∀ h' tk e, Heap.NewExc s.heap h' e "ValueError" → E (.ref e) { s with heap := h', toks := tk }) : wpAny (model prog w) A (call (.builtin "list.remove") [.ref D, .int k t]) Q E s :=
  call_meets PySem.F.slot_list_remove ⟨_, (N _ hm).1, rfl⟩ PySem.F.entry_list_remove (PySem.F.args_list_remove_2 _ _)
    (MeetsSeq.list_remove_none D r.toArray n (.int k t) (isInt k) (fun y hy => kf_eq (kf_ints_of hi) y (by simpa using hy)) (fun j hj => isInt_no hi hk _ (by simp))) ⟨(N _ hm).1, hA, h⟩
end
local macro_rules | `(tactic| k_room) => `(tactic| ((try simp only [depth_under_make, depth_under_kw, depth_in1, depth_deeper, depth_caller, depth_At]); decide))
theorem sorted_len : ∀ {b : List Nat} {n : Nat}, b.Pairwise (· < ·) → (∀ x ∈ b, x < n) → b.length ≤ n := by
  intro b n hp hx
  have nd : b.Nodup := hp.imp fun h => Nat.ne_of_lt h
  have := nd.length_le_of_subset (l₂ := List.range n) fun x h => List.mem_range.mpr (hx x h)
  rwa [List.length_range] at this
theorem cut_not (b : List Nat) (n : Nat) : (n : Int) ∉ natsI (cutN b n) := fun q => by
  obtain ⟨x, hx, e⟩ := List.mem_map.mp q
  have := cutN_lt x hx
  omega
local macro_rules | `(tactic| walk_at "call builtin:list.pop") => `(tactic| (k_here; k_dflt (refine' pop_snoc ?F ?N ?U ?z ?_; (case F => k_asm); (case N => k_asm); (case U => k_upd); (case z => assumption)); intro h' F' N'; (try dsimp only [List.nil_append, List.cons_append] at N')))
local macro_rules | `(tactic| walk_at "call builtin:list.remove") => `(tactic| (k_here; k_dflt (first
  | (refine' rem_hit ?F ?N ?i ?k ?U ?z ?_; (case F => k_asm); (case N => k_asm); (case U => k_upd); (case i => assumption); (case k => assumption); (case z => assumption); intro h' F' N'; (try dsimp only [List.nil_append, List.cons_append] at N'))
  | (refine' rem_miss ?N ?m ?i ?k ?A ?_; (case N => k_asm); (case m => k_mem); (case i => assumption); (case k => assumption); (case A => rfl); intro h' tk' e' X'))))
theorem uld_use {w : World} {mean : ExcName → Option Value} {mg mb : Str → Option Value} {h₀ : Heap} {env1 : Env} {s : Shared} {Q E : Value → Shared → Prop} {L : Addr} {m : Str → Option Value} {le la ol : Addr} {evs bvs : List Value} {oO : Obj} {n1 n2 : Nat} {b : List Nat}
    (F : Fr h₀ L s.heap m) (X : (hd.heap_39 w.params).In h₀) (N : News h₀ L s.heap [(le, listOf evs.toArray n1), (la, listOf bvs.toArray n2), (ol, oO)]) (T : Top hd.view_39 (looseW hd.view_39 [Str.ofString "_filemode_table"]) mean mg mb h₀)
    (hf : env1.frame = some L) (hk : env1.scope.kind = .function) (hne1 : @Ne Nat le la) (hne2 : @Ne Nat le ol) (hne3 : @Ne Nat la ol) (he : IntsAre evs (natsI (List.range 16))) (hb : IntsAre bvs (natsI b)) (hbs : b.Pairwise (· < ·)) (hb16 : ∀ x ∈ b, x < 16)
    (h : ∀ tl ml mvs n n' h' tk', Fr h₀ L h' m → News h₀ L h' [(tl, { cls := .type "tuple", data := .seq #[.ref ml, .ref la] }), (ml, listOf mvs.toArray n), (la, listOf #[] n'), (ol, oO)] → (@Ne Nat tl ml ∧ @Ne Nat tl la ∧ @Ne Nat tl ol ∧ @Ne Nat ml la ∧ @Ne Nat ml ol) → IntsAre mvs (natsI (othN b 16)) → Q (.ref tl) { s with heap := h', toks := tk' }) :
    wpAny (model PySem.Challenge.rw_oy0059_01.row.prog w) (callerA.deeper env1) (call (.ref 110) [.ref le, .ref la]) Q E s := by
  w_top off
  k_with_none
  have kf : PySem.Challenge.rw_oy0059_01.row.prog = PySem.Challenge.rw_oy0059_01.row.prog ∧ hd.heap_39 w.params = hd.heap_39 w.params := by
    k_fill
    exact ⟨rfl, rfl⟩
  clear kf
  have la0 := (N _ (.tail _ (.head _))).2
  have ol0 := (N _ (.tail _ (.tail _ (.head _)))).2
  dsimp only at la0 ol0
  have q1 : @Ne Nat le L := (N _ (.head _)).2.1
  have q2 : @Ne Nat la L := la0.1
  have q3 : @Ne Nat ol L := ol0.1
  have hb20 : b.length < 20 := by have := sorted_len hbs hb16; omega
  refine wpAny_call ?_
  k_dflt (refine' enterTry F ?k3 N ?k5 hf hk ?k6 ?k7 ?k8 ?k9 ?kB ?_ ?c2 ?c3 ?c4 ?c5; (case k3 => k_asm); (case k5 => k_asm); (case k6 => k_is); (case k7 => k_is); (case k8 => k_room); (case k9 => exact BindsTo.of_eq rfl); (case c5 => decide); (case kB => exact locs rfl); (case c2 => exact rfl); (case c3 => exact rfl); (case c4 => exact rfl); k_whole; intro oL L' h1 tk1 C' G' lt1 F' N'; (try dsimp only))
  have F1 := fr_names F' [(Str.ofString "expected", .ref le), (Str.ofString "actual", .ref la)] (List.forall_mem_cons.mpr ⟨rfl, List.forall_mem_cons.mpr ⟨rfl, List.forall_mem_nil _⟩⟩)
  dsimp only [kstB] at F1
  clear F'
  simp only [List.cons_append, List.nil_append] at N'
  iterate 8 walk1
  rename Fr _ _ _ _ => F2
  rename News _ _ _ _ => N2
  refine with_mem N2 (.head _) fun ml _ e _ => ?_
  subst e
  have o1 := (N2 _ (.head _)).2.1
  have o2 := (N2 _ (.tail _ (.head _))).2.1
  have o3 := (N2 _ (.tail _ (.tail _ (.head _)))).2.1
  dsimp only at o1 o2 o3
  refine While_inv2 (fun n mm nw => ∃ p mvs k1 evs k2 bvs k3 sl, p + n = 16 ∧ mm (Str.ofString "missing") = some (.ref ml) ∧ mm (Str.ofString "expected") = some (.ref le) ∧ mm (Str.ofString "actual") = some (.ref la) ∧
    nw = [(ml, listOf mvs.toArray k1), (le, listOf evs.toArray k2), (la, listOf bvs.toArray k3), (ol, oO), (L, { oL with slots := sl })] ∧ TI.Frs [env1] [(L, { oL with slots := sl })] ∧ IntsAre mvs (natsI (othN b p)) ∧ IntsAre evs (natsI (List.range n)) ∧ IntsAre bvs (natsI (cutN b n)))
    (n₀ := 16) F2 N2 ⟨0, [], _, _, _, _, _, oL.slots, rfl, rfl, rfl, rfl, rfl, G', .nil, he, by rw [cutN_all hb16]; exact hb⟩ ?turn (by passes_own)
  case turn =>
    rintro n m1 nw h2 tk2 F3 N3 ⟨p, mvs, k1, evs, k2, bvs, k3, sl, hpn, hm1, hm2, hm3, rfl, G3, hmv, hev, hbv⟩
    have F4 := fr_names F3 [(Str.ofString "missing", .ref ml), (Str.ofString "expected", .ref le), (Str.ofString "actual", .ref la)] (by simp [hm1, hm2, hm3])
    dsimp only [kstB] at F4
    clear F2 N2 F3 hm1 hm2 hm3 F N G'; (try clear F1); (try clear N')
    cases n with
    | zero =>
      have e0 : evs = [] := List.length_eq_zero_iff.mp (by rw [hev.length]; rfl)
      subst e0
      have eb : bvs = [] := List.length_eq_zero_iff.mp (by rw [hbv.length, cutN_zero]; rfl)
      subst eb
      k_steps
      rename Fr _ _ _ _ => F5
      rename News _ _ _ _ => N5
      have hp : p = 16 := by omega
      subst hp
      have hL := (N5 _ (.tail _ (.tail _ (.tail _ (.tail _ (.tail _ (.head _))))))).1
      refine h _ ml mvs k1 k3 _ _ ⟨C'.ns _ sl hL, F5.keep, C'.above⟩ ?_ ?ne hmv
      case ne => exact ⟨by omega, by omega, by omega, by omega, by omega⟩
      refine List.forall_mem_cons.mpr ⟨⟨(N5 _ (.head _)).1, ?_, (N5 _ (.head _)).2.2⟩, List.forall_mem_cons.mpr ⟨⟨(N5 _ (.tail _ (.head _))).1, ?_, (N5 _ (.tail _ (.head _))).2.2⟩, List.forall_mem_cons.mpr ⟨⟨(N5 _ (.tail _ (.tail _ (.tail _ (.head _))))).1, la0⟩, List.forall_mem_cons.mpr ⟨⟨(N5 _ (.tail _ (.tail _ (.tail _ (.tail _ (.head _)))))).1, ol0⟩, List.forall_mem_nil _⟩⟩⟩⟩
      · show @Ne Nat _ _
        dsimp only; omega
      · show @Ne Nat _ _
        dsimp only; omega
    | succ n =>
      rw [List.range_succ] at hev
      obtain ⟨evq, t, rfl, hev2⟩ := ints_snoc hev
      have hel : evq.length < 20 := by rw [hev2.length, natsI, List.length_map, List.length_range]; omega
      k_steps
      refine wpAny_truthy_list (items := (evq ++ [Value.int (n : Int) t]).toArray) ⟨_, (N3 _ (.tail _ (.head _))).1, rfl, _, rfl⟩ (by rw [List.size_toArray, List.length_append, List.length_singleton]; omega) ?_
      have ee : (!(evq ++ [Value.int (n : Int) t]).toArray.isEmpty) = true := by simp
      rw [ee]
      have hno := cut_not b n
      have e15 : 15 - p = n := by omega
      have hml : mvs.length ≤ 16 := by
        have := othN_len b p
        rw [hmv.length, natsI, List.length_map]; omega
      by_cases hnb : n ∈ b
      · rw [cutN_in hbs hnb] at hbv
        obtain ⟨bvq, u, rfl, hbv2⟩ := ints_snoc hbv
        have hbl : bvq.length < 20 := by rw [hbv2.length, natsI, List.length_map]; exact Nat.lt_of_le_of_lt (List.length_filter_le _ _) hb20
        clear hbv hev
        k_steps
        rename Fr _ _ _ _ => F5
        rename News _ _ _ _ => N5
        exact ⟨_, _, _, _, n, rfl, F5, N5, Nat.lt_succ_self n, p + 1, mvs, _, _, _, _, _, sl, by omega, rfl, rfl, rfl, rfl, G3, by rw [othN_in (by rw [e15]; exact hnb)]; exact hmv, hev2, hbv2⟩
      · rw [cutN_out hnb] at hbv
        clear hev
        k_steps
        rename Fr _ _ _ _ => F5
        rename News _ _ _ _ => N5
        rw [List.push_toArray] at N5
        exact ⟨_, _, _, _, n, rfl, F5, N5, Nat.lt_succ_self n, p + 1, _, _, _, _, _, _, _, by omega, rfl, rfl, rfl, rfl, by assumption, by rw [othN_out (by rw [e15]; exact hnb), natsI_snoc, e15]; exact hmv.append (.cons _ _ .nil), hev2, hbv⟩
end Mine

end

-- StepComp
section
open PySem PySem.W PySem.Calls PyProof.Rows PyProof.Rows.LCg PyProof.Rows.LCt
set_option maxRecDepth 100000
namespace Mine
section
variable {prog : Program} {w : World} {A : Around} {E : Value → Shared → Prop} {s : Shared} {env : Env} {h₀ : Heap} {L : Addr} {m : Str → Option Value}
/-- where a comprehension with a test over a range of any step draws from -/
def StepSrc (prog : Program) (w : World) (A : Around) (h₀ : Heap) (L : Addr) (m : Str → Option Value) (env : Env) (ct elt : Expr) (x : Str) (scope : Scope) (cl : List (Str × Addr)) (Fin : Shared → List Value → List (Addr × Obj) → Prop) (xv : Value) (s₁ : Shared) : Prop :=
  ∃ r a b c t u v n news, xv = .ref r ∧ A.handled = none ∧ Fr h₀ L s₁.heap m ∧ News h₀ L s₁.heap news ∧ IsRange s₁.heap r a b c t u v ∧ Builtin.Range.small a b c = true ∧ Builtin.Range.rangeSize a b c = ((n : Nat) : Int) ∧ n ≤ sizeLine ∧
    ∀ g, CompRestT prog w A h₀ L m env ct elt x scope cl { s₁ with heap := g } (fun _ => True) (fun i v => ∃ t, v = .int (a + (i : Int) * c) t) (Fin { s₁ with heap := g }) n 0 [] news
theorem StepSrc.range {ct elt : Expr} {x : Str} {scope : Scope} {cl : List (Str × Addr)} {Fin : Shared → List Value → List (Addr × Obj) → Prop} {r : Addr} {a b c : Int} {t u v : Tok} {n : Nat} {news : List (Addr × Obj)} {s₁ : Shared}
    (hh : A.handled = none) (F : Fr h₀ L s₁.heap m) (N : News h₀ L s₁.heap news) (hr : IsRange s₁.heap r a b c t u v) (hsm : Builtin.Range.small a b c = true) (hn : Builtin.Range.rangeSize a b c = ((n : Nat) : Int)) (hsz : n ≤ sizeLine)
    (h : ∀ g, CompRestT prog w A h₀ L m env ct elt x scope cl { s₁ with heap := g } (fun _ => True) (fun i v => ∃ t, v = .int (a + (i : Int) * c) t) (Fin { s₁ with heap := g }) n 0 [] news) :
    StepSrc prog w A h₀ L m env ct elt x scope cl Fin (.ref r) s₁ := ⟨r, a, b, c, t, u, v, n, news, rfl, hh, F, N, hr, hsm, hn, hsz, h⟩
/-- a name is given such a comprehension -/
theorem Assign_step {ct elt iter : Expr} {x y : Str} {px py : Pos} {scope : Scope} {cl : List (Str × Addr)} {pos spos : Pos} {Q : Flow → Shared → Prop} (_F₀ : Fr h₀ env.locals s.heap m)
    (hsw : swapsWith (.ListComp elt [⟨.Name x px, iter, [ct], 0⟩] scope pos) (some (.Name y py)) spos.line env = pure true)
    (hclos : closureFor scope env = pure cl) (hcell : ∀ z ∈ scope.names, z.2 ≠ .cell) (hkind : scope.kind = .function)
    (hnames : ∀ z ∈ scope.names, z.2 = .local → scope.names.lookup z.1 = some .local) (hx : scope.names.lookup x = some .local)
    (hy : env.kindOf y = some .local) (hp : (env.scope.kind == .class || (env.scope.kind == .module && env.locals != env.globals)) = false)
    (h : wpAny (model prog w) A (eval iter env) (StepSrc prog w A h₀ env.locals m env ct elt x scope cl (fun s₂ => FinA h₀ env.locals m s₂ y Q)) E s)
    (hs : ∀ x, foldedSetIterable iter env x = pure x := by intro _; rfl) :
    wpAny (model prog w) A (exec (.Assign [.Name y py] (.ListComp elt [⟨.Name x px, iter, [ct], 0⟩] scope pos) spos) env) Q E s := by
  rw [exec_Assign_Name_used _ _ _ _ hsw]
  refine wpAny_bind (wpAny_standAt (wpAny_bind ?_))
  show wpAny _ A (do let _ ← comprehension (.ListComp elt [⟨.Name x px, iter, [ct], 0⟩] scope pos) scope env _ (newList []) false (eval iter env) (some (assign (.Name y py) env))) _ _ s
  refine wpAny_bind (wpAny_mono (wpAny_comprehension_free (use := some (assign (.Name y py) env)) (Q := fun _ s' => Q .next s') rfl hs hclos hkind hnames
    (wpAny_mono h (fun xv s₁ h₁ => ?_) fun _ _ e => e)) (fun _ s' hq => wpAny_pure (wpAny_pure hq)) fun _ _ e => e)
  obtain ⟨r, a, b, c, t, u, v, n, news, rfl, hh, F, N, hr, hsm, hn, hsz, R⟩ := h₁
  refine wpAny_pyIter_range hr hsm ?_
  refine block_T (Walks.range hh s₁.heap.objs.size a c n) hsz (fun i h st => ⟨_, st⟩) (fun i h h' o nw st e e' _ _ _ => ?_) hcell hkind hx (by show IsRangeIter _ _ _ _ _; rw [hn]; simpa using Heap.get?_push_size _ rfl) (fun b hb => ?_)
    (F.push _) (fun p hp => ⟨Heap.get?_push_of_some _ (N p hp).1, (N p hp).2⟩) (Nat.ne_of_lt F.ns.lt) (next_is_new F) (fun p hp => Nat.ne_of_lt (Heap.lt_size (N p hp).1)) trivial (R _) ?_
  · have st' : h.get? s₁.heap.objs.size = some _ := st
    show h'.get? s₁.heap.objs.size = some _
    rw [e', ← e]; exact st'
  · rw [List.mem_singleton.mp hb]
    show s₁.heap.objs.size < (s₁.heap.push _).objs.size
    rw [Heap.size_push]; exact Nat.lt_succ_self _
  · intro D C h' tk m' ys news' F' N' o1 hn hC₀ hD₀ hCL hDL hCD offC fin
    show wpAny _ A (assign (.Name y py) env (.ref D)) _ _ _
    refine wpAny_assign_Name (wpAny_storeName_local hy F'.ns (fun h₂ hn₂ hs₂ => ?_) hp)
    have F₂ := F'.set hn₂ hs₂
    refine ⟨m', hn.sameBut hs₂ hCL, fun h'' hs'' => fin D h'' _ (F₂.change hs'' hCL hC₀) (fun p hp => ⟨hs''.extBut _ _ ?_ (hs₂.extBut _ _ (N' p hp).2.1 (N' p hp).1), (N' p hp).2⟩) o1⟩
    rcases List.mem_cons.mp hp with rfl | hp
    · exact Ne.symm hCD
    · exact offC p hp
end
end Mine

end

-- EqEnd
section
open PySem PySem.W PySem.Calls PyProof.Rows
set_option maxRecDepth 100000
namespace Mine
theorem shaped_end (ns : List Int) : SeqAt.shaped (.tuple [.list (ns.map PyData.int), .list []]) = true := by
  simp [SeqAt.shaped, PyData.canLay0, PyData.canLayAll0, PyData.depth, PyData.depthAll, ke_canLayAll0, ke_depthAll]
theorem eqv_end (ns : List Int) : PyData.eqv (.tuple [.list (ns.map PyData.int), .list []]) (.tuple [.list (ns.map PyData.int), .list []]) = true := by
  simp [PyData.eqv, PyData.eqvAll, ked_eqvAll]
theorem eq_end {prog : Program} {w : World} {A : Around} {E : Value → Shared → Prop} {s : Shared} {Q : Value → Shared → Prop} {tl dl ml la ol nl : Addr} {mvs ys : List Value} {ns : List Int} {n1 n2 n3 : Nat} {h₀ : Heap} {L : Addr}
    (N : News h₀ L s.heap [(dl, { cls := .type "tuple", data := .seq #[.ref ol, .ref nl] }), (nl, listOf #[] n3), (tl, { cls := .type "tuple", data := .seq #[.ref ml, .ref la] }), (ml, listOf mvs.toArray n1), (la, listOf #[] n2), (ol, LCg.lst ys)])
    (i1 : IntsAre mvs ns) (i2 : IntsAre ys ns) (hu : A.units + 64 < cLine) (h : Q (.bool true) s) : wpAny (model prog w) A (compareOp .Eq (.ref tl) (.ref dl)) Q E s := by
  refine eq_dataH (da := .tuple [.list (ns.map PyData.int), .list []]) (db := .tuple [.list (ns.map PyData.int), .list []])
    (reads_tuple_at (N _ (.tail _ (.tail _ (.head _)))).1 rfl rfl (ReadsAll.cons (reads_newData ⟨_, (N _ (.tail _ (.tail _ (.tail _ (.head _))))).1, rfl, _, rfl⟩ (ke_carried i1)) (ReadsAll.cons (reads_list_at (N _ (.tail _ (.tail _ (.tail _ (.tail _ (.head _)))))).1 rfl rfl ReadsAll.nil) ReadsAll.nil)))
    (reads_tuple_at (N _ (.head _)).1 rfl rfl (ReadsAll.cons (reads_newData ⟨_, (N _ (.tail _ (.tail _ (.tail _ (.tail _ (.tail _ (.head _))))))).1, rfl, _, rfl⟩ (ke_carried i2)) (ReadsAll.cons (reads_list_at (N _ (.tail _ (.head _))).1 rfl rfl ReadsAll.nil) ReadsAll.nil)))
    (shaped_end ns) (shaped_end ns) hu ?_
  rw [eqv_end]
  exact h
end Mine

end

-- Law
section
open PySem PySem.W PySem.Calls PyProof.Rows
set_option maxRecDepth 100000
set_option maxHeartbeats 8000000
set_option rowWalk.seconds 0
namespace Mine
theorem news_one {h₀ h : Heap} {L : Addr} {p : Addr × Obj} {l : List (Addr × Obj)} (N : News h₀ L h l) (hm : p ∈ l) : News h₀ L h [p] := fun q hq => by rw [List.mem_singleton.mp hq]; exact N p hm
theorem any_in {g : List Nat} {k : Nat} (h : ((g.map fun n : Nat => (n : Int)).any fun x => x == (k : Int)) = true) : k ∈ g := by
  obtain ⟨x, hx, e⟩ := List.any_eq_true.mp h
  obtain ⟨y, hy, rfl⟩ := List.mem_map.mp hx
  have : y = k := by have := eq_of_beq e; omega
  exact this ▸ hy
theorem any_out {g : List Nat} {k : Nat} (h : ((g.map fun n : Nat => (n : Int)).any fun x => x == (k : Int)) = false) : k ∉ g := fun hk => by
  have := List.any_eq_false.mp h (k : Int) (List.mem_map.mpr ⟨k, hk, rfl⟩)
  exact this (beq_self_eq_true _)
theorem news_three {h₀ h : Heap} {L : Addr} {p q r : Addr × Obj} {l : List (Addr × Obj)} (N : News h₀ L h l) (hp : p ∈ l) (hq : q ∈ l) (hr : r ∈ l) : News h₀ L h [p, q, r] :=
  List.forall_mem_cons.mpr ⟨N _ hp, List.forall_mem_cons.mpr ⟨N _ hq, List.forall_mem_cons.mpr ⟨N _ hr, List.forall_mem_nil _⟩⟩⟩
theorem mask_fmod (x : Int) : Builtin.bitAnd x 4095 = x.fmod 4096 := by
  have h := kbt_mask x 12
  have e : (2 ^ 12 - 1 : Int) = 4095 := by decide
  have e2 : (2 ^ 12 : Int) = 4096 := by decide
  rw [e, e2] at h
  rw [h, Int.fmod_eq_emod_of_nonneg x (by decide)]
theorem fr_hide {h₀ h : Heap} {L : Addr} {m : Str → Option Value} (F : Fr h₀ L h m) (ps : List (Str × Value)) (e : ∀ p ∈ ps, m p.1 = some p.2) : ∃ m', Fr h₀ L h (kstB m' ps) := ⟨m, fr_names F ps e⟩
local macro_rules | `(tactic| walk_at "call ref") => `(tactic| (k_here; k_dflt (first
  | (refine' files_use ?k1 ?k2 ?k3 ?k4 ?k5 ?k6 ?k7 ?k8 ?k9 ?k10 ?_; (case k1 => k_asm); (case k2 => k_asm); (case k3 => k_asm); (case k4 => k_asm); (case k5 => k_asm); (case k6 => exact rfl); (case k7 => exact rfl); (case k8 => assumption); (case k9 => assumption); (case k10 => first | assumption | omega); intro a' vs' fs' n' h' tk' F' N' nn' i4'; (replace nn' := TLgL.allNe_of nn'); (try simp only [TLg.AllNe, and_true] at nn'))
  | (refine' rows_use ?k1 ?k2 ?k3 ?k4 ?k5 ?k6 ?k7 ?k8 ?k9 ?_; (case k1 => k_asm); (case k2 => k_asm); (case k3 => k_asm); (case k4 => k_asm); (case k5 => k_asm); (case k6 => exact rfl); (case k7 => exact rfl); (case k8 => k_mem); (case k9 => assumption); intro a' vs' rs' n' h' tk' F' N' nn' hs' hR'; (replace nn' := TLgL.allNe_of nn'); (try simp only [TLg.AllNe, and_true] at nn'))
  | (refine' grown_use ?k1 ?k2 ?k3 ?k4 ?k5 ?k6 ?k7 ?k8 ?k9 ?k10 ?_; (case k1 => k_asm); (case k2 => k_asm); (case k3 => k_asm); (case k4 => k_asm); (case k5 => k_asm); (case k6 => exact rfl); (case k7 => exact rfl); (case k8 => k_mem); (case k9 => assumption); (case k10 => assumption); intro a' vs' n' h' tk' F' N' nn' hg'; (replace nn' := TLgL.allNe_of nn'); (try simp only [TLg.AllNe, and_true] at nn'))
  | (refine' book_use ?k1 ?k2 ?k3 ?k4 ?k5 ?k6 ?k7 ?k8 ?k9 ?k10 ?_; (case k1 => k_asm); (case k2 => k_asm); (case k3 => k_asm); (case k4 => k_asm); (case k5 => k_asm); (case k6 => exact rfl); (case k7 => exact rfl); (case k8 => k_mem); (case k9 => assumption); (case k10 => assumption); intro a' vs' n' h' tk' F' N' nn' hb'; (replace nn' := TLgL.allNe_of nn'); (try simp only [TLg.AllNe, and_true] at nn')))))
local macro_rules | `(tactic| walk_at "eval ListComp") => `(tactic| (k_here; lct_look; k_dflt (refine LCt.ListComp_T (F₀ := by k_asm) (by with_unfolding_all rfl) (by decide) (by rfl) (by decide) (by rfl) ?_)))
local macro_rules | `(tactic| walk_at "call type:list") => `(tactic| (k_here; (rename IsRange _ _ _ _ _ _ _ _ => rgX); (with_unfolding_all refine' kll_range (n := 16) ?k0 ?k1 ?k2 rgX ?k4 ?k5 ?k6 ?_; (case k0 => rfl); (case k1 => k_asm); (case k2 => k_asm); (case k4 => decide); (case k5 => decide); (case k6 => decide)); intro D' vs' c' h' tk' F' N' l1 hI'; (try k_lt l1)))
theorem law_all : PySem.Challenge.rw_oy0059_01.Holds := hd (by
  k_with_none
  k_go0
  all_goals try k_fold
  rename IntsAre _ _ => hI0
  have hI0l := hI0.length
  rename Fr _ _ _ _ => F0
  obtain ⟨m0, F1⟩ := fr_hide F0 [(Str.ofString "script", _)] (List.forall_mem_cons.mpr ⟨rfl, List.forall_mem_nil _⟩)
  dsimp only [kstB] at F1
  clear F0
  iterate 12 walk1
  rename Fr _ _ _ _ => F2
  rename News _ _ _ _ => N2
  rename IntsAre _ (List.take 60 _) => hI2
  have hI2l := hI2.length
  k_dflt (refine LCt.CompSrcT.ledger rfl F2 N2 (.head _) (by rw [List.size_toArray, hI2l, sizeLine_eq]; omega) fun g9 => comp_T (fun p ys => ys = []) (.inr ⟨_, .head _, rfl, _, rfl⟩) ?fin ?step _ 0 [] (Nat.zero_add _) rfl)
  case step =>
    intro p v ys I3 o3 C3 oC3 D3 m3 h3 tk3 hp hP hInv hC hm3 F6 N6 off3 ne3
    obtain ⟨x, tx, hx, rfl⟩ := ints_at hI2 (by simpa using hP)
    clear F2 N2
    k_steps
    · exact absurd (mask_fmod x) (by assumption)
    · exact CStep.intro (by k_asm) (by k_asm) (fun _ h => h) hInv
  case fin =>
    intro ys hys D3 h3 tk3 F6 N6 off3
    subst hys
    obtain ⟨r1, r2, _⟩ := off3
    dsimp only at r1 r2
    clear F2 N2
    iterate 44 walk1
    rename Fr _ _ _ _ => F7
    rename News _ _ _ _ => N7
    obtain ⟨lst, tl, m7, F8⟩ : ∃ lst tl m', Fr _ _ _ (kstB m' [(Str.ofString "script", _), (Str.ofString "least", .int lst tl)]) := ⟨_, _, fr_hide F7 [(Str.ofString "script", _), (Str.ofString "least", .int _ _)] (List.forall_mem_cons.mpr ⟨rfl, List.forall_mem_cons.mpr ⟨rfl, List.forall_mem_nil _⟩⟩)⟩
    dsimp only [kstB] at F8
    have N8 := news_one N7 (.tail _ (.tail _ (.tail _ (.tail _ (.head _)))))
    clear F7 N7
    iterate 33 walk1
    k_dflt (refine Assign_step (_F₀ := by k_asm) (by with_unfolding_all rfl) (by with_unfolding_all rfl) (by decide) (by rfl) (by decide) (by rfl) (by rfl) (by rfl) ?_)
    iterate 15 walk1
    rename Fr _ _ _ _ => F9
    rename News _ _ _ _ => N9
    rename IsRange _ _ _ _ _ _ _ _ => R9
    rename RowsOk _ => hR
    rename StrsAre _ _ => hS
    rename IntsAre _ (List.map _ (grownN _ 4)) => hG
    generalize hgd : grownN _ 4 = g at hG
    have hgl : g.length ≤ 16 := by rw [← hgd]; exact grownN_len _ 4
    have hG2 := hG.length
    rw [List.length_map] at hG2
    k_dflt (refine StepSrc.range (n := 16) rfl F9 N9 R9 (by decide) (by decide) (by rw [sizeLine_eq]; omega) fun g9 => comp_T (fun p ys => IntsAre ys (natsI (othN g p))) trivial ?fin2 ?step2 _ 0 [] (Nat.zero_add _) .nil)
    case step2 =>
      intro p v ys I3 o3 C3 oC3 D4 m3 h3 tk3 hp hP hInv hC hm3 F10 N10 off3 ne3
      obtain ⟨tp, rfl⟩ := hP
      have e15 : (15 : Int) + (p : Int) * (-1) = ((15 - p : Nat) : Int) := by omega
      rw [e15] at hm3
      generalize hk : 15 - p = k at hm3
      clear F9 N9 F8 N8
      k_steps
      · rename (_ = true) => hq
        refine CStep.intro (by k_asm) (by k_asm) (fun _ h => h) ?_
        rw [othN_in (by rw [hk]; exact any_in hq)]
        exact hInv
      · rename (_ = false) => hq
        refine CStep.intro (by k_asm) (by k_asm) (fun _ h => h) ?_
        rw [othN_out (by rw [hk]; exact any_out hq), hk, natsI_snoc]
        exact hInv.append (.cons _ _ .nil)
    case fin2 =>
      intro ys hys D4 h4 tk4 F10 N10 off4
      clear F9 N9 F8 N8
      iterate 33 walk1
      rename Fr _ _ _ _ => F11
      rename News _ _ _ _ => N11
      with_reducible rename IntsAre _ (rangeKs 0 16) => hr16
      with_reducible rename IntsAre _ (List.map _ (bookN _ 16)) => hb16
      have er : rangeKs 0 16 = natsI (List.range 16) := by decide
      rw [er] at hr16
      have N12 := news_three N11 (.tail _ (.head _)) (.head _) (.tail _ (.tail _ (.head _)))
      have same : othN g 16 = othN (bookN (nearS _ lst) 16) 16 := othN_congr (fun k => hgd ▸ rows_same (lst := lst) hR k) 16
      generalize hbd : bookN _ 16 = bk at hb16 same
      have hbs : bk.Pairwise (· < ·) := by rw [← hbd]; exact bookN_sorted _ _
      have hbl : ∀ x ∈ bk, x < 16 := by rw [← hbd]; exact bookN_lt _ _
      have hol : (othN g 16).length ≤ 16 := othN_len _ _
      clear hbd hgd
      generalize othN g 16 = oth at hys same hol
      k_dflt (refine uld_use (b := bk) F11 (by k_asm) N12 (by k_asm) rfl rfl (by omega) (by omega) (by omega) hr16 hb16 hbs hbl ?_)
      intro tl ml mvs n1 n2 h5 tk5 F13 N13 ne5 hm5
      rw [← same] at hm5
      have hysl := hys.length
      have hm5l := hm5.length
      generalize natsI oth = oti at hys hm5 hysl hm5l
      clear F11 N11 N12 same hr16 hb16
      iterate 9 walk1
      rename News _ _ _ _ => N14
      k_dflt (refine eq_end N14 hm5 hys (by first | units_room | exact Nat.le_of_ble_eq_true rfl) ?_)
      k_steps)
end Mine

end

theorem PySem.Challenge.cw_oy0059_01_holds : PySem.Challenge.rw_oy0059_01.Holds :=
  Mine.law_all
