import PyProof.Rows.All
import Wide.All
import OpenK.AllK
import Wide.FinOn
import PySem.Challenge.RW_pe0135_01
open PySem PySem.W PyProof.Rows
set_option Elab.async false
set_option maxRecDepth 100000

-- Hd
set_option maxHeartbeats 8000000
namespace Mine
open_top hd for PySem.Challenge.rw_pe0135_01
end Mine

-- Fw
set_option maxHeartbeats 1000000
section
open PySem.Calls PySem.Spec
namespace Mine
section
variable {w : World} {A : Around} {base : Heap} {outer : List Env} {s : Shared} {loose : List Str} {mean : ExcName → Option Value} {mg mb : Str → Option Value} {Q : Value → Shared → Prop} {E : Value → Shared → Prop}
theorem enterP {name qual : Str} {params : Arguments} {body : List Stmt} {scope : Scope} {dV kV doc pm cdv ct oc : Value} {an od : Option Addr} {osl : Array (Option Value)} {f : Addr} {vals : List Value} {kw : List (Str × Value)} {binds : List (Str × Value)}
    (X : (hd.heap_39 w.params).In s.heap) (T : Top topProg loose mean mg mb s.heap)
    (ho : (hd.heap_39 w.params).lookup f = some ⟨oc, od, .func (fnOf name qual params body scope dV kV doc pm an cdv ct), osl⟩) (hcd : codeIn (hd.heap_39 w.params) cdv qual = true) (hroom : A.depth < recursionLimit)
    (hbind : BindsTo s (fnOf name qual params body scope dV kV doc pm an cdv ct) ⟨vals, kw⟩ binds) (hloc : ∀ y ∈ binds, scope.names.lookup y.1 = some .local)
    (h : ∀ L' h₁, Fr s.heap L' h₁ (fun y => binds.reverse.lookup y) → News s.heap L' h₁ [] →
      wpAny (model Challenge.rw_pe0135_01.row.prog w) (A.deeper (envOf qual scope L' f cdv)) (execs body (envOf qual scope L' f cdv))
        (fun fl s' => Q (match fl with | .ret v => v | _ => .none) s') (fun _ _ => False)
        { s with heap := h₁, toks := s.toks + binds.length })
    (hco : scope.isCoroutine = false := by rfl) (hgen : scope.isGenerator = false := by rfl) (hk : scope.kind = .function := by rfl)
    (hcell : ∀ x ∈ scope.names, x.2 ≠ .cell := by decide) : wpAny (model Challenge.rw_pe0135_01.row.prog w) A (call (.ref f) vals kw) Q E s := by
  refine wpAny_call (codeAny_call_def (fd := fnOf name qual params body scope dV kV doc pm an cdv ct) (body := body) (binds := binds) hroom (X _ _ ho) rfl T.nolimit (codeRec_of X hcd) rfl hbind hcell hloc (fun h₁ hns hk₁ => ?_) hco hgen hk)
  exact wpAny_mono (h s.heap.objs.size h₁ ⟨hns, hk₁, Nat.le_refl _⟩ News.nil) (fun _ _ y => y) fun _ _ y => y.elim
theorem enterC {name qual : Str} {params : Arguments} {body : List Stmt} {scope : Scope} {dV kV doc pm cdv ct oc : Value} {an od : Option Addr} {osl : Array (Option Value)} {f : Addr} {vals : List Value} {kw : List (Str × Value)} {binds : List (Str × Value)}
    (X : (hd.heap_39 w.params).In s.heap) (T : Top topProg loose mean mg mb s.heap)
    (ho : (hd.heap_39 w.params).lookup f = some ⟨oc, od, .func (fnOf name qual params body scope dV kV doc pm an cdv ct), osl⟩) (hcd : codeIn (hd.heap_39 w.params) cdv qual = true) (hroom : A.depth < recursionLimit)
    (hbind : BindsTo s (fnOf name qual params body scope dV kV doc pm an cdv ct) ⟨vals, kw⟩ binds)
    (hkind : (binds.all fun y => scope.names.lookup y.1 == some .local || scope.names.lookup y.1 == some .cell) = true)
    (hnd : ((cellsFrom 0 scope.names []).map (·.1)).Nodup)
    (h : ∀ L' h₁ tk cells, Fr s.heap L' h₁ (bindL (envOfC qual scope L' f cdv).kindOf binds fun _ => none) → News s.heap L' h₁ cells →
      CellsAre (bindC (envOfC qual scope L' f cdv).kindOf binds fun _ => none) (cellsFrom (L' + 1) scope.names []) cells →
      wpAny (model Challenge.rw_pe0135_01.row.prog w) (A.deeper (envOfC qual scope L' f cdv)) (execs body (envOfC qual scope L' f cdv))
        (fun fl s' => Q (match fl with | .ret v => v | _ => .none) s') (fun _ _ => False)
        { s with heap := h₁, toks := tk })
    (hco : scope.isCoroutine = false := by rfl) (hgen : scope.isGenerator = false := by rfl) (hk : scope.kind = .function := by rfl) :
    wpAny (model Challenge.rw_pe0135_01.row.prog w) A (call (.ref f) vals kw) Q E s := by
  refine wpAny_call (codeAny_call_function hroom (X _ _ ho) rfl hco hgen rfl (codeRec_of X hcd) (hbind _ _ _ _ ?_))
  refine wpAny_newFunctionEnv_cells hk (kindsX hkind _) fun env' he s' x => ?_
  subst he
  refine ⟨T.nolimit.keeps x.toInCall.keep, codeAny_func ?_⟩
  obtain ⟨h₁, tk, rfl, _⟩ := x.done
  have hk₁ := x.toInCall.keep
  obtain ⟨cells, NC, Y⟩ := Cl.news (h₀ := s.heap) (Nat.le_refl _) fun n c hm => ⟨x.cell n c (lookup_of_mem_nodup (cellsFrom_names scope.names 0 (s.heap.objs.size + 1) [] [] rfl ▸ hnd) hm), x.above n c hm⟩
  exact wpAny_mono (h s.heap.objs.size h₁ tk cells ⟨x.toInCall.ns, hk₁, Nat.le_refl _⟩ NC Y) (fun _ _ y => y) fun _ _ y => y.elim
end
end Mine
end

-- Fw2
set_option maxHeartbeats 1000000
section
open PySem.Calls PySem.Spec
namespace Mine
def Stop (P : Prop) : Prop := P
theorem Stop.to {P : Prop} (h : Stop P) : P := h
theorem Stop.mk {P : Prop} (h : P) : Stop P := h
section
variable {prog : Program} {w : World} {A : Around} {E : Value → Shared → Prop} {s : Shared} {env : Env} {h₀ : Heap} {x : Str} {body : List Stmt} {Q : Flow → Shared → Prop}
/-- a for over a list that stood before the call, any items -/
theorem loopH {l : Addr} {vs : List Value} {m₀ : Str → Option Value} {news : List (Addr × Obj)} (J : Nat → (Str → Option Value) → List (Addr × Obj) → Prop)
    (hh : A.handled = none) (hl : h₀.IsList l vs.toArray) (F : Fr h₀ env.locals s.heap m₀) (N : News h₀ env.locals s.heap news) (hj : J 0 m₀ news)
    (turn : ∀ i v m₁ news₁ h tk own, vs[i]? = some v → OwnOff own (news₁.map (·.1)) → J i m₁ news₁ → Fr h₀ env.locals h (fun y => if y = x then some v else m₁ y) → News h₀ env.locals h (news₁ ++ own) →
      wpAny (model prog w) A (execs body env) (InvPostG h₀ env.locals (J (i + 1)) own { s with heap := h, toks := tk } Q) E { s with heap := h, toks := tk })
    (done : ∀ m₁ news₁ h tk, J vs.length m₁ news₁ → Fr h₀ env.locals h m₁ → News h₀ env.locals h news₁ → Q .next { s with heap := h, toks := tk }) :
    wpAny (model prog w) A (pyIter (.ref l)) (fun it s₂ => LoopAtV prog w A h₀ env x body Q E it s₂) E s := by
  have hls : s.heap.IsList l vs.toArray := hl.at fun o e => F.keep l o e
  obtain ⟨ol, hol, _⟩ := id hl
  have hlt : l < h₀.objs.size := Heap.lt_size hol
  have hlL : l < env.locals := Nat.lt_of_lt_of_le hlt F.above
  have hne : l ≠ s.heap.objs.size := Nat.ne_of_lt (Nat.lt_trans hlL F.ns.lt)
  refine wpAny_pyIter_list hls ?_
  have W := Walks.list (prog := prog) (w := w) hh s.heap.objs.size l hne vs.toArray
  rw [List.size_toArray] at W
  refine ⟨_, _, _, vs.length, _, _, m₀, news, J, rfl, W, ?_, ?_, ?_, ⟨⟨_, Heap.get?_push_size _ rfl, rfl, rfl⟩, hls.at fun o e => Heap.get?_push_of_some _ e⟩, F.push _, (fun p hp => ⟨Heap.get?_push_of_some _ (N p hp).1, (N p hp).2⟩), hj, ?_, fun h' tk m' news' F' N' _ hJ => done m' news' h' tk hJ F' N'⟩
  · intro hm
    rcases List.mem_cons.mp hm with e | hm
    · exact absurd F.ns.lt (e ▸ Nat.lt_irrefl _)
    · exact absurd hlL ((List.mem_singleton.mp hm) ▸ Nat.lt_irrefl _)
  · intro b hb
    rw [List.mem_singleton.mp hb]
    exact next_is_new F
  · intro p hp hI
    exact absurd (Heap.lt_size (N p hp).1) ((List.mem_singleton.mp hI) ▸ Nat.lt_irrefl _)
  · rintro i v m₁ news₁ s₁ own ⟨g, tk', rfl⟩ _ hP hJ hoff hown _ hfp hst F₁ N₁
    obtain ⟨⟨oI, hoI, _⟩, _⟩ := id hst
    have hIown : (s.heap.objs.size, oI) ∈ own := hfp _ (List.mem_cons.mpr (.inl rfl)) (next_is_new F) _ hoI
    have hsep : OwnOff own (news₁.map (·.1)) := by
      intro p hp b hb e
      obtain ⟨q, hq, rfl⟩ := List.mem_map.mp hb
      rcases List.mem_cons.mp (hown p hp) with h1 | h1
      · exact hoff q hq (List.mem_singleton.mpr (e ▸ h1))
      · have h3 := (N₁ q (List.mem_append.mpr (.inr hq))).2.2
        rw [← e, List.mem_singleton.mp h1, hol] at h3
        cases h3
    have N₂ : News h₀ env.locals g (news₁ ++ own) := fun p hp => N₁ p (List.mem_append.mpr (List.mem_append.mp hp).symm)
    refine wpAny_mono (turn i v m₁ news₁ g tk' own (by simpa using hP) hsep hJ F₁ N₂) (fun f s₂ p => ?_) fun _ _ e => e
    have fin : InvEndG h₀ env.locals (J (i + 1)) own { s with heap := g, toks := tk' } s₂ → LoopStepU h₀ env.locals [s.heap.objs.size] own (J (i + 1)) { s with heap := g, toks := tk' } .next s₂ := by
      rintro ⟨h', tk, m', news', nx, e, F', N', hn, ho, ha, hm⟩
      exact ⟨rfl, h', tk, m', nx, e, F', fun p hp => N' p ((List.mem_append.mp hp).elim (ho p) (hn p)), fun p hp hq => ha _ hIown p.1 (List.mem_map.mpr ⟨p, hp, rfl⟩) (List.mem_singleton.mp hq).symm, hm⟩
    cases f with
    | ret v => exact .ret p
    | brk => exact .brk p
    | next => exact .next (fin p)
    | cont => exact .cont (fin p)
/-- a for over range(a, a + n) -/
theorem loopR {r : Addr} {a₀ b₀ : Int} {t₀ u₀ v₀ : Tok} {n : Nat} {m₀ : Str → Option Value} {news : List (Addr × Obj)} (J : Nat → (Str → Option Value) → List (Addr × Obj) → Prop)
    (hh : A.handled = none) (hr : IsRange s.heap r a₀ b₀ 1 t₀ u₀ v₀) (hsmall : Builtin.Range.small a₀ b₀ 1 = true) (hsz : Builtin.Range.rangeSize a₀ b₀ 1 = (n : Int)) (F : Fr h₀ env.locals s.heap m₀) (N : News h₀ env.locals s.heap news) (hj : J 0 m₀ news)
    (turn : ∀ i t m₁ news₁ h tk own, i < n → OwnOff own (news₁.map (·.1)) → J i m₁ news₁ → Fr h₀ env.locals h (fun y => if y = x then some (.int (a₀ + (i : Int)) t) else m₁ y) → News h₀ env.locals h (news₁ ++ own) →
      wpAny (model prog w) A (execs body env) (InvPostG h₀ env.locals (J (i + 1)) own { s with heap := h, toks := tk } Q) E { s with heap := h, toks := tk })
    (done : ∀ m₁ news₁ h tk, J n m₁ news₁ → Fr h₀ env.locals h m₁ → News h₀ env.locals h news₁ → Q .next { s with heap := h, toks := tk }) :
    wpAny (model prog w) A (pyIter (.ref r)) (fun it s₂ => LoopAtV prog w A h₀ env x body Q E it s₂) E s := by
  refine wpAny_pyIter_range hr hsmall ?_
  have W : Walks prog w A s.heap.objs.size [s.heap.objs.size] [s.heap.objs.size] n (fun i v => i < n ∧ ∃ t, v = .int (a₀ + i * 1) t)
      (fun i h => IsRangeIter h s.heap.objs.size (a₀ + (i : Nat) * 1) ((n : Int) - (i : Nat)) 1) := (Walks.range hh _ a₀ 1 n).bound
  refine kdr_loop J W (fun _ h => h) (fun _ h => h) ?_ ?_ ?_ ?_ (by show IsRangeIter _ _ _ _ _; rw [hsz]; simpa using Heap.get?_push_size _ rfl) (F.push _) (fun p hp => ⟨Heap.get?_push_of_some _ (N p hp).1, (N p hp).2⟩) hj ?_ done
  · intro i h hi b hb
    rw [List.mem_singleton.mp hb]
    exact ⟨_, hi⟩
  · intro hm
    exact absurd F.ns.lt ((List.mem_singleton.mp hm) ▸ Nat.lt_irrefl _)
  · intro b hb
    rw [List.mem_singleton.mp hb]
    exact next_is_new F
  · intro p hp hI
    exact absurd (Heap.lt_size (N p hp).1) ((List.mem_singleton.mp hI) ▸ Nat.lt_irrefl _)
  · rintro i v m₁ nx h tk own hi ⟨_, t, rfl⟩ hoff hJ F₁ N₁
    rw [Int.mul_one] at F₁
    exact turn i t m₁ nx h tk own hi hoff hJ F₁ N₁
end
end Mine
end

-- Fw3
set_option maxHeartbeats 1000000
section
open PySem.Calls PySem.Spec
namespace Mine
theorem peek1_wp {α : Type} {K : Frag} {M : Model} {A : Around} {E : Value → Shared → Prop} {Q : α → Shared → Prop} {s : Shared} {o : Obj} {r : Addr → α}
    (X : K.In s.heap) (q : Q (r s.heap.objs.size) { s with heap := s.heap.push o }) :
    ∀ (t : Sem α) (g : Addr → Option α), peek1 K ⟨M.prog, M.w.params⟩ t = some (o, g) → (∀ D, g D = some (r D)) → wpAny M A t Q E s := by
  intro t
  induction t with
  | rule _ k ih => intro g e hg Γ p hΓ; exact ih () g e hg Γ p hΓ
  | point _ k ih => intro g e hg Γ p hΓ; exact ih () g e hg Γ p hΓ
  | ask k ih => intro g e hg Γ p hΓ; exact ih _ g e hg Γ p hΓ
  | load a _ k ih =>
    intro g e hg Γ p hΓ
    simp only [peek1] at e
    split at e
    · rename_i ob ho; exact ⟨ob, X _ _ ho, ih ob g e hg Γ p hΓ⟩
    · cases e
  | alloc ob k _ =>
    intro g e hg
    have e : some (ob, fun D => peek K ⟨M.prog, M.w.params⟩ (k D)) = some (o, g) := e
    obtain ⟨rfl, rfl⟩ := Prod.mk.inj (Option.some.inj e)
    have X' : K.In (s.heap.push ob) := X.keeps fun b x hb => Heap.get?_push_of_some _ hb
    show wpAny M A (alloc ob >>= k) Q E s
    exact wpAny_bind (wpAny_alloc ((Looks.of_peek (M := M) (h := s.heap.push ob) X' (hg s.heap.objs.size)).here (s := { s with heap := s.heap.push ob }) q))
  | _ => intro g e; cases e
section
variable {w : World} {A : Around} {s : Shared} {loose : List Str} {mean : ExcName → Option Value} {mg mb : Str → Option Value} {Q : Value → Shared → Prop} {E : Value → Shared → Prop}
/-- a def with *rest -/
theorem enterV {name qual : Str} {params : Arguments} {body : List Stmt} {scope : Scope} {dV kV doc pm cdv ct oc : Value} {an od : Option Addr} {osl : Array (Option Value)} {f : Addr} {vals vs : List Value} {g₁ : Addr → Option (List (Str × Value))} {binds : Addr → List (Str × Value)}
    (X : (hd.heap_39 w.params).In s.heap) (T : Top topProg loose mean mg mb s.heap)
    (ho : (hd.heap_39 w.params).lookup f = some ⟨oc, od, .func (fnOf name qual params body scope dV kV doc pm an cdv ct), osl⟩) (hcd : codeIn (hd.heap_39 w.params) cdv qual = true) (hroom : A.depth < recursionLimit)
    (hp : peek1 (hd.heap_39 w.params) ⟨Challenge.rw_pe0135_01.row.prog, w.params⟩ (bindArgs (fnOf name qual params body scope dV kV doc pm an cdv ct) ⟨vals, []⟩) = some (({ cls := .type "tuple", data := .seq vs.toArray } : Obj), g₁))
    (hg : ∀ D, g₁ D = some (binds D)) (hloc : ∀ D, ∀ y ∈ binds D, scope.names.lookup y.1 = some .local)
    (h : ∀ D L' h₁, Fr s.heap L' h₁ (fun y => (binds D).reverse.lookup y) → News s.heap L' h₁ [(D, { cls := .type "tuple", data := .seq vs.toArray })] →
      wpAny (model Challenge.rw_pe0135_01.row.prog w) (A.deeper (envOf qual scope L' f cdv)) (execs body (envOf qual scope L' f cdv))
        (fun fl s' => Q (match fl with | .ret v => v | _ => .none) s') (fun _ _ => False)
        { s with heap := h₁, toks := s.toks + (binds D).length })
    (hco : scope.isCoroutine = false := by rfl) (hgen : scope.isGenerator = false := by rfl) (hk : scope.kind = .function := by rfl)
    (hcell : ∀ x ∈ scope.names, x.2 ≠ .cell := by decide) : wpAny (model Challenge.rw_pe0135_01.row.prog w) A (call (.ref f) vals) Q E s := by
  refine wpAny_call (codeAny_call_function (fd := fnOf name qual params body scope dV kV doc pm an cdv ct) (body := body) hroom (X _ _ ho) rfl hco hgen rfl (codeRec_of X hcd) ?_)
  refine peek1_wp (o := ({ cls := .type "tuple", data := .seq vs.toArray } : Obj)) (r := binds) X ?_ _ g₁ hp hg
  have k₀ : ∀ b o, s.heap.get? b = some o → (s.heap.push ({ cls := .type "tuple", data := .seq vs.toArray } : Obj)).get? b = some o := fun b o e => Heap.get?_push_of_some _ e
  refine wpAny_newFunctionEnv hcell (hloc _) (fun h₁ hns hsb => ⟨(T.nolimit.keeps k₀).fresh _ hsb, codeAny_func ?_⟩) hk
  have k₁ : ∀ b o, (s.heap.push ({ cls := .type "tuple", data := .seq vs.toArray } : Obj)).get? b = some o → h₁.get? b = some o := fun b o e => hsb.extBut b o (Nat.ne_of_lt (Heap.lt_size e)) (Heap.get?_push_of_some _ e)
  have hsz : (s.heap.push ({ cls := .type "tuple", data := .seq vs.toArray } : Obj)).objs.size = s.heap.objs.size + 1 := Heap.size_push _ _
  refine wpAny_mono (h s.heap.objs.size (s.heap.push ({ cls := .type "tuple", data := .seq vs.toArray } : Obj)).objs.size h₁ ⟨hns, fun b o e => k₁ b o (k₀ b o e), by rw [hsz]; exact Nat.le_succ _⟩ (fun p hp => ?_)) (fun _ _ y => y) fun _ _ y => y.elim
  rw [List.mem_singleton.mp hp]
  refine ⟨k₁ _ _ (Heap.get?_push_size _ rfl), by rw [hsz]; exact Nat.ne_of_lt (Nat.lt_succ_self _), ?_⟩
  cases q : s.heap.get? s.heap.objs.size with
  | none => rfl
  | some o' => exact absurd (Heap.lt_size q) (Nat.lt_irrefl _)
end
end Mine
end

-- Fw4
set_option maxHeartbeats 1000000
section
open PySem.Calls PySem.Spec
namespace Mine
open LCg LCt
section
variable {prog : Program} {w : World} {A : Around} {s : Shared} {h₀ : Heap} {L : Addr} {m : Str → Option Value} {env : Env}
/-- what a turn of a comprehension leaves -/
def Stays (h₀ : Heap) (L : Addr) (m : Str → Option Value) (s : Shared) (led : List (Addr × Obj)) (P : Prop) (s₂ : Shared) : Prop :=
  ∃ h' tk, s₂ = { s with heap := h', toks := tk } ∧ Fr h₀ L h' m ∧ News h₀ L h' led ∧ P
theorem compT_ind {ct elt : Expr} {x : Str} {scope : Scope} {cl : List (Str × Addr)} {S : List (Addr × Obj) → Prop} {P : Nat → Value → Prop} {Fin : List Value → List (Addr × Obj) → Prop} {news : List (Addr × Obj)} {n : Nat}
    (J : Nat → List Value → Prop) (hS : S news)
    (step : ∀ i ys v I oI C oC D m₂ h tk (E' : Value → Shared → Prop), i < n → J i ys → P i v → NsObj oC m₂ → m₂ x = some v → Fr h₀ L h m → News h₀ L h ((I, oI) :: (C, oC) :: (D, lst ys) :: news) →
      wpAny (model prog w) A (isTrue ct (compEnvC scope cl C env) (eval ct (compEnvC scope cl C env))) (fun ok s' => if ok = true then
        wpAny (model prog w) A (eval elt (compEnvC scope cl C env)) (fun y s₂ => Stays h₀ L m { s with heap := h, toks := tk } ((I, oI) :: (C, oC) :: (D, lst ys) :: news) (J (i + 1) (ys ++ [y])) s₂) E' s'
        else Stays h₀ L m { s with heap := h, toks := tk } ((I, oI) :: (C, oC) :: (D, lst ys) :: news) (J (i + 1) ys) s') E' { s with heap := h, toks := tk })
    (fin : ∀ ys, J n ys → Fin ys news) : ∀ k i ys, i + k = n → J i ys → CompRestT prog w A h₀ L m env ct elt x scope cl s S P Fin k i ys news
  | 0, i, ys, e, hj => by
    obtain rfl : i = n := e
    exact fin ys hj
  | k + 1, i, ys, e, hj => by
    refine CompRestT.succ fun v I oI C oC D m₂ h tk E' hP hC hx F N off ne => ?_
    refine wpAny_mono (step i ys v I oI C oC D m₂ h tk E' (by omega) hj hP hC hx F N) (fun ok s' q => ?_) fun _ _ y => y
    cases ok with
    | true =>
      refine wpAny_mono q (fun y s₂ q => ?_) fun _ _ y => y
      obtain ⟨h', tk', rfl, F', N', hj'⟩ := q
      exact CompEnd.intro F' N' news (fun _ hp => hp) off hS (compT_ind J hS step fin k (i + 1) _ (by omega) hj')
    | false =>
      obtain ⟨h', tk', rfl, F', N', hj'⟩ := q
      rw [if_neg Bool.false_ne_true]
      exact CompEnd.intro F' N' news (fun _ hp => hp) off hS (compT_ind J hS step fin k (i + 1) _ (by omega) hj')
theorem compU_ind {elt : Expr} {x : Str} {scope : Scope} {cl : List (Str × Addr)} {S : List (Addr × Obj) → Prop} {P : Nat → Value → Prop} {Fin : List Value → List (Addr × Obj) → Prop} {news : List (Addr × Obj)} {n : Nat}
    (J : Nat → List Value → Prop) (hS : S news)
    (step : ∀ i ys v I oI C oC D m₂ h tk (E' : Value → Shared → Prop), i < n → J i ys → P i v → NsObj oC m₂ → m₂ x = some v → Fr h₀ L h m → News h₀ L h ((I, oI) :: (C, oC) :: (D, lst ys) :: news) →
      wpAny (model prog w) A (eval elt (compEnvC scope cl C env)) (fun y s₂ => Stays h₀ L m { s with heap := h, toks := tk } ((I, oI) :: (C, oC) :: (D, lst ys) :: news) (J (i + 1) (ys ++ [y])) s₂) E' { s with heap := h, toks := tk })
    (fin : ∀ ys, J n ys → Fin ys news) : ∀ k i ys, i + k = n → J i ys → CompRest prog w A h₀ L m env elt x scope cl s S P Fin k i ys news
  | 0, i, ys, e, hj => by
    obtain rfl : i = n := e
    exact fin ys hj
  | k + 1, i, ys, e, hj => by
    refine CompRest.succ fun v I oI C oC D m₂ h tk E' hP hC hx F N off ne => ?_
    refine wpAny_mono (step i ys v I oI C oC D m₂ h tk E' (by omega) hj hP hC hx F N) (fun y s₂ q => ?_) fun _ _ y => y
    obtain ⟨h', tk', rfl, F', N', hj'⟩ := q
    exact CompEnd.intro F' N' news (fun _ hp => hp) off hS (compU_ind J hS step fin k (i + 1) _ (by omega) hj')
end
end Mine
namespace Mine
theorem news_cons {h₀ h h' : Heap} {L D : Addr} {m : Str → Option Value} {news : List (Addr × Obj)} {o : Obj} (F : Fr h₀ L h m) (N : News h₀ L h news) (st : h.StaysIn h') (fresh : h.get? D = none) (hg : h'.get? D = some o) :
    News h₀ L h' ((D, o) :: news) := by
  intro p hp
  rcases List.mem_cons.mp hp with rfl | hp
  · refine ⟨hg, ?_, ?_⟩
    · rintro rfl
      obtain ⟨oL, _, _, hL, _⟩ := F.ns
      rw [fresh] at hL; cases hL
    · show h₀.get? D = none
      cases q : h₀.get? D with
      | none => rfl
      | some o' => rw [F.keep _ _ q] at fresh; cases fresh
  · exact ⟨st _ _ (N p hp).1, (N p hp).2⟩
theorem news_ne {h₀ h : Heap} {L D : Addr} {news : List (Addr × Obj)} (N : News h₀ L h news) (fresh : h.get? D = none) : ∀ p ∈ news, p.1 ≠ D := fun p hp e => by
  have := (N p hp).1
  rw [e, fresh] at this
  cases this
end Mine
end

-- Fw5
set_option maxHeartbeats 1000000
section
open PySem.Calls PySem.Spec
namespace Mine
structure Halt : Prop
theorem cutL {M : Model} {A : Around} {α : Type} {t : Sem α} {Q E' : _} {s : Shared} (Mid : α → Shared → Prop) (h : wpAny M A t Mid E' s) (k : ∀ f s', Mid f s' → Q f s') : wpAny M A t Q E' s := wpAny_mono h k fun _ _ x => x
end Mine
end

-- Fw6
set_option maxHeartbeats 1000000
section
open PySem.Calls PySem.Spec
namespace Mine
open LCg LCt
section
variable {prog : Program} {w : World} {A : Around} {E : Value → Shared → Prop} {s : Shared} {h₀ : Heap} {L : Addr} {m : Str → Option Value} {env : Env}
/-- the source of a comprehension is a text -/
def SrcS (prog : Program) (w : World) (A : Around) (h₀ : Heap) (L : Addr) (m : Str → Option Value) (env : Env) (elt : Expr) (x : Str) (scope : Scope) (cl : List (Str × Addr)) (Fin : Shared → List Value → List (Addr × Obj) → Prop) (xv : Value) (s₁ : Shared) : Prop :=
  ∃ z t news, xv = .str z t ∧ A.handled = none ∧ Fr h₀ L s₁.heap m ∧ News h₀ L s₁.heap news ∧ z.cps.size ≤ sizeLine ∧
    ∀ s₂ : Shared, (∃ h, s₂ = { s₁ with heap := h }) → CompRest prog w A h₀ L m env elt x scope cl s₂ (fun _ => True) (SignAt z) (Fin s₂) z.cps.size 0 [] news
theorem signs_st {ty : String} {I : Addr} {z : Str} {t : Tok} : ∀ i (h h' : Heap) (o : Obj) (nw : List (Addr × Obj)), h.IsStrIter I ty z t i → h.get? I = some o → h'.get? I = some o → (∀ b o, h₀.get? b = some o → h'.get? b = some o) → News h₀ L h' nw → True → h'.IsStrIter I ty z t i :=
  fun i h h' o nw st e e' _ _ _ => by
    obtain ⟨o', q, r⟩ := st
    rw [e] at q; cases q
    exact ⟨o, e', r⟩
theorem compS {elt iter : Expr} {x : Str} {px : Pos} {scope : Scope} {cl : List (Str × Addr)} {pos : Pos} {Q : Value → Shared → Prop} (F₀ : Fr h₀ L s.heap m)
    (hclos : closureFor scope env = pure cl) (hcell : ∀ y ∈ scope.names, y.2 ≠ .cell) (hkind : scope.kind = .function)
    (hnames : ∀ y ∈ scope.names, y.2 = .local → scope.names.lookup y.1 = some .local) (hx : scope.names.lookup x = some .local)
    (h : wpAny (model prog w) A (eval iter env) (SrcS prog w A h₀ L m env elt x scope cl (fun s₂ => FinE h₀ L m s₂ Q)) E s)
    (hs : ∀ x, foldedSetIterable iter env x = pure x := by intro _; rfl) :
    wpAny (model prog w) A (eval (.ListComp elt [⟨.Name x px, iter, [], 0⟩] scope pos) env) Q E s := by
  rw [eval_ListComp]
  refine wpAny_comprehension_free (use := none) rfl hs hclos hkind hnames (wpAny_mono h (fun xv s₁ h₁ => ?_) fun _ _ e => e)
  obtain ⟨z, t, news, rfl, hh, F, N, hsz, R⟩ := h₁
  have fin : ∀ (D C : Addr) h tk m' ys news', Fr h₀ L h m → News h₀ L h ((D, lst ys) :: news') → Off1 D news' → h.Ns C m' → h₀.get? C = none → h₀.get? D = none → C ≠ L → D ≠ L → C ≠ D → (∀ p ∈ news', p.1 ≠ C) → ∀ s₂ : Shared, FinE h₀ L m s₂ Q ys news' →
      compPost (model prog w) A E none Q (.ref D) C (.ok .next) { s₂ with heap := h, toks := tk } := by
    intro D C h tk m' ys news' F' N' o1 hn hC₀ hD₀ hCL hDL hCD offC s₂ fin
    refine ⟨m', hn, fun h'' hs'' => fin D h'' tk (F'.change hs'' hCL hC₀) (fun p hp => ?_) o1⟩
    refine ⟨hs''.extBut _ _ ?_ (N' p hp).1, (N' p hp).2⟩
    rcases List.mem_cons.mp hp with rfl | hp
    · exact Ne.symm hCD
    · exact offC p hp
  have below : ∀ (o : Obj) (b : Addr), b ∈ [s₁.heap.objs.size] → b < (s₁.heap.push o).objs.size := fun o b hb => by
    rw [List.mem_singleton.mp hb, Heap.size_push]; exact Nat.lt_succ_self _
  cases ha : z.cps.all (· < 128)
  · refine wpAny_pyIter_wide ha ?_
    exact block_U (Walks.strWide hh _ z t) hsz (fun i h st => by obtain ⟨o, e, _⟩ := st; exact ⟨o, e⟩) signs_st hcell hkind hx ⟨_, Heap.get?_push_size _ rfl, rfl, rfl⟩ (below _)
      (F.keeps fun _ _ e => Heap.get?_push_of_some _ e) (N.grown fun _ _ e => Heap.get?_push_of_some _ e) (Nat.ne_of_lt F.ns.lt) (next_is_new F) (fun p hp => Nat.ne_of_lt (Heap.lt_size (N p hp).1)) trivial (R _ ⟨_, rfl⟩)
      (fun D C h tk m' ys news' F' N' o1 hn hC₀ hD₀ hCL hDL hCD offC q => fin D C h tk m' ys news' F' N' o1 hn hC₀ hD₀ hCL hDL hCD offC _ q)
  · refine wpAny_pyIter_ascii ha ?_
    exact block_U (Walks.strAscii hh _ z t) hsz (fun i h st => by obtain ⟨o, e, _⟩ := st; exact ⟨o, e⟩) signs_st hcell hkind hx ⟨_, Heap.get?_push_size _ rfl, rfl, rfl⟩ (below _)
      (F.keeps fun _ _ e => Heap.get?_push_of_some _ e) (N.grown fun _ _ e => Heap.get?_push_of_some _ e) (Nat.ne_of_lt F.ns.lt) (next_is_new F) (fun p hp => Nat.ne_of_lt (Heap.lt_size (N p hp).1)) trivial (R _ ⟨_, rfl⟩)
      (fun D C h tk m' ys news' F' N' o1 hn hC₀ hD₀ hCL hDL hCD offC q => fin D C h tk m' ys news' F' N' o1 hn hC₀ hD₀ hCL hDL hCD offC _ q)
end
end Mine
end

-- Eqs
set_option maxHeartbeats 1000000
section
open PySem.Calls PySem.Spec
namespace Mine
section
variable {prog : Program} {w : World} {A : Around} {E : Value → Shared → Prop} {s : Shared} {Q : Value → Shared → Prop}
theorem ne_pairs {a b a1 a2 b1 b2 : Addr} {k1 k2 : Nat} {x1 x2 y1 y2 : List Value} {n1 n2 m1 m2 : List Int} (ga : s.heap.get? a = some { cls := .type "tuple", data := .seq #[.ref a1, .ref a2] k1 }) (gb : s.heap.get? b = some { cls := .type "tuple", data := .seq #[.ref b1, .ref b2] k2 })
    (l1 : s.heap.IsList a1 x1.toArray) (l2 : s.heap.IsList a2 x2.toArray) (l3 : s.heap.IsList b1 y1.toArray) (l4 : s.heap.IsList b2 y2.toArray) (i1 : IntsAre x1 n1) (i2 : IntsAre x2 n2) (i3 : IntsAre y1 m1) (i4 : IntsAre y2 m2)
    (hu : A.units + 64 < cLine) (h : Q (.bool (!(decide (n1 = m1) && decide (n2 = m2)))) s) : wpAny (model prog w) A (compareOp .NotEq (.ref a) (.ref b)) Q E s := by
  refine ne_dataH (reads_tuple_at ga rfl rfl (.cons (reads_newData l1 (ke_carried i1)) (.cons (reads_newData l2 (ke_carried i2)) .nil)))
    (reads_tuple_at gb rfl rfl (.cons (reads_newData l3 (ke_carried i3)) (.cons (reads_newData l4 (ke_carried i4)) .nil))) ?_ ?_ hu ?_
  · simp [SeqAt.shaped, PyData.canLay0, PyData.canLayAll0, PyData.depth, PyData.depthAll, ke_canLayAll0, ke_depthAll]
  · simp [SeqAt.shaped, PyData.canLay0, PyData.canLayAll0, PyData.depth, PyData.depthAll, ke_canLayAll0, ke_depthAll]
  · simpa only [PyData.eqv, PyData.eqvAll, ked_eqvAll, Bool.and_true] using h
end
end Mine
end

-- PL1
set_option maxHeartbeats 1000000
section
open PySem.Calls PySem.Spec
namespace Mine
/-- a text's signs -/
abbrev sg (x : Str) : List Nat := x.cps.toList
theorem sg_len (x : Str) : (sg x).length = x.length := by simp [sg, Str.length]
theorem sg_ext {x y : Str} (h : sg x = sg y) : x = y := Str.ext' (Array.toList_inj.mp h)
open PySem.Builtin PySem.Builtin.Str in
theorem slice_hi (x : Str) (l : Option Int) (b : Nat) (hb : x.length ≤ b) : Txt.slice x l (some (b : Int)) = Txt.slice x l (some (x.length : Int)) := by
  have e : strSliceIndices l (some (b : Int)) 1 x.length = strSliceIndices l (some (x.length : Int)) 1 x.length := by
    have h1 : ¬ ((b : Int) < 0) := by omega
    have h2 : ¬ ((x.length : Int) < 0) := by omega
    have h3 : max (0 : Int) (min (b : Int) (x.length : Int)) = max 0 (min (x.length : Int) (x.length : Int)) := by omega
    simp only [strSliceIndices, h1, h2, if_false, show (1 : Int) > 0 by decide, if_true, h3]
  unfold Txt.slice
  rw [e]
theorem slice_sg (x : Str) {a b : Nat} (hab : a ≤ b) (ha : a ≤ x.length) : sg (Txt.slice x (some (a : Int)) (some (b : Int))) = ((sg x).drop a).take (b - a) := by
  by_cases hb : b ≤ x.length
  · have := StrLaws.sliceText_nat x hab hb
    show sg (StrLaws.sliceText x (some (a : Int)) (some (b : Int))) = _
    rw [this]
  · rw [slice_hi x _ b (by omega)]
    have := StrLaws.sliceText_nat x ha (Nat.le_refl x.length)
    show sg (StrLaws.sliceText x (some (a : Int)) (some (x.length : Int))) = _
    rw [this]
    show ((sg x).drop a).take _ = _
    rw [List.take_of_length_le (by rw [List.length_drop, sg_len]; omega), List.take_of_length_le (by rw [List.length_drop, sg_len]; omega)]
theorem slice_to_sg (x : Str) (b : Nat) : sg (Txt.slice x none (some (b : Int))) = (sg x).take b := by
  have e : Txt.slice x none (some (b : Int)) = Txt.slice x (some ((0 : Nat) : Int)) (some (b : Int)) := by unfold Txt.slice; rw [StrLaws.sliceIdx_none_lo]; rfl
  rw [e, slice_sg x (Nat.zero_le _) (Nat.zero_le _), List.drop_zero, Nat.sub_zero]
theorem slice_from_sg (x : Str) {a : Nat} (ha : a ≤ x.length) : sg (Txt.slice x (some (a : Int)) none) = (sg x).drop a := by
  have e : Txt.slice x (some (a : Int)) none = Txt.slice x (some (a : Int)) (some (x.length : Int)) := by unfold Txt.slice; rw [StrLaws.sliceIdx_none_hi]
  rw [e, slice_sg x ha ha, List.take_of_length_le (by rw [List.length_drop, sg_len]; omega)]
/-- piece p stands at place k of T -/
def occB (T p : List Nat) (k : Nat) : Bool := (T.drop k).take p.length == p
def places (T p : List Nat) : List Nat := (List.range T.length).filter (occB T p)
theorem foldl_places (text piece : Str) : ∀ (ks : List Nat) (acc : List Int), (∀ k ∈ ks, k ≤ text.length) →
    List.foldl (fun (l' : List Int) (k' : Int) => if (Txt.slice text (some k') (some (k' + (piece.length : Nat)))).length ≤ text.length ∧ Txt.slice text (some k') (some (k' + (piece.length : Nat))) = piece then l' ++ [k']
      else if (Txt.slice text (some k') (some (k' + (piece.length : Nat)))).length ≤ text.length ∧ ¬ Txt.slice text (some k') (some (k' + (piece.length : Nat))) = piece then l' else l') acc (ks.map fun (k : Nat) => (k : Int))
      = acc ++ (ks.filter (occB (sg text) (sg piece))).map fun (k : Nat) => (k : Int)
  | [], acc, _ => by simp
  | k :: ks, acc, h => by
    have hk := h k (.head _)
    have ih := fun acc => foldl_places text piece ks acc fun k hk => h k (.tail _ hk)
    rw [List.map_cons, List.foldl_cons, List.filter_cons]
    have hs : sg (Txt.slice text (some (k : Int)) (some ((k : Int) + (piece.length : Nat)))) = ((sg text).drop k).take (sg piece).length := by
      have := slice_sg text (show k ≤ k + piece.length by omega) hk
      rw [Nat.add_sub_cancel_left] at this
      rw [sg_len]
      exact this
    by_cases e : Txt.slice text (some (k : Int)) (some ((k : Int) + (piece.length : Nat))) = piece
    · have ho : occB (sg text) (sg piece) k = true := by unfold occB; rw [← hs, e]; exact beq_self_eq_true _
      rw [if_pos ⟨Txt.slice_le _ _ _, e⟩, ho, ih]
      simp
    · have ho : occB (sg text) (sg piece) k = false := by
        unfold occB
        rw [← hs]
        exact beq_eq_false_iff_ne.mpr fun q => e (sg_ext q)
      rw [if_neg (fun q => e q.2), if_pos ⟨Txt.slice_le _ _ _, e⟩, ho, ih]
      rfl
end Mine
namespace Mine
def asInts (l : List Nat) : List Int := l.map fun (k : Nat) => (k : Int)
theorem asInts_length (l : List Nat) : (asInts l).length = l.length := by simp [asInts]
theorem rangeKs_zero (n : Nat) : rangeKs 0 n = asInts (List.range n) := by
  unfold rangeKs asInts
  exact List.map_congr_left fun k _ => Int.zero_add _
end Mine
end

-- LeastD
set_option maxHeartbeats 1000000
section
open PySem.Calls PySem.Spec
namespace Mine
def here (T p : List Nat) (row : Nat → Bool) (n : Nat) : Bool := decide (p.length ≤ n) && (occB T p (n - p.length) && row (n - p.length))
def newRow (T p : List Nat) (row : Nat → Bool) : Nat → Bool
  | 0 => here T p row 0
  | n + 1 => here T p row (n + 1) || newRow T p row n
def rowAfter (T : List Nat) (ps : List (List Nat)) (i : Nat) : Nat → Bool := (ps.take i).foldl (fun row p => newRow T p row) (fun _ => true)
theorem rowAfter_succ (T : List Nat) (ps : List (List Nat)) {n : Nat} (h : n < ps.length) : rowAfter T ps (n + 1) = newRow T ps[n] (rowAfter T ps n) := by
  unfold rowAfter
  rw [List.take_succ_eq_append_getElem h, List.foldl_append]
  rfl
def leastOf (N : Nat) (row : Nat → Bool) : Nat := ((List.range N).find? row).getD N
def toldLeast (T : List Nat) (ps : List (List Nat)) (n : Nat) : List Nat := (List.range (n + 1)).map fun i => leastOf (T.length + 1) (rowAfter T ps i)
theorem leastOf_true (N : Nat) : leastOf (N + 1) (fun _ => true) = 0 := by
  unfold leastOf; rw [List.range_succ_eq_map]; rfl
theorem toldLeast_succ (T : List Nat) (ps : List (List Nat)) (n : Nat) : asInts (toldLeast T ps (n + 1)) = asInts (toldLeast T ps n) ++ [(leastOf (T.length + 1) (rowAfter T ps (n + 1)) : Int)] := by
  simp [asInts, toldLeast, List.range_succ]
def bvals (f : Nat → Bool) (N : Nat) : List Value := (List.range N).map fun n => .bool (f n)
theorem bvals_len (f : Nat → Bool) (N : Nat) : (bvals f N).length = N := by simp [bvals]
theorem bvals_succ (f : Nat → Bool) (N : Nat) : bvals f (N + 1) = bvals f N ++ [.bool (f N)] := by simp [bvals, List.range_succ]
theorem bvals_at {f : Nat → Bool} {N i : Nat} (h : i < N) : (bvals f N).toArray[i]? = some (.bool (f i)) := by simp [bvals, h]
theorem occ_slice {text piece : Str} {k : Nat} (h : piece.length ≤ k) (hk : k ≤ text.length) : occB (sg text) (sg piece) (k - piece.length) = (Txt.slice text (some ((k : Int) - (piece.length : Nat))) (some (k : Int)) == piece) := by
  have e : ((k : Int) - (piece.length : Nat)) = ((k - piece.length : Nat) : Int) := by omega
  have hs := slice_sg text (show k - piece.length ≤ k by omega) (by omega)
  rw [show k - (k - piece.length) = (sg piece).length by rw [sg_len]; omega, ← e] at hs
  unfold occB
  rw [← hs]
  by_cases q : Txt.slice text (some ((k : Int) - (piece.length : Nat))) (some (k : Int)) = piece
  · rw [q, beq_self_eq_true, beq_self_eq_true]
  · rw [beq_eq_false_iff_ne.mpr q, beq_eq_false_iff_ne.mpr fun e => q (sg_ext e)]
end Mine
end

-- T_em
set_option maxHeartbeats 8000000
section
open PySem.Calls PySem.Spec
namespace Mine
open PySem.Builtin PySem.Builtin.Str in
theorem gives_find4 (x y : Str) (i j : Int) (t u v r : Tok) : Gives («str.find» ⟨[.str x t, .str y u, .int i v, .int j r], []⟩) (.int (match occurrences x y (fromIndex x.length i) (min (fromIndex x.length j) x.length) 1 with | k :: _ => (k : Int) | [] => -1)) := by
  show Gives (match occurrences x y (fromIndex x.length i) (min (fromIndex x.length j) x.length) 1 with | k :: _ => retInt k | [] => (do rule "str.find.not-found"; retInt (-1))) _
  cases occurrences x y (fromIndex x.length i) (min (fromIndex x.length j) x.length) 1 with
  | nil => exact .rule (.of_eq rfl)
  | cons k _ => exact .of_eq rfl
theorem fromIndex_nat (n k : Nat) : fromIndex n (k : Int) = k := by unfold fromIndex; omega
section
variable {prog : Program} {w : World} {A : Around} {E : Value → Shared → Prop} {s : Shared}
theorem find4 {x y : Str} {t u v r : Tok} {i j : Nat} {Q : Value → Shared → Prop} (hj : j ≤ x.length)
    (hq : Q (.int (match Builtin.Str.occurrences x y i j 1 with | k :: _ => (k : Int) | [] => -1) s.toks) { s with toks := s.toks + 1 }) :
    wpAny (model prog w) A (call (.builtin "str.find") [.str x t, .str y u, .int (i : Int) v, .int (j : Int) r]) Q E s := by
  have g := gives_find4 x y i j t u v r
  rw [fromIndex_nat, fromIndex_nat, Nat.min_eq_left hj] at g
  exact call_gives F.slot_str_find (typeIs_str _ _ _) F.entry_str_find (F.args_str_find_4 _ _ _ _) g hq
end
/-- the loop of _ellipsis_match: each piece to its first place from sp on that ends no farther than ep -/
def emLoop (got : Str) (ep : Nat) : List Str → Nat → Bool
  | [], _ => true
  | w :: r, sp => match Builtin.Str.occurrences got w sp ep 1 with
    | k :: _ => emLoop got ep r (k + w.length)
    | [] => false
def emAll (w0 : Str) (mid : List Str) (wl got : Str) : Bool :=
  (w0.length == 0 || Txt.startswith got w0) && ((wl.length == 0 || Txt.endswith got wl) && (decide (w0.length ≤ got.length - wl.length) &&
    emLoop got (got.length - wl.length) ((if w0.length = 0 then [w0] else []) ++ (mid ++ if wl.length = 0 then [wl] else [])) w0.length))
end Mine
end

-- T_em3
theorem Mine.calm1 : True := by first | walk1 | exact trivial
set_option maxHeartbeats 8000000
section
open PySem.Calls PySem.Spec
namespace Mine
local macro_rules | `(tactic| walk_at "exec For Name Name cons nil") => `(tactic| refine Stop.to ?_)
local macro_rules | `(tactic| walk_at "exec If Name cons nil") => `(tactic| refine Stop.to ?_)
local macro_rules | `(tactic| walk_at "eval Name") => `(tactic| (k_here; k_dflt (refine' ld ?k1 ?k2 ?_; (case k1 => k_asm); (case k2 => assumption); k_whole)))
local macro_rules | `(tactic| walk_at "loadName") => `(tactic| (k_here; k_dflt (refine' ldn ?k1 ?k2 ?_; (case k1 => k_asm); (case k2 => assumption); k_whole)))
variable {w : World} {A : Around} {s : Shared} {loose : List Str} {mean : ExcName → Option Value} {mg mb : Str → Option Value} {Q : Value → Shared → Prop} {E : Value → Shared → Prop}
theorem cut {M : Model} {α : Type} {t : Sem α} {Q E' : _} {s : Shared} (Mid : α → Shared → Prop) (h : wpAny M A t Mid E' s) (k : ∀ f s', Mid f s' → Q f s') : wpAny M A t Q E' s := wpAny_mono h k fun _ _ x => x
theorem StrsAre.erase : ∀ {vs : List Value} {ys : List Str} (k : Nat), StrsAre vs ys → StrsAre (vs.eraseIdx k) (ys.eraseIdx k)
  | _, _, _, .nil => .nil
  | _, _, 0, .cons _ _ h => h
  | _, _, k + 1, .cons y t h => .cons y t (StrsAre.erase k h)
theorem getD_last (ys : List Str) (y : Str) : (ys ++ [y]).getD ((-1 : Int) + ((ys ++ [y]).length : Nat)).toNat Str.empty = y := by
  have h : ((-1 : Int) + ((ys ++ [y]).length : Nat)).toNat = ys.length := by simp only [List.length_append, List.length_cons, List.length_nil]; omega
  rw [h]; simp [List.getD]
theorem erase_last (ys : List Str) (y : Str) : (ys ++ [y]).eraseIdx ys.length = ys := by
  rw [List.eraseIdx_append_of_length_le (Nat.le_refl _)]; simp
theorem em_ctr (want got : Str) (t1 t2 : Tok) (X : (hd.heap_39 w.params).In s.heap) (T : Top topProg loose mean mg mb s.heap)
   (hh : A.handled = none) (hroom : A.depth < 900) (h1 : want.length ≤ 1000) (h2 : got.length ≤ 1000)
   (w0 wl : Str) (mid : List Str) (hmid : mid.length ≤ 1000)
   (hin : (Builtin.Str.occurrences want (Str.ofString "...") 0 want.length 1).isEmpty = false)  (hws : Txt.split want (Str.ofString "...") = w0 :: (mid ++ [wl]))
   (ret : ∀ h' tk', s.heap.StaysIn h' → Q (.bool (emAll w0 mid wl got)) { s with heap := h', toks := tk' }) :
   wpAny (model Challenge.rw_pe0135_01.row.prog w) A (call (.ref 21) [.str want t1, .str got t2]) Q E s := by
  obtain ⟨hand, dp, frs, gds, un⟩ := A
  obtain rfl : hand = none := hh
  w_top off
  revert X; k_fill; intro X
  have TR := topRead_of T
  refine enterP (binds := [("want", .str want t1), ("got", .str got t2)]) X T rfl (by rfl) (Nat.lt_of_lt_of_le hroom (by decide)) (BindsTo.of_eq rfl) (locs rfl) ?_
  intro L' h₁ F N
  k_steps
  rotate_left
  · exfalso
    rename (¬ (2 : Int) ≤ _) => q
    rename (List.map _ _ = Txt.split _ _) => ql
    rw [hws] at ql
    have := congrArg List.length ql
    simp at this
    omega
  rename (List.map _ _ = Txt.split _ _) => ql
  rename ((List.map _ _)[_]? = _) => q0
  rename (∀ a, a ∈ List.map _ _ → _) => qb
  rename (StrsAre _ _) => qS
  rename List (Str × Tok) => l
  rw [hws] at ql
  rw [ql] at q0 qb qS
  obtain rfl := Option.some.inj q0
  clear q0
  have hb0 := qb w0 (.head _)
  have hbl := qb wl (by simp)
  rename Fr _ _ _ _ => F2
  rename News _ _ _ _ => N2
  have hlen : (strValues l).length = mid.length + 2 := by rw [qS.length]; simp
  refine Stop.mk ?_
  refine cut (fun f s' => (f = .next ∧ ∃ h tk m vs n, s' = { s with heap := h, toks := tk } ∧ Fr s.heap L' h m ∧ News s.heap L' h [(h₁.objs.size, listOf vs.toArray n)] ∧
      m "got" = some (.str got t2) ∧ m "ws" = some (.ref h₁.objs.size) ∧ (∃ sp, m "startpos" = some (.int (w0.length : Nat) sp)) ∧ (∃ te, m "endpos" = some (.int (got.length : Nat) te)) ∧
      StrsAre vs ((if w0.length = 0 then [w0] else []) ++ mid ++ [wl]) ∧ (w0.length == 0 || Txt.startswith got w0) = true)
    ∨ (f = .ret (.bool false) ∧ (∃ h tk, s' = { s with heap := h, toks := tk } ∧ s.heap.StaysIn h) ∧ (w0.length == 0 || Txt.startswith got w0) = false)) ?_ ?_
  · refine wpAny_If ?_
    k_steps
    · rename Fr _ _ _ _ => F3
      rename News _ _ _ _ => N3
      rename (Txt.startswith got w0 = true) => hs
      rename (¬ (w0.length : Int) = 0) => hw
      refine delItem_second F3 N3 (k := 0) (by k_ne) (fun _ h => nomatch h) (by decide) ?_ ?_ ?_
      · rw [List.size_toArray, hlen]
        unfold seqIndex?
        simp
        omega
      · intro h' F4 N4
        k_steps
        refine .inl ⟨rfl, _, _, _, _, _, rfl, F4, (fun p hp => N4 p (.tail _ hp)), rfl, rfl, ⟨_, rfl⟩, ⟨_, rfl⟩, ?_, ?_⟩
        · have := StrsAre.erase 0 qS
          rw [if_neg (by omega)]
          simpa using this
        · rw [hs]; simp
      · rw [List.size_toArray, hlen, sizeLine_eq]
        omega
    · rename Fr _ _ _ _ => F3
      rename (Txt.startswith got w0 = false) => hs
      rename (¬ (w0.length : Int) = 0) => hw
      refine .inr ⟨rfl, ⟨_, _, rfl, F3.keep⟩, ?_⟩
      rw [hs, Bool.or_false]
      exact beq_eq_false_iff_ne.mpr (by omega)
    · rename Fr _ _ _ _ => F3
      rename News _ _ _ _ => N3
      rename ((w0.length : Int) = 0) => hw
      refine .inl ⟨rfl, _, _, _, _, _, rfl, F3, (fun p hp => N3 p (.tail _ hp)), rfl, rfl, ⟨_, congrArg (fun z : Int => some (Value.int z _)) hw.symm⟩, ⟨_, rfl⟩, ?_, ?_⟩
      · rw [if_pos (by omega)]; exact qS
      · rw [show w0.length = 0 by omega]; rfl
  · rintro f s' (⟨rfl, h, tk, m, vs, n, rfl, F3, N3, m1, m2, ⟨sp, m3⟩, ⟨te, m4⟩, e1, e2⟩ | ⟨rfl, ⟨h, tk, rfl, st⟩, e⟩)
    · clear F2 N2
      k_steps
      rename Fr _ _ _ _ => F2
      rename News _ _ _ _ => N2
      rw [getD_last] at F2
      have hlv : vs.length = ((if w0.length = 0 then [w0] else []) ++ mid).length + 1 := by rw [e1.length, List.length_append]; rfl
      have hlv2 : ((if w0.length = 0 then [w0] else []) ++ mid).length ≤ 1001 := by split <;> simp only [List.length_append, List.length_cons, List.length_nil] <;> omega
      refine Stop.mk ?_
      refine cut (fun f s' => (f = .next ∧ ∃ h tk m vs n, s' = { s with heap := h, toks := tk } ∧ Fr s.heap L' h m ∧ News s.heap L' h [(h₁.objs.size, listOf vs.toArray n)] ∧
          m "got" = some (.str got t2) ∧ m "ws" = some (.ref h₁.objs.size) ∧ (∃ sp, m "startpos" = some (.int (w0.length : Nat) sp)) ∧ (∃ te, m "endpos" = some (.int ((got.length - wl.length : Nat) : Int) te)) ∧
          StrsAre vs ((if w0.length = 0 then [w0] else []) ++ (mid ++ if wl.length = 0 then [wl] else [])) ∧ (wl.length == 0 || Txt.endswith got wl) = true)
        ∨ (f = .ret (.bool false) ∧ (∃ h tk, s' = { s with heap := h, toks := tk } ∧ s.heap.StaysIn h) ∧ (wl.length == 0 || Txt.endswith got wl) = false)) ?_ ?_
      · refine wpAny_If ?_
        k_steps
        · rename Fr _ _ _ _ => F4
          rename News _ _ _ _ => N4
          rename (Txt.endswith got wl = true) => hs
          rename (¬ (wl.length : Int) = 0) => hw
          have hle : wl.length ≤ got.length := by
            unfold Txt.endswith at hs
            simp only [Bool.and_eq_true, decide_eq_true_eq] at hs
            omega
          refine delItem_head F4 N4 (k := ((if w0.length = 0 then [w0] else []) ++ mid).length) (fun _ h => nomatch h) (by decide) ?_ ?_ ?_
          · rw [List.size_toArray, hlv]
            unfold seqIndex?
            simp
            omega
          · intro h' F5 N5
            k_steps
            refine .inl ⟨rfl, _, _, _, _, _, rfl, F5, N5, m1, m2, ⟨_, m3⟩, ⟨_, congrArg (fun z : Int => some (Value.int z _)) (Int.ofNat_sub hle).symm⟩, ?_, ?_⟩
            · have := StrsAre.erase ((if w0.length = 0 then [w0] else []) ++ mid).length e1
              rw [erase_last] at this
              rw [if_neg (show ¬ wl.length = 0 by omega), List.append_nil]
              simpa using this
            · rw [hs]; simp
          · rw [List.size_toArray, hlv, sizeLine_eq]
            omega
        · rename Fr _ _ _ _ => F4
          rename (Txt.endswith got wl = false) => hs
          rename (¬ (wl.length : Int) = 0) => hw
          refine .inr ⟨rfl, ⟨_, _, rfl, F4.keep⟩, ?_⟩
          rw [hs, Bool.or_false]
          exact beq_eq_false_iff_ne.mpr (by omega)
        · rename Fr _ _ _ _ => F4
          rename News _ _ _ _ => N4
          rename ((wl.length : Int) = 0) => hw
          refine .inl ⟨rfl, _, _, _, _, _, rfl, F4, N4, m1, m2, ⟨_, m3⟩, ⟨te, ?_⟩, ?_, ?_⟩
          · rw [show got.length - wl.length = got.length by omega]; exact m4
          · rw [if_pos (show wl.length = 0 by omega), ← List.append_assoc]; exact e1
          · rw [show wl.length = 0 by omega]; rfl
      · rintro f s' (⟨rfl, h, tk, m, vs, n, rfl, F3, N3, m1, m2, ⟨sp, m3⟩, ⟨te, m4⟩, e3, e4⟩ | ⟨rfl, ⟨h, tk, rfl, st⟩, e⟩)
        · clear F2 N2
          k_steps
          · rename Fr _ _ _ _ => F4
            rename (((got.length - wl.length : Nat) : Int) < _) => hlt
            refine (show emAll w0 mid wl got = false by unfold emAll; rw [decide_eq_false (by omega), Bool.false_and, Bool.and_false, Bool.and_false]) ▸ ret _ _ F4.keep
          · rename Fr _ _ _ _ => F4
            rename News _ _ _ _ => N4
            rename (¬ ((got.length - wl.length : Nat) : Int) < _) => hlt
            refine Stop.mk ?_
            refine For_invV s.heap rfl rfl ?_
            k_steps
            rename Fr _ _ _ _ => F5
            rename News _ _ _ _ => N5
            generalize hys : ((if w0.length = 0 then [w0] else []) ++ (mid ++ if wl.length = 0 then [wl] else [])) = ys at e3
            refine kdl_iter (h₀ := s.heap) (fun i m nx => nx = [(h₁.objs.size, listOf vs.toArray n)] ∧ m "got" = some (.str got t2) ∧ (∃ te, m "endpos" = some (.int ((got.length - wl.length : Nat) : Int) te)) ∧
              ∃ sp t, m "startpos" = some (.int (sp : Nat) t) ∧ emLoop got (got.length - wl.length) (ys.drop i) sp = emLoop got (got.length - wl.length) ys w0.length) rfl (.head _) F5 N5 ⟨rfl, m1, ⟨te, m4⟩, w0.length, sp, m3, rfl⟩ ?_ ?_
            · rintro i v m₁ news₁ h tk own hv hoff _ ⟨rfl, j1, ⟨te', j2⟩, sp', t', j3, j4⟩ F6 N6
              clear F5 N5
              have hiv : i < vs.length := (List.getElem?_eq_some_iff.mp hv).1
              have hi : i < ys.length := by rw [← e3.length]; exact hiv
              obtain ⟨ty, hy⟩ := e3.at (List.getElem?_eq_getElem hi)
              rw [hv] at hy
              obtain rfl := Option.some.inj hy
              have hdrop : ys.drop i = ys[i] :: ys.drop (i + 1) := List.drop_eq_getElem_cons hi
              rw [hdrop] at j4
              change Fr s.heap L' h _ at F6
              change News s.heap L' h _ at N6
              have htot : emAll w0 mid wl got = emLoop got (got.length - wl.length) (ys[i] :: ys.drop (i + 1)) sp' := by
                rw [j4]; unfold emAll; rw [e2, e4, decide_eq_true (by omega), hys]; rfl
              k_steps
              refine find4 (by omega) ?_
              have hbi : ys[i].length ≤ 1000 := by
                have hm : ys[i] ∈ ys := List.getElem_mem hi
                generalize ys[i] = a at hm
                rw [← hys] at hm
                refine Nat.le_trans (qb a ?_) h1
                rw [List.mem_append, List.mem_append] at hm
                rcases hm with hm | hm | hm
                · split at hm
                  · rw [List.mem_singleton.mp hm]; exact .head _
                  · cases hm
                · exact .tail _ (List.mem_append_left _ hm)
                · split at hm
                  · rw [List.mem_singleton.mp hm]; exact .tail _ (List.mem_append_right _ (.head _))
                  · cases hm
              cases ho : Builtin.Str.occurrences got ys[i] sp' (got.length - wl.length) 1 with
              | nil =>
                rw [show emLoop got (got.length - wl.length) (ys[i] :: ys.drop (i + 1)) sp' = false by unfold emLoop; rw [ho]] at htot
                dsimp only
                k_steps
                rename Fr _ _ _ _ => F7
                exact htot ▸ ret _ _ F7.keep
              | cons k r =>
                rw [show emLoop got (got.length - wl.length) (ys[i] :: ys.drop (i + 1)) sp' = emLoop got (got.length - wl.length) (ys.drop (i + 1)) (k + ys[i].length) by
                  rw [emLoop, ho]] at j4
                dsimp only
                k_steps
                rename Fr _ _ _ _ => F7
                rename News _ _ _ _ => N7
                refine InvEndG.intro F7 N7 ⟨.head _, rfl, j1, ⟨te', j2⟩, k + ys[i].length, _, rfl, j4⟩ hoff (fun p hp => List.mem_append_left _ hp) (fun p hp => List.mem_append_right _ hp)
            · rintro m₁ news₁ h tk ⟨rfl, j1, _, sp', t', j3, j4⟩ F6 N6
              clear F5 N5
              rw [e3.length, List.drop_length] at j4
              have htot : emAll w0 mid wl got = true := by
                unfold emAll; rw [e2, e4, decide_eq_true (by omega), hys, ← j4]; rfl
              k_steps
              exact htot ▸ ret _ _ F6.keep
        · exact (show emAll w0 mid wl got = false by unfold emAll; rw [e, Bool.false_and, Bool.and_false]) ▸ ret h tk st
    · exact (show emAll w0 mid wl got = false by unfold emAll; rw [e]; rfl) ▸ ret h tk st
end Mine
end

-- T_bl
theorem Mine.calm2 : True := by first | walk1 | exact trivial
set_option maxHeartbeats 8000000
section
open PySem.Calls PySem.Spec
namespace Mine
local macro_rules | `(tactic| walk_at "exec While Compare cons nil") => `(tactic| refine Stop.to ?_)
local macro_rules | `(tactic| walk_at "eval Name") => `(tactic| (k_here; k_dflt (refine' ld ?k1 ?k2 ?_; (case k1 => k_asm); (case k2 => assumption); k_whole)))
variable {w : World} {A : Around} {s : Shared} {loose : List Str} {mean : ExcName → Option Value} {mg mb : Str → Option Value} {Q : Value → Shared → Prop} {E : Value → Shared → Prop}
theorem mid_nat (a b : Nat) : ((a : Int) + (b : Int)).fdiv 2 = (((a + b) / 2 : Nat) : Int) := by
  rw [Int.fdiv_eq_ediv_of_nonneg _ (by omega)]; omega
/-- where bisect_left comes to -/
def LeftAt (ns : List Int) (x : Int) (k : Nat) : Prop := k ≤ ns.length ∧ (∀ i, i < k → ns.getD i 0 < x) ∧ ∀ i, k ≤ i → i < ns.length → x ≤ ns.getD i 0
def Rises (ns : List Int) : Prop := ∀ i j, i ≤ j → j < ns.length → ns.getD i 0 ≤ ns.getD j 0
theorem bl_ctr {l : Addr} {vs : List Value} {ns : List Int} (hl : s.heap.IsList l vs.toArray) (hi : IntsAre vs ns) (hn : ns.length ≤ 1000) (hr : Rises ns) (x : Int) (t : Tok)
   (X : (hd.heap_39 w.params).In s.heap) (T : Top topProg loose mean mg mb s.heap)
   (hroom : A.depth < 500)
   (ret : ∀ k tv h' tk', LeftAt ns x k → s.heap.StaysIn h' → Q (.int k tv) { s with heap := h', toks := tk' }) :
   wpAny (model Challenge.rw_pe0135_01.row.prog w) A (call (.ref 39) [.ref l, .int x t]) Q E s := by
  w_top off
  revert X; k_fill; intro X
  have TR := topRead_of T
  refine enterP (binds := [("a", .ref l), ("x", .int x t), ("lo", .int 0 219), ("hi", .none), ("key", .none)]) X T rfl (by rfl) (Nat.lt_of_lt_of_le hroom (by decide)) (kp_binds X fun _ => rfl) (locs rfl) ?_
  intro L' h₁ F N
  k_steps
  refine Stop.mk ?_
  rename Fr _ _ _ _ => F2
  rename News _ _ _ _ => N2
  refine While_inv (h₀ := s.heap) (L := L') (fun n m news => ∃ lo hi : Nat, ∃ t1 t2, n = hi - lo ∧ lo ≤ hi ∧ hi ≤ ns.length ∧ m "a" = some (.ref l) ∧ m "x" = some (.int x t) ∧ m "lo" = some (.int lo t1) ∧ m "hi" = some (.int hi t2) ∧ news = [] ∧ (∀ i, i < lo → ns.getD i 0 < x) ∧ ∀ i, hi ≤ i → i < ns.length → x ≤ ns.getD i 0) (n₀ := ns.length) F2 N2
    ⟨0, ns.length, _, _, rfl, Nat.zero_le _, Nat.le_refl _, rfl, rfl, rfl, rfl, rfl, fun i h => absurd h (Nat.not_lt_zero _), fun i h1 h2 => absurd h2 (Nat.not_lt.mpr h1)⟩ ?_
  rintro n m₁ news₁ h₁ tk₁ F3 N3 ⟨lo, hi', t1, t2, e1, e2, e3, e4, e5, e6, e7, rfl, e8, e9⟩
  clear F2 N2
  k_steps
  · rename Fr _ _ _ _ => F5
    rename News _ _ _ _ => N5
    rename (List.getD ns _ _ < x) => hc
    rename ((lo : Int) < _) => hlt
    rw [mid_nat, Int.toNat_natCast] at hc
    refine WhileStep.intro F5 N5 (n' := hi' - ((lo + hi') / 2 + 1)) (by omega) ⟨(lo + hi') / 2 + 1, hi', _, _, rfl, by omega, e3, e4, e5, by show some (Value.int _ _) = _; rw [mid_nat]; rfl, e7, rfl, ?_, e9⟩
    intro i hi2
    exact Int.lt_of_le_of_lt (hr i ((lo + hi') / 2) (by omega) (by omega)) hc
  · rename Fr _ _ _ _ => F5
    rename News _ _ _ _ => N5
    rename (¬ List.getD ns _ _ < x) => hc
    rename ((lo : Int) < _) => hlt
    rw [mid_nat, Int.toNat_natCast] at hc
    refine WhileStep.intro F5 N5 (n' := (lo + hi') / 2 - lo) (by omega) ⟨lo, (lo + hi') / 2, _, _, rfl, by omega, by omega, e4, e5, e6, by show some (Value.int _ _) = _; rw [mid_nat], rfl, e8, ?_⟩
    intro i h1 h2
    exact Int.le_trans (Int.not_lt.mp hc) (hr _ i h1 h2)
  · rename Fr _ _ _ _ => F5
    rename (¬ (lo : Int) < _) => hlt
    have e : lo = hi' := by omega
    subst e
    exact ret lo t1 _ _ ⟨e3, e8, e9⟩ F5.keep
end Mine
end

-- T_br
theorem Mine.calm3 : True := by first | walk1 | exact trivial
set_option maxHeartbeats 8000000
section
open PySem.Calls PySem.Spec
namespace Mine
local macro_rules | `(tactic| walk_at "exec While Compare cons nil") => `(tactic| refine Stop.to ?_)
local macro_rules | `(tactic| walk_at "eval Name") => `(tactic| (k_here; k_dflt (refine' ld ?k1 ?k2 ?_; (case k1 => k_asm); (case k2 => assumption); k_whole)))
variable {w : World} {A : Around} {s : Shared} {loose : List Str} {mean : ExcName → Option Value} {mg mb : Str → Option Value} {Q : Value → Shared → Prop} {E : Value → Shared → Prop}
/-- where bisect_right comes to -/
def RightAt (ns : List Int) (x : Int) (k : Nat) : Prop := k ≤ ns.length ∧ (∀ i, i < k → ns.getD i 0 ≤ x) ∧ ∀ i, k ≤ i → i < ns.length → x < ns.getD i 0
theorem br_ctr {l : Addr} {vs : List Value} {ns : List Int} (hl : s.heap.IsList l vs.toArray) (hi : IntsAre vs ns) (hn : ns.length ≤ 1000) (hr : Rises ns) (x : Int) (t : Tok)
   (X : (hd.heap_39 w.params).In s.heap) (T : Top topProg loose mean mg mb s.heap)
   (hroom : A.depth < 500)
   (ret : ∀ k tv h' tk', RightAt ns x k → s.heap.StaysIn h' → Q (.int k tv) { s with heap := h', toks := tk' }) :
   wpAny (model Challenge.rw_pe0135_01.row.prog w) A (call (.ref 30) [.ref l, .int x t]) Q E s := by
  w_top off
  revert X; k_fill; intro X
  have TR := topRead_of T
  refine enterP (binds := [("a", .ref l), ("x", .int x t), ("lo", .int 0 205), ("hi", .none), ("key", .none)]) X T rfl (by rfl) (Nat.lt_of_lt_of_le hroom (by decide)) (kp_binds X fun _ => rfl) (locs rfl) ?_
  intro L' h₁ F N
  k_steps
  refine Stop.mk ?_
  rename Fr _ _ _ _ => F2
  rename News _ _ _ _ => N2
  refine While_inv (h₀ := s.heap) (L := L') (fun n m news => ∃ lo hi : Nat, ∃ t1 t2, n = hi - lo ∧ lo ≤ hi ∧ hi ≤ ns.length ∧ m "a" = some (.ref l) ∧ m "x" = some (.int x t) ∧ m "lo" = some (.int lo t1) ∧ m "hi" = some (.int hi t2) ∧ news = [] ∧ (∀ i, i < lo → ns.getD i 0 ≤ x) ∧ ∀ i, hi ≤ i → i < ns.length → x < ns.getD i 0) (n₀ := ns.length) F2 N2
    ⟨0, ns.length, _, _, rfl, Nat.zero_le _, Nat.le_refl _, rfl, rfl, rfl, rfl, rfl, fun i h => absurd h (Nat.not_lt_zero _), fun i h1 h2 => absurd h2 (Nat.not_lt.mpr h1)⟩ ?_
  rintro n m₁ news₁ h₁ tk₁ F3 N3 ⟨lo, hi', t1, t2, e1, e2, e3, e4, e5, e6, e7, rfl, e8, e9⟩
  clear F2 N2
  k_steps
  · rename Fr _ _ _ _ => F5
    rename News _ _ _ _ => N5
    rename (x < List.getD ns _ _) => hc
    rename ((lo : Int) < _) => hlt
    rw [mid_nat, Int.toNat_natCast] at hc
    refine WhileStep.intro F5 N5 (n' := (lo + hi') / 2 - lo) (by omega) ⟨lo, (lo + hi') / 2, _, _, rfl, by omega, by omega, e4, e5, e6, by show some (Value.int _ _) = _; rw [mid_nat], rfl, e8, ?_⟩
    intro i h1 h2
    exact Int.lt_of_lt_of_le hc (hr _ i h1 h2)
  · rename Fr _ _ _ _ => F5
    rename News _ _ _ _ => N5
    rename (¬ x < List.getD ns _ _) => hc
    rename ((lo : Int) < _) => hlt
    rw [mid_nat, Int.toNat_natCast] at hc
    refine WhileStep.intro F5 N5 (n' := hi' - ((lo + hi') / 2 + 1)) (by omega) ⟨(lo + hi') / 2 + 1, hi', _, _, rfl, by omega, e3, e4, e5, by show some (Value.int _ _) = _; rw [mid_nat]; rfl, e7, rfl, ?_, e9⟩
    intro i hi2
    exact Int.le_trans (hr i ((lo + hi') / 2) (by omega) (by omega)) (Int.not_lt.mp hc)
  · rename Fr _ _ _ _ => F5
    rename (¬ (lo : Int) < _) => hlt
    have e : lo = hi' := by omega
    subst e
    exact ret lo t1 _ _ ⟨e3, e8, e9⟩ F5.keep
end Mine
end

-- T_blk
theorem Mine.calm4 : True := by first | walk1 | exact trivial
set_option maxHeartbeats 8000000
section
open PySem.Calls PySem.Spec
namespace Mine
local macro_rules | `(tactic| walk_at "exec While Compare cons nil") => `(tactic| refine Stop.to ?_)
local macro_rules | `(tactic| walk_at "eval Name") => `(tactic| (k_here; k_dflt (refine' ld ?k1 ?k2 ?_; (case k1 => k_asm); (case k2 => assumption); k_whole)))
variable {w : World} {A : Around} {s : Shared} {loose : List Str} {mean : ExcName → Option Value} {mg mb : Str → Option Value} {Q : Value → Shared → Prop} {E : Value → Shared → Prop}
/-- the function object at f says P of every int in dom, and leaves the heap as it was -/
structure Says (w : World) (h₀ : Heap) (f : Addr) (dom : Int → Prop) (P : Int → Bool) : Prop where
  fn : ∃ oc od fd osl, h₀.get? f = some ⟨oc, od, .func fd, osl⟩
  says : ∀ (A : Around) (s : Shared) (n : Int) (t : Tok) (Q E : Value → Shared → Prop), A.handled = none → A.depth < 600 → A.units < 500 → h₀.StaysIn s.heap → dom n →
    (∀ h' tk', s.heap.StaysIn h' → Q (.bool (P n)) { s with heap := h', toks := tk' }) → wpAny (model Challenge.rw_pe0135_01.row.prog w) A (call (.ref f) [.int n t]) Q E s
theorem callWith_S {M : Model} {env : Env} {pos : Pos} {f : Addr} {first : List Value} {h₀ : Heap} {e : Expr} {rest : List Expr} (hf : ∃ oc od fd osl, h₀.get? f = some ⟨oc, od, .func fd, osl⟩)
    (h : wpAny M A (spliced (backTo pos (starEach (e :: rest) env))) (fun vs s₁ => h₀.StaysIn s₁.heap ∧ wpAny M A (call (.ref f) (first ++ vs)) Q E s₁) E s)
    (he : starEach (e :: rest) env = (false, eval e env) :: starEach rest env := by rfl) (hplain : (backTo pos (starEach rest env)).any (·.1) = false := by rfl) :
    wpAny M A (callWith pos (.ref f) first (backTo pos (starEach (e :: rest) env)) []) Q E s := by
  rw [he] at h ⊢
  refine callWith_of (P := fun h => h₀.StaysIn h) (by show ((false || (backTo pos (starEach rest env)).any (·.1)) || false) = false; rw [hplain]; rfl) (fun h X => ?_) (evalArgs_plain h)
  obtain ⟨oc, od, fd, osl, e⟩ := hf
  exact ⟨.frame, .inl rfl, (Looks.ld (part := none) (X _ _ e)).andThen .now⟩
/-- where bisect_left with a key comes to: the first place from lo on whose item the key says yes to -/
theorem mem_getD {ns : List Int} {i : Nat} (h : i < ns.length) : ns.getD i 0 ∈ ns := by
  rw [List.getD_eq_getElem?_getD, List.getElem?_eq_getElem h]; exact List.getElem_mem h
theorem blk_ctr {l f : Addr} {vs : List Value} {ns : List Int} {P : Int → Bool} (hl : s.heap.IsList l vs.toArray) (hi : IntsAre vs ns) (hn : ns.length ≤ 1000) (lo₀ : Nat) (t : Tok)
   (hf : Says w s.heap f (· ∈ ns) P) (mono : ∀ i j, i ≤ j → j < ns.length → P (ns.getD i 0) = true → P (ns.getD j 0) = true)
   (X : (hd.heap_39 w.params).In s.heap) (T : Top topProg loose mean mg mb s.heap)
   (hh : A.handled = none) (hroom : A.depth < 500) (hu : A.units < 100)
   (ret : ∀ k tv h' tk', (lo₀ ≤ k ∧ (k ≤ ns.length ∨ k = lo₀) ∧ (∀ i, lo₀ ≤ i → i < k → i < ns.length → P (ns.getD i 0) = false) ∧ ∀ i, k ≤ i → i < ns.length → P (ns.getD i 0) = true) → s.heap.StaysIn h' → Q (.int k tv) { s with heap := h', toks := tk' }) :
   wpAny (model Challenge.rw_pe0135_01.row.prog w) A (call (.ref 39) [.ref l, .bool true, .int lo₀ t] [("key", .ref f)]) Q E s := by
  w_top off
  revert X; k_fill; intro X
  have TR := topRead_of T
  refine enterP (binds := [("a", .ref l), ("x", .bool true), ("lo", .int lo₀ t), ("hi", .none), ("key", .ref f)]) X T rfl (by rfl) (Nat.lt_of_lt_of_le hroom (by decide)) (kp_binds X fun _ => rfl) (locs rfl) ?_
  intro L' h₁ F N
  k_steps
  · exfalso; omega
  refine Stop.mk ?_
  rename Fr _ _ _ _ => F2
  rename News _ _ _ _ => N2
  refine While_inv (h₀ := s.heap) (L := L') (fun n m news => ∃ lo hi : Nat, ∃ t1 t2, n = hi - lo ∧ lo₀ ≤ lo ∧ (lo ≤ hi ∨ lo = lo₀) ∧ hi ≤ ns.length ∧ m "a" = some (.ref l) ∧ m "x" = some (.bool true) ∧ m "key" = some (.ref f) ∧ m "lo" = some (.int lo t1) ∧ m "hi" = some (.int hi t2) ∧ news = [] ∧ (∀ i, lo₀ ≤ i → i < lo → i < ns.length → P (ns.getD i 0) = false) ∧ ∀ i, hi ≤ i → i < ns.length → P (ns.getD i 0) = true) (n₀ := ns.length - lo₀) F2 N2
    ⟨lo₀, ns.length, _, _, rfl, Nat.le_refl _, .inr rfl, Nat.le_refl _, rfl, rfl, rfl, rfl, rfl, rfl, fun i h1 h2 => absurd h2 (Nat.not_lt.mpr h1), fun i h1 h2 => absurd h2 (Nat.not_lt.mpr h1)⟩ ?_
  rintro n m₁ news₁ h₁ tk₁ F3 N3 ⟨lo, hi', t1, t2, e1, e0, e2, e3, e4, e5, ek, e6, e7, rfl, e8, e9⟩
  clear F2 N2
  k_steps
  · with_unfolding_all refine callWith_S hf.fn ?_
    k_steps
    · exact Fr.keep (by assumption)
    rename Fr _ _ _ _ => F5
    rename News _ _ _ _ => N5
    rename ((lo : Int) < _) => hlt
    simp only [mid_nat, Int.toNat_natCast] at F5 ⊢
    have hm : (lo + hi') / 2 < ns.length := by omega
    refine hf.says _ _ _ _ _ _ hh (by show A.depth + 1 < 600; omega) (by show A.units + 3 < 500; omega) F5.keep (mem_getD hm) fun g tk' st => ?_
    have F6 := F5.keeps st
    have N6 := N5.keeps st
    clear F5 N5
    cases hp : P (ns.getD ((lo + hi') / 2) 0)
    all_goals k_steps
    · rename Fr _ _ _ _ => F5
      rename News _ _ _ _ => N5
      refine WhileStep.intro F5 N5 (n' := hi' - ((lo + hi') / 2 + 1)) (by omega) ⟨(lo + hi') / 2 + 1, hi', _, _, rfl, by omega, by omega, e3, e4, e5, ek, rfl, e7, rfl, ?_, e9⟩
      intro i h1 h2 h3
      cases hq : P (ns.getD i 0)
      · rfl
      · rw [mono i ((lo + hi') / 2) (by omega) hm hq] at hp; cases hp
    · rename Fr _ _ _ _ => F5
      rename News _ _ _ _ => N5
      refine WhileStep.intro F5 N5 (n' := (lo + hi') / 2 - lo) (by omega) ⟨lo, (lo + hi') / 2, _, _, rfl, e0, by omega, by omega, e4, e5, ek, e6, rfl, rfl, e8, ?_⟩
      intro i h1 h2
      exact mono _ i h1 h2 hp
  · rename Fr _ _ _ _ => F5
    rename (¬ (lo : Int) < _) => hlt
    exact ret lo t1 _ _ ⟨e0, by omega, e8, fun i h1 h2 => e9 i (by omega) h2⟩ F5.keep
end Mine
end

-- T_brk
theorem Mine.calm5 : True := by first | walk1 | exact trivial
set_option maxHeartbeats 8000000
section
open PySem.Calls PySem.Spec
namespace Mine
local macro_rules | `(tactic| walk_at "exec While Compare cons nil") => `(tactic| refine Stop.to ?_)
local macro_rules | `(tactic| walk_at "eval Name") => `(tactic| (k_here; k_dflt (refine' ld ?k1 ?k2 ?_; (case k1 => k_asm); (case k2 => assumption); k_whole)))
variable {w : World} {A : Around} {s : Shared} {loose : List Str} {mean : ExcName → Option Value} {mg mb : Str → Option Value} {Q : Value → Shared → Prop} {E : Value → Shared → Prop}
theorem brk_ctr {l f : Addr} {vs : List Value} {ns : List Int} {P : Int → Bool} (hl : s.heap.IsList l vs.toArray) (hi : IntsAre vs ns) (hn : ns.length ≤ 1000)
   (hf : Says w s.heap f (· ∈ ns) P) (mono : ∀ i j, i ≤ j → j < ns.length → P (ns.getD i 0) = true → P (ns.getD j 0) = true)
   (X : (hd.heap_39 w.params).In s.heap) (T : Top topProg loose mean mg mb s.heap)
   (hh : A.handled = none) (hroom : A.depth < 500) (hu : A.units < 100)
   (ret : ∀ k tv h' tk', (k ≤ ns.length ∧ (∀ i, i < k → P (ns.getD i 0) = false) ∧ ∀ i, k ≤ i → i < ns.length → P (ns.getD i 0) = true) → s.heap.StaysIn h' → Q (.int k tv) { s with heap := h', toks := tk' }) :
   wpAny (model Challenge.rw_pe0135_01.row.prog w) A (call (.ref 30) [.ref l, .bool false] [("key", .ref f)]) Q E s := by
  w_top off
  revert X; k_fill; intro X
  have TR := topRead_of T
  refine enterP (binds := [("a", .ref l), ("x", .bool false), ("lo", .int 0 205), ("hi", .none), ("key", .ref f)]) X T rfl (by rfl) (Nat.lt_of_lt_of_le hroom (by decide)) (kp_binds X fun _ => rfl) (locs rfl) ?_
  intro L' h₁ F N
  k_steps
  refine Stop.mk ?_
  rename Fr _ _ _ _ => F2
  rename News _ _ _ _ => N2
  refine While_inv (h₀ := s.heap) (L := L') (fun n m news => ∃ lo hi : Nat, ∃ t1 t2, n = hi - lo ∧ lo ≤ hi ∧ hi ≤ ns.length ∧ m "a" = some (.ref l) ∧ m "x" = some (.bool false) ∧ m "key" = some (.ref f) ∧ m "lo" = some (.int lo t1) ∧ m "hi" = some (.int hi t2) ∧ news = [] ∧ (∀ i, i < lo → P (ns.getD i 0) = false) ∧ ∀ i, hi ≤ i → i < ns.length → P (ns.getD i 0) = true) (n₀ := ns.length) F2 N2
    ⟨0, ns.length, _, _, rfl, Nat.zero_le _, Nat.le_refl _, rfl, rfl, rfl, rfl, rfl, rfl, fun i h => absurd h (Nat.not_lt_zero _), fun i h1 h2 => absurd h2 (Nat.not_lt.mpr h1)⟩ ?_
  rintro n m₁ news₁ h₁ tk₁ F3 N3 ⟨lo, hi', t1, t2, e1, e2, e3, e4, e5, ek, e6, e7, rfl, e8, e9⟩
  clear F2 N2
  k_steps
  · with_unfolding_all refine callWith_S hf.fn ?_
    k_steps
    · exact Fr.keep (by assumption)
    rename Fr _ _ _ _ => F5
    rename News _ _ _ _ => N5
    rename ((lo : Int) < _) => hlt
    simp only [mid_nat, Int.toNat_natCast] at F5 ⊢
    have hm : (lo + hi') / 2 < ns.length := by omega
    refine hf.says _ _ _ _ _ _ hh (by show A.depth + 1 < 600; omega) (by show A.units + 3 < 500; omega) F5.keep (mem_getD hm) fun g tk' st => ?_
    have F6 := F5.keeps st
    have N6 := N5.keeps st
    clear F5 N5
    cases hp : P (ns.getD ((lo + hi') / 2) 0)
    all_goals k_steps
    · rename Fr _ _ _ _ => F5
      rename News _ _ _ _ => N5
      refine WhileStep.intro F5 N5 (n' := hi' - ((lo + hi') / 2 + 1)) (by omega) ⟨(lo + hi') / 2 + 1, hi', _, _, rfl, by omega, e3, e4, e5, ek, rfl, e7, rfl, ?_, e9⟩
      intro i h2
      cases hq : P (ns.getD i 0)
      · rfl
      · rw [mono i ((lo + hi') / 2) (by omega) hm hq] at hp; cases hp
    · rename Fr _ _ _ _ => F5
      rename News _ _ _ _ => N5
      refine WhileStep.intro F5 N5 (n' := (lo + hi') / 2 - lo) (by omega) ⟨lo, (lo + hi') / 2, _, _, rfl, by omega, by omega, e4, e5, ek, e6, rfl, rfl, e8, ?_⟩
      intro i h1 h2
      exact mono _ i h1 h2 hp
  · rename Fr _ _ _ _ => F5
    rename (¬ (lo : Int) < _) => hlt
    exact ret lo t1 _ _ ⟨by omega, e8, fun i h1 h2 => e9 i (by omega) h2⟩ F5.keep
end Mine
end

-- T_rep
theorem Mine.calm6 : True := by first | walk1 | exact trivial
set_option maxHeartbeats 8000000
section
open PySem.Calls PySem.Spec
namespace Mine
variable {w : World} {A : Around} {s : Shared} {loose : List Str} {mean : ExcName → Option Value} {mg mb : Str → Option Value} {Q : Value → Shared → Prop} {E : Value → Shared → Prop}
theorem rep_ctr (a b c : Str) (t1 t2 t3 : Tok) (hA : A.handled = none) (h1 : a.length ≤ 1000) (h2 : b.length ≤ 1000) (h3 : 1 ≤ b.length) (h4 : c.length ≤ 1000) (X : (hd.heap_39 w.params).In s.heap) (T : Top topProg loose mean mg mb s.heap)
   (hroom : A.depth < 500) 
   (ret : ∀ t h' tk', s.heap.StaysIn h' → Q (.str (Txt.join c (Txt.split a b)) t) { s with heap := h', toks := tk' }) :
   wpAny (model Challenge.rw_pe0135_01.row.prog w) A (call (.ref 46) [.str a t1, .str b t2, .str c t3]) Q E s := by
  obtain ⟨hand, dp, frs, gds, un⟩ := A
  obtain rfl : hand = none := hA
  w_top off
  revert X; k_fill; intro X
  have TR := topRead_of T
  refine enterV (vs := [.str b t2, .str c t3]) (binds := fun D => [("text", .str a t1), ("pairs", .ref D)]) X T rfl (by rfl) (Nat.lt_of_lt_of_le hroom (by decide)) rfl (fun _ => rfl) (fun _ => locs rfl) ?_
  intro D L' h₁ F N
  k_steps
  rename Fr _ _ _ _ => F2
  rename News _ _ _ _ => N2
  refine KSpl.split1 F2 N2 (beq_eq_false_iff_ne.mpr (by omega)) ?_ (by rw [sizeLine_eq]; omega)
  intro D2 l h2 k2 ql qS F3 N3 qlt
  clear F2 N2
  k_steps
  rename Fr _ _ _ _ => F4
  rename News _ _ _ _ => N4
  refine join_list (News.isList N4 (.head _)) qS ?_ ?_
  · rw [ql]
    have hw := split_weight a b h3
    have h5 : (Txt.split a b).length * c.length ≤ 1001 * 1000 := Nat.mul_le_mul (by omega) h4
    omega
  intro tj kj
  rw [ql]
  k_steps
  rename Fr _ _ _ _ => F5
  rename News _ _ _ _ => N5
  with_unfolding_all refine slice_tuple_from (a := 2) F5 N5 (News.isTup N5 (.tail _ (.head _))) (by decide) (Nat.le_refl 2) ?_
  intro h6 F6 N6
  clear F5 N5
  change News s.heap L' h6 (({ cls := .type "tuple", data := .seq #[] } : Obj) |> fun o => (_, o) :: _) at N6
  k_steps
  rename Fr _ _ _ _ => F7
  exact ret _ _ _ F7.keep
end Mine
end

-- T_pat
theorem Mine.calm7 : True := by first | walk1 | exact trivial
set_option maxHeartbeats 8000000
section
open PySem.Calls PySem.Spec
namespace Mine
local macro_rules | `(tactic| walk_at "call ref") => `(tactic| refine Stop.to ?_)
variable {w : World} {A : Around} {s : Shared} {loose : List Str} {mean : ExcName → Option Value} {mg mb : Str → Option Value} {Q : Value → Shared → Prop} {E : Value → Shared → Prop}
def patOf (ps : List Str) : Str := Txt.join (Str.ofString "...") (Txt.split (Str.ofString "-" ++ Txt.join (Str.ofString "-") ps ++ Str.ofString "-") (Str.ofString "-"))
theorem pat_ctr {l : Addr} {vs : List Value} {ps : List Str} (hl : s.heap.IsList l vs.toArray) (hi : StrsAre vs ps) (hA : A.handled = none) (h1 : (ps.map (·.length)).sum + ps.length ≤ 500) (X : (hd.heap_39 w.params).In s.heap) (T : Top topProg loose mean mg mb s.heap)
   (hroom : A.depth < 499) 
   (ret : ∀ t h' tk', s.heap.StaysIn h' → Q (.str (patOf ps) t) { s with heap := h', toks := tk' }) :
   wpAny (model Challenge.rw_pe0135_01.row.prog w) A (call (.ref 84) [.ref l]) Q E s := by
  obtain ⟨hand, dp, frs, gds, un⟩ := A
  obtain rfl : hand = none := hA
  w_top off
  revert X; k_fill; intro X
  have TR := topRead_of T
  refine enterP (binds := [("pieces", .ref l)]) X T rfl (by rfl) (Nat.lt_trans hroom (by decide)) (BindsTo.of_eq rfl) (locs rfl) ?_
  intro L' h₁ F N
  k_steps
  refine join_list (Fr.lst F hl) (by simpa using hi) ?_ ?_
  · show _ + ps.length * 1 ≤ _
    omega
  intro tj kj
  have hJ : (Txt.join (Str.ofString "-") ps).length ≤ 500 := by
    show (Builtin.Str.glued _ _).length ≤ 500
    rw [StrLaws.glued_eq_join]
    refine Nat.le_trans (StrLaws.join_length_le _ _) ?_
    show _ + ps.length * 1 ≤ _
    omega
  have h9 : (Str.ofString "-").length = 1 := by decide
  k_steps
  rename Fr _ _ _ _ => F2
  refine Stop.mk (rep_ctr _ _ _ _ _ _ rfl (by omega) (by decide) (by decide) (by decide) (X.keeps F2.keep) (T.keeps F2.keep) (by show dp + 1 < 500; exact Nat.succ_lt_succ hroom) ?_)
  intro t h' tk' st
  exact ret _ _ _ fun b o e => st b o (F2.keep b o e)
end Mine
end

-- T_places
theorem Mine.calm8 : True := by first | walk1 | exact trivial
set_option maxHeartbeats 8000000
section
open PySem.Calls PySem.Spec
namespace Mine
open LCg LCt
local macro_rules | `(tactic| walk_at "eval ListComp") => `(tactic| refine Stop.to ?_)
variable {w : World} {A : Around} {s : Shared} {loose : List Str} {mean : ExcName → Option Value} {mg mb : Str → Option Value} {Q : Value → Shared → Prop} {E : Value → Shared → Prop}
theorem places_ctr (text piece : Str) (t1 t2 : Tok) (h1 : text.length ≤ 1000) (h2 : piece.length ≤ 1000) (X : (hd.heap_39 w.params).In s.heap) (T : Top topProg loose mean mg mb s.heap)
   (hA : A.handled = none) (hroom : A.depth < 500)
   (ret : ∀ D vs h' tk', s.heap.StaysIn h' → s.heap.get? D = none → h'.get? D = some (lst vs) → IntsAre vs (asInts (places (sg text) (sg piece))) → Q (.ref D) { s with heap := h', toks := tk' }) :
   wpAny (model Challenge.rw_pe0135_01.row.prog w) A (call (.ref 58) [.str text t1, .str piece t2]) Q E s := by
  obtain ⟨hand, dp, frs, gds, un⟩ := A
  obtain rfl : hand = none := hA
  w_top off
  revert X; k_fill; intro X
  have TR := topRead_of T
  refine enterC (binds := [("text", .str text t1), ("piece", .str piece t2)]) X T rfl (by rfl) (Nat.lt_of_lt_of_le hroom (by decide)) (BindsTo.of_eq rfl) rfl (by decide) ?_
  intro L' h₁ tk cells F N C
  obtain ⟨o1, o2, e, d1, d2⟩ := CellsAre.two C
  subst e
  clear C
  change o1.data = .cell (some (.str piece t2)) at d1
  change o2.data = .cell (some (.str text t1)) at d2
  k_steps
  refine Stop.mk ?_
  refine ListComp_T (F₀ := F) (by with_unfolding_all rfl) (by decide) (by rfl) (by decide) (by rfl) ?_
  k_steps
  rename Fr _ _ _ _ => F2
  rename News _ _ _ _ => N2
  rename (IntsAre _ (List.foldl _ _ _)) => hI
  refine ret _ _ _ _ F2.keep (N2 _ (.head _)).2.2 (N2 _ (.head _)).1 ?_
  rw [show ((text.length : Int) - 0).toNat = text.length by omega, rangeKs_zero] at hI
  have e := foldl_places text piece (List.range text.length) [] fun k hk => Nat.le_of_lt (List.mem_range.mp hk)
  rw [List.nil_append] at e
  unfold asInts places
  rw [sg_len, ← e]
  exact hI
end Mine
end

-- T_ends
theorem Mine.calm9 : True := by first | walk1 | exact trivial
set_option maxHeartbeats 8000000
section
open PySem.Calls PySem.Spec
namespace Mine
open LCg LCt
local macro_rules | `(tactic| walk_at "exec For Name Name cons nil") => `(tactic| refine Stop.to ?_)
local macro_rules | `(tactic| walk_at "call ref") => `(tactic| refine Stop.to ?_)
local macro_rules | `(tactic| walk_at "eval Name") => `(tactic| (k_here; k_dflt (refine' ld ?k1 ?k2 ?_; (case k1 => k_asm); (case k2 => assumption); k_whole)))
variable {w : World} {A : Around} {s : Shared} {loose : List Str} {mean : ExcName → Option Value} {mg mb : Str → Option Value} {Q : Value → Shared → Prop} {E : Value → Shared → Prop}
/-- from front e on: the end of p's first place that is not ahead of e -/
def nextEnd (T : List Nat) (e : Nat) (p : List Nat) : Nat := match (places T p).find? (fun k => decide (e ≤ k)) with
  | some k => k + p.length
  | none => T.length + 1
def endAt (T : List Nat) (ps : List (List Nat)) (j : Nat) : Nat := (ps.take j).foldl (nextEnd T) 0
def toldEnds (T : List Nat) (ps : List (List Nat)) (n : Nat) : List Nat := (List.range (n + 1)).map (endAt T ps)
theorem told_len (T : List Nat) (ps : List (List Nat)) (n : Nat) : (toldEnds T ps n).length = n + 1 := by simp [toldEnds]
theorem told_last (T : List Nat) (ps : List (List Nat)) (n : Nat) : (asInts (toldEnds T ps n)).getD ((-1 : Int) + ((asInts (toldEnds T ps n)).length : Nat)).toNat 0 = (endAt T ps n : Int) := by
  rw [asInts_length, told_len, show ((-1 : Int) + ((n + 1 : Nat) : Int)).toNat = n by omega]
  simp [asInts, toldEnds]
theorem told_succ (T : List Nat) (ps : List (List Nat)) (n : Nat) : asInts (toldEnds T ps (n + 1)) = asInts (toldEnds T ps n) ++ [(endAt T ps (n + 1) : Int)] := by
  simp [asInts, toldEnds, List.range_succ]
theorem endAt_succ (T : List Nat) (ps : List (List Nat)) {n : Nat} (h : n < ps.length) : endAt T ps (n + 1) = nextEnd T (endAt T ps n) ps[n] := by
  unfold endAt
  rw [List.take_succ_eq_append_getElem h, List.foldl_append]
  rfl
theorem places_rise (T p : List Nat) : Rises (asInts (places T p)) := by
  have hs : (places T p).Pairwise (· < ·) := List.Pairwise.filter _ List.pairwise_lt_range
  intro i j hij hj
  rw [asInts_length] at hj
  have e : ∀ k, k < (places T p).length → (asInts (places T p)).getD k 0 = (((places T p).getD k 0 : Nat) : Int) := fun k hk => by
    simp [asInts, List.getD_eq_getElem?_getD, hk]
  rw [e i (by omega), e j hj]
  by_cases h : i = j
  · subst h; exact Int.le_refl _
  · have := List.pairwise_iff_getElem.mp hs i j (by omega) hj (by omega)
    simp [List.getD_eq_getElem?_getD, hj, show i < (places T p).length by omega]
    omega
theorem places_le (T p : List Nat) : (places T p).length ≤ T.length := by
  unfold places
  exact Nat.le_trans (List.length_filter_le _ _) (by simp)
theorem find_left {l : List Nat} {e k : Nat} (h : LeftAt (asInts l) (e : Int) k) : l.find? (fun x => decide (e ≤ x)) = l[k]? := by
  obtain ⟨h1, h2, h3⟩ := h
  rw [asInts_length] at h1
  have g : ∀ i, i < l.length → (asInts l).getD i 0 = ((l.getD i 0 : Nat) : Int) := fun i hi => by
    simp [asInts, List.getD_eq_getElem?_getD, hi]
  clear h1
  induction l generalizing k with
  | nil => simp
  | cons a r ih =>
    cases k with
    | zero =>
      have := h3 0 (Nat.le_refl _) (by simp [asInts])
      rw [g 0 (by simp)] at this
      simp at this
      simp [List.find?_cons, this]
    | succ k =>
      have := h2 0 (by omega)
      rw [g 0 (by simp)] at this
      simp at this
      rw [List.find?_cons, decide_eq_false (by omega)]
      simp only [List.getElem?_cons_succ]
      refine ih ?_ ?_ ?_
      · intro i hi
        have := h2 (i + 1) (by omega)
        simpa [asInts] using this
      · intro i hi hi2
        have := h3 (i + 1) (by omega) (by simpa [asInts] using hi2)
        simpa [asInts] using this
      · intro i hi
        have := g (i + 1) (by simpa using hi)
        simpa [asInts] using this
theorem ends_ctr {text : Str} {t1 : Tok} {l : Addr} {vs : List Value} {ps : List Str} (hl : s.heap.IsList l vs.toArray) (hi : StrsAre vs ps) (h1 : text.length ≤ 1000) (h2 : ps.length ≤ 1000) (hp : ∀ p ∈ ps, p.length ≤ 1000)
   (X : (hd.heap_39 w.params).In s.heap) (T : Top topProg loose mean mg mb s.heap) (hA : A.handled = none) (hroom : A.depth < 498)
   (ret : ∀ D vs n h' tk', s.heap.StaysIn h' → s.heap.get? D = none → h'.get? D = some (listOf (List.toArray vs) n) → IntsAre vs (asInts (toldEnds (sg text) (ps.map sg) ps.length)) → Q (.ref D) { s with heap := h', toks := tk' }) :
   wpAny (model Challenge.rw_pe0135_01.row.prog w) A (call (.ref 65) [.str text t1, .ref l]) Q E s := by
  obtain ⟨hand, dp, frs, gds, un⟩ := A
  obtain rfl : hand = none := hA
  w_top off
  revert X; k_fill; intro X
  have TR := topRead_of T
  refine enterP (binds := [("text", .str text t1), ("pieces", .ref l)]) X T rfl (by rfl) (Nat.lt_trans hroom (by decide)) (BindsTo.of_eq rfl) (locs rfl) ?_
  intro L' h₁ F N
  k_steps
  rename Fr _ _ _ _ => F2
  rename News _ _ _ _ => N2
  refine Stop.mk ?_
  refine For_invV s.heap rfl rfl ?_
  k_steps
  rename Fr _ _ _ _ => F3
  rename News _ _ _ _ => N3
  refine loopH (h₀ := s.heap) (fun i m nx => ∃ D vs2 n2, nx = [(D, listOf (List.toArray vs2) n2)] ∧ m "text" = some (.str text t1) ∧ m "told" = some (.ref D) ∧ IntsAre vs2 (asInts (toldEnds (sg text) (ps.map sg) i))) rfl hl F3 N3
    ⟨_, _, _, rfl, rfl, rfl, IntsAre.cons _ _ IntsAre.nil⟩ ?_ ?_
  · rintro i v m₁ nx h tk own hv hoff ⟨D, vs2, n2, rfl, j1, j2, j3⟩ F4 N4
    clear F3 N3
    change Fr s.heap L' h _ at F4
    change News s.heap L' h _ at N4
    have hiv : i < vs.length := (List.getElem?_eq_some_iff.mp hv).1
    have hips : i < ps.length := by rw [← hi.length]; exact hiv
    obtain ⟨ty, hy⟩ := hi.at (List.getElem?_eq_getElem hips)
    rw [hv] at hy
    obtain rfl := Option.some.inj hy
    clear hy
    k_steps
    rename Fr _ _ _ _ => F5
    rename News _ _ _ _ => N5
    refine Stop.mk (places_ctr _ _ _ _ h1 (hp _ (List.getElem_mem hips)) (X.keeps F5.keep) (T.keeps F5.keep) rfl (by show dp + 1 < 500; have : dp < 498 := hroom; omega) ?_)
    intro Dp vp h6 tk6 st fr hg hIp
    have F6 := F5.keeps st
    have N6 := news_cons F5 N5 st fr hg
    have ne6 := news_ne N5 fr
    clear F5 N5
    change News s.heap L' h6 ((Dp, lst vp) :: (D, listOf (List.toArray vs2) n2) :: own) at N6
    k_steps
    rename Fr _ _ _ _ => F7
    rename News _ _ _ _ => N7
    with_unfolding_all refine item_list_ints_neg (News.isList N7 (.tail _ (.head _))) j3 (by decide) (by rw [asInts_length, told_len]; omega) (by decide) ?_
    intro te
    rw [told_last]
    k_steps
    refine Stop.mk (bl_ctr (News.isList N7 (.head _)) hIp (by rw [asInts_length]; exact Nat.le_trans (places_le _ _) (by rw [sg_len]; exact h1)) (places_rise _ _) _ _ (X.keeps F7.keep) (T.keeps F7.keep) (by show dp + 1 < 500; have : dp < 498 := hroom; omega) ?_)
    intro k tv h8 tk8 hk st8
    have F8 := F7.keeps st8
    have N8 := N7.keeps st8
    clear F7 N7
    have hfl := find_left hk
    have hkl : k ≤ (places (sg text) (sg ps[i])).length := by have := hk.1; rwa [asInts_length] at this
    have hpl : (places (sg text) (sg ps[i])).length ≤ 1000 := Nat.le_trans (places_le _ _) (by rw [sg_len]; exact h1)
    have hpb : ps[i].length ≤ 1000 := hp _ (List.getElem_mem hips)
    have hal : (asInts (places (sg text) (sg ps[i]))).length = (places (sg text) (sg ps[i])).length := asInts_length _
    have hvl : vs2.length = i + 1 := by rw [j3.length, asInts_length, told_len]
    have hneD : Dp ≠ D := fun e => ne6 (D, _) (.head _) e.symm
    have hneO : ∀ p ∈ own, p.1 ≠ D := fun p hp => hoff p hp D (.head _)
    have hps : (ps.map sg)[i]'(by simpa using hips) = sg ps[i] := by simp
    have hsucc := endAt_succ (sg text) (ps.map sg) (show i < (ps.map sg).length by simpa using hips)
    rw [hps, nextEnd, hfl] at hsucc
    k_steps
    · rename Fr _ _ _ _ => F9
      rename News _ _ _ _ => N9
      rename ((k : Int) = _) => hkk
      rw [List.getElem?_eq_none (by omega), sg_len] at hsucc
      rw [List.push_toArray] at N9
      refine InvEndG.intro F9 N9 ⟨D, _, _, rfl, j1, j2, ?_⟩ (fun p hp b hb => by rw [List.mem_singleton.mp hb]; exact hneO p hp) (fun p hp => by rw [List.mem_singleton.mp hp]; exact .tail _ (.head _)) (fun p hp => .tail _ (.tail _ hp))
      rw [told_succ, hsucc]
      exact IntsAre.append j3 (IntsAre.cons _ _ IntsAre.nil)
    · rename Fr _ _ _ _ => F9
      rename News _ _ _ _ => N9
      rename (¬ (k : Int) = _) => hkk
      have hk2 : k < (places (sg text) (sg ps[i])).length := by omega
      rw [List.getElem?_eq_getElem hk2] at hsucc
      rw [List.push_toArray] at N9
      refine InvEndG.intro F9 N9 ⟨D, _, _, rfl, j1, j2, ?_⟩ (fun p hp b hb => by rw [List.mem_singleton.mp hb]; exact hneO p hp) (fun p hp => by rw [List.mem_singleton.mp hp]; exact .tail _ (.head _)) (fun p hp => .tail _ (.tail _ hp))
      have e9 : (asInts (places (sg text) (sg ps[i]))).getD (k : Int).toNat 0 + (ps[i].length : Int) = ((endAt (sg text) (ps.map sg) (i + 1) : Nat) : Int) := by
        rw [hsucc, Int.toNat_natCast]
        simp [asInts, List.getD_eq_getElem?_getD, hk2]
        rfl
      rw [told_succ, ← e9]
      exact IntsAre.append j3 (IntsAre.cons _ _ IntsAre.nil)
  · rintro m₁ nx h tk ⟨D, vs2, n2, rfl, j1, j2, j3⟩ F4 N4
    clear F3 N3
    change Fr s.heap L' h _ at F4
    change News s.heap L' h _ at N4
    k_steps
    rw [hi.length] at j3
    exact ret _ _ _ _ _ F4.keep (N4 _ (.head _)).2.2 (N4 _ (.head _)).1 j3
end Mine
end

-- T_begins
theorem Mine.calm10 : True := by first | walk1 | exact trivial
set_option maxHeartbeats 8000000
section
open PySem.Calls PySem.Spec
namespace Mine
open LCg LCt
local macro_rules | `(tactic| walk_at "exec For Name Subscript cons nil") => `(tactic| refine Stop.to ?_)
local macro_rules | `(tactic| walk_at "call ref") => `(tactic| refine Stop.to ?_)
local macro_rules | `(tactic| walk_at "eval Name") => `(tactic| (k_here; k_dflt (refine' ld ?k1 ?k2 ?_; (case k1 => k_asm); (case k2 => assumption); k_whole)))
variable {w : World} {A : Around} {s : Shared} {loose : List Str} {mean : ExcName → Option Value} {mg mb : Str → Option Value} {Q : Value → Shared → Prop} {E : Value → Shared → Prop}
/-- up to tail b: p's last place from which it ends no farther than b -/
def nextBeg (T : List Nat) (b : Int) (p : List Nat) : Int := match ((places T p).filter (fun (k : Nat) => decide ((k : Int) + p.length ≤ b))).getLast? with
  | some k => k
  | none => -1
def begAt (T : List Nat) (qs : List (List Nat)) (j : Nat) : Int := (qs.take j).foldl (nextBeg T) (T.length : Int)
def toldBeg (T : List Nat) (qs : List (List Nat)) (n : Nat) : List Int := (List.range (n + 1)).map (begAt T qs)
theorem tb_len (T : List Nat) (ps : List (List Nat)) (n : Nat) : (toldBeg T ps n).length = n + 1 := by simp [toldBeg]
theorem tb_last (T : List Nat) (ps : List (List Nat)) (n : Nat) : (toldBeg T ps n).getD ((-1 : Int) + ((toldBeg T ps n).length : Nat)).toNat 0 = begAt T ps n := by
  rw [tb_len, show ((-1 : Int) + ((n + 1 : Nat) : Int)).toNat = n by omega]
  simp [toldBeg]
theorem tb_succ (T : List Nat) (ps : List (List Nat)) (n : Nat) : toldBeg T ps (n + 1) = toldBeg T ps n ++ [begAt T ps (n + 1)] := by
  simp [toldBeg, List.range_succ]
theorem begAt_succ (T : List Nat) (ps : List (List Nat)) {n : Nat} (h : n < ps.length) : begAt T ps (n + 1) = nextBeg T (begAt T ps n) ps[n] := by
  unfold begAt
  rw [List.take_succ_eq_append_getElem h, List.foldl_append]
  rfl
theorem filter_right {l : List Nat} {x : Int} {k : Nat} (h : RightAt (asInts l) x k) : l.filter (fun (y : Nat) => decide ((y : Int) ≤ x)) = l.take k := by
  obtain ⟨h1, h2, h3⟩ := h
  clear h1
  induction l generalizing k with
  | nil => simp
  | cons a r ih =>
    cases k with
    | zero =>
      rw [List.take_zero, List.filter_eq_nil_iff]
      intro y hy
      obtain ⟨i, hi, rfl⟩ := List.getElem_of_mem hy
      have := h3 i (Nat.zero_le _) (by rw [asInts_length]; exact hi)
      simp only [asInts, List.getD_eq_getElem?_getD, List.getElem?_map, List.getElem?_eq_getElem hi, Option.map_some, Option.getD_some] at this
      simp
      omega
    | succ k =>
      have h0 := h2 0 (by omega)
      simp [asInts] at h0
      rw [List.filter_cons, decide_eq_true h0, if_pos rfl, List.take_succ_cons]
      congr 1
      refine ih ?_ ?_
      · intro i hi
        have := h2 (i + 1) (by omega)
        simpa [asInts] using this
      · intro i hi hi2
        have := h3 (i + 1) (by omega) (by simpa [asInts] using hi2)
        simpa [asInts] using this
theorem StrsAre.app : ∀ {vs ws : List Value} {ys zs : List Str}, StrsAre vs ys → StrsAre ws zs → StrsAre (vs ++ ws) (ys ++ zs)
  | _, _, _, _, .nil, h => h
  | _, _, _, _, .cons y t g, h => .cons y t (StrsAre.app g h)
theorem StrsAre.rev : ∀ {vs : List Value} {ys : List Str}, StrsAre vs ys → StrsAre vs.reverse ys.reverse
  | _, _, .nil => .nil
  | _, _, .cons y t h => by
    rw [List.reverse_cons, List.reverse_cons]
    exact StrsAre.app (StrsAre.rev h) (.cons y t .nil)
theorem begins_ctr {text : Str} {t1 : Tok} {l : Addr} {vs : List Value} {ps : List Str} (hl : s.heap.IsList l vs.toArray) (hi : StrsAre vs ps) (h1 : text.length ≤ 1000) (h2 : ps.length ≤ 1000) (hp : ∀ p ∈ ps, p.length ≤ 1000)
   (X : (hd.heap_39 w.params).In s.heap) (T : Top topProg loose mean mg mb s.heap) (hA : A.handled = none) (hroom : A.depth < 498)
   (ret : ∀ D vs n h' tk', s.heap.StaysIn h' → s.heap.get? D = none → h'.get? D = some (listOf (List.toArray vs) n) → IntsAre vs (toldBeg (sg text) (ps.reverse.map sg) ps.length) → Q (.ref D) { s with heap := h', toks := tk' }) :
   wpAny (model Challenge.rw_pe0135_01.row.prog w) A (call (.ref 72) [.str text t1, .ref l]) Q E s := by
  obtain ⟨hand, dp, frs, gds, un⟩ := A
  obtain rfl : hand = none := hA
  w_top off
  revert X; k_fill; intro X
  have TR := topRead_of T
  refine enterP (binds := [("text", .str text t1), ("pieces", .ref l)]) X T rfl (by rfl) (Nat.lt_trans hroom (by decide)) (BindsTo.of_eq rfl) (locs rfl) ?_
  intro L' h₁ F N
  k_steps
  rename Fr _ _ _ _ => F2
  rename News _ _ _ _ => N2
  refine Stop.mk ?_
  refine For_invV s.heap rfl rfl (cut (fun xv s₁ => Stop (∃ lr D h tk vs2 n2 m, xv = .ref lr ∧ s₁ = { s with heap := h, toks := tk } ∧ Fr s.heap L' h m ∧ News s.heap L' h [(lr, listOf (List.toArray vs.reverse) 0), (D, listOf (List.toArray vs2) n2)] ∧ lr ≠ D ∧
    m "text" = some (.str text t1) ∧ m "told" = some (.ref D) ∧ IntsAre vs2 (toldBeg (sg text) (ps.reverse.map sg) 0))) ?_ ?_)
  · k_steps
    rename Fr _ _ _ _ => F3
    rename News _ _ _ _ => N3
    rw [krv_pick] at N3
    refine ⟨_, _, _, _, [.int (text.length : Int) _], _, _, rfl, rfl, F3, N3, ?_, rfl, rfl, ?_⟩
    · exact Nat.ne_of_gt (Nat.lt_succ_of_lt (Heap.lt_size (N2 _ (.head _)).1))
    · have : toldBeg (sg text) (ps.reverse.map sg) 0 = [(text.length : Int)] := by
        simp only [toldBeg, begAt, List.range_succ, List.range_zero, List.nil_append, List.map_cons, List.map_nil, List.take_zero, List.foldl_nil, sg_len]
      rw [this]
      exact IntsAre.cons _ _ IntsAre.nil
  · rintro xv s₁ ⟨lr, D₀, h, tk, vs2₀, n2₀, m, rfl, rfl, F3, N3, hne₀, m1, m2, m3⟩
    clear F2 N2
    have hir : StrsAre vs.reverse ps.reverse := StrsAre.rev hi
    refine kdl_iter (h₀ := s.heap) (fun i m nx => ∃ vs2 n2, nx = [(lr, listOf (List.toArray vs.reverse) 0), (D₀, listOf (List.toArray vs2) n2)] ∧ m "text" = some (.str text t1) ∧ m "told" = some (.ref D₀) ∧ IntsAre vs2 (toldBeg (sg text) (ps.reverse.map sg) i)) rfl (.head _) F3 N3
      ⟨_, _, rfl, m1, m2, m3⟩ ?_ ?_
    · rintro i v m₁ nx h tk own hv hoff _ ⟨vs2, n2, rfl, j1, j2, j3⟩ F4 N4
      clear F3 N3
      change Fr s.heap L' h _ at F4
      change News s.heap L' h _ at N4
      have hiv : i < vs.reverse.length := (List.getElem?_eq_some_iff.mp hv).1
      have hips : i < ps.reverse.length := by rw [← hir.length]; exact hiv
      obtain ⟨ty, hy⟩ := hir.at (List.getElem?_eq_getElem hips)
      rw [hv] at hy
      obtain rfl := Option.some.inj hy
      clear hy
      have hmem : ps.reverse[i] ∈ ps := List.mem_reverse.mp (List.getElem_mem hips)
      generalize hpc : ps.reverse[i] = pc at *
      k_steps
      rename Fr _ _ _ _ => F5
      rename News _ _ _ _ => N5
      refine Stop.mk (places_ctr _ _ _ _ h1 (hp _ hmem) (X.keeps F5.keep) (T.keeps F5.keep) rfl (by show dp + 1 < 500; have : dp < 498 := hroom; omega) ?_)
      intro Dp vp h6 tk6 st fr hg hIp
      have F6 := F5.keeps st
      have N6 := news_cons F5 N5 st fr hg
      have ne6 := news_ne N5 fr
      clear F5 N5
      change News s.heap L' h6 ((Dp, lst vp) :: (lr, listOf (List.toArray vs.reverse) 0) :: (D₀, listOf (List.toArray vs2) n2) :: own) at N6
      have hpb : pc.length ≤ 1000 := hp _ hmem
      k_steps
      rename Fr _ _ _ _ => F7
      rename News _ _ _ _ => N7
      with_unfolding_all refine item_list_ints_neg (News.isList N7 (.tail _ (.tail _ (.head _)))) j3 (by decide) (by rw [tb_len]; omega) (by decide) ?_
      intro te
      rw [tb_last]
      k_steps
      refine Stop.mk (br_ctr (News.isList N7 (.head _)) hIp (by rw [asInts_length]; exact Nat.le_trans (places_le _ _) (by rw [sg_len]; exact h1)) (places_rise _ _) _ _ (X.keeps F7.keep) (T.keeps F7.keep) (by show dp + 1 < 500; have : dp < 498 := hroom; omega) ?_)
      intro k tv h8 tk8 hk st8
      have F8 := F7.keeps st8
      have N8 := N7.keeps st8
      clear F7 N7
      have hfr := filter_right hk
      have hkl : k ≤ (places (sg text) (sg pc)).length := by have := hk.1; rwa [asInts_length] at this
      have hpl : (places (sg text) (sg pc)).length ≤ 1000 := Nat.le_trans (places_le _ _) (by rw [sg_len]; exact h1)
      have hal : (asInts (places (sg text) (sg pc))).length = (places (sg text) (sg pc)).length := asInts_length _
      have hvl : vs2.length = i + 1 := by rw [j3.length, tb_len]
      have hneD : Dp ≠ D₀ := fun e => ne6 (D₀, _) (.tail _ (.head _)) e.symm
      have hneO : ∀ p ∈ own, p.1 ≠ D₀ := fun p hp => hoff p hp D₀ (.tail _ (.head _))
      have hi1000 : i < 1000 := by have := List.length_reverse (as := ps); omega
      have hps : (ps.reverse.map sg)[i]'(by simpa using hips) = sg pc := by rw [← hpc]; simp
      have hsucc := begAt_succ (sg text) (ps.reverse.map sg) (show i < (ps.reverse.map sg).length by simpa using hips)
      have hfl : (places (sg text) (sg pc)).filter (fun (k : Nat) => decide ((k : Int) + (sg pc).length ≤ begAt (sg text) (ps.reverse.map sg) i)) = (places (sg text) (sg pc)).take k := by
        rw [← hfr]
        congr 1
        funext y
        rw [sg_len]
        exact decide_eq_decide.mpr ⟨fun h => by omega, fun h => by omega⟩
      rw [hps, nextBeg, hfl] at hsucc
      have hoff2 : ∀ {vs3 : List Value} {n3 : Nat}, OwnOff own ([(lr, listOf (List.toArray vs.reverse) 0), (D₀, listOf (List.toArray vs3) n3)].map (·.1)) := fun {_ _} => hoff
      have hsub : ∀ {vs3 : List Value} {n3 : Nat}, ∀ p ∈ [(lr, listOf (List.toArray vs.reverse) 0), (D₀, listOf (List.toArray vs3) n3)], p ∈ (Dp, lst vp) :: (lr, listOf (List.toArray vs.reverse) 0) :: (D₀, listOf (List.toArray vs3) n3) :: own := fun {_ _} p hp => by
        rcases List.mem_cons.mp hp with rfl | hp
        · exact .tail _ (.head _)
        · rw [List.mem_singleton.mp hp]; exact .tail _ (.tail _ (.head _))
      k_steps
      · rename Fr _ _ _ _ => F9
        rename News _ _ _ _ => N9
        rename ((k : Int) = _) => hkk
        obtain rfl : k = 0 := by omega
        rw [List.push_toArray] at N9
        refine InvEndG.intro F9 N9 ⟨.head _, _, _, rfl, j1, j2, ?_⟩ hoff2 hsub (fun p hp => .tail _ (.tail _ (.tail _ hp)))
        rw [tb_succ, hsucc]
        exact IntsAre.append j3 (IntsAre.cons _ _ IntsAre.nil)
      · rename Fr _ _ _ _ => F9
        rename News _ _ _ _ => N9
        rename (¬ (k : Int) = _) => hkk
        have hk2 : k - 1 < (places (sg text) (sg pc)).length := by omega
        rw [List.push_toArray] at N9
        refine InvEndG.intro F9 N9 ⟨.head _, _, _, rfl, j1, j2, ?_⟩ hoff2 hsub (fun p hp => .tail _ (.tail _ (.tail _ hp)))
        have e9 : (asInts (places (sg text) (sg pc))).getD ((k : Int) - 1).toNat 0 = begAt (sg text) (ps.reverse.map sg) (i + 1) := by
          rw [hsucc, show ((k : Int) - 1).toNat = k - 1 by omega]
          have : ((places (sg text) (sg pc)).take k).getLast? = some (places (sg text) (sg pc))[k - 1] := by
            rw [List.getLast?_eq_getElem?, List.length_take, Nat.min_eq_left hkl, List.getElem?_take_of_lt (by omega), List.getElem?_eq_getElem hk2]
          rw [this]
          simp [asInts, List.getD_eq_getElem?_getD, hk2]
        rw [tb_succ, ← e9]
        exact IntsAre.append j3 (IntsAre.cons _ _ IntsAre.nil)
    · rintro m₁ nx h tk ⟨vs2, n2, rfl, j1, j2, j3⟩ F4 N4
      clear F3 N3
      change Fr s.heap L' h _ at F4
      change News s.heap L' h _ at N4
      k_steps
      rw [hir.length, List.length_reverse] at j3
      exact ret _ _ _ _ _ F4.keep (N4 _ (.tail _ (.head _))).2.2 (N4 _ (.tail _ (.head _))).1 j3
end Mine
end

-- T_split
theorem Mine.calm11 : True := by first | walk1 | exact trivial
set_option maxHeartbeats 8000000
section
open PySem.Calls PySem.Spec
namespace Mine
local macro_rules | `(tactic| walk_at "exec For Name Name cons nil") => `(tactic| refine Stop.to ?_)
local macro_rules | `(tactic| walk_at "pyIter ref") => `(tactic| refine Stop.to ?_)
local macro_rules | `(tactic| walk_at "call ref") => `(tactic| refine Stop.to ?_)
local macro_rules | `(tactic| walk_at "eval Name") => `(tactic| (k_here; k_dflt (refine' ld ?k1 ?k2 ?_; (case k1 => k_asm); (case k2 => assumption); k_whole)))
variable {w : World} {A : Around} {s : Shared} {loose : List Str} {mean : ExcName → Option Value} {mg mb : Str → Option Value} {Q : Value → Shared → Prop} {E : Value → Shared → Prop}
theorem split_ctr {l f : Addr} {vs : List Value} {ns : List Int} {P : Int → Bool} (hl : s.heap.IsList l vs.toArray) (hi : IntsAre vs ns) (hn : ns.length ≤ 1000)
   (hf : Says w s.heap f (· ∈ ns) P)
   (X : (hd.heap_39 w.params).In s.heap) (T : Top topProg loose mean mg mb s.heap)
   (hA : A.handled = none) (hroom : A.depth < 500) (hu : A.units < 100)
   (ret : ∀ Dt Dy Dn vy vn n1 n2 h' tk', s.heap.StaysIn h' → s.heap.get? Dt = none → s.heap.get? Dy = none → s.heap.get? Dn = none →
     h'.get? Dt = some { cls := .type "tuple", data := .seq #[.ref Dy, .ref Dn] } → h'.get? Dy = some (listOf (List.toArray vy) n1) → h'.get? Dn = some (listOf (List.toArray vn) n2) →
     IntsAre vy (ns.filter P) → IntsAre vn (ns.filter fun n => !P n) → Q (.ref Dt) { s with heap := h', toks := tk' }) :
   wpAny (model Challenge.rw_pe0135_01.row.prog w) A (call (.ref 53) [.ref l, .ref f]) Q E s := by
  obtain ⟨hand, dp, frs, gds, un⟩ := A
  obtain rfl : hand = none := hA
  w_top off
  revert X; k_fill; intro X
  have TR := topRead_of T
  refine enterP (binds := [("s", .ref l), ("predicate", .ref f)]) X T rfl (by rfl) (Nat.lt_of_lt_of_le hroom (by decide)) (BindsTo.of_eq rfl) (locs rfl) ?_
  intro L' h₁ F N
  k_steps
  refine Stop.mk ?_
  refine For_invV s.heap rfl rfl ?_
  k_steps
  rename Fr _ _ _ _ => F3
  rename News _ _ _ _ => N3
  refine Stop.mk ?_
  refine loopH (h₀ := s.heap) (fun i m nx => ∃ Dy Dn vy vn n1 n2, Dn ≠ Dy ∧ nx = [(Dn, listOf (List.toArray vn) n2), (Dy, listOf (List.toArray vy) n1)] ∧ m "predicate" = some (.ref f) ∧ m "yes" = some (.ref Dy) ∧ m "no" = some (.ref Dn) ∧
     IntsAre vy ((ns.take i).filter P) ∧ IntsAre vn ((ns.take i).filter fun n => !P n)) rfl hl F3 N3
    ⟨_, _, [], [], _, _, ?_, rfl, rfl, rfl, rfl, IntsAre.nil, IntsAre.nil⟩ ?_ ?_
  · rename (_ < _) => hlt
    exact Nat.ne_of_gt hlt
  · rintro i v m₁ nx h tk own hv hoff ⟨Dy, Dn, vy, vn, n1, n2, hne, rfl, j1, j2, j3, j4, j5⟩ F4 N4
    clear F3 N3
    change Fr s.heap L' h _ at F4
    change News s.heap L' h ((Dn, listOf (List.toArray vn) n2) :: (Dy, listOf (List.toArray vy) n1) :: own) at N4
    have hiv : i < vs.length := (List.getElem?_eq_some_iff.mp hv).1
    have hins : i < ns.length := by rw [← hi.length]; exact hiv
    obtain ⟨ty, hy⟩ := hi.get i _ (List.getElem?_eq_getElem hins)
    rw [hv] at hy
    obtain rfl := Option.some.inj hy
    clear hy
    have hmem : ns[i] ∈ ns := List.getElem_mem hins
    have htk : ns.take (i + 1) = ns.take i ++ [ns[i]] := List.take_succ_eq_append_getElem hins
    have hly : vy.length ≤ 1000 := by rw [j4.length]; exact Nat.le_trans (List.length_filter_le _ _) (by rw [List.length_take]; omega)
    have hln : vn.length ≤ 1000 := by rw [j5.length]; exact Nat.le_trans (List.length_filter_le _ _) (by rw [List.length_take]; omega)
    have hoy : ∀ p ∈ own, p.1 ≠ Dy := fun p hp => hoff p hp Dy (.tail _ (.head _))
    have hon : ∀ p ∈ own, p.1 ≠ Dn := fun p hp => hoff p hp Dn (.head _)
    generalize hx : ns[i] = x at *
    k_steps
    with_unfolding_all refine callWith_S hf.fn ?_
    k_steps
    · exact Fr.keep (by assumption)
    rename Fr _ _ _ _ => F5
    rename News _ _ _ _ => N5
    refine Stop.mk (hf.says _ _ _ _ _ _ rfl (by show dp + 1 < 600; have : dp < 500 := hroom; omega) (by show un + 3 < 500; have : un < 100 := hu; omega) F5.keep hmem fun g tk' st => ?_)
    have F6 := F5.keeps st
    have N6 := N5.keeps st
    clear F5 N5
    cases hp : P x
    all_goals k_steps
    · rename Fr _ _ _ _ => F7
      rename News _ _ _ _ => N7
      refine append_K (its := List.toArray vn) (n := n2) F7 N7 (.head (List.forall_mem_cons.mpr ⟨hne.symm, hon⟩)) ?_ (by rw [List.size_toArray, sizeLine_eq]; omega)
      intro h' F8 N8
      clear F7 N7
      k_steps
      rename Fr _ _ _ _ => F7
      rename News _ _ _ _ => N7
      rw [List.push_toArray] at N7
      refine InvEndG.intro F7 N7 ⟨Dy, Dn, vy, vn ++ [.int x ty], n1, n2 + 1, hne, rfl, j1, j2, j3, ?_, ?_⟩ (fun p hp b hb => ?_) (fun p hp => ?_) (fun p hp => .tail _ (.tail _ hp))
      · rw [htk, List.filter_append, List.filter_cons, hp]; simpa using j4
      · rw [htk, List.filter_append, List.filter_cons, hp]
        exact IntsAre.append j5 (IntsAre.cons _ _ IntsAre.nil)
      · rcases List.mem_cons.mp hb with rfl | hb
        · exact hon p hp
        · rw [List.mem_singleton.mp hb]; exact hoy p hp
      · rcases List.mem_cons.mp hp with rfl | hp
        · exact .head _
        · rw [List.mem_singleton.mp hp]; exact .tail _ (.head _)
    · rename Fr _ _ _ _ => F7
      rename News _ _ _ _ => N7
      rw [List.push_toArray] at N7
      refine InvEndG.intro F7 N7 ⟨Dy, Dn, vy ++ [.int x ty], vn, n1 + 1, n2, hne, rfl, j1, j2, j3, ?_, ?_⟩ (fun p hp b hb => ?_) (fun p hp => ?_) (fun p hp => .tail _ (.tail _ hp))
      · rw [htk, List.filter_append, List.filter_cons, hp]
        exact IntsAre.append j4 (IntsAre.cons _ _ IntsAre.nil)
      · rw [htk, List.filter_append, List.filter_cons, hp]; simpa using j5
      · rcases List.mem_cons.mp hb with rfl | hb
        · exact hon p hp
        · rw [List.mem_singleton.mp hb]; exact hoy p hp
      · rcases List.mem_cons.mp hp with rfl | hp
        · exact .head _
        · rw [List.mem_singleton.mp hp]; exact .tail _ (.head _)
  · rintro m₁ nx h tk ⟨Dy, Dn, vy, vn, n1, n2, hne, rfl, j1, j2, j3, j4, j5⟩ F4 N4
    clear F3 N3
    change Fr s.heap L' h _ at F4
    change News s.heap L' h _ at N4
    rw [hi.length, List.take_length] at j4 j5
    k_steps
    rename Fr _ _ _ _ => F5
    rename News _ _ _ _ => N5
    exact ret _ _ _ _ _ _ _ _ _ F5.keep (N5 _ (.head _)).2.2 (N5 _ (.tail _ (.tail _ (.head _)))).2.2 (N5 _ (.tail _ (.head _))).2.2 (N5 _ (.head _)).1 (N5 _ (.tail _ (.tail _ (.head _)))).1 (N5 _ (.tail _ (.head _))).1 j4 j5
end Mine
end

-- Lam
set_option maxHeartbeats 1000000
section
open PySem.Calls PySem.Spec
namespace Mine
def CodeIn (h₀ : Heap) (led : List (Addr × Obj)) (cv : Value) (q : Str) : Prop :=
  ∃ c oc vs t, cv = .ref c ∧ (h₀.get? c = some oc ∨ (c, oc) ∈ led) ∧ oc.data = .fields vs ∧ vs[1]? = some (.str q t)
theorem CodeIn.rec {h₀ h : Heap} {L : Addr} {m : Str → Option Value} {led : List (Addr × Obj)} {cv : Value} {q : Str} (x : CodeIn h₀ led cv q) (F : Fr h₀ L h m) (N : News h₀ L h led) : h.CodeRec cv q := by
  obtain ⟨c, oc, vs, t, e, ho, hd, hv⟩ := x
  refine ⟨c, oc, vs, t, e, ?_, hd, hv⟩
  rcases ho with ho | ho
  · exact F.keep _ _ ho
  · exact (N _ ho).1
theorem CodeIn.more {h₀ : Heap} {led led' : List (Addr × Obj)} {cv : Value} {q : Str} (x : CodeIn h₀ led cv q) (h : ∀ p ∈ led, p ∈ led') : CodeIn h₀ led' cv q :=
  let ⟨c, oc, vs, t, e, ho, r⟩ := x; ⟨c, oc, vs, t, e, ho.imp id (h _), r⟩
theorem among_app {pos : Pos} {a b : Int} {u v : Tok} {x cv : Value} : ∀ (l : List Value), TriplesOk l → codeAmong pos (l ++ [.int a u, .int b v, x]) = some cv → codeAmong pos l = some cv ∨ cv = x
  | [], _, h => by
    simp only [List.nil_append, codeAmong] at h
    split at h
    · exact .inr (Option.some.inj h).symm
    · cases h
  | .int _ _ :: .int _ _ :: _ :: rest, ok, h => by
    simp only [List.cons_append, codeAmong] at h ⊢
    split
    · rename_i hc
      rw [if_pos hc] at h
      exact .inl h
    · rename_i hc
      rw [if_neg hc] at h
      exact among_app rest ok h
theorem triples_app {a b : Int} {u v : Tok} {x : Value} : ∀ (l : List Value), TriplesOk l → TriplesOk (l ++ [.int a u, .int b v, x])
  | [], _ => trivial
  | .int _ _ :: .int _ _ :: _ :: rest, ok => triples_app rest ok
section
variable {M : Model} {A : Around} {E : Value → Shared → Prop} {s : Shared} {h₀ : Heap} {L a c P : Addr} {m mg mb : Str → Option Value} {cn : Str} {cs : Scope} {ccd : Value} {cl : List (Str × Addr)} {rest : List (Addr × Obj)}
  {p : Program} {loose : List Str} {mean : ExcName → Option Value} {name qual : Str} {params : Arguments} {body : Expr} {scope : Scope} {ps : Array Value} {pos : Pos} {firstLine : Nat} {clos : List (Str × Addr)}
theorem lam_any {Q : Value → Shared → Prop} (F : Fr h₀ L s.heap m) (N : News h₀ L s.heap ((P, tabObj ps) :: rest)) (hne : ∀ p ∈ rest, p.1 ≠ P) (T : Top p loose mean mg mb h₀) (C : CodeHd h₀ c P) (hcd : ccd = .ref c)
    (ok : TriplesOk ps.toList) (okc : ∀ pos cv, codeAmong pos ps.toList = some cv → CodeIn h₀ rest cv qual)
    (hcl : closureFor scope (envX cn cs L a ccd cl) = pure clos)
    (h : ∀ f c' ctv ps' new h' tk, Fr h₀ L h' m → News h₀ L h' ((P, tabObj ps') :: (f, kla_obj name qual params body scope clos ((mg "__name__").getD .none) c' ctv) :: (new ++ rest)) →
      TriplesOk ps'.toList → (∀ pos cv, codeAmong pos ps'.toList = some cv → CodeIn h₀ (new ++ rest) cv qual) → CodeIn h₀ (new ++ rest) (.ref c') qual →
      (∀ p ∈ (f, kla_obj name qual params body scope clos ((mg "__name__").getD .none) c' ctv) :: (new ++ rest), p.1 ≠ P) → (∀ p ∈ rest, p.1 < f) →
      (∀ pos cv, codeAmong pos ps'.toList = some cv → codeAmong pos ps.toList = some cv ∨ ∃ c oc, cv = .ref c ∧ (c, oc) ∈ new) → Q (.ref f) { s with heap := h', toks := tk }) :
    wpAny M A (makeFunction name qual params (.expr body) scope (envX cn cs L a ccd cl) [] [] [] pos firstLine) Q E s := by
  cases hc : codeAmong pos ps.toList with
  | none =>
    refine kla_nest F N T C hcd (.head hne) ok hc hcl ?_
    intro f c' oc vs t ctv h' tk F' N' d1 d2 l1 l2
    have hpc : P < c' := l1 _ (.head _)
    refine h f c' ctv (ps ++ #[rawInt pos.line, rawInt pos.col, .ref c']) [(c', oc)] h' tk F' (fun q hq => N' q ?_) ?_ ?_ ⟨c', oc, vs, t, rfl, .inr (.head _), d1, d2⟩ ?_ (fun q hq => Nat.lt_trans (l1 q (.tail _ hq)) l2) (fun pos' cv e => by
      rw [Array.toList_append] at e
      exact (among_app _ ok e).imp id fun e => ⟨c', oc, e, .head _⟩)
    · rcases List.mem_cons.mp hq with rfl | hq
      · exact .tail _ (.tail _ (.head _))
      · rcases List.mem_cons.mp hq with rfl | hq
        · exact .head _
        · rcases List.mem_cons.mp hq with rfl | hq
          · exact .tail _ (.head _)
          · exact .tail _ (.tail _ (.tail _ hq))
    · rw [Array.toList_append]
      exact triples_app _ ok
    · intro pos' cv e
      rw [Array.toList_append] at e
      rcases among_app _ ok e with e | e
      · exact (okc _ _ e).more fun q hq => .tail _ hq
      · subst e
        exact ⟨c', oc, vs, t, rfl, .inr (.head _), d1, d2⟩
    · intro q hq
      rcases List.mem_cons.mp hq with rfl | hq
      · exact Nat.ne_of_gt (Nat.lt_trans hpc l2)
      · rcases List.mem_cons.mp hq with rfl | hq
        · exact Nat.ne_of_gt hpc
        · exact hne q hq
  | some cv =>
    obtain ⟨c', oc, vs, t, rfl, ho, hd, hv⟩ := okc _ _ hc
    refine kla_hit F N T C hcd (.head _) ok hc hcl ?_
    intro f ctv h' tk F' N' l1
    refine h f c' ctv ps [] h' tk F' (fun q hq => N' q ?_) ok okc ⟨c', oc, vs, t, rfl, ho, hd, hv⟩ ?_ (fun q hq => l1 q (.tail _ hq)) (fun _ _ e => .inl e)
    · rcases List.mem_cons.mp hq with rfl | hq
      · exact .tail _ (.head _)
      · rcases List.mem_cons.mp hq with rfl | hq
        · exact .head _
        · exact .tail _ (.tail _ hq)
    · intro q hq
      rcases List.mem_cons.mp hq with rfl | hq
      · exact Nat.ne_of_gt (l1 _ (.head _))
      · exact hne q hq
end
section
variable {w : World} {A : Around} {s : Shared} {loose : List Str} {mean : ExcName → Option Value} {mg mb : Str → Option Value} {Q E : Value → Shared → Prop}
/-- a lambda is called -/
theorem lam_enter {g : Heap} {name qual : Str} {params : Arguments} {body : Expr} {scope : Scope} {cl : List (Str × Addr)} {pm ctv : Value} {c' f : Addr} {vals : List Value} {binds : List (Str × Value)}
    (T : Top topProg loose mean mg mb g) (G : g.StaysIn s.heap) (ho : s.heap.get? f = some (kla_obj name qual params body scope cl pm c' ctv)) (hcd : s.heap.CodeRec (.ref c') qual) (hroom : A.depth < recursionLimit)
    (hbind : bindArgs (kla_fn name qual params body scope cl pm (.ref c') ctv) ⟨vals, []⟩ = pure binds) (hloc : ∀ y ∈ binds, scope.names.lookup y.1 = some .local)
    (h : ∀ L' h₁, Fr s.heap L' h₁ (fun y => binds.reverse.lookup y) → News s.heap L' h₁ [] →
      wpAny (model Challenge.rw_pe0135_01.row.prog w) (A.deeper (envX qual scope L' f (.ref c') cl)) (eval body (envX qual scope L' f (.ref c') cl)) Q (fun _ _ => False) { s with heap := h₁, toks := s.toks + binds.length })
    (hco : scope.isCoroutine = false := by rfl) (hgen : scope.isGenerator = false := by rfl) (hk : scope.kind = .function := by rfl)
    (hcell : ∀ x ∈ scope.names, x.2 ≠ .cell := by decide) : wpAny (model Challenge.rw_pe0135_01.row.prog w) A (call (.ref f) vals) Q E s := by
  refine wpAny_call (kla_callFunE hroom ho rfl hco hgen rfl hcd ?_)
  rw [hbind]
  refine wpAny_pure (wpAny_newFunctionEnv hcell hloc (fun h₁ hns hsb => ⟨((T.nolimit).keeps G).fresh _ hsb, ?_⟩) hk)
  show codeAny _ _ (.expr body (envX qual scope s.heap.objs.size f (.ref c') cl)) _ _
  have hk₁ : ∀ b o, s.heap.get? b = some o → h₁.get? b = some o := fun b o e => hsb.extBut b o (Nat.ne_of_lt (Heap.lt_size e)) (Heap.get?_push_of_some _ e)
  exact kla_codeExpr (wpAny_mono (h s.heap.objs.size h₁ ⟨hns, hk₁, Nat.le_refl _⟩ News.nil) (fun _ _ y => y) fun _ _ y => y.elim)
end
end Mine
end

-- T_front
theorem Mine.calm12 : True := by first | walk1 | exact trivial
set_option maxHeartbeats 1500000
section
open PySem.Calls PySem.Spec
namespace Mine
open LCg LCt
local macro_rules | `(tactic| walk_at "call ref") => `(tactic| refine Stop.to ?_)
local macro_rules | `(tactic| walk_at "subscriptTail Name Slice ref ref") => `(tactic| refine Stop.to ?_)
local macro_rules | `(tactic| walk_at "compareOp NotEq ref ref") => `(tactic| refine Stop.to ?_)
local macro_rules | `(tactic| walk_at "eval Lambda") => `(tactic| refine Stop.to ?_)
variable {w : World} {A : Around} {s : Shared} {loose : List Str} {mean : ExcName → Option Value} {mg mb : Str → Option Value} {Q : Value → Shared → Prop} {E : Value → Shared → Prop}
theorem nmF {M : Model} {h₀ : Heap} {L a c : Addr} {m : Str → Option Value} {cn : Str} {cs : Scope} {ccd : Value} {cl : List (Str × Addr)} {x : Str} {pos : Pos} {v : Value} {o : Obj} (F : Fr h₀ L s.heap m) (hc : cl.lookup x = some c) (ho : h₀.get? c = some o) (hd : o.data = .cell (some v)) (h : Q v s)
    (hk : cs.kind = .function := by rfl) (hx : (envX cn cs L a ccd cl).kindOf x = some .free := by rfl) (hb : (x == ("__debug__" : Str)) = false := by decide) (hn : (x == ("__classdict__" : Str)) = false := by decide) :
    wpAny M A (eval (.Name x pos) (envX cn cs L a ccd cl)) Q E s := wpAny_Name (wpAny_loadName_free hk hx hc ⟨o, F.keep _ _ ho, hd⟩ h hn) hb
local macro_rules | `(tactic| walk_at "eval Name") => `(tactic| (k_here; k_dflt (refine' nmF ?k1 ?k2 ?k3 ?k4 ?_; (case k1 => k_asm); (case k2 => exact rfl); (case k3 => assumption); (case k4 => assumption); k_whole)))
theorem hide_fr {h h₁ : Heap} {L P : Addr} {m : Str → Option Value} (F : Fr h L h₁ m) : Fr (hideAll h [P]) L h₁ m := ⟨F.ns, fun b o e => F.keep b o (of_hideAll _ e), Nat.le_trans (Nat.le_of_eq (hideAll_size _ _)) F.above⟩
theorem hide_news {h h₁ : Heap} {L P : Addr} {m : Str → Option Value} {ot : Obj} {news : List (Addr × Obj)} (F : Fr h L h₁ m) (N : News h L h₁ news) (hP : h.get? P = some ot) : News (hideAll h [P]) L h₁ ((P, ot) :: news) := by
  intro p hp
  rcases List.mem_cons.mp hp with rfl | hp
  · exact ⟨F.keep _ _ hP, Nat.ne_of_lt (Nat.lt_of_lt_of_le (Heap.lt_size hP) F.above), hideAll_none _ (.head _)⟩
  · refine ⟨(N p hp).1, (N p hp).2.1, ?_⟩
    cases q : (hideAll h [P]).get? p.1 with
    | none => rfl
    | some o => have := of_hideAll _ q; rw [(N p hp).2.2] at this; cases this
theorem hide_stays {g h : Heap} {P : Addr} (G : g.StaysIn h) (hg : g.get? P = none) : g.StaysIn (hideAll h [P]) := fun b o e => hideAll_get _ (G b o e) fun q => by
  rw [List.mem_singleton.mp q, hg] at e; cases e
/-- what a call of a def with lambdas leaves in its table of codes -/
def CodesOf (h h' : Heap) (P : Addr) (q : Str) (tab₀ tab : Array Value) : Prop :=
  h'.get? P = some (tabObj tab) ∧ TriplesOk tab.toList ∧ (∀ b o, b ≠ P → h.get? b = some o → h'.get? b = some o) ∧
  ∀ pos cv, codeAmong pos tab.toList = some cv → codeAmong pos tab₀.toList = some cv ∨ ∃ c oc vs t, cv = .ref c ∧ h'.get? c = some oc ∧ h.get? c = none ∧ oc.data = .fields vs ∧ vs[1]? = some (.str q t)
theorem codesOf_end {h h' : Heap} {L P : Addr} {m : Str → Option Value} {q : Str} {tab₀ tab : Array Value} {rest : List (Addr × Obj)} (F : Fr (hideAll h [P]) L h' m) (N : News (hideAll h [P]) L h' ((P, tabObj tab) :: rest)) (hne : ∀ p ∈ rest, p.1 ≠ P)
    (ok : TriplesOk tab.toList) (okc : ∀ pos cv, codeAmong pos tab.toList = some cv → CodeIn (hideAll h [P]) rest cv q)
    (am : ∀ pos cv, codeAmong pos tab.toList = some cv → codeAmong pos tab₀.toList = some cv ∨ ∃ c oc, cv = .ref c ∧ (c, oc) ∈ rest) : CodesOf h h' P q tab₀ tab := by
  refine ⟨(N _ (.head _)).1, ok, fun b o hb e => F.keep b o (hideAll_get _ e fun q => hb (List.mem_singleton.mp q)), fun pos cv e => (am pos cv e).imp id ?_⟩
  rintro ⟨c₁, oc₁, e₁, hm⟩
  obtain ⟨c, oc, vs, t, rfl, ho, hd, hv⟩ := okc pos cv e
  obtain rfl : c = c₁ := by cases e₁; rfl
  have hn₁ := N _ (.tail _ hm)
  rcases ho with ho | ho
  · rw [hn₁.2.2] at ho; cases ho
  · have hc := hne _ ho
    have hn := N _ (.tail _ ho)
    refine ⟨c, oc, vs, t, rfl, hn.1, ?_, hd, hv⟩
    cases e : h.get? c with
    | none => rfl
    | some o =>
      have := hideAll_get [P] e fun q => hc (List.mem_singleton.mp q)
      rw [hn.2.2] at this; cases this
theorem filter_ge (n fin : Nat) (h : fin ≤ n) : (List.range n).filter (fun k => decide (fin ≤ k)) = (List.range n).drop fin := by
  have e : n = fin + (n - fin) := by omega
  rw [e, List.range_add, List.filter_append, List.drop_append_of_le_length (by simp), List.drop_of_length_le (by simp), List.nil_append]
  rw [List.filter_eq_nil_iff.mpr, List.nil_append, List.filter_eq_self.mpr]
  · intro a ha
    obtain ⟨k, _, rfl⟩ := List.mem_map.mp ha
    exact decide_eq_true (by omega)
  · intro a ha
    have := List.mem_range.mp ha
    simpa using this
theorem filter_lt (n fin : Nat) (h : fin ≤ n) : (List.range n).filter (fun k => !decide (fin ≤ k)) = (List.range n).take fin := by
  have e : n = fin + (n - fin) := by omega
  rw [e, List.range_add, List.filter_append, List.take_append_of_le_length (by simp), List.take_of_length_le (by simp)]
  rw [List.filter_eq_self.mpr, List.filter_eq_nil_iff.mpr, List.append_nil]
  · intro a ha
    obtain ⟨k, _, rfl⟩ := List.mem_map.mp ha
    simp
  · intro a ha
    have := List.mem_range.mp ha
    simpa using this
theorem asInts_filter (l : List Nat) (P : Int → Bool) : (asInts l).filter P = asInts (l.filter fun k => P (k : Int)) := by
  unfold asInts
  rw [List.filter_map]
  rfl
theorem asInts_drop (l : List Nat) (n : Nat) : (asInts l).drop n = asInts (l.drop n) := by unfold asInts; rw [List.map_drop]
theorem asInts_take (l : List Nat) (n : Nat) : (asInts l).take n = asInts (l.take n) := by unfold asInts; rw [List.map_take]
theorem getD_range {n i : Nat} (h : i < n) : (asInts (List.range n)).getD i 0 = (i : Int) := by
  unfold asInts
  rw [List.getD_eq_getElem?_getD, List.getElem?_map, List.getElem?_range h]; rfl
theorem front_ctr {g : Heap} {text : Str} {t1 ta te : Tok} {l : Addr} {vs : List Value} {ps : List Str} {ahead fin : Nat} {tab : Array Value} (hl : s.heap.IsList l vs.toArray) (hi : StrsAre vs ps)
   (h1 : text.length ≤ 500) (h2 : (ps.map (·.length)).sum + ps.length ≤ 300)
   (X : (hd.heap_39 w.params).In g) (T : Top topProg loose mean mg mb g) (G : g.StaysIn s.heap) (hg : g.get? 86 = none) (C : CodeHd g 90 86)
   (htab : s.heap.get? 86 = some (tabObj tab)) (ok : TriplesOk tab.toList) (okc : ∀ pos cv, codeAmong pos tab.toList = some cv → CodeIn (hideAll s.heap [86]) [] cv (Str.ofString "_law_front.<locals>.<lambda>"))
   (hin : (Builtin.Str.occurrences (patOf ps) (Str.ofString "...") 0 (patOf ps).length 1).isEmpty = false) (hws : Txt.split (patOf ps) (Str.ofString "...") = Str.empty :: (ps ++ [Str.empty])) (hpl : (patOf ps).length ≤ 1000)
   (hP : ∀ k : Nat, k ≤ text.length → emAll Str.empty ps Str.empty (Txt.slice text none (some (k : Int))) = decide (fin ≤ k)) (hfin : fin ≤ text.length + 1) (hah : ahead ≤ fin)
   (hA : A.handled = none) (hroom : A.depth < 490) (hu : A.units < 90)
   (ret : ∀ tab' h' tk', CodesOf s.heap h' 86 (Str.ofString "_law_front.<locals>.<lambda>") tab tab' → Q (.bool true) { s with heap := h', toks := tk' }) :
   wpAny (model Challenge.rw_pe0135_01.row.prog w) A (call (.ref 91) [.str text t1, .ref l, .int ahead ta, .int fin te]) Q E s := by
  obtain ⟨hand, dp, frs, gds, un⟩ := A
  obtain rfl : hand = none := hA
  w_top off
  revert X; k_fill; intro X
  refine enterC (binds := [("text", .str text t1), ("pieces", .ref l), ("ahead", .int ahead ta), ("end", .int fin te)]) (X.keeps G) (T.keeps G) rfl (by rfl) (Nat.lt_of_lt_of_le hroom (by decide)) (BindsTo.of_eq rfl) rfl (by decide) ?_
  intro L' h₁ tk cells F0 N0 Cs
  obtain ⟨o1, o2, e, d1, d2⟩ := CellsAre.two Cs
  subst e
  clear Cs
  have G2 := hide_stays G hg
  have F := hide_fr (P := 86) F0
  have N := hide_news F0 N0 htab
  have hne0 : ∀ p ∈ [(L' + 1 + 1, o1), (L' + 1, o2)], p.1 ≠ 86 := by
    have : 86 < L' := Nat.lt_of_lt_of_le (Heap.lt_size htab) F0.above
    intro p hp
    rcases List.mem_cons.mp hp with rfl | hp
    · exact Nat.ne_of_gt (Nat.lt_succ_of_lt (Nat.lt_succ_of_lt this))
    · rw [List.mem_singleton.mp hp]; exact Nat.ne_of_gt (Nat.lt_succ_of_lt this)
  have hne0' : ∀ {oa ob : Obj}, ∀ p ∈ [(L' + 1 + 1, oa), (L' + 1, ob)], p.1 ≠ 86 := fun {oa ob} p hp => by
    rcases List.mem_cons.mp hp with rfl | hp
    · exact hne0 (L' + 1 + 1, o1) (.head _)
    · rw [List.mem_singleton.mp hp]; exact hne0 (L' + 1, o2) (.tail _ (.head _))
  have X2 : (hd.heap_39 w.params).In (hideAll s.heap [86]) := X.keeps G2
  have T2 := T.keeps G2
  have C2 := C.keeps G2
  have TR := topRead_of T2
  have hl2 : (hideAll s.heap [86]).IsList l vs.toArray := by
    obtain ⟨o, e, hc, r⟩ := hl
    refine ⟨o, hideAll_get _ e fun q => ?_, hc, r⟩
    rw [List.mem_singleton.mp q, htab] at e
    cases e; cases hc
  change o1.data = .cell none at d1
  change o2.data = .cell (some (.str text t1)) at d2
  clear F0 N0
  k_steps
  rename Fr _ _ _ _ => F2
  rename News _ _ _ _ => N2
  refine Stop.mk (pat_ctr (Fr.lst F2 hl2) hi rfl (by omega) (X2.keeps F2.keep) (T2.keeps F2.keep) (by show dp + 1 < 499; have : dp < 490 := hroom; omega) ?_)
  intro tp h3 tk3 st3
  have F3 := F2.keeps st3
  have N3 := N2.keeps st3
  clear F2 N2
  k_steps
  rename_i Df vf cf h5 tk5 l5 hI h6 F6 N6
  rename (Obj.data _ = Data.cell (some (Value.str (patOf _) _))) => dpat
  rename Obj => op
  refine Stop.mk (kla_eval rfl ?_)
  have hneL : ∀ p ∈ [(86, tabObj tab)], p.1 < Df := fun p hp => l5 p (List.mem_append_left _ hp)
  have N6' : News (hideAll s.heap [86]) L' h6 ((86, tabObj tab) :: [(Df, listOf (List.toArray vf) cf), (L' + 1 + 1, op), (L' + 1, o2)]) := fun p hp => N6 p (by
    rcases List.mem_cons.mp hp with rfl | hp
    · exact .tail _ (.head _)
    · rcases List.mem_cons.mp hp with rfl | hp
      · exact .head _
      · exact .tail _ (.tail _ hp))
  with_unfolding_all refine lam_any (P := 86) (c := 90) (ps := tab) (rest := [(Df, listOf (List.toArray vf) cf), (L' + 1 + 1, op), (L' + 1, o2)]) F6 N6' ?m2 T2 C2 rfl ok (fun pos cv e => (okc pos cv e).more fun _ h => nomatch h) rfl ?_
  case m2 =>
    intro p hp
    rcases List.mem_cons.mp hp with rfl | hp
    · exact Nat.ne_of_gt (hneL _ (.head _))
    · exact hne0' p hp
  intro f1 c1 ctv1 ps1 new1 h7 tk7 F7 N7 ok1 okc1 ci1 ne1 lt1 am1
  clear F6 N6 N6'
  k_steps
  rename Fr _ _ _ _ => F8
  rename News _ _ _ _ => N8
  rw [show ((text.length : Int) + 1 - 0).toNat = text.length + 1 by omega, rangeKs_zero] at hI
  have sy1 : Says w h7 f1 (· ∈ asInts (List.range (text.length + 1))) (fun n => emAll Str.empty ps Str.empty (Txt.slice text none (some n))) := by
    refine ⟨⟨_, _, _, _, (N8 _ (.tail _ (.head _))).1⟩, fun A' s' n tn Q' E' hA' hd' hu' st' hn' k' => ?_⟩
    obtain ⟨hand', dp', frs', gds', un'⟩ := A'
    obtain rfl : hand' = none := hA'
    have stg : (hideAll s.heap [86]).StaysIn s'.heap := fun b o e => st' b o (F8.keep b o e)
    have hcp : s'.heap.get? (L' + 1 + 1) = some op := st' _ _ (N8 _ (.tail _ (.tail _ (List.mem_append_right _ (.tail _ (.head _)))))).1
    have hct : s'.heap.get? (L' + 1) = some o2 := st' _ _ (N8 _ (.tail _ (.tail _ (List.mem_append_right _ (.tail _ (.tail _ (.head _))))))).1
    have X' := X2.keeps stg
    have TR' := topRead_of (T2.keeps stg)
    refine lam_enter T2 stg (st' _ _ (N8 _ (.tail _ (.head _))).1) ((ci1.rec F8 fun p hp => N8 p (.tail _ (.tail _ hp))).keeps st') (Nat.lt_of_lt_of_le hd' (by decide)) (binds := [(Str.ofString "n", .int n tn)]) rfl (locs rfl) ?_
    intro L2 h2 F9 N9
    clear F8 N8
    k_steps
    rename Fr _ _ _ _ => F10
    refine Stop.mk (em_ctr _ _ _ _ (X'.keeps F10.keep) ((T2.keeps stg).keeps F10.keep) rfl (by show dp' + 1 < 900; have : dp' < 600 := hd'; omega) hpl (Nat.le_trans (Txt.slice_le _ _ _) (by omega)) Str.empty Str.empty ps (by omega) hin hws ?_)
    intro h11 tk11 st11
    exact k' _ _ fun b o e => st11 b o (F10.keep b o e)
  refine Stop.mk (split_ctr (News.isList N8 (.tail _ (.tail _ (List.mem_append_right _ (.head _))))) hI (by rw [asInts_length, List.length_range]; omega) sy1 (X2.keeps F8.keep) (T2.keeps F8.keep) rfl (by show dp + 1 < 500; have : dp < 490 := hroom; omega) (by show un + 3 < 100; have : un < 90 := hu; omega) ?_)
  intro Dt Dy Dn vy vn n1 n2 h9 tk9 st9 ft fy fn gt gy gn hIy hIn
  rw [asInts_filter, List.filter_congr (fun k hk => hP k (by have := List.mem_range.mp hk; omega)), filter_ge _ _ hfin, ← asInts_drop] at hIy
  rw [asInts_filter, List.filter_congr (fun k hk => congrArg not (hP k (by have := List.mem_range.mp hk; omega))), filter_lt _ _ hfin, ← asInts_take] at hIn
  have F9 := F8.keeps st9
  have N9 : News (hideAll s.heap [86]) L' h9 ((Dt, { cls := .type "tuple", data := .seq #[.ref Dy, .ref Dn] }) :: (Dy, listOf (List.toArray vy) n1) :: (Dn, listOf (List.toArray vn) n2) :: (Df, listOf (List.toArray vf) cf) :: (86, tabObj ps1) :: (new1 ++ [(L' + 1 + 1, op), (L' + 1, o2)])) := by
    intro p hp
    have N8' := N8.keeps st9
    rcases List.mem_cons.mp hp with rfl | hp
    · exact news_cons F8 N8 st9 ft gt _ (.head _)
    rcases List.mem_cons.mp hp with rfl | hp
    · exact news_cons F8 N8 st9 fy gy _ (.head _)
    rcases List.mem_cons.mp hp with rfl | hp
    · exact news_cons F8 N8 st9 fn gn _ (.head _)
    rcases List.mem_cons.mp hp with rfl | hp
    · exact N8' _ (.tail _ (.tail _ (List.mem_append_right _ (.head _))))
    rcases List.mem_cons.mp hp with rfl | hp
    · exact N8' _ (.head _)
    rcases List.mem_append.mp hp with hp | hp
    · exact N8' _ (.tail _ (.tail _ (List.mem_append_left _ hp)))
    · exact N8' _ (.tail _ (.tail _ (List.mem_append_right _ (.tail _ hp))))
  have ci9 := ci1
  clear F8 N8
  have hNl : (asInts (List.range (text.length + 1))).length = text.length + 1 := by rw [asInts_length, List.length_range]
  k_steps
  rename Fr _ _ _ _ => F10
  rename News _ _ _ _ => N10
  refine Stop.mk ?_
  with_unfolding_all refine kmk_slice_ints (lo := some (fin : Int)) (hi := none) F10 N10 (News.isList N10 (.tail _ (.tail _ (.tail _ (.head _))))) (.int _ _) .none hI (kmk_from hI (by omega)) rfl ?_ (by with_unfolding_all rfl) (by intro _; with_unfolding_all rfl) (by rw [List.size_toArray, hI.length, hNl, sizeLine_eq]; omega)
  intro Da va h11 F11 N11 la hIa _ _
  clear F10 N10
  k_steps
  rename Fr _ _ _ _ => F12
  rename News _ _ _ _ => N12
  refine Stop.mk ?_
  with_unfolding_all refine kmk_slice_ints (lo := none) (hi := some (fin : Int)) F12 N12 (News.isList N12 (.tail _ (.tail _ (.tail _ (.tail _ (.head _)))))) .none (.int _ _) hI (kmk_upto hI (by omega)) rfl ?_ (by with_unfolding_all rfl) (by intro _; with_unfolding_all rfl) (by rw [List.size_toArray, hI.length, hNl, sizeLine_eq]; omega)
  intro Db vb h13 F13 N13 lb hIb _ _
  clear F12 N12
  k_steps
  rename_i Dz h14 F14 N14 lz
  refine Stop.mk (ne_pairs (N14 _ (.tail _ (.tail _ (.tail _ (.head _))))).1 (N14 _ (.head _)).1 (News.isList N14 (.tail _ (.tail _ (.tail _ (.tail _ (.head _)))))) (News.isList N14 (.tail _ (.tail _ (.tail _ (.tail _ (.tail _ (.head _)))))))
    (News.isList N14 (.tail _ (.tail _ (.head _)))) (News.isList N14 (.tail _ (.head _))) hIy hIn hIa hIb (by show un + 3 + 64 < 9900; have : un < 90 := hu; omega) ?_)
  rw [Int.toNat_natCast, decide_eq_true rfl, decide_eq_true rfl]
  k_steps
  have N14' : News (hideAll s.heap [86]) L' h14 ((86, tabObj ps1) :: ((Df, listOf (List.toArray vf) cf) :: (new1 ++ [(L' + 1 + 1, op), (L' + 1, o2)]))) := fun p hp => N14 p (by
    rcases List.mem_cons.mp hp with rfl | hp
    · exact .tail _ (.tail _ (.tail _ (.tail _ (.tail _ (.tail _ (.tail _ (.head _)))))))
    rcases List.mem_cons.mp hp with rfl | hp
    · exact .tail _ (.tail _ (.tail _ (.tail _ (.tail _ (.tail _ (.head _))))))
    · exact .tail _ (.tail _ (.tail _ (.tail _ (.tail _ (.tail _ (.tail _ (.tail _ hp))))))))
  have sub1 : ∀ p ∈ new1 ++ [(Df, listOf (List.toArray vf) cf), (L' + 1 + 1, op), (L' + 1, o2)], p ∈ (Df, listOf (List.toArray vf) cf) :: (new1 ++ [(L' + 1 + 1, op), (L' + 1, o2)]) := fun p hp => by
    rcases List.mem_append.mp hp with hp | hp
    · exact .tail _ (List.mem_append_left _ hp)
    rcases List.mem_cons.mp hp with rfl | hp
    · exact .head _
    · exact .tail _ (List.mem_append_right _ hp)
  have sub2 : ∀ p ∈ (Df, listOf (List.toArray vf) cf) :: (new1 ++ [(L' + 1 + 1, op), (L' + 1, o2)]), p.1 ≠ 86 := fun p hp => ne1 p (.tail _ (by
    rcases List.mem_cons.mp hp with rfl | hp
    · exact List.mem_append_right _ (.head _)
    rcases List.mem_append.mp hp with hp | hp
    · exact List.mem_append_left _ hp
    · exact List.mem_append_right _ (.tail _ hp)))
  refine Stop.mk (kla_eval rfl ?_)
  with_unfolding_all refine lam_any (P := 86) (c := 90) (ps := ps1) (rest := (Df, listOf (List.toArray vf) cf) :: (new1 ++ [(L' + 1 + 1, op), (L' + 1, o2)])) F14 N14' sub2 T2 C2 rfl ok1 (fun pos cv e => (okc1 pos cv e).more sub1) rfl ?_
  intro f2 c2 ctv2 ps2 new2 h16 tk16 F16 N16 ok2 okc2 ci2 ne2 lt2 am2
  clear F14 N14 N14'
  k_steps
  rename Fr _ _ _ _ => F17
  rename News _ _ _ _ => N17
  have sy2 : Says w h16 f2 (· ∈ asInts (List.range (text.length + 1))) (fun n => emAll Str.empty ps Str.empty (Txt.slice text none (some n))) := by
    refine ⟨⟨_, _, _, _, (N17 _ (.tail _ (.head _))).1⟩, fun A' s' n tn Q' E' hA' hd' hu' st' hn' k' => ?_⟩
    obtain ⟨hand', dp', frs', gds', un'⟩ := A'
    obtain rfl : hand' = none := hA'
    have stg : (hideAll s.heap [86]).StaysIn s'.heap := fun b o e => st' b o (F17.keep b o e)
    have hcp : s'.heap.get? (L' + 1 + 1) = some op := st' _ _ (N17 _ (.tail _ (.tail _ (List.mem_append_right _ (.tail _ (List.mem_append_right _ (.head _))))))).1
    have hct : s'.heap.get? (L' + 1) = some o2 := st' _ _ (N17 _ (.tail _ (.tail _ (List.mem_append_right _ (.tail _ (List.mem_append_right _ (.tail _ (.head _)))))))).1
    have X' := X2.keeps stg
    have TR' := topRead_of (T2.keeps stg)
    refine lam_enter T2 stg (st' _ _ (N17 _ (.tail _ (.head _))).1) ((ci2.rec F17 fun p hp => N17 p (.tail _ (.tail _ hp))).keeps st') (Nat.lt_of_lt_of_le hd' (by decide)) (binds := [(Str.ofString "n", .int n tn)]) rfl (locs rfl) ?_
    intro L2 h2 F9 N9
    clear F17 N17
    k_steps
    rename Fr _ _ _ _ => F10
    refine Stop.mk (em_ctr _ _ _ _ (X'.keeps F10.keep) ((T2.keeps stg).keeps F10.keep) rfl (by show dp' + 1 < 900; have : dp' < 600 := hd'; omega) hpl (Nat.le_trans (Txt.slice_le _ _ _) (by omega)) Str.empty Str.empty ps (by omega) hin hws ?_)
    intro h11 tk11 st11
    exact k' _ _ fun b o e => st11 b o (F10.keep b o e)
  refine Stop.mk ?_
  with_unfolding_all refine blk_ctr (l := Df) (f := f2) (lo₀ := ahead) (t := ta) (P := fun n => emAll Str.empty ps Str.empty (Txt.slice text none (some n))) (News.isList N17 (.tail _ (.tail _ (List.mem_append_right _ (.head _))))) hI (by rw [hNl]; omega) sy2 ?mono (X2.keeps F17.keep) (T2.keeps F17.keep) rfl (by show dp + 1 < 500; have : dp < 490 := hroom; omega) (by show un + 3 < 100; have : un < 90 := hu; omega) ?_
  case mono =>
    intro i j hij hj hi'
    rw [asInts_length, List.length_range] at hj
    rw [getD_range (by omega), hP _ (by omega)] at hi'
    rw [getD_range hj, hP _ (by omega)]
    have := of_decide_eq_true hi'
    exact decide_eq_true (by omega)
  rintro k tv h18 tk18 ⟨q1, q2, q3, q4⟩ st18
  rw [asInts_length, List.length_range] at q2
  have hk : k = fin := by
    rcases Nat.lt_trichotomy k fin with h | h | h
    · have h3 := q4 k (Nat.le_refl _) (by rw [asInts_length, List.length_range]; omega)
      rw [getD_range (by omega), hP _ (by omega)] at h3
      have := of_decide_eq_true h3
      omega
    · exact h
    · have h3 := q3 fin (by omega) h (by rw [asInts_length, List.length_range]; omega)
      rw [getD_range (by omega), hP _ (by omega)] at h3
      have := of_decide_eq_false h3
      omega
  subst hk
  have F18 := F17.keeps st18
  have N18 := N17.keeps st18
  have fine := codesOf_end F18 (News.keeps N17 st18) (fun p hp => ne2 p hp) ok2 (fun pos cv e => (okc2 pos cv e).more fun p hp => .tail _ hp) (fun pos cv e => (am2 pos cv e).elim (fun e1 => (am1 pos cv e1).imp id fun ⟨c, oc, e, hm⟩ => ⟨c, oc, e, .tail _ (List.mem_append_right _ (.tail _ (List.mem_append_left _ hm)))⟩) fun ⟨c, oc, e, hm⟩ => .inr ⟨c, oc, e, .tail _ (List.mem_append_left _ hm)⟩)
  clear F17 N17
  k_steps
  rw [beq_self_eq_true]
  exact ret ps2 _ _ fine
end Mine
end

-- T_tail
theorem Mine.calm13 : True := by first | walk1 | exact trivial
set_option maxHeartbeats 1500000
section
open PySem.Calls PySem.Spec
namespace Mine
open LCg LCt
local macro_rules | `(tactic| walk_at "call ref") => `(tactic| refine Stop.to ?_)
local macro_rules | `(tactic| walk_at "subscriptTail Name Slice ref ref") => `(tactic| refine Stop.to ?_)
local macro_rules | `(tactic| walk_at "compareOp NotEq ref ref") => `(tactic| refine Stop.to ?_)
local macro_rules | `(tactic| walk_at "eval Lambda") => `(tactic| refine Stop.to ?_)
variable {w : World} {A : Around} {s : Shared} {loose : List Str} {mean : ExcName → Option Value} {mg mb : Str → Option Value} {Q : Value → Shared → Prop} {E : Value → Shared → Prop}
local macro_rules | `(tactic| walk_at "eval Name") => `(tactic| (k_here; k_dflt (refine' nmF ?k1 ?k2 ?k3 ?k4 ?_; (case k1 => k_asm); (case k2 => exact rfl); (case k3 => assumption); (case k4 => assumption); k_whole)))
theorem tail_ctr {g : Heap} {text : Str} {t1 te : Tok} {l : Addr} {vs : List Value} {ps : List Str} {begin : Int} {fin : Nat} {tab : Array Value} (hl : s.heap.IsList l vs.toArray) (hi : StrsAre vs ps)
   (h1 : text.length ≤ 500) (h2 : (ps.map (·.length)).sum + ps.length ≤ 300)
   (X : (hd.heap_39 w.params).In g) (T : Top topProg loose mean mg mb g) (G : g.StaysIn s.heap) (hg : g.get? 93 = none) (C : CodeHd g 97 93)
   (htab : s.heap.get? 93 = some (tabObj tab)) (ok : TriplesOk tab.toList) (okc : ∀ pos cv, codeAmong pos tab.toList = some cv → CodeIn (hideAll s.heap [93]) [] cv (Str.ofString "_law_tail.<locals>.<lambda>"))
   (hin : (Builtin.Str.occurrences (patOf ps) (Str.ofString "...") 0 (patOf ps).length 1).isEmpty = false) (hws : Txt.split (patOf ps) (Str.ofString "...") = Str.empty :: (ps ++ [Str.empty])) (hpl : (patOf ps).length ≤ 1000)
   (hP : ∀ k : Nat, k ≤ text.length → emAll Str.empty ps Str.empty (Txt.slice text (some (k : Int)) none) = !decide (fin ≤ k)) (hfin : fin ≤ text.length + 1) (hbe : begin + 1 = (fin : Int))
   (hA : A.handled = none) (hroom : A.depth < 490) (hu : A.units < 90)
   (ret : ∀ tab' h' tk', CodesOf s.heap h' 93 (Str.ofString "_law_tail.<locals>.<lambda>") tab tab' → Q (.bool true) { s with heap := h', toks := tk' }) :
   wpAny (model Challenge.rw_pe0135_01.row.prog w) A (call (.ref 98) [.str text t1, .ref l, .int begin te]) Q E s := by
  obtain ⟨hand, dp, frs, gds, un⟩ := A
  obtain rfl : hand = none := hA
  w_top off
  revert X; k_fill; intro X
  refine enterC (binds := [("text", .str text t1), ("pieces", .ref l), ("begin", .int begin te)]) (X.keeps G) (T.keeps G) rfl (by rfl) (Nat.lt_of_lt_of_le hroom (by decide)) (BindsTo.of_eq rfl) rfl (by decide) ?_
  intro L' h₁ tk cells F0 N0 Cs
  obtain ⟨o1, o2, e, d1, d2⟩ := CellsAre.two Cs
  subst e
  clear Cs
  have G2 := hide_stays G hg
  have F := hide_fr (P := 93) F0
  have N := hide_news F0 N0 htab
  have hne0 : ∀ p ∈ [(L' + 1 + 1, o1), (L' + 1, o2)], p.1 ≠ 93 := by
    have : 93 < L' := Nat.lt_of_lt_of_le (Heap.lt_size htab) F0.above
    intro p hp
    rcases List.mem_cons.mp hp with rfl | hp
    · exact Nat.ne_of_gt (Nat.lt_succ_of_lt (Nat.lt_succ_of_lt this))
    · rw [List.mem_singleton.mp hp]; exact Nat.ne_of_gt (Nat.lt_succ_of_lt this)
  have hne0' : ∀ {oa ob : Obj}, ∀ p ∈ [(L' + 1 + 1, oa), (L' + 1, ob)], p.1 ≠ 93 := fun {oa ob} p hp => by
    rcases List.mem_cons.mp hp with rfl | hp
    · exact hne0 (L' + 1 + 1, o1) (.head _)
    · rw [List.mem_singleton.mp hp]; exact hne0 (L' + 1, o2) (.tail _ (.head _))
  have X2 : (hd.heap_39 w.params).In (hideAll s.heap [93]) := X.keeps G2
  have T2 := T.keeps G2
  have C2 := C.keeps G2
  have TR := topRead_of T2
  have hl2 : (hideAll s.heap [93]).IsList l vs.toArray := by
    obtain ⟨o, e, hc, r⟩ := hl
    refine ⟨o, hideAll_get _ e fun q => ?_, hc, r⟩
    rw [List.mem_singleton.mp q, htab] at e
    cases e; cases hc
  change o1.data = .cell none at d1
  change o2.data = .cell (some (.str text t1)) at d2
  clear F0 N0
  k_steps
  rename Fr _ _ _ _ => F2
  rename News _ _ _ _ => N2
  refine Stop.mk (pat_ctr (Fr.lst F2 hl2) hi rfl (by omega) (X2.keeps F2.keep) (T2.keeps F2.keep) (by show dp + 1 < 499; have : dp < 490 := hroom; omega) ?_)
  intro tp h3 tk3 st3
  have F3 := F2.keeps st3
  have N3 := N2.keeps st3
  clear F2 N2
  k_steps
  rename_i Df vf cf h5 tk5 l5 hI h6 F6 N6
  rename (Obj.data _ = Data.cell (some (Value.str (patOf _) _))) => dpat
  rename Obj => op
  refine Stop.mk (kla_eval rfl ?_)
  have hneL : ∀ p ∈ [(93, tabObj tab)], p.1 < Df := fun p hp => l5 p (List.mem_append_left _ hp)
  have N6' : News (hideAll s.heap [93]) L' h6 ((93, tabObj tab) :: [(Df, listOf (List.toArray vf) cf), (L' + 1 + 1, op), (L' + 1, o2)]) := fun p hp => N6 p (by
    rcases List.mem_cons.mp hp with rfl | hp
    · exact .tail _ (.head _)
    · rcases List.mem_cons.mp hp with rfl | hp
      · exact .head _
      · exact .tail _ (.tail _ hp))
  with_unfolding_all refine lam_any (P := 93) (c := 97) (ps := tab) (rest := [(Df, listOf (List.toArray vf) cf), (L' + 1 + 1, op), (L' + 1, o2)]) F6 N6' ?m2 T2 C2 rfl ok (fun pos cv e => (okc pos cv e).more fun _ h => nomatch h) rfl ?_
  case m2 =>
    intro p hp
    rcases List.mem_cons.mp hp with rfl | hp
    · exact Nat.ne_of_gt (hneL _ (.head _))
    · exact hne0' p hp
  intro f1 c1 ctv1 ps1 new1 h7 tk7 F7 N7 ok1 okc1 ci1 ne1 lt1 am1
  clear F6 N6 N6'
  k_steps
  rename Fr _ _ _ _ => F8
  rename News _ _ _ _ => N8
  rw [show ((text.length : Int) + 1 - 0).toNat = text.length + 1 by omega, rangeKs_zero] at hI
  have sy1 : Says w h7 f1 (· ∈ asInts (List.range (text.length + 1))) (fun n => emAll Str.empty ps Str.empty (Txt.slice text (some n) none)) := by
    refine ⟨⟨_, _, _, _, (N8 _ (.tail _ (.head _))).1⟩, fun A' s' n tn Q' E' hA' hd' hu' st' hn' k' => ?_⟩
    obtain ⟨hand', dp', frs', gds', un'⟩ := A'
    obtain rfl : hand' = none := hA'
    have stg : (hideAll s.heap [93]).StaysIn s'.heap := fun b o e => st' b o (F8.keep b o e)
    have hcp : s'.heap.get? (L' + 1 + 1) = some op := st' _ _ (N8 _ (.tail _ (.tail _ (List.mem_append_right _ (.tail _ (.head _)))))).1
    have hct : s'.heap.get? (L' + 1) = some o2 := st' _ _ (N8 _ (.tail _ (.tail _ (List.mem_append_right _ (.tail _ (.tail _ (.head _))))))).1
    have X' := X2.keeps stg
    have TR' := topRead_of (T2.keeps stg)
    refine lam_enter T2 stg (st' _ _ (N8 _ (.tail _ (.head _))).1) ((ci1.rec F8 fun p hp => N8 p (.tail _ (.tail _ hp))).keeps st') (Nat.lt_of_lt_of_le hd' (by decide)) (binds := [(Str.ofString "n", .int n tn)]) rfl (locs rfl) ?_
    intro L2 h2 F9 N9
    clear F8 N8
    k_steps
    rename Fr _ _ _ _ => F10
    refine Stop.mk (em_ctr _ _ _ _ (X'.keeps F10.keep) ((T2.keeps stg).keeps F10.keep) rfl (by show dp' + 1 < 900; have : dp' < 600 := hd'; omega) hpl (Nat.le_trans (Txt.slice_le _ _ _) (by omega)) Str.empty Str.empty ps (by omega) hin hws ?_)
    intro h11 tk11 st11
    exact k' _ _ fun b o e => st11 b o (F10.keep b o e)
  refine Stop.mk (split_ctr (News.isList N8 (.tail _ (.tail _ (List.mem_append_right _ (.head _))))) hI (by rw [asInts_length, List.length_range]; omega) sy1 (X2.keeps F8.keep) (T2.keeps F8.keep) rfl (by show dp + 1 < 500; have : dp < 490 := hroom; omega) (by show un + 3 < 100; have : un < 90 := hu; omega) ?_)
  intro Dt Dy Dn vy vn n1 n2 h9 tk9 st9 ft fy fn gt gy gn hIy hIn
  rw [asInts_filter, List.filter_congr (fun k hk => hP k (by have := List.mem_range.mp hk; omega)), filter_lt _ _ hfin, ← asInts_take] at hIy
  rw [asInts_filter, List.filter_congr (fun k hk => (congrArg not (hP k (by have := List.mem_range.mp hk; omega))).trans (Bool.not_not _)), filter_ge _ _ hfin, ← asInts_drop] at hIn
  have F9 := F8.keeps st9
  have N9 : News (hideAll s.heap [93]) L' h9 ((Dt, { cls := .type "tuple", data := .seq #[.ref Dy, .ref Dn] }) :: (Dy, listOf (List.toArray vy) n1) :: (Dn, listOf (List.toArray vn) n2) :: (Df, listOf (List.toArray vf) cf) :: (93, tabObj ps1) :: (new1 ++ [(L' + 1 + 1, op), (L' + 1, o2)])) := by
    intro p hp
    have N8' := N8.keeps st9
    rcases List.mem_cons.mp hp with rfl | hp
    · exact news_cons F8 N8 st9 ft gt _ (.head _)
    rcases List.mem_cons.mp hp with rfl | hp
    · exact news_cons F8 N8 st9 fy gy _ (.head _)
    rcases List.mem_cons.mp hp with rfl | hp
    · exact news_cons F8 N8 st9 fn gn _ (.head _)
    rcases List.mem_cons.mp hp with rfl | hp
    · exact N8' _ (.tail _ (.tail _ (List.mem_append_right _ (.head _))))
    rcases List.mem_cons.mp hp with rfl | hp
    · exact N8' _ (.head _)
    rcases List.mem_append.mp hp with hp | hp
    · exact N8' _ (.tail _ (.tail _ (List.mem_append_left _ hp)))
    · exact N8' _ (.tail _ (.tail _ (List.mem_append_right _ (.tail _ hp))))
  have ci9 := ci1
  clear F8 N8
  have hNl : (asInts (List.range (text.length + 1))).length = text.length + 1 := by rw [asInts_length, List.length_range]
  k_steps
  rename Fr _ _ _ _ => F10
  rename News _ _ _ _ => N10
  refine Stop.mk ?_
  with_unfolding_all refine kmk_slice_ints (lo := none) (hi := some (begin + 1)) F10 N10 (News.isList N10 (.tail _ (.tail _ (.tail _ (.head _))))) .none (.int _ _) hI (kmk_upto hI (by omega)) rfl ?_ (by with_unfolding_all rfl) (by intro _; with_unfolding_all rfl) (by rw [List.size_toArray, hI.length, hNl, sizeLine_eq]; omega)
  intro Da va h11 F11 N11 la hIa _ _
  clear F10 N10
  k_steps
  rename Fr _ _ _ _ => F12
  rename News _ _ _ _ => N12
  refine Stop.mk ?_
  with_unfolding_all refine kmk_slice_ints (lo := some (begin + 1)) (hi := none) F12 N12 (News.isList N12 (.tail _ (.tail _ (.tail _ (.tail _ (.head _)))))) (.int _ _) .none hI (kmk_from hI (by omega)) rfl ?_ (by with_unfolding_all rfl) (by intro _; with_unfolding_all rfl) (by rw [List.size_toArray, hI.length, hNl, sizeLine_eq]; omega)
  intro Db vb h13 F13 N13 lb hIb _ _
  clear F12 N12
  k_steps
  rename_i Dz h14 F14 N14 lz
  refine Stop.mk (ne_pairs (N14 _ (.tail _ (.tail _ (.tail _ (.head _))))).1 (N14 _ (.head _)).1 (News.isList N14 (.tail _ (.tail _ (.tail _ (.tail _ (.head _)))))) (News.isList N14 (.tail _ (.tail _ (.tail _ (.tail _ (.tail _ (.head _)))))))
    (News.isList N14 (.tail _ (.tail _ (.head _)))) (News.isList N14 (.tail _ (.head _))) hIy hIn hIa hIb (by show un + 3 + 64 < 9900; have : un < 90 := hu; omega) ?_)
  rw [show (begin + 1).toNat = fin by omega, decide_eq_true rfl, decide_eq_true rfl]
  k_steps
  have N14' : News (hideAll s.heap [93]) L' h14 ((93, tabObj ps1) :: ((Df, listOf (List.toArray vf) cf) :: (new1 ++ [(L' + 1 + 1, op), (L' + 1, o2)]))) := fun p hp => N14 p (by
    rcases List.mem_cons.mp hp with rfl | hp
    · exact .tail _ (.tail _ (.tail _ (.tail _ (.tail _ (.tail _ (.tail _ (.head _)))))))
    rcases List.mem_cons.mp hp with rfl | hp
    · exact .tail _ (.tail _ (.tail _ (.tail _ (.tail _ (.tail _ (.head _))))))
    · exact .tail _ (.tail _ (.tail _ (.tail _ (.tail _ (.tail _ (.tail _ (.tail _ hp))))))))
  have sub1 : ∀ p ∈ new1 ++ [(Df, listOf (List.toArray vf) cf), (L' + 1 + 1, op), (L' + 1, o2)], p ∈ (Df, listOf (List.toArray vf) cf) :: (new1 ++ [(L' + 1 + 1, op), (L' + 1, o2)]) := fun p hp => by
    rcases List.mem_append.mp hp with hp | hp
    · exact .tail _ (List.mem_append_left _ hp)
    rcases List.mem_cons.mp hp with rfl | hp
    · exact .head _
    · exact .tail _ (List.mem_append_right _ hp)
  have sub2 : ∀ p ∈ (Df, listOf (List.toArray vf) cf) :: (new1 ++ [(L' + 1 + 1, op), (L' + 1, o2)]), p.1 ≠ 93 := fun p hp => ne1 p (.tail _ (by
    rcases List.mem_cons.mp hp with rfl | hp
    · exact List.mem_append_right _ (.head _)
    rcases List.mem_append.mp hp with hp | hp
    · exact List.mem_append_left _ hp
    · exact List.mem_append_right _ (.tail _ hp)))
  refine Stop.mk (kla_eval rfl ?_)
  with_unfolding_all refine lam_any (P := 93) (c := 97) (ps := ps1) (rest := (Df, listOf (List.toArray vf) cf) :: (new1 ++ [(L' + 1 + 1, op), (L' + 1, o2)])) F14 N14' sub2 T2 C2 rfl ok1 (fun pos cv e => (okc1 pos cv e).more sub1) rfl ?_
  intro f2 c2 ctv2 ps2 new2 h16 tk16 F16 N16 ok2 okc2 ci2 ne2 lt2 am2
  clear F14 N14 N14'
  k_steps
  rename Fr _ _ _ _ => F17
  rename News _ _ _ _ => N17
  have sy2 : Says w h16 f2 (· ∈ asInts (List.range (text.length + 1))) (fun n => !emAll Str.empty ps Str.empty (Txt.slice text (some n) none)) := by
    refine ⟨⟨_, _, _, _, (N17 _ (.tail _ (.head _))).1⟩, fun A' s' n tn Q' E' hA' hd' hu' st' hn' k' => ?_⟩
    obtain ⟨hand', dp', frs', gds', un'⟩ := A'
    obtain rfl : hand' = none := hA'
    have stg : (hideAll s.heap [93]).StaysIn s'.heap := fun b o e => st' b o (F17.keep b o e)
    have hcp : s'.heap.get? (L' + 1 + 1) = some op := st' _ _ (N17 _ (.tail _ (.tail _ (List.mem_append_right _ (.tail _ (List.mem_append_right _ (.head _))))))).1
    have hct : s'.heap.get? (L' + 1) = some o2 := st' _ _ (N17 _ (.tail _ (.tail _ (List.mem_append_right _ (.tail _ (List.mem_append_right _ (.tail _ (.head _)))))))).1
    have X' := X2.keeps stg
    have TR' := topRead_of (T2.keeps stg)
    refine lam_enter T2 stg (st' _ _ (N17 _ (.tail _ (.head _))).1) ((ci2.rec F17 fun p hp => N17 p (.tail _ (.tail _ hp))).keeps st') (Nat.lt_of_lt_of_le hd' (by decide)) (binds := [(Str.ofString "n", .int n tn)]) rfl (locs rfl) ?_
    intro L2 h2 F9 N9
    clear F17 N17
    k_steps
    rename Fr _ _ _ _ => F10
    refine Stop.mk (em_ctr _ _ _ _ (X'.keeps F10.keep) ((T2.keeps stg).keeps F10.keep) rfl (by show dp' + 1 < 900; have : dp' < 600 := hd'; omega) hpl (Nat.le_trans (Txt.slice_le _ _ _) (by omega)) Str.empty Str.empty ps (by omega) hin hws ?_)
    intro h11 tk11 st11
    have F11 := F10.keeps st11
    clear F10
    k_steps
    exact k' _ _ F11.keep
  refine Stop.mk ?_
  with_unfolding_all refine brk_ctr (l := Df) (f := f2) (P := fun n => !emAll Str.empty ps Str.empty (Txt.slice text (some n) none)) (News.isList N17 (.tail _ (.tail _ (List.mem_append_right _ (.head _))))) hI (by rw [hNl]; omega) sy2 ?mono (X2.keeps F17.keep) (T2.keeps F17.keep) rfl (by show dp + 1 < 500; have : dp < 490 := hroom; omega) (by show un + 3 < 100; have : un < 90 := hu; omega) ?_
  case mono =>
    intro i j hij hj hi'
    rw [asInts_length, List.length_range] at hj
    rw [getD_range (by omega), hP _ (by omega), Bool.not_not] at hi'
    rw [getD_range hj, hP _ (by omega), Bool.not_not]
    have := of_decide_eq_true hi'
    exact decide_eq_true (by omega)
  rintro k tv h18 tk18 ⟨q2, q3, q4⟩ st18
  rw [asInts_length, List.length_range] at q2
  have hk : k = fin := by
    rcases Nat.lt_trichotomy k fin with h | h | h
    · have h3 := q4 k (Nat.le_refl _) (by rw [asInts_length, List.length_range]; omega)
      rw [getD_range (by omega), hP _ (by omega), Bool.not_not] at h3
      have := of_decide_eq_true h3
      omega
    · exact h
    · have h3 := q3 fin h
      rw [getD_range (by omega), hP _ (by omega), Bool.not_not] at h3
      have := of_decide_eq_false h3
      omega
  subst hk
  have F18 := F17.keeps st18
  have N18 := N17.keeps st18
  have fine := codesOf_end F18 (News.keeps N17 st18) (fun p hp => ne2 p hp) ok2 (fun pos cv e => (okc2 pos cv e).more fun p hp => .tail _ hp) (fun pos cv e => (am2 pos cv e).elim (fun e1 => (am1 pos cv e1).imp id fun ⟨c, oc, e, hm⟩ => ⟨c, oc, e, .tail _ (List.mem_append_right _ (.tail _ (List.mem_append_left _ hm)))⟩) fun ⟨c, oc, e, hm⟩ => .inr ⟨c, oc, e, .tail _ (List.mem_append_left _ hm)⟩)
  clear F17 N17
  k_steps
  rw [← hbe, beq_self_eq_true]
  exact ret ps2 _ _ fine
end Mine
end

-- Tabs
set_option maxHeartbeats 1000000
section
open PySem.Calls PySem.Spec
namespace Mine
theorem among_mem {pos : Pos} {cv : Value} : ∀ (l : List Value), TriplesOk l → codeAmong pos l = some cv → cv ∈ l
  | [], _, h => by cases h
  | .int _ _ :: .int _ _ :: c :: rest, ok, h => by
    simp only [codeAmong] at h
    split at h
    · rw [← Option.some.inj h]; exact .tail _ (.tail _ (.head _))
    · exact .tail _ (.tail _ (.tail _ (among_mem rest ok h)))
/-- the table's codes stand in the ledger -/
def Tab (ex : List (Addr × Obj)) (t : Array Value) (q : Str) : Prop :=
  TriplesOk t.toList ∧ ∀ pos cv, codeAmong pos t.toList = some cv → ∃ c oc vs u, cv = .ref c ∧ (c, oc) ∈ ex ∧ oc.data = .fields vs ∧ vs[1]? = some (.str q u)
theorem Tab.none (q : Str) : Tab [] #[] q := ⟨trivial, fun _ _ e => by cases e⟩
theorem Tab.more {ex ex' : List (Addr × Obj)} {t : Array Value} {q : Str} (x : Tab ex t q) (h : ∀ p ∈ ex, p ∈ ex') : Tab ex' t q :=
  ⟨x.1, fun pos cv e => let ⟨c, oc, vs, u, e1, e2, e3⟩ := x.2 pos cv e; ⟨c, oc, vs, u, e1, h _ e2, e3⟩⟩
theorem Tab.codes {g h : Heap} {L P : Addr} {ex news : List (Addr × Obj)} {t : Array Value} {q : Str} (x : Tab ex t q) (N : News g L h news) (he : ∀ p ∈ ex, p ∈ news) (hne : ∀ p ∈ ex, p.1 ≠ P) :
    ∀ pos cv, codeAmong pos t.toList = some cv → CodeIn (hideAll h [P]) [] cv q := fun pos cv e => by
  obtain ⟨c, oc, vs, u, e1, e2, e3⟩ := x.2 pos cv e
  exact ⟨c, oc, vs, u, e1, .inl (hideAll_get _ (N _ (he _ e2)).1 fun q => hne _ e2 (List.mem_singleton.mp q)), e3⟩
def freshOf (h h' : Heap) (v : Value) : Option (Addr × Obj) := match v with
  | .ref c => match h.get? c with
    | some _ => none
    | none => (h'.get? c).map fun oc => (c, oc)
  | _ => none
theorem freshOf_some {h h' : Heap} {v : Value} {p : Addr × Obj} (e : freshOf h h' v = some p) : h'.get? p.1 = some p.2 ∧ h.get? p.1 = none := by
  unfold freshOf at e
  split at e
  · rename_i c
    split at e
    · cases e
    · rename_i hc
      obtain ⟨oc, ho, rfl⟩ := Option.map_eq_some_iff.mp e
      exact ⟨ho, hc⟩
  · cases e
theorem tab_step {g h h' : Heap} {L P : Addr} {m : Str → Option Value} {q : Str} {t t' : Array Value} {rest ex : List (Addr × Obj)} (F : Fr g L h m) (N : News g L h ((P, tabObj t) :: rest)) (hne : ∀ p ∈ rest, p.1 ≠ P)
    (x : Tab ex t q) (C : CodesOf h h' P q t t') : ∃ ex', Fr g L h' m ∧ News g L h' ((P, tabObj t') :: (ex' ++ rest)) ∧ Tab (ex' ++ ex) t' q ∧ ∀ p ∈ ex', h.get? p.1 = none := by
  obtain ⟨c1, c2, c3, c4⟩ := C
  have nP := N _ (.head _)
  refine ⟨t'.toList.filterMap (freshOf h h'), ⟨F.ns.at' fun o e => c3 _ _ (Ne.symm nP.2.1) e, fun b o e => c3 _ _ (fun q => by rw [q] at e; rw [nP.2.2] at e; cases e) (F.keep b o e), F.above⟩, fun p hp => ?_, ⟨c2, fun pos cv e => ?_⟩, fun p hp => ?_⟩
  · rcases List.mem_cons.mp hp with rfl | hp
    · exact ⟨c1, nP.2⟩
    rcases List.mem_append.mp hp with hp | hp
    · obtain ⟨v, _, hv⟩ := List.mem_filterMap.mp hp
      obtain ⟨f1, f2⟩ := freshOf_some hv
      refine ⟨f1, ?_, ?_⟩
      · intro e
        obtain ⟨oL, _, _, hL, _⟩ := F.ns
        rw [← e, f2] at hL; cases hL
      · cases q : g.get? p.1 with
        | none => rfl
        | some o => have := F.keep _ _ q; rw [f2] at this; cases this
    · exact ⟨c3 _ _ (hne p hp) (N p (.tail _ hp)).1, (N p (.tail _ hp)).2⟩
  · rcases c4 pos cv e with e1 | ⟨c, oc, vs, u, rfl, d1, d2, d3, d4⟩
    · exact (x.more fun p hp => List.mem_append_right _ hp).2 pos cv e1
    · refine ⟨c, oc, vs, u, rfl, List.mem_append_left _ (List.mem_filterMap.mpr ⟨_, among_mem _ c2 e, ?_⟩), d3, d4⟩
      show (match h.get? c with
        | some _ => none
        | none => (h'.get? c).map fun oc => (c, oc)) = _
      rw [d2, d1]; rfl
  · obtain ⟨v, _, hv⟩ := List.mem_filterMap.mp hp
    exact (freshOf_some hv).2
end Mine
end

-- T_least
theorem Mine.calm14 : True := by first | walk1 | exact trivial
set_option maxHeartbeats 1500000
section
open PySem.Calls PySem.Spec
namespace Mine
open LCg LCt
local macro_rules | `(tactic| walk_at "eval BoolOp") => `(tactic| (rename Halt => hz; clear hz; refine Stop.to ?_))
local macro_rules | `(tactic| walk_at "CompSrc") => `(tactic| refine Stop.to ?_)
local macro_rules | `(tactic| walk_at "exec For Name Name cons nil") => `(tactic| refine Stop.to ?_)
local macro_rules | `(tactic| walk_at "exec For Name Call cons nil") => `(tactic| refine Stop.to ?_)
local macro_rules | `(tactic| walk_at "pyIter ref") => `(tactic| refine Stop.to ?_)
local macro_rules | `(tactic| walk_at "call ref") => `(tactic| refine Stop.to ?_)
local macro_rules | `(tactic| walk_at "eval Name") => `(tactic| (k_here; k_dflt (refine' ld ?k1 ?k2 ?_; (case k1 => k_asm); (case k2 => assumption); k_whole)))
variable {w : World} {A : Around} {s : Shared} {loose : List Str} {mean : ExcName → Option Value} {mg mb : Str → Option Value} {Q : Value → Shared → Prop} {E : Value → Shared → Prop}
theorem least_before {N : Nat} {f : Nat → Bool} : leastOf N f ≤ N ∧ (∀ i, i < leastOf N f → f i = false) ∧ (leastOf N f < N → f (leastOf N f) = true) := by
  unfold leastOf
  cases hf : (List.range N).find? f with
  | none =>
    have h0 := List.find?_eq_none.mp hf
    refine ⟨Nat.le_refl _, fun i hi => ?_, fun h => absurd h (Nat.lt_irrefl _)⟩
    have := h0 i (List.mem_range.mpr hi)
    simpa using this
  | some k =>
    have hk := List.find?_some hf
    have hm := List.mem_range.mp (List.mem_of_find?_eq_some hf)
    refine ⟨Nat.le_of_lt hm, fun i hi => ?_, fun _ => hk⟩
    have hi : i < k := hi
    obtain ⟨_, as, bs, e, hn⟩ := List.find?_eq_some_iff_append.mp hf
    have hlen : as.length = k := by
      have h2 : (List.range N)[as.length]? = some k := by rw [e]; simp
      have h3 : as.length < N := by
        have := congrArg List.length e
        simp at this; omega
      rw [List.getElem?_range h3] at h2
      exact Option.some.inj h2
    have h2 : (List.range N)[i]? = as[i]? := by rw [e, List.getElem?_append_left (by omega)]
    rw [List.getElem?_range (by omega)] at h2
    have := hn i (List.mem_of_getElem? h2.symm)
    simpa using this
def isB (v : Value) : Bool := match v with | .bool b => b | _ => false
theorem index_bools {prog : Program} {l : Addr} {f : Nat → Bool} {N : Nat} (hN : N ≤ 1000) (hl : s.heap.IsList l (bvals f N ++ [Value.bool true]).toArray) (h : Q (.int (leastOf N f : Nat) s.toks) { s with toks := s.toks + 1 }) :
    wpAny (model prog w) A (call (.builtin "list.index") [.ref l, .bool true]) Q E s := by
  obtain ⟨⟨cls, dd, data, sl⟩, ho, hc, n, hd⟩ := id hl
  simp only at hc hd
  subst hc hd
  obtain ⟨b1, b2, b3⟩ := @least_before N f
  have hsz : (bvals f N ++ [Value.bool true]).toArray.size = N + 1 := by simp [bvals_len]
  have hat : ∀ m (hm : m < (bvals f N ++ [Value.bool true]).toArray.size), isB ((bvals f N ++ [Value.bool true]).toArray[m]) = if m < N then f m else true := fun m hm => by
    rw [hsz] at hm
    by_cases q : m < N
    · rw [if_pos q]
      simp [bvals, List.getElem_append, q, isB]
    · rw [if_neg q]
      simp [bvals, List.getElem_append, q, isB]
  refine call_meets PySem.F.slot_list_index ⟨_, ho, rfl⟩ PySem.F.entry_list_index (PySem.F.args_list_index_2 _ _)
    (SeqAt.list_indexAt l _ n dd sl (.bool true) isB (leastOf N f) (by omega) (by omega) ?_ ?_) ⟨ho, fun y hy => ?_, h⟩
  · rw [hat]
    split
    · rename_i q; exact b3 q
    · rfl
  · intro m hm hlt
    rw [hat, if_pos (by omega)]
    exact b2 m hlt
  · have : ∃ b, y = .bool b := by
      have hy : y ∈ bvals f N ++ [Value.bool true] := by simpa using hy
      rcases List.mem_append.mp hy with hy | hy
      · obtain ⟨k, _, rfl⟩ := List.mem_map.mp hy
        exact ⟨_, rfl⟩
      · exact ⟨_, List.mem_singleton.mp hy⟩
    obtain ⟨b, rfl⟩ := this
    have := SeqAt.EqAt.bool_bool (A := A.in1) (s := s) b true
    have e : (b == true) = isB (Value.bool b) := by cases b <;> rfl
    rwa [e] at this
theorem least_ctr {text : Str} {t1 : Tok} {l : Addr} {vs : List Value} {ps : List Str} (hl : s.heap.IsList l vs.toArray) (hi : StrsAre vs ps) (h1 : text.length ≤ 500) (h2 : ps.length ≤ 500) (hp : ∀ p ∈ ps, p.length ≤ 500)
   (X : (hd.heap_39 w.params).In s.heap) (T : Top topProg loose mean mg mb s.heap) (hA : A.handled = none) (hroom : A.depth < 498)
   (ret : ∀ D vs n h' tk', s.heap.StaysIn h' → s.heap.get? D = none → h'.get? D = some (listOf (List.toArray vs) n) → IntsAre vs (asInts (toldLeast (sg text) (ps.map sg) ps.length)) → Q (.ref D) { s with heap := h', toks := tk' }) :
   wpAny (model Challenge.rw_pe0135_01.row.prog w) A (call (.ref 77) [.str text t1, .ref l]) Q E s := by
  obtain ⟨hand, dp, frs, gds, un⟩ := A
  obtain rfl : hand = none := hA
  w_top off
  revert X; k_fill; intro X
  have TR := topRead_of T
  refine enterP (binds := [("text", .str text t1), ("pieces", .ref l)]) X T rfl (by rfl) (Nat.lt_trans hroom (by decide)) (BindsTo.of_eq rfl) (locs rfl) ?_
  intro L' h₁ F N
  k_steps
  rename IsRange _ _ _ _ _ _ _ _ => hr
  rename Fr _ _ _ _ => F2
  rename News _ _ _ _ => N2
  refine Stop.mk ?_
  refine CompSrc.range (n := text.length + 1) rfl F2 N2 hr (small_one (by omega) (by omega) (by omega) (by omega)) (by rw [rangeSize_nat]; omega) (by rw [sizeLine_eq]; omega) ?_
  intro g
  refine compU_ind (fun i ys => ys = bvals (fun _ => true) i) trivial ?_ ?_ _ 0 [] (Nat.zero_add _) rfl
  · intro i ys v I oI C oC D m₂ h tk E' _ hj _ _ _ F3 N3
    clear F2 N2
    k_steps
    exact ⟨_, _, rfl, F3, N3, by rw [hj]; exact (bvals_succ _ _).symm⟩
  rintro ys rfl
  clear F2 N2
  k_steps
  rename Fr _ _ _ _ => F2
  rename News _ _ _ _ => N2
  rename_i ne2
  refine Stop.mk ?_
  refine For_invV s.heap rfl rfl ?_
  k_steps
  refine Stop.mk ?_
  refine loopH (h₀ := s.heap) (fun i m nx => ∃ D R vs2 n2 nr, nx = [(R, listOf (List.toArray (bvals (rowAfter (sg text) (ps.map sg) i) (text.length + 1))) nr), (D, listOf (List.toArray vs2) n2)] ∧ D ≠ R ∧ m "text" = some (.str text t1) ∧ m "told" = some (.ref D) ∧ m "row" = some (.ref R) ∧ IntsAre vs2 (asInts (toldLeast (sg text) (ps.map sg) i))) rfl hl F2 N2
    ⟨_, _, _, _, _, rfl, ne2, rfl, rfl, rfl, ?_⟩ ?_ ?_
  · have e0 : asInts (toldLeast (sg text) (ps.map sg) 0) = [0] := by
      show [((leastOf ((sg text).length + 1) (fun _ => true) : Nat) : Int)] = [0]
      rw [leastOf_true]; rfl
    rw [e0]
    exact IntsAre.cons _ _ IntsAre.nil
  · rintro i v m₁ nx h tk own hv hoff ⟨D, R, vs2, n2, nr, rfl, neDR, j1, j2, j4, j3⟩ F4 N4
    clear F2 N2
    change Fr s.heap L' h _ at F4
    change News s.heap L' h _ at N4
    have hiv : i < vs.length := (List.getElem?_eq_some_iff.mp hv).1
    have hips : i < ps.length := by rw [← hi.length]; exact hiv
    obtain ⟨ty, hy⟩ := hi.at (List.getElem?_eq_getElem hips)
    rw [hv] at hy
    obtain rfl := Option.some.inj hy
    clear hy
    have hpb : ps[i].length ≤ 500 := hp _ (List.getElem_mem hips)
    k_steps
    rename Fr _ _ _ _ => F5
    rename News _ _ _ _ => N5
    refine Stop.mk ?_
    refine For_invV s.heap rfl rfl ?_
    k_steps
    rename_i W h4' lW h5 F5' N5' h6 tk7 t6 u6 v6 hr F6 N6 _
    clear F5' N5'
    refine Stop.mk ?_
    have hps : (ps.map sg)[i]'(by simpa using hips) = sg ps[i] := by simp
    have hneR : W ≠ R := Nat.ne_of_gt (lW _ (.head _))
    have hneD : W ≠ D := Nat.ne_of_gt (lW _ (.tail _ (.head _)))
    have hneO : ∀ p ∈ own, p.1 ≠ W := fun p hp => Nat.ne_of_lt (lW p (List.mem_append_right _ hp))
    clear lW
    change News s.heap L' h6 ((W, listOf #[] 0) :: (R, listOf (List.toArray (bvals (rowAfter (sg text) (ps.map sg) i) (text.length + 1))) nr) :: (D, listOf (List.toArray vs2) n2) :: own) at N6
    refine loopR (h₀ := s.heap) (n := text.length + 1) (fun k m nx => ∃ nw, nx = (W, listOf (List.toArray (bvals (newRow (sg text) (sg ps[i]) (rowAfter (sg text) (ps.map sg) i)) k)) nw) :: (R, listOf (List.toArray (bvals (rowAfter (sg text) (ps.map sg) i) (text.length + 1))) nr) :: (D, listOf (List.toArray vs2) n2) :: own ∧
        m "text" = some (.str text t1) ∧ m "told" = some (.ref D) ∧ m "row" = some (.ref R) ∧ m "new" = some (.ref W) ∧ m "piece" = some (.str ps[i] ty)) rfl hr (small_one (by omega) (by omega) (by omega) (by omega)) (by rw [rangeSize_nat]; omega) F6 N6 ⟨0, rfl, j1, j2, j4, rfl, rfl⟩ ?_ ?_
    · rintro k tn m₂ nx h tk own2 hk hoff2 ⟨nw, rfl, i1, i2, i3, i4, i5⟩ F7 N7
      clear F6 N6
      change Fr s.heap L' h _ at F7
      change News s.heap L' h _ at N7
      rw [Int.zero_add] at F7
      have halt : Halt := ⟨⟩
      k_steps
      rename Fr _ _ _ _ => F8
      rename News _ _ _ _ => N8
      refine Stop.mk ?_
      refine cutL (fun v s' => Stop (∃ h' tk', v = .bool (here (sg text) (sg ps[i]) (rowAfter (sg text) (ps.map sg) i) k) ∧ s' = { s with heap := h', toks := tk' } ∧ (Fr s.heap L' h' fun y => if y = "n" then some (Value.int (↑k) tn) else m₂ y) ∧ News s.heap L' h' ((W, listOf (List.toArray (bvals (newRow (sg text) (sg ps[i]) (rowAfter (sg text) (ps.map sg) i)) k)) nw) :: (R, listOf (List.toArray (bvals (rowAfter (sg text) (ps.map sg) i) (text.length + 1))) nr) :: (D, listOf (List.toArray vs2) n2) :: (own ++ own2)))) ?_ ?_
      · k_steps
        · rename Fr _ _ _ _ => F9
          rename News _ _ _ _ => N9
          rename ((Txt.slice _ _ _ == _) = true) => hsl
          rename ((ps[i].length : Int) ≤ k) => hle
          with_unfolding_all refine item_list (News.isList N9 (.tail _ (.head _))) (by omega) (by omega) (x := .bool (rowAfter (sg text) (ps.map sg) i (k - ps[i].length))) (by rw [show ((k : Int) - (ps[i].length : Int)).toNat = k - ps[i].length by omega]; exact bvals_at (by omega)) ?_
          refine ⟨_, _, ?_, rfl, F9, N9⟩
          unfold here
          rw [sg_len, occ_slice (by omega) (by omega), hsl, decide_eq_true (by omega)]
          rfl
        · rename Fr _ _ _ _ => F9
          rename News _ _ _ _ => N9
          rename ((Txt.slice _ _ _ == _) = false) => hsl
          rename ((ps[i].length : Int) ≤ k) => hle
          refine ⟨_, _, ?_, rfl, F9, N9⟩
          unfold here
          rw [sg_len, occ_slice (by omega) (by omega), hsl, decide_eq_true (by omega)]
          rfl
        · rename Fr _ _ _ _ => F9
          rename News _ _ _ _ => N9
          rename (¬ (ps[i].length : Int) ≤ k) => hle
          refine ⟨_, _, ?_, rfl, F9, N9⟩
          unfold here
          rw [sg_len, decide_eq_false hle, decide_eq_false (by omega)]
          rfl
      · rintro _ _ ⟨h', tk', rfl, rfl, F9, N9⟩
        clear F8 N8
        have halt : Halt := ⟨⟩
        k_steps
        rename Fr _ _ _ _ => F10
        rename News _ _ _ _ => N10
        refine Stop.mk ?_
        refine cutL (fun v s' => Stop (∃ h' tk', v = .bool (newRow (sg text) (sg ps[i]) (rowAfter (sg text) (ps.map sg) i) k) ∧ s' = { s with heap := h', toks := tk' } ∧ (Fr s.heap L' h' fun y => if y = "here" then some (Value.bool (here (sg text) (sg ps[i]) (rowAfter (sg text) (ps.map sg) i) k)) else if y = "n" then some (Value.int (↑k) tn) else m₂ y) ∧ News s.heap L' h' ((W, listOf (List.toArray (bvals (newRow (sg text) (sg ps[i]) (rowAfter (sg text) (ps.map sg) i)) k)) nw) :: (R, listOf (List.toArray (bvals (rowAfter (sg text) (ps.map sg) i) (text.length + 1))) nr) :: (D, listOf (List.toArray vs2) n2) :: (own ++ own2)))) ?_ ?_
        · cases hh : here (sg text) (sg ps[i]) (rowAfter (sg text) (ps.map sg) i) k
          all_goals rw [hh] at F10
          · k_steps
            · rename Fr _ _ _ _ => F11
              rename News _ _ _ _ => N11
              rename ((0 : Int) < k) => hpos
              obtain ⟨k', rfl⟩ : ∃ k', k = k' + 1 := ⟨k - 1, by omega⟩
              with_unfolding_all refine item_list (News.isList N11 (.head _)) (by omega) (by omega) (x := .bool (newRow (sg text) (sg ps[i]) (rowAfter (sg text) (ps.map sg) i) k')) (by rw [show (((k' + 1 : Nat) : Int) - 1).toNat = k' by omega]; exact bvals_at (by omega)) ?_
              refine ⟨_, _, ?_, rfl, F11, N11⟩
              show _ = Value.bool (here _ _ _ _ || _)
              rw [hh]; rfl
            · rename Fr _ _ _ _ => F11
              rename News _ _ _ _ => N11
              rename (¬ (0 : Int) < k) => hpos
              obtain rfl : k = 0 := by omega
              refine ⟨_, _, ?_, rfl, F11, N11⟩
              show _ = Value.bool (here _ _ _ _)
              rw [hh]; rfl
          · k_steps
            rename Fr _ _ _ _ => F11
            rename News _ _ _ _ => N11
            refine ⟨_, _, ?_, rfl, F11, N11⟩
            cases k with
            | zero => show _ = Value.bool (here _ _ _ _); rw [hh]
            | succ k => show _ = Value.bool (here _ _ _ _ || _); rw [hh]; rfl
        · rintro _ _ ⟨h', tk', rfl, rfl, F11, N11⟩
          clear F10 N10
          k_steps
          have hoW : ∀ p ∈ (R, listOf (List.toArray (bvals (rowAfter (sg text) (ps.map sg) i) (text.length + 1))) nr) :: (D, listOf (List.toArray vs2) n2) :: (own ++ own2), p.1 ≠ W := by
            intro p hp
            rcases List.mem_cons.mp hp with rfl | hp
            · exact hneR.symm
            rcases List.mem_cons.mp hp with rfl | hp
            · exact hneD.symm
            rcases List.mem_append.mp hp with hp | hp
            · exact hneO p hp
            · exact hoff2 p hp W (.head _)
          refine append_K (its := List.toArray (bvals (newRow (sg text) (sg ps[i]) (rowAfter (sg text) (ps.map sg) i)) k)) (n := nw) F11 N11 (.head hoW) ?_ (by rw [List.size_toArray, bvals_len, sizeLine_eq]; omega)
          intro h12 F12 N12
          rw [List.push_toArray, ← bvals_succ] at N12
          clear F11 N11
          k_steps
          rename Fr _ _ _ _ => F13
          rename News _ _ _ _ => N13
          refine InvEndG.intro F13 N13 ⟨nw + 1, rfl, i1, i2, i3, i4, i5⟩ hoff2 (fun p hp => ?_) (fun p hp => ?_)
          · rcases List.mem_cons.mp hp with rfl | hp
            · exact .head _
            rcases List.mem_cons.mp hp with rfl | hp
            · exact .tail _ (.head _)
            rcases List.mem_cons.mp hp with rfl | hp
            · exact .tail _ (.tail _ (.head _))
            · exact .tail _ (.tail _ (.tail _ (List.mem_append_left _ hp)))
          · exact .tail _ (.tail _ (.tail _ (List.mem_append_right _ hp)))
    · rintro m₂ nx h tk ⟨nw, rfl, i1, i2, i3, i4, i5⟩ F7 N7
      clear F6 N6
      change Fr s.heap L' h _ at F7
      change News s.heap L' h _ at N7
      k_steps
      rename_i h7' Dz h' F8 N8 l8
      have hneL : h'.objs.size ≠ D := fun e => absurd (Heap.lt_size (N8 _ (.tail _ (.tail _ (.tail _ (.head _))))).1) (by rw [e]; exact Nat.lt_irrefl _)
      refine add_lists F8 N8 (News.isList N8 (.tail _ (.head _))) (News.isList N8 (.head _)) ?_ (by rw [bvals_len, sizeLine_eq]; show text.length + 1 + 1 ≤ _; omega)
      intro h9 F9 N9
      clear F8 N8
      k_steps
      refine index_bools (N := text.length + 1) (by omega) (News.isList N9 (.head _)) ?_
      have hvl : vs2.length = i + 1 := by rw [j3.length, asInts_length]; simp [toldLeast]
      have hneO2 : ∀ p ∈ own, p.1 ≠ D := fun p hp => hoff p hp D (.tail _ (.head _))
      have hneZ : Dz ≠ D := Nat.ne_of_gt l8.2.2.1
      have N9' : News s.heap L' h9 ((D, listOf (List.toArray vs2) n2) :: [(W, listOf (List.toArray (bvals (newRow (sg text) (sg ps[i]) (rowAfter (sg text) (ps.map sg) i)) (text.length + 1))) nw)] ++ own) := fun p hp => N9 p (by
        rcases List.mem_cons.mp hp with rfl | hp
        · exact .tail _ (.tail _ (.tail _ (.tail _ (.head _))))
        rcases List.mem_cons.mp hp with rfl | hp
        · exact .tail _ (.tail _ (.head _))
        · exact .tail _ (.tail _ (.tail _ (.tail _ (.tail _ hp)))))
      have hoD : ∀ p ∈ [(W, listOf (List.toArray (bvals (newRow (sg text) (sg ps[i]) (rowAfter (sg text) (ps.map sg) i)) (text.length + 1))) nw)] ++ own, p.1 ≠ D := by
        intro p hp
        rcases List.mem_cons.mp hp with rfl | hp
        · exact hneD
        · exact hneO2 p hp
      clear N9
      k_steps
      rename Fr _ _ _ _ => F13
      rename News _ _ _ _ => N13
      rw [List.push_toArray] at N13
      obtain ⟨vn, hvn, N14⟩ : ∃ vn, IntsAre vn (asInts (toldLeast (sg text) (ps.map sg) (i + 1))) ∧ News s.heap L' _ ((D, listOf (List.toArray vn) (n2 + 1)) :: [(W, listOf (List.toArray (bvals (newRow (sg text) (sg ps[i]) (rowAfter (sg text) (ps.map sg) i)) (text.length + 1))) nw)] ++ own) := ⟨_, by
        rw [toldLeast_succ, rowAfter_succ _ _ (show i < (ps.map sg).length by simpa using hips), hps, sg_len]
        exact IntsAre.append j3 (IntsAre.cons _ _ IntsAre.nil), N13⟩
      refine InvEndG.intro (nx := [(W, listOf (List.toArray (bvals (newRow (sg text) (sg ps[i]) (rowAfter (sg text) (ps.map sg) i)) (text.length + 1))) nw), (D, listOf (List.toArray vn) (n2 + 1))]) F13 N14 ⟨D, W, vn, n2 + 1, nw, ?_, hneD.symm, i1, i2, rfl, hvn⟩ ?_ (fun p hp => ?_) (fun p hp => ?_)
      · rw [rowAfter_succ _ _ (show i < (ps.map sg).length by simpa using hips), hps]
      · intro p hp b hb
        rcases List.mem_cons.mp hb with rfl | hb
        · exact hneO p hp
        · rw [List.mem_singleton.mp hb]; exact hneO2 p hp
      · rcases List.mem_cons.mp hp with rfl | hp
        · exact .tail _ (.head _)
        · rw [List.mem_singleton.mp hp]; exact .head _
      · exact .tail _ (.tail _ hp)
  · rintro m₁ nx h tk ⟨D, R, vs2, n2, nr, rfl, neDR, j1, j2, j4, j3⟩ F4 N4
    clear F2 N2
    change Fr s.heap L' h _ at F4
    change News s.heap L' h _ at N4
    k_steps
    rw [hi.length] at j3
    exact ret _ _ _ _ _ F4.keep (N4 _ (.tail _ (.head _))).2.2 (N4 _ (.tail _ (.head _))).1 j3
end Mine
end

-- PL2
set_option maxHeartbeats 1000000
section
open PySem.Calls PySem.Spec
namespace Mine
def Occ (T p : List Nat) (k : Nat) : Prop := (T.drop k).take p.length = p
theorem occB_iff {T p : List Nat} {k : Nat} : occB T p k = true ↔ Occ T p k := by unfold occB Occ; exact beq_iff_eq
theorem Occ.le {T p : List Nat} {k : Nat} (h : Occ T p k) (hp : 1 ≤ p.length) : k + p.length ≤ T.length := by
  have := congrArg List.length h
  simp at this
  omega
theorem mem_places {T p : List Nat} {k : Nat} (hp : 1 ≤ p.length) : k ∈ places T p ↔ Occ T p k := by
  unfold places
  rw [List.mem_filter, List.mem_range, occB_iff]
  exact ⟨fun h => h.2, fun h => ⟨by have := h.le hp; omega, h⟩⟩
theorem places_sorted (T p : List Nat) : (places T p).Pairwise (· < ·) := List.Pairwise.filter _ List.pairwise_lt_range
theorem find_least {l : List Nat} (hs : l.Pairwise (· < ·)) {a k : Nat} (h : l.find? (fun x => decide (a ≤ x)) = some k) : k ∈ l ∧ a ≤ k ∧ ∀ y ∈ l, a ≤ y → k ≤ y := by
  induction l with
  | nil => cases h
  | cons x r ih =>
    rw [List.find?_cons] at h
    by_cases hx : a ≤ x
    · rw [decide_eq_true hx] at h
      obtain rfl := Option.some.inj h
      refine ⟨.head _, hx, fun y hy _ => ?_⟩
      rcases List.mem_cons.mp hy with rfl | hy
      · exact Nat.le_refl _
      · exact Nat.le_of_lt (List.rel_of_pairwise_cons hs hy)
    · rw [decide_eq_false hx] at h
      obtain ⟨h1, h2, h3⟩ := ih hs.of_cons h
      refine ⟨.tail _ h1, h2, fun y hy hay => ?_⟩
      rcases List.mem_cons.mp hy with rfl | hy
      · exact absurd hay hx
      · exact h3 y hy hay
/-- the pieces stand one behind the other from a on, and end no farther than b -/
def Fits (T : List Nat) : List (List Nat) → Nat → Int → Prop
  | [], a, b => (a : Int) ≤ b
  | p :: r, a, b => ∃ k, a ≤ k ∧ Occ T p k ∧ Fits T r (k + p.length) b
theorem Fits.left {T : List Nat} {ps : List (List Nat)} {a a' : Nat} {b : Int} (h : Fits T ps a b) (ha : a' ≤ a) : Fits T ps a' b := by
  cases ps with
  | nil => exact Int.le_trans (Int.ofNat_le.mpr ha) h
  | cons p r => obtain ⟨k, h1, h2⟩ := h; exact ⟨k, Nat.le_trans ha h1, h2⟩
theorem Fits.right {T : List Nat} {b b' : Int} (hb : b ≤ b') : ∀ {ps : List (List Nat)} {a : Nat}, Fits T ps a b → Fits T ps a b'
  | [], _, h => Int.le_trans h hb
  | _ :: _, _, ⟨k, h1, h2, h3⟩ => ⟨k, h1, h2, h3.right hb⟩
theorem Fits.le {T : List Nat} {b : Int} : ∀ {ps : List (List Nat)} {a : Nat}, Fits T ps a b → (a : Int) ≤ b
  | [], _, h => h
  | p :: _, a, ⟨k, h1, _, h3⟩ => by have := h3.le; omega
theorem fits_append {T : List Nat} {qs : List (List Nat)} {b : Int} : ∀ {ps : List (List Nat)} {a : Nat}, Fits T (ps ++ qs) a b ↔ ∃ c : Nat, Fits T ps a (c : Int) ∧ Fits T qs c b
  | [], a => ⟨fun h => ⟨a, Int.le_refl _, h⟩, fun ⟨_, h1, h2⟩ => h2.left (Int.ofNat_le.mp h1)⟩
  | p :: r, a => by
    constructor
    · rintro ⟨k, h1, h2, h3⟩
      obtain ⟨c, h4, h5⟩ := fits_append.mp h3
      exact ⟨c, ⟨k, h1, h2, h4⟩, h5⟩
    · rintro ⟨c, ⟨k, h1, h2, h4⟩, h5⟩
      exact ⟨k, h1, h2, fits_append.mpr ⟨c, h4, h5⟩⟩
theorem next_top (T p : List Nat) (hp : 1 ≤ p.length) : nextEnd T (T.length + 1) p = T.length + 1 := by
  unfold nextEnd
  cases h : (places T p).find? (fun k => decide (T.length + 1 ≤ k)) with
  | none => rfl
  | some k =>
    obtain ⟨h1, h2, _⟩ := find_least (places_sorted T p) h
    have := ((mem_places hp).mp h1).le hp
    omega
theorem fold_top (T : List Nat) : ∀ (ps : List (List Nat)), (∀ p ∈ ps, 1 ≤ p.length) → ps.foldl (nextEnd T) (T.length + 1) = T.length + 1
  | [], _ => rfl
  | p :: r, h => by
    rw [List.foldl_cons, next_top T p (h p (.head _))]
    exact fold_top T r fun q hq => h q (.tail _ hq)
theorem fits_end {T : List Nat} {b : Nat} (hb : b ≤ T.length) : ∀ (ps : List (List Nat)), (∀ p ∈ ps, 1 ≤ p.length) → ∀ a : Nat, Fits T ps a (b : Int) ↔ ps.foldl (nextEnd T) a ≤ b
  | [], _, a => Int.ofNat_le
  | p :: r, h, a => by
    have hp := h p (.head _)
    have ih := fits_end hb r fun q hq => h q (.tail _ hq)
    rw [List.foldl_cons]
    unfold nextEnd
    cases hf : (places T p).find? (fun k => decide (a ≤ k)) with
    | none =>
      have h0 : (r.foldl (nextEnd T) (T.length + 1)) = T.length + 1 := fold_top T r fun q hq => h q (.tail _ hq)
      refine ⟨?_, fun q => ?_⟩
      · rintro ⟨k, h1, h2, _⟩
        have := List.find?_eq_none.mp hf k ((mem_places hp).mpr h2)
        exact absurd (decide_eq_true h1) this
      · have q' : (r.foldl (nextEnd T) (T.length + 1)) ≤ b := q
        omega
    | some k =>
      obtain ⟨h1, h2, h3⟩ := find_least (places_sorted T p) hf
      refine Iff.trans ?_ (ih (k + p.length))
      constructor
      · rintro ⟨k', h4, h5, h6⟩
        exact h6.left (Nat.add_le_add_right (h3 k' ((mem_places hp).mpr h5) h4) _)
      · intro h4
        exact ⟨k, h2, (mem_places hp).mp h1, h4⟩
theorem fold_le {T : List Nat} : ∀ (ps : List (List Nat)), (∀ p ∈ ps, 1 ≤ p.length) → ∀ a : Nat, a ≤ T.length + 1 → ps.foldl (nextEnd T) a ≤ T.length + 1
  | [], _, _, h => h
  | p :: r, h, a, ha => by
    rw [List.foldl_cons]
    refine fold_le r (fun q hq => h q (.tail _ hq)) _ ?_
    unfold nextEnd
    cases hf : (places T p).find? (fun k => decide (a ≤ k)) with
    | none => exact Nat.le_refl _
    | some k =>
      obtain ⟨h1, _, _⟩ := find_least (places_sorted T p) hf
      have := ((mem_places (h p (.head _))).mp h1).le (h p (.head _))
      show k + p.length ≤ T.length + 1
      omega
theorem le_next {T p : List Nat} {a : Nat} (ha : a ≤ T.length + 1) : a ≤ nextEnd T a p := by
  unfold nextEnd
  cases hf : (places T p).find? (fun k => decide (a ≤ k)) with
  | none => exact ha
  | some k =>
    obtain ⟨_, h2, _⟩ := find_least (places_sorted T p) hf
    show a ≤ k + p.length
    omega
theorem last_most {l : List Nat} (hs : l.Pairwise (· < ·)) {k : Nat} (h : l.getLast? = some k) : k ∈ l ∧ ∀ y ∈ l, y ≤ k := by
  obtain ⟨r, rfl⟩ := List.getLast?_eq_some_iff.mp h
  refine ⟨by simp, fun y hy => ?_⟩
  rcases List.mem_append.mp hy with hy | hy
  · exact Nat.le_of_lt ((List.pairwise_append.mp hs).2.2 y hy k (.head _))
  · rw [List.mem_singleton.mp hy]; exact Nat.le_refl _
theorem fits_one {T p : List Nat} {c : Nat} {b : Int} : Fits T [p] c b ↔ ∃ k : Nat, c ≤ k ∧ Occ T p k ∧ (k : Int) + p.length ≤ b := by
  constructor
  · rintro ⟨k, h1, h2, h3⟩
    refine ⟨k, h1, h2, ?_⟩
    have h4 : ((k + p.length : Nat) : Int) ≤ b := h3
    omega
  · rintro ⟨k, h1, h2, h3⟩
    refine ⟨k, h1, h2, ?_⟩
    show ((k + p.length : Nat) : Int) ≤ b
    omega
theorem fits_beg {T : List Nat} : ∀ (qs : List (List Nat)), (∀ p ∈ qs, 1 ≤ p.length) → ∀ (a : Nat) (b : Int), Fits T qs.reverse a b ↔ (a : Int) ≤ qs.foldl (nextBeg T) b
  | [], _, _, _ => Iff.rfl
  | p :: r, h, a, b => by
    have hp := h p (.head _)
    have ih := fits_beg (T := T) r (fun q hq => h q (.tail _ hq)) a (nextBeg T b p)
    rw [List.foldl_cons, ← ih, List.reverse_cons, fits_append]
    have hs : ((places T p).filter (fun (k : Nat) => decide ((k : Int) + p.length ≤ b))).Pairwise (· < ·) := List.Pairwise.filter _ (places_sorted T p)
    unfold nextBeg
    cases hl : ((places T p).filter (fun (k : Nat) => decide ((k : Int) + p.length ≤ b))).getLast? with
    | none =>
      rw [List.getLast?_eq_none_iff, List.filter_eq_nil_iff] at hl
      constructor
      · rintro ⟨c, _, h2⟩
        obtain ⟨k, h3, h4, h5⟩ := fits_one.mp h2
        exact absurd (decide_eq_true h5) (hl k ((mem_places hp).mpr h4))
      · intro h2
        have : (a : Int) ≤ -1 := h2.le
        omega
    | some k =>
      obtain ⟨h1, h2⟩ := last_most hs hl
      rw [List.mem_filter] at h1
      constructor
      · rintro ⟨c, h3, h4⟩
        obtain ⟨k', h5, h6, h7⟩ := fits_one.mp h4
        have := h2 k' (List.mem_filter.mpr ⟨(mem_places hp).mpr h6, decide_eq_true h7⟩)
        exact h3.right (show (c : Int) ≤ (k : Int) by omega)
      · intro h3
        exact ⟨k, h3, fits_one.mpr ⟨k, Nat.le_refl _, (mem_places hp).mp h1.1, of_decide_eq_true h1.2⟩⟩
theorem newRow_iff {T p : List Nat} {row : Nat → Bool} : ∀ n, newRow T p row n = true ↔ ∃ m, m ≤ n ∧ here T p row m = true
  | 0 => ⟨fun h => ⟨0, Nat.le_refl _, h⟩, fun ⟨m, h1, h2⟩ => by obtain rfl := Nat.le_zero.mp h1; exact h2⟩
  | n + 1 => by
    rw [newRow, Bool.or_eq_true, newRow_iff n]
    constructor
    · rintro (h | ⟨m, h1, h2⟩)
      · exact ⟨n + 1, Nat.le_refl _, h⟩
      · exact ⟨m, Nat.le_succ_of_le h1, h2⟩
    · rintro ⟨m, h1, h2⟩
      rcases Nat.lt_or_ge n m with h | h
      · obtain rfl : m = n + 1 := by omega
        exact .inl h2
      · exact .inr ⟨m, h, h2⟩
theorem fits_row {T : List Nat} (ps : List (List Nat)) : ∀ n : Nat, ps.foldl (fun row p => newRow T p row) (fun _ => true) n = true ↔ Fits T ps 0 (n : Int) := by
  suffices H : ∀ (qs : List (List Nat)) (n : Nat), qs.reverse.foldl (fun row p => newRow T p row) (fun _ => true) n = true ↔ Fits T qs.reverse 0 (n : Int) by
    intro n
    have := H ps.reverse n
    rwa [List.reverse_reverse] at this
  intro qs
  induction qs with
  | nil => intro n; exact ⟨fun _ => Int.natCast_nonneg n, fun _ => rfl⟩
  | cons p r ih =>
    intro n
    rw [List.reverse_cons, List.foldl_append, List.foldl_cons, List.foldl_nil, newRow_iff, fits_append]
    constructor
    · rintro ⟨m, h1, h2⟩
      unfold here at h2
      rw [Bool.and_eq_true, Bool.and_eq_true, decide_eq_true_eq, occB_iff, ih] at h2
      exact ⟨m - p.length, h2.2.2, fits_one.mpr ⟨m - p.length, Nat.le_refl _, h2.2.1, by omega⟩⟩
    · rintro ⟨c, h1, h2⟩
      obtain ⟨k, h3, h4, h5⟩ := fits_one.mp h2
      refine ⟨k + p.length, by omega, ?_⟩
      unfold here
      rw [Bool.and_eq_true, Bool.and_eq_true, decide_eq_true_eq, occB_iff, ih, Nat.add_sub_cancel]
      exact ⟨by omega, h4, h1.right (by omega)⟩
theorem find_range {N E : Nat} {row : Nat → Bool} (hE : E ≤ N) (h : ∀ n, n < N → (row n = true ↔ E ≤ n)) : leastOf N row = E := by
  unfold leastOf
  cases hf : (List.range N).find? row with
  | none =>
    have h0 := List.find?_eq_none.mp hf
    rcases Nat.lt_or_ge E N with hlt | hge
    · exact absurd ((h E hlt).mpr (Nat.le_refl _)) (h0 E (List.mem_range.mpr hlt))
    · show N = E
      omega
  | some k =>
    have hk := List.find?_some hf
    have hm := List.mem_range.mp (List.mem_of_find?_eq_some hf)
    have h1 := (h k hm).mp hk
    show k = E
    rcases Nat.lt_or_ge E k with hlt | hge
    · exfalso
      obtain ⟨_, as, bs, e, hn⟩ := List.find?_eq_some_iff_append.mp hf
      have hEm : E ∈ as := by
        have hlen : as.length = k := by
          have h2 : (List.range N)[as.length]? = some k := by rw [e]; simp
          have h3 : as.length < N := by
            have := congrArg List.length e
            simp at this; omega
          rw [List.getElem?_range h3] at h2
          exact Option.some.inj h2
        have h2 : (List.range N)[E]? = as[E]? := by rw [e, List.getElem?_append_left (by omega)]
        rw [List.getElem?_range (by omega)] at h2
        exact List.mem_of_getElem? h2.symm
      have := hn E hEm
      rw [(h E (by omega)).mpr (Nat.le_refl _)] at this
      cases this
    · omega
theorem endAt_le {T : List Nat} {ps : List (List Nat)} (h : ∀ p ∈ ps, 1 ≤ p.length) (j : Nat) : endAt T ps j ≤ T.length + 1 :=
  fold_le _ (fun p hp => h p (List.mem_of_mem_take hp)) 0 (Nat.zero_le _)
theorem endAt_mono {T : List Nat} {ps : List (List Nat)} (h : ∀ p ∈ ps, 1 ≤ p.length) {j : Nat} (hj : j < ps.length) : endAt T ps j ≤ endAt T ps (j + 1) := by
  rw [endAt_succ T ps hj]
  exact le_next (endAt_le h j)
theorem endAt_fits {T : List Nat} {ps : List (List Nat)} (h : ∀ p ∈ ps, 1 ≤ p.length) (j : Nat) {b : Nat} (hb : b ≤ T.length) : Fits T (ps.take j) 0 (b : Int) ↔ endAt T ps j ≤ b :=
  fits_end hb _ (fun p hp => h p (List.mem_of_mem_take hp)) 0
theorem least_is {T : List Nat} {ps : List (List Nat)} (h : ∀ p ∈ ps, 1 ≤ p.length) (n : Nat) : toldLeast T ps n = toldEnds T ps n := by
  unfold toldLeast toldEnds
  refine List.map_congr_left fun i _ => find_range (endAt_le h i) fun n hn => ?_
  unfold rowAfter
  rw [fits_row, endAt_fits h i (by omega)]
/-- the cuts of the pieces -/
theorem cut_law {T : List Nat} {ps : List (List Nat)} (h : ∀ p ∈ ps, 1 ≤ p.length) {j : Nat} (hj : j ≤ ps.length) :
    ((endAt T ps j : Int) ≤ begAt T ps.reverse (ps.length - j)) ↔ endAt T ps ps.length ≤ T.length := by
  have e1 : ps.reverse.take (ps.length - j) = (ps.drop j).reverse := by
    rw [List.take_reverse, show ps.length - (ps.length - j) = j by omega]
  have hd : ∀ c : Nat, Fits T (ps.drop j) c (T.length : Int) ↔ (c : Int) ≤ begAt T ps.reverse (ps.length - j) := fun c => by
    have := fits_beg (T := T) (ps.drop j).reverse (fun p hp => h p (List.mem_of_mem_drop (List.mem_reverse.mp hp))) c T.length
    rw [List.reverse_reverse] at this
    rw [this]
    unfold begAt
    rw [e1]
  rw [← endAt_fits h ps.length (Nat.le_refl _), List.take_length]
  have e2 : Fits T ps 0 (T.length : Int) ↔ Fits T (ps.take j ++ ps.drop j) 0 (T.length : Int) := by rw [List.take_append_drop]
  rw [e2, fits_append]
  constructor
  · intro q
    have q2 := (hd (endAt T ps j)).mpr q
    refine ⟨endAt T ps j, ?_, q2⟩
    have := q2.le
    exact (endAt_fits h j (by omega)).mpr (Nat.le_refl _)
  · rintro ⟨c, h1, h2⟩
    have h3 := (hd c).mp h2
    have h4 := h2.le
    have := (endAt_fits h j (show c ≤ T.length by omega)).mp h1
    omega
theorem fits_nil_cons {T : List Nat} {r : List (List Nat)} {a : Nat} {b : Int} : Fits T ([] :: r) a b ↔ Fits T r a b :=
  ⟨fun ⟨_, h1, _, h3⟩ => h3.left h1, fun h => ⟨a, Nat.le_refl _, rfl, h⟩⟩
theorem fits_snoc_nil {T : List Nat} {ps : List (List Nat)} {a : Nat} {b : Int} : Fits T (ps ++ [[]]) a b ↔ Fits T ps a b := by
  rw [fits_append]
  constructor
  · rintro ⟨c, h1, h2⟩
    exact h1.right h2.le
  · intro h
    have := h.le
    refine ⟨b.toNat, h.right (by omega), fits_nil_cons.mpr ?_⟩
    show ((b.toNat : Nat) : Int) ≤ b
    omega
theorem occ_take {T p : List Nat} {n k : Nat} (h : k + p.length ≤ n) : Occ (T.take n) p k ↔ Occ T p k := by
  unfold Occ
  rw [List.drop_take, List.take_take, Nat.min_eq_left (by omega)]
theorem fits_take {T : List Nat} {n : Nat} : ∀ {ps : List (List Nat)} {a : Nat}, Fits (T.take n) ps a (n : Int) ↔ Fits T ps a (n : Int)
  | [], _ => Iff.rfl
  | p :: r, a => by
    constructor
    · rintro ⟨k, h1, h2, h3⟩
      have := h3.le
      exact ⟨k, h1, (occ_take (by omega)).mp h2, fits_take.mp h3⟩
    · rintro ⟨k, h1, h2, h3⟩
      have := h3.le
      exact ⟨k, h1, (occ_take (by omega)).mpr h2, fits_take.mpr h3⟩
theorem fits_drop {T : List Nat} {n : Nat} {b : Int} : ∀ {ps : List (List Nat)} {a : Nat}, Fits (T.drop n) ps a b ↔ Fits T ps (a + n) (b + n)
  | [], a => by show (a : Int) ≤ b ↔ ((a + n : Nat) : Int) ≤ b + n; omega
  | p :: r, a => by
    have ho : ∀ k, Occ (T.drop n) p k ↔ Occ T p (k + n) := fun k => by unfold Occ; rw [List.drop_drop, Nat.add_comm n k]
    constructor
    · rintro ⟨k, h1, h2, h3⟩
      refine ⟨k + n, by omega, (ho k).mp h2, ?_⟩
      have := fits_drop.mp h3
      rwa [show k + p.length + n = k + n + p.length by omega] at this
    · rintro ⟨k, h1, h2, h3⟩
      refine ⟨k - n, by omega, (ho _).mpr (by rwa [show k - n + n = k by omega]), ?_⟩
      refine fits_drop.mpr ?_
      rwa [show k - n + p.length + n = k + p.length by omega]
end Mine
end

-- PL3
set_option maxHeartbeats 1000000
section
open PySem.Calls PySem.Spec
namespace Mine
open Builtin Builtin.Str StrLaws
theorem at_iff {x y : Str} {hi i : Nat} : At x y hi i ↔ i + y.length ≤ hi ∧ Occ (sg x) (sg y) i := by
  unfold At Occ
  rw [subAt_eq, sg_len, beq_iff_eq]
theorem occ_head (x y : Str) (lo hi : Nat) :
    (occurrences x y lo hi 1 = [] ∧ ∀ i, lo ≤ i → ¬ At x y hi i) ∨
    ∃ i r, occurrences x y lo hi 1 = i :: r ∧ lo ≤ i ∧ At x y hi i ∧ ∀ k, lo ≤ k → k < i → ¬ At x y hi k := by
  rw [occ_eq]
  rcases occ_first x y hi 1 (Nat.le_refl _) (List.range' lo (hi + 1 - lo)) lo (fun i h => (List.mem_range'_1.mp h).1) with ⟨e, hn⟩ | ⟨pre, a, post, e, h0, ha, hn⟩
  · exact .inl ⟨by rw [e], fun i h1 h2 => hn i (List.mem_range'_1.mpr ⟨h1, by have := h2.1; omega⟩) h2⟩
  · obtain ⟨q1, q2⟩ := range'_split_from e
    generalize (forIn (List.range' lo (hi + 1 - lo)) ((#[] : Array Nat), lo) (occBody x y hi 1)).run.fst = arr at h0
    obtain ⟨l⟩ := arr
    cases l with
    | nil => cases h0
    | cons b t =>
      obtain rfl : b = a := Option.some.inj h0
      exact .inr ⟨b, t, rfl, q1, ha, fun k h1 h2 => hn k (q2 k h1 h2)⟩
theorem em_fits {got : Str} {ep : Nat} : ∀ (ws : List Str) (sp : Nat), sp ≤ ep → (emLoop got ep ws sp = true ↔ Fits (sg got) (ws.map sg) sp (ep : Int))
  | [], sp, h => ⟨fun _ => Int.ofNat_le.mpr h, fun _ => rfl⟩
  | w :: r, sp, h => by
    rw [emLoop]
    rcases occ_head got w sp ep with ⟨e, hn⟩ | ⟨k, q, e, h1, h2, h3⟩
    · rw [e]
      constructor
      · intro h; cases h
      · rintro ⟨k, h1, h2, h3⟩
        have h4 := h3.le
        rw [sg_len] at h4
        exact absurd (at_iff.mpr ⟨by omega, h2⟩) (hn k h1)
    · rw [e]
      show emLoop got ep r (k + w.length) = true ↔ _
      rw [em_fits r _ h2.1]
      constructor
      · intro q
        exact ⟨k, h1, (at_iff.mp h2).2, by rw [sg_len]; exact q⟩
      · rintro ⟨k', a1, a2, a3⟩
        have h4 := a3.le
        rw [sg_len] at h4 a3
        refine a3.left (Nat.add_le_add_right (Nat.le_of_not_lt fun hlt => ?_) _)
        exact h3 k' a1 hlt (at_iff.mpr ⟨by omega, a2⟩)
theorem sg_empty : sg Str.empty = [] := rfl
theorem sg_nil {x : Str} (h : x.length = 0) : sg x = [] := List.length_eq_zero_iff.mp (by rw [sg_len]; exact h)
theorem starts_iff {got w : Str} : (w.length == 0 || Txt.startswith got w) = true ↔ w.length ≤ got.length ∧ Occ (sg got) (sg w) 0 := by
  by_cases h : w.length = 0
  · rw [h]
    have := sg_nil h
    simp [this, Occ]
  · rw [beq_eq_false_iff_ne.mpr h, Bool.false_or]
    unfold Txt.startswith
    rw [Bool.and_eq_true, decide_eq_true_eq, Nat.zero_add]
    exact ⟨fun q => ⟨q.1, (at_iff.mp ⟨by rw [Nat.zero_add]; exact q.1, q.2⟩).2⟩, fun q => ⟨q.1, (at_iff.mpr ⟨by rw [Nat.zero_add]; exact q.1, q.2⟩ : At got w got.length 0).2⟩⟩
theorem ends_iff {got w : Str} : (w.length == 0 || Txt.endswith got w) = true ↔ w.length ≤ got.length ∧ Occ (sg got) (sg w) (got.length - w.length) := by
  by_cases h : w.length = 0
  · rw [h]
    have := sg_nil h
    simp [this, Occ]
  · rw [beq_eq_false_iff_ne.mpr h, Bool.false_or]
    unfold Txt.endswith
    rw [Bool.and_eq_true, decide_eq_true_eq, Nat.zero_add]
    exact ⟨fun q => ⟨q.1, (at_iff.mp (⟨by omega, q.2⟩ : At got w got.length _)).2⟩, fun q => ⟨q.1, (at_iff.mpr ⟨by omega, q.2⟩ : At got w got.length _).2⟩⟩
theorem emAll_iff (w0 : Str) (mid : List Str) (wl got : Str) : emAll w0 mid wl got = true ↔
    Occ (sg got) (sg w0) 0 ∧ (wl.length ≤ got.length ∧ Occ (sg got) (sg wl) (got.length - wl.length)) ∧ Fits (sg got) (mid.map sg) w0.length ((got.length - wl.length : Nat) : Int) := by
  unfold emAll
  rw [Bool.and_eq_true, Bool.and_eq_true, Bool.and_eq_true, starts_iff, ends_iff, decide_eq_true_eq]
  have hf : w0.length ≤ got.length - wl.length → (emLoop got (got.length - wl.length) ((if w0.length = 0 then [w0] else []) ++ (mid ++ if wl.length = 0 then [wl] else [])) w0.length = true ↔ Fits (sg got) (mid.map sg) w0.length ((got.length - wl.length : Nat) : Int)) := by
    intro hle
    rw [em_fits _ _ hle]
    have e2 : ∀ a : Nat, Fits (sg got) ((mid ++ if wl.length = 0 then [wl] else []).map sg) a ((got.length - wl.length : Nat) : Int) ↔ Fits (sg got) (mid.map sg) a ((got.length - wl.length : Nat) : Int) := fun a => by
      by_cases h : wl.length = 0
      · rw [if_pos h, List.map_append, List.map_cons, List.map_nil, sg_nil h, fits_snoc_nil]
      · rw [if_neg h, List.append_nil]
    by_cases h : w0.length = 0
    · rw [if_pos h, List.map_append, List.map_cons, List.map_nil, sg_nil h, List.cons_append, List.nil_append, fits_nil_cons, e2]
    · rw [if_neg h, List.nil_append, e2]
  constructor
  · rintro ⟨⟨h1, h2⟩, h3, h4, h5⟩
    exact ⟨h2, h3, (hf h4).mp h5⟩
  · rintro ⟨h2, h3, h5⟩
    have := h5.le
    exact ⟨⟨by omega, h2⟩, h3, by omega, (hf (by omega)).mpr h5⟩
theorem emAll_mid (ps : List Str) (got : Str) : emAll Str.empty ps Str.empty got = true ↔ Fits (sg got) (ps.map sg) 0 (got.length : Int) := by
  rw [emAll_iff]
  constructor
  · exact fun h => h.2.2
  · exact fun h => ⟨rfl, ⟨Nat.zero_le _, rfl⟩, h⟩
/-- a front that the pattern takes -/
theorem front_law {text : Str} {ps : List Str} (h : ∀ p ∈ ps, 1 ≤ p.length) {k : Nat} (hk : k ≤ text.length) :
    emAll Str.empty ps Str.empty (Txt.slice text none (some (k : Int))) = decide ((ps.map sg).foldl (nextEnd (sg text)) 0 ≤ k) := by
  rw [Bool.eq_iff_iff, emAll_mid, decide_eq_true_eq, slice_to_sg]
  have e : (Txt.slice text none (some (k : Int))).length = k := by
    rw [← sg_len, slice_to_sg, List.length_take, sg_len]; omega
  rw [e, fits_take, fits_end (by rw [sg_len]; exact hk) _ (fun p hp => ?_)]
  obtain ⟨q, hq, rfl⟩ := List.mem_map.mp hp
  rw [sg_len]
  exact h q hq
theorem tail_law {text : Str} {ps : List Str} (h : ∀ p ∈ ps, 1 ≤ p.length) {k : Nat} (hk : k ≤ text.length) :
    emAll Str.empty ps Str.empty (Txt.slice text (some (k : Int)) none) = decide ((k : Int) ≤ (ps.map sg).reverse.foldl (nextBeg (sg text)) (text.length : Int)) := by
  rw [Bool.eq_iff_iff, emAll_mid, decide_eq_true_eq, slice_from_sg text hk]
  have e : (Txt.slice text (some (k : Int)) none).length = text.length - k := by
    rw [← sg_len, slice_from_sg text hk, List.length_drop, sg_len]
  rw [e, fits_drop, Nat.zero_add, show ((text.length - k : Nat) : Int) + (k : Int) = (text.length : Int) by omega]
  rw [← fits_beg _ (fun p hp => ?_), List.reverse_reverse]
  obtain ⟨q, hq, rfl⟩ := List.mem_map.mp (List.mem_reverse.mp hp)
  rw [sg_len]
  exact h q hq
/-! the texts that split gives back -/
theorem sg_app (x y : Str) : sg (x ++ y) = sg x ++ sg y := by simp [sg, Str.cps_append]
theorem split_parts {x y : Str} (hk : strKind y = 1) (hy : 1 ≤ y.length) : Txt.split x y = partsFrom x y.length 0 (occurrences x y 0 x.length (x.length + 1)) := by
  have h1 : ¬ strKind x < strKind y := by
    rw [hk]; unfold Builtin.Str.strKind; split
    · omega
    · split <;> omega
  unfold Txt.split
  by_cases hl : x.length < y.length
  · rw [decide_eq_true hl, Bool.true_or, if_pos rfl]
    obtain ⟨f, hG, _⟩ := occ_tight x y hy
    cases ho : occurrences x y 0 x.length (x.length + 1) with
    | nil => show [x] = [strSub x 0 x.length]; rw [sub_whole]
    | cons c r =>
      rw [ho] at hG
      have := hG.2.1.1
      omega
  · rw [decide_eq_false hl, decide_eq_false h1, Bool.or_self, if_neg Bool.false_ne_true]
    split
    · rename_i he
      rw [List.isEmpty_iff.mp he]
      show [x] = [strSub x 0 x.length]
      rw [sub_whole]
    · exact partsBetween_eq _ _ _
theorem at_char {x sep : Str} {c n k : Nat} (hs : sg sep = List.replicate (n + 1) c) (h : At x sep x.length k) : (sg x)[k]? = some c := by
  have h1 := (at_iff.mp h).2
  unfold Occ at h1
  have h2 : (((sg x).drop k).take (sg sep).length)[0]? = some c := by rw [h1, hs]; rfl
  rw [List.getElem?_take_of_lt (by rw [hs]; simp), List.getElem?_drop] at h2
  exact h2
theorem parts_join {x sep : Str} {c n : Nat} (hs : sg sep = List.replicate (n + 1) c) : ∀ (ws : List Str) (a f : Nat) (cuts : List Nat), ws ≠ [] → (∀ w ∈ ws, c ∉ sg w) →
    (sg x).drop a = sg (Str.join sep ws) → a ≤ x.length → ChainG x sep x.length a cuts f → (∀ k, f ≤ k → ¬ At x sep x.length k) → partsFrom x sep.length a cuts = ws
  | [], _, _, _, h, _, _, _, _, _ => absurd rfl h
  | [w], a, f, cuts, _, hw, hx, ha, hG, hn => by
    have hx : (sg x).drop a = sg w := hx
    have hno : ∀ k, a ≤ k → ¬ At x sep x.length k := fun k hk hA => by
      have h1 := at_char hs hA
      have h2 : ((sg x).drop a)[k - a]? = some c := by rw [List.getElem?_drop, show a + (k - a) = k by omega]; exact h1
      rw [hx] at h2
      exact hw w (.head _) (List.mem_of_getElem? h2)
    cases cuts with
    | nil =>
      show [strSub x a x.length] = [w]
      congr 1
      apply sg_ext
      show (strSub x a x.length).cps.toList = _
      rw [strSub_toList, List.take_of_length_le (by rw [List.length_drop]; show (sg x).length - a ≤ _; rw [sg_len]; exact Nat.le_refl _)]
      exact hx
    | cons d r => exact absurd hG.2.1 (hno d hG.1)
  | w :: w2 :: r, a, f, cuts, _, hw, hx, ha, hG, hn => by
    have hx : (sg x).drop a = sg (w ++ sep ++ Str.join sep (w2 :: r)) := hx
    rw [sg_app, sg_app, List.append_assoc] at hx
    have hlen := congrArg List.length hx
    rw [List.length_drop, List.length_append, List.length_append, sg_len, sg_len, sg_len] at hlen
    have hsl : sep.length = n + 1 := by rw [← sg_len, hs, List.length_replicate]
    have hd : (sg x).drop (a + w.length) = sg sep ++ sg (Str.join sep (w2 :: r)) := by
      rw [← List.drop_drop, hx, ← sg_len, List.drop_left]
    have hat : At x sep x.length (a + w.length) := at_iff.mpr ⟨by omega, by unfold Occ; rw [hd, List.take_left]⟩
    have hno : ∀ k, a ≤ k → k < a + w.length → ¬ At x sep x.length k := fun k hk hk2 hA => by
      have h1 := at_char hs hA
      have h2 : ((sg x).drop a)[k - a]? = some c := by rw [List.getElem?_drop, show a + (k - a) = k by omega]; exact h1
      rw [hx, List.getElem?_append_left (by rw [sg_len]; omega)] at h2
      exact hw w (.head _) (List.mem_of_getElem? h2)
    cases cuts with
    | nil =>
      obtain rfl : f = a := hG
      exact absurd hat (hn _ (Nat.le_add_right _ _))
    | cons d q =>
      obtain ⟨g1, g2, g3, g4⟩ := hG
      obtain rfl : d = a + w.length := by
        rcases Nat.lt_trichotomy d (a + w.length) with h | h | h
        · exact absurd g2 (hno d g1 h)
        · exact h
        · exact absurd hat (g3 _ (Nat.le_add_right _ _) h)
      show strSub x a (a + w.length) :: partsFrom x sep.length (a + w.length + sep.length) q = _
      rw [parts_join hs (w2 :: r) (a + w.length + sep.length) f q (List.cons_ne_nil _ _) (fun v hv => hw v (.tail _ hv)) ?_ (by have := g2.1; omega) g4 hn]
      · congr 1
        apply sg_ext
        show (strSub x a (a + w.length)).cps.toList = _
        rw [strSub_toList, Nat.add_sub_cancel_left]
        show ((sg x).drop a).take _ = _
        rw [hx, ← sg_len, List.take_left]
      · rw [← List.drop_drop, hd, ← sg_len, List.drop_left]
theorem split_join_free {sep : Str} {c n : Nat} (hs : sg sep = List.replicate (n + 1) c) (hk : strKind sep = 1) {ws : List Str} (hne : ws ≠ []) (hw : ∀ w ∈ ws, c ∉ sg w) : Txt.split (Txt.join sep ws) sep = ws := by
  have hsl : sep.length = n + 1 := by rw [← sg_len, hs, List.length_replicate]
  rw [split_parts hk (by omega)]
  obtain ⟨f, hG, hn⟩ := occ_tight (Txt.join sep ws) sep (by omega)
  refine parts_join hs ws 0 f _ hne hw ?_ (Nat.zero_le _) hG hn
  show (sg (glued sep ws)).drop 0 = _
  rw [glued_eq_join, List.drop_zero]
def dash : Str := Str.ofString "-"
def dots : Str := Str.ofString "..."
theorem pat_split {ws : List Str} (hne : ws ≠ []) (h1 : ∀ w ∈ ws, 45 ∉ sg w) (h2 : ∀ w ∈ ws, 46 ∉ sg w) : Txt.split (Txt.join dots (Txt.split (Txt.join dash ws) dash)) dots = ws := by
  rw [split_join_free (sep := dash) (c := 45) (n := 0) (by decide) (by decide +kernel) hne h1, split_join_free (sep := dots) (c := 46) (n := 2) (by decide) (by decide +kernel) hne h2]
theorem join_nil_cons (sep : Str) {ws : List Str} (hne : ws ≠ []) : Str.join sep (Str.empty :: ws) = sep ++ Str.join sep ws := by
  cases ws with
  | nil => exact absurd rfl hne
  | cons w r =>
    show Str.empty ++ sep ++ Str.join sep (w :: r) = _
    apply sg_ext
    rw [sg_app, sg_app, sg_app, sg_empty, List.nil_append]
theorem join_snoc_nil (sep : Str) : ∀ {ws : List Str}, ws ≠ [] → Str.join sep (ws ++ [Str.empty]) = Str.join sep ws ++ sep
  | [], h => absurd rfl h
  | [w], _ => by
    show w ++ sep ++ Str.empty = w ++ sep
    apply sg_ext
    rw [sg_app, sg_empty, List.append_nil]
  | w :: w2 :: r, _ => by
    show w ++ sep ++ Str.join sep ((w2 :: r) ++ [Str.empty]) = w ++ sep ++ Str.join sep (w2 :: r) ++ sep
    rw [join_snoc_nil sep (List.cons_ne_nil _ _)]
    apply sg_ext
    simp only [sg_app, List.append_assoc]
theorem found_dots {ws : List Str} (h : 2 ≤ ws.length) : (occurrences (Txt.join dots ws) dots 0 (Txt.join dots ws).length 1).isEmpty = false := by
  match ws, h with
  | w :: w2 :: r, _ =>
    have e : Txt.join dots (w :: w2 :: r) = w ++ dots ++ Str.join dots (w2 :: r) := by
      show glued _ _ = _
      rw [glued_eq_join]; rfl
    have := (found_iff (Txt.join dots (w :: w2 :: r)) dots).mpr ⟨w.length, (at_iff.mpr ⟨?_, ?_⟩ : At _ _ (Txt.join dots (w :: w2 :: r)).length _)⟩
    · simpa using this
    · rw [e, Str.length_append, Str.length_append]; omega
    · unfold Occ
      rw [e, sg_app, sg_app, List.append_assoc, ← sg_len, List.drop_left, List.take_left]
end Mine
end

-- PL4
set_option maxHeartbeats 1000000
section
open PySem.Calls PySem.Spec
namespace Mine
open Builtin Builtin.Str StrLaws
def tiedA (T p0 : List Nat) (a : Str) : Bool := (a == dash) || occB T p0 0
def tiedB (T : List Nat) (ps : List (List Nat)) (pl : List Nat) (b : Str) : Bool :=
  if b = dash then decide (endAt T ps ps.length ≤ T.length) else occB T pl (T.length - pl.length) && decide (endAt T ps (ps.length - 1) ≤ T.length - pl.length)
theorem fits_zero {T p : List Nat} {r : List (List Nat)} {b : Int} (h : Occ T p 0) : Fits T (p :: r) 0 b ↔ Fits T r p.length b :=
  ⟨fun ⟨k, _, _, h3⟩ => h3.left (Nat.le_add_left _ _), fun q => ⟨0, Nat.le_refl _, h, by rw [Nat.zero_add]; exact q⟩⟩
theorem join_frame (sep : Str) {ps : List Str} (hne : ps ≠ []) (a b : Bool) :
    (if a then sep else Str.empty) ++ Txt.join sep ps ++ (if b then sep else Str.empty) = Txt.join sep ((if a then [Str.empty] else []) ++ (ps ++ if b then [Str.empty] else [])) := by
  show _ ++ glued sep ps ++ _ = glued sep _
  rw [glued_eq_join, glued_eq_join]
  have hb : Str.join sep (ps ++ if b then [Str.empty] else []) = Str.join sep ps ++ (if b then sep else Str.empty) := by
    cases b
    · rw [if_neg Bool.false_ne_true, if_neg Bool.false_ne_true, List.append_nil]
      apply sg_ext; rw [sg_app, sg_empty, List.append_nil]
    · exact join_snoc_nil sep hne
  cases a
  · rw [if_neg Bool.false_ne_true, if_neg Bool.false_ne_true, List.nil_append, hb]
    apply sg_ext; simp only [sg_app, sg_empty, List.nil_append]
  · rw [if_pos rfl, if_pos rfl, List.cons_append, List.nil_append, join_nil_cons sep (by simp [hne]), hb]
    apply sg_ext; simp only [sg_app, List.append_assoc]
theorem join_len (sep : Str) (ws : List Str) : (Txt.join sep ws).length ≤ (ws.map (·.length)).sum + ws.length * sep.length := by
  show (glued sep ws).length ≤ _
  rw [glued_eq_join]
  exact join_length_le _ _
/-- the pattern of pieces, tied or not at its ends -/
theorem tied_law {text p0 pl : Str} {mid : List Str} {ps : List Str} (e : ps = p0 :: (mid ++ [pl])) (h2 : (ps.map (·.length)).sum + ps.length ≤ 300) (hp : ∀ p ∈ ps, 1 ≤ p.length ∧ p.length ≤ text.length ∧ 45 ∉ sg p ∧ 46 ∉ sg p) (a b : Bool) {x : Str}
    (hx : x = (if a then dash else Str.empty) ++ Txt.join dash ps ++ (if b then dash else Str.empty)) :
    (occurrences (Txt.join dots (Txt.split x dash)) dots 0 (Txt.join dots (Txt.split x dash)).length 1).isEmpty = false ∧ (Txt.join dots (Txt.split x dash)).length ≤ 1000 ∧
    ∃ w0 md wl, md.length ≤ 1000 ∧ Txt.split (Txt.join dots (Txt.split x dash)) dots = w0 :: (md ++ [wl]) ∧
      emAll w0 md wl text = (tiedA (sg text) (sg p0) (if a then dash else Str.empty) && tiedB (sg text) (ps.map sg) (sg pl) (if b then dash else Str.empty)) := by
  have hps : ps ≠ [] := by rw [e]; exact List.cons_ne_nil _ _
  generalize hws : (if a then [Str.empty] else []) ++ (ps ++ if b then [Str.empty] else []) = ws
  have hne : ws ≠ [] := by rw [← hws]; simp [hps]
  have hm : ∀ c, (∀ p ∈ ps, c ∉ sg p) → ∀ w ∈ ws, c ∉ sg w := fun c h w hw => by
    rw [← hws] at hw
    rcases List.mem_append.mp hw with q | q
    · split at q
      · rw [List.mem_singleton.mp q, sg_empty]; exact fun q => nomatch q
      · cases q
    · rcases List.mem_append.mp q with q | q
      · exact h w q
      · split at q
        · rw [List.mem_singleton.mp q, sg_empty]; exact fun q => nomatch q
        · cases q
  have f1 := hm 45 fun p q => (hp p q).2.2.1
  have f2 := hm 46 fun p q => (hp p q).2.2.2
  have ex : x = Txt.join dash ws := by rw [hx, join_frame dash hps, hws]
  have es : Txt.split x dash = ws := by rw [ex]; exact split_join_free (sep := dash) (c := 45) (n := 0) (by decide) (by decide +kernel) hne f1
  rw [es]
  have hlen : 2 ≤ ws.length := by rw [← hws, e]; simp; omega
  have hsum : (ws.map (·.length)).sum = (ps.map (·.length)).sum ∧ ws.length ≤ ps.length + 2 := by
    rw [← hws]
    cases a <;> cases b <;> simp [Str.length, Str.empty]
  have hd3 : dots.length = 3 := by decide
  refine ⟨found_dots hlen, ?_, ?_⟩
  · have := join_len dots ws
    rw [hd3] at this
    omega
  rw [split_join_free (sep := dots) (c := 46) (n := 2) (by decide) (by decide +kernel) hne f2]
  have ne : ∀ p ∈ ps.map sg, 1 ≤ p.length := fun p q => by
    obtain ⟨p', h', rfl⟩ := List.mem_map.mp q
    rw [sg_len]; exact (hp p' h').1
  have hml : mid.length + 2 = ps.length := by rw [e]; simp
  have eA : tiedA (sg text) (sg p0) Str.empty = occB (sg text) (sg p0) 0 := by
    unfold tiedA; rw [show (Str.empty == dash) = false by decide, Bool.false_or]
  have eA' : tiedA (sg text) (sg p0) dash = true := by unfold tiedA; rw [beq_self_eq_true, Bool.true_or]
  have eB : tiedB (sg text) (ps.map sg) (sg pl) Str.empty = true ↔ Occ (sg text) (sg pl) (text.length - pl.length) ∧ Fits (sg text) ((p0 :: mid).map sg) 0 ((text.length - pl.length : Nat) : Int) := by
    unfold tiedB
    rw [if_neg (by decide), Bool.and_eq_true, occB_iff, decide_eq_true_eq, sg_len, sg_len, ← endAt_fits ne _ (by rw [sg_len]; omega)]
    have et : (ps.map sg).take ((ps.map sg).length - 1) = (p0 :: mid).map sg := by
      rw [e, ← List.map_take]
      simp
    rw [et]
  have eB' : tiedB (sg text) (ps.map sg) (sg pl) dash = true ↔ Fits (sg text) (ps.map sg) 0 (text.length : Int) := by
    unfold tiedB
    rw [if_pos rfl, decide_eq_true_eq, sg_len, ← endAt_fits ne _ (by rw [sg_len]; exact Nat.le_refl _), List.take_length]
  have hpl := (hp pl (by rw [e]; simp)).2.1
  cases a <;> cases b
  · refine ⟨p0, mid, pl, by omega, by rw [← hws, e]; simp, ?_⟩
    rw [Bool.eq_iff_iff, emAll_iff, Bool.and_eq_true, if_neg Bool.false_ne_true, eA, eB, occB_iff]
    constructor
    · rintro ⟨h1, h2, h3⟩
      exact ⟨h1, h2.2, (fits_zero h1).mpr (by rw [sg_len]; exact h3)⟩
    · rintro ⟨h1, h2, h3⟩
      have := (fits_zero h1).mp h3
      rw [sg_len] at this
      exact ⟨h1, ⟨hpl, h2⟩, this⟩
  · refine ⟨p0, mid ++ [pl], Str.empty, by simp; omega, by rw [← hws, e]; simp, ?_⟩
    rw [Bool.eq_iff_iff, emAll_iff, Bool.and_eq_true, if_neg Bool.false_ne_true, if_pos rfl, eA, eB', occB_iff]
    have er : ps.map sg = sg p0 :: (mid ++ [pl]).map sg := by rw [e]; rfl
    rw [er]
    constructor
    · rintro ⟨h1, _, h3⟩
      exact ⟨h1, (fits_zero h1).mpr (by rw [sg_len]; exact h3)⟩
    · rintro ⟨h1, h3⟩
      have := (fits_zero h1).mp h3
      rw [sg_len] at this
      exact ⟨h1, ⟨Nat.zero_le _, rfl⟩, this⟩
  · refine ⟨Str.empty, p0 :: mid, pl, by simp; omega, by rw [← hws, e]; simp, ?_⟩
    rw [Bool.eq_iff_iff, emAll_iff, Bool.and_eq_true, if_pos rfl, if_neg Bool.false_ne_true, eA', eB]
    constructor
    · rintro ⟨_, h2, h3⟩
      exact ⟨rfl, h2.2, h3⟩
    · rintro ⟨_, h2, h3⟩
      exact ⟨rfl, ⟨hpl, h2⟩, h3⟩
  · refine ⟨Str.empty, ps, Str.empty, by omega, by rw [← hws]; simp, ?_⟩
    rw [Bool.eq_iff_iff, emAll_mid, Bool.and_eq_true, if_pos rfl, eA', eB']
    exact ⟨fun h => ⟨rfl, h⟩, fun h => h.2⟩
/-- what bisect_right at nought says of the first row of places -/
theorem right_zero {T p : List Nat} (hp : 1 ≤ p.length) {k : Nat} (h : RightAt (asInts (places T p)) 0 k) : ((k : Int) == 1) = occB T p 0 := by
  have hf := filter_right h
  have hk : k ≤ (places T p).length := by have := h.1; rwa [asInts_length] at this
  have hs : ((places T p).take k).Pairwise (· < ·) := (places_sorted T p).sublist (List.take_sublist _ _)
  have hz : ∀ y ∈ (places T p).take k, y = 0 := fun y hy => by
    rw [← hf, List.mem_filter, decide_eq_true_eq] at hy
    omega
  have hlen : ((places T p).take k).length = k := by rw [List.length_take]; omega
  rw [Bool.eq_iff_iff, beq_iff_eq, occB_iff, ← mem_places hp]
  constructor
  · intro e
    obtain rfl : k = 1 := by omega
    have hm : (places T p).take 1 ≠ [] := fun q => by rw [q] at hlen; cases hlen
    obtain ⟨y, hy⟩ := List.exists_mem_of_ne_nil _ hm
    have := hz y hy
    subst this
    exact List.mem_of_mem_take hy
  · intro h0
    have hm : 0 ∈ (places T p).take k := by
      rw [← hf, List.mem_filter]
      exact ⟨h0, by decide⟩
    match hq : (places T p).take k, hlen with
    | [], _ => rw [hq] at hm; cases hm
    | [y], hl => rw [← hl]; rfl
    | y :: z :: r, _ =>
      rw [hq] at hs hz
      have h1 := hz y (.head _)
      have h2 := hz z (.tail _ (.head _))
      have := List.rel_of_pairwise_cons hs (.head _)
      omega
/-- what bisect_left at the stop says of the last row of places -/
theorem left_stop {T p : List Nat} (hp : 1 ≤ p.length) (hl : p.length ≤ T.length) {k : Nat} (h : LeftAt (asInts (places T p)) ((T.length - p.length : Nat) : Int) k) : (k < (places T p).length) ↔ Occ T p (T.length - p.length) := by
  have hf := find_left h
  rw [← mem_places hp]
  constructor
  · intro hk
    rw [List.getElem?_eq_getElem hk] at hf
    obtain ⟨h1, h2, _⟩ := find_least (places_sorted T p) hf
    have := ((mem_places hp).mp h1).le hp
    rwa [show T.length - p.length = (places T p)[k] by omega]
  · intro hm
    refine Nat.lt_of_not_le fun hk => ?_
    rw [List.getElem?_eq_none hk] at hf
    exact absurd (decide_eq_true (Nat.le_refl _)) (List.find?_eq_none.mp hf _ hm)
end Mine
end

-- PL5
set_option maxHeartbeats 1000000
section
open PySem.Calls PySem.Spec
namespace Mine
open Builtin Builtin.Str StrLaws
section
variable {x y : Str}
/-- where the greedy cuts of y in x lie -/
def cutsOf (x y : Str) : List Nat := occurrences x y 0 x.length (x.length + 1)
theorem next_nil (hy : 1 ≤ y.length) {a : Nat} (h : ∀ k, a ≤ k → ¬ At x y x.length k) : nextEnd (sg x) a (sg y) = x.length + 1 := by
  unfold nextEnd
  cases hf : (places (sg x) (sg y)).find? (fun k => decide (a ≤ k)) with
  | none => show (sg x).length + 1 = _; rw [sg_len]
  | some k =>
    obtain ⟨h1, h2, _⟩ := find_least (places_sorted _ _) hf
    have h3 := (mem_places (by rw [sg_len]; exact hy)).mp h1
    have h4 := h3.le (by rw [sg_len]; exact hy)
    rw [sg_len, sg_len] at h4
    exact absurd (at_iff.mpr ⟨h4, h3⟩) (h k h2)
theorem next_cons (hy : 1 ≤ y.length) {a c : Nat} (h1 : a ≤ c) (h2 : At x y x.length c) (h3 : ∀ k, a ≤ k → k < c → ¬ At x y x.length k) : nextEnd (sg x) a (sg y) = c + y.length := by
  unfold nextEnd
  have hy' : 1 ≤ (sg y).length := by rw [sg_len]; exact hy
  cases hf : (places (sg x) (sg y)).find? (fun k => decide (a ≤ k)) with
  | none => exact absurd (decide_eq_true h1) (List.find?_eq_none.mp hf c ((mem_places hy').mpr (at_iff.mp h2).2))
  | some k =>
    obtain ⟨g1, g2, g3⟩ := find_least (places_sorted _ _) hf
    have g4 := (mem_places hy').mp g1
    have g5 := g4.le hy'
    rw [sg_len, sg_len] at g5
    have g6 := g3 c ((mem_places hy').mpr (at_iff.mp h2).2) h1
    have g7 : ¬ k < c := fun q => h3 k g2 q (at_iff.mpr ⟨g5, g4⟩)
    show k + (sg y).length = _
    rw [sg_len]
    omega
def toldR (T p : List Nat) : Nat → Nat → List Nat
  | a, 0 => [a]
  | a, n + 1 => a :: toldR T p (nextEnd T a p) n
theorem told_rep (T p : List Nat) : ∀ (n a : Nat), (List.range (n + 1)).map (fun i => ((List.replicate n p).take i).foldl (nextEnd T) a) = toldR T p a n
  | 0, a => rfl
  | n + 1, a => by
    rw [List.range_succ_eq_map, List.map_cons, List.map_map]
    show a :: _ = a :: _
    congr 1
    rw [← told_rep T p n (nextEnd T a p)]
    rfl
theorem toldEnds_rep (T p : List Nat) (n : Nat) : toldEnds T (List.replicate n p) n = toldR T p 0 n := told_rep T p n 0
theorem toldR_top (T p : List Nat) (hp : 1 ≤ p.length) : ∀ n, (toldR T p (T.length + 1) n).filter (fun e => decide (e ≤ T.length)) = []
  | 0 => by simp [toldR]
  | n + 1 => by
    rw [toldR, next_top T p hp, List.filter_cons, decide_eq_false (by omega)]
    exact toldR_top T p hp n
theorem chain_len : ∀ {cuts : List Nat} {a f : Nat}, 1 ≤ y.length → ChainG x y x.length a cuts f → cuts.length ≤ x.length - a
  | [], _, _, _, _ => Nat.zero_le _
  | c :: r, a, f, hy, h => by
    have h1 := chain_len hy h.2.2.2
    have h2 := h.2.1.1
    have h3 := h.1
    rw [List.length_cons]
    omega
theorem ends_chain (hy : 1 ≤ y.length) : ∀ {cuts : List Nat} {a f n : Nat}, ChainG x y x.length a cuts f → (∀ k, f ≤ k → ¬ At x y x.length k) → a ≤ x.length → cuts.length ≤ n →
    (toldR (sg x) (sg y) a n).filter (fun e => decide (e ≤ x.length)) = a :: cuts.map (· + y.length)
  | [], a, f, 0, _, _, ha, _ => by simp [toldR, ha]
  | [], a, f, n + 1, h, hn, ha, _ => by
    obtain rfl : f = a := h
    rw [toldR, next_nil hy hn, List.filter_cons, decide_eq_true ha, if_pos rfl]
    have := toldR_top (sg x) (sg y) (by rw [sg_len]; exact hy) n
    rw [sg_len] at this
    rw [this]; rfl
  | c :: r, a, f, 0, _, _, _, hl => absurd hl (Nat.not_succ_le_zero _)
  | c :: r, a, f, n + 1, h, hn, ha, hl => by
    rw [toldR, next_cons hy h.1 h.2.1 h.2.2.1, List.filter_cons, decide_eq_true ha, if_pos rfl, ends_chain hy h.2.2.2 hn h.2.1.1 (Nat.le_of_succ_le_succ hl)]
    rfl
theorem reps_chain (hy : 1 ≤ y.length) : ∀ {n : Nat} {cuts : List Nat} {a f : Nat}, ChainG x y x.length a cuts f → (∀ k, f ≤ k → ¬ At x y x.length k) → a ≤ x.length →
    ((List.replicate n (sg y)).foldl (nextEnd (sg x)) a ≤ x.length ↔ n ≤ cuts.length)
  | 0, cuts, a, f, _, _, ha => ⟨fun _ => Nat.zero_le _, fun _ => ha⟩
  | n + 1, [], a, f, h, hn, ha => by
    obtain rfl : f = a := h
    rw [List.replicate_succ, List.foldl_cons, next_nil hy hn]
    have := fold_top (sg x) (List.replicate n (sg y)) (fun p hp => by rw [List.eq_of_mem_replicate hp, sg_len]; exact hy)
    rw [sg_len] at this
    rw [this]
    simp
  | n + 1, c :: r, a, f, h, hn, ha => by
    rw [List.replicate_succ, List.foldl_cons, next_cons hy h.1 h.2.1 h.2.2.1, reps_chain hy h.2.2.2 hn h.2.1.1, List.length_cons]
    omega
theorem cuts_len (hy : 1 ≤ y.length) : (cutsOf x y).length ≤ x.length := by
  obtain ⟨f, h, _⟩ := occ_tight x y hy
  exact chain_len hy h
/-- the ends of as many pieces as the text has signs, those that lie in it -/
theorem copies_ends (hy : 1 ≤ y.length) : (toldEnds (sg x) (List.replicate x.length (sg y)) x.length).filter (fun e => decide (e ≤ x.length)) = 0 :: (cutsOf x y).map (· + y.length) := by
  obtain ⟨f, h, hn⟩ := occ_tight x y hy
  rw [toldEnds_rep]
  exact ends_chain hy h hn (Nat.zero_le _) (cuts_len hy)
theorem copies_fit (hy : 1 ≤ y.length) (n : Nat) : emAll Str.empty (List.replicate n y) Str.empty x = decide (n ≤ (cutsOf x y).length) := by
  obtain ⟨f, h, hn⟩ := occ_tight x y hy
  rw [Bool.eq_iff_iff, emAll_mid, decide_eq_true_eq, List.map_replicate, fits_end (by rw [sg_len]; exact Nat.le_refl _) _ (fun p hp => by rw [List.eq_of_mem_replicate hp, sg_len]; exact hy)]
  exact reps_chain hy h hn (Nat.zero_le _)
/-- what lies between the cuts, a mark behind each -/
def dueUp (x y : Str) (es : List Nat) : Nat → Str
  | 0 => Str.empty
  | i + 1 => dueUp x y es i ++ strSub x (es.getD i 0) (es.getD (i + 1) 0 - y.length) ++ Str.ofString "|"
theorem due_parts (cuts : List Nat) : ∀ i, i ≤ cuts.length →
    dueUp x y (0 :: cuts.map (· + y.length)) i ++ Str.join (Str.ofString "|") (partsFrom x y.length ((0 :: cuts.map (· + y.length)).getD i 0) (cuts.drop i)) = Str.join (Str.ofString "|") (partsFrom x y.length 0 cuts)
  | 0, _ => by
    apply sg_ext
    rw [sg_app]
    rfl
  | i + 1, hi => by
    have hlt : i < cuts.length := hi
    rw [← due_parts cuts i (Nat.le_of_lt hlt)]
    have e1 : cuts.drop i = cuts[i] :: cuts.drop (i + 1) := List.drop_eq_getElem_cons hlt
    have e2 : (0 :: cuts.map (· + y.length)).getD (i + 1) 0 = cuts[i] + y.length := by simp [List.getD_eq_getElem?_getD, hlt]
    rw [e1, dueUp, e2, Nat.add_sub_cancel]
    show _ = _ ++ Str.join _ (strSub x _ cuts[i] :: partsFrom x y.length (cuts[i] + y.length) (cuts.drop (i + 1)))
    obtain ⟨p, q, e3⟩ := partsFrom_ne x y.length (cuts[i] + y.length) (cuts.drop (i + 1))
    rw [e3]
    show _ = _ ++ (strSub x _ cuts[i] ++ Str.ofString "|" ++ Str.join _ (p :: q))
    apply sg_ext
    simp only [sg_app, List.append_assoc]
theorem due_law (hy : 1 ≤ y.length) (hk : strKind y = 1) : Txt.join (Str.ofString "|") (Txt.split x y) = dueUp x y (0 :: (cutsOf x y).map (· + y.length)) (cutsOf x y).length ++ strSub x ((0 :: (cutsOf x y).map (· + y.length)).getD (cutsOf x y).length 0) x.length := by
  show glued _ _ = _
  rw [glued_eq_join, split_parts hk hy]
  show Str.join _ (partsFrom x y.length 0 (cutsOf x y)) = _
  rw [← due_parts (cutsOf x y) (cutsOf x y).length (Nat.le_refl _), List.drop_length]
  rfl
theorem slice_sub {a b : Nat} (hab : a ≤ b) (hb : b ≤ x.length) : Txt.slice x (some (a : Int)) (some (b : Int)) = strSub x a b := by
  apply sg_ext
  rw [slice_sg x hab (by omega)]
  show _ = (strSub x a b).cps.toList
  rw [strSub_toList]
theorem slice_sub_end {a : Nat} (ha : a ≤ x.length) : Txt.slice x (some (a : Int)) none = strSub x a x.length := by
  apply sg_ext
  rw [slice_from_sg x ha]
  show _ = (strSub x a x.length).cps.toList
  rw [strSub_toList, List.take_of_length_le (by rw [List.length_drop]; show (sg x).length - a ≤ _; rw [sg_len]; exact Nat.le_refl _)]
/-- the cuts lie one behind the other -/
theorem chain_at : ∀ {cuts : List Nat} {a f i : Nat}, ChainG x y x.length a cuts f → i < cuts.length → a ≤ x.length →
    (a :: cuts.map (· + y.length)).getD i 0 + y.length ≤ (a :: cuts.map (· + y.length)).getD (i + 1) 0 ∧ (a :: cuts.map (· + y.length)).getD (i + 1) 0 ≤ x.length
  | c :: r, a, f, 0, h, _, _ => by
    have h1 := h.1
    have h2 := h.2.1.1
    show a + y.length ≤ c + y.length ∧ c + y.length ≤ x.length
    omega
  | c :: r, a, f, i + 1, h, hi, ha => by
    have := chain_at (i := i) h.2.2.2 (Nat.lt_of_succ_lt_succ hi) h.2.1.1
    exact this
theorem cuts_at (hy : 1 ≤ y.length) {i : Nat} (hi : i < (cutsOf x y).length) :
    (0 :: (cutsOf x y).map (· + y.length)).getD i 0 + y.length ≤ (0 :: (cutsOf x y).map (· + y.length)).getD (i + 1) 0 ∧ (0 :: (cutsOf x y).map (· + y.length)).getD (i + 1) 0 ≤ x.length := by
  obtain ⟨f, h, _⟩ := occ_tight x y hy
  exact chain_at h hi (Nat.zero_le _)
theorem cuts_last (hy : 1 ≤ y.length) : ∀ {i : Nat}, i ≤ (cutsOf x y).length → (0 :: (cutsOf x y).map (· + y.length)).getD i 0 ≤ x.length
  | 0, _ => Nat.zero_le _
  | i + 1, h => (cuts_at hy h).2
theorem due_len (hy : 1 ≤ y.length) : ∀ {i : Nat}, i ≤ (cutsOf x y).length → (dueUp x y (0 :: (cutsOf x y).map (· + y.length)) i).length ≤ i * (x.length + 1)
  | 0, _ => Nat.zero_le _
  | i + 1, h => by
    have ih := due_len hy (Nat.le_of_succ_le h)
    have e : (strSub x ((0 :: (cutsOf x y).map (· + y.length)).getD i 0) ((0 :: (cutsOf x y).map (· + y.length)).getD (i + 1) 0 - y.length)).length ≤ x.length := by
      rw [← sg_len]
      show (strSub x _ _).cps.toList.length ≤ _
      rw [strSub_toList, List.length_take, List.length_drop]
      show min _ ((sg x).length - _) ≤ _
      rw [sg_len]
      omega
    rw [dueUp, Str.length_append, Str.length_append, show (Str.ofString "|").length = 1 by decide, Nat.succ_mul]
    omega
end
/-- the pattern of some pieces -/
theorem patOf_law {ps : List Str} (hne : ps ≠ []) (h2 : (ps.map (·.length)).sum + ps.length ≤ 300) (hp : ∀ p ∈ ps, 45 ∉ sg p ∧ 46 ∉ sg p) :
    (occurrences (patOf ps) (Str.ofString "...") 0 (patOf ps).length 1).isEmpty = false ∧ Txt.split (patOf ps) (Str.ofString "...") = Str.empty :: (ps ++ [Str.empty]) ∧ (patOf ps).length ≤ 1000 := by
  have ex : Str.ofString "-" ++ Txt.join (Str.ofString "-") ps ++ Str.ofString "-" = Txt.join dash (Str.empty :: (ps ++ [Str.empty])) := join_frame dash hne true true
  have hm : ∀ c, (∀ p ∈ ps, c ∉ sg p) → ∀ w ∈ Str.empty :: (ps ++ [Str.empty]), c ∉ sg w := fun c h w hw => by
    rcases List.mem_cons.mp hw with rfl | hw
    · rw [sg_empty]; exact fun q => nomatch q
    · rcases List.mem_append.mp hw with hw | hw
      · exact h w hw
      · rw [List.mem_singleton.mp hw, sg_empty]; exact fun q => nomatch q
  have f1 := hm 45 fun p q => (hp p q).1
  have f2 := hm 46 fun p q => (hp p q).2
  have es : patOf ps = Txt.join dots (Str.empty :: (ps ++ [Str.empty])) := by
    unfold patOf
    rw [ex]
    show Txt.join dots (Txt.split _ dash) = _
    rw [split_join_free (sep := dash) (c := 45) (n := 0) (by decide) (by decide +kernel) (List.cons_ne_nil _ _) f1]
  rw [es]
  refine ⟨found_dots (by simp), split_join_free (sep := dots) (c := 46) (n := 2) (by decide) (by decide +kernel) (List.cons_ne_nil _ _) f2, ?_⟩
  have := join_len dots (Str.empty :: (ps ++ [Str.empty]))
  rw [show dots.length = 3 by decide] at this
  have e0 : Str.empty.length = 0 := rfl
  simp only [List.map_cons, List.map_append, List.map_nil, List.sum_cons, List.sum_append, List.sum_nil, List.length_cons, List.length_append, List.length_nil, e0] at this
  omega
end Mine
end

-- PL6
set_option maxHeartbeats 1000000
section
open PySem.Calls PySem.Spec
namespace Mine
theorem told_at {T : List Nat} {ps : List (List Nat)} {n j : Nat} (h : j ≤ n) : (asInts (toldEnds T ps n)).getD j 0 = ((endAt T ps j : Nat) : Int) := by
  simp [asInts, toldEnds, List.getD_eq_getElem?_getD, Nat.lt_succ_of_le h]
theorem tb_at {T : List Nat} {ps : List (List Nat)} {n j : Nat} (h : j ≤ n) : (toldBeg T ps n).getD j 0 = begAt T ps j := by
  simp [toldBeg, List.getD_eq_getElem?_getD, Nat.lt_succ_of_le h]
theorem front_hP {text : Str} {ps : List Str} (h : ∀ p ∈ ps, 1 ≤ p.length) (j : Nat) {k : Nat} (hk : k ≤ text.length) :
    emAll Str.empty (ps.take j) Str.empty (Txt.slice text none (some (k : Int))) = decide (endAt (sg text) (ps.map sg) j ≤ k) := by
  rw [front_law (fun p hp => h p (List.mem_of_mem_take hp)) hk, List.map_take]
  rfl
theorem beg_rev (T : List Nat) (ps : List Str) {j : Nat} (hj : j ≤ ps.length) : ((ps.drop (ps.length - j)).map sg).reverse.foldl (nextBeg T) (T.length : Int) = begAt T (ps.reverse.map sg) j := by
  unfold begAt
  rw [List.map_reverse, List.take_reverse, List.length_map, List.map_drop]
theorem tail_hP {text : Str} {ps : List Str} (h : ∀ p ∈ ps, 1 ≤ p.length) {j : Nat} (hj : j ≤ ps.length) {fin : Nat} (hf : begAt (sg text) (ps.reverse.map sg) j + 1 = (fin : Int)) {k : Nat} (hk : k ≤ text.length) :
    emAll Str.empty (ps.drop (ps.length - j)) Str.empty (Txt.slice text (some (k : Int)) none) = !decide (fin ≤ k) := by
  rw [tail_law (fun p hp => h p (List.mem_of_mem_drop hp)) hk]
  have e := beg_rev (sg text) ps hj
  rw [sg_len] at e
  rw [e]
  by_cases q : fin ≤ k
  · rw [decide_eq_true q, decide_eq_false (by omega)]; rfl
  · rw [decide_eq_false q, decide_eq_true (by omega)]; rfl
theorem nextBeg_le {T p : List Nat} {b : Int} : -1 ≤ nextBeg T b p ∧ nextBeg T b p ≤ (T.length : Int) := by
  unfold nextBeg
  cases hl : ((places T p).filter (fun (k : Nat) => decide ((k : Int) + p.length ≤ b))).getLast? with
  | none => exact ⟨Int.le_refl _, by show (-1 : Int) ≤ _; omega⟩
  | some k =>
    have hm := List.mem_of_getLast? hl
    rw [List.mem_filter] at hm
    have h1 := hm.1
    unfold places at h1
    rw [List.mem_filter, List.mem_range] at h1
    show (-1 : Int) ≤ (k : Int) ∧ (k : Int) ≤ _
    omega
theorem begAt_le (T : List Nat) (qs : List (List Nat)) : ∀ j, -1 ≤ begAt T qs j ∧ begAt T qs j ≤ (T.length : Int) := by
  intro j
  unfold begAt
  suffices H : ∀ (l : List (List Nat)) (b : Int), -1 ≤ b ∧ b ≤ (T.length : Int) → -1 ≤ l.foldl (nextBeg T) b ∧ l.foldl (nextBeg T) b ≤ (T.length : Int) from H _ _ ⟨by omega, Int.le_refl _⟩
  intro l
  induction l with
  | nil => exact fun b h => h
  | cons p r ih => exact fun b _ => ih _ nextBeg_le
theorem cut_hP {T : List Nat} {ps : List Str} (h : ∀ p ∈ ps.map sg, 1 ≤ p.length) {j : Nat} (hj : j ≤ ps.length) :
    decide ((endAt T (ps.map sg) j : Int) ≤ begAt T (ps.reverse.map sg) (ps.length - j)) = decide ((endAt T (ps.map sg) ps.length : Int) ≤ (T.length : Int)) := by
  have := cut_law (T := T) h (j := j) (by rw [List.length_map]; exact hj)
  rw [List.length_map, ← List.map_reverse] at this
  exact decide_eq_decide.mpr (this.trans Int.ofNat_le.symm)
theorem pick_upto (vs : List Value) {y : Int} (h : 0 ≤ y) : slicePick vs.toArray none (some y) none = (vs.take y.toNat).toArray := by
  have e : sliceBounds none (some y) none vs.toArray.size = (((0 : Nat) : Int), ((min y.toNat vs.toArray.size : Nat) : Int), 1) := by
    simp only [sliceBounds, Option.getD_none, show (1 : Int) > 0 by decide, if_true, if_neg (show ¬ (y < 0) by omega)]
    congr 1
    congr 1
    omega
  rw [kmk_pick_nat _ e]
  show ((vs.drop 0).take (min y.toNat vs.toArray.size - 0)).toArray = _
  rw [List.drop_zero, Nat.sub_zero, List.size_toArray, kmk_take_min]
theorem pick_from (vs : List Value) {x : Int} (h : 0 ≤ x) : slicePick vs.toArray (some x) none none = (vs.drop x.toNat).toArray := by
  have e : sliceBounds (some x) none none vs.toArray.size = (((min x.toNat vs.toArray.size : Nat) : Int), ((vs.toArray.size : Nat) : Int), 1) := by
    simp only [sliceBounds, Option.getD_none, show (1 : Int) > 0 by decide, if_true, if_neg (show ¬ (x < 0) by omega)]
    congr 1
    omega
  rw [kmk_pick_nat _ e]
  show ((vs.drop (min x.toNat vs.toArray.size)).take (vs.toArray.size - min x.toNat vs.toArray.size)).toArray = _
  rw [List.size_toArray, kmk_drop_min, List.take_of_length_le (by rw [List.length_drop]; omega)]
end Mine
end

-- T_tied
theorem Mine.calm15 : True := by first | walk1 | exact trivial
set_option maxHeartbeats 1500000
section
open PySem.Calls PySem.Spec
namespace Mine
open LCg LCt
local macro_rules | `(tactic| walk_at "exec For Name List cons nil") => `(tactic| refine Stop.to ?_)
local macro_rules | `(tactic| walk_at "pyIter ref") => `(tactic| refine Stop.to ?_)
local macro_rules | `(tactic| walk_at "eval BoolOp") => `(tactic| (rename Halt => hz; clear hz; refine Stop.to ?_))
structure Halt2 : Prop
local macro_rules | `(tactic| walk_at "subscriptTail Name UnaryOp ref int") => `(tactic| (rename Halt2 => hz; clear hz; refine Stop.to ?_))
local macro_rules | `(tactic| walk_at "exec If Compare cons cons") => `(tactic| (rename Halt => hz; clear hz; refine Stop.to ?_))
local macro_rules | `(tactic| walk_at "call ref") => `(tactic| refine Stop.to ?_)
local macro_rules | `(tactic| walk_at "eval Name") => `(tactic| (k_here; k_dflt (refine' ld ?k1 ?k2 ?_; (case k1 => k_asm); (case k2 => assumption); k_whole)))
variable {w : World} {A : Around} {s : Shared} {loose : List Str} {mean : ExcName → Option Value} {mg mb : Str → Option Value} {Q : Value → Shared → Prop} {E : Value → Shared → Prop}
theorem told_prev (T : List Nat) (ps : List (List Nat)) {n : Nat} (hn : 1 ≤ n) : (asInts (toldEnds T ps n)).getD ((-2 : Int) + ((asInts (toldEnds T ps n)).length : Nat)).toNat 0 = (endAt T ps (n - 1) : Int) := by
  rw [asInts_length, told_len, show ((-2 : Int) + ((n + 1 : Nat) : Int)).toNat = n - 1 by omega]
  simp [asInts, toldEnds, show n - 1 < n + 1 by omega]
theorem tied_ctr {text : Str} {t1 : Tok} {l l2 : Addr} {vs vs2 : List Value} {ps : List Str} (hl : s.heap.IsList l vs.toArray) (hi : StrsAre vs ps) (hl2 : s.heap.IsList l2 vs2.toArray) (hi2 : IntsAre vs2 (asInts (toldEnds (sg text) (ps.map sg) ps.length)))
   (h1 : text.length ≤ 500) (h2 : (ps.map (·.length)).sum + ps.length ≤ 300) (h3 : 2 ≤ ps.length) (hp : ∀ p ∈ ps, 1 ≤ p.length ∧ p.length ≤ text.length ∧ 45 ∉ sg p ∧ 46 ∉ sg p)
   (X : (hd.heap_39 w.params).In s.heap) (T : Top topProg loose mean mg mb s.heap)
   (hA : A.handled = none) (hroom : A.depth < 490)
   (ret : ∀ h' tk', s.heap.StaysIn h' → Q (.bool true) { s with heap := h', toks := tk' }) :
   wpAny (model Challenge.rw_pe0135_01.row.prog w) A (call (.ref 105) [.str text t1, .ref l, .ref l2]) Q E s := by
  obtain ⟨hand, dp, frs, gds, un⟩ := A
  obtain rfl : hand = none := hA
  w_top off
  revert X; k_fill; intro X
  have TR := topRead_of T
  refine enterP (binds := [("text", .str text t1), ("pieces", .ref l), ("ends", .ref l2)]) X T rfl (by rfl) (Nat.lt_of_lt_of_le hroom (by decide)) (BindsTo.of_eq rfl) (locs rfl) ?_
  intro L' h₁ F N
  k_steps
  obtain ⟨p0, qs, rfl⟩ : ∃ p0 qs, ps = p0 :: qs := by
    cases ps with
    | nil => exact absurd h3 (by decide)
    | cons p0 qs => exact ⟨p0, qs, rfl⟩
  obtain ⟨mid, pl, rfl⟩ : ∃ mid pl, qs = mid ++ [pl] := by
    rcases List.eq_nil_or_concat qs with rfl | ⟨mid, pl, e⟩
    · exact absurd h3 (Nat.lt_irrefl 1)
    · exact ⟨mid, pl, by rw [e]; simp⟩
  have hp0 := hp p0 (.head _)
  have hpl := hp pl (by simp)
  refine Stop.mk (places_ctr _ _ _ _ (by omega) (by show p0.length ≤ 1000; omega) (X.keeps F.keep) (T.keeps F.keep) rfl (by show dp + 1 < 500; have : dp < 490 := hroom; omega) ?_)
  intro D1 v1 h2' tk2 st2 fr2 hg2 hI1
  change IntsAre v1 (asInts (places (sg text) (sg p0))) at hI1
  have F2 := F.keeps st2
  have N2 := news_cons F N st2 fr2 hg2
  clear F N
  k_steps
  rename Fr _ _ _ _ => F3
  rename News _ _ _ _ => N3
  have eL : (p0 :: (mid ++ [pl])).getD ((-1 : Int) + ((p0 :: (mid ++ [pl])).length : Nat)).toNat Str.empty = pl := getD_last (p0 :: mid) pl
  rw [eL]
  refine Stop.mk (places_ctr _ _ _ _ (by omega) (by omega) (X.keeps F3.keep) (T.keeps F3.keep) rfl (by show dp + 1 < 500; have : dp < 490 := hroom; omega) ?_)
  intro D2 v2 h4 tk4 st4 fr4 hg4 hI2
  have F4 := F3.keeps st4
  have N4 := news_cons F3 N3 st4 fr4 hg4
  clear F3 N3
  k_steps
  rw [eL]
  k_steps
  rename Fr _ _ _ _ => F5
  rename News _ _ _ _ => N5
  refine Stop.mk ?_
  refine For_invV s.heap rfl rfl ?_
  k_steps
  rename_i hz0 Dl hz F6 N6 lz
  obtain ⟨tz, htz⟩ : ∃ t, t = tk := ⟨_, rfl⟩
  rw [← htz] at N6
  refine Stop.mk ?_
  have hdp : dp < 490 := hroom
  have ew : ∀ {x : Str} {k : Bool}, x = (if k then dash else Str.empty) → x.length ≤ 1 := fun {x k} e => by rw [e]; cases k <;> decide
  refine kdl_iter (h₀ := s.heap) (vs := [Value.str (Str.ofString "-") tz, Value.str (Str.ofString "") (tz + 1)]) (nn := 0) (fun i m nx => nx = [(Dl, listOf #[Value.str (Str.ofString "-") tz, Value.str (Str.ofString "") (tz + 1)] 0), (D2, lst v2), (D1, lst v1)] ∧
    m "text" = some (.str text t1) ∧ m "pieces" = some (.ref l) ∧ m "ends" = some (.ref l2) ∧ m "first" = some (.ref D1) ∧ m "last" = some (.ref D2) ∧ ∃ ts, m "stop" = some (.int ((text.length : Int) - (pl.length : Int)) ts)) rfl (.head _) F6 N6 ⟨rfl, rfl, rfl, rfl, rfl, rfl, _, rfl⟩ ?_ ?_
  · rintro i v m₁ nx h tk own hv hoff _ ⟨rfl, j1, j2, j3, j4, j5, ts, j6⟩ F7 N7
    clear F6 N6
    change Fr s.heap L' h _ at F7
    change News s.heap L' h _ at N7
    obtain ⟨a, ta, xa, rfl, hxa⟩ : ∃ (a : Bool) (ta : Tok) (xa : Str), v = .str xa ta ∧ xa = (if a then dash else Str.empty) := by
      rcases i with _ | _ | i
      · exact ⟨true, _, _, (Option.some.inj hv).symm, rfl⟩
      · exact ⟨false, _, _, (Option.some.inj hv).symm, by decide⟩
      · cases hv
    have hwa := ew hxa
    k_steps
    refine Stop.mk ?_
    refine For_invV s.heap rfl rfl ?_
    k_steps
    rename_i hy0 De hy F8 N8 ly
    obtain ⟨ty, hty⟩ : ∃ t, t = tk := ⟨_, rfl⟩
    rw [← hty] at N8
    refine Stop.mk ?_
    refine kdl_iter (h₀ := s.heap) (vs := [Value.str (Str.ofString "-") ty, Value.str (Str.ofString "") (ty + 1)]) (nn := 0) (fun i m nx => nx = (De, listOf #[Value.str (Str.ofString "-") ty, Value.str (Str.ofString "") (ty + 1)] 0) :: ([(Dl, listOf #[Value.str (Str.ofString "-") tz, Value.str (Str.ofString "") (tz + 1)] 0), (D2, lst v2), (D1, lst v1)] ++ own) ∧
      m "text" = some (.str text t1) ∧ m "pieces" = some (.ref l) ∧ m "ends" = some (.ref l2) ∧ m "first" = some (.ref D1) ∧ m "last" = some (.ref D2) ∧ m "stop" = some (.int ((text.length : Int) - (pl.length : Int)) ts) ∧ m "ahead" = some (.str xa ta)) rfl (.head _) F8 N8 ⟨rfl, j1, j2, j3, j4, j5, j6, rfl⟩ ?_ ?_
    · rintro i2 v m₂ nx h5 tk5 own2 hv2 hoff2 _ ⟨rfl, k1, k2, k3, k4, k5, k6, k7⟩ F9 N9
      clear F8 N8
      change Fr s.heap L' h5 _ at F9
      change News s.heap L' h5 _ at N9
      obtain ⟨b, tb, xb, rfl, hxb⟩ : ∃ (b : Bool) (tb : Tok) (xb : Str), v = .str xb tb ∧ xb = (if b then dash else Str.empty) := by
        rcases i2 with _ | _ | i2
        · exact ⟨true, _, _, (Option.some.inj hv2).symm, rfl⟩
        · exact ⟨false, _, _, (Option.some.inj hv2).symm, by decide⟩
        · cases hv2
      have hwb := ew hxb
      have halt : Halt := ⟨⟩
      k_steps
      rename Fr _ _ _ _ => F10
      rename News _ _ _ _ => N10
      refine Stop.mk ?_
      refine cutL (fun v s' => Stop (∃ h' tk', v = .bool (tiedA (sg text) (sg p0) xa) ∧ s' = { s with heap := h', toks := tk' } ∧ (Fr s.heap L' h' fun y => if y = "behind" then some (Value.str xb tb) else m₂ y) ∧ News s.heap L' h' ((De, listOf #[Value.str (Str.ofString "-") ty, Value.str (Str.ofString "") (ty + 1)] 0) :: ([(Dl, listOf #[Value.str (Str.ofString "-") tz, Value.str (Str.ofString "") (tz + 1)] 0), (D2, lst v2), (D1, lst v1)] ++ own) ++ own2))) ?_ ?_
      · k_steps
        · rename ((xa == _) = true) => hq
          refine Stop.mk ⟨_, _, ?_, rfl, F10, N10⟩
          show Value.bool (xa == dash) = _
          unfold tiedA
          rw [show (xa == dash) = true from hq, Bool.true_or]
        · rename ((xa == _) = false) => hq
          refine Stop.mk (br_ctr (News.isList N10 (List.mem_append_left _ (.tail _ (.tail _ (.tail _ (.head _)))))) hI1 (by rw [asInts_length]; exact Nat.le_trans (places_le _ _) (by rw [sg_len]; omega)) (places_rise _ _) _ _ (X.keeps F10.keep) (T.keeps F10.keep) (by show dp + 1 < 500; omega) ?_)
          intro kr tr hr1 tkr hR str
          have F11 := F10.keeps str
          have N11 := N10.keeps str
          clear F10 N10
          k_steps
          refine Stop.mk ⟨_, _, ?_, rfl, F11, N11⟩
          unfold tiedA
          rw [show (xa == dash) = false from hq, Bool.false_or, ← right_zero (by rw [sg_len]; exact hp0.1) hR]
      · rintro _ _ ⟨h', tk', rfl, rfl, F11, N11⟩
        clear F10 N10
        have halt : Halt := ⟨⟩
        k_steps
        rename Fr _ _ _ _ => F12
        rename News _ _ _ _ => N12
        refine Stop.mk ?_
        refine cutL (fun f s' => Stop (∃ h' tk', f = .next ∧ s' = { s with heap := h', toks := tk' } ∧ (Fr s.heap L' h' fun y => if y = "due" then some (Value.bool (tiedA (sg text) (sg p0) xa && tiedB (sg text) ((p0 :: (mid ++ [pl])).map sg) (sg pl) xb)) else if y = "due" then some (Value.bool (tiedA (sg text) (sg p0) xa)) else if y = "behind" then some (Value.str xb tb) else m₂ y) ∧ News s.heap L' h' ((De, listOf #[Value.str (Str.ofString "-") ty, Value.str (Str.ofString "") (ty + 1)] 0) :: ([(Dl, listOf #[Value.str (Str.ofString "-") tz, Value.str (Str.ofString "") (tz + 1)] 0), (D2, lst v2), (D1, lst v1)] ++ own) ++ own2))) ?_ ?_
        · cases htA : tiedA (sg text) (sg p0) xa
          all_goals rw [htA] at F12
          all_goals have halt2 : Halt2 := ⟨⟩
          all_goals k_steps
          · rename Fr _ _ _ _ => F13
            rename News _ _ _ _ => N13
            exact Stop.mk ⟨_, _, rfl, rfl, F13, N13⟩
          · rename Fr _ _ _ _ => F13
            rename News _ _ _ _ => N13
            exact Stop.mk ⟨_, _, rfl, rfl, F13, N13⟩
          · rename ((xb == _) = true) => hq
            refine Stop.mk ?_
            with_unfolding_all refine item_list_ints_neg (Fr.lst F12 hl2) hi2 (by decide) (by rw [asInts_length, told_len]; omega) (by decide) ?_
            intro te
            rw [told_last]
            k_steps
            rename Fr _ _ _ _ => F13
            rename News _ _ _ _ => N13
            refine Stop.mk ⟨_, _, rfl, rfl, ?_, N13⟩
            have e9 : (true && tiedB (sg text) ((p0 :: (mid ++ [pl])).map sg) (sg pl) xb) = decide ((endAt (sg text) ((p0 :: (mid ++ [pl])).map sg) (p0 :: (mid ++ [pl])).length : Int) ≤ (text.length : Int)) := by
              unfold tiedB
              rw [if_pos (show xb = dash from eq_of_beq hq), Bool.true_and, sg_len, List.length_map]
              exact decide_eq_decide.mpr Int.ofNat_le.symm
            rw [e9]
            exact F13
          · rename ((xb == _) = false) => hq
            refine Stop.mk ?_
            have hst : (text.length : Int) - (pl.length : Int) = (((sg text).length - (sg pl).length : Nat) : Int) := by rw [sg_len, sg_len]; omega
            rw [hst]
            refine bl_ctr (News.isList N12 (List.mem_append_left _ (.tail _ (.tail _ (.head _))))) hI2 (by rw [asInts_length]; exact Nat.le_trans (places_le _ _) (by rw [sg_len]; omega)) (places_rise _ _) _ _ (X.keeps F12.keep) (T.keeps F12.keep) (by show dp + 1 < 500; omega) ?_
            intro kl tl hl9 tkl hL stl
            have hls := left_stop (by rw [sg_len]; exact hpl.1) (by rw [sg_len, sg_len]; exact hpl.2.1) hL
            have hla : (asInts (places (sg text) (sg pl))).length = (places (sg text) (sg pl)).length := asInts_length _
            have hpll : (places (sg text) (sg pl)).length ≤ 500 := Nat.le_trans (places_le _ _) (by rw [sg_len]; omega)
            have F13 := F12.keeps stl
            have N13 := N12.keeps stl
            clear F12 N12
            have halt2 : Halt2 := ⟨⟩
            k_steps
            · rename ((kl : Int) < _) => hk
              refine Stop.mk ?_
              with_unfolding_all refine item_list_ints_neg (Fr.lst F13 hl2) hi2 (by decide) (by rw [asInts_length, told_len]; omega) (by decide) ?_
              intro te
              rw [told_prev _ _ (by simp)]
              k_steps
              rename Fr _ _ _ _ => F14
              rename News _ _ _ _ => N14
              refine Stop.mk ⟨_, _, rfl, rfl, ?_, N14⟩
              have e9 : (true && tiedB (sg text) ((p0 :: (mid ++ [pl])).map sg) (sg pl) xb) = decide ((endAt (sg text) ((p0 :: (mid ++ [pl])).map sg) ((p0 :: (mid ++ [pl])).length - 1) : Int) ≤ (text.length : Int) - (pl.length : Int)) := by
                unfold tiedB
                rw [if_neg (show ¬ xb = dash from ne_of_beq_false hq), Bool.true_and, occB_iff.mpr (hls.mp (by omega)), Bool.true_and, List.length_map]
                refine decide_eq_decide.mpr ?_
                rw [hst]
                exact Int.ofNat_le.symm
              rw [e9]
              exact F14
            · rename (¬ (kl : Int) < _) => hk
              rename Fr _ _ _ _ => F14
              rename News _ _ _ _ => N14
              refine Stop.mk ⟨_, _, rfl, rfl, ?_, N14⟩
              have e9 : (true && tiedB (sg text) ((p0 :: (mid ++ [pl])).map sg) (sg pl) xb) = decide ((kl : Int) < ((asInts (places (sg text) (sg pl))).length : Int)) := by
                unfold tiedB
                rw [if_neg (show ¬ xb = dash from ne_of_beq_false hq), Bool.true_and, decide_eq_false hk]
                cases ho : occB (sg text) (sg pl) ((sg text).length - (sg pl).length)
                · rfl
                · have := hls.mpr (occB_iff.mp ho)
                  omega
              rw [e9]
              exact F14
        · rintro _ _ ⟨h', tk', rfl, rfl, F13, N13⟩
          clear F12 N12
          obtain ⟨g1, g2, w0, md, wl, g3, g4, g5⟩ := tied_law (text := text) rfl h2 hp a b (x := xa ++ Txt.join dash (p0 :: (mid ++ [pl])) ++ xb) (by rw [← hxa, ← hxb])
          rw [← hxa, ← hxb] at g5
          have hjl : (Txt.join (Str.ofString "-") (p0 :: (mid ++ [pl]))).length ≤ 300 := by
            have := join_len dash (p0 :: (mid ++ [pl]))
            rw [show dash.length = 1 by decide] at this
            exact Nat.le_trans this (by omega)
          k_steps
          rename StrsAre vs _ => hi
          refine join_list (Fr.lst F13 hl) (by simpa using hi) ?_ ?_
          · show _ + (p0 :: (mid ++ [pl])).length * 1 ≤ _
            omega
          intro tj kj
          k_steps
          rename Fr _ _ _ _ => F14
          rename News _ _ _ _ => N14
          refine Stop.mk (rep_ctr _ _ _ _ _ _ rfl ?_ (by decide) (by decide) (by decide) (X.keeps F14.keep) (T.keeps F14.keep) (by show dp + 1 < 500; omega) ?_)
          · simp only [Str.length_append]; omega
          intro tp h15 tk15 st15
          have F15 := F14.keeps st15
          have N15 := N14.keeps st15
          clear F14 N14
          k_steps
          rename Fr _ _ _ _ => F16
          rename News _ _ _ _ => N16
          refine Stop.mk (em_ctr _ _ _ _ (X.keeps F16.keep) (T.keeps F16.keep) rfl (by show dp + 1 < 900; omega) g2 (by omega) w0 wl md g3 g1 g4 ?_)
          intro h17 tk17 st17
          rw [g5]
          have F17 := F16.keeps st17
          have N17 := N16.keeps st17
          clear F16 N16
          generalize (tiedA (sg text) (sg p0) xa && tiedB (sg text) ((p0 :: (mid ++ [pl])).map sg) (sg pl) xb) = due at F17
          k_steps
          · rename ((due != due) = true) => hq
            rw [bne_self_eq_false] at hq
            cases hq
          · refine InvEndG.intro F17 N17 ⟨.head _, rfl, k1, k2, k3, k4, k5, k6, k7⟩ hoff2 (fun p hp => List.mem_append_left _ hp) (fun p hp => List.mem_append_right _ hp)
    · rintro m₂ nx h5 tk5 ⟨rfl, k1, k2, k3, k4, k5, k6, k7⟩ F9 N9
      clear F8 N8
      change Fr s.heap L' h5 _ at F9
      change News s.heap L' h5 _ at N9
      k_steps
      refine InvEndG.intro F9 N9 ⟨.head _, rfl, k1, k2, k3, k4, k5, ts, k6⟩ hoff (fun p hp => .tail _ (List.mem_append_left _ hp)) (fun p hp => .tail _ (List.mem_append_right _ hp))
  · rintro m₁ nx h tk ⟨rfl, j1, j2, j3, j4, j5, ts, j6⟩ F7 N7
    clear F6 N6
    change Fr s.heap L' h _ at F7
    change News s.heap L' h _ at N7
    k_steps
    exact ret _ _ F7.keep
end Mine
end

-- T_copies
theorem Mine.calm16 : True := by first | walk1 | exact trivial
set_option maxHeartbeats 1500000
section
open PySem.Calls PySem.Spec
namespace Mine
open LCg LCt
local macro_rules | `(tactic| walk_at "eval ListComp") => `(tactic| refine Stop.to ?_)
local macro_rules | `(tactic| walk_at "exec Assign cons ListComp") => `(tactic| refine Stop.to ?_)
local macro_rules | `(tactic| walk_at "CompSrc") => `(tactic| refine Stop.to ?_)
local macro_rules | `(tactic| walk_at "CompSrcT") => `(tactic| refine Stop.to ?_)
local macro_rules | `(tactic| walk_at "SrcS") => `(tactic| refine Stop.to ?_)
local macro_rules | `(tactic| walk_at "exec For Name Call cons nil") => `(tactic| refine Stop.to ?_)
local macro_rules | `(tactic| walk_at "subscriptTail Name UnaryOp ref int") => `(tactic| refine Stop.to ?_)
structure HaltIf : Prop
local macro_rules | `(tactic| walk_at "exec If") => `(tactic| (rename HaltIf => hzi; clear hzi; refine Stop.to ?_))
local macro_rules | `(tactic| walk_at "pyIter ref") => `(tactic| refine Stop.to ?_)
local macro_rules | `(tactic| walk_at "call ref") => `(tactic| refine Stop.to ?_)
structure InLoop : Prop
theorem ld1 {M : Model} {A : Around} {E : Value → Shared → Prop} {s : Shared} {h₀ : Heap} {L a : Addr} {scope : Scope} {name n x : Str} {cd u v : Value} {m : Str → Option Value} {pos : Pos} {Q : Value → Shared → Prop} (F : Fr h₀ L s.heap (fun y => if y = n then some u else m y)) (hne : (x == n) = false) (hv : m x = some v) (h : Q v s)
    (hk : scope.kind = .function := by rfl) (hl : (envOfC name scope L a cd).kindOf x = some .local := by rfl)
    (hd : (x == ("__debug__" : Str)) = false := by decide) :
    wpAny M A (eval (.Name x pos) (envOfC name scope L a cd)) Q E s := ldLoc F ((if_neg (ne_of_beq_false hne)).trans hv) h hk hl hd
local macro_rules | `(tactic| walk_at "eval Name") => `(tactic| ((rename InLoop => hzl); k_here; k_dflt (first
  | (refine' ldLoc ?k1 ?k2 ?_; (case k1 => k_asm); (case k2 => with_reducible assumption); k_whole)
  | (refine' ld1 ?k1 ?k3 ?k2 ?_; (case k1 => k_asm); (case k3 => decide); (case k2 => with_reducible assumption); k_whole))))
variable {w : World} {A : Around} {s : Shared} {loose : List Str} {mean : ExcName → Option Value} {mg mb : Str → Option Value} {Q : Value → Shared → Prop} {E : Value → Shared → Prop}
theorem rep_sum (n : Nat) (x : Str) : ((List.replicate n x).map (·.length)).sum = n * x.length := by
  rw [List.map_replicate, List.sum_replicate_nat]
theorem asInts_getD (l : List Nat) (j : Nat) : (asInts l).getD j 0 = ((l.getD j 0 : Nat) : Int) := by
  simp only [asInts, List.getD_eq_getElem?_getD, List.getElem?_map]
  cases l[j]? <;> rfl
theorem copies_ctr {text piece : Str} {t1 t2 : Tok} (h1 : 1 ≤ text.length) (h1' : text.length ≤ 12) (h2 : 1 ≤ piece.length) (h2' : piece.length ≤ 5) (hk : Builtin.Str.strKind piece = 1) (h45 : 45 ∉ sg piece) (h46 : 46 ∉ sg piece)
   (X : (hd.heap_39 w.params).In s.heap) (T : Top topProg loose mean mg mb s.heap) (hA : A.handled = none) (hroom : A.depth < 490)
   (ret : ∀ h' tk', s.heap.StaysIn h' → Q (.bool true) { s with heap := h', toks := tk' }) :
   wpAny (model Challenge.rw_pe0135_01.row.prog w) A (call (.ref 110) [.str text t1, .str piece t2]) Q E s := by
  obtain ⟨hand, dp, frs, gds, un⟩ := A
  obtain rfl : hand = none := hA
  w_top off
  revert X; k_fill; intro X
  have TR := topRead_of T
  refine enterC (binds := [("text", .str text t1), ("piece", .str piece t2)]) X T rfl (by rfl) (Nat.lt_of_lt_of_le hroom (by decide)) (BindsTo.of_eq rfl) rfl (by decide) ?_
  intro L' h₁ tk cells F N C
  obtain ⟨o1, o2, e, d1, d2⟩ := CellsAre.two C
  subst e
  clear C
  change o1.data = .cell (some (.str piece t2)) at d1
  change o2.data = .cell (some (.str text t1)) at d2
  k_steps
  refine Stop.mk ?_
  refine LCt.Assign_ListComp_T (F₀ := F) rfl (by with_unfolding_all rfl) (by with_unfolding_all rfl) (by decide) (by rfl) (by decide) (by rfl) (by rfl) (by rfl) ?_
  k_steps
  refine Stop.mk ?_
  refine compS (F₀ := F) (by with_unfolding_all rfl) (by decide) (by rfl) (by decide) (by rfl) ?_
  k_steps
  rename Fr _ _ _ _ => F2
  rename News _ _ _ _ => N2
  refine Stop.mk ⟨_, _, _, rfl, rfl, F2, N2, (by show text.length ≤ _; rw [sizeLine_eq]; omega), ?_⟩
  rintro _ ⟨g0, rfl⟩
  refine compU_ind (fun i ys => StrsAre ys (List.replicate i piece)) trivial ?_ ?_ _ 0 [] (Nat.zero_add _) .nil
  · intro i ys v I oI C oC D m₂ h tk E' _ hj _ _ _ F3 N3
    clear F2 N2
    k_steps
    refine ⟨_, _, rfl, F3, N3, ?_⟩
    rw [List.replicate_succ']
    exact StrsAre.app hj (.cons _ _ .nil)
  intro ys hys
  clear F2 N2
  intro D0 h3 tk3 F3 N3 _
  k_steps
  rename Fr _ _ _ _ => F4
  rename News _ _ _ _ => N4
  refine Stop.mk ?_
  refine ends_ctr (ps := List.replicate text.length piece) (News.isList N4 (.head _)) hys (by omega) (by rw [List.length_replicate]; omega) (fun p hp => by rw [List.eq_of_mem_replicate hp]; omega) (X.keeps F4.keep) (T.keeps F4.keep) rfl (by show dp + 1 < 498; have : dp < 490 := hroom; omega) ?_
  intro De ve ne he tke ste fre hge hIe
  rw [List.map_replicate, List.length_replicate] at hIe
  have F5 := F4.keeps ste
  have N5 := news_cons F4 N4 ste fre hge
  clear F4 N4
  k_steps
  rename Fr _ _ _ _ => F6
  rename News _ _ _ _ => N6
  have hteL : (toldEnds (sg text) (List.replicate text.length (sg piece)) text.length).length = text.length + 1 := told_len _ _ _
  have hveL : ve.length = text.length + 1 := by rw [hIe.length, asInts_length, hteL]
  refine Stop.mk (CompSrcT.ledger rfl F6 N6 (.head _) (by rw [List.size_toArray, hveL, sizeLine_eq]; omega) ?_)
  intro g6
  refine compT_ind (fun i ys => IntsAre ys (asInts (((toldEnds (sg text) (List.replicate text.length (sg piece)) text.length).take i).filter (fun e => decide (e ≤ text.length))))) (Or.inr ⟨_, .head _, rfl, _, rfl⟩) ?_ ?_ _ 0 [] (Nat.zero_add _) (by simpa [asInts] using IntsAre.nil)
  · intro i ys v I oI C oC D m₂ h tk E' hi hj hv hC hx F7 N7
    rw [List.size_toArray] at hi
    have hit : i < (toldEnds (sg text) (List.replicate text.length (sg piece)) text.length).length := by omega
    obtain ⟨tv, hv'⟩ := hIe.get i ((toldEnds (sg text) (List.replicate text.length (sg piece)) text.length)[i] : Int) (by simp [asInts, hit])
    rw [List.getElem?_toArray, hv'] at hv
    obtain rfl := Option.some.inj hv
    clear F6 N6
    generalize hei : (toldEnds (sg text) (List.replicate text.length (sg piece)) text.length)[i] = ei at hx hv'
    k_steps
    · rename ((ei : Int) ≤ _) => hle
      refine ⟨_, _, rfl, F7, N7, ?_⟩
      rw [List.take_succ_eq_append_getElem hit, List.filter_append, hei, List.filter_cons, decide_eq_true (by omega), if_pos rfl, List.filter_nil]
      unfold asInts at hj ⊢
      rw [List.map_append]
      exact IntsAre.append hj (.cons _ _ .nil)
    · rename (¬ (ei : Int) ≤ _) => hle
      refine ⟨_, _, rfl, F7, N7, ?_⟩
      rw [List.take_succ_eq_append_getElem hit, List.filter_append, hei, List.filter_cons, decide_eq_false (by omega), if_neg Bool.false_ne_true, List.filter_nil, List.append_nil]
      exact hj
  intro ys2 hys2
  clear F6 N6
  have hes := copies_ends (x := text) (y := piece) h2
  have hcl := cuts_len (x := text) (y := piece) h2
  rw [List.size_toArray, hveL, List.take_of_length_le (by omega), hes] at hys2
  obtain ⟨cn, hcn⟩ : ∃ cn, (cutsOf text piece).length = cn := ⟨_, rfl⟩
  obtain ⟨es, hesE⟩ : ∃ es, 0 :: List.map (fun x => x + piece.length) (cutsOf text piece) = es := ⟨_, rfl⟩
  rw [hcn] at hcl
  rw [hesE] at hes hys2
  have hel : (asInts es).length = cn + 1 := by rw [asInts_length, ← hesE, List.length_cons, List.length_map, hcn]
  have hyl : ys2.length = cn + 1 := by rw [hys2.length, hel]
  intro Ds h8 tk8 F8 N8 _
  k_steps
  rename Fr _ _ _ _ => F9
  rename News _ _ _ _ => N9
  refine Stop.mk ?_
  refine For_invV s.heap rfl rfl ?_
  k_steps
  rename IsRange _ _ _ _ _ _ _ _ => hr
  rename Fr _ _ _ _ => F10
  rename News _ _ _ _ => N10
  refine Stop.mk ?_
  refine loopR (h₀ := s.heap) (n := cn) (fun i m nx => nx = [(Ds, lst ys2), (De, W.listOf ve.toArray ne), (D0, lst ys), (L' + 1 + 1, o1), (L' + 1, o2)] ∧ m "ends" = some (.ref Ds) ∧ ∃ td, m "due" = some (.str (dueUp text piece es i) td)) rfl hr (small_one (by omega) (by omega) (by omega) (by omega)) (by unfold Builtin.Range.rangeSize; rw [hel]; split <;> split <;> omega) F10 N10 ?hj0 ?_ ?_
  case hj0 => exact ⟨rfl, by rfl, _, by show some _ = some (Value.str Str.empty _); rfl⟩
  · rintro i tn m₂ nx h tk own hi hoff ⟨rfl, j1, td, j2⟩ F11 N11
    clear F10 N10
    change Fr s.heap L' h _ at F11
    change News s.heap L' h _ at N11
    have inl : InLoop := ⟨⟩
    have hdl := due_len (x := text) (y := piece) h2 (i := i) (by omega)
    have hdl : (dueUp text piece es i).length ≤ 156 := by
      rw [hesE] at hdl
      refine Nat.le_trans hdl (Nat.le_trans (Nat.mul_le_mul (show i ≤ 12 by omega) (show text.length + 1 ≤ 13 by omega)) (by decide))
    k_steps
    rename Fr _ _ _ _ => F12
    rename News _ _ _ _ => N12
    have hca := cuts_at (x := text) (y := piece) h2 (i := i) (by omega)
    rw [hesE] at hca
    have e9 : Txt.slice text (some ((asInts es).getD ((1 : Int) + (i : Int) - 1).toNat 0)) (some ((asInts es).getD ((1 : Int) + (i : Int)).toNat 0 - (piece.length : Int))) = Builtin.Str.strSub text (es.getD i 0) (es.getD (i + 1) 0 - piece.length) := by
      rw [show ((1 : Int) + (i : Int) - 1).toNat = i by omega, show ((1 : Int) + (i : Int)).toNat = i + 1 by omega, asInts_getD, asInts_getD, show ((es.getD (i + 1) 0 : Nat) : Int) - (piece.length : Int) = ((es.getD (i + 1) 0 - piece.length : Nat) : Int) by omega]
      exact slice_sub (by omega) (by omega)
    refine InvEndG.intro F12 N12 ⟨rfl, j1, ?td, ?hv⟩ hoff (fun p hp => List.mem_append_left _ hp) (fun p hp => List.mem_append_right _ hp)
    case hv =>
      rw [e9]
      rfl
  · rintro m₂ nx h tk ⟨rfl, j1, td, j2⟩ F11 N11
    clear F10 N10
    change Fr s.heap L' h _ at F11
    change News s.heap L' h _ at N11
    have inl : InLoop := ⟨⟩
    have hdl := due_len (x := text) (y := piece) h2 (i := cn) (by omega)
    have hdl : (dueUp text piece es cn).length ≤ 156 := by
      rw [hesE] at hdl
      refine Nat.le_trans hdl (Nat.le_trans (Nat.mul_le_mul (show cn ≤ 12 by omega) (show text.length + 1 ≤ 13 by omega)) (by decide))
    k_steps
    refine Stop.mk ?_
    refine rep_ctr _ _ _ _ _ _ rfl (by omega) (by omega) h2 (by decide) (X.keeps F11.keep) (T.keeps F11.keep) (by show dp + 1 < 500; have : dp < 490 := hroom; omega) ?_
    intro tr h12 tk12 st12
    have edue : Txt.join (Str.ofString "|") (Txt.split text piece) = dueUp text piece es cn ++ Txt.slice text (some ((es.getD cn 0 : Nat) : Int)) none := by
      have hcl2 := cuts_last (x := text) (y := piece) h2 (i := cn) (by omega)
      rw [hesE] at hcl2
      have := due_law h2 hk (x := text)
      rw [hesE, hcn] at this
      rw [slice_sub_end hcl2]
      exact this
    rw [edue]
    have F12 := F11.keeps st12
    have N12 := N11.keeps st12
    clear F11 N11
    k_steps
    refine Stop.mk ?_
    with_unfolding_all refine item_list_ints_neg (News.isList N12 (.head _)) hys2 (by decide) (by rw [hel]; omega) (by decide) ?_
    intro te
    rw [hel, show ((-1 : Int) + ((cn + 1 : Nat) : Int)).toNat = cn by omega, asInts_getD]
    k_steps
    · rename ((_ != _) = true) => hq
      rw [bne_self_eq_false] at hq
      cases hq
    rename Fr _ _ _ _ => F13
    rename News _ _ _ _ => N13
    refine Stop.mk ?_
    refine LCg.ListComp_U (F₀ := F13) (by with_unfolding_all rfl) (by decide) (by rfl) (by decide) (by rfl) ?_
    k_steps
    clear hr
    rename IsRange _ _ _ _ _ _ _ _ => hr
    rename Fr _ _ _ _ => F14
    rename News _ _ _ _ => N14
    refine Stop.mk (CompSrc.range (n := cn) rfl F14 N14 hr (small_one (by omega) (by omega) (by omega) (by omega)) (by unfold Builtin.Range.rangeSize; rw [hel]; split <;> split <;> omega) (by rw [sizeLine_eq]; omega) ?_)
    intro g14
    refine compU_ind (fun i ys => StrsAre ys (List.replicate i piece)) trivial ?_ ?_ _ 0 [] (Nat.zero_add _) .nil
    · intro i ys v I oI C oC D m₂ h tk E' _ hj _ _ _ F3 N3
      k_steps
      refine ⟨_, _, rfl, F3, N3, ?_⟩
      rw [List.replicate_succ']
      exact StrsAre.app hj (.cons _ _ .nil)
    intro ys3 hys3
    clear F14 N14
    intro D1 h15 tk15 F15 N15 _
    k_steps
    rename Fr _ _ _ _ => F16
    rename News _ _ _ _ => N16
    have hml : ∀ n, n ≤ cn + 1 → ((List.replicate n piece).map (·.length)).sum + (List.replicate n piece).length ≤ 300 := fun n hn => by
      rw [rep_sum, List.length_replicate]
      have := Nat.mul_le_mul (show n ≤ 13 by omega) h2'
      omega
    refine Stop.mk (pat_ctr (News.isList N16 (.head _)) hys3 rfl (Nat.le_trans (hml cn (Nat.le_succ _)) (by decide)) (X.keeps F16.keep) (T.keeps F16.keep) (by show dp + 1 < 499; have : dp < 490 := hroom; omega) ?_)
    intro tp h17 tk17 st17
    have F17 := F16.keeps st17
    have N17 := N16.keeps st17
    clear F16 N16
    have hif : HaltIf := ⟨⟩
    k_steps
    rename Fr _ _ _ _ => F18
    rename News _ _ _ _ => N18
    refine Stop.mk ?_
    have nod : ∀ n, ∀ p ∈ List.replicate n piece, 45 ∉ sg p ∧ 46 ∉ sg p := fun n p hp => by rw [List.eq_of_mem_replicate hp]; exact ⟨h45, h46⟩
    refine cutL (fun f s' => Stop (∃ h' tk', f = .next ∧ s' = { s with heap := h', toks := tk' } ∧ (Fr s.heap L' h' fun y => if y = "pattern" then some (Value.str (patOf (List.replicate cn piece)) tp) else m₂ y) ∧ News s.heap L' h' [(D1, lst ys3), (Ds, lst ys2), (De, W.listOf ve.toArray ne), (D0, lst ys), (L' + 1 + 1, o1), (L' + 1, o2)])) ?_ ?_
    · k_steps
      · rename Fr _ _ _ _ => F19
        rename News _ _ _ _ => N19
        rename ((1 : Int) < _) => hgt
        obtain ⟨g1, g2, g3⟩ := patOf_law (ps := List.replicate cn piece) (fun e => by have := congrArg List.length e; rw [List.length_replicate, List.length_nil] at this; omega) (hml cn (Nat.le_succ _)) (nod cn)
        refine Stop.mk (em_ctr _ _ _ _ (X.keeps F19.keep) (T.keeps F19.keep) rfl (by show dp + 1 < 900; have : dp < 490 := hroom; omega) g3 (by omega) Str.empty Str.empty (List.replicate cn piece) (by rw [List.length_replicate]; omega) g1 g2 ?_)
        intro h20 tk20 st20
        rw [copies_fit h2, hcn, decide_eq_true (Nat.le_refl cn)]
        have F20 := F19.keeps st20
        have N20 := N19.keeps st20
        clear F19 N19
        k_steps
        exact Stop.mk ⟨_, _, rfl, rfl, F20, N20⟩
      · rename Fr _ _ _ _ => F19
        rename News _ _ _ _ => N19
        exact Stop.mk ⟨_, _, rfl, rfl, F19, N19⟩
    rintro _ _ ⟨h21, tk21, rfl, rfl, F21, N21⟩
    clear F18 N18
    k_steps
    refine Stop.mk ?_
    refine LCg.ListComp_U (F₀ := F21) (by with_unfolding_all rfl) (by decide) (by rfl) (by decide) (by rfl) ?_
    k_steps
    rename Fr _ _ _ _ => F22
    rename News _ _ _ _ => N22
    refine Stop.mk (CompSrc.ledger rfl F22 N22 (.tail _ (.head _)) (by rw [List.size_toArray, hyl, sizeLine_eq]; omega) ?_)
    intro g23
    refine compU_ind (fun i ys => StrsAre ys (List.replicate i piece)) (Or.inr ⟨_, .tail _ (.head _), rfl, _, rfl⟩) ?_ ?_ _ 0 [] (Nat.zero_add _) .nil
    · intro i ys v I oI C oC D m₂ h tk E' _ hj _ _ _ F3 N3
      k_steps
      refine ⟨_, _, rfl, F3, N3, ?_⟩
      rw [List.replicate_succ']
      exact StrsAre.app hj (.cons _ _ .nil)
    intro ys4 hys4
    rw [List.size_toArray, hyl] at hys4
    clear F22 N22
    intro D2 h24 tk24 F24 N24 _
    k_steps
    rename Fr _ _ _ _ => F25
    rename News _ _ _ _ => N25
    refine Stop.mk (pat_ctr (News.isList N25 (.head _)) hys4 rfl (Nat.le_trans (hml (cn + 1) (Nat.le_refl _)) (by decide)) (X.keeps F25.keep) (T.keeps F25.keep) (by show dp + 1 < 499; have : dp < 490 := hroom; omega) ?_)
    intro tp2 h26 tk26 st26
    have F26 := F25.keeps st26
    have N26 := N25.keeps st26
    clear F25 N25
    k_steps
    rename Fr _ _ _ _ => F27
    rename News _ _ _ _ => N27
    obtain ⟨g1, g2, g3⟩ := patOf_law (ps := List.replicate (cn + 1) piece) (fun e => by have := congrArg List.length e; rw [List.length_replicate, List.length_nil] at this; omega) (hml (cn + 1) (Nat.le_refl _)) (nod (cn + 1))
    refine Stop.mk (em_ctr _ _ _ _ (X.keeps F27.keep) (T.keeps F27.keep) rfl (by show dp + 1 < 900; have : dp < 490 := hroom; omega) g3 (by omega) Str.empty Str.empty (List.replicate (cn + 1) piece) (by rw [List.length_replicate]; omega) g1 g2 ?_)
    intro h28 tk28 st28
    rw [copies_fit h2, hcn, decide_eq_false (Nat.not_succ_le_self cn)]
    have F28 := F27.keeps st28
    have N28 := N27.keeps st28
    clear F27 N27
    k_steps
    exact ret _ _ F28.keep
end Mine
end

-- T_rest
theorem Mine.calm17 : True := by first | walk1 | exact trivial
set_option maxHeartbeats 2000000
section
open PySem.Calls PySem.Spec
namespace Mine
open LCg LCt
local macro_rules | `(tactic| walk_at "call ref") => `(tactic| refine Stop.to ?_)
local macro_rules | `(tactic| walk_at "exec For Name Call cons nil") => `(tactic| refine Stop.to ?_)
local macro_rules | `(tactic| walk_at "pyIter ref") => `(tactic| refine Stop.to ?_)
structure HaltS : Prop
local macro_rules | `(tactic| walk_at "subscriptTail Name Slice ref ref") => `(tactic| (rename HaltS => hzs; clear hzs; refine Stop.to ?_))
structure InLoopR : Prop
theorem ldR1 {M : Model} {A : Around} {E : Value → Shared → Prop} {s : Shared} {h₀ : Heap} {L a : Addr} {scope : Scope} {name n x : Str} {cd u v : Value} {m : Str → Option Value} {pos : Pos} {Q : Value → Shared → Prop} (F : Fr h₀ L s.heap (fun y => if y = n then some u else m y)) (hne : (x == n) = false) (hv : m x = some v) (h : Q v s)
    (hk : scope.kind = .function := by rfl) (hl : (envOf name scope L a cd).kindOf x = some .local := by rfl)
    (hd : (x == ("__debug__" : Str)) = false := by decide) :
    wpAny M A (eval (.Name x pos) (envOf name scope L a cd)) Q E s := ld F ((if_neg (ne_of_beq_false hne)).trans hv) h hk hl hd
local macro_rules | `(tactic| walk_at "eval Name") => `(tactic| ((rename InLoopR => hzl); k_here; k_dflt (first
  | (refine' ld ?k1 ?k2 ?_; (case k1 => k_asm); (case k2 => with_reducible assumption); k_whole)
  | (refine' ldR1 ?k1 ?k3 ?k2 ?_; (case k1 => k_asm); (case k3 => decide); (case k2 => with_reducible assumption); k_whole))))
theorem len_strs {prog : Program} {w : World} {A : Around} {E : Value → Shared → Prop} {s : Shared} {Q : Value → Shared → Prop} {l : Addr} {vs : List Value} {ps : List Str} (hl : s.heap.IsList l vs.toArray) (hi : StrsAre vs ps) (hz : ps.length ≤ 1000)
    (h : Q (.int (ps.length : Nat) (s.toks + 1)) { s with toks := s.toks + 1 + 1 }) : wpAny (model prog w) A (call (.builtin "len") [.ref l]) Q E s :=
  PySem.W.kun_lenL hl (by rw [List.size_toArray, hi.length]) (by omega) h
local macro_rules | `(tactic| walk_at "call builtin:len") => `(tactic| (k_here; (with_reducible show wpAny _ _ (call (Value.builtin "len") [Value.ref _]) _ _ _); k_dflt (refine' len_strs ?k1 ?k2 ?k3 ?_; (case k1 => exact News.isList (by k_asm) (by k_mem)); (case k2 => assumption); (case k3 => omega); k_whole)))
def menu : List Str := [Str.ofString "a", Str.ofString "b", Str.ofString "c", Str.ofString "ab", Str.ofString "aa", Str.ofString "ca", Str.ofString "aba"]
theorem menu_ok : ∀ p ∈ menu, 1 ≤ p.length ∧ p.length ≤ 3 ∧ 45 ∉ sg p ∧ 46 ∉ sg p ∧ Builtin.Str.strKind p = 1 := by decide +kernel
theorem sum_le {ps : List Str} (h : ∀ p ∈ ps, p.length ≤ 3) : (ps.map (·.length)).sum ≤ 3 * ps.length := by
  induction ps with
  | nil => exact Nat.le_refl _
  | cons p r ih =>
    have h1 := h p (.head _)
    have h2 := ih fun q hq => h q (.tail _ hq)
    rw [List.map_cons, List.sum_cons, List.length_cons]
    omega
theorem getD_mem {ps : List Str} {k : Nat} (h : k < ps.length) : ps.getD k Str.empty ∈ ps := by
  rw [List.getD_eq_getElem?_getD, List.getElem?_eq_getElem h]
  exact List.getElem_mem _
/-- the law has answered True -/
def Came (s₁ : Shared) (g : Heap) (L : Addr) (f : Flow) (s' : Shared) : Prop :=
  ∃ m' h' tk' t86 t93, f = .ret (.bool true) ∧ s' = { s₁ with heap := h', toks := tk' } ∧ Fr g L h' m' ∧ News g L h' [(86, tabObj t86), (93, tabObj t93)]
abbrev lobj (vs : List Value) : Obj := { cls := .type "list", data := .seq vs.toArray }
variable {w : World} {A : Around} {s : Shared} {loose : List Str} {mean : ExcName → Option Value} {mg mb : Str → Option Value}
theorem law_rest {g : Heap} {L fa P : Addr} {cd : Value} {text : Str} {t1 : Tok} {vp : List Value} {ps : List Str} {m₀ : Str → Option Value} {name qual : Str} {params : Arguments} {body : List Stmt} {scope : Scope} {dV kV doc pm cdv ct oc : Value} {an od : Option Addr} {osl : Array (Option Value)}
    (ho : (hd.heap_39 w.params).lookup 115 = some ⟨oc, od, .func (fnOf name qual params body scope dV kV doc pm an cdv ct), osl⟩)
    (X : (hd.heap_39 w.params).In g) (T : Top topProg loose mean mg mb g) (C97 : CodeHd g 97 93) (C90 : CodeHd g 90 86)
    (F8 : Fr g L s.heap fun y => if y = "pieces" then some (.ref P) else if y = "text" then some (.str text t1) else m₀ y)
    (N8 : News g L s.heap [(P, lobj vp), (93, tabObj #[]), (86, tabObj #[])]) (hP93 : (93 : Nat) ≠ P) (hP86 : (86 : Nat) ≠ P)
    (hp1 : StrsAre vp ps) (hpm : ∀ p ∈ ps, p ∈ menu) (hpl : 2 ≤ ps.length ∧ ps.length ≤ 20) (htl : 5 ≤ text.length ∧ text.length ≤ 11)
    (hA : A.handled = none) (hroom : A.depth < 480) (hu : A.units < 80) :
    wpAny (model Challenge.rw_pe0135_01.row.prog w) A (execs (body.drop 3) (envOf qual scope L fa cd)) (Came s g L) (fun _ _ => False) s := by
  obtain ⟨hand, dp, frs, gds, un⟩ := A
  obtain rfl : hand = none := hA
  have hroom : dp < 480 := hroom
  have hu : un < 80 := hu
  w_top off
  revert X; k_fill; intro X
  have TR := topRead_of T
  have e2 : (hd.heap_39 w.params).lookup 115 = some ⟨_, _, .func (fnOf _ _ _ _ _ _ _ _ _ _ _ _), _⟩ := rfl
  have ho := e2.symm.trans ho
  cases ho
  clear e2
  rw [List.drop_succ_cons, List.drop_succ_cons, List.drop_succ_cons, List.drop_zero]
  have hp3 : ∀ p ∈ ps, p.length ≤ 3 := fun p hp => (menu_ok p (hpm p hp)).2.1
  have hps0 : ∀ p ∈ ps, 1 ≤ p.length := fun p hp => (menu_ok p (hpm p hp)).1
  have hps1 : ∀ p ∈ ps.map sg, 1 ≤ p.length := fun p hp => by
    obtain ⟨q, hq, rfl⟩ := List.mem_map.mp hp
    rw [sg_len]
    exact hps0 q hq
  k_steps
  clear ho
  rename Fr _ _ _ _ => F8
  rename News _ _ _ _ => N8
  refine Stop.mk (ends_ctr (News.isList N8 (.head _)) hp1 (by omega) (by omega) (fun p hp => Nat.le_trans (hp3 p hp) (by decide)) (X.keeps F8.keep) (T.keeps F8.keep) rfl (by show dp < 498; omega) ?_)
  intro De ve ne he tke ste fre hge hIe
  have F9 := F8.keeps ste
  have N9 := news_cons F8 N8 ste fre hge
  have hE := news_ne N8 fre
  clear F8 N8
  k_steps
  rename Fr _ _ _ _ => F10
  rename News _ _ _ _ => N10
  refine Stop.mk (begins_ctr (News.isList N10 (.tail _ (.head _))) hp1 (by omega) (by omega) (fun p hp => Nat.le_trans (hp3 p hp) (by decide)) (X.keeps F10.keep) (T.keeps F10.keep) rfl (by show dp < 498; omega) ?_)
  intro Db vb nb hb tkb stb frb hgb hIb
  have F11 := F10.keeps stb
  have N11 := news_cons F10 N10 stb frb hgb
  have hB := news_ne N10 frb
  clear F10 N10
  k_steps
  rename Fr _ _ _ _ => F12
  rename News _ _ _ _ => N12
  refine Stop.mk (least_ctr (News.isList N12 (.tail _ (.tail _ (.head _)))) hp1 (by omega) (by omega) (fun p hp => Nat.le_trans (hp3 p hp) (by decide)) (X.keeps F12.keep) (T.keeps F12.keep) rfl (by show dp < 498; omega) ?_)
  intro Dl vl nl hl tkl stl frl hgl hIl
  rw [least_is hps1] at hIl
  have F13 := F12.keeps stl
  have N13 := news_cons F12 N12 stl frl hgl
  clear F12 N12
  k_steps
  rename Fr _ _ _ _ => F14
  rename News _ _ _ _ => N14
  have NL : News g L _ [(86, tabObj #[]), (93, tabObj #[]), (De, listOf ve.toArray ne), (Db, listOf vb.toArray nb), (P, lobj vp)] := fun p hp => N14 p (by
    rcases List.mem_cons.mp hp with rfl | hp
    · exact .tail _ (.tail _ (.tail _ (.tail _ (.tail _ (.head _)))))
    rcases List.mem_cons.mp hp with rfl | hp
    · exact .tail _ (.tail _ (.tail _ (.tail _ (.head _))))
    rcases List.mem_cons.mp hp with rfl | hp
    · exact .tail _ (.tail _ (.head _))
    rcases List.mem_cons.mp hp with rfl | hp
    · exact .tail _ (.head _)
    rw [List.mem_singleton.mp hp]
    exact .tail _ (.tail _ (.tail _ (.head _))))
  have hE86 : (86 : Nat) ≠ De := hE (86, tabObj #[]) (.tail _ (.tail _ (.head _)))
  have hE93 : (93 : Nat) ≠ De := hE (93, tabObj #[]) (.tail _ (.head _))
  have hB86 : (86 : Nat) ≠ Db := hB (86, tabObj #[]) (.tail _ (.tail _ (.tail _ (.head _))))
  have hB93 : (93 : Nat) ≠ Db := hB (93, tabObj #[]) (.tail _ (.tail _ (.head _)))
  clear N14 hE hB hIl
  obtain ⟨es, hes⟩ : ∃ es, asInts (toldEnds (sg text) (ps.map sg) ps.length) = es := ⟨_, rfl⟩
  obtain ⟨bs, hbs⟩ : ∃ bs, toldBeg (sg text) (ps.reverse.map sg) ps.length = bs := ⟨_, rfl⟩
  rw [hes] at hIe
  rw [hbs] at hIb
  have hel : es.length = ps.length + 1 := by rw [← hes, asInts_length, told_len]
  have hbl : bs.length = ps.length + 1 := by rw [← hbs, tb_len]
  have heA : ∀ j, j ≤ ps.length → es.getD j 0 = ((endAt (sg text) (ps.map sg) j : Nat) : Int) := fun j hj => by rw [← hes]; exact told_at hj
  have hbA : ∀ j, j ≤ ps.length → bs.getD j 0 = begAt (sg text) (ps.reverse.map sg) j := fun j hj => by rw [← hbs]; exact tb_at hj
  clear hbs
  refine Stop.mk ?_
  refine For_invV g rfl rfl ?_
  k_steps
  rename IsRange _ _ _ _ _ _ _ _ => hr
  rename Fr _ _ _ _ => F15
  rename News _ _ _ _ => N15
  refine Stop.mk ?_
  have hsum : ∀ qs : List Str, (∀ p ∈ qs, p ∈ ps) → qs.length ≤ 20 → (qs.map (·.length)).sum + qs.length ≤ 300 := fun qs h hl => by
    have := sum_le fun p hp => hp3 p (h p hp)
    omega
  refine loopR (h₀ := g) (n := ps.length) (fun i m nx => ∃ t86 t93 ex, nx = (86, tabObj t86) :: (93, tabObj t93) :: (De, listOf ve.toArray ne) :: (Db, listOf vb.toArray nb) :: (P, lobj vp) :: ex ∧
      Tab ex t86 (Str.ofString "_law_front.<locals>.<lambda>") ∧ Tab ex t93 (Str.ofString "_law_tail.<locals>.<lambda>") ∧ (∀ p ∈ ex, p.1 ≠ 86 ∧ p.1 ≠ 93) ∧
      m "text" = some (.str text t1) ∧ m "pieces" = some (.ref P) ∧ m "ends" = some (.ref De) ∧ m "begins" = some (.ref Db)) rfl hr (small_one (by omega) (by omega) (by omega) (by omega)) (by unfold Builtin.Range.rangeSize; split <;> split <;> omega) F15 N15
    ⟨_, _, [], rfl, Tab.none _, Tab.none _, (fun _ h => nomatch h), rfl, rfl, rfl, rfl⟩ ?_ ?_
  · rintro i tn m₂ nx h tk own hi hoff ⟨t86, t93, ex, rfl, T86, T93, hex, j1, j2, j3, j4⟩ F16 N16
    clear F15 N15
    change Fr g L h _ at F16
    change News g L h _ at N16
    have inl : InLoopR := ⟨⟩
    have hst : HaltS := ⟨⟩
    k_steps
    rename Fr _ _ _ _ => F17
    rename News _ _ _ _ => N17
    have hvpl := hp1.length
    refine Stop.mk ?_
    with_unfolding_all refine kmk_slice (lo := none) (hi := some ((1 : Int) + (i : Int))) F17 N17 (News.isList N17 (.tail _ (.tail _ (.tail _ (.tail _ (.head _)))))) .none (.int _ _) ?_ (by with_unfolding_all rfl) (by intro _; with_unfolding_all rfl) (by rw [List.size_toArray, hvpl, sizeLine_eq]; omega)
    intro D1 h18 F18 N18 l18
    rw [pick_upto vp (by omega), show ((1 : Int) + (i : Int)).toNat = i + 1 by omega] at N18
    clear F17 N17
    k_steps
    rename Fr _ _ _ _ => F19
    rename News _ _ _ _ => N19
    have hpn : ∀ qs : List Str, (∀ p ∈ qs, p ∈ ps) → ∀ p ∈ qs, 45 ∉ sg p ∧ 46 ∉ sg p := fun qs h p hp => ⟨(menu_ok p (hpm p (h p hp))).2.2.1, (menu_ok p (hpm p (h p hp))).2.2.2.1⟩
    have htkl : (ps.take (i + 1)).length = i + 1 := by rw [List.length_take]; omega
    obtain ⟨g1, g2, g3⟩ := patOf_law (ps := ps.take (i + 1)) (fun e => by have := congrArg List.length e; rw [htkl, List.length_nil] at this; omega) (hsum _ (fun p hp => List.mem_of_mem_take hp) (by omega)) (hpn _ fun p hp => List.mem_of_mem_take hp)
    have N20 : News g L h18 ((86, tabObj t86) :: (93, tabObj t93) :: (De, listOf ve.toArray ne) :: (Db, listOf vb.toArray nb) :: (P, lobj vp) :: (ex ++ own)) := fun p hp => N19 p (.tail _ hp)
    have hle := endAt_le hps1 (T := sg text) (i + 1)
    rw [sg_len] at hle
    refine Stop.mk ?_
    rw [show ((1 : Int) + (i : Int) - 1).toNat = i by omega, show ((1 : Int) + (i : Int)).toNat = i + 1 by omega, heA i (by omega), heA (i + 1) (by omega)]
    refine front_ctr (News.isList N19 (.head _)) (hp1.take' (i + 1)) (by omega) (hsum _ (fun p hp => List.mem_of_mem_take hp) (by omega)) X T F19.keep (N20 _ (.head _)).2.2 C90 (N20 _ (.head _)).1 T86.1
      (T86.codes N20 (fun p hp => .tail _ (.tail _ (.tail _ (.tail _ (.tail _ (List.mem_append_left _ hp)))))) fun p hp => (hex p hp).1) g1 g2 g3 (fun k hk => front_hP hps0 (i + 1) hk) hle
      (endAt_mono hps1 (by rw [List.length_map]; exact hi)) rfl (by show dp < 490; omega) (by show un < 90; omega) ?_
    intro t86' h21 tk21 C21
    have hne1 : ∀ p ∈ (93, tabObj t93) :: (De, listOf ve.toArray ne) :: (Db, listOf vb.toArray nb) :: (P, lobj vp) :: (ex ++ own), p.1 ≠ 86 := by
      intro p hp
      rcases List.mem_cons.mp hp with rfl | hp
      · exact (show (93 : Nat) ≠ 86 by decide)
      rcases List.mem_cons.mp hp with rfl | hp
      · exact hE86.symm
      rcases List.mem_cons.mp hp with rfl | hp
      · exact hB86.symm
      rcases List.mem_cons.mp hp with rfl | hp
      · exact hP86.symm
      rcases List.mem_append.mp hp with hp | hp
      · exact (hex p hp).1
      · exact hoff p hp 86 (.head _)
    obtain ⟨ex1, F21, N21, T86', fr1⟩ := tab_step F19 N20 hne1 T86 C21
    have N22 : News g L h21 ((93, tabObj t93) :: (86, tabObj t86') :: (De, listOf ve.toArray ne) :: (Db, listOf vb.toArray nb) :: (P, lobj vp) :: (ex1 ++ (ex ++ own))) := fun p hp => N21 p (by
      rcases List.mem_cons.mp hp with rfl | hp
      · exact .tail _ (List.mem_append_right _ (.head _))
      rcases List.mem_cons.mp hp with rfl | hp
      · exact .head _
      rcases List.mem_cons.mp hp with rfl | hp
      · exact .tail _ (List.mem_append_right _ (.tail _ (.head _)))
      rcases List.mem_cons.mp hp with rfl | hp
      · exact .tail _ (List.mem_append_right _ (.tail _ (.tail _ (.head _))))
      rcases List.mem_cons.mp hp with rfl | hp
      · exact .tail _ (List.mem_append_right _ (.tail _ (.tail _ (.tail _ (.head _)))))
      rcases List.mem_append.mp hp with hp | hp
      · exact .tail _ (List.mem_append_left _ hp)
      · exact .tail _ (List.mem_append_right _ (.tail _ (.tail _ (.tail _ (.tail _ hp))))))
    have hf1 : ∀ p ∈ ex1, (p.1 ≠ 86 ∧ p.1 ≠ 93) ∧ ∀ q ∈ own, q.1 ≠ p.1 := fun p hp => by
      have h0 := fr1 p hp
      refine ⟨⟨fun e => ?_, fun e => ?_⟩, fun q hq e => ?_⟩
      · have := (N20 _ (.head _)).1; rw [e] at h0; rw [h0] at this; cases this
      · have := (N20 _ (.tail _ (.head _))).1; rw [e] at h0; rw [h0] at this; cases this
      · have := (N20 q (.tail _ (.tail _ (.tail _ (.tail _ (.tail _ (List.mem_append_right _ hq))))))).1; rw [e, h0] at this; cases this
    have T93' : Tab (ex1 ++ ex) t93 (Str.ofString "_law_tail.<locals>.<lambda>") := T93.more fun p hp => List.mem_append_right _ hp
    have hex1 : ∀ p ∈ ex1 ++ ex, p.1 ≠ 86 ∧ p.1 ≠ 93 := fun p hp => (List.mem_append.mp hp).elim (fun h => (hf1 p h).1) (hex p)
    clear F19 N19 N20 N21 T93 T86
    have hst : HaltS := ⟨⟩
    k_steps
    rename Fr _ _ _ _ => F23
    rename News _ _ _ _ => N23
    refine Stop.mk ?_
    with_unfolding_all refine kmk_slice (lo := some ((ps.length : Int) - ((1 : Int) + (i : Int)))) (hi := none) F23 N23 (News.isList N23 (.tail _ (.tail _ (.tail _ (.tail _ (.head _)))))) (.int _ _) .none ?_ (by with_unfolding_all rfl) (by intro _; with_unfolding_all rfl) (by rw [List.size_toArray, hvpl, sizeLine_eq]; omega)
    intro D2 h24 F24 N24 l24
    rw [pick_from vp (by omega), show ((ps.length : Int) - ((1 : Int) + (i : Int))).toNat = ps.length - (i + 1) by omega] at N24
    clear F23 N23
    k_steps
    rename Fr _ _ _ _ => F25
    rename News _ _ _ _ => N25
    have hdrl : (ps.drop (ps.length - (i + 1))).length = i + 1 := by rw [List.length_drop]; omega
    obtain ⟨g1, g2, g3⟩ := patOf_law (ps := ps.drop (ps.length - (i + 1))) (fun e => by have := congrArg List.length e; rw [hdrl, List.length_nil] at this; omega) (hsum _ (fun p hp => List.mem_of_mem_drop hp) (by omega)) (hpn _ fun p hp => List.mem_of_mem_drop hp)
    have N26 : News g L h24 ((93, tabObj t93) :: (86, tabObj t86') :: (De, listOf ve.toArray ne) :: (Db, listOf vb.toArray nb) :: (P, lobj vp) :: (ex1 ++ (ex ++ own))) := fun p hp => N25 p (.tail _ hp)
    have hbb := begAt_le (sg text) (ps.reverse.map sg) (i + 1)
    rw [sg_len] at hbb
    obtain ⟨fin, hfin⟩ : ∃ fin : Nat, begAt (sg text) (ps.reverse.map sg) (i + 1) + 1 = (fin : Int) := ⟨(begAt (sg text) (ps.reverse.map sg) (i + 1) + 1).toNat, by omega⟩
    refine Stop.mk ?_
    rw [show ((1 : Int) + (i : Int)).toNat = i + 1 by omega, hbA (i + 1) (by omega)]
    refine tail_ctr (News.isList N25 (.head _)) (hp1.drop' (ps.length - (i + 1))) (by omega) (hsum _ (fun p hp => List.mem_of_mem_drop hp) (by omega)) X T F25.keep (N26 _ (.head _)).2.2 C97 (N26 _ (.head _)).1 T93'.1
      (T93'.codes N26 (fun p hp => .tail _ (.tail _ (.tail _ (.tail _ (.tail _ ((List.mem_append.mp hp).elim (fun h => List.mem_append_left _ h) fun h => List.mem_append_right _ (List.mem_append_left _ h))))))) fun p hp => (hex1 p hp).2) g1 g2 g3 (fun k hk => tail_hP hps0 (by omega) hfin hk) (by omega) hfin rfl (by show dp < 490; omega) (by show un < 90; omega) ?_
    intro t93' h27 tk27 C27
    have hne2 : ∀ p ∈ (86, tabObj t86') :: (De, listOf ve.toArray ne) :: (Db, listOf vb.toArray nb) :: (P, lobj vp) :: (ex1 ++ (ex ++ own)), p.1 ≠ 93 := by
      intro p hp
      rcases List.mem_cons.mp hp with rfl | hp
      · exact (show (86 : Nat) ≠ 93 by decide)
      rcases List.mem_cons.mp hp with rfl | hp
      · exact hE93.symm
      rcases List.mem_cons.mp hp with rfl | hp
      · exact hB93.symm
      rcases List.mem_cons.mp hp with rfl | hp
      · exact hP93.symm
      rcases List.mem_append.mp hp with hp | hp
      · exact (hex1 p (List.mem_append_left _ hp)).2
      rcases List.mem_append.mp hp with hp | hp
      · exact (hex p hp).2
      · exact hoff p hp 93 (.tail _ (.head _))
    obtain ⟨ex2, F27, N27, T93'', fr2⟩ := tab_step F25 N26 hne2 T93' C27
    have hf2 : ∀ p ∈ ex2, (p.1 ≠ 86 ∧ p.1 ≠ 93) ∧ ∀ q ∈ own, q.1 ≠ p.1 := fun p hp => by
      have h0 := fr2 p hp
      refine ⟨⟨fun e => ?_, fun e => ?_⟩, fun q hq e => ?_⟩
      · have := (N26 _ (.tail _ (.head _))).1; rw [e] at h0; rw [h0] at this; cases this
      · have := (N26 _ (.head _)).1; rw [e] at h0; rw [h0] at this; cases this
      · have := (N26 q (.tail _ (.tail _ (.tail _ (.tail _ (.tail _ (List.mem_append_right _ (List.mem_append_right _ hq)))))))).1; rw [e, h0] at this; cases this
    have N28 : News g L h27 ((86, tabObj t86') :: (93, tabObj t93') :: (De, listOf ve.toArray ne) :: (Db, listOf vb.toArray nb) :: (P, lobj vp) :: (ex2 ++ (ex1 ++ (ex ++ own)))) := fun p hp => N27 p (by
      rcases List.mem_cons.mp hp with rfl | hp
      · exact .tail _ (List.mem_append_right _ (.head _))
      rcases List.mem_cons.mp hp with rfl | hp
      · exact .head _
      rcases List.mem_cons.mp hp with rfl | hp
      · exact .tail _ (List.mem_append_right _ (.tail _ (.head _)))
      rcases List.mem_cons.mp hp with rfl | hp
      · exact .tail _ (List.mem_append_right _ (.tail _ (.tail _ (.head _))))
      rcases List.mem_cons.mp hp with rfl | hp
      · exact .tail _ (List.mem_append_right _ (.tail _ (.tail _ (.tail _ (.head _)))))
      rcases List.mem_append.mp hp with hp | hp
      · exact .tail _ (List.mem_append_left _ hp)
      · exact .tail _ (List.mem_append_right _ (.tail _ (.tail _ (.tail _ (.tail _ hp))))))
    clear F25 N25 N26 N27
    k_steps
    rename Fr _ _ _ _ => F29
    rename News _ _ _ _ => N29
    have hex2 : ∀ p ∈ ex2 ++ (ex1 ++ ex), p.1 ≠ 86 ∧ p.1 ≠ 93 := fun p hp => (List.mem_append.mp hp).elim (fun h => (hf2 p h).1) (hex1 p)
    refine InvEndG.intro F29 N29 ⟨t86', t93', ex2 ++ (ex1 ++ ex), rfl, T86'.more fun p hp => List.mem_append_right _ hp, T93'', hex2, j1, j2, j3, j4⟩ ?_ ?_ ?_
    · intro p hp b hb
      obtain ⟨q, hq, rfl⟩ := List.mem_map.mp hb
      have old : ∀ r : Addr × Obj, r ∈ (86, tabObj t86) :: (93, tabObj t93) :: (De, listOf ve.toArray ne) :: (Db, listOf vb.toArray nb) :: (P, lobj vp) :: ex → p.1 ≠ r.1 := fun r hr => hoff p hp r.1 (List.mem_map.mpr ⟨r, hr, rfl⟩)
      rcases List.mem_cons.mp hq with rfl | hq
      · exact old (86, tabObj t86) (.head _)
      rcases List.mem_cons.mp hq with rfl | hq
      · exact old (93, tabObj t93) (.tail _ (.head _))
      rcases List.mem_cons.mp hq with rfl | hq
      · exact old _ (.tail _ (.tail _ (.head _)))
      rcases List.mem_cons.mp hq with rfl | hq
      · exact old _ (.tail _ (.tail _ (.tail _ (.head _))))
      rcases List.mem_cons.mp hq with rfl | hq
      · exact old _ (.tail _ (.tail _ (.tail _ (.tail _ (.head _)))))
      rcases List.mem_append.mp hq with hq | hq
      · exact (hf2 q hq).2 p hp
      rcases List.mem_append.mp hq with hq | hq
      · exact (hf1 q hq).2 p hp
      · exact old _ (.tail _ (.tail _ (.tail _ (.tail _ (.tail _ hq)))))
    · intro p hp
      rcases List.mem_cons.mp hp with rfl | hp
      · exact .head _
      rcases List.mem_cons.mp hp with rfl | hp
      · exact .tail _ (.head _)
      rcases List.mem_cons.mp hp with rfl | hp
      · exact .tail _ (.tail _ (.head _))
      rcases List.mem_cons.mp hp with rfl | hp
      · exact .tail _ (.tail _ (.tail _ (.head _)))
      rcases List.mem_cons.mp hp with rfl | hp
      · exact .tail _ (.tail _ (.tail _ (.tail _ (.head _))))
      refine .tail _ (.tail _ (.tail _ (.tail _ (.tail _ ?_))))
      rcases List.mem_append.mp hp with hp | hp
      · exact List.mem_append_left _ hp
      rcases List.mem_append.mp hp with hp | hp
      · exact List.mem_append_right _ (List.mem_append_left _ hp)
      · exact List.mem_append_right _ (List.mem_append_right _ (List.mem_append_left _ hp))
    · intro p hp
      exact .tail _ (.tail _ (.tail _ (.tail _ (.tail _ (List.mem_append_right _ (List.mem_append_right _ (List.mem_append_right _ hp)))))))
  · rintro m₂ nx h tk ⟨t86, t93, ex, rfl, T86, T93, hex, j1, j2, j3, j4⟩ F16 N16
    clear F15 N15
    change Fr g L h _ at F16
    change News g L h _ at N16
    have inl : InLoopR := ⟨⟩
    have N17 : News g L h [(De, listOf ve.toArray ne), (Db, listOf vb.toArray nb), (P, lobj vp), (86, tabObj t86), (93, tabObj t93)] := fun p hp => N16 p (by
      rcases List.mem_cons.mp hp with rfl | hp
      · exact .tail _ (.tail _ (.head _))
      rcases List.mem_cons.mp hp with rfl | hp
      · exact .tail _ (.tail _ (.tail _ (.head _)))
      rcases List.mem_cons.mp hp with rfl | hp
      · exact .tail _ (.tail _ (.tail _ (.tail _ (.head _))))
      rcases List.mem_cons.mp hp with rfl | hp
      · exact .head _
      rw [List.mem_singleton.mp hp]
      exact .tail _ (.head _))
    clear N16 T86 T93 hex
    k_steps
    rename Fr _ _ _ _ => F17
    rename News _ _ _ _ => N17
    refine Stop.mk ?_
    refine For_invV g rfl rfl ?_
    clear hr
    k_steps
    rename IsRange _ _ _ _ _ _ _ _ => hr
    rename Fr _ _ _ _ => F18
    rename News _ _ _ _ => N18
    refine Stop.mk ?_
    refine loopR (h₀ := g) (n := ps.length + 1) (fun i m nx => nx = [(De, listOf ve.toArray ne), (Db, listOf vb.toArray nb), (P, lobj vp), (86, tabObj t86), (93, tabObj t93)] ∧
      m "text" = some (.str text t1) ∧ m "pieces" = some (.ref P) ∧ m "ends" = some (.ref De) ∧ m "begins" = some (.ref Db)) rfl hr (small_one (by omega) (by omega) (by omega) (by omega)) (by rw [rangeSize_nat]; omega) F18 N18
      ⟨rfl, j1, j2, j3, j4⟩ ?_ ?_
    · rintro i tn m₃ nx h tk own hi hoff ⟨rfl, j1, j2, j3, j4⟩ F19 N19
      clear F18 N18
      change Fr g L h _ at F19
      change News g L h _ at N19
      rw [Int.zero_add] at F19
      have hcut : (decide (es.getD (i : Int).toNat 0 ≤ bs.getD ((ps.length : Int) - (i : Int)).toNat 0) != decide (es.getD ((-1 : Int) + (es.length : Int)).toNat 0 ≤ (text.length : Int))) = false := by
        rw [show (i : Int).toNat = i by omega, show ((ps.length : Int) - (i : Int)).toNat = ps.length - i by omega, show ((-1 : Int) + (es.length : Int)).toNat = ps.length by omega, heA i (by omega), heA ps.length (Nat.le_refl _), hbA _ (by omega)]
        have := cut_hP (T := sg text) hps1 (j := i) (by omega)
        rw [sg_len] at this
        rw [this]
        exact bne_self_eq_false _
      k_steps
      rename Fr _ _ _ _ => F20
      rename News _ _ _ _ => N20
      exact InvEndG.intro F20 N20 ⟨rfl, j1, j2, j3, j4⟩ hoff (fun p hp => List.mem_append_left _ hp) (fun p hp => List.mem_append_right _ hp)
    · rintro m₃ nx h tk ⟨rfl, j1, j2, j3, j4⟩ F19 N19
      clear F18 N18
      change Fr g L h _ at F19
      change News g L h _ at N19
      have hpt : ∀ p ∈ ps, 1 ≤ p.length ∧ p.length ≤ text.length ∧ 45 ∉ sg p ∧ 46 ∉ sg p := fun p hp =>
        have hm := menu_ok p (hpm p hp)
        ⟨hm.1, Nat.le_trans hm.2.1 (by omega), hm.2.2.1, hm.2.2.2.1⟩
      k_steps
      rename Fr _ _ _ _ => F20
      rename News _ _ _ _ => N20
      refine Stop.mk (tied_ctr (News.isList N20 (.tail _ (.tail _ (.head _)))) hp1 (News.isList N20 (.head _)) (hes ▸ hIe) (by omega) (hsum ps (fun _ h => h) hpl.2) hpl.1 hpt (X.keeps F20.keep) (T.keeps F20.keep) rfl (by show dp < 490; omega) ?_)
      intro h21 tk21 st21
      have F21 := F20.keeps st21
      have N21 := N20.keeps st21
      clear F20 N20
      k_steps
      rename Fr _ _ _ _ => F22
      rename News _ _ _ _ => N22
      rw [krv_pick] at N22
      have hp1r : StrsAre vp.reverse ps.reverse := StrsAre.rev hp1
      have hp3r : ∀ p ∈ ps.reverse, p.length ≤ 3 := fun p hp => hp3 p (List.mem_reverse.mp hp)
      have hrl : ps.reverse.length = ps.length := List.length_reverse
      refine Stop.mk (ends_ctr (News.isList N22 (.head _)) hp1r (by omega) (by omega) (fun p hp => Nat.le_trans (hp3r p hp) (by decide)) (X.keeps F22.keep) (T.keeps F22.keep) rfl (by show dp < 498; omega) ?_)
      intro Dr vr nr hr23 tk23 st23 fr23 hg23 hIr
      have F23 := F22.keeps st23
      have N23 := news_cons F22 N22 st23 fr23 hg23
      clear F22 N22
      k_steps
      rename Fr _ _ _ _ => F24
      rename News _ _ _ _ => N24
      refine Stop.mk (tied_ctr (News.isList N24 (.tail _ (.head _))) hp1r (News.isList N24 (.head _)) hIr (by omega) (hsum ps.reverse (fun _ h => List.mem_reverse.mp h) (by omega)) (by omega) (fun p hp => hpt p (List.mem_reverse.mp hp)) (X.keeps F24.keep) (T.keeps F24.keep) rfl (by show dp < 490; omega) ?_)
      intro h25 tk25 st25
      have F25 := F24.keeps st25
      have N25 := N24.keeps st25
      clear F24 N24
      k_steps
      rename Fr _ _ _ _ => F26
      rename News _ _ _ _ => N26
      have hm0 := menu_ok _ (hpm _ (getD_mem (ps := ps) (k := Int.toNat 0) (by show 0 < ps.length; omega)))
      refine Stop.mk (copies_ctr (by omega) (by omega) hm0.1 (Nat.le_trans hm0.2.1 (by decide)) hm0.2.2.2.2 hm0.2.2.1 hm0.2.2.2.1 (X.keeps F26.keep) (T.keeps F26.keep) rfl (by show dp < 490; omega) ?_)
      intro h27 tk27 st27
      have F27 := F26.keeps st27
      have N27 := N26.keeps st27
      clear F26 N26
      k_steps
      rename Fr _ _ _ _ => F28
      rename News _ _ _ _ => N28
      have hm1 := menu_ok _ (hpm _ (getD_mem (ps := ps) (k := ((-1 : Int) + (ps.length : Int)).toNat) (by omega)))
      refine Stop.mk (copies_ctr (by omega) (by omega) hm1.1 (Nat.le_trans hm1.2.1 (by decide)) hm1.2.2.2.2 hm1.2.2.1 hm1.2.2.2.1 (X.keeps F28.keep) (T.keeps F28.keep) rfl (by show dp < 490; omega) ?_)
      intro h29 tk29 st29
      have F29 := F28.keeps st29
      have N29 := N28.keeps st29
      refine ⟨_, _, _, t86, t93, rfl, rfl, F29, fun p hp => N29 p (.tail _ (.tail _ (.tail _ (.tail _ (.tail _ ?_)))))⟩
      exact hp
end Mine
end

-- T_law
theorem Mine.calm18 : True := by first | walk1 | exact trivial
set_option maxHeartbeats 2000000
section
open PySem.Calls PySem.Spec
namespace Mine
open LCg LCt
local macro_rules | `(tactic| walk_at "eval ListComp") => `(tactic| refine Stop.to ?_)
local macro_rules | `(tactic| walk_at "CompSrc") => `(tactic| (rename Halt => hz; clear hz; refine Stop.to ?_))
structure HaltX : Prop
local macro_rules | `(tactic| walk_at "execs cons") => `(tactic| (rename HaltX => hz; clear hz; refine Stop.to ?_))
local macro_rules | `(tactic| walk_at "call ref") => `(tactic| refine Stop.to ?_)
local macro_rules | `(tactic| walk_at "exec For Name Call cons nil") => `(tactic| refine Stop.to ?_)
local macro_rules | `(tactic| walk_at "pyIter ref") => `(tactic| refine Stop.to ?_)
theorem sum_ones : ∀ {cs : List Str}, (∀ c ∈ cs, c.length = 1) → (cs.map (·.length)).sum = cs.length
  | [], _ => rfl
  | c :: r, h => by rw [List.map_cons, List.sum_cons, h c (.head _), sum_ones fun d hd => h d (.tail _ hd), List.length_cons]; omega
theorem menu_at {k : Nat} (h : k < 7) : menu.getD k Str.empty ∈ menu := by
  rw [List.getD_eq_getElem?_getD, List.getElem?_eq_getElem (show k < menu.length from h)]
  exact List.getElem_mem _
theorem add_listsX {prog : Program} {w : World} {A : Around} {E : Value → Shared → Prop} {s : Shared} {h₀ : Heap} {L : Addr} {m : Str → Option Value} {news : List (Addr × Obj)} {l b : Addr} {vs ws : List Value} {Q : Value → Shared → Prop} (F : Fr h₀ L s.heap m) (N : News h₀ L s.heap news) (hl : s.heap.IsList l vs.toArray) (hb : s.heap.IsList b ws.toArray)
    (h : ∀ P h', Fr h₀ L h' m → News h₀ L h' ((P, { cls := .type "list", data := .seq (vs ++ ws).toArray }) :: news) → (∀ p ∈ news, p.1 ≠ P) → Q (.ref P) { s with heap := h' })
    (hsz : vs.length + ws.length ≤ sizeLine) :
    wpAny (model prog w) A (binaryOp .Add (.ref l) (.ref b)) Q E s := add_lists F N hl hb (fun h' F' N' => h _ h' F' N' fun p hp => Nat.ne_of_lt (Heap.lt_size (N p hp).1)) hsz
theorem depth_ok {e : Env} : (callerA.deeper e).depth < 480 := by
  show 1 + 300 + 1 < 480
  decide
theorem units_ok {e : Env} : (callerA.deeper e).units < 80 := by
  show 4 + 3 < 80
  decide
theorem law_ok : PySem.Challenge.rw_pe0135_01.Holds := hd (by
  k_go0
  generalize ghostOf _ _ = g at *
  have c90 : CodeHd g 90 86 := by assumption
  have c97 : CodeHd g 97 93 := by assumption
  rename Shared => s₁
  rename Top topProg _ _ _ _ _ => T
  rename Frag.In (hd.heap_39 _) _ => X
  rename (IntsAre _ _) => hI
  rename List Int => ns
  rename News _ _ _ _ => N0
  rename Fr _ _ _ _ => F0
  k_steps
  rename Heap.IsList _ _ _ => lifted
  rename (IntsAre _ (List.map _ _)) => hI8
  rename_i hL8 D1 h1 tk1 F1 N1 ne1
  have hnl : (List.map (fun k' : Int => k'.fmod (10 ^ Int.toNat 6)) (List.take 6 ns)).length ≤ 6 := by rw [List.length_map, List.length_take]; omega
  generalize (List.map (fun k' : Int => k'.fmod (10 ^ Int.toNat 6)) (List.take 6 ns)) = nums at hI8 hL8 hnl
  have halt : Halt := ⟨⟩
  refine Stop.mk ?_
  refine LCg.ListComp_U (F₀ := F1) (by with_unfolding_all rfl) (by decide) (by rfl) (by decide) (by rfl) ?_
  k_steps
  rename Fr _ _ _ _ => F2
  rename News _ _ _ _ => N2
  refine Stop.mk (CompSrc.ledger rfl F2 N2 (.head _) (by rw [List.size_toArray, hL8, sizeLine_eq]; omega) ?_)
  intro g2
  refine compU_ind (fun i ys => ∃ cs, StrsAre ys cs ∧ cs.length = i ∧ ∀ c ∈ cs, c.length = 1) (Or.inr ⟨_, .head _, rfl, _, rfl⟩) ?_ ?_ _ 0 [] (Nat.zero_add _) ⟨[], .nil, rfl, fun _ h => nomatch h⟩
  · rintro i ys v I oI C oC D m₂ h tk E' hi ⟨cs, hj1, hj2, hj3⟩ hv hC hx F3 N3
    rw [List.size_toArray] at hi
    rw [List.getElem?_toArray] at hv
    obtain ⟨x, tx, rfl, hxn⟩ := IntsAre.at hI8 i v hv
    clear F2 N2
    k_steps
    rename (Str.length (Txt.item _ _) = 1) => hit
    refine ⟨_, _, rfl, F3, N3, cs ++ [_], StrsAre.app hj1 (.cons _ _ .nil), by rw [List.length_append, hj2]; rfl, fun c hc => ?_⟩
    rcases List.mem_append.mp hc with hc | hc
    · exact hj3 c hc
    · rw [List.mem_singleton.mp hc]; exact hit
  rintro ys2 ⟨cs, hc1, hc2, hc3⟩
  rw [List.size_toArray, hL8] at hc2
  clear F2 N2
  intro D2 h2 tk2 F2 N2 _
  k_steps
  rename Fr _ _ _ _ => F3
  rename News _ _ _ _ => N3
  refine join_list (News.isList N3 (.head _)) hc1 ?_ ?_
  · rw [sum_ones hc3]; show cs.length + cs.length * 0 ≤ 16777216; omega
  intro tj kj
  have hjl : (Txt.join (Str.ofString "") cs).length ≤ 6 := by
    have := join_len (Str.ofString "") cs
    rw [sum_ones hc3, show (Str.ofString "").length = 0 by decide] at this
    omega
  k_steps
  obtain ⟨text, htext⟩ : ∃ text, Str.ofString "abcab" ++ Txt.join (Str.ofString "") cs = text := ⟨_, rfl⟩
  have htl : 5 ≤ text.length ∧ text.length ≤ 11 := by
    rw [← htext, Str.length_append, show (Str.ofString "abcab").length = 5 by decide]
    omega
  rename Fr _ _ _ _ => F4
  rename News _ _ _ _ => N4
  rw [htext] at F4
  refine Stop.mk ?_
  refine LCg.ListComp_U (F₀ := F4) (by with_unfolding_all rfl) (by decide) (by rfl) (by decide) (by rfl) ?_
  have halt : Halt := ⟨⟩
  k_steps
  rename Fr _ _ _ _ => F5
  rename News _ _ _ _ => N5
  rename (IntsAre _ (List.take 3 nums)) => hI3
  have h3l : (List.take 3 nums).length ≤ 3 := by rw [List.length_take]; omega
  have hL3 := hI3.length
  refine Stop.mk (CompSrc.ledger rfl F5 N5 (.head _) (by rw [List.size_toArray, hL3, sizeLine_eq]; omega) ?_)
  intro g6
  refine compU_ind (fun i ys => ∃ qs, StrsAre ys qs ∧ qs.length = i ∧ ∀ c ∈ qs, c ∈ menu) (Or.inr ⟨_, .head _, rfl, _, rfl⟩) ?_ ?_ _ 0 [] (Nat.zero_add _) ⟨[], .nil, rfl, fun _ h => nomatch h⟩
  · rintro i ys v I oI C oC D m₂ h tk E' hi ⟨qs, hj1, hj2, hj3⟩ hv hC hx F6 N6
    rw [List.size_toArray] at hi
    rw [List.getElem?_toArray] at hv
    obtain ⟨x, tx, rfl, hxn⟩ := IntsAre.at hI3 i v hv
    clear F5 N5
    k_with "table" => skip
    k_steps
    rename Fr _ _ _ _ => F7
    rename News _ _ _ _ => N7
    rename (Int.toNat _ < 1 + 1 + 1 + 1 + 1 + 1 + 1) => hlt
    refine ⟨_, _, rfl, F7, fun p hp => N7 p (.tail _ hp), qs ++ [_], StrsAre.app hj1 (.cons _ _ .nil), by rw [List.length_append, hj2]; rfl, fun c hc => ?_⟩
    rcases List.mem_append.mp hc with hc | hc
    · exact hj3 c hc
    · rw [List.mem_singleton.mp hc]; exact menu_at hlt
  rintro ys3 ⟨qs, hq1, hq2, hq3⟩
  rw [List.size_toArray, hL3] at hq2
  clear F5 N5
  intro D3 h3 tk3 F5 N5 o5
  k_steps
  rename Fr _ _ _ _ => F6
  rename News _ _ _ _ => N6
  have hyl3 := hq1.length
  refine add_listsX F6 N6 (News.isList N6 (.tail _ (.tail _ (.head _)))) (News.isList N6 (.head _)) ?_ (by show 2 + ys3.length ≤ 16777216; omega)
  intro P h7 F7 N7 hPne
  clear F6 N6
  change News _ _ _ ((_, { cls := .type "list", data := .seq (Value.str _ _ :: Value.str _ _ :: ys3).toArray }) :: _) at N7
  have hP93 : (93 : Nat) ≠ P := hPne (93, tabObj #[]) (.tail _ (.tail _ (.tail _ (.tail _ (.tail _ (.tail _ (.head _)))))))
  have hP86 : (86 : Nat) ≠ P := hPne (86, tabObj #[]) (.tail _ (.tail _ (.tail _ (.tail _ (.tail _ (.tail _ (.tail _ (.head _))))))))
  clear hPne
  have hp1 : StrsAre (Value.str (Str.ofString "ab") _ :: Value.str (Str.ofString "a") _ :: ys3) (Str.ofString "ab" :: Str.ofString "a" :: qs) := .cons _ tk (.cons _ (tk + 1) hq1)
  have hpm : ∀ p ∈ Str.ofString "ab" :: Str.ofString "a" :: qs, p ∈ menu := fun p hp => by
    rcases List.mem_cons.mp hp with rfl | hp
    · decide +kernel
    rcases List.mem_cons.mp hp with rfl | hp
    · decide +kernel
    · exact hq3 p hp
  obtain ⟨vp, hvp⟩ : ∃ vp, Value.str (Str.ofString "ab") tk :: Value.str (Str.ofString "a") (tk + 1) :: ys3 = vp := ⟨_, rfl⟩
  obtain ⟨ps, hps⟩ : ∃ ps, Str.ofString "ab" :: Str.ofString "a" :: qs = ps := ⟨_, rfl⟩
  have hpl : 2 ≤ ps.length ∧ ps.length ≤ 5 := by rw [← hps]; simp only [List.length_cons]; omega
  rw [hvp] at N7
  rw [hps] at hpm
  rw [hvp, hps] at hp1
  have N8 : News _ _ _ [(P, { cls := .type "list", data := .seq vp.toArray }), (93, tabObj #[]), (86, tabObj #[])] := fun p hp => N7 p (by
    rcases List.mem_cons.mp hp with rfl | hp
    · exact .head _
    · exact .tail _ (.tail _ (.tail _ (.tail _ (.tail _ (.tail _ (.tail _ hp)))))))
  clear N7
  have hx : HaltX := ⟨⟩
  k_steps
  rename Fr _ _ _ _ => F8
  rename News _ _ _ _ => N8
  refine Stop.mk ?_
  refine wpAny_mono (Q := Came s₁ g s₁.heap.objs.size) (E := fun _ _ => False) ?_ ?_ ?_
  · exact law_rest rfl X T c97 c90 F8 N8 hP93 hP86 hp1 hpm ⟨hpl.1, Nat.le_trans hpl.2 (by decide)⟩ htl rfl depth_ok units_ok
  · rintro _ _ ⟨m', h', tk', t86, t93, rfl, rfl, F9, N9⟩
    clear F8 N8
    k_steps
    all_goals trace_state
    all_goals w_report
  · exact fun _ _ x => x.elim)
end Mine
end

set_option maxHeartbeats 1000000
theorem PySem.Challenge.cw_pe0135_01_holds : PySem.Challenge.rw_pe0135_01.Holds := by
  exact Mine.law_ok
