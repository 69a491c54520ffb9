import PyProof.Rows.All
import Wide.All
import OpenK.AllK
import Wide.FinOn
import PySem.Challenge.RW_ty0017_01
set_option Elab.async false
section
open PySem PySem.W PyProof.Rows
namespace Mine
set_option maxRecDepth 100000 in
set_option maxHeartbeats 8000000 in
open_top hd for PySem.Challenge.rw_ty0017_01
end Mine
end
section
open PySem PySem.W PySem.Spec PySem.Calls PyProof.Rows
set_option maxRecDepth 100000
namespace Mine




/-- where a call is made: the caller's frame and what lies below it -/
inductive Ctx (w : World) (D U : Nat) : Around → Heap → Prop
  | mk {p : Program} {loose : List Str} {mean : ExcName → Option Value} {mg mb : Str → Option Value} {dp un : Nat} {gd : Option (List Code)} {cn : Str} {cs : Scope} {a : Addr} {ccd : Value} {cl : List (Str × Addr)} {outer : List Env} {A₀ : Around} {base h₀ : Heap} {L : Addr} {m : Str → Option Value} {h : Heap} :
    Below A₀ base outer h₀ → Fr h₀ L h m → (hd.heap_39 w.params).In h₀ → Top p loose mean mg mb h₀ → cs.kind = .function → dp + D < recursionLimit → un + U < cLine →
    Ctx w D U (ktrTop dp un gd cn cs L a ccd cl outer) h

theorem code_P {w : World} {A A₀ : Around} {s : Shared} {base h₀ : Heap} {L : Addr} {m mg mb : Str → Option Value} {p : Program} {loose : List Str} {mean : ExcName → Option Value}
    {env : Env} {outer : List Env} {E Q : Value → Shared → Prop} {name qual : Str} {params : Arguments} {body : List Stmt} {scope : Scope} {dV kV doc pm cdv ct oc : Value} {an od : Option Addr} {osl : Array (Option Value)} {f : Addr} {args : Args} {binds : List (Str × Value)}
    (B : Below A₀ base outer h₀) (F : Fr h₀ L s.heap m) (X₀ : (hd.heap_39 w.params).In h₀) (T : Top p loose mean mg mb h₀) (hA : A.frames = some (env :: outer)) (hf : env.frame = some L) (hke : env.scope.kind = .function)
    (ho : (hd.heap_39 w.params).lookup f = some ⟨oc, od, .func (fnOf name qual params body scope dV kV doc pm an cdv ct), osl⟩) (hcd : codeIn (hd.heap_39 w.params) cdv qual = true) (hroom : A.depth < recursionLimit)
    (hbind : BindsTo s (fnOf name qual params body scope dV kV doc pm an cdv ct) args binds) (hloc : ∀ y ∈ binds, scope.names.lookup y.1 = some .local)
    (h : ∀ L' h₁, Fr s.heap L' h₁ (fun y => binds.reverse.lookup y) → News s.heap L' h₁ [] → Below A base (env :: outer) s.heap → (hd.heap_39 w.params).In s.heap → Top p loose mean mg mb s.heap →
      wpAny (model PySem.Challenge.rw_ty0017_01.row.prog w) (A.deeper (envOf qual scope L' f cdv)) (execs body (envOf qual scope L' f cdv))
        (fun fl s' => Q (match fl with | .ret v => v | _ => .none) s')
        (fun e s' => wpAny (model PySem.Challenge.rw_ty0017_01.row.prog w) (A.deeper (envOf qual scope L' f cdv)) (leaving (envOf qual scope L' f cdv) e) (fun _ s'' => E e s'') (fun e' s'' => E e' s'') s')
        { s with heap := h₁, toks := s.toks + binds.length })
    (hco : scope.isCoroutine = false) (hgen : scope.isGenerator = false) (hk : scope.kind = .function)
    (hcell : ∀ x ∈ scope.names, x.2 ≠ .cell) : codeAny (model PySem.Challenge.rw_ty0017_01.row.prog w) A (.call (.ref f) args) (fun r s' => match r with | .ok (.ret v) => Q v s' | .ok _ => False | .error e => E e s') s := by
  have st : h₀.StaysIn s.heap := F.keep
  refine codeAny_call_def (fd := fnOf name qual params body scope dV kV doc pm an cdv ct) (body := body) (binds := binds) hroom (X₀.keeps F.keep _ _ ho) rfl (T.nolimit.keeps F.keep) (codeRec_of (X₀.keeps F.keep) hcd) rfl hbind hcell hloc (fun h₁ hns hk₁ => ?_) hco hgen hk
  have B₁ := pushX B F hf hke
  refine h _ h₁ ⟨hns, hk₁, Nat.le_refl _⟩ News.nil ⟨hA, B₁.stays, B₁.frames⟩ (X₀.keeps st) (T.keeps st)

/-- as Ctx, with what the caller has made and the call may turn -/
inductive CtxN (w : World) (D U : Nat) : Around → Heap → List (Addr × Obj) → Prop
  | mk {p : Program} {loose : List Str} {mean : ExcName → Option Value} {mg mb : Str → Option Value} {dp un : Nat} {gd : Option (List Code)} {cn : Str} {cs : Scope} {a : Addr} {ccd : Value} {cl : List (Str × Addr)} {outer : List Env} {A₀ : Around} {base h₀ : Heap} {L : Addr} {m : Str → Option Value} {h : Heap} {hid : List (Addr × Obj)} :
    Below A₀ base outer h₀ → Fr h₀ L h m → News h₀ L h hid → (hd.heap_39 w.params).In h₀ → Top p loose mean mg mb h₀ → cs.kind = .function → dp + D < recursionLimit → un + U < cLine →
    CtxN w D U (ktrTop dp un gd cn cs L a ccd cl outer) h hid
theorem CtxN.ctx {w : World} {D U : Nat} {A : Around} {h : Heap} {hid : List (Addr × Obj)} (C : CtxN w D U A h hid) : Ctx w D U A h := by
  obtain ⟨B, F, N, X, T, hk, hd, hu⟩ := C
  exact ⟨B, F, X, T, hk, hd, hu⟩

theorem code_H {w : World} {A A₀ : Around} {s : Shared} {base h₀ : Heap} {L : Addr} {m mg mb : Str → Option Value} {p : Program} {loose : List Str} {mean : ExcName → Option Value} {hid : List (Addr × Obj)}
    {env : Env} {outer : List Env} {E Q : Value → Shared → Prop} {name qual : Str} {params : Arguments} {body : List Stmt} {scope : Scope} {dV kV doc pm cdv ct oc : Value} {an od : Option Addr} {osl : Array (Option Value)} {f : Addr} {args : Args} {binds : List (Str × Value)}
    (B : Below A₀ base outer h₀) (F : Fr h₀ L s.heap m) (N : News h₀ L s.heap hid) (X₀ : (hd.heap_39 w.params).In h₀) (T : Top p loose mean mg mb h₀) (hA : A.frames = some (env :: outer)) (hf : env.frame = some L) (hke : env.scope.kind = .function)
    (ho : (hd.heap_39 w.params).lookup f = some ⟨oc, od, .func (fnOf name qual params body scope dV kV doc pm an cdv ct), osl⟩) (hcd : codeIn (hd.heap_39 w.params) cdv qual = true) (hroom : A.depth < recursionLimit)
    (hbind : BindsTo s (fnOf name qual params body scope dV kV doc pm an cdv ct) args binds) (hloc : ∀ y ∈ binds, scope.names.lookup y.1 = some .local)
    (h : ∀ L' h₁, Fr (hideAll s.heap (hid.map (·.1))) L' h₁ (fun y => binds.reverse.lookup y) → News (hideAll s.heap (hid.map (·.1))) L' h₁ hid → Below A base (env :: outer) (hideAll s.heap (hid.map (·.1))) → (hd.heap_39 w.params).In (hideAll s.heap (hid.map (·.1))) → Top p loose mean mg mb (hideAll s.heap (hid.map (·.1))) → (∀ q ∈ hid, q.1 < L') →
      wpAny (model PySem.Challenge.rw_ty0017_01.row.prog w) (A.deeper (envOf qual scope L' f cdv)) (execs body (envOf qual scope L' f cdv))
        (fun fl s' => Q (match fl with | .ret v => v | _ => .none) s')
        (fun e s' => wpAny (model PySem.Challenge.rw_ty0017_01.row.prog w) (A.deeper (envOf qual scope L' f cdv)) (leaving (envOf qual scope L' f cdv) e) (fun _ s'' => E e s'') (fun e' s'' => E e' s'') s')
        { s with heap := h₁, toks := s.toks + binds.length })
    (hco : scope.isCoroutine = false) (hgen : scope.isGenerator = false) (hk : scope.kind = .function)
    (hcell : ∀ x ∈ scope.names, x.2 ≠ .cell) : codeAny (model PySem.Challenge.rw_ty0017_01.row.prog w) A (.call (.ref f) args) (fun r s' => match r with | .ok (.ret v) => Q v s' | .ok _ => False | .error e => E e s') s := by
  obtain ⟨FG, BG, st, _⟩ := groundX (R := fun _ _ => True) B F N hA hf hke
  refine codeAny_call_def (fd := fnOf name qual params body scope dV kV doc pm an cdv ct) (body := body) (binds := binds) hroom (X₀.keeps F.keep _ _ ho) rfl (T.nolimit.keeps F.keep) (codeRec_of (X₀.keeps F.keep) hcd) rfl hbind hcell hloc (fun h₁ hns hk₁ => ?_) hco hgen hk
  refine h _ h₁ ⟨hns, fun b o e => hk₁ b o (of_hideAll _ e), Nat.le_of_eq (hideAll_size _ _)⟩ (fun p hp => ⟨hk₁ _ _ (N p hp).1, Nat.ne_of_lt (Heap.lt_size (N p hp).1), hideAll_none _ (List.mem_map_of_mem hp)⟩) BG (X₀.keeps st) (T.keeps st) (fun p hp => Heap.lt_size (N p hp).1)

theorem fr_stay {h₀ h h' : Heap} {L : Addr} {m : Str → Option Value} (F : Fr h₀ L h m) (k : h.StaysIn h') : Fr h₀ L h' m := ⟨F.ns.keeps k, fun b o e => k _ _ (F.keep b o e), F.above⟩
theorem news_stay {h₀ h h' : Heap} {L : Addr} {news : List (Addr × Obj)} (N : News h₀ L h news) (k : h.StaysIn h') : News h₀ L h' news := fun p hp => ⟨k _ _ (N p hp).1, (N p hp).2⟩
theorem news_one {h₀ h : Heap} {L : Addr} {p : Addr × Obj} {news : List (Addr × Obj)} (N : News h₀ L h news) (hp : p ∈ news) : News h₀ L h [p] := fun q hq => N q (by rw [List.mem_singleton.mp hq]; exact hp)
end Mine
end
open PySem PySem.W PySem.Spec PySem.Calls PyProof.Rows
local macro_rules | `(tactic| ktn_open) => `(tactic| (refine' Mine.code_P ?k1 ?k2 ?k3 ?k5 ?kA ?kF ?kK ?k6 ?k7 ?k8 ?k9 ?kB ?_ ?c2 ?c3 ?c4 ?c5; (case kA => exact rfl); (case kF => exact rfl); (case kK => assumption); (case k1 => k_asm); (case k2 => k_asm); (case k3 => k_asm); (case k5 => k_asm); (case k6 => k_is); (case k7 => k_is); (case k8 => ktr_room); (case k9 => first | exact BindsTo.of_eq rfl | (refine' kp_binds ?kx ?ke; (case kx => k_in); (case ke => exact fun _ => rfl))); (case c5 => decide); (case kB => exact locs rfl); (case c2 => exact rfl); (case c3 => exact rfl); (case c4 => exact rfl); k_whole; intro L' h' F' N' B' X' T'; (try dsimp only); (try k_fold)))
local macro_rules | `(tactic| k_ne) => `(tactic| (refine neN ?_; (try dsimp only); with_reducible first | (first | ((iterate 9 (try first | assumption | (refine' And.right ?_; rotate_left))); done) | (refine' And.left ?_; rotate_left 1; ((iterate 9 (try first | assumption | (refine' And.right ?_; rotate_left))); done)) | (refine' And.left (And.left ?_); rotate_left 2; ((iterate 9 (try first | assumption | (refine' And.right ?_; rotate_left))); done)) | (refine' And.left (And.right (And.left ?_)); rotate_left 3; ((iterate 9 (try first | assumption | (refine' And.right ?_; rotate_left))); done)) | (refine' And.right (And.left ?_); rotate_left 2; ((iterate 9 (try first | assumption | (refine' And.right ?_; rotate_left))); done)) | (refine' And.right (And.right (And.left ?_)); rotate_left 3; ((iterate 9 (try first | assumption | (refine' And.right ?_; rotate_left))); done))) | (refine Ne.symm ?_; (first | ((iterate 9 (try first | assumption | (refine' And.right ?_; rotate_left))); done) | (refine' And.left ?_; rotate_left 1; ((iterate 9 (try first | assumption | (refine' And.right ?_; rotate_left))); done)) | (refine' And.left (And.left ?_); rotate_left 2; ((iterate 9 (try first | assumption | (refine' And.right ?_; rotate_left))); done)) | (refine' And.left (And.right (And.left ?_)); rotate_left 3; ((iterate 9 (try first | assumption | (refine' And.right ?_; rotate_left))); done)) | (refine' And.right (And.left ?_); rotate_left 2; ((iterate 9 (try first | assumption | (refine' And.right ?_; rotate_left))); done)) | (refine' And.right (And.right (And.left ?_)); rotate_left 3; ((iterate 9 (try first | assumption | (refine' And.right ?_; rotate_left))); done)))) | (refine Nat.ne_of_lt ?_; (first | ((iterate 9 (try first | assumption | (refine' And.right ?_; rotate_left))); done) | (refine' And.left ?_; rotate_left 1; ((iterate 9 (try first | assumption | (refine' And.right ?_; rotate_left))); done)) | (refine' And.left (And.left ?_); rotate_left 2; ((iterate 9 (try first | assumption | (refine' And.right ?_; rotate_left))); done)) | (refine' And.left (And.right (And.left ?_)); rotate_left 3; ((iterate 9 (try first | assumption | (refine' And.right ?_; rotate_left))); done)) | (refine' And.right (And.left ?_); rotate_left 2; ((iterate 9 (try first | assumption | (refine' And.right ?_; rotate_left))); done)) | (refine' And.right (And.right (And.left ?_)); rotate_left 3; ((iterate 9 (try first | assumption | (refine' And.right ?_; rotate_left))); done)))) | (refine Nat.ne_of_gt ?_; (first | ((iterate 9 (try first | assumption | (refine' And.right ?_; rotate_left))); done) | (refine' And.left ?_; rotate_left 1; ((iterate 9 (try first | assumption | (refine' And.right ?_; rotate_left))); done)) | (refine' And.left (And.left ?_); rotate_left 2; ((iterate 9 (try first | assumption | (refine' And.right ?_; rotate_left))); done)) | (refine' And.left (And.right (And.left ?_)); rotate_left 3; ((iterate 9 (try first | assumption | (refine' And.right ?_; rotate_left))); done)) | (refine' And.right (And.left ?_); rotate_left 2; ((iterate 9 (try first | assumption | (refine' And.right ?_; rotate_left))); done)) | (refine' And.right (And.right (And.left ?_)); rotate_left 3; ((iterate 9 (try first | assumption | (refine' And.right ?_; rotate_left))); done))))))
local macro_rules | `(tactic| walk_at $s:str) => `(tactic| k_extra $(Lean.Syntax.mkStrLit ("w " ++ s.getString)))
section
open PySem PySem.W PySem.Spec PySem.Calls PyProof.Rows
set_option maxRecDepth 100000
namespace Mine
/-- a goal that the walk leaves alone -/
def Hold (p : Prop) : Prop := p
theorem hold {p : Prop} (h : Hold p) : p := h
theorem Hold.mk {p : Prop} (h : p) : Hold p := h
section
variable {prog : Program} {w : World} {A : Around} {E : Value → Shared → Prop} {s : Shared} {env : Env} {h₀ : Heap} {x : Str} {body : List Stmt} {Q : Flow → Shared → Prop}

def FsEnd {σ : Type} (h₀ : Heap) (L : Addr) (s : Shared) (Led : σ → List (Addr × Obj)) (ps : σ → List (Str × Value)) (Facts : σ → Prop) (x : Str) (stored : List Str) (m₀ : Str → Option Value) (P : σ → Prop) (I : Addr) (oI : Obj) (s₂ : Shared) : Prop :=
  ∃ (c' : σ) (h' : Heap) (tk : Nat) (m' : Str → Option Value), s₂ = { s with heap := h', toks := tk } ∧ Fr h₀ L h' m' ∧ News h₀ L h' ((I, oI) :: Led c') ∧ (∀ p ∈ Led c', p.1 ≠ I) ∧ Facts c' ∧ (∀ p ∈ ps c', m' p.1 = some p.2) ∧ (∀ z, z ≠ x → (∀ p ∈ ps c', z ≠ p.1) → stored.contains z = false → m' z = m₀ z) ∧ P c'
def FsPost {σ : Type} (h₀ : Heap) (L : Addr) (s : Shared) (Led : σ → List (Addr × Obj)) (ps : σ → List (Str × Value)) (Facts : σ → Prop) (x : Str) (stored : List Str) (m₀ : Str → Option Value) (P : σ → Prop) (I : Addr) (oI : Obj) (Q : Flow → Shared → Prop) (f : Flow) (s₂ : Shared) : Prop :=
  match f with
  | .ret v => Q (.ret v) s₂
  | .brk => Q .next s₂
  | _ => FsEnd h₀ L s Led ps Facts x stored m₀ P I oI s₂

theorem fs_core {σ : Type} {I : Addr} {fp : List Addr} {n : Nat} {PV : Nat → Value → Prop} {St : Nat → Heap → Prop} {m₀ : Str → Option Value} (Led : σ → List (Addr × Obj)) (ps : σ → List (Str × Value)) (Facts : σ → Prop) (stored : List Str) (P : Nat → σ → Prop) (c₀ : σ)
    (W : Walks prog w A I fp [I] n PV St) (hLf : env.locals ∉ fp) (hI : h₀.get? I = none) (hlive : ∀ i h, St i h → ∃ o, h.get? I = some o) (hfp : ∀ b ∈ fp, h₀.get? b = none → b = I ∨ ∃ o, ∀ c, (b, o) ∈ Led c)
    (hnI : ∀ p ∈ Led c₀, p.1 ≠ I) (hst : St 0 s.heap) (F : Fr h₀ env.locals s.heap m₀) (N : News h₀ env.locals s.heap (Led c₀)) (hf : Facts c₀) (hk : ∀ p ∈ ps c₀, m₀ p.1 = some p.2) (hp : P 0 c₀)
    (turn : ∀ (c : σ) i v (u : Str → Option Value) h tk oI, i < n → PV i v → Facts c → P i c → (∀ p ∈ Led c, p.1 ≠ I) →
      Fr h₀ env.locals h (fun y => if y = x then some v else kstB (fun z => if stored.contains z then u z else m₀ z) (ps c) y) → News h₀ env.locals h ((I, oI) :: Led c) →
      wpAny (model prog w) A (execs body env) (FsPost h₀ env.locals s Led ps Facts x stored m₀ (P (i + 1)) I oI Q) E { s with heap := h, toks := tk })
    (done : ∀ (c : σ) (u : Str → Option Value) h tk, Facts c → P n c → Fr h₀ env.locals h (fun y => if y = x then u y else kstB (fun z => if stored.contains z then u z else m₀ z) (ps c) y) → News h₀ env.locals h (Led c) → Q .next { s with heap := h, toks := tk }) :
    LoopAtV prog w A h₀ env x body Q E (.ref I) s := by
  refine ⟨I, fp, [I], n, PV, St, m₀, Led c₀, (fun i m nx => ∃ c : σ, nx = Led c ∧ Facts c ∧ (∀ p ∈ ps c, m p.1 = some p.2) ∧ (∀ z, z ≠ x → (∀ p ∈ ps c, z ≠ p.1) → stored.contains z = false → m z = m₀ z) ∧ P i c), rfl, W, hLf, ?_, ?_, hst, F, N, ⟨c₀, rfl, hf, hk, fun _ _ _ _ => rfl, hp⟩, ?_, ?_⟩
  · intro b hb; rw [List.mem_singleton.mp hb]; exact hI
  · intro p hp' hb; exact hnI p hp' (List.mem_singleton.mp hb)
  · rintro i v m₁ nx s₁ own ⟨h, tk, rfl⟩ hi hP ⟨c, rfl, hf', h1, h2, hp'⟩ hoff hown hget hall hst' F₁ N₁
    obtain ⟨oI, hoI⟩ := hlive _ _ hst'
    have hIfp : I ∈ fp := W.sub I (List.mem_singleton_self _)
    have hmI : (I, oI) ∈ own := hall I hIfp hI oI hoI
    have N₂ : News h₀ env.locals h ((I, oI) :: Led c) := fun p hp => by
      rcases List.mem_cons.mp hp with rfl | hp
      · exact N₁ _ (List.mem_append_left _ hmI)
      · exact N₁ _ (List.mem_append_right _ hp)
    have hnc : ∀ p ∈ Led c, p.1 ≠ I := fun p hp e => hoff p hp (List.mem_singleton.mpr e)
    refine wpAny_mono (turn c i v m₁ h tk oI hi hP hf' hp' hnc (kst_fr h1 h2 F₁) N₂) (fun f s₂ q => ?_) fun _ _ e => e
    have fin : FsEnd h₀ env.locals s Led ps Facts x stored m₀ (P (i + 1)) I oI s₂ →
        LoopStepU h₀ env.locals [I] own (fun m nx => ∃ c : σ, nx = Led c ∧ Facts c ∧ (∀ p ∈ ps c, m p.1 = some p.2) ∧ (∀ z, z ≠ x → (∀ p ∈ ps c, z ≠ p.1) → stored.contains z = false → m z = m₀ z) ∧ P (i + 1) c) { s with heap := h, toks := tk } .next s₂ := by
      rintro ⟨c', h', tk', m', rfl, F', N', hn', hf9, h3, h4, hp9⟩
      refine ⟨rfl, h', tk', m', Led c', rfl, F', fun p hp => ?_, fun p hp hb => hn' p hp (List.mem_singleton.mp hb), c', rfl, hf9, h3, h4, hp9⟩
      rcases List.mem_append.mp hp with hp | hp
      · by_cases hpI : p.1 = I
        · have e : p = (I, oI) := Prod.ext hpI (Option.some.inj ((hget p hp).symm.trans (by rw [hpI]; exact hoI)))
          rw [e]; exact N' _ (List.mem_cons_self ..)
        · have hpf := hown p hp
          have hpn : h₀.get? p.1 = none := (N₁ p (List.mem_append_left _ hp)).2.2
          rcases hfp p.1 hpf hpn with e | e
          · exact absurd e hpI
          · obtain ⟨o, ho⟩ := e
            have h5 := (N₂ _ (List.mem_cons_of_mem _ (ho c))).1
            have e2 : p = (p.1, o) := Prod.ext rfl (Option.some.inj ((hget p hp).symm.trans h5))
            rw [e2]
            exact N' _ (List.mem_cons_of_mem _ (ho c'))
      · exact N' p (List.mem_cons_of_mem _ hp)
    cases f with
    | ret v => exact .ret q
    | brk => exact .brk q
    | next => exact .next (fin q)
    | cont => exact .cont (fin q)
  · rintro h' tk m' nx F' N' _ ⟨c, rfl, hf', h1, h2, hp'⟩
    exact done c m' h' tk hf' hp' (kst_frOut h1 h2 F') N'

theorem fs_list {σ : Type} {l : Addr} {vs : List Value} {ns : List Int} {nn : Nat} {m₀ : Str → Option Value} (Led : σ → List (Addr × Obj)) (ps : σ → List (Str × Value)) (Facts : σ → Prop) (stored : List Str) (P : List Int → σ → Prop) (c₀ : σ)
    (hh : A.handled = none) (hl : ∀ c : σ, (l, listOf vs.toArray nn) ∈ Led c) (hi : IntsAre vs ns) (F : Fr h₀ env.locals s.heap m₀) (N : News h₀ env.locals s.heap (Led c₀)) (hf : Facts c₀) (hk : ∀ p ∈ ps c₀, m₀ p.1 = some p.2) (hp : P [] c₀)
    (turn : ∀ (c : σ) pre post n t (u : Str → Option Value) h tk I oI, ns = pre ++ n :: post → Facts c → P pre c → (∀ p ∈ Led c, p.1 ≠ I) →
      Fr h₀ env.locals h (fun y => if y = x then some (.int n t) else kstB (fun z => if stored.contains z then u z else m₀ z) (ps c) y) → News h₀ env.locals h ((I, oI) :: Led c) →
      wpAny (model prog w) A (execs body env) (FsPost h₀ env.locals s Led ps Facts x stored m₀ (P (pre ++ [n])) I oI Q) E { s with heap := h, toks := tk })
    (done : ∀ (c : σ) (u : Str → Option Value) h tk, Facts c → P ns c → Fr h₀ env.locals h (fun y => if y = x then u y else kstB (fun z => if stored.contains z then u z else m₀ z) (ps c) y) → News h₀ env.locals h (Led c) → Q .next { s with heap := h, toks := tk }) :
    wpAny (model prog w) A (pyIter (.ref l)) (fun it s₂ => LoopAtV prog w A h₀ env x body Q E it s₂) E s := by
  have hol : s.heap.get? l = some (listOf vs.toArray nn) := (N _ (hl c₀)).1
  have hls : s.heap.IsList l vs.toArray := ⟨_, hol, rfl, nn, rfl⟩
  have hlt := Heap.lt_size hol
  have hne : l ≠ s.heap.objs.size := Nat.ne_of_lt hlt
  refine wpAny_pyIter_list hls ?_
  have W := Walks.list (prog := prog) (w := w) hh s.heap.objs.size l hne vs.toArray
  have hlen : vs.toArray.size = ns.length := by simp [hi.length]
  rw [hlen] at W
  refine fs_core Led ps Facts stored (fun i c => P (ns.take i) c) c₀ W ?_ (next_is_new F) ?_ ?_ ?_ ⟨⟨_, Heap.get?_push_size _ rfl, rfl, rfl⟩, hls.at fun o e => Heap.get?_push_of_some _ e⟩ (F.push _) (fun p hp => ⟨Heap.get?_push_of_some _ (N p hp).1, (N p hp).2⟩) hf hk hp ?_ ?_
  · intro hm
    rcases List.mem_cons.mp hm with e | hm
    · exact absurd F.ns.lt (e ▸ Nat.lt_irrefl _)
    · exact (N _ (hl c₀)).2.1 ((List.mem_singleton.mp hm).symm)
  · rintro i h ⟨⟨o, ho, _⟩, _⟩; exact ⟨o, ho⟩
  · intro b hb _
    rcases List.mem_cons.mp hb with e | hb
    · exact .inl e
    · exact .inr ⟨_, fun c => by rw [List.mem_singleton.mp hb]; exact hl c⟩
  · intro p hp e
    exact absurd (Heap.lt_size (N p hp).1) (by rw [e]; exact Nat.lt_irrefl _)
  · intro c i v u h tk oI hin hP hf' hp' hnc F₁ N₁
    obtain ⟨t, hx⟩ := hi.get i ns[i] (List.getElem?_eq_getElem hin)
    have hv : v = .int ns[i] t := by
      have hP' : vs[i]? = some v := by simpa using hP
      rw [hx] at hP'; exact (Option.some.inj hP').symm
    subst hv
    have hs : ns.take (i + 1) = ns.take i ++ [ns[i]] := by rw [List.take_add_one, List.getElem?_eq_getElem hin]; rfl
    have e : ns = ns.take i ++ ns[i] :: ns.drop (i + 1) := by
      have ht := List.take_append_drop (i + 1) ns
      rw [hs, List.append_assoc] at ht
      exact ht.symm
    rw [hs]
    exact turn c _ _ _ t u h tk _ oI e hf' hp' hnc F₁ N₁
  · intro c u h tk hf' hp' F₁ N₁
    rw [List.take_length] at hp'
    exact done c u h tk hf' hp' F₁ N₁

theorem fs_range {σ : Type} {r : Addr} {a₀ b₀ : Int} {t₀ u₀ v₀ : Tok} {n : Nat} {m₀ : Str → Option Value} (Led : σ → List (Addr × Obj)) (ps : σ → List (Str × Value)) (Facts : σ → Prop) (stored : List Str) (P : List Int → σ → Prop) (c₀ : σ)
    (hh : A.handled = none) (hr : IsRange s.heap r a₀ b₀ 1 t₀ u₀ v₀) (hsmall : Builtin.Range.small a₀ b₀ 1 = true) (hn : Builtin.Range.rangeSize a₀ b₀ 1 = (n : Int)) (F : Fr h₀ env.locals s.heap m₀) (N : News h₀ env.locals s.heap (Led c₀)) (hf : Facts c₀) (hk : ∀ p ∈ ps c₀, m₀ p.1 = some p.2) (hp : P [] c₀)
    (turn : ∀ (c : σ) (pre : List Int) (k : Int) t (u : Str → Option Value) h tk I oI, k = a₀ + (pre.length : Int) → pre.length < n → Facts c → P pre c → (∀ p ∈ Led c, p.1 ≠ I) →
      Fr h₀ env.locals h (fun y => if y = x then some (.int k t) else kstB (fun z => if stored.contains z then u z else m₀ z) (ps c) y) → News h₀ env.locals h ((I, oI) :: Led c) →
      wpAny (model prog w) A (execs body env) (FsPost h₀ env.locals s Led ps Facts x stored m₀ (P (pre ++ [k])) I oI Q) E { s with heap := h, toks := tk })
    (done : ∀ (c : σ) (u : Str → Option Value) h tk, Facts c → P (rangeKs a₀ n) c → Fr h₀ env.locals h (fun y => if y = x then u y else kstB (fun z => if stored.contains z then u z else m₀ z) (ps c) y) → News h₀ env.locals h (Led c) → Q .next { s with heap := h, toks := tk }) :
    wpAny (model prog w) A (pyIter (.ref r)) (fun it s₂ => LoopAtV prog w A h₀ env x body Q E it s₂) E s := by
  refine wpAny_pyIter_range hr hsmall ?_
  have W : Walks prog w A s.heap.objs.size [s.heap.objs.size] [s.heap.objs.size] n (fun i v => i < n ∧ ∃ t, v = .int (a₀ + i * 1) t)
      (fun i h => IsRangeIter h s.heap.objs.size (a₀ + (i : Nat) * 1) ((n : Int) - (i : Nat)) 1) := (Walks.range hh _ a₀ 1 n).bound
  refine fs_core Led ps Facts stored (fun i c => P ((rangeKs a₀ n).take i) c) c₀ W ?_ (next_is_new F) ?_ ?_ ?_ (by show IsRangeIter _ _ _ _ _; rw [hn]; simpa using Heap.get?_push_size _ rfl) (F.push _) (fun p hp => ⟨Heap.get?_push_of_some _ (N p hp).1, (N p hp).2⟩) hf hk (by simpa using hp) ?_ ?_
  · intro hm
    exact absurd F.ns.lt ((List.mem_singleton.mp hm) ▸ Nat.lt_irrefl _)
  · intro i h hst; exact ⟨_, hst⟩
  · intro b hb _; exact .inl (List.mem_singleton.mp hb)
  · intro p hp e
    exact absurd (Heap.lt_size (N p hp).1) (by rw [e]; exact Nat.lt_irrefl _)
  · rintro c i v u h tk oI hin ⟨_, t, rfl⟩ hf' hp' hnc F₁ N₁
    have e1 : a₀ + (i : Int) * 1 = a₀ + (i : Int) := by omega
    rw [e1] at F₁
    have hk' : (rangeKs a₀ n)[i]? = some (a₀ + (i : Int)) := by simp [rangeKs, hin]
    have hs : (rangeKs a₀ n).take (i + 1) = (rangeKs a₀ n).take i ++ [a₀ + (i : Int)] := by rw [List.take_add_one, hk']; rfl
    have hlen : ((rangeKs a₀ n).take i).length = i := by rw [List.length_take, rangeKs_length]; omega
    rw [hs]
    exact turn c _ _ t u h tk _ oI (by rw [hlen]) (by rw [hlen]; exact hin) hf' hp' hnc F₁ N₁
  · intro c u h tk hf' hp' F₁ N₁
    rw [List.take_of_length_le (Nat.le_of_eq (rangeKs_length _ _))] at hp'
    exact done c u h tk hf' hp' F₁ N₁
theorem fs_end {σ : Type} {h₀ : Heap} {L : Addr} {s : Shared} {Led : σ → List (Addr × Obj)} {ps : σ → List (Str × Value)} {Facts : σ → Prop} {x : Str} {stored : List Str} {m₀ m' : Str → Option Value} {P : σ → Prop} {I : Addr} {oI : Obj} {h' : Heap} {tk : Nat} {news' : List (Addr × Obj)} (c' : σ)
    (F : Fr h₀ L h' m') (hk : ∀ p ∈ ps c', m' p.1 = some p.2) (N : News h₀ L h' news') (hn : ∀ p ∈ (I, oI) :: Led c', p ∈ news') (ho : ∀ p ∈ Led c', p.1 ≠ I) (hf : Facts c') (hr : ∀ z, z ≠ x → (∀ p ∈ ps c', z ≠ p.1) → stored.contains z = false → m' z = m₀ z) (hp : P c') :
    FsEnd h₀ L s Led ps Facts x stored m₀ P I oI { s with heap := h', toks := tk } := ⟨c', h', tk, m', rfl, F, fun p hp => N p (hn p hp), ho, hf, hk, hr, hp⟩
end
end Mine
end
section
open PySem PySem.W PySem.Spec PySem.Calls PyProof.Rows
set_option maxRecDepth 100000
namespace Mine
/-- what a turn of a loop whose own name is a cell must bring about -/
def CellPost {σ : Type} (h₀ : Heap) (L : Addr) (s : Shared) (Led : σ → List (Addr × Obj)) (Facts : σ → Prop) (m₀ : Str → Option Value) (P : σ → Prop) (I : Addr) (oI : Obj) (f : Flow) (s₂ : Shared) : Prop :=
  match f with
  | .next => ∃ (c' : σ) (h' : Heap) (tk : Nat), s₂ = { s with heap := h', toks := tk } ∧ Fr h₀ L h' m₀ ∧ News h₀ L h' ((I, oI) :: Led c') ∧ (∀ p ∈ Led c', p.1 ≠ I) ∧ Facts c' ∧ P c'
  | _ => False
section
variable {prog : Program} {w : World} {A : Around} {E : Value → Shared → Prop} {s : Shared} {env : Env} {h₀ : Heap} {x : Str} {body : List Stmt} {Q : Flow → Shared → Prop}
theorem cell_range {σ : Type} {px : Pos} {r : Addr} {a₀ b₀ : Int} {t₀ u₀ v₀ : Tok} {n : Nat} {m₀ : Str → Option Value} (Led : σ → List (Addr × Obj)) (Facts : σ → Prop) (P : Nat → σ → Prop) (c₀ : σ)
    (hh : A.handled = none) (hr : IsRange s.heap r a₀ b₀ 1 t₀ u₀ v₀) (hsmall : Builtin.Range.small a₀ b₀ 1 = true) (hn : Builtin.Range.rangeSize a₀ b₀ 1 = (n : Int)) (F : Fr h₀ env.locals s.heap m₀) (N : News h₀ env.locals s.heap (Led c₀)) (hf : Facts c₀) (hp : P 0 c₀)
    (turn : ∀ (c : σ) (k : Nat) t s₁ I oI, I = s.heap.objs.size → k < n → Facts c → P k c → (∀ p ∈ Led c, p.1 ≠ I) → Fr h₀ env.locals s₁.heap m₀ → News h₀ env.locals s₁.heap ((I, oI) :: Led c) →
      wpAny (model prog w) A (assign (.Name x px) env (.int (a₀ + (k : Int)) t)) (fun _ s₃ => wpAny (model prog w) A (execs body env) (CellPost h₀ env.locals s₁ Led Facts m₀ (P (k + 1)) I oI) E s₃) E s₁)
    (done : ∀ (c : σ) h tk, Facts c → P n c → Fr h₀ env.locals h m₀ → News h₀ env.locals h (Led c) → Q .next { s with heap := h, toks := tk }) :
    wpAny (model prog w) A (pyIter (.ref r)) (fun it s₂ => LoopAtT prog w A h₀ env (.Name x px) body Q E it s₂) E s := by
  refine wpAny_pyIter_range hr hsmall ?_
  have W : Walks prog w A s.heap.objs.size [s.heap.objs.size] [s.heap.objs.size] n (fun i v => i < n ∧ ∃ t, v = .int (a₀ + i * 1) t)
      (fun i h => IsRangeIter h s.heap.objs.size (a₀ + (i : Nat) * 1) ((n : Int) - (i : Nat)) 1) := (Walks.range hh _ a₀ 1 n).bound
  have hnone := next_is_new F
  refine ⟨s.heap.objs.size, [s.heap.objs.size], [s.heap.objs.size], n, _, _, m₀, Led c₀, (fun i m nx => m = m₀ ∧ ∃ c : σ, nx = Led c ∧ Facts c ∧ P i c), rfl, W, ?_, ?_, ?_, (by show IsRangeIter _ _ _ _ _; rw [hn]; simpa using Heap.get?_push_size _ rfl), F.push _, (fun p hp => ⟨Heap.get?_push_of_some _ (N p hp).1, (N p hp).2⟩), ?_, ⟨rfl, c₀, rfl, hf, hp⟩, ?_, ?_⟩
  · intro hm
    exact absurd F.ns.lt ((List.mem_singleton.mp hm) ▸ Nat.lt_irrefl _)
  · intro b hb; rw [List.mem_singleton.mp hb]; exact hnone
  · intro p hp e
    exact absurd (Heap.lt_size (N p hp).1) ((List.mem_singleton.mp e) ▸ Nat.lt_irrefl _)
  · intro i s' v Q' _ hQ
    exact wpAny_pure hQ
  · rintro i v m₁ nx s₁ own hin ⟨_, t, rfl⟩ ⟨rfl, c, rfl, hf', hp'⟩ hoff hown hget hall hst' F₁ N₁
    have hnc : ∀ p ∈ Led c, p.1 ≠ s.heap.objs.size := fun p hp e => hoff p hp (List.mem_singleton.mpr e)
    have hmI := hall _ (List.mem_singleton_self _) hnone _ hst'
    have N₂ := fun (o : Obj) (hm : (s.heap.objs.size, o) ∈ own) => (show News h₀ env.locals s₁.heap ((s.heap.objs.size, o) :: Led c) from fun p hp => by
      rcases List.mem_cons.mp hp with rfl | hp
      · exact N₁ _ (List.mem_append_left _ hm)
      · exact N₁ _ (List.mem_append_right _ hp))
    have hI := N₂ _ hmI
    have e1 : a₀ + (i : Int) * 1 = a₀ + (i : Int) := by omega
    rw [e1]
    refine wpAny_mono (turn c i t s₁ _ _ rfl hin hf' hp' hnc F₁ hI) (fun _ s₃ q => wpAny_mono q (fun f s₂ q => ?_) fun _ _ e => e) fun _ _ e => e
    cases f with
    | next =>
      obtain ⟨c', h', tk', rfl, F', N', hn', hf9, hp9⟩ := q
      refine ⟨rfl, h', tk', m₁, Led c', rfl, F', fun p hp => ?_, fun p hp hb => hn' p hp (List.mem_singleton.mp hb), rfl, c', rfl, hf9, hp9⟩
      rcases List.mem_append.mp hp with hp | hp
      · have hpI : p.1 = s.heap.objs.size := List.mem_singleton.mp (hown p hp)
        have e : p = (s.heap.objs.size, _) := Prod.ext hpI (Option.some.inj ((hget p hp).symm.trans (by rw [hpI]; exact hst')))
        rw [e]; exact N' _ (List.mem_cons_self ..)
      · exact N' p (List.mem_cons_of_mem _ hp)
    | cont => exact q.elim
    | brk => exact q.elim
    | ret v => exact q.elim
  · rintro h' tk m' nx F' N' _ ⟨rfl, c, rfl, hf', hp'⟩
    exact done c h' tk hf' hp' F' N'
end
end Mine
end
section
open PySem PySem.W PySem.Spec PySem.Calls PyProof.Rows
set_option maxRecDepth 100000
namespace Mine
def numsOf (ks : List Int) : List Int := ks.take 6 ++ [50, 80, 20, 70, 10].drop (ks.take 6).length
theorem nums_len (ks : List Int) : (numsOf ks).length = 5 ∨ (numsOf ks).length = 6 := by
  unfold numsOf
  simp only [List.length_append, List.length_take, List.length_drop, List.length_cons, List.length_nil]
  omega
section
variable {prog : Program} {w : World} {A : Around} {s : Shared} {E : Value → Shared → Prop} {h₀ : Heap} {L : Addr} {m : Str → Option Value} {news : List (Addr × Obj)}
theorem len_N {Q : Value → Shared → Prop} {l : Addr} {vs : List Value} {ns : List Int} {n : Nat} (N : News h₀ L s.heap news) (hm : (l, listOf vs.toArray n) ∈ news) (hi : IntsAre vs ns) (hb : ns.length ≤ 100)
    (h : Q (.int (ns.length : Nat) (s.toks + 1)) { s with toks := s.toks + 1 + 1 }) : wpAny (model prog w) A (call (.builtin "len") [.ref l]) Q E s :=
  len_ints_fit ⟨_, N.get hm, rfl, _, rfl⟩ hi (by omega) h
theorem lit_from {value slice : Expr} {l : Addr} {t1 t2 t3 t4 t5 u : Tok} {n : Nat} {k : Nat} {Q : Value → Shared → Prop} (F : Fr h₀ L s.heap m) (N : News h₀ L s.heap news)
    (hm : (l, listOf #[.int 50 t1, .int 80 t2, .int 20 t3, .int 70 t4, .int 10 t5] n) ∈ news)
    (h : ∀ D ws h', Fr h₀ L h' m → News h₀ L h' ((D, listOf (List.toArray ws) 0) :: news) → (∀ p ∈ news, p.1 < D) → IntsAre ws ([50, 80, 20, 70, 10].drop k) → Q (.ref D) { s with heap := h' })
    (hs : subscripted slice false (.ref l) (.ref s.heap.objs.size) = operate [.ref s.heap.objs.size, .ref l] (getItem (.ref l) (.ref s.heap.objs.size)) := by with_unfolding_all rfl) (ht : ∀ r, letTemporaryGo value (.ref l) r = pure () := by intro _; with_unfolding_all rfl) :
    wpAny (model prog w) A (subscriptTail value slice (.ref l) (.ref s.heap.objs.size)) Q E { s with heap := s.heap.push { cls := .type "slice", data := .fields #[.int (k : Nat) u, .none, .none] } } := by
  have hi : IntsAre [Value.int 50 t1, .int 80 t2, .int 20 t3, .int 70 t4, .int 10 t5] [50, 80, 20, 70, 10] := .cons _ _ (.cons _ _ (.cons _ _ (.cons _ _ (.cons _ _ .nil))))
  refine kmk_slice_ints (vs := [Value.int 50 t1, .int 80 t2, .int 20 t3, .int 70 t4, .int 10 t5]) F N ⟨_, N.get hm, rfl, _, rfl⟩ (IsPart.int _ _) IsPart.none hi (kmk_from hi (Int.natCast_nonneg k)) rfl (fun D ws h' F' N' l1 hI _ _ => h D ws h' F' N' l1 (by simpa using hI)) hs ht (by rw [sizeLine_eq]; show 5 ≤ 16777216; decide)
theorem nums_add {a b : Addr} {va vb : List Value} {xa xb : List Int} {na nb : Nat} {Q : Value → Shared → Prop} (F : Fr h₀ L s.heap m) (N : News h₀ L s.heap news) (ha : (a, listOf va.toArray na) ∈ news) (hb : (b, listOf vb.toArray nb) ∈ news) (ia : IntsAre va xa) (ib : IntsAre vb xb) (hz : xa.length + xb.length ≤ 100)
    (h : ∀ D ws ns h', ns = xa ++ xb → ns.length ≤ 100 → Fr h₀ L h' m → News h₀ L h' ((D, listOf (List.toArray ws) 0) :: news) → (∀ p ∈ news, p.1 < D) → IntsAre ws ns → Q (.ref D) { s with heap := h' }) :
    wpAny (model prog w) A (binaryOp .Add (.ref a) (.ref b)) Q E s := by
  refine' kmk_add_ints F N ⟨_, N.get ha, rfl, _, rfl⟩ ⟨_, N.get hb, rfl, _, rfl⟩ ia ib ?_ ?z
  case z => simp only [sizeLine_eq]; omega
  intro D ws h' F' N' l1 hI
  exact h D ws _ h' rfl (by rw [List.length_append]; exact hz) F' N' l1 hI
end
end Mine
end
section
open PySem PySem.W PySem.Spec PySem.Calls PyProof.Rows
set_option maxRecDepth 100000
namespace Mine
/-- the law's own def, as the given program has it: the last of its main module -/
def lawDef : Stmt := PySem.Challenge.pw_ty0017_01.main.body.getLastD (.Return none ⟨0, 0, 0, 0⟩)
def lawBody : List Stmt := match lawDef with
  | .FunctionDef _ _ b _ _ _ _ _ _ _ => b
  | _ => []
def lawScope : Scope := match lawDef with
  | .FunctionDef _ _ _ _ _ _ sc _ _ _ => sc
  | _ => { kind := .function, names := [], isGenerator := false, isCoroutine := false }
def forBody : Stmt → List Stmt
  | .For _ _ b _ _ => b
  | _ => []
def lawAt (i : Nat) : Stmt := lawBody.getD i (.Return none ⟨0, 0, 0, 0⟩)
abbrev lawEnv (L fa : Addr) (cd : Value) : Env := envOfC (Str.ofString "law") lawScope L fa cd
def rankOk (ns : List Int) (i j : Int) : Bool := decide (ns.getD j.toNat 0 < ns.getD i.toNat 0) || (decide (ns.getD j.toNat 0 = ns.getD i.toNat 0) && decide (j > i))
def rankAt (ns : List Int) (i : Int) : Int := 1 + (((rangeKs 0 ns.length).filter (rankOk ns i)).length : Nat)
section
variable {prog : Program} {w : World} {A : Around} {s : Shared} {E : Value → Shared → Prop} {h₀ : Heap} {L : Addr} {m : Str → Option Value} {news : List (Addr × Obj)}
theorem item_N {value slice : Expr} {l : Addr} {vs : List Value} {ns : List Int} {n : Nat} {k : Int} {u : Tok} {Q : Value → Shared → Prop} (N : News h₀ L s.heap news) (hm : (l, listOf vs.toArray n) ∈ news) (hi : IntsAre vs ns) (h0 : 0 ≤ k) (h1 : k < ns.length) (h2 : ns.length ≤ 100)
    (h : ∀ t, Q (.int (ns.getD k.toNat 0) t) s)
    (hs : subscripted slice false (.ref l) (.int k u) = operate [.ref l, .int k u] (getItem (.ref l) (.int k u)) := by with_unfolding_all rfl) :
    wpAny (model prog w) A (subscriptTail value slice (.ref l) (.int k u)) Q E s :=
  item_list_intsR ⟨_, N.get hm, rfl, _, rfl⟩ hi h0 h1 (by omega) h hs
end
end Mine
end
theorem Mine.cleared_Bis17 : True := by
  k_with_none
  w_top off
  trivial
section
open PySem PySem.W PySem.Spec PySem.Calls PyProof.Rows
set_option maxRecDepth 100000
namespace Mine
theorem half {lo hi : Int} (h : lo < hi) : lo ≤ (lo + hi).fdiv 2 ∧ (lo + hi).fdiv 2 < hi := by
  have := Int.fdiv_eq_ediv_of_nonneg (lo + hi) (b := 2) (by omega)
  omega
def bisRL (ns : List Int) (x : Int) : Nat → Int → Int → Int
  | 0, lo, _ => lo
  | k + 1, lo, hi => if lo < hi then if x < ns.getD ((lo + hi).fdiv 2).toNat 0 then bisRL ns x k lo ((lo + hi).fdiv 2) else bisRL ns x k ((lo + hi).fdiv 2 + 1) hi else lo
def bisR (ns : List Int) (x : Int) : Int := bisRL ns x ns.length 0 ns.length
theorem bisRL_le (ns : List Int) (x : Int) : ∀ (k k' : Nat) (lo hi : Int), (hi - lo).toNat ≤ k → (hi - lo).toNat ≤ k' → bisRL ns x k lo hi = bisRL ns x k' lo hi := by
  intro k
  induction k with
  | zero =>
    intro k' lo hi h _
    cases k' with
    | zero => rfl
    | succ k' => rw [bisRL, bisRL, if_neg (by omega)]
  | succ k ih =>
    intro k' lo hi h h'
    cases k' with
    | zero => rw [bisRL, bisRL, if_neg (by omega)]
    | succ k' =>
      rw [bisRL, bisRL]
      by_cases hc : lo < hi
      · rw [if_pos hc, if_pos hc]
        have := half hc
        split
        · exact ih _ _ _ (by omega) (by omega)
        · exact ih _ _ _ (by omega) (by omega)
      · rw [if_neg hc, if_neg hc]
structure BisR (ns : List Int) (x lo hi : Int) : Prop where
  lo0 : 0 ≤ lo
  le : lo ≤ hi
  hi1 : hi ≤ ns.length
  eq : bisRL ns x (hi - lo).toNat lo hi = bisR ns x
theorem BisR.all {ns : List Int} {x lo hi : Int} (h : BisR ns x lo hi) : 0 ≤ lo ∧ lo ≤ hi ∧ hi ≤ (ns.length : Int) ∧ BisR ns x lo hi := ⟨h.lo0, h.le, h.hi1, h⟩
theorem halfR {ns : List Int} {x lo hi : Int} (_ : BisR ns x lo hi) (h : lo < hi) : lo ≤ (lo + hi).fdiv 2 ∧ (lo + hi).fdiv 2 < hi := half h
theorem bisR_start (ns : List Int) (x : Int) : BisR ns x 0 ns.length := ⟨by omega, by omega, by omega, bisRL_le _ _ _ _ _ _ (by omega) (by omega)⟩
theorem bisR_yes {ns : List Int} {x lo hi : Int} (h : BisR ns x lo hi) (hc : lo < hi) (hx : x < ns.getD ((lo + hi).fdiv 2).toNat 0) : BisR ns x lo ((lo + hi).fdiv 2) := by
  have := half hc
  have := h.lo0
  have := h.hi1
  refine ⟨by omega, by omega, by omega, ?_⟩
  rw [← h.eq, bisRL_le ns x _ ((hi - lo).toNat - 1 + 1) lo hi (Nat.le_refl _) (by omega), bisRL, if_pos hc, if_pos hx]
  exact bisRL_le _ _ _ _ _ _ (by omega) (by omega)
theorem bisR_no {ns : List Int} {x lo hi : Int} (h : BisR ns x lo hi) (hc : lo < hi) (hx : ¬ x < ns.getD ((lo + hi).fdiv 2).toNat 0) : BisR ns x ((lo + hi).fdiv 2 + 1) hi := by
  have := half hc
  have := h.lo0
  have := h.hi1
  refine ⟨by omega, by omega, by omega, ?_⟩
  rw [← h.eq, bisRL_le ns x _ ((hi - lo).toNat - 1 + 1) lo hi (Nat.le_refl _) (by omega), bisRL, if_pos hc, if_neg hx]
  exact bisRL_le _ _ _ _ _ _ (by omega) (by omega)
theorem bisR_end {ns : List Int} {x lo hi : Int} (h : BisR ns x lo hi) (hc : ¬ lo < hi) : lo = bisR ns x := by
  have e : (hi - lo).toNat = 0 := by have := h.le; omega
  rw [← h.eq, e]; rfl
theorem bisR_bound (ns : List Int) (x : Int) : 0 ≤ bisR ns x ∧ bisR ns x ≤ ns.length := by
  have key : ∀ (k : Nat) (lo hi : Int), (hi - lo).toNat ≤ k → BisR ns x lo hi → 0 ≤ bisR ns x ∧ bisR ns x ≤ ns.length := by
    intro k
    induction k with
    | zero => intro lo hi hk h; have := bisR_end h (by omega); rw [← this]; have := h.lo0; have := h.le; have := h.hi1; omega
    | succ k ih =>
      intro lo hi hk h
      by_cases hc : lo < hi
      · have := half hc
        by_cases hx : x < ns.getD ((lo + hi).fdiv 2).toNat 0
        · exact ih _ _ (by omega) (bisR_yes h hc hx)
        · exact ih _ _ (by omega) (bisR_no h hc hx)
      · have := bisR_end h hc; rw [← this]; have := h.lo0; have := h.le; have := h.hi1; omega
  exact key _ _ _ (Nat.le_refl _) (bisR_start ns x)
def bisLL (ns : List Int) (x : Int) : Nat → Int → Int → Int
  | 0, lo, _ => lo
  | k + 1, lo, hi => if lo < hi then if ns.getD ((lo + hi).fdiv 2).toNat 0 < x then bisLL ns x k ((lo + hi).fdiv 2 + 1) hi else bisLL ns x k lo ((lo + hi).fdiv 2) else lo
def bisL (ns : List Int) (x : Int) : Int := bisLL ns x ns.length 0 ns.length
theorem bisLL_le (ns : List Int) (x : Int) : ∀ (k k' : Nat) (lo hi : Int), (hi - lo).toNat ≤ k → (hi - lo).toNat ≤ k' → bisLL ns x k lo hi = bisLL ns x k' lo hi := by
  intro k
  induction k with
  | zero =>
    intro k' lo hi h _
    cases k' with
    | zero => rfl
    | succ k' => rw [bisLL, bisLL, if_neg (by omega)]
  | succ k ih =>
    intro k' lo hi h h'
    cases k' with
    | zero => rw [bisLL, bisLL, if_neg (by omega)]
    | succ k' =>
      rw [bisLL, bisLL]
      by_cases hc : lo < hi
      · rw [if_pos hc, if_pos hc]
        have := half hc
        split
        · exact ih _ _ _ (by omega) (by omega)
        · exact ih _ _ _ (by omega) (by omega)
      · rw [if_neg hc, if_neg hc]
structure BisL (ns : List Int) (x lo hi : Int) : Prop where
  lo0 : 0 ≤ lo
  le : lo ≤ hi
  hi1 : hi ≤ ns.length
  eq : bisLL ns x (hi - lo).toNat lo hi = bisL ns x
theorem BisL.all {ns : List Int} {x lo hi : Int} (h : BisL ns x lo hi) : 0 ≤ lo ∧ lo ≤ hi ∧ hi ≤ (ns.length : Int) ∧ BisL ns x lo hi := ⟨h.lo0, h.le, h.hi1, h⟩
theorem halfL {ns : List Int} {x lo hi : Int} (_ : BisL ns x lo hi) (h : lo < hi) : lo ≤ (lo + hi).fdiv 2 ∧ (lo + hi).fdiv 2 < hi := half h
theorem bisL_start (ns : List Int) (x : Int) : BisL ns x 0 ns.length := ⟨by omega, by omega, by omega, bisLL_le _ _ _ _ _ _ (by omega) (by omega)⟩
theorem bisL_yes {ns : List Int} {x lo hi : Int} (h : BisL ns x lo hi) (hc : lo < hi) (hx : ns.getD ((lo + hi).fdiv 2).toNat 0 < x) : BisL ns x ((lo + hi).fdiv 2 + 1) hi := by
  have := half hc
  have := h.lo0
  have := h.hi1
  refine ⟨by omega, by omega, by omega, ?_⟩
  rw [← h.eq, bisLL_le ns x _ ((hi - lo).toNat - 1 + 1) lo hi (Nat.le_refl _) (by omega), bisLL, if_pos hc, if_pos hx]
  exact bisLL_le _ _ _ _ _ _ (by omega) (by omega)
theorem bisL_no {ns : List Int} {x lo hi : Int} (h : BisL ns x lo hi) (hc : lo < hi) (hx : ¬ ns.getD ((lo + hi).fdiv 2).toNat 0 < x) : BisL ns x lo ((lo + hi).fdiv 2) := by
  have := half hc
  have := h.lo0
  have := h.hi1
  refine ⟨by omega, by omega, by omega, ?_⟩
  rw [← h.eq, bisLL_le ns x _ ((hi - lo).toNat - 1 + 1) lo hi (Nat.le_refl _) (by omega), bisLL, if_pos hc, if_neg hx]
  exact bisLL_le _ _ _ _ _ _ (by omega) (by omega)
theorem bisL_end {ns : List Int} {x lo hi : Int} (h : BisL ns x lo hi) (hc : ¬ lo < hi) : lo = bisL ns x := by
  have e : (hi - lo).toNat = 0 := by have := h.le; omega
  rw [← h.eq, e]; rfl
theorem bisL_bound (ns : List Int) (x : Int) : 0 ≤ bisL ns x ∧ bisL ns x ≤ ns.length := by
  have key : ∀ (k : Nat) (lo hi : Int), (hi - lo).toNat ≤ k → BisL ns x lo hi → 0 ≤ bisL ns x ∧ bisL ns x ≤ ns.length := by
    intro k
    induction k with
    | zero => intro lo hi hk h; have := bisL_end h (by omega); rw [← this]; have := h.lo0; have := h.le; have := h.hi1; omega
    | succ k ih =>
      intro lo hi hk h
      by_cases hc : lo < hi
      · have := half hc
        by_cases hx : ns.getD ((lo + hi).fdiv 2).toNat 0 < x
        · exact ih _ _ (by omega) (bisL_yes h hc hx)
        · exact ih _ _ (by omega) (bisL_no h hc hx)
      · have := bisL_end h hc; rw [← this]; have := h.lo0; have := h.le; have := h.hi1; omega
  exact key _ _ _ (Nat.le_refl _) (bisL_start ns x)
set_option maxHeartbeats 4000000 in
theorem bisR_spec {w : World} {A : Around} {s : Shared} {Q E : Value → Shared → Prop} {l : Addr} {vs : List Value} {ns : List Int} {x : Int} {tx : Tok}
    (C : Ctx w 2 16 A s.heap) (hl : s.heap.IsList l vs.toArray) (hi : IntsAre vs ns) (hlen : ns.length < 2 ^ 20)
    (ret : ∀ t h' tk', s.heap.StaysIn h' → Q (.int (bisR ns x) t) { s with heap := h', toks := tk' }) :
    wpAny (model PySem.Challenge.rw_ty0017_01.row.prog w) A (call (.ref 66) [.ref l, .int x tx] []) Q E s := by
  obtain ⟨B, F, X, T, hk, hd, hu⟩ := C
  revert X
  k_fill
  intro X
  refine wpAny_call ?_
  k_dflt ktn_open
  k_with "exec While Compare cons nil" => k_while (fun _ lo hi => 0 ≤ lo ∧ lo ≤ hi ∧ hi ≤ (ns.length : Int) ∧ BisR ns x lo hi) (fun _ lo hi => (hi - lo).toNat) "lo" "hi"
  k_with "measure" => (have h9 := halfR (by assumption) (by assumption); omega)
  k_with "state" => first | exact (bisR_start _ _).all | exact (bisR_yes (by assumption) (by assumption) (by assumption)).all | exact (bisR_no (by assumption) (by assumption) (by assumption)).all
  k_steps
  have e9 := bisR_end (by assumption) (by assumption)
  subst e9
  exact ret _ _ _ (Fr.keep (by k_asm))
set_option maxHeartbeats 4000000 in
theorem bisR4_spec {w : World} {A : Around} {s : Shared} {Q E : Value → Shared → Prop} {l : Addr} {vs : List Value} {ns : List Int} {x : Int} {tx t0 : Tok}
    (C : Ctx w 2 16 A s.heap) (hl : s.heap.IsList l vs.toArray) (hi : IntsAre vs ns) (hlen : ns.length < 2 ^ 20)
    (ret : ∀ t h' tk', s.heap.StaysIn h' → Q (.int (bisR ns x) t) { s with heap := h', toks := tk' }) :
    wpAny (model PySem.Challenge.rw_ty0017_01.row.prog w) A (call (.ref 66) [.ref l, .int x tx, .int 0 t0, .none] []) Q E s := by
  obtain ⟨B, F, X, T, hk, hd, hu⟩ := C
  revert X
  k_fill
  intro X
  refine wpAny_call ?_
  k_dflt ktn_open
  k_with "exec While Compare cons nil" => k_while (fun _ lo hi => 0 ≤ lo ∧ lo ≤ hi ∧ hi ≤ (ns.length : Int) ∧ BisR ns x lo hi) (fun _ lo hi => (hi - lo).toNat) "lo" "hi"
  k_with "measure" => (have h9 := halfR (by assumption) (by assumption); omega)
  k_with "state" => first | exact (bisR_start _ _).all | exact (bisR_yes (by assumption) (by assumption) (by assumption)).all | exact (bisR_no (by assumption) (by assumption) (by assumption)).all
  k_steps
  have e9 := bisR_end (by assumption) (by assumption)
  subst e9
  exact ret _ _ _ (Fr.keep (by k_asm))
set_option maxHeartbeats 4000000 in
theorem bisL_spec {w : World} {A : Around} {s : Shared} {Q E : Value → Shared → Prop} {l : Addr} {vs : List Value} {ns : List Int} {x : Int} {tx : Tok}
    (C : Ctx w 2 16 A s.heap) (hl : s.heap.IsList l vs.toArray) (hi : IntsAre vs ns) (hlen : ns.length < 2 ^ 20)
    (ret : ∀ t h' tk', s.heap.StaysIn h' → Q (.int (bisL ns x) t) { s with heap := h', toks := tk' }) :
    wpAny (model PySem.Challenge.rw_ty0017_01.row.prog w) A (call (.ref 75) [.ref l, .int x tx] []) Q E s := by
  obtain ⟨B, F, X, T, hk, hd, hu⟩ := C
  revert X
  k_fill
  intro X
  refine wpAny_call ?_
  k_dflt ktn_open
  k_with "exec While Compare cons nil" => k_while (fun _ lo hi => 0 ≤ lo ∧ lo ≤ hi ∧ hi ≤ (ns.length : Int) ∧ BisL ns x lo hi) (fun _ lo hi => (hi - lo).toNat) "lo" "hi"
  k_with "measure" => (have h9 := halfL (by assumption) (by assumption); omega)
  k_with "state" => first | exact (bisL_start _ _).all | exact (bisL_yes (by assumption) (by assumption) (by assumption)).all | exact (bisL_no (by assumption) (by assumption) (by assumption)).all
  k_steps
  have e9 := bisL_end (by assumption) (by assumption)
  subst e9
  exact ret _ _ _ (Fr.keep (by k_asm))
end Mine
end
theorem Mine.cleared_Ins17 : True := by
  k_with_none
  w_top off
  trivial
section
open PySem PySem.W PySem.Spec PySem.Calls PyProof.Rows
set_option maxRecDepth 100000
namespace Mine
def insL (ns : List Int) (i : Nat) (x : Int) : List Int := ns.take i ++ x :: ns.drop i
/-- the kept row behind an insort_right -/
def insR (ns : List Int) (x : Int) : List Int := insL ns (bisR ns x).toNat x
theorem ints_ins {vs : List Value} {ns : List Int} {x : Int} {t : Tok} (hi : IntsAre vs ns) : IntsAre (kl_ins vs (bisR ns x) (.int x t)) (insR ns x) := by
  have hb := bisR_bound ns x
  have hl := hi.length
  unfold kl_ins insR insL
  rw [if_neg (by omega), show min (bisR ns x).toNat vs.length = (bisR ns x).toNat by omega]
  exact (hi.take _).append (.cons _ _ (hi.drop _))
local macro_rules | `(tactic| ktn_open) => `(tactic| (refine' code_H ?k1 ?k2 ?k4 ?k3 ?k5 ?kA ?kF ?kK ?k6 ?k7 ?k8 ?k9 ?kB ?_ ?c2 ?c3 ?c4 ?c5; (case kA => exact rfl); (case kF => exact rfl); (case kK => assumption); (case k1 => k_asm); (case k2 => k_asm); (case k4 => k_asm); (case k3 => k_asm); (case k5 => k_asm); (case k6 => k_is); (case k7 => k_is); (case k8 => ktr_room); (case k9 => first | exact BindsTo.of_eq rfl | (refine' kp_binds ?kx ?ke; (case kx => k_in); (case ke => exact fun _ => rfl))); (case c5 => decide); (case kB => exact locs rfl); (case c2 => exact rfl); (case c3 => exact rfl); (case c4 => exact rfl); k_whole; intro L' h' F' N' B' X' T' l'; (try dsimp only); (try k_fold)))
section
variable {w : World} {A : Around} {s : Shared} {Q E : Value → Shared → Prop} {h₀ : Heap} {L : Addr} {m : Str → Option Value} {news : List (Addr × Obj)}
theorem bisR4_N {l : Addr} {vs : List Value} {ns : List Int} {x : Int} {tx t0 : Tok} {n : Nat} (F : Fr h₀ L s.heap m) (N : News h₀ L s.heap news) (hm : (l, listOf vs.toArray n) ∈ news) (C : Ctx w 2 16 A s.heap) (hi : IntsAre vs ns) (hlen : ns.length < 2 ^ 20)
    (h : ∀ t h' tk', Fr h₀ L h' m → News h₀ L h' news → Q (.int (bisR ns x) t) { s with heap := h', toks := tk' }) :
    wpAny (model PySem.Challenge.rw_ty0017_01.row.prog w) A (call (.ref 66) [.ref l, .int x tx, .int 0 t0, .none] []) Q E s :=
  bisR4_spec C ⟨_, N.get hm, rfl, _, rfl⟩ hi hlen fun t h' tk' k => h t h' tk' (fr_stay F k) (news_stay N k)
end
theorem fits_bis (ns : List Int) (x : Int) (hlen : ns.length < 2 ^ 20) : Builtin.List.listFitsIndex (bisR ns x) = true := by
  have := bisR_bound ns x
  unfold Builtin.List.listFitsIndex
  simp only [Bool.and_eq_true, decide_eq_true_eq]
  omega
theorem words_Ins17_1 : True := by
  k_with "w call builtin:list.insert" => (k_here; k_dflt (refine kl_insert (by k_asm) (by k_asm) (by exact fits_bis _ _ (by assumption)) rfl (by k_upd) (by ((have hL9 := IntsAre.length (by assumption)); rw [sizeLine_eq]; simp only [List.toList_toArray]; omega)) ?_; intro _ _ _))
  trivial
set_option maxHeartbeats 4000000 in
theorem ins_spec {w : World} {A : Around} {s : Shared} {Q E : Value → Shared → Prop} {l : Addr} {vs : List Value} {ns : List Int} {x : Int} {tx : Tok} {n : Nat}
    (C : CtxN w 4 40 A s.heap [(l, listOf vs.toArray n)]) (hi : IntsAre vs ns) (hlen : ns.length < 2 ^ 20)
    (ret : ∀ (vs' : List Value) n' h' tk', IntsAre vs' (insR ns x) → h'.get? l = some (listOf vs'.toArray n') → (∀ b o, b ≠ l → s.heap.get? b = some o → h'.get? b = some o) → Q .none { s with heap := h', toks := tk' }) :
    wpAny (model PySem.Challenge.rw_ty0017_01.row.prog w) A (call (.ref 57) [.ref l, .int x tx] []) Q E s := by
  obtain ⟨B, F, N, X, T, hk, hd, hu⟩ := C
  revert X
  k_fill
  intro X
  refine wpAny_call ?_
  k_dflt ktn_open
  k_with "call ref" => (refine' bisR4_N (by k_asm) (by k_asm) (by k_mem) (Ctx.mk (by k_asm) (by k_asm) (by k_asm) (by k_asm) (by first | exact rfl | assumption) (by ktr_room) (by ktr_units)) (by assumption) (by assumption) ?_; intro t' h' tk' F' N')
  k_steps
  rename Fr _ _ _ _ => fF
  rename News _ _ _ _ => fN
  refine' ret _ _ _ _ (ints_ins (by assumption)) (fN _ (List.Mem.head _)).1 fun b o hb e => fF.keep b o (hideAll_get _ e fun q => hb (List.mem_singleton.mp q))
end Mine
end
theorem Mine.cleared_Cnt17 : True := by
  k_with_none
  w_top off
  trivial
section
open PySem PySem.W PySem.Spec PySem.Calls PyProof.Rows
set_option maxRecDepth 100000
namespace Mine
def cntStep (q : Int × List Int) (x : Int) : Int × List Int := (q.1 + ((q.2.length : Int) - bisR q.2 x), insR q.2 x)
def cntG (ns : List Int) : Int × List Int := ns.foldl cntStep (0, [])
/-- what _law_counted gives back -/
def cntF (ns : List Int) : Int := (cntG ns).1
structure Cnt (pre : List Int) (count : Int) (kept : List Int) : Prop where
  c : count = (cntG pre).1
  k : kept = (cntG pre).2
theorem insR_len (ns : List Int) (x : Int) : (insR ns x).length = ns.length + 1 := by
  unfold insR insL
  rw [List.length_append, List.length_cons, List.length_take, List.length_drop]; omega
theorem cnt_start : ([] : List Int).length = ([] : List Int).length ∧ Cnt [] 0 [] := ⟨rfl, rfl, rfl⟩
theorem cnt_turn {pre kept : List Int} {count x : Int} (hl : kept.length = pre.length) (h : Cnt pre count kept) : (insR kept x).length = (pre ++ [x]).length ∧ Cnt (pre ++ [x]) (count + ((kept.length : Int) - bisR kept x)) (insR kept x) := by
  refine ⟨by rw [insR_len, hl]; simp, ?_, ?_⟩
  · rw [h.c, h.k]; unfold cntG; rw [List.foldl_append]; rfl
  · rw [h.k]; unfold cntG; rw [List.foldl_append]; rfl
theorem cnt_end {ns kept : List Int} {count : Int} (h : Cnt ns count kept) : count = cntF ns := h.c
section
variable {w : World} {A : Around} {s : Shared} {Q E : Value → Shared → Prop} {h₀ : Heap} {L : Addr} {m : Str → Option Value} {news : List (Addr × Obj)}
theorem bisR_N {l : Addr} {vs : List Value} {ns : List Int} {x : Int} {tx : Tok} {n : Nat} (F : Fr h₀ L s.heap m) (N : News h₀ L s.heap news) (hm : (l, listOf vs.toArray n) ∈ news) (C : Ctx w 2 16 A s.heap) (hi : IntsAre vs ns) (hlen : ns.length < 2 ^ 20)
    (h : ∀ t h' tk', Fr h₀ L h' m → News h₀ L h' news → Q (.int (bisR ns x) t) { s with heap := h', toks := tk' }) :
    wpAny (model PySem.Challenge.rw_ty0017_01.row.prog w) A (call (.ref 66) [.ref l, .int x tx] []) Q E s :=
  bisR_spec C ⟨_, N.get hm, rfl, _, rfl⟩ hi hlen fun t h' tk' k => h t h' tk' (fr_stay F k) (news_stay N k)
theorem ins_N {l : Addr} {vs : List Value} {ns : List Int} {x : Int} {tx : Tok} {n : Nat} {g : Obj → List (Addr × Obj)} (F : Fr h₀ L s.heap m) (N : News h₀ L s.heap news) (U : UpdF l (listOf vs.toArray n) news g) (C : CtxN w 4 40 A s.heap [(l, listOf vs.toArray n)]) (hi : IntsAre vs ns) (hlen : ns.length < 2 ^ 20)
    (h : ∀ (vs' : List Value) n' h' tk', IntsAre vs' (insR ns x) → Fr h₀ L h' m → News h₀ L h' (g (listOf vs'.toArray n')) → Q .none { s with heap := h', toks := tk' }) :
    wpAny (model PySem.Challenge.rw_ty0017_01.row.prog w) A (call (.ref 57) [.ref l, .int x tx] []) Q E s := by
  obtain ⟨pre, post, rfl, hg, h1, h2⟩ := U.split
  have hm := N (l, listOf vs.toArray n) (List.mem_append_right _ (.head _))
  refine ins_spec C hi hlen fun vs' n' h' tk' hi' hl' hk => h vs' n' h' tk' hi' ⟨F.ns.at' fun o e => hk _ o hm.2.1.symm e, fun b o e => hk b o (fun q => by rw [q, hm.2.2] at e; cases e) (F.keep b o e), F.above⟩ fun p hp => ?_
  rw [hg] at hp
  rcases List.mem_append.mp hp with hp | hp
  · have := N p (List.mem_append_left _ hp)
    exact ⟨hk _ _ (h1 p hp) this.1, this.2⟩
  · rcases List.mem_cons.mp hp with rfl | hp
    · exact ⟨hl', hm.2⟩
    · have := N p (List.mem_append_right _ (.tail _ hp))
      exact ⟨hk _ _ (h2 p hp) this.1, this.2⟩
end
set_option maxHeartbeats 4000000 in
theorem cnt_spec {w : World} {A : Around} {s : Shared} {Q E : Value → Shared → Prop} {l : Addr} {vs : List Value} {ns : List Int}
    (C : Ctx w 6 60 A s.heap) (hl : s.heap.IsList l vs.toArray) (hi : IntsAre vs ns) (hlen : ns.length < 1000)
    (ret : ∀ t h' tk', s.heap.StaysIn h' → Q (.int (cntF ns) t) { s with heap := h', toks := tk' }) :
    wpAny (model PySem.Challenge.rw_ty0017_01.row.prog w) A (call (.ref 120) [.ref l] []) Q E s := by
  obtain ⟨B, F, X, T, hk, hd, hu⟩ := C
  revert X
  k_fill
  intro X
  refine wpAny_call ?_
  k_dflt ktn_open
  k_with "pyIter ref" => k_state (fun pre count kept => kept.length = pre.length ∧ Cnt pre count kept) "count" "kept"
  k_with "state" => first | exact cnt_start | exact cnt_turn (by assumption) (by assumption)
  k_with "call ref" => first
    | (refine' bisR_N (by k_asm) (by k_asm) (by k_mem) (Ctx.mk (by k_asm) (by k_asm) (by k_asm) (by k_asm) (by first | exact rfl | assumption) (by ktr_room) (by ktr_units)) (by assumption) ?_ ?_; (first | omega | (simp_all; omega)); intro t' h' tk' F' N')
    | (refine' ins_N (by k_asm) (by k_asm) (by k_updF) (CtxN.mk (by k_asm) (by k_asm) (news_one (by k_asm) (by k_mem)) (by k_asm) (by k_asm) (by first | exact rfl | assumption) (by ktr_room) (by ktr_units)) (by assumption) ?_ ?_; (first | omega | (simp_all; omega)); intro vs' n' h' tk' hi' F' N'; (try dsimp only at N'))
  k_steps
  have e9 := cnt_end (by assumption)
  subst e9
  exact ret _ _ _ (Fr.keep (by k_asm))
end Mine
end
section
open PySem PySem.W PySem.Spec PySem.Calls PyProof.Rows
set_option maxRecDepth 100000
namespace Mine
theorem txs_set {x : Str} {u : Tok} : ∀ {vs : List Value} {ys : List Str}, StrsAre vs ys → ∀ j : Nat, StrsAre (vs.set j (.str x u)) (ys.set j x)
  | _, _, .nil, _ => .nil
  | _, _, .cons _ _ h, 0 => .cons x u h
  | _, _, .cons i t h, j + 1 => .cons i t (txs_set h j)
section
variable {prog : Program} {w : World} {A : Around} {E : Value → Shared → Prop} {s : Shared} {h₀ : Heap} {L D : Addr} {m : Str → Option Value} {news news' : List (Addr × Obj)} {vs : List Value} {ys : List Str} {n : Nat} {k : Int} {x : Str} {t u : Tok}
theorem txt_set {Q : Unit → Shared → Prop} (F : Fr h₀ L s.heap m) (N : News h₀ L s.heap news) (U : Upd D (listOf vs.toArray n) (listOf (vs.set k.toNat (.str x u)).toArray n) news news') (hi : StrsAre vs ys) (h0 : 0 ≤ k) (h1 : k < ys.length) (hfit : k < 2 ^ 63)
    (h : ∀ h', Fr h₀ L h' m → News h₀ L h' news' → StrsAre (vs.set k.toNat (.str x u)) (ys.set k.toNat x) → (ys.set k.toNat x).length = ys.length → Q () { s with heap := h' }) :
    wpAny (model prog w) A (setItem (.ref D) (.int k t) (.str x u)) Q E s := by
  obtain ⟨pre, post, rfl, rfl, a, b⟩ := U.split
  have z := N (D, listOf vs.toArray n) (List.mem_append.mpr (.inr (.head _)))
  have hl : vs.length = ys.length := hi.len_eq
  have hs : vs.toArray.size = ys.length := by rw [List.size_toArray]; exact hl
  have hj : k.toNat < ys.length := by omega
  refine ki_setAt z.1 h0 hfit (by omega) (h _ (F.change (Heap.SameBut.update ..) z.2.1 z.2.2) (ki_turn _ N a b ?_ ?_) (txs_set hi _) (List.length_set ..))
  · show vs.toArray.setIfInBounds k.toNat (.str x u) = (vs.set k.toNat (.str x u)).toArray
    apply Array.toList_inj.mp
    simp
  · simp
end
/-- a row whose numbers are those of its own places -/
def RowIn (ns : List Int) : Prop := ns.length ≤ 6 ∧ ∀ x ∈ ns, 1 ≤ x ∧ x ≤ ns.length
theorem RowIn.at {ns : List Int} (R : RowIn ns) {i : Int} (h0 : 0 ≤ i) (h1 : i < ns.length) : 1 ≤ ns.getD i.toNat 0 ∧ ns.getD i.toNat 0 ≤ ns.length := by
  have h : i.toNat < ns.length := by omega
  have e : ns.getD i.toNat 0 = ns[i.toNat] := by simp [h]
  rw [e]; exact R.2 _ (List.getElem_mem h)
/-- the letter of a number -/
@[irreducible] def letter (i : Int) : Str := Txt.item (Str.ofString "abcdef") i
theorem letter_len (i : Int) : (letter i).length = 1 := by unfold letter; exact len_item _ _
theorem strs_rep (k : Nat) (y : Str) (t : Tok) : StrsAre (List.replicate k [Value.str y t]).flatten (List.replicate k y) := by
  induction k with
  | zero => exact .nil
  | succ k ih => rw [List.replicate_succ, List.replicate_succ]; exact .cons y t ih
theorem strs_repI (n : Nat) (y : Str) (t : Tok) : StrsAre (List.replicate ((n : Int)).toNat [Value.str y t]).flatten (List.replicate n y) := strs_rep n y t
theorem letter_item {prog : Program} {w : World} {A : Around} {E : Value → Shared → Prop} {s : Shared} {Q : Value → Shared → Prop} {value slice : Expr} {t u : Tok} {i : Int} (h1 : 0 ≤ i) (h2 : i < 6)
    (h : Q (.str (letter i) s.toks) { s with toks := s.toks + 1 })
    (hs : subscripted slice false (.str (Str.ofString "abcdef") t) (.int i u) = operate [.str (Str.ofString "abcdef") t, .int i u] (getItem (.str (Str.ofString "abcdef") t) (.int i u)) := by with_unfolding_all rfl)
    (ht : ∀ r, letTemporaryGo value (.str (Str.ofString "abcdef") t) r = pure () := by intro _; with_unfolding_all rfl) :
    wpAny (model prog w) A (subscriptTail value slice (.str (Str.ofString "abcdef") t) (.int i u)) Q E s := by
  have e : (Str.ofString "abcdef").length = 6 := by decide
  unfold letter at h
  exact item_str (fitsSsize_of (N := 7) (by omega) (by omega) (by omega)) (by rw [e]; omega) (by rw [e]; omega) (fun _ => h) hs ht
/-- a text of dotsI -/
@[irreducible] def dotsI (n : Int) : Str := Txt.mul (Str.ofString ".") n
theorem dotsI_len {n : Int} (h0 : 0 ≤ n) (h1 : n ≤ 6) : (dotsI n).length = n.toNat := by
  have : n = 0 ∨ n = 1 ∨ n = 2 ∨ n = 3 ∨ n = 4 ∨ n = 5 ∨ n = 6 := by omega
  unfold dotsI
  rcases this with rfl | rfl | rfl | rfl | rfl | rfl | rfl <;> decide +kernel
theorem dotsI_mul {prog : Program} {w : World} {A : Around} {E : Value → Shared → Prop} {s : Shared} {Q : Value → Shared → Prop} {t u : Tok} {n : Int} (h1 : 0 ≤ n) (h2 : n ≤ 6)
    (h : ∀ t' k, Q (.str (dotsI n) t') { s with toks := k }) : wpAny (model prog w) A (binaryOp .Mult (.str (Str.ofString ".") t) (.int n u)) Q E s := by
  unfold dotsI at h
  exact SB.mul (mulOk_of 16 16 (by decide) (by omega) (by omega) (by decide) (by decide)) h
theorem letter_dots {prog : Program} {w : World} {A : Around} {E : Value → Shared → Prop} {s : Shared} {Q : Value → Shared → Prop} {t u : Tok} {i n : Int} (h1 : 0 ≤ n) (h2 : n ≤ 6)
    (h : ∀ t' k, Q (.str (letter i ++ dotsI n) t') { s with toks := k }) : wpAny (model prog w) A (binaryOp .Add (.str (letter i) t) (.str (dotsI n) u)) Q E s :=
  SBL.add (fun t' k _ => h t' k) (by rw [letter_len, dotsI_len h1 h2, sizeLine_eq]; omega)
end Mine
end
section
open PySem PySem.W PySem.Spec PySem.Calls PyProof.Rows
open PySem.Builtin PySem.Builtin.Re
set_option maxRecDepth 100000
namespace Mine

theorem runFor_stable {m : Sre.M} (h : m.outcome.isSome = true) : ∀ n, Sre.M.runFor n m = m
  | 0 => rfl
  | n + 1 => by rw [Sre.M.runFor, if_pos h]
theorem runFor_add {m : Sre.M} (b : Nat) : ∀ a, Sre.M.runFor (a + b) m = Sre.M.runFor b (Sre.M.runFor a m) := by
  intro a
  induction a generalizing m with
  | zero => rw [Nat.zero_add]; rfl
  | succ a ih =>
    rw [Nat.succ_add, Sre.M.runFor, Sre.M.runFor]
    by_cases h : m.outcome.isSome = true
    · rw [if_pos h, if_pos h, runFor_stable h]
    · rw [if_neg h, if_neg h]; exact ih

section
variable {M : Model} {A : Around} {E : Value → Shared → Prop} {s : Shared}
theorem reDrive_ok : ∀ (k j : Nat) {m : Sre.M} {Q : Sre.M → Shared → Prop}, (Sre.M.runFor j m).outcome.isSome = true → j < 4 * k → Q (Sre.M.runFor j m) s → wpAny M A (reDrive k m) Q E s := by
  intro k
  induction k with
  | zero => intro j m Q _ h; omega
  | succ k ih =>
    intro j m Q hj hk h
    have eD : reDrive (k + 1) m = (fun m4 : Sre.M => if m4.outcome.isSome then pure m4 else do rule "sre.turn"; reDrive k m4) (Sre.M.runFor 4 m) := rfl
    rw [eD]
    by_cases h4 : j ≤ 4
    · have e : Sre.M.runFor 4 m = Sre.M.runFor j m := by
        have := runFor_add (m := m) (4 - j) j
        rw [show j + (4 - j) = 4 by omega, runFor_stable hj] at this
        exact this
      rw [e]
      dsimp only
      rw [if_pos hj]
      exact wpAny_pure h
    · have e : Sre.M.runFor j m = Sre.M.runFor (j - 4) (Sre.M.runFor 4 m) := by
        have := runFor_add (m := m) (j - 4) 4
        rwa [show 4 + (j - 4) = j by omega] at this
      rw [e] at hj h
      by_cases hs : (Sre.M.runFor 4 m).outcome.isSome = true
      · dsimp only
        rw [if_pos hs]
        rw [runFor_stable hs] at h
        exact wpAny_pure h
      · dsimp only
        rw [if_neg hs]
        exact wpAny_bind (wpAny_rule (ih _ hj (by omega) h))

theorem wp_forIn {α : Type} {f : α → PUnit → Sem (ForInStep PUnit)} (hf : ∀ a u (Q : ForInStep PUnit → Shared → Prop) (E : Value → Shared → Prop) s, Q (.yield ⟨⟩) s → wpAny M A (f a u) Q E s) :
    ∀ (l : List α) {Q : PUnit → Shared → Prop}, Q ⟨⟩ s → wpAny M A (forIn l ⟨⟩ f) Q E s := by
  intro l
  induction l with
  | nil => intro Q h; exact wpAny_pure h
  | cons a l ih =>
    intro Q h
    rw [List.forIn_cons]
    exact wpAny_bind (hf _ _ _ _ _ (ih h))

theorem runToEnd_matched {m m' : Sre.M} {j : Nat} {Q : Option Sre.M → Shared → Prop} (e : Sre.M.runFor j m = m') (ho : m'.outcome = some .matched) (hj : j < 2 ^ 60) (h : Q (some m') s) : wpAny M A (reRunToEnd m) Q E s := by
  subst e
  unfold reRunToEnd
  refine wpAny_bind (reDrive_ok (2 ^ 64) j (by rw [ho]; rfl) (by omega) ?_)
  refine wpAny_bind (wp_forIn (fun a u Q E s h => ?_) _ ?_)
  · split
    · exact wpAny_bind (wpAny_rule (wpAny_pure h))
    · exact wpAny_pure h
  · rw [ho]
    exact wpAny_pure h
theorem runToEnd_failed {m m' : Sre.M} {j : Nat} {Q : Option Sre.M → Shared → Prop} (e : Sre.M.runFor j m = m') (ho : m'.outcome = some .failed) (hj : j < 2 ^ 60) (h : Q none s) : wpAny M A (reRunToEnd m) Q E s := by
  subst e
  unfold reRunToEnd
  refine wpAny_bind (reDrive_ok (2 ^ 64) j (by rw [ho]; rfl) (by omega) ?_)
  refine wpAny_bind (wp_forIn (fun a u Q E s h => ?_) _ ?_)
  · split
    · exact wpAny_bind (wpAny_rule (wpAny_pure h))
    · exact wpAny_pure h
  · rw [ho]
    exact wpAny_pure h
end
end Mine
end
section
open PySem PySem.W PySem.Spec PySem.Calls PyProof.Rows
open PySem.Builtin PySem.Builtin.Re
set_option maxRecDepth 100000
namespace Mine
def code1 : Array Nat := #[14, 4, 0, 1, 1, 6, 1, 16, 46, 1]
def st1 (text : Array Nat) (lim s : Nat) (b : Bool) (seen : Sre.Seen) : Sre.M :=
  { code := code1, text, lim, start := s, lastStart := lim, wholeText := false, mustAdvance := false, pc := 5, pos := s, handed := s, outermost := b, marks := #[], lastmark := -1, lastindex := -1, loops := #[], inner := none,
    frames := [{ wait := .nextStart, pc := 5, pos := s, outermost := b, count := 0, kept := {}, loop := 0, began := none }], weight := 1, answer := none, seen, outcome := none }
def st1b (text : Array Nat) (lim s : Nat) (b : Bool) (seen : Sre.Seen) : Sre.M := { st1 text lim s b seen with pc := 7 }
def st1c (text : Array Nat) (lim s : Nat) (b : Bool) (seen : Sre.Seen) : Sre.M := { st1 text lim s b seen with pc := 9, pos := s + 1 }
abbrev Bol (text : Array Nat) (s : Nat) : Prop := s = 0 ∨ text[s - 1]?.getD 0 = 10
def no1 (text : Array Nat) (lim s : Nat) (b : Bool) (pc : Nat) (seen : Sre.Seen) : Sre.M := { st1 text lim s b seen with answer := some false, pc := pc }
theorem runFor_step {m m' : Sre.M} {n : Nat} (h : m.outcome = none) (e : m.step = m') : Sre.M.runFor (n + 1) m = Sre.M.runFor n m' := by
  rw [Sre.M.runFor, h, e]; rfl
theorem step_exec {m : Sre.M} (ho : m.outcome = none) (ha : m.answer = none) (h0 : m.pc < m.code.size) : m.step = m.exec := by
  unfold Sre.M.step
  rw [ho, ha]
  exact if_pos h0
/-- a letter that is there -/
theorem lit_yes (m : Sre.M) (ho : m.outcome = none) (ha : m.answer = none) (h0 : m.pc < m.code.size) (hop : m.code.getD (m.pc + 0) 0 = 16) (hp : m.pos < m.lim) (hc : m.text.getD m.pos 0 = m.code.getD (m.pc + 1) 0) :
    m.step = { m with seen := m.seen.add 16, pc := m.pc + 2, pos := m.pos + 1 } := by
  have e : Sre.accepts m.code m.pc (m.text.getD m.pos 0) (m.seen.add 16) = .ok (true, m.seen.add 16) := by
    unfold Sre.accepts
    rw [show m.code.getD m.pc 0 = 16 from hop, hc]
    show Except.ok (_ == _, _) = _
    rw [beq_self_eq_true]
  have ew : Sre.itemWidth m.code m.pc = 2 := by
    unfold Sre.itemWidth
    rw [show m.code.getD m.pc 0 = 16 from hop]
    rfl
  rw [step_exec ho ha h0]
  unfold Sre.M.exec Sre.M.word
  rw [hop]
  show (if m.lim ≤ m.pos then _ else _) = _
  rw [if_neg (Nat.not_le.mpr hp)]
  dsimp only
  rw [e]
  dsimp only
  rw [ew]
/-- a letter that is not there -/
theorem lit_no (m : Sre.M) (ho : m.outcome = none) (ha : m.answer = none) (h0 : m.pc < m.code.size) (hop : m.code.getD (m.pc + 0) 0 = 16) (hc : m.lim ≤ m.pos ∨ m.text.getD m.pos 0 ≠ m.code.getD (m.pc + 1) 0) :
    m.step = { m with seen := m.seen.add 16, answer := some false } := by
  rw [step_exec ho ha h0]
  unfold Sre.M.exec Sre.M.word
  rw [hop]
  show (if m.lim ≤ m.pos then _ else _) = _
  by_cases hp : m.lim ≤ m.pos
  · rw [if_pos hp]; rfl
  · have e : Sre.accepts m.code m.pc (m.text.getD m.pos 0) (m.seen.add 16) = .ok (false, m.seen.add 16) := by
      unfold Sre.accepts
      rw [show m.code.getD m.pc 0 = 16 from hop]
      show Except.ok (_ == _, _) = _
      rw [beq_false_of_ne (hc.resolve_left hp)]
    rw [if_neg hp]
    dsimp only
    rw [e]
    rfl
theorem bol_is {text : Array Nat} {s : Nat} : (s == 0 || text.getD (s - 1) 0 == 10) = true ↔ Bol text s := by
  unfold Bol
  rw [Array.getD_eq_getD_getElem?, Bool.or_eq_true, beq_iff_eq, beq_iff_eq]
theorem st1_at (text : Array Nat) (lim s : Nat) (b : Bool) (seen : Sre.Seen) (h : Bol text s) : (st1 text lim s b seen).step = st1b text lim s b ((seen.add 6).add 44) := by
  show (if (s == 0 || text.getD (s - 1) 0 == 10) = true then _ else _) = _
  rw [if_pos (bol_is.mpr h)]; rfl
theorem st1_off (text : Array Nat) (lim s : Nat) (b : Bool) (seen : Sre.Seen) (h : ¬ Bol text s) : (st1 text lim s b seen).step = no1 text lim s b 5 ((seen.add 6).add 44) := by
  show (if (s == 0 || text.getD (s - 1) 0 == 10) = true then _ else _) = _
  rw [if_neg (fun e => h (bol_is.mp e))]; rfl
theorem st1b_yes (text : Array Nat) (lim s : Nat) (b : Bool) (seen : Sre.Seen) (hs : s < lim) (h : text[s]?.getD 0 = 46) : (st1b text lim s b seen).step = st1c text lim s b (seen.add 16) :=
  lit_yes (st1b text lim s b seen) rfl rfl (show 7 < 10 by decide) rfl hs ((Array.getD_eq_getD_getElem? ..).trans h)
theorem st1b_no (text : Array Nat) (lim s : Nat) (b : Bool) (seen : Sre.Seen) (h : lim ≤ s ∨ text[s]?.getD 0 ≠ 46) : (st1b text lim s b seen).step = no1 text lim s b 7 (seen.add 16) :=
  lit_no (st1b text lim s b seen) rfl rfl (show 7 < 10 by decide) rfl (h.imp_right fun n e => n ((Array.getD_eq_getD_getElem? ..).symm.trans e))
/-- the place is given up: the next place, or none -/
theorem no1_next (text : Array Nat) (lim s : Nat) (b : Bool) (pc : Nat) (seen : Sre.Seen) (hs : s < lim) : (no1 text lim s b pc seen).step = st1 text lim (s + 1) false seen := by
  simp [st1, no1, Sre.M.step, Sre.M.resume, Sre.M.putBack, Sre.M.attemptFrom, Sre.M.hasFirstSet, Sre.M.attemptAt, Sre.M.attempt, code1, Sre.ops, hs]
def end1 (text : Array Nat) (lim s : Nat) (b : Bool) (pc p h : Nat) (a : Bool) (seen : Sre.Seen) : Sre.M :=
  { code := code1, text, lim, start := s, lastStart := lim, wholeText := false, mustAdvance := false, pc := 5, pos := s, handed := h, outermost := b, marks := #[], lastmark := -1, lastindex := -1, loops := #[], inner := none,
    frames := [], weight := 0, answer := some a, seen, outcome := none }
theorem no1_last (text : Array Nat) (lim s : Nat) (b : Bool) (pc : Nat) (seen : Sre.Seen) (hs : ¬ s < lim) : (no1 text lim s b pc seen).step = end1 text lim s b 5 s s false seen := by
  simp [st1, no1, end1, Sre.M.step, Sre.M.resume, Sre.M.putBack, Sre.M.say, hs]
theorem st1c_yes (text : Array Nat) (lim s : Nat) (b : Bool) (seen : Sre.Seen) : (st1c text lim s b seen).step = { st1c text lim s b (seen.add 1) with handed := s + 1, answer := some true } := by
  simp [st1c, st1, Sre.M.step, Sre.M.exec, Sre.M.word, code1, Sre.ops, Sre.M.say]
theorem yes1_last (text : Array Nat) (lim s : Nat) (b : Bool) (seen : Sre.Seen) : ({ st1c text lim s b seen with handed := s + 1, answer := some true } : Sre.M).step = end1 text lim s b 5 s (s + 1) true seen := by
  simp [st1c, st1, end1, Sre.M.step, Sre.M.resume, Sre.M.putBack, Sre.M.say]
theorem end1_step (text : Array Nat) (lim s : Nat) (b : Bool) (pc p h : Nat) (a : Bool) (seen : Sre.Seen) : (end1 text lim s b pc p h a seen).step = { end1 text lim s b pc p h a seen with outcome := some (if a then .matched else .failed) } := by
  simp [end1, Sre.M.step]
/-- a place without a match -/
abbrev Hit1 (text : Array Nat) (s : Nat) : Prop := Bol text s ∧ text[s]?.getD 0 = 46
theorem miss1 (text : Array Nat) (lim s : Nat) (b : Bool) (seen : Sre.Seen) (hs : s < lim) (h : ¬ Hit1 text s) : ∃ j seen', j ≤ 3 ∧ ∀ n, Sre.M.runFor (j + n) (st1 text lim s b seen) = Sre.M.runFor n (st1 text lim (s + 1) false seen') := by
  by_cases hb : Bol text s
  · refine ⟨3, (((seen.add 6).add 44).add 16), Nat.le_refl _, fun n => ?_⟩
    rw [show 3 + n = n + 1 + 1 + 1 by omega, runFor_step rfl (st1_at _ _ _ _ _ hb), runFor_step rfl (st1b_no _ _ _ _ _ (.inr fun e => h ⟨hb, e⟩)), runFor_step rfl (no1_next _ _ _ _ _ _ hs)]
  · refine ⟨2, ((seen.add 6).add 44), by omega, fun n => ?_⟩
    rw [show 2 + n = n + 1 + 1 by omega, runFor_step rfl (st1_off _ _ _ _ _ hb), runFor_step rfl (no1_next _ _ _ _ _ _ hs)]
theorem hit1 (text : Array Nat) (lim s : Nat) (b : Bool) (seen : Sre.Seen) (hs : s < lim) (h : Hit1 text s) : (Sre.M.runFor 5 (st1 text lim s b seen)).outcome = some .matched ∧ (Sre.M.runFor 5 (st1 text lim s b seen)).start = s ∧ (Sre.M.runFor 5 (st1 text lim s b seen)).handed = s + 1 := by
  rw [runFor_step rfl (st1_at _ _ _ _ _ h.1), runFor_step rfl (st1b_yes _ _ _ _ _ hs h.2), runFor_step rfl (st1c_yes _ _ _ _ _), runFor_step rfl (yes1_last _ _ _ _ _), runFor_step rfl (end1_step _ _ _ _ _ _ _ _ _)]
  exact ⟨rfl, rfl, rfl⟩
theorem lose1 (text : Array Nat) (lim s : Nat) (b : Bool) (seen : Sre.Seen) (hs : ¬ s < lim) : ∃ j, j ≤ 5 ∧ (Sre.M.runFor j (st1 text lim s b seen)).outcome = some .failed := by
  by_cases hb : Bol text s
  · refine ⟨4, by omega, ?_⟩
    rw [runFor_step rfl (st1_at _ _ _ _ _ hb), runFor_step rfl (st1b_no _ _ _ _ _ (.inl (Nat.not_lt.mp hs))), runFor_step rfl (no1_last _ _ _ _ _ _ hs), runFor_step rfl (end1_step _ _ _ _ _ _ _ _ _)]
    rfl
  · refine ⟨3, by omega, ?_⟩
    rw [runFor_step rfl (st1_off _ _ _ _ _ hb), runFor_step rfl (no1_last _ _ _ _ _ _ hs), runFor_step rfl (end1_step _ _ _ _ _ _ _ _ _)]
    rfl
theorem scan1 (text : Array Nat) (lim : Nat) : ∀ (k s : Nat) (b : Bool) (seen : Sre.Seen), s + k = lim → (∀ t, s ≤ t → t < lim → ¬ Hit1 text t) → ∃ j, j ≤ 3 * k + 5 ∧ (Sre.M.runFor j (st1 text lim s b seen)).outcome = some .failed := by
  intro k
  induction k with
  | zero => intro s b seen hs _; obtain ⟨j, hj, h⟩ := lose1 text lim s b seen (by omega); exact ⟨j, by omega, h⟩
  | succ k ih =>
    intro s b seen hs hn
    obtain ⟨j, seen', hj, e⟩ := miss1 text lim s b seen (by omega) (hn s (Nat.le_refl _) (by omega))
    obtain ⟨j', hj', h⟩ := ih (s + 1) false seen' (by omega) (fun t h1 h2 => hn t (by omega) h2)
    exact ⟨j + j', by omega, by rw [e]; exact h⟩
theorem found1 (text : Array Nat) (lim t : Nat) (ht : t < lim) (hit : Hit1 text t) : ∀ (k s : Nat) (b : Bool) (seen : Sre.Seen), s + k = t → (∀ u, s ≤ u → u < t → ¬ Hit1 text u) → ∃ j, j ≤ 3 * k + 5 ∧ (Sre.M.runFor j (st1 text lim s b seen)).outcome = some .matched ∧ (Sre.M.runFor j (st1 text lim s b seen)).start = t ∧ (Sre.M.runFor j (st1 text lim s b seen)).handed = t + 1 := by
  intro k
  induction k with
  | zero =>
    intro s b seen hs _
    obtain rfl : s = t := by omega
    exact ⟨5, by omega, hit1 text lim s b seen ht hit⟩
  | succ k ih =>
    intro s b seen hs hn
    obtain ⟨j, seen', hj, e⟩ := miss1 text lim s b seen (by omega) (hn s (Nat.le_refl _) (by omega))
    obtain ⟨j', hj', h⟩ := ih (s + 1) false seen' (by omega) (fun u h1 h2 => hn u (by omega) h2)
    exact ⟨j + j', by omega, by rw [e]; exact h⟩
def m0 (code text : Array Nat) (pos lim : Nat) : Sre.M :=
  { code, text, lim, start := pos, pc := (Sre.header code).2, pos, handed := pos, marks := #[], mustAdvance := false, seen := if (Sre.header code).2 == 0 then {} else ({} : Sre.Seen).add 14 }
theorem forSearch_eq (code text : Array Nat) (pos lim : Nat) : Sre.forSearch code text 0 pos lim false =
    (if pos > lim || lim - pos < (Sre.header code).1 then (m0 code text pos lim).say false
     else { m0 code text pos lim with lastStart := if (Sre.header code).1 > 1 && !((Sre.header code).2 != 0 && code.getD 2 0 &&& 5 != 0) then max pos (lim - ((Sre.header code).1 - 1)) else lim }.attemptFrom pos true) := rfl
theorem search1_some (text : Array Nat) (lim pos : Nat) (h : pos < lim) : Sre.forSearch code1 text 0 pos lim false = st1 text lim pos true (({} : Sre.Seen).add 14) := by
  have h1 : ¬ lim < pos := by omega
  have h2 : ¬ lim - pos < 1 := by omega
  rw [forSearch_eq]
  simp [m0, Sre.header, Sre.M.attemptFrom, Sre.M.hasFirstSet, Sre.M.attemptAt, Sre.M.attempt, code1, Sre.ops, st1, h1, h2]
theorem search1_none (text : Array Nat) (lim pos : Nat) (h : lim ≤ pos) : (Sre.M.runFor 1 (Sre.forSearch code1 text 0 pos lim false)).outcome = some .failed := by
  have h2 : lim < pos ∨ lim - pos = 0 := by omega
  rw [forSearch_eq]
  simp [m0, Sre.header, code1, Sre.ops, h2, Sre.M.say, Sre.M.runFor, Sre.M.step]

def code2 : Array Nat := #[14, 9, 4, 1, 2, 16, 10, 16, 13, 0, 7, 7, 16, 13, 16, 10, 15, 18, 5, 16, 10, 15, 13, 11, 16, 13, 5, 5, 0, 16, 10, 1, 15, 2, 0, 1]
def Hit2 (text : Array Nat) (s : Nat) : Prop := text[s]?.getD 0 = 10 ∨ text[s]?.getD 0 = 13
theorem inSet2 (c : Nat) (seen : Sre.Seen) : ∃ seen', Sre.inSet code2 c 36 5 true seen = .ok (decide (c = 10 ∨ c = 13), seen') := by
  by_cases h1 : c = 10
  · subst h1; exact ⟨_, rfl⟩
  · by_cases h2 : c = 13
    · subst h2; exact ⟨_, rfl⟩
    · refine ⟨((seen.add 16).add 16).add 0, ?_⟩
      rw [decide_eq_false (fun h => h.elim h1 h2)]
      show (if (c == 10) = true then _ else if (c == 13) = true then _ else _) = _
      rw [if_neg (fun h => h1 (eq_of_beq h)), if_neg (fun h => h2 (eq_of_beq h))]
      rfl
theorem admitted2_some {m : Sre.M} (hc : m.code = code2) {t : Nat} (ht : t < m.lim) (hit : Hit2 m.text t) : ∀ (k s fuel : Nat) (seen : Sre.Seen), s + k = t → k < fuel → (∀ u, s ≤ u → u < t → ¬ Hit2 m.text u) → ∃ seen', Sre.M.admitted m fuel s seen = .ok (some t, seen') := by
  intro k
  induction k with
  | zero =>
    intro s fuel seen hs hf _
    obtain rfl : s = t := by omega
    obtain ⟨f, rfl⟩ : ∃ f, fuel = f + 1 := ⟨fuel - 1, by omega⟩
    obtain ⟨seen', e⟩ := inSet2 (m.text.getD s 0) seen
    have hd : decide (m.text.getD s 0 = 10 ∨ m.text.getD s 0 = 13) = true := decide_eq_true (by simpa [Hit2] using hit)
    rw [hd] at e
    rw [Sre.M.admitted, if_neg (by omega), hc, show code2.size = 36 from rfl, e]
    exact ⟨seen', rfl⟩
  | succ k ih =>
    intro s fuel seen hs hf hn
    obtain ⟨f, rfl⟩ : ∃ f, fuel = f + 1 := ⟨fuel - 1, by omega⟩
    obtain ⟨seen', e⟩ := inSet2 (m.text.getD s 0) seen
    have hd : decide (m.text.getD s 0 = 10 ∨ m.text.getD s 0 = 13) = false := decide_eq_false (by simpa [Hit2] using hn s (Nat.le_refl _) (by omega))
    rw [hd] at e
    rw [Sre.M.admitted, if_neg (by omega), hc, show code2.size = 36 from rfl, e]
    exact ih (s + 1) f seen' (by omega) (by omega) (fun u h1 h2 => hn u (by omega) h2)
theorem admitted2_none {m : Sre.M} (hc : m.code = code2) : ∀ (k s fuel : Nat) (seen : Sre.Seen), s + k = m.lim → k < fuel → (∀ u, s ≤ u → u < m.lim → ¬ Hit2 m.text u) → ∃ seen', Sre.M.admitted m fuel s seen = .ok (none, seen') := by
  intro k
  induction k with
  | zero =>
    intro s fuel seen hs hf _
    obtain ⟨f, rfl⟩ : ∃ f, fuel = f + 1 := ⟨fuel - 1, by omega⟩
    rw [Sre.M.admitted, if_pos (by omega)]
    exact ⟨seen, rfl⟩
  | succ k ih =>
    intro s fuel seen hs hf hn
    obtain ⟨f, rfl⟩ : ∃ f, fuel = f + 1 := ⟨fuel - 1, by omega⟩
    obtain ⟨seen', e⟩ := inSet2 (m.text.getD s 0) seen
    have hd : decide (m.text.getD s 0 = 10 ∨ m.text.getD s 0 = 13) = false := decide_eq_false (by simpa [Hit2] using hn s (Nat.le_refl _) (by omega))
    rw [hd] at e
    rw [Sre.M.admitted, if_neg (by omega), hc, show code2.size = 36 from rfl, e]
    exact ih (s + 1) f seen' (by omega) (by omega) (fun u h1 h2 => hn u (by omega) h2)
def st2 (text : Array Nat) (lim s : Nat) (b : Bool) (seen : Sre.Seen) : Sre.M :=
  { code := code2, text, lim, start := s, lastStart := lim, wholeText := false, mustAdvance := false, pc := 10, pos := s, handed := s, outermost := b, marks := #[], lastmark := -1, lastindex := -1, loops := #[], inner := none,
    frames := [{ wait := .nextStart, pc := 10, pos := s, outermost := b, count := 0, kept := {}, loop := 0, began := none }], weight := 1, answer := none, seen, outcome := none }
def Won (m : Sre.M) (t e : Nat) : Prop := m.outcome = some .matched ∧ m.start = t ∧ m.handed = e
/-- the machine on code2, at a place of the code and of the text -/
def q2 (text : Array Nat) (lim s : Nat) (seen : Sre.Seen) (b : Bool) (pc pos handed : Nat) (fs : List Sre.Frame) (a : Option Bool) : Sre.M :=
  { code := code2, text, lim, start := s, lastStart := lim, wholeText := false, mustAdvance := false, pc, pos, handed, outermost := b, marks := #[], lastmark := -1, lastindex := -1, loops := #[], inner := none,
    frames := fs, weight := fs.length, answer := a, seen, outcome := none }
def fr2 (w : Sre.Wait) (pc pos : Nat) (b : Bool) : Sre.Frame := { wait := w, pc, pos, outermost := b, count := 0, kept := { lastmark := -1, lastindex := -1, whole := false, marks := #[] }, loop := 0, began := none }
section
variable {text : Array Nat} {lim s pos h : Nat} {seen : Sre.Seen} {b : Bool} {fs : List Sre.Frame}
theorem lit2_yes (pc : Nat) (h0 : pc < 36) (hop : code2.getD (pc + 0) 0 = 16) (hp : pos < lim) (hc : text.getD pos 0 = code2.getD (pc + 1) 0) :
    (q2 text lim s seen b pc pos h fs none).step = q2 text lim s (seen.add 16) b (pc + 2) (pos + 1) h fs none := lit_yes (q2 text lim s seen b pc pos h fs none) rfl rfl h0 hop hp hc
theorem lit2_no (pc : Nat) (h0 : pc < 36) (hop : code2.getD (pc + 0) 0 = 16) (hc : lim ≤ pos ∨ text.getD pos 0 ≠ code2.getD (pc + 1) 0) :
    (q2 text lim s seen b pc pos h fs none).step = q2 text lim s (seen.add 16) b pc pos h fs (some false) := lit_no (q2 text lim s seen b pc pos h fs none) rfl rfl h0 hop hc
end
/-- from the end of an alternative to the end of the search -/
theorem end2 {text : Array Nat} {lim s pos h : Nat} {seen : Sre.Seen} {b : Bool} {k : Nat} : Won (Sre.M.runFor 4 (q2 text lim s seen b 35 pos h [fr2 .nextBranch k s b, fr2 .nextStart 10 s b] none)) s pos := by
  have e1 : (q2 text lim s seen b 35 pos h [fr2 .nextBranch k s b, fr2 .nextStart 10 s b] none).step = q2 text lim s (seen.add 1) b 35 pos pos [fr2 .nextBranch k s b, fr2 .nextStart 10 s b] (some true) := by
    cases b <;> rfl
  rw [runFor_step rfl e1, runFor_step (m' := q2 text lim s (seen.add 1) b k s pos [fr2 .nextStart 10 s b] (some true)) rfl rfl, runFor_step (m' := q2 text lim s (seen.add 1) b 10 s pos [] (some true)) rfl rfl]
  exact ⟨rfl, rfl, rfl⟩
theorem start2 {text : Array Nat} {lim s n : Nat} {seen : Sre.Seen} {b : Bool} : Sre.M.runFor (n + 1) (st2 text lim s b seen) = Sre.M.runFor n (q2 text lim s (seen.add 7) b 12 s s [fr2 .nextBranch 11 s b, fr2 .nextStart 10 s b] none) :=
  runFor_step rfl rfl
theorem hit2_crlf (text : Array Nat) (lim s : Nat) (b : Bool) (seen : Sre.Seen) (hs : s + 1 < lim) (h : text[s]?.getD 0 = 13) (h' : text[s + 1]?.getD 0 = 10) : Won (Sre.M.runFor 8 (st2 text lim s b seen)) s (s + 2) := by
  rw [← Array.getD_eq_getD_getElem?] at h h'
  rw [start2, runFor_step rfl (lit2_yes 12 (by decide) rfl (Nat.lt_of_succ_lt hs) h), runFor_step rfl (lit2_yes 14 (by decide) rfl hs h'), runFor_step (m' := q2 text lim s _ b 35 (s + 2) s [fr2 .nextBranch 11 s b, fr2 .nextStart 10 s b] none) rfl rfl]
  exact end2
theorem hit2_lf (text : Array Nat) (lim s : Nat) (b : Bool) (seen : Sre.Seen) (hs : s < lim) (h : text[s]?.getD 0 = 10) : Won (Sre.M.runFor 9 (st2 text lim s b seen)) s (s + 1) := by
  rw [← Array.getD_eq_getD_getElem?] at h
  rw [start2, runFor_step rfl (lit2_no 12 (by decide) rfl (.inr (by rw [h]; decide))), runFor_step (m' := q2 text lim s _ b 19 s s [fr2 .nextBranch 18 s b, fr2 .nextStart 10 s b] none) rfl rfl,
    runFor_step rfl (lit2_yes 19 (by decide) rfl hs h), runFor_step (m' := q2 text lim s _ b 35 (s + 1) s [fr2 .nextBranch 18 s b, fr2 .nextStart 10 s b] none) rfl rfl]
  exact end2
theorem hit2_cr (text : Array Nat) (lim s : Nat) (b : Bool) (seen : Sre.Seen) (hs : s < lim) (h : text[s]?.getD 0 = 13) (h' : lim ≤ s + 1 ∨ text[s + 1]?.getD 0 ≠ 10) : Won (Sre.M.runFor 15 (st2 text lim s b seen)) s (s + 1) := by
  rw [← Array.getD_eq_getD_getElem?] at h h'
  rw [start2, runFor_step rfl (lit2_yes 12 (by decide) rfl hs h), runFor_step rfl (lit2_no 14 (by decide) rfl h'), runFor_step (m' := q2 text lim s _ b 19 s s [fr2 .nextBranch 18 s b, fr2 .nextStart 10 s b] none) rfl rfl,
    runFor_step rfl (lit2_no 19 (by decide) rfl (.inr (by rw [h]; decide))), runFor_step (m' := q2 text lim s _ b 24 s s [fr2 .nextBranch 23 s b, fr2 .nextStart 10 s b] none) rfl rfl,
    runFor_step rfl (lit2_yes 24 (by decide) rfl hs h),
    runFor_step (m' := q2 text lim s _ false 29 (s + 1) (s + 1) [fr2 .lookNot 26 (s + 1) b, fr2 .nextBranch 23 s b, fr2 .nextStart 10 s b] none) rfl rfl,
    runFor_step rfl (lit2_no 29 (by decide) rfl h'),
    runFor_step (m' := q2 text lim s _ b 32 (s + 1) (s + 1) [fr2 .nextBranch 23 s b, fr2 .nextStart 10 s b] none) rfl rfl,
    runFor_step (m' := q2 text lim s _ b 35 (s + 1) (s + 1) [fr2 .nextBranch 23 s b, fr2 .nextStart 10 s b] none) rfl rfl]
  exact end2
theorem search2_eq (text : Array Nat) (lim pos : Nat) (h : pos < lim) : ∃ m : Sre.M, Sre.forSearch code2 text 0 pos lim false = (match Sre.M.admitted m (lim + 1 - pos) pos m.seen with
    | .ok (some s, seen) => st2 text lim s true seen
    | .ok (none, seen) => { m with seen }.say false
    | .error why => m.stick why) ∧ m.code = code2 ∧ m.lim = lim ∧ m.text = text ∧ m.outcome = none ∧ m.frames = [] := by
  have h1 : ¬ lim < pos := by omega
  have h2 : ¬ lim - pos = 0 := by omega
  refine ⟨{ m0 code2 text pos lim with lastStart := lim }, ?_, rfl, rfl, rfl, rfl, rfl⟩
  rw [forSearch_eq]
  have hh : Sre.header code2 = (1, 10) := rfl
  rw [if_neg (by rw [hh]; simp; omega)]
  have hf : ∀ m : Sre.M, m.code = code2 → m.hasFirstSet = true := by
    intro m e
    simp [Sre.M.hasFirstSet, e, code2, Sre.ops]
  unfold Sre.M.attemptFrom
  rw [hf _ rfl]
  simp only [Bool.not_true, Bool.false_eq_true, if_false]
  rw [hh]
  simp only [Nat.lt_irrefl, decide_false, Bool.false_and, Bool.false_eq_true, if_false, gt_iff_lt]
  have key : ∀ x : Except String (Option Nat × Sre.Seen), (match x with
      | .ok (some s, seen) => ({ ({ m0 code2 text pos lim with lastStart := lim } : Sre.M) with mustAdvance := false, seen } : Sre.M).attemptAt s true
      | .ok (none, seen) => ({ ({ m0 code2 text pos lim with lastStart := lim } : Sre.M) with seen } : Sre.M).say false
      | .error why => ({ m0 code2 text pos lim with lastStart := lim } : Sre.M).stick why) = (match x with
      | .ok (some s, seen) => st2 text lim s true seen
      | .ok (none, seen) => ({ ({ m0 code2 text pos lim with lastStart := lim } : Sre.M) with seen } : Sre.M).say false
      | .error why => ({ m0 code2 text pos lim with lastStart := lim } : Sre.M).stick why) := by
    intro x
    rcases x with why | ⟨a | t, seen⟩
    · rfl
    · rfl
    · simp [m0, Sre.M.attemptAt, Sre.M.attempt, st2, hh]
  exact key _
theorem search2_late (text : Array Nat) (lim pos : Nat) (h : lim ≤ pos) : (Sre.M.runFor 1 (Sre.forSearch code2 text 0 pos lim false)).outcome = some .failed := by
  have h2 : lim < pos ∨ lim - pos = 0 := by omega
  rw [forSearch_eq]
  simp [m0, Sre.header, code2, Sre.ops, h2, Sre.M.say, Sre.M.runFor, Sre.M.step]

structure Finds (code text : Array Nat) (ml : Nat → Option Nat) : Prop where
  hit : ∀ pos t e, pos ≤ t → t < text.size → ml t = some e → (∀ u, pos ≤ u → u < t → ml u = none) → ∃ j, j < 2 ^ 60 ∧ Won (Sre.M.runFor j (Sre.forSearch code text 0 pos text.size false)) t e
  miss : ∀ pos, (∀ u, pos ≤ u → u < text.size → ml u = none) → ∃ j, j < 2 ^ 60 ∧ (Sre.M.runFor j (Sre.forSearch code text 0 pos text.size false)).outcome = some .failed

def ml1 (text : Array Nat) (s : Nat) : Option Nat := if Hit1 text s then some (s + 1) else none
def ml2 (text : Array Nat) (s : Nat) : Option Nat :=
  if text[s]?.getD 0 = 10 then some (s + 1) else if text[s]?.getD 0 = 13 then (if s + 1 < text.size ∧ text[s + 1]?.getD 0 = 10 then some (s + 2) else some (s + 1)) else none
theorem ml1_none {text : Array Nat} {s : Nat} (h : ml1 text s = none) : ¬ Hit1 text s := by
  unfold ml1 at h; split at h
  · cases h
  · assumption
theorem ml2_none {text : Array Nat} {s : Nat} (h : ml2 text s = none) : ¬ Hit2 text s := by
  unfold ml2 at h
  split at h
  · cases h
  · split at h
    · split at h <;> cases h
    · intro hh; exact hh.elim (by assumption) (by assumption)
theorem finds1 {text : Array Nat} (hsz : text.size ≤ 2 ^ 24) : Finds code1 text (ml1 text) where
  hit := by
    intro pos t e hp ht he hn
    have hh : Hit1 text t ∧ e = t + 1 := by
      unfold ml1 at he; split at he
      · exact ⟨by assumption, (Option.some.inj he).symm⟩
      · cases he
    obtain ⟨j, hj, h⟩ := found1 text text.size t ht hh.1 (t - pos) pos true (({} : Sre.Seen).add 14) (by omega) (fun u h1 h2 => ml1_none (hn u h1 h2))
    exact ⟨j, by omega, by rw [search1_some _ _ _ (by omega), hh.2]; exact h⟩
  miss := by
    intro pos hn
    by_cases hp : pos < text.size
    · obtain ⟨j, hj, h⟩ := scan1 text text.size (text.size - pos) pos true (({} : Sre.Seen).add 14) (by omega) (fun t h1 h2 => ml1_none (hn t h1 h2))
      exact ⟨j, by omega, by rw [search1_some _ _ _ (by omega)]; exact h⟩
    · exact ⟨1, by omega, search1_none _ _ _ (by omega)⟩
theorem finds2 {text : Array Nat} : Finds code2 text (ml2 text) where
  hit := by
    intro pos t e hp ht he hn
    obtain ⟨m, em, e1, e2, e3, _, _⟩ := search2_eq text text.size pos (by omega)
    have hh : Hit2 text t := by
      unfold ml2 at he; unfold Hit2
      split at he
      · exact .inl (by assumption)
      · split at he
        · exact .inr (by assumption)
        · cases he
    obtain ⟨seen', ea⟩ := admitted2_some (m := m) e1 (t := t) (by rw [e2]; exact ht) (by rw [e3]; exact hh) (t - pos) pos (text.size + 1 - pos) m.seen (by omega) (by omega) (fun u h1 h2 => by rw [e3]; exact ml2_none (hn u h1 h2))
    rw [em, ea]
    dsimp only
    unfold ml2 at he
    split at he
    · obtain rfl := Option.some.inj he
      exact ⟨9, by omega, hit2_lf text text.size t true seen' ht (by assumption)⟩
    · split at he
      · split at he
        · obtain rfl := Option.some.inj he
          rename_i _ h13 h10
          exact ⟨8, by omega, hit2_crlf text text.size t true seen' h10.1 h13 h10.2⟩
        · obtain rfl := Option.some.inj he
          rename_i _ h13 h10
          exact ⟨15, by omega, hit2_cr text text.size t true seen' ht h13 (by by_cases hq : text.size ≤ t + 1; exact .inl hq; exact .inr fun hx => h10 ⟨by omega, hx⟩)⟩
      · cases he
  miss := by
    intro pos hn
    by_cases hp : pos < text.size
    · obtain ⟨m, em, e1, e2, e3, e4, e5⟩ := search2_eq text text.size pos (by omega)
      obtain ⟨seen', ea⟩ := admitted2_none (m := m) e1 (text.size - pos) pos (text.size + 1 - pos) m.seen (by rw [e2]; omega) (by omega) (fun u h1 h2 => by rw [e3]; exact ml2_none (hn u h1 (by rw [e2] at h2; exact h2)))
      rw [em, ea]
      refine ⟨1, by omega, ?_⟩
      simp [Sre.M.say, Sre.M.runFor, Sre.M.step, e4, e5]
    · exact ⟨1, by omega, search2_late _ _ _ (by omega)⟩
end Mine
end
section
open PySem PySem.W PySem.Spec PySem.Calls PyProof.Rows
open PySem.Builtin PySem.Builtin.Re
set_option maxRecDepth 100000
namespace Mine
/-- a compiled pattern without groups, for texts -/
structure Pat (h : Heap) (pa : Addr) (code : Array Nat) : Prop where
  fields : ∃ (o : Obj) (p0 p1 g ig : Value) (t2 t6 : Tok) (ta : Addr) (ot : Obj) (items : Array Value) (n : Nat), h.get? pa = some o ∧ o.data = .fields #[p0, p1, .int 0 t2, g, ig, .ref ta, .int 0 t6] ∧
    h.get? ta = some ot ∧ ot.data = .seq items n ∧ (items.map reRawOf).map (·.toNat) = code
section
variable {M : Model} {A : Around} {E : Value → Shared → Prop} {s : Shared}
theorem wp_wholeTarget {pa : Addr} {code : Array Nat} {x : Str} {t : Tok} {Q : ReTarget → Shared → Prop} (P : Pat s.heap pa code)
    (h : Q { pattern := .ref pa, string := .str x t, code, text := x.cps, kind := 0, groups := 0, pos := 0, lim := x.cps.size } s) : wpAny M A (reWholeTarget (.ref pa) (.str x t)) Q E s := by
  obtain ⟨o, p0, p1, g, ig, t2, t6, ta, ot, items, n, ho, hd, hot, hdt, hc⟩ := P.fields
  unfold reWholeTarget
  refine wpAny_bind (wpAny_fieldsOf ho hd ?_)
  refine wpAny_bind (m := reTextOf (.str x t)) ?_
  unfold reTextOf
  refine wpAny_bind (m := asStr? (.str x t)) (wpAny_pure ?_)
  refine wpAny_pure ?_
  dsimp only
  rw [if_neg (by simp), if_neg (by simp [reRawNat])]
  unfold reNoCollectionInside
  rw [if_neg (by simp)]
  refine wpAny_bind (wpAny_pure ?_)
  unfold reRawItems
  refine wpAny_bind (m := (do return ((← seqItems? (.ref ta)).getD #[]).map reRawOf)) ?_
  refine wpAny_bind (wpAny_seqItems hot hdt ?_)
  refine wpAny_pure (wpAny_pure ?_)
  simp only [Option.getD_some]
  rw [hc]
  exact h

/-- the text that comes of the places from s on -/
structure SubOf (text : Array Nat) (ml : Nat → Option Nat) (repl : Str) (F : Nat → List Nat) : Prop where
  stop : F text.size = []
  keep : ∀ s, s < text.size → ml s = none → F s = text[s]?.getD 0 :: F (s + 1)
  put : ∀ s e, s < text.size → ml s = some e → s < e ∧ e ≤ text.size ∧ F s = repl.cps.toList ++ F e
theorem SubOf.skip {text : Array Nat} {ml : Nat → Option Nat} {repl : Str} {F : Nat → List Nat} (S : SubOf text ml repl F) : ∀ (k d t : Nat), d + k = t → t ≤ text.size → (∀ u, d ≤ u → u < t → ml u = none) → F d = (text.extract d t).toList ++ F t := by
  intro k
  induction k with
  | zero => intro d t hd ht _; obtain rfl : d = t := (by omega); simp
  | succ k ih =>
    intro d t hd ht hn
    rw [S.keep d (by omega) (hn d (Nat.le_refl _) (by omega)), ih (d + 1) t (by omega) ht (fun u h1 h2 => hn u (by omega) h2)]
    have e : (text.extract d t).toList = text[d]?.getD 0 :: (text.extract (d + 1) t).toList := by
      have hlt : d < text.size := by omega
      rw [Array.toList_extract, Array.toList_extract, List.extract_eq_take_drop, List.extract_eq_take_drop, List.drop_eq_getElem_cons (by simpa using hlt), show t - d = (t - (d + 1)) + 1 by omega, List.take_succ_cons]
      simp [Array.getElem?_eq_getElem hlt]
    rw [e]; rfl
theorem first_hit (ml : Nat → Option Nat) (size : Nat) : ∀ (k d : Nat), d + k = size → (∀ u, d ≤ u → u < size → ml u = none) ∨ ∃ t e, d ≤ t ∧ t < size ∧ ml t = some e ∧ ∀ u, d ≤ u → u < t → ml u = none := by
  intro k
  induction k with
  | zero => intro d hd; exact .inl fun u h1 h2 => by omega
  | succ k ih =>
    intro d hd
    cases h : ml d with
    | some e => exact .inr ⟨d, e, Nat.le_refl _, by omega, h, fun u h1 h2 => by omega⟩
    | none =>
      rcases ih (d + 1) (by omega) with hn | ⟨t, e, h1, h2, h3, h4⟩
      · exact .inl fun u h1 h2 => by
          by_cases hu : u = d
          · rw [hu]; exact h
          · exact hn u (by omega) h2
      · exact .inr ⟨t, e, by omega, h2, h3, fun u h5 h6 => by
          by_cases hu : u = d
          · rw [hu]; exact h
          · exact h4 u (by omega) h6⟩
end
theorem glued_nil_toList (l : List Str) : (PySem.Builtin.Str.glued ⟨#[]⟩ l).cps.toList = l.flatMap (·.cps.toList) := by
  have key : ∀ (r : List Str) (acc : Array Nat), (r.foldl (fun acc p => acc ++ (#[] : Array Nat) ++ p.cps) acc).toList = acc.toList ++ r.flatMap (·.cps.toList) := by
    intro r
    induction r with
    | nil => intro acc; simp
    | cons a r ih => intro acc; rw [List.foldl_cons, ih]; simp
  cases l with
  | nil => rfl
  | cons a r =>
    show (r.foldl (fun acc p => acc ++ (#[] : Array Nat) ++ p.cps) a.cps).toList = _
    rw [key]; rfl
theorem foldl_len (l : List Str) : ∀ n : Nat, l.toArray.foldl (· + ·.length + (⟨#[]⟩ : Str).length) n = n + (l.flatMap (·.cps.toList)).length := by
  intro n
  rw [List.foldl_toArray]
  induction l generalizing n with
  | nil => simp
  | cons a r ih => rw [List.foldl_cons, ih]; simp [PySem.Str.length]; omega
section
variable {prog : Program} {w : World} {A : Around} {s : Shared} {R : Result → Shared → Prop} {h0 : Heap} {pa D : Addr} {code : Array Nat} {x r : Str} {tx tr : Tok} {ml : Nat → Option Nat} {F : Nat → List Nat}
theorem Pat.keep {h h' : Heap} (P : Pat h pa code) (K : ∀ b o, h.get? b = some o → h'.get? b = some o) : Pat h' pa code := by
  obtain ⟨o, p0, p1, g, ig, t2, t6, ta, ot, items, n, ho, hd, hot, hdt, hc⟩ := P.fields
  exact ⟨o, p0, p1, g, ig, t2, t6, ta, ot, items, n, K _ _ ho, hd, K _ _ hot, hdt, hc⟩
theorem wp_literal {M : Model} {A : Around} {E : Value → Shared → Prop} {s : Shared} {Q : Unit → Shared → Prop} (h : Q () s) : wpAny M A (reLiteralCannotBeTurned (.str r tr)) Q E s := by
  unfold reLiteralCannotBeTurned
  refine wpAny_bind (m := asStr? (.str r tr)) (wpAny_pure ?_)
  exact wpAny_pure h
theorem wp_slice {M : Model} {A : Around} {E : Value → Shared → Prop} {s : Shared} {text : Array Nat} {b e : Nat} {Q : Value → Shared → Prop} (hsz : text.size ≤ 2 ^ 20) (h : Q (.str ⟨text.extract b e⟩ s.toks) { s with toks := s.toks + 1 }) : wpAny M A (reSlice text 0 b e) Q E s := by
  unfold reSlice
  rw [if_pos (show ((0 : Nat) == 0) = true from rfl)]
  refine wpAny_mkStr h ?_
  show (text.extract b e).size ≤ sizeLine
  rw [sizeLine_eq, Array.size_extract]
  omega
theorem strValues_push (l : List (Str × Tok)) (y : Str) (t : Tok) : (strValues l).toArray.push (.str y t) = (strValues (l ++ [(y, t)])).toArray := by
  simp [strValues]
theorem wp_push {M : Model} {A : Around} {E : Value → Shared → Prop} {s : Shared} {l : List (Str × Tok)} {y : Str} {t : Tok} {Q : Unit → Shared → Prop} (hl : ∃ c, s.heap.get? D = some { cls := .type "list", data := .seq (strValues l).toArray c }) (hlen : l.length ≤ 2 ^ 22)
    (h : ∀ h', (∀ b o, b ≠ D → s.heap.get? b = some o → h'.get? b = some o) → (∃ c, h'.get? D = some { cls := .type "list", data := .seq (strValues (l ++ [(y, t)])).toArray c }) → Q () { s with heap := h' }) :
    wpAny M A (updateSeq D (·.push (.str y t))) Q E s := by
  obtain ⟨c, hc⟩ := hl
  refine wpAny_updateSeq hc rfl (h _ (fun b o hb e => (Heap.get?_update_ne _ _ _ _ hb).trans e) ?_) ?_ ?_
  · exact ⟨_, (Heap.get?_update_self _ hc rfl).trans (by rw [← strValues_push]; rfl)⟩
  · show (strValues l).toArray.size ≤ sizeLine
    rw [sizeLine_eq]; simp [strValues]; omega
  · show ((strValues l).toArray.push (.str y t)).size ≤ sizeLine + 1
    rw [sizeLine_eq]; simp [strValues]; omega
theorem subTail {s : Shared} {A : Around} {E : Value → Shared → Prop} {Q : Fin → Shared → Prop} {l : List (Str × Tok)} {res : List Nat} {text : Array Nat} {K : Value → Sem Fin} (hsz : text.size ≤ 2 ^ 20) (hl : ∃ c, s.heap.get? D = some { cls := .type "list", data := .seq (strValues l).toArray c }) (hres : l.flatMap (·.1.cps.toList) = res) (hlen : res.length ≤ 2 ^ 22)
    (h : ∀ t tk, wpAny (model prog w) A (K (.str ⟨res.toArray⟩ t)) Q E { s with toks := tk }) :
    wpAny (model prog w) A (do
        let joiner ← reSlice text 0 0 0
        let it ← seqItems? (.ref D)
        if (it.getD #[]).isEmpty = true then do
          let t ← pure joiner
          K t
        else do
          let t ← call (.builtin (if ((0 : Nat) == 0) = true then "str.join" else "bytes.join")) [joiner, .ref D]
          K t) Q E s := by
  obtain ⟨c, hc⟩ := hl
  refine wpAny_bind (wp_slice hsz ?_)
  refine wpAny_bind (wpAny_seqItems hc rfl ?_)
  have e0 : (⟨text.extract 0 0⟩ : Str) = ⟨#[]⟩ := by congr 1; simp
  rw [e0]
  cases l with
  | nil =>
    rw [if_pos (by simp [strValues])]
    have : res = [] := by rw [← hres]; rfl
    subst this
    exact wpAny_bind (wpAny_pure (h _ _))
  | cons p l =>
    rw [if_neg (by simp [strValues])]
    rw [if_pos (show ((0 : Nat) == 0) = true from rfl)]
    refine wpAny_bind (SC.join (l := p :: l) ⟨_, hc, rfl, _, rfl⟩ rfl ?_ fun t' k => ?_)
    · unfold JoinOk
      rw [foldl_len, Bool.not_eq_true']
      unfold PySem.Builtin.Str.tooLong
      refine decide_eq_false ?_
      rw [sizeLine_eq]
      have : ((List.map (·.1) (p :: l)).flatMap (·.cps.toList)) = res := by rw [← hres, List.flatMap_map]
      rw [this]
      omega
    · have e : Txt.join ⟨#[]⟩ (List.map (·.1) (p :: l)) = ⟨res.toArray⟩ := by
        have e1 := glued_nil_toList (List.map (·.1) (p :: l))
        have e2 : ((List.map (·.1) (p :: l)).flatMap (·.cps.toList)) = res := by rw [← hres, List.flatMap_map]
        rw [e2] at e1
        show PySem.Builtin.Str.glued ⟨#[]⟩ _ = _
        cases hq : PySem.Builtin.Str.glued ⟨#[]⟩ (List.map (·.1) (p :: l)) with
        | mk cps =>
          rw [hq] at e1
          congr 1
          rw [← e1]
      rw [e]
      exact h _ _
theorem subLoop (hplain : plainId "re.Pattern.sub.loop" = true) (hentry : entryFor table "re.Pattern.sub.loop" = some Builtin.«re.Pattern.sub.loop»)
    (P : Pat h0 pa code) (hD : h0.get? D = none) (S : SubOf x.cps ml r F) (G : Finds code x.cps ml) (hx : x.cps.size ≤ 2 ^ 20) (hF : (F 0).length ≤ 2 ^ 22) :
    ∀ (k d : Nat) (n : Int) (l : List (Str × Tok)) (s : Shared), x.cps.size - d < k → d ≤ x.cps.size → (∀ b o, h0.get? b = some o → s.heap.get? b = some o) →
      (∃ c, s.heap.get? D = some { cls := .type "list", data := .seq (strValues l).toArray c }) → l.length ≤ 2 * d → l.flatMap (·.1.cps.toList) ++ F d = F 0 →
      (∀ t h' tk, (∀ b o, b ≠ D → s.heap.get? b = some o → h'.get? b = some o) → R (.ok (.ret (.str ⟨(F 0).toArray⟩ t))) { s with heap := h', toks := tk }) →
      codeAny (model prog w) A (.builtin "re.Pattern.sub.loop" ⟨[.ref pa, .str x tx, .str r tr, rawInt 0, rawInt 0, rawInt n, rawInt d, rawInt d, .bool false, .ref D, .bool false], []⟩) R s := by
  intro k
  induction k with
  | zero => intro d n l s hk; omega
  | succ k ih =>
    intro d n l s hk hd K hl hlen hinv hR
    refine codeAny_builtin hentry ?_
    rw [Around.under_plainId hplain]
    show wpAny _ _ (do
      let t ← reWholeTarget (.ref pa) (.str x tx)
      if (0 : Int) == 0 then reLiteralCannotBeTurned (.str r tr)
      match ← (if (0 : Int) != 0 && n ≥ (0 : Int) then pure none else reNextFound t (d : Int).toNat false) with
      | some m =>
        if (d : Int).toNat < m.start then updateSeq D (·.push (← reSlice t.text t.kind (d : Int).toNat m.start))
        let item ← if (0 : Int) == 0 then pure (.str r tr) else do
            let found ← reNewMatch (.ref pa) (.str x tx) t.groups 0 t.lim m
            holding [found] (if (0 : Int) == 1 then call (.str r tr) [found] else do reExpand (.str r tr) (← reFound found))
        if item != .none then updateSeq D (·.push item)
        again (.builtin "re.Pattern.sub.loop" ⟨[.ref pa, .str x tx, .str r tr, rawInt 0, rawInt 0, rawInt (n + 1), rawInt m.handed, rawInt m.handed, .bool (m.handed == m.start), .ref D, .bool false], []⟩)
      | none =>
        if (d : Int).toNat < t.lim then updateSeq D (·.push (← reSlice t.text t.kind (d : Int).toNat t.lim))
        let joiner ← reSlice t.text t.kind 0 0
        let text ← if ((← seqItems? (.ref D)).getD #[]).isEmpty then pure joiner
          else call (.builtin (if t.kind == 0 then "str.join" else "bytes.join")) [joiner, .ref D]
        if false then ret (← holding [text] do newTuple [text, ← mkInt n]) else ret text) _ _ _
    refine wpAny_bind (wp_wholeTarget (P.keep K) ?_)
    dsimp only
    rw [if_pos (show ((0 : Int) == 0) = true from rfl)]
    refine wpAny_bind (wp_literal ?_)
    rw [if_neg (by simp)]
    unfold reNextFound
    simp only [Int.toNat_natCast]
    rcases first_hit ml x.cps.size (x.cps.size - d) d (by omega) with hn | ⟨t, e, h1, h2, h3, h4⟩
    · obtain ⟨j, hj, ho⟩ := G.miss d hn
      refine wpAny_bind (runToEnd_failed (j := j) rfl ho hj ?_)
      dsimp only
      have hskip := S.skip (x.cps.size - d) d x.cps.size (by omega) (Nat.le_refl _) hn
      rw [S.stop, List.append_nil] at hskip
      by_cases hlt : d < x.cps.size
      · rw [if_pos hlt]
        refine wpAny_bind (wp_slice hx ?_)
        refine wpAny_bind (wp_push hl (by omega) fun h' hk' hl' => ?_)
        refine subTail hx hl' (res := F 0) (by rw [List.flatMap_append, ← hinv, hskip]; simp) hF fun t tk => ?_
        rw [if_neg Bool.false_ne_true]
        exact wpAny_pure (hR t h' tk hk')
      · rw [if_neg hlt]
        obtain rfl : d = x.cps.size := by omega
        rw [S.stop, List.append_nil] at hinv
        refine subTail hx hl (res := F 0) hinv hF fun t tk => ?_
        rw [if_neg Bool.false_ne_true]
        exact wpAny_pure (hR t s.heap tk fun _ _ _ e => e)
    · obtain ⟨j, hj, ho, hst, hha⟩ := G.hit d t e h1 h2 h3 h4
      refine wpAny_bind (runToEnd_matched (j := j) rfl ho hj ?_)
      dsimp only
      rw [hst, hha]
      have hskip := S.skip (t - d) d t (by omega) (by omega) h4
      obtain ⟨p1, p2, p3⟩ := S.put t e h2 h3
      have hte : (e == t) = false := beq_eq_false_iff_ne.mpr (by omega)
      by_cases hlt : d < t
      · rw [if_pos hlt]
        refine wpAny_bind (wp_slice hx ?_)
        refine wpAny_bind (wp_push hl (by omega) fun h' hk' hl' => ?_)
        rw [if_pos (show ((0 : Int) == 0) = true from rfl)]
        refine wpAny_bind (wpAny_pure ?_)
        rw [if_pos (by rfl)]
        refine wpAny_bind (wp_push hl' (by simp; omega) fun h'' hk'' hl'' => ?_)
        rw [hte]
        refine wpAny_pure (And.intro (plainId_quiet hplain _) ?_)
        refine ih e (n + 1) _ _ (by omega) p2 (fun b o eb => ?_) hl'' (by simp; omega) ?_ fun t' h3' tk' hk3 => ?_
        · have hbD : b ≠ D := fun q => by rw [q, hD] at eb; cases eb
          exact hk'' _ _ hbD (hk' _ _ hbD (K _ _ eb))
        · rw [← hinv, hskip, p3]; simp
        · exact hR t' h3' tk' fun b o hb eb => hk3 _ _ hb (hk'' _ _ hb (hk' _ _ hb eb))
      · rw [if_neg hlt]
        obtain rfl : d = t := by omega
        rw [if_pos (show ((0 : Int) == 0) = true from rfl)]
        refine wpAny_bind (wpAny_pure ?_)
        rw [if_pos (by rfl)]
        refine wpAny_bind (wp_push hl (by omega) fun h'' hk'' hl'' => ?_)
        rw [hte]
        refine wpAny_pure (And.intro (plainId_quiet hplain _) ?_)
        refine ih e (n + 1) _ _ (by omega) p2 (fun b o eb => ?_) hl'' (by simp; omega) ?_ fun t' h3' tk' hk3 => ?_
        · have hbD : b ≠ D := fun q => by rw [q, hD] at eb; cases eb
          exact hk'' _ _ hbD (K _ _ eb)
        · rw [← hinv, p3]; simp
        · exact hR t' h3' tk' fun b o hb eb => hk3 _ _ hb (hk'' _ _ hb eb)
end
end Mine
end
section
open PySem PySem.W PySem.Spec PySem.Calls PyProof.Rows
open PySem.Builtin PySem.Builtin.Re
set_option maxRecDepth 100000
namespace Mine
theorem plainAttrs_pat : PlainAttrs "re.Pattern" :=
  ⟨⟨"object.__getattribute__", by rw [typeLookup_type, builtinLookup_eq_fast]; kernel_rfl, by decide +kernel⟩, by rw [typeLookup_type, builtinLookup_eq_fast]; kernel_rfl⟩
theorem slot_sub : Slot "re.Pattern" "sub" "re.Pattern.sub" :=
  .of (owner := "re.Pattern") (n := "sub") (by rw [typeLookup_type, builtinLookup_eq_fast]; kernel_rfl) (by decide +kernel) (by decide +kernel) (by decide +kernel)
    (by first | exact .inl (by decide +kernel) | exact .inr (by decide +kernel)) (by rw [isSubtype_type]; kernel_rfl)
theorem type_sub : typeOf (.builtin "re.Pattern.sub") = pure (.type "method_descriptor") := by show builtinType _ = _; rw [builtinType_eq_fast]; kernel_rfl
theorem entry_sub : entryFor table "re.Pattern.sub" = some Builtin.«re.Pattern.sub» := entryFor_of_tree (by kernel_rfl)
theorem entry_subLoop : entryFor table "re.Pattern.sub.loop" = some Builtin.«re.Pattern.sub.loop» := entryFor_of_tree (by kernel_rfl)
theorem args_sub (a b c : Value) : argsOk "re.Pattern.sub" ⟨[a, b, c], []⟩ := by
  unfold argsOk; kernel_rfl
theorem str_no_call : typeLookup (.type "str") "__call__" = pure none := by rw [typeLookup_type, builtinLookup_eq_fast]; kernel_rfl
theorem named_sub (a b : Value) : reNamed "re.Pattern.sub" "sub" ["repl", "string", "count"] 2 [a, b] [] = pure [some a, some b, none] := by rfl
section
variable {prog : Program} {w : World} {A : Around} {s : Shared} {Q E : Value → Shared → Prop} {pa : Addr} {code : Array Nat} {x r : Str} {tx tr : Tok} {ml : Nat → Option Nat} {F : Nat → List Nat}
theorem sub_call (hT : s.TypeIs (.ref pa) "re.Pattern") (P : Pat s.heap pa code) (S : SubOf x.cps ml r F) (G : Finds code x.cps ml) (hx : x.cps.size ≤ 2 ^ 20) (hF : (F 0).length ≤ 2 ^ 22) (hr : r.cps.contains 92 = false)
    (h : ∀ t h' tk, s.heap.StaysIn h' → Q (.str ⟨(F 0).toArray⟩ t) { s with heap := h', toks := tk }) :
    wpAny (model prog w) A (call (.builtin "re.Pattern.sub") [.ref pa, .str r tr, .str x tx]) Q E s := by
  refine wpAny_call (codeAny_call_builtin slot_sub.plain entry_sub (slot_sub.check _ _ _ _ _ _ _ _ hT (args_sub _ _ _) ?_))
  show wpAny _ _ (do
    let [some repl, some string, count?] ← reNamed "re.Pattern.sub" "sub" ["repl", "string", "count"] 2 [.str r tr, .str x tx] [] | unsupported "internal:re:named"
    let count ← match count? with | some v => reSsize v | none => pure 0
    let called := (← specialOf repl "__call__").isSome
    let literal ← if called then pure false else match ← asStr? repl with
      | some s => pure !s.cps.contains 92
      | none => do match ← Bytes.bufferQuiet? "re.Pattern.sub" repl with
        | some b => pure !b.contains 92
        | none => pure false
    let (repl, way) ← if called then pure (repl, 1) else if literal then pure (repl, 0) else do
      let t ← reCompileTemplate (.ref pa) repl
      if ← reOnlyLiteral t then pure (← field t 0, 0) else pure (t, 2)
    let _ ← holding [repl] (reWholeTarget (.ref pa) string)
    if way == 1 then reNotHeld "re.Pattern.sub" string
    again (.builtin "re.Pattern.sub.loop" ⟨[.ref pa, string, repl, rawInt way, rawInt count, rawInt 0, rawInt 0, rawInt 0, .bool false, ← newList [], .bool false], []⟩)) _ _ _
  rw [named_sub]
  refine wpAny_bind (wpAny_pure ?_)
  dsimp only
  refine wpAny_bind (wpAny_pure ?_)
  refine wpAny_bind (wpAny_specialOf (typeIs_str _ _ _) str_no_call ?_)
  simp only [Option.isSome_none, Bool.false_eq_true, if_false]
  refine wpAny_bind (m := asStr? (.str r tr)) (wpAny_pure ?_)
  dsimp only
  rw [hr]
  refine wpAny_bind (wpAny_pure ?_)
  rw [if_pos (by rfl)]
  refine wpAny_bind (wpAny_pure ?_)
  dsimp only
  refine wpAny_bind (wpAny_holding (wp_wholeTarget P ?_))
  rw [if_neg (by simp)]
  refine wpAny_bind (wpAny_newList ?_ (by simp))
  refine wpAny_pure (And.intro (plainId_quiet (by decide +kernel) _) ?_)
  refine subLoop (h0 := s.heap) (D := s.heap.objs.size) (code := code) (F := F) (ml := ml) (by decide +kernel) entry_subLoop P ?_ S G hx hF (x.cps.size + 1) 0 0 [] _ (by omega) (Nat.zero_le _) ?_ ?_ (by simp) (by simp) ?_
  · exact Heap.get?_none_of_le (Nat.le_refl _)
  · exact fun b o e => Heap.get?_push_of_some _ e
  · exact ⟨_, Heap.get?_push_size _ rfl⟩
  · intro t h' tk hk
    exact h t h' tk fun b o e => hk _ _ (Nat.ne_of_lt (Heap.lt_size e)) (Heap.get?_push_of_some _ e)
theorem getMethod_sub {M : Model} {pl : Sem Bool} {Q : Value × List Value → Shared → Prop} {o : Obj} (ho : s.heap.get? pa = some o) (hc : o.cls = .type "re.Pattern") (hd : o.dict = none)
    (h : Q (.builtin "re.Pattern.sub", [.ref pa]) s) : wpAny M A (getMethod (.ref pa) "sub" pl) Q E s :=
  getMethod_builtin ⟨o, ho, hc⟩ plainAttrs_pat slot_sub type_sub (fun a e => by cases e; exact ⟨o, ho, hd⟩) h
end
end Mine
end
section
open PySem PySem.W PySem.Spec PySem.Calls PyProof.Rows
open PySem.Builtin PySem.Builtin.Str PySem.Builtin.Re
set_option maxRecDepth 100000
namespace Mine
def normL : List Nat → List Nat
  | [] => []
  | 10 :: r => 13 :: 10 :: normL r
  | 13 :: 10 :: r => 13 :: 10 :: normL r
  | 13 :: r => 13 :: 10 :: normL r
  | c :: r => c :: normL r
def stuffL : Bool → List Nat → List Nat
  | _, [] => []
  | b, c :: r => if b = true ∧ c = 46 then 46 :: 46 :: stuffL false r else c :: stuffL (c == 10) r
def splitL : List Nat → List Nat → List (List Nat)
  | pre, [] => [pre]
  | pre, 13 :: 10 :: r => pre :: splitL [] r
  | pre, c :: r => splitL (pre ++ [c]) r
def joinL (e : List Nat) : List (List Nat) → List Nat
  | [] => []
  | [r] => r
  | r :: q => r ++ e ++ joinL e q
def stuffRow : List Nat → List Nat
  | 46 :: r => 46 :: 46 :: r
  | r => r
def Clean (r : List Nat) : Prop := ∀ c ∈ r, c ≠ 10 ∧ c ≠ 13
theorem normL_other {c : Nat} (r : List Nat) (h1 : c ≠ 10) (h2 : c ≠ 13) : normL (c :: r) = c :: normL r := by
  rw [normL]
  · exact h1
  · intro r' e; exact absurd e h2
  · exact h2
theorem normL_cr {r : List Nat} (h : ∀ q, r ≠ 10 :: q) : normL (13 :: r) = 13 :: 10 :: normL r := by
  rw [normL]
  intro q e; exact h q e
theorem normL_clean : ∀ (r q : List Nat), Clean r → normL (r ++ q) = r ++ normL q
  | [], _, _ => rfl
  | c :: r, q, h => by
    have hc := h c (.head _)
    rw [List.cons_append, normL_other _ hc.1 hc.2, normL_clean r q (fun d hd => h d (.tail _ hd))]; rfl
theorem joinL_head {e : List Nat} : ∀ {q : List (List Nat)}, (∀ r ∈ q, Clean r) → (e = [10] ∨ e = [13] ∨ e = [13, 10]) → e = [13] → ∀ w, joinL e q ≠ 10 :: w
  | [], _, _, _, w => by rintro ⟨⟩
  | [r], h, _, _, w => by
    intro e1
    cases r with
    | nil => cases e1
    | cons c r => cases e1; exact (h _ (.head _) 10 (.head _)).1 rfl
  | r :: r' :: q, h, _, e2, w => by
    intro e1
    subst e2
    cases r with
    | nil => cases e1
    | cons c r => cases e1; exact (h _ (.head _) 10 (.head _)).1 rfl
theorem normL_join {e : List Nat} (he : e = [10] ∨ e = [13] ∨ e = [13, 10]) : ∀ (q : List (List Nat)), (∀ r ∈ q, Clean r) → normL (joinL e q) = joinL [13, 10] q
  | [], _ => rfl
  | [r], h => by
    have := normL_clean r [] (h r (.head _))
    rw [List.append_nil] at this
    show normL r = r
    rw [this]; simp [normL]
  | r :: r' :: q, h => by
    have ih := normL_join he (r' :: q) (fun x hx => h x (.tail _ hx))
    show normL (r ++ e ++ joinL e (r' :: q)) = r ++ [13, 10] ++ joinL [13, 10] (r' :: q)
    rw [List.append_assoc, normL_clean r _ (h r (.head _)), List.append_assoc]
    congr 1
    rw [← ih]
    rcases he with rfl | rfl | rfl
    · rfl
    · exact normL_cr (joinL_head (fun x hx => h x (.tail _ hx)) (.inr (.inl rfl)) rfl)
    · rfl
theorem stuffL_false : ∀ (r q : List Nat), Clean r → stuffL false (r ++ q) = r ++ stuffL false q
  | [], _, _ => rfl
  | c :: r, q, h => by
    have hc := h c (.head _)
    rw [List.cons_append, stuffL, if_neg (by simp), show (c == 10) = false from beq_eq_false_iff_ne.mpr hc.1, stuffL_false r q (fun d hd => h d (.tail _ hd))]; rfl
theorem stuffL_row (r q : List Nat) (h : Clean r) : stuffL true (r ++ 13 :: q) = stuffRow r ++ stuffL false (13 :: q) := by
  cases r with
  | nil => rfl
  | cons c r =>
    have hr : Clean r := fun d hd => h d (.tail _ hd)
    have hc := h c (.head _)
    rw [List.cons_append, stuffL]
    by_cases h46 : c = 46
    · subst h46
      rw [if_pos ⟨rfl, rfl⟩, stuffL_false r _ hr]; rfl
    · rw [if_neg (fun x => h46 x.2), show (c == 10) = false from beq_eq_false_iff_ne.mpr hc.1, stuffL_false r _ hr, stuffRow]
      · rfl
      · intro q e; exact h46 (List.cons.inj e).1
theorem stuffL_last (r : List Nat) (h : Clean r) : stuffL true r = stuffRow r := by
  cases r with
  | nil => rfl
  | cons c r =>
    have hr : Clean r := fun d hd => h d (.tail _ hd)
    have hc := h c (.head _)
    have e0 := stuffL_false r [] hr
    rw [List.append_nil] at e0
    rw [stuffL]
    by_cases h46 : c = 46
    · subst h46
      rw [if_pos ⟨rfl, rfl⟩, e0]; simp [stuffRow, stuffL]
    · rw [if_neg (fun x => h46 x.2), show (c == 10) = false from beq_eq_false_iff_ne.mpr hc.1, e0, stuffRow]
      · simp [stuffL]
      · intro q e; exact h46 (List.cons.inj e).1
theorem stuffL_join : ∀ (q : List (List Nat)), (∀ r ∈ q, Clean r) → stuffL true (joinL [13, 10] q) = joinL [13, 10] (q.map stuffRow)
  | [], _ => rfl
  | [r], h => stuffL_last r (h r (.head _))
  | r :: r' :: q, h => by
    have ih := stuffL_join (r' :: q) (fun x hx => h x (.tail _ hx))
    show stuffL true (r ++ [13, 10] ++ joinL [13, 10] (r' :: q)) = stuffRow r ++ [13, 10] ++ joinL [13, 10] (stuffRow r' :: q.map stuffRow)
    rw [List.append_assoc]
    show stuffL true (r ++ 13 :: (10 :: joinL [13, 10] (r' :: q))) = _
    rw [stuffL_row r _ (h r (.head _)), List.append_assoc]
    congr 1
    rw [stuffL, if_neg (by simp), stuffL, if_neg (by simp)]
    show 13 :: 10 :: stuffL true (joinL [13, 10] (r' :: q)) = _
    rw [ih]; rfl
theorem clean_stuff {r : List Nat} (h : Clean r) : Clean (stuffRow r) := by
  unfold stuffRow
  split
  · intro c hc
    rcases List.mem_cons.mp hc with rfl | hc
    · exact ⟨by decide, by decide⟩
    · exact h c hc
  · exact h
theorem splitL_other {c : Nat} (pre r : List Nat) (h : c ≠ 13) : splitL pre (c :: r) = splitL (pre ++ [c]) r := by
  rw [splitL]
  intro q e; exact absurd e h
theorem splitL_clean : ∀ (r pre q : List Nat), Clean r → splitL pre (r ++ q) = splitL (pre ++ r) q
  | [], pre, q, _ => by rw [List.append_nil]; rfl
  | c :: r, pre, q, h => by
    rw [List.cons_append, splitL_other _ _ (h c (.head _)).2, splitL_clean r _ q (fun d hd => h d (.tail _ hd)), List.append_assoc]; rfl
theorem splitL_join : ∀ (q : List (List Nat)), q ≠ [] → (∀ r ∈ q, Clean r) → splitL [] (joinL [13, 10] q) = q
  | [], h, _ => absurd rfl h
  | [r], _, h => by
    have := splitL_clean r [] [] (h r (.head _))
    rw [List.append_nil] at this
    show splitL [] r = [r]
    rw [this]; rfl
  | r :: r' :: q, _, h => by
    have ih := splitL_join (r' :: q) (by simp) (fun x hx => h x (.tail _ hx))
    show splitL [] (r ++ [13, 10] ++ joinL [13, 10] (r' :: q)) = _
    rw [List.append_assoc, splitL_clean r _ _ (h r (.head _))]
    show (([] : List Nat) ++ r) :: splitL [] (joinL [13, 10] (r' :: q)) = _
    rw [ih]; rfl
/-- what the mail comes back as -/
theorem mailL {e : List Nat} (he : e = [10] ∨ e = [13] ∨ e = [13, 10]) (q : List (List Nat)) (hq : q ≠ []) (h : ∀ r ∈ q, Clean r) : splitL [] (stuffL true (normL (joinL e q))) = q.map stuffRow := by
  rw [normL_join he q h, stuffL_join q h, splitL_join _ (by simpa using hq)]
  intro r hr
  obtain ⟨r', h1, rfl⟩ := List.mem_map.mp hr
  exact clean_stuff (h r' h1)

theorem drop_at {x : Array Nat} {s : Nat} (hs : s < x.size) : x.toList.drop s = x[s]?.getD 0 :: x.toList.drop (s + 1) := by
  rw [List.drop_eq_getElem_cons (by simpa using hs)]
  simp [Array.getElem?_eq_getElem hs]
def crlf : Str := ⟨#[13, 10]⟩
def dots : Str := ⟨#[46, 46]⟩
theorem sub2 (x : Array Nat) : SubOf x (ml2 x) crlf (fun s => normL (x.toList.drop s)) where
  stop := by
    show normL (x.toList.drop x.size) = []
    rw [List.drop_eq_nil_of_le (by simp)]; rfl
  keep := by
    intro s hs hm
    have hh := ml2_none hm
    show normL (x.toList.drop s) = _
    rw [drop_at hs, normL_other _ (fun e => hh (.inl e)) (fun e => hh (.inr e))]
  put := by
    intro s e hs he
    show s < e ∧ e ≤ x.size ∧ normL (x.toList.drop s) = 13 :: 10 :: normL (x.toList.drop e)
    rw [drop_at hs]
    unfold ml2 at he
    split at he
    · rename_i h10
      cases he
      refine ⟨by omega, by omega, ?_⟩
      rw [h10]; rfl
    · split at he
      · rename_i h13
        split at he
        · rename_i h2
          cases he
          refine ⟨by omega, by omega, ?_⟩
          rw [h13, drop_at h2.1, h2.2]; rfl
        · rename_i h2
          cases he
          refine ⟨by omega, by omega, ?_⟩
          rw [h13]
          refine normL_cr fun q e => ?_
          by_cases hlt : s + 1 < x.size
          · rw [drop_at hlt] at e
            exact h2 ⟨hlt, (List.cons.inj e).1⟩
          · rw [List.drop_eq_nil_of_le (by simp; omega)] at e
            cases e
      · cases he
theorem sub1 (x : Array Nat) : SubOf x (ml1 x) dots (fun s => stuffL (decide (Bol x s)) (x.toList.drop s)) where
  stop := by
    show stuffL (decide (Bol x x.size)) (x.toList.drop x.size) = []
    rw [List.drop_eq_nil_of_le (by simp)]; rfl
  keep := by
    intro s hs hm
    have hh := ml1_none hm
    show stuffL (decide (Bol x s)) (x.toList.drop s) = x[s]?.getD 0 :: stuffL (decide (Bol x (s + 1))) (x.toList.drop (s + 1))
    rw [drop_at hs, stuffL, if_neg (fun h => hh ⟨of_decide_eq_true h.1, h.2⟩)]
    congr 2
    unfold Bol
    exact Bool.eq_iff_iff.mpr (by simp)
  put := by
    intro s e hs he
    show s < e ∧ e ≤ x.size ∧ stuffL (decide (Bol x s)) (x.toList.drop s) = 46 :: 46 :: stuffL (decide (Bol x e)) (x.toList.drop e)
    unfold ml1 at he
    split at he
    · rename_i hh
      cases he
      refine ⟨by omega, by omega, ?_⟩
      rw [drop_at hs, stuffL, if_pos ⟨decide_eq_true hh.1, hh.2⟩]
      congr 3
      unfold Bol
      simp [hh.2]
    · cases he

def cutsL : List Nat → Nat → List Nat
  | [], _ => []
  | 13 :: 10 :: r, i => i :: cutsL r (i + 2)
  | _ :: r, i => cutsL r (i + 1)
theorem crlf_at {x : Str} {i : Nat} {r : List Nat} (h : x.cps.toList.drop i = 13 :: 10 :: r) : i + crlf.length ≤ x.length ∧ subAt x crlf i = true := by
  constructor
  · have := congrArg List.length h
    simp [PySem.Str.length, crlf] at this ⊢
    omega
  · rw [StrLaws.subAt_eq, h]; rfl
theorem crlf_not {x : Str} {i : Nat} (h : ∀ r, x.cps.toList.drop i ≠ 13 :: 10 :: r) : subAt x crlf i = false := by
  rw [StrLaws.subAt_eq]
  show (List.take 2 (x.cps.toList.drop i) == [13, 10]) = false
  generalize hd : x.cps.toList.drop i = d at h
  match d with
  | [] => rfl
  | [a] => by_cases ha : a = 13 <;> simp
  | a :: b :: r =>
    simp only [List.take_succ_cons, List.take_zero]
    refine beq_eq_false_iff_ne.mpr fun e => ?_
    obtain ⟨rfl, e2⟩ := List.cons.inj e
    obtain ⟨rfl, _⟩ := List.cons.inj e2
    exact h r rfl
theorem occ_run (x : Str) : ∀ (n i : Nat) (acc : Array Nat) (free : Nat), i + n = x.length + 1 → free ≤ i → acc.size + n ≤ x.length + 1 →
    (forIn (List.range' i n) (acc, free) (StrLaws.occBody x crlf x.length (x.length + 1))).run.fst.toList = acc.toList ++ cutsL (x.cps.toList.drop i) i := by
  intro n
  induction n using Nat.strongRecOn with
  | _ n ih =>
    intro i acc free hi hf ha
    cases n with
    | zero =>
      rw [List.drop_eq_nil_of_le (by simp [PySem.Str.length] at hi ⊢; omega)]
      simp [cutsL]
    | succ n =>
      rw [List.range'_succ, List.forIn_cons]
      unfold StrLaws.occBody
      by_cases hc : ∃ r, x.cps.toList.drop i = 13 :: 10 :: r
      · obtain ⟨r, hr⟩ := hc
        obtain ⟨h1, h2⟩ := crlf_at hr
        rw [if_pos ⟨⟨⟨by show acc.size < _; omega, hf⟩, h1⟩, h2⟩]
        have hlen : (x.cps.toList.drop i).length = n := by
          simp [PySem.Str.length] at hi ⊢; omega
        have hn2 : 2 ≤ n := by rw [hr] at hlen; simp at hlen; omega
        obtain ⟨m, rfl⟩ : ∃ m, n = m + 1 := ⟨n - 1, by omega⟩
        show (forIn (List.range' (i + 1) (m + 1)) (acc.push i, i + crlf.length) (StrLaws.occBody x crlf x.length (x.length + 1))).run.fst.toList = _
        rw [List.range'_succ, List.forIn_cons]
        have hb : StrLaws.occBody x crlf x.length (x.length + 1) (i + 1) (acc.push i, i + crlf.length) = pure (ForInStep.yield (acc.push i, i + crlf.length)) := by
          unfold StrLaws.occBody
          rw [if_neg]
          rintro ⟨⟨⟨_, q⟩, _⟩, _⟩
          have : i + 2 ≤ i + 1 := q
          omega
        rw [hb]
        have := ih m (by omega) (i + 1 + 1) (acc.push i) (i + crlf.length) (by omega) (Nat.le_refl _) (by simp; omega)
        refine Eq.trans this ?_
        rw [hr]
        have hd2 : x.cps.toList.drop (i + 1 + 1) = r := by
          have := congrArg (List.drop 2) hr
          rw [List.drop_drop] at this
          exact this
        rw [hd2]
        simp [cutsL]
      · have hn : ∀ r, x.cps.toList.drop i ≠ 13 :: 10 :: r := fun r e => hc ⟨r, e⟩
        rw [if_neg (fun q => by rw [crlf_not hn] at q; exact Bool.false_ne_true q.2)]
        have := ih n (by omega) (i + 1) acc free (by omega) (by omega) (by omega)
        refine Eq.trans this ?_
        congr 1
        by_cases hlt : i < x.cps.size
        · rw [drop_at hlt]
          rw [drop_at hlt] at hn
          rw [cutsL]
          intro r e1 e2
          exact hn r (by rw [e1, e2])
        · rw [List.drop_eq_nil_of_le (by simp; omega), List.drop_eq_nil_of_le (by simp; omega)]
          rfl
theorem parts_run (x : Str) : ∀ (n i a : Nat), i + n = x.length → a ≤ i → (StrLaws.partsFrom x 2 a (cutsL (x.cps.toList.drop i) i)).map (·.cps.toList) = splitL ((x.cps.toList.drop a).take (i - a)) (x.cps.toList.drop i) := by
  intro n
  induction n using Nat.strongRecOn with
  | _ n ih =>
    intro i a hi ha
    have hsz : x.length = x.cps.toList.length := by simp [PySem.Str.length]
    cases n with
    | zero =>
      have e : x.cps.toList.drop i = [] := List.drop_eq_nil_of_le (by omega)
      rw [e]
      show [(strSub x a x.length).cps.toList] = [_]
      rw [StrLaws.strSub_toList, show x.length - a = i - a by omega]
    | succ n =>
      by_cases hc : ∃ r, x.cps.toList.drop i = 13 :: 10 :: r
      · obtain ⟨r, hr⟩ := hc
        have hd2 : x.cps.toList.drop (i + 2) = r := by
          have := congrArg (List.drop 2) hr
          rw [List.drop_drop] at this
          exact this
        have hlen := congrArg List.length hr
        rw [List.length_drop] at hlen
        simp only [List.length_cons] at hlen
        have := ih (n + 1 - 2) (by omega) (i + 2) (i + 2) (by omega) (Nat.le_refl _)
        rw [hr]
        show (strSub x a i).cps.toList :: (StrLaws.partsFrom x 2 (i + 2) (cutsL r (i + 2))).map (·.cps.toList) = _ :: splitL [] r
        rw [hd2] at this
        rw [this, StrLaws.strSub_toList]
        simp
      · have hlt : i < x.cps.size := by simp at hsz; omega
        have hn : ∀ r, x.cps.toList.drop i ≠ 13 :: 10 :: r := fun r e => hc ⟨r, e⟩
        have := ih n (by omega) (i + 1) a (by omega) (by omega)
        have e1 : cutsL (x.cps.toList.drop i) i = cutsL (x.cps.toList.drop (i + 1)) (i + 1) := by
          rw [drop_at hlt]
          rw [drop_at hlt] at hn
          rw [cutsL]
          intro r e1 e2
          exact hn r (by rw [e1, e2])
        have e2 : splitL ((x.cps.toList.drop a).take (i - a)) (x.cps.toList.drop i) = splitL ((x.cps.toList.drop a).take (i + 1 - a)) (x.cps.toList.drop (i + 1)) := by
          have e3 : (x.cps.toList.drop a).take (i + 1 - a) = (x.cps.toList.drop a).take (i - a) ++ [x.cps[i]?.getD 0] := by
            rw [show i + 1 - a = (i - a) + 1 by omega, List.take_add_one]
            congr 1
            rw [List.getElem?_drop, show a + (i - a) = i by omega]
            simp [Array.getElem?_eq_getElem hlt]
          rw [e3]
          rw [drop_at hlt] at hn ⊢
          rw [splitL]
          intro r e1 e2
          exact hn r (by rw [e1, e2])
        rw [e1, e2]; exact this

theorem split_short : ∀ L : List Nat, L.length < 2 → splitL [] L = [L]
  | [], _ => rfl
  | [c], _ => by
    by_cases h : c = 13
    · subst h; rfl
    · rw [splitL_other _ _ h]; rfl
  | _ :: _ :: _, h => absurd h (by simp)
theorem kind_crlf (x : Str) : PySem.Builtin.Str.strKind x < PySem.Builtin.Str.strKind crlf ↔ False := by
  have : PySem.Builtin.Str.strKind crlf = 1 := by decide +kernel
  rw [this]
  unfold PySem.Builtin.Str.strKind
  split
  · simp
  · split <;> simp
theorem split_crlf (x : Str) : (Txt.split x crlf).map (·.cps.toList) = splitL [] x.cps.toList := by
  unfold Txt.split
  by_cases h2 : x.length < crlf.length
  · rw [if_pos (by simp [h2])]
    show [x.cps.toList] = _
    rw [split_short _ (by simpa [PySem.Str.length, crlf] using h2)]
  · rw [if_neg (by simp [h2, kind_crlf])]
    have hp := parts_run x x.length 0 0 (by omega) (Nat.le_refl _)
    have ho : occurrences x crlf 0 x.length (x.length + 1) = cutsL x.cps.toList 0 := by
      rw [StrLaws.occ_eq]
      have := occ_run x (x.length + 1) 0 #[] 0 (by omega) (Nat.le_refl _) (by simp)
      simpa using this
    simp only [List.drop_zero, Nat.sub_zero, List.take_zero] at hp
    rw [ho]
    by_cases he : (cutsL x.cps.toList 0).isEmpty = true
    · rw [if_pos he]
      rw [List.isEmpty_iff.mp he] at hp
      rw [← hp]
      show [x.cps.toList] = [(strSub x 0 x.length).cps.toList]
      rw [StrLaws.sub_whole]
    · rw [if_neg he, StrLaws.partsBetween_eq]
      exact hp
theorem join_toList (e : Str) : ∀ q : List Str, (Txt.join e q).cps.toList = joinL e.cps.toList (q.map (·.cps.toList)) := by
  intro q
  unfold Txt.join
  rw [StrLaws.glued_eq_join]
  induction q with
  | nil => rfl
  | cons r q ih =>
    cases q with
    | nil => rfl
    | cons r' q =>
      show (r ++ e ++ Str.join e (r' :: q)).cps.toList = r.cps.toList ++ e.cps.toList ++ joinL e.cps.toList (r'.cps.toList :: q.map (·.cps.toList))
      rw [PySem.Str.cps_append, PySem.Str.cps_append, Array.toList_append, Array.toList_append, ih]; rfl
def normS (x : Str) : Str := ⟨(normL x.cps.toList).toArray⟩
def quotS (x : Str) : Str := ⟨(stuffL true (normL x.cps.toList)).toArray⟩
def stuffS (x : Str) : Str := ⟨(stuffRow x.cps.toList).toArray⟩
def CleanS (x : Str) : Prop := Clean x.cps.toList
theorem toList_inj_map : ∀ (a b : List Str), a.map (·.cps.toList) = b.map (·.cps.toList) → a = b
  | [], [], _ => rfl
  | [], _ :: _, h => by cases h
  | _ :: _, [], h => by cases h
  | x :: a, y :: b, h => by
    obtain ⟨h1, h2⟩ := List.cons.inj h
    rw [toList_inj_map a b h2, PySem.Str.ext' (Array.toList_inj.mp h1)]
theorem mail_split {e : Str} (he : e.cps.toList = [10] ∨ e.cps.toList = [13] ∨ e.cps.toList = [13, 10]) (q : List Str) (hq : q ≠ []) (h : ∀ r ∈ q, CleanS r) : Txt.split (quotS (Txt.join e q)) crlf = q.map stuffS := by
  apply toList_inj_map
  rw [split_crlf]
  show splitL [] (stuffL true (normL (Txt.join e q).cps.toList)) = _
  rw [join_toList, mailL he _ (by simpa using hq)]
  · simp [stuffS]
  · intro r hr
    obtain ⟨r', h1, rfl⟩ := List.mem_map.mp hr
    exact h r' h1
end Mine
end
section
open PySem PySem.W PySem.Spec PySem.Calls PyProof.Rows
set_option maxRecDepth 100000
namespace Mine
def rowL (i a b : Nat) : List Nat := List.replicate a 46 ++ (97 + i) :: List.replicate b 46
/-- a row of the mail: its letter between its dots -/
def rowT (i a b : Nat) : Str := ⟨(rowL i a b).toArray⟩
def rowsT (ps : List (Nat × Nat)) : List Str := ps.mapIdx fun i p => rowT i p.1 p.2
theorem rowT_len (i a b : Nat) : (rowT i a b).length = a + b + 1 := by
  show (rowL i a b).toArray.size = _
  simp [rowL]; omega
theorem rowsT_len (ps : List (Nat × Nat)) : (rowsT ps).length = ps.length := by simp [rowsT]
theorem rowsT_at {ps : List (Nat × Nat)} {i : Nat} (h : i < ps.length) : (rowsT ps).getD i Str.empty = rowT i (ps.getD i (0, 0)).1 (ps.getD i (0, 0)).2 := by
  simp [rowsT, List.getD, h]
theorem rowsT_set {ps : List (Nat × Nat)} {i : Nat} (p : Nat × Nat) : (rowsT ps).set i (rowT i p.1 p.2) = rowsT (ps.set i p) := by
  apply List.ext_getElem?
  intro j
  simp only [rowsT, List.getElem?_set, List.getElem?_mapIdx, List.length_mapIdx]
  by_cases h : i = j
  · subst h
    by_cases h2 : i < ps.length <;> simp [h2]
  · simp [h]
theorem letter_row {k : Int} (h0 : 0 ≤ k) (h1 : k < 6) : letter k = rowT k.toNat 0 0 := by
  have : k = 0 ∨ k = 1 ∨ k = 2 ∨ k = 3 ∨ k = 4 ∨ k = 5 := by omega
  unfold letter
  rcases this with rfl | rfl | rfl | rfl | rfl | rfl <;> decide +kernel
theorem dotsI_eq {n : Int} (h0 : 0 ≤ n) (h1 : n ≤ 6) : (dotsI n).cps = (List.replicate n.toNat 46).toArray := by
  have : n = 0 ∨ n = 1 ∨ n = 2 ∨ n = 3 ∨ n = 4 ∨ n = 5 ∨ n = 6 := by omega
  unfold dotsI
  rcases this with rfl | rfl | rfl | rfl | rfl | rfl | rfl <;> decide +kernel
theorem str_ext {x y : Str} (h : x.cps.toList = y.cps.toList) : x = y := by
  cases x; cases y; simp at h; exact congrArg _ h
theorem app_toList (x y : Str) : (x ++ y).cps.toList = x.cps.toList ++ y.cps.toList := by
  show (x.cps ++ y.cps).toList = _
  simp
theorem letter_dots_row {k n : Int} (h0 : 0 ≤ k) (h1 : k < 6) (h2 : 0 ≤ n) (h3 : n ≤ 6) : letter k ++ dotsI n = rowT k.toNat 0 n.toNat := by
  apply str_ext
  rw [app_toList, letter_row h0 h1, dotsI_eq h2 h3]
  simp [rowT, rowL]
theorem row_clean {i : Nat} (a b : Nat) : CleanS (rowT i a b) := by
  intro c hc
  simp only [rowT, rowL, List.mem_append, List.mem_cons, List.mem_replicate] at hc
  omega
theorem row_stuff (i a b : Nat) : stuffS (rowT i a b) = rowT i (if a = 0 then 0 else a + 1) b := by
  apply str_ext
  show stuffRow (rowL i a b) = rowL i _ b
  cases a with
  | zero =>
    simp only [rowL, List.replicate_zero, List.nil_append, stuffRow]
    split
    · rename_i h; simp at h; omega
    · rfl
  | succ a => simp [rowL, List.replicate_succ, stuffRow]
theorem row_dot (i a b : Nat) : Str.ofString "." ++ rowT i a b = rowT i (a + 1) b := by
  apply str_ext
  have e : (Str.ofString ".").cps.toList = [46] := by decide +kernel
  rw [app_toList, e]
  simp [rowT, rowL, List.replicate_succ]
theorem fm_take (x : Array Nat) : ∀ n, (List.range n).filterMap (x[·]?) = x.toList.take n
  | 0 => rfl
  | n + 1 => by
    rw [List.range_succ, List.filterMap_append, fm_take x n, List.take_add_one]
    cases h : x[n]? <;> simp [h]
theorem idx_init (n : Nat) : Builtin.Str.strSliceIndices none (some (-1)) 1 (n + 1) = List.range n := by
  unfold Builtin.Str.strSliceIndices sliceRange
  have e : (List.range n) = (List.range n).map (fun k => k) := by simp
  rw [e]
  simp only [show (1 : Int) > 0 from by decide, if_true, show ((-1 : Int) < 0) from by decide]
  have h1 : max 0 (min ((-1 : Int) + ((n + 1 : Nat) : Int)) ((n + 1 : Nat) : Int)) = n := by omega
  rw [h1]
  have h2 : (if (0 : Int) < n then ((n : Int) - 0 + 1 - 1) / 1 else 0).toNat = n := by
    split <;> omega
  rw [h2]
  apply List.map_congr_left
  intro k _
  omega
theorem slice_init {x : Str} {n : Nat} (h : x.length = n + 1) : (Txt.slice x none (some (-1))).cps.toList = x.cps.toList.take n := by
  unfold Txt.slice
  rw [h, idx_init]
  rw [if_neg (by simp)]
  exact fm_take x.cps n
theorem item_last {x : Str} {n c : Nat} (h : x.length = n + 1) (hc : x.cps[n]? = some c) : (Txt.item x (-1)).cps.toList = [c] := by
  have e : Txt.charAt x (-1) = some c := by
    unfold Txt.charAt seqIndex?
    rw [h]
    have e1 : (if (-1 : Int) < 0 then -1 + ((n + 1 : Nat) : Int) else -1) = n := by simp; omega
    simp only [e1]
    have e2 : (decide (0 ≤ (n : Int)) && decide ((n : Int) < ((n + 1 : Nat) : Int))) = true := by simp; omega
    rw [if_pos e2]
    simpa using hc
  unfold Txt.item
  rw [e]; rfl
/-- a row whose last sign has been put ahead -/
def rotP (p : Nat × Nat) : Nat × Nat := if p.2 = 0 then (0, p.1) else (p.1 + 1, p.2 - 1)
theorem row_rot (i : Nat) (p : Nat × Nat) : Txt.item (rowT i p.1 p.2) (-1) ++ Txt.slice (rowT i p.1 p.2) none (some (-1)) = rowT i (rotP p).1 (rotP p).2 := by
  obtain ⟨a, b⟩ := p
  have hl : (rowT i a b).length = (a + b) + 1 := rowT_len i a b
  apply str_ext
  rw [app_toList, slice_init hl]
  have ec : (rowT i a b).cps.toList = rowL i a b := by simp [rowT]
  have eg : (rowT i a b).cps[a + b]? = (rowL i a b)[a + b]? := by simp [rowT]
  unfold rotP
  cases b with
  | zero =>
    rw [item_last (c := 97 + i) hl (by simp [rowT, rowL]), ec]
    simp [rowL, rowT]
  | succ b =>
    have e46 : (rowL i a (b + 1))[a + (b + 1)]? = some 46 := by
      simp only [rowL]
      rw [List.getElem?_append_right (by simp)]
      simp
    have et : (rowL i a (b + 1)).take (a + (b + 1)) = List.replicate a 46 ++ (97 + i) :: List.replicate b 46 := by
      unfold rowL
      rw [List.take_append]
      simp
    rw [item_last (c := 46) hl (by rw [eg]; exact e46), ec, et]
    simp [rowL, rowT, List.replicate_succ]
end Mine
end
section
open PySem PySem.W PySem.Spec PySem.Calls PyProof.Rows
set_option maxRecDepth 100000
namespace Mine
def rotAt (ps : List (Nat × Nat)) (n : Int) : List (Nat × Nat) := ps.set (n - 1).toNat (rotP (ps.getD (n - 1).toNat (0, 0)))
theorem rotP_sum (p : Nat × Nat) : (rotP p).1 + (rotP p).2 = p.1 + p.2 := by
  unfold rotP; split <;> dsimp only <;> omega
theorem rotAt_len (ps : List (Nat × Nat)) (n : Int) : (rotAt ps n).length = ps.length := List.length_set ..
theorem rotAt_bound {ps : List (Nat × Nat)} {B : Nat} (n : Int) (h : ∀ p ∈ ps, p.1 + p.2 ≤ B) : ∀ p ∈ rotAt ps n, p.1 + p.2 ≤ B := by
  intro p hp
  by_cases hi : (n - 1).toNat < ps.length
  · rcases List.mem_or_eq_of_mem_set hp with h1 | h1
    · exact h p h1
    · rw [h1, rotP_sum]
      have e : ps.getD (n - 1).toNat (0, 0) = ps[(n - 1).toNat] := by rw [List.getD_eq_getElem?_getD, List.getElem?_eq_getElem hi]; rfl
      rw [e]; exact h _ (List.getElem_mem hi)
  · rw [rotAt, List.set_eq_of_length_le (by omega)] at hp
    exact h p hp
theorem rots_len : ∀ (l : List Int) (ps : List (Nat × Nat)), (l.foldl rotAt ps).length = ps.length
  | [], _ => rfl
  | n :: l, ps => by rw [List.foldl_cons, rots_len l, rotAt_len]
theorem rots_bound {B : Nat} : ∀ (l : List Int) {ps : List (Nat × Nat)}, (∀ p ∈ ps, p.1 + p.2 ≤ B) → ∀ p ∈ l.foldl rotAt ps, p.1 + p.2 ≤ B
  | [], _, h => h
  | n :: l, _, h => rots_bound l (rotAt_bound n h)
def RotE (h₀ : Heap) (L : Addr) (s : Shared) (I : Addr) (oI : Obj) (G : Obj → List (Addr × Obj)) (m₀ : Str → Option Value) (ps : List (Nat × Nat)) (s₂ : Shared) : Prop :=
  ∃ (rv : List Value) (nR : Nat) (h' : Heap) (tk : Nat) (m' : Str → Option Value), s₂ = { s with heap := h', toks := tk } ∧ Fr h₀ L h' m' ∧ News h₀ L h' ((I, oI) :: G (listOf rv.toArray nR)) ∧ StrsAre rv (rowsT ps) ∧ ∀ z, z ≠ Str.ofString "number" → m' z = m₀ z
section
variable {w : World} {prog : Program} {A : Around} {s : Shared} {E : Value → Shared → Prop} {h₀ : Heap} {L : Addr} {m : Str → Option Value} {news news' : List (Addr × Obj)}
theorem pass_rot {Q : Flow → Shared → Prop} {env : Env} {G : Obj → List (Addr × Obj)} {po ro : Addr} {pv rv : List Value} {nP nR : Nat} {ps : List (Nat × Nat)} {pi : List Int} {m₀ : Str → Option Value} {body : List Stmt}
    (hh : A.handled = none) (F : Fr h₀ env.locals s.heap m₀) (N : News h₀ env.locals s.heap news) (hm : (po, listOf pv.toArray nP) ∈ news) (U : UpdF ro (listOf rv.toArray nR) news G) (hne : @Ne Nat po ro) (hi : IntsAre pv pi) (hS : StrsAre rv (rowsT ps))
    (turn : ∀ (rv : List Value) (nR : Nat) (ps' : List (Nat × Nat)) (pre post : List Int) (n : Int) (t : Tok) (u : Str → Option Value) h tk I oI, pi = pre ++ n :: post → ps' = pre.foldl rotAt ps → StrsAre rv (rowsT ps') → (∀ p ∈ G (listOf rv.toArray nR), @Ne Nat p.1 I) →
      Fr h₀ env.locals h (fun z => if z = Str.ofString "number" then some (.int n t) else m₀ z) → News h₀ env.locals h ((I, oI) :: G (listOf rv.toArray nR)) →
      wpAny (model prog w) A (execs body env) (fun f s₂ => match f with | .next => RotE h₀ env.locals s I oI G m₀ (rotAt ps' n) s₂ | _ => False) E { s with heap := h, toks := tk })
    (done : ∀ (rv : List Value) (nR : Nat) (u : Str → Option Value) h tk, StrsAre rv (rowsT (pi.foldl rotAt ps)) → Fr h₀ env.locals h (fun z => if z = Str.ofString "number" then u z else m₀ z) → News h₀ env.locals h (G (listOf rv.toArray nR)) → Q .next { s with heap := h, toks := tk }) :
    wpAny (model prog w) A (pyIter (.ref po)) (fun it s₂ => LoopAtV prog w A h₀ env (Str.ofString "number") body Q E it s₂) E s := by
  obtain ⟨a, b, rfl, hg, h1, h2⟩ := U.split
  have hl : ∀ o', (po, listOf pv.toArray nP) ∈ G o' := by
    intro o'
    rw [hg]
    rcases List.mem_append.mp hm with hm | hm
    · exact List.mem_append_left _ hm
    · rcases List.mem_cons.mp hm with e | hm
      · exact absurd (congrArg Prod.fst e) hne
      · exact List.mem_append_right _ (.tail _ hm)
  have N0 : News h₀ env.locals s.heap (G (listOf rv.toArray nR)) := by rw [hg]; exact N
  refine fs_list (σ := List Value × Nat × List (Nat × Nat)) (vs := pv) (ns := pi) (nn := nP) (fun c => G (listOf c.1.toArray c.2.1)) (fun _ => []) (fun c => StrsAre c.1 (rowsT c.2.2)) [] (fun pre c => c.2.2 = pre.foldl rotAt ps) (rv, nR, ps) hh (fun c => hl _) hi F N0 hS (List.forall_mem_nil _) rfl ?_ ?_
  · rintro ⟨rv', nR', ps'⟩ pre post n t u h tk I oI e hS' hP hnc F' N'
    dsimp only at hS' hP
    refine wpAny_mono (turn rv' nR' ps' pre post n t u h tk I oI e hP hS' (fun p hp => hnc p hp) F' N') (fun f s₂ q => ?_) fun _ _ x => x
    cases f with
    | next =>
      obtain ⟨rv2, nR2, h2', tk2, m2, rfl, F2, N2, hS2, hm2⟩ := q
      refine ⟨(rv2, nR2, rotAt ps' n), h2', tk2, m2, rfl, F2, N2, ?_, hS2, List.forall_mem_nil _, fun z hz _ _ => hm2 z hz, ?_⟩
      · intro p hp
        dsimp only at hp
        rw [hg] at hp
        have hq : ∀ q ∈ G (listOf rv'.toArray nR'), q.1 ≠ I := hnc
        rw [hg] at hq
        rcases List.mem_append.mp hp with hp | hp
        · exact hq p (List.mem_append_left _ hp)
        · rcases List.mem_cons.mp hp with rfl | hp
          · exact (show ro ≠ I from hq (ro, listOf rv'.toArray nR') (List.mem_append_right _ (.head _)))
          · exact hq p (List.mem_append_right _ (.tail _ hp))
      · show rotAt ps' n = (pre ++ [n]).foldl rotAt ps
        rw [List.foldl_append, ← hP]; rfl
    | cont => exact q.elim
    | brk => exact q.elim
    | ret v => exact q.elim
  · rintro ⟨rv', nR', ps'⟩ u h tk hS' hP F' N'
    dsimp only at hS' hP
    subst hP
    exact done rv' nR' u h tk hS' F' N'
/-- a row of the mail is looked at -/
theorem row_item {value slice : Expr} {l : Addr} {vs : List Value} {ps : List (Nat × Nat)} {n : Nat} {k : Int} {u : Tok} {Q : Value → Shared → Prop} (N : News h₀ L s.heap news) (hm : (l, listOf vs.toArray n) ∈ news) (hS : StrsAre vs (rowsT ps)) (h0 : 0 ≤ k) (h1 : k < ps.length) (h2 : ps.length ≤ 6)
    (h : ∀ t, Q (.str (rowT k.toNat (ps.getD k.toNat (0, 0)).1 (ps.getD k.toNat (0, 0)).2) t) s)
    (hs : subscripted slice false (.ref l) (.int k u) = operate [.ref l, .int k u] (getItem (.ref l) (.int k u)) := by with_unfolding_all rfl) (hg : ∀ r, letTemporaryGo value (.ref l) r = pure () := by intro _; with_unfolding_all rfl) :
    wpAny (model prog w) A (subscriptTail value slice (.ref l) (.int k u)) Q E s := by
  refine item_strsA ⟨_, N.get hm, rfl, _, rfl⟩ hS h0 (by rw [rowsT_len]; exact h1) (by omega) (fun t => ?_) hs hg
  rw [rowsT_at (by omega)]; exact h t
theorem row_last {value slice : Expr} {i a b : Nat} {t u : Tok} {Q : Value → Shared → Prop}
    (h : Q (.str (Txt.item (rowT i a b) (-1)) s.toks) { s with toks := s.toks + 1 })
    (hs : subscripted slice false (.str (rowT i a b) t) (.int (-1) u) = operate [.str (rowT i a b) t, .int (-1) u] (getItem (.str (rowT i a b) t) (.int (-1) u)) := by with_unfolding_all rfl)
    (ht : ∀ r, letTemporaryGo value (.str (rowT i a b) t) r = pure () := by intro _; with_unfolding_all rfl) :
    wpAny (model prog w) A (subscriptTail value slice (.str (rowT i a b) t) (.int (-1) u)) Q E s :=
  item_str (by decide) (by rw [rowT_len]; omega) (by rw [rowT_len]; omega) (fun _ => h) hs ht
theorem row_add {i a b : Nat} {t u : Tok} {Q : Value → Shared → Prop} (hb : a + b ≤ 100)
    (h : ∀ t' k, Q (.str (rowT i (rotP (a, b)).1 (rotP (a, b)).2) t') { s with toks := k }) :
    wpAny (model prog w) A (binaryOp .Add (.str (Txt.item (rowT i a b) (-1)) t) (.str (Txt.slice (rowT i a b) none (some (-1))) u)) Q E s := by
  refine SBL.add (fun t' k _ => ?_) ?_
  · have e := row_rot i (a, b)
    dsimp only at e
    rw [e]; exact h t' k
  · have h1 := PyProof.Txt.length_slice_le (rowT i a b) none (some (-1))
    rw [rowT_len] at h1
    have h2 := len_item (rowT i a b) (-1)
    rw [sizeLine_eq, h2]; omega
theorem dot_add {i a b : Nat} {t u : Tok} {Q : Value → Shared → Prop} (hb : a + b ≤ 100)
    (h : ∀ t' k, Q (.str (rowT i (a + 1) b) t') { s with toks := k }) :
    wpAny (model prog w) A (binaryOp .Add (.str (Str.ofString ".") t) (.str (rowT i a b) u)) Q E s := by
  refine SBL.add (fun t' k _ => ?_) ?_
  · rw [row_dot]; exact h t' k
  · have e : (Str.ofString ".").length = 1 := by decide +kernel
    rw [rowT_len, sizeLine_eq, e]; omega
theorem row_set {D : Addr} {vs : List Value} {ps : List (Nat × Nat)} {n : Nat} {k : Int} {a b : Nat} {t u : Tok} {Q : Unit → Shared → Prop} (F : Fr h₀ L s.heap m) (N : News h₀ L s.heap news) (U : Upd D (listOf vs.toArray n) (listOf (vs.set k.toNat (.str (rowT k.toNat a b) u)).toArray n) news news') (hi : StrsAre vs (rowsT ps)) (h0 : 0 ≤ k) (h1 : k < ps.length) (h2 : ps.length ≤ 6)
    (h : ∀ h', Fr h₀ L h' m → News h₀ L h' news' → StrsAre (vs.set k.toNat (.str (rowT k.toNat a b) u)) (rowsT (ps.set k.toNat (a, b))) → Q () { s with heap := h' }) :
    wpAny (model prog w) A (setItem (.ref D) (.int k t) (.str (rowT k.toNat a b) u)) Q E s :=
  txt_set F N U hi h0 (by rw [rowsT_len]; exact h1) (by omega) fun h' F' N' hi' _ => h h' F' N' (by
    have e := rowsT_set (ps := ps) (i := k.toNat) (a, b)
    dsimp only at e
    rw [e] at hi'; exact hi')
end
end Mine
end
theorem Mine.cleared_Key17 : True := by
  k_with_none
  w_top off
  trivial
section
open PySem PySem.W PySem.Spec PySem.Calls PyProof.Rows
set_option maxRecDepth 100000
namespace Mine
abbrev lamPar (p : Pos) : Arguments := { posonlyargs := [], args := [{ arg := Str.ofString "x", annotation := none, pos := p }], vararg := none, kwonlyargs := [], kw_defaults := [], kwarg := none, defaults := [] }
abbrev lamBody (p q : Pos) : Expr := .UnaryOp .USub (.Name (Str.ofString "x") p) q
abbrev lamScope : Scope := { kind := .function, names := [(Str.ofString "x", .local)], isGenerator := false, isCoroutine := false, more := [] }
theorem code_L {w : World} {A A₀ : Around} {s : Shared} {base h₀ : Heap} {L : Addr} {m mg mb : Str → Option Value} {pr : Program} {loose : List Str} {mean : ExcName → Option Value}
    {env : Env} {outer : List Env} {E Q : Value → Shared → Prop} {f c' : Addr} {nm qual : Str} {p p1 p2 : Pos} {pm ctv : Value} {x : Int} {tx : Tok}
    (B : Below A₀ base outer h₀) (F : Fr h₀ L s.heap m) (X₀ : (hd.heap_39 w.params).In h₀) (T : Top pr loose mean mg mb h₀) (hA : A.frames = some (env :: outer)) (hf : env.frame = some L) (hke : env.scope.kind = .function)
    (ho : s.heap.get? f = some (kla_obj nm qual (lamPar p) (lamBody p1 p2) lamScope [] pm c' ctv)) (hc : s.heap.CodeRec (.ref c') qual) (hroom : A.depth < recursionLimit)
    (h : ∀ L' h₁ tk, Fr s.heap L' h₁ (fun y => List.lookup y [(Str.ofString "x", Value.int x tx)]) → News s.heap L' h₁ [] → Below A base (env :: outer) s.heap → (hd.heap_39 w.params).In s.heap → Top pr loose mean mg mb s.heap →
      wpAny (model PySem.Challenge.rw_ty0017_01.row.prog w) (A.deeper (envX qual lamScope L' f (.ref c') [])) (eval (lamBody p1 p2) (envX qual lamScope L' f (.ref c') []))
        (fun v s' => Q v s')
        (fun e s' => wpAny (model PySem.Challenge.rw_ty0017_01.row.prog w) (A.deeper (envX qual lamScope L' f (.ref c') [])) (leaving (envX qual lamScope L' f (.ref c') []) e) (fun _ s'' => E e s'') (fun e' s'' => E e' s'') s')
        { s with heap := h₁, toks := tk }) :
    codeAny (model PySem.Challenge.rw_ty0017_01.row.prog w) A (.call (.ref f) ⟨[.int x tx], []⟩) (fun r s' => match r with | .ok (.ret v) => Q v s' | .ok _ => False | .error e => E e s') s := by
  refine kla_callFunE hroom ho rfl rfl rfl rfl hc ?_
  have hbind : bindArgs (kla_fn nm qual (lamPar p) (lamBody p1 p2) lamScope [] pm (.ref c') ctv) ⟨[.int x tx], []⟩ = pure [(Str.ofString "x", Value.int x tx)] := rfl
  rw [hbind]
  refine wpAny_pure (wpAny_newFunctionEnv (show ∀ y ∈ lamScope.names, y.2 ≠ NameKind.cell by decide) (locs rfl) (fun h₁ hns hsb => ⟨((T.nolimit).keeps F.keep).fresh _ hsb, ?_⟩) rfl)
  have hk₁ : ∀ b o, s.heap.get? b = some o → h₁.get? b = some o := fun b o e => hsb.extBut b o (Nat.ne_of_lt (Heap.lt_size e)) (Heap.get?_push_of_some _ e)
  have B₁ := pushX B F hf hke
  exact kla_codeExpr (h _ h₁ _ ⟨hns, hk₁, Nat.le_refl _⟩ News.nil ⟨hA, B₁.stays, B₁.frames⟩ (X₀.keeps F.keep) (T.keeps F.keep))
theorem neg_call {w : World} {A : Around} {s : Shared} {Q E : Value → Shared → Prop} {f c' : Addr} {nm qual : Str} {p p1 p2 : Pos} {pm ctv : Value} {x : Int} {tx : Tok}
    (C : Ctx w 1 8 A s.heap) (ho : s.heap.get? f = some (kla_obj nm qual (lamPar p) (lamBody p1 p2) lamScope [] pm c' ctv)) (hc : s.heap.CodeRec (.ref c') qual)
    (ret : ∀ t h' tk', s.heap.StaysIn h' → Q (.int (-x) t) { s with heap := h', toks := tk' }) :
    wpAny (model PySem.Challenge.rw_ty0017_01.row.prog w) A (call (.ref f) [.int x tx] []) Q E s := by
  obtain ⟨B, F, X, T, hk, hd, hu⟩ := C
  revert X
  k_fill
  intro X
  refine wpAny_call ?_
  refine code_L B F X T rfl rfl hk ho hc (by ktr_room) ?_
  intro L' h' tk' F' N' B' X' T'
  k_fold
  k_steps
  exact ret _ _ _ (Fr.keep (by k_asm))
def negs (ns : List Int) : List Int := ns.map fun k => -k
theorem negs_len (ns : List Int) : (negs ns).length = ns.length := List.length_map ..
theorem negs_at (ns : List Int) (i : Nat) : (negs ns).getD i 0 = -(ns.getD i 0) := by
  unfold negs
  by_cases h : i < ns.length <;> simp [List.getD, h]
structure BisK (ns : List Int) (x lo hi : Int) : Prop where
  b : BisL (negs ns) x lo hi
theorem BisK.all {ns : List Int} {x lo hi : Int} (h : BisK ns x lo hi) : 0 ≤ lo ∧ lo ≤ hi ∧ hi ≤ (ns.length : Int) ∧ BisK ns x lo hi := by
  have h1 := h.b.hi1
  rw [negs_len] at h1
  exact ⟨h.b.lo0, h.b.le, h1, h⟩
theorem bisK_start (ns : List Int) (x : Int) : BisK ns x 0 ns.length := ⟨by have := bisL_start (negs ns) x; rw [negs_len] at this; exact this⟩
theorem halfK {ns : List Int} {x lo hi : Int} (_ : BisK ns x lo hi) (h : lo < hi) : lo ≤ (lo + hi).fdiv 2 ∧ (lo + hi).fdiv 2 < hi := half h
theorem bisK_yes {ns : List Int} {x lo hi : Int} (h : BisK ns x lo hi) (hc : lo < hi) (hx : -(ns.getD ((lo + hi).fdiv 2).toNat 0) < x) : BisK ns x ((lo + hi).fdiv 2 + 1) hi := ⟨bisL_yes h.b hc (by rw [negs_at]; exact hx)⟩
theorem bisK_no {ns : List Int} {x lo hi : Int} (h : BisK ns x lo hi) (hc : lo < hi) (hx : ¬ -(ns.getD ((lo + hi).fdiv 2).toNat 0) < x) : BisK ns x lo ((lo + hi).fdiv 2) := ⟨bisL_no h.b hc (by rw [negs_at]; exact hx)⟩
theorem bisK_end {ns : List Int} {x lo hi : Int} (h : BisK ns x lo hi) (hc : ¬ lo < hi) : lo = bisL (negs ns) x := bisL_end h.b hc
theorem neg_N {w : World} {A : Around} {s : Shared} {Q E : Value → Shared → Prop} {h₀ : Heap} {L : Addr} {m : Str → Option Value} {news : List (Addr × Obj)} {f c' : Addr} {nm qual : Str} {p p1 p2 : Pos} {pm ctv : Value} {x : Int} {tx : Tok}
    (F : Fr h₀ L s.heap m) (N : News h₀ L s.heap news) (C : Ctx w 1 8 A s.heap) (ho : h₀.get? f = some (kla_obj nm qual (lamPar p) (lamBody p1 p2) lamScope [] pm c' ctv)) (hc : h₀.CodeRec (.ref c') qual)
    (h : ∀ t h' tk', Fr h₀ L h' m → News h₀ L h' news → Q (.int (-x) t) { s with heap := h', toks := tk' }) :
    wpAny (model PySem.Challenge.rw_ty0017_01.row.prog w) A (call (.ref f) [.int x tx] []) Q E s := by
  refine neg_call C (F.keep _ _ ho) ?_ fun t h' tk' k => h t h' tk' (fr_stay F k) (news_stay N k)
  obtain ⟨c, oc, vs, tq, e, hoc, hd', hq⟩ := hc
  exact ⟨c, oc, vs, tq, e, F.keep _ _ hoc, hd', hq⟩
theorem words_Key17_1 : True := by
  k_with "w call ref" => (k_here; k_dflt (refine neg_N (by k_asm) (by k_asm) (by exact (Ctx.mk (by k_asm) (by k_asm) (by k_asm) (by k_asm) (by first | exact rfl | assumption) (by ktr_room) (by ktr_units))) (by assumption) (by assumption) ?_; k_whole); intro _ _ _ _ _)
  k_with "w callWith ref" => (k_here; k_dflt (refine callWith_def_at (by assumption) (by exact rfl) ?_; k_whole))
  trivial
set_option maxHeartbeats 4000000 in
theorem bisK_spec {w : World} {A : Around} {s : Shared} {Q E : Value → Shared → Prop} {l f c' : Addr} {nm qual : Str} {p p1 p2 : Pos} {pm ctv : Value} {vs : List Value} {ns : List Int} {x : Int} {tx : Tok}
    (C : Ctx w 4 40 A s.heap) (hl : s.heap.IsList l vs.toArray) (hi : IntsAre vs ns) (hlen : ns.length < 2 ^ 20)
    (ho : s.heap.get? f = some (kla_obj nm qual (lamPar p) (lamBody p1 p2) lamScope [] pm c' ctv)) (hc : s.heap.CodeRec (.ref c') qual)
    (ret : ∀ t h' tk', s.heap.StaysIn h' → Q (.int (bisL (negs ns) x) t) { s with heap := h', toks := tk' }) :
    wpAny (model PySem.Challenge.rw_ty0017_01.row.prog w) A (call (.ref 75) [.ref l, .int x tx] [(Str.ofString "key", .ref f)]) Q E s := by
  obtain ⟨B, F, X, T, hk, hd, hu⟩ := C
  revert X
  k_fill
  intro X
  refine wpAny_call ?_
  k_dflt ktn_open
  k_with "exec While Compare cons nil" => k_while (fun _ lo hi => 0 ≤ lo ∧ lo ≤ hi ∧ hi ≤ (ns.length : Int) ∧ BisK ns x lo hi) (fun _ lo hi => (hi - lo).toNat) "lo" "hi"
  k_with "measure" => (have h9 := halfK (by assumption) (by assumption); omega)
  k_with "state" => first | exact (bisK_start _ _).all | exact (bisK_yes (by assumption) (by assumption) (by assumption)).all | exact (bisK_no (by assumption) (by assumption) (by assumption)).all
  k_steps

  have e9 := bisK_end (by assumption) (by assumption)
  subst e9
  exact ret _ _ _ (Fr.keep (by k_asm))
end Mine
end
theorem Mine.cleared_Quote17 : True := by
  k_with_none
  w_top off
  trivial
section
open PySem PySem.W PySem.Spec PySem.Calls PyProof.Rows
set_option maxRecDepth 100000
namespace Mine
theorem K_get {K : Frag} {h : Heap} {a : Addr} {o : Obj} (X : K.In h) (e : K.lookup a = some o) : h.get? a = some o := X _ _ e
theorem normL_len : ∀ (n : Nat) (l : List Nat), l.length ≤ n → (normL l).length ≤ 2 * l.length := by
  intro n
  induction n with
  | zero => intro l h; rw [List.length_eq_zero_iff.mp (Nat.le_zero.mp h)]; simp [normL]
  | succ n ih =>
    intro l h
    match l with
    | [] => simp [normL]
    | c :: r =>
      simp only [List.length_cons] at h
      by_cases h1 : c = 10
      · subst h1; have := ih r (by omega); simp only [normL, List.length_cons]; omega
      · by_cases h2 : c = 13
        · subst h2
          by_cases h3 : ∃ q, r = 10 :: q
          · obtain ⟨q, rfl⟩ := h3
            have := ih q (by simp at h; omega)
            simp only [normL, List.length_cons]; omega
          · rw [normL_cr fun q e => h3 ⟨q, e⟩]
            have := ih r (by omega)
            simp only [List.length_cons]; omega
        · rw [normL_other _ h1 h2]
          have := ih r (by omega)
          simp only [List.length_cons]; omega
theorem stuffL_len : ∀ (l : List Nat) (b : Bool), (stuffL b l).length ≤ 2 * l.length
  | [], b => by simp [stuffL]
  | c :: r, b => by
    rw [stuffL]
    split
    · have := stuffL_len r false
      simp only [List.length_cons]; omega
    · have := stuffL_len r (c == 10)
      simp only [List.length_cons]; omega
section
variable {w : World} {A : Around} {s : Shared} {E : Value → Shared → Prop} {Q : Value → Shared → Prop} {h₀ : Heap} {L : Addr} {m : Str → Option Value} {news : List (Addr × Obj)} {x : Str} {tx tr : Tok}
theorem crlf_is : Str.ofString "\r\n" = crlf := by decide +kernel
theorem dots_is : Str.ofString ".." = dots := by decide +kernel
theorem call_sub2 (F : Fr h₀ L s.heap m) (N : News h₀ L s.heap news) (X : (hd.heap_39 w.params).In s.heap) (hx : x.length ≤ 1000)
    (h : ∀ t h' tk, Fr h₀ L h' m → News h₀ L h' news → Q (.str (normS x) t) { s with heap := h', toks := tk }) :
    wpAny (model PySem.Challenge.rw_ty0017_01.row.prog w) A (call (.builtin "re.Pattern.sub") [.ref 41, .str (Str.ofString "\r\n") tr, .str x tx]) Q E s := by
  have e1 := K_get X (a := 41) rfl
  have e2 := K_get X (a := 40) rfl
  rw [crlf_is]
  have hl := normL_len _ x.cps.toList (Nat.le_refl _)
  have hs : x.cps.size ≤ 1000 := hx
  refine sub_call (code := code2) (ml := ml2 x.cps) (F := fun s => normL (x.cps.toList.drop s)) ⟨_, e1, rfl⟩ ⟨_, _, _, _, _, _, _, _, _, _, _, e1, rfl, e2, rfl, by decide +kernel⟩ (sub2 _) finds2 (by omega) ?_ (by decide +kernel) fun t h' tk hk => ?_
  · simp only [List.drop_zero]
    simp only [Array.length_toList] at hl
    omega
  · exact h t h' tk (fr_stay F hk) (news_stay N hk)
theorem call_sub1 (F : Fr h₀ L s.heap m) (N : News h₀ L s.heap news) (X : (hd.heap_39 w.params).In s.heap) (hx : x.length ≤ 1000)
    (h : ∀ t h' tk, Fr h₀ L h' m → News h₀ L h' news → Q (.str (quotS x) t) { s with heap := h', toks := tk }) :
    wpAny (model PySem.Challenge.rw_ty0017_01.row.prog w) A (call (.builtin "re.Pattern.sub") [.ref 36, .str (Str.ofString "..") tr, .str (normS x) tx]) Q E s := by
  have e1 := K_get X (a := 36) rfl
  have e2 := K_get X (a := 35) rfl
  rw [dots_is]
  have hl := normL_len _ x.cps.toList (Nat.le_refl _)
  have hs : x.cps.size ≤ 1000 := hx
  simp only [Array.length_toList] at hl
  have hz : (normS x).cps.size = (normL x.cps.toList).length := by simp [normS]
  have hb : decide (Bol (normS x).cps 0) = true := decide_eq_true (.inl rfl)
  have e3 : stuffL (decide (Bol (normS x).cps 0)) ((normS x).cps.toList.drop 0) = stuffL true (normL x.cps.toList) := by
    rw [hb]; rfl
  refine sub_call (code := code1) (ml := ml1 (normS x).cps) (F := fun s => stuffL (decide (Bol (normS x).cps s)) ((normS x).cps.toList.drop s)) ⟨_, e1, rfl⟩ ⟨_, _, _, _, _, _, _, _, _, _, _, e1, rfl, e2, rfl, by decide +kernel⟩ (sub1 _) (finds1 (by omega)) (by omega) ?_ (by decide +kernel) fun t h' tk hk => ?_
  · show (stuffL (decide (Bol (normS x).cps 0)) ((normS x).cps.toList.drop 0)).length ≤ _
    rw [e3]
    have := stuffL_len (normL x.cps.toList) true
    omega
  · have := h t h' tk (fr_stay F hk) (news_stay N hk)
    unfold quotS at this
    show Q (.str ⟨(stuffL (decide (Bol (normS x).cps 0)) ((normS x).cps.toList.drop 0)).toArray⟩ t) _
    rw [e3]; exact this
end
theorem words_Quote17_1 : True := by
  k_with "w getMethod ref" => (k_here; (with_reducible show wpAny _ _ (getMethod (Value.ref _) (PySem.Str.ofString "sub") _) _ _ _); k_dflt (refine getMethod_sub (K_get (by k_in) (by k_is)) (by exact rfl) (by exact rfl) ?_; k_whole))
  k_with "w call builtin:re.Pattern.sub" => (k_here; k_dflt (first
    | (refine call_sub2 (by k_asm) (by k_asm) (by k_in) (by assumption) ?_; intro _ _ _ _ _)
    | (refine call_sub1 (by k_asm) (by k_asm) (by k_in) (by assumption) ?_; intro _ _ _ _ _)))
  trivial
set_option maxHeartbeats 4000000 in
theorem quote_spec {w : World} {A : Around} {s : Shared} {Q E : Value → Shared → Prop} {x : Str} {tx : Tok}
    (C : Ctx w 2 16 A s.heap) (hx : x.length ≤ 1000)
    (ret : ∀ t h' tk', s.heap.StaysIn h' → Q (.str (quotS x) t) { s with heap := h', toks := tk' }) :
    wpAny (model PySem.Challenge.rw_ty0017_01.row.prog w) A (call (.ref 48) [.str x tx] []) Q E s := by
  obtain ⟨B, F, X, T, hk, hd, hu⟩ := C
  revert X
  k_fill
  intro X
  refine wpAny_call ?_
  k_dflt ktn_open
  k_steps
  exact ret _ _ _ (Fr.keep (by k_asm))
end Mine
end
theorem Mine.cleared_Tok17 : True := by
  k_with_none
  w_top off
  trivial
section
open PySem PySem.W PySem.Spec PySem.Calls PyProof.Rows
set_option maxRecDepth 100000
namespace Mine
theorem iseof_spec {w : World} {A : Around} {s : Shared} {Q E : Value → Shared → Prop} {x : Int} {tx : Tok}
    (C : Ctx w 2 16 A s.heap)
    (ret : ∀ h' tk', s.heap.StaysIn h' → Q (.bool (decide (x = 0))) { s with heap := h', toks := tk' }) :
    wpAny (model PySem.Challenge.rw_ty0017_01.row.prog w) A (call (.ref 96) [.int x tx] []) Q E s := by
  obtain ⟨B, F, X, T, hk, hd, hu⟩ := C
  revert X
  k_fill
  intro X
  refine wpAny_call ?_
  k_dflt ktn_open
  k_steps
  exact ret _ _ (Fr.keep (by k_asm))
theorem isterm_spec {w : World} {A : Around} {s : Shared} {Q E : Value → Shared → Prop} {x : Int} {tx : Tok}
    (C : Ctx w 2 16 A s.heap)
    (ret : ∀ h' tk', s.heap.StaysIn h' → Q (.bool (decide (x < 256))) { s with heap := h', toks := tk' }) :
    wpAny (model PySem.Challenge.rw_ty0017_01.row.prog w) A (call (.ref 89) [.int x tx] []) Q E s := by
  obtain ⟨B, F, X, T, hk, hd, hu⟩ := C
  revert X
  k_fill
  intro X
  refine wpAny_call ?_
  k_dflt ktn_open
  k_steps
  exact ret _ _ (Fr.keep (by k_asm))
section
variable {w : World} {A : Around} {s : Shared} {Q E : Value → Shared → Prop} {h₀ : Heap} {L : Addr} {m : Str → Option Value} {news : List (Addr × Obj)}
theorem iseof_N {x : Int} {tx : Tok} (F : Fr h₀ L s.heap m) (N : News h₀ L s.heap news) (C : Ctx w 2 16 A s.heap)
    (h : ∀ h' tk', Fr h₀ L h' m → News h₀ L h' news → Q (.bool (decide (x = 0))) { s with heap := h', toks := tk' }) :
    wpAny (model PySem.Challenge.rw_ty0017_01.row.prog w) A (call (.ref 96) [.int x tx] []) Q E s :=
  iseof_spec C fun h' tk' k => h h' tk' (fr_stay F k) (news_stay N k)
theorem isterm_N {x : Int} {tx : Tok} (F : Fr h₀ L s.heap m) (N : News h₀ L s.heap news) (C : Ctx w 2 16 A s.heap)
    (h : ∀ h' tk', Fr h₀ L h' m → News h₀ L h' news → Q (.bool (decide (x < 256))) { s with heap := h', toks := tk' }) :
    wpAny (model PySem.Challenge.rw_ty0017_01.row.prog w) A (call (.ref 89) [.int x tx] []) Q E s :=
  isterm_spec C fun h' tk' k => h h' tk' (fr_stay F k) (news_stay N k)
end
end Mine
end
section
open PySem PySem.W PySem.Spec PySem.Calls PyProof.Rows
set_option maxRecDepth 100000
namespace Mine
def stuffP (p : Nat × Nat) : Nat × Nat := (if p.1 = 0 then 0 else p.1 + 1, p.2)
theorem stuffP_bound {ps : List (Nat × Nat)} {B : Nat} (h : ∀ p ∈ ps, p.1 + p.2 ≤ B) : ∀ p ∈ ps.map stuffP, p.1 + p.2 ≤ B + 1 := by
  intro p hp
  obtain ⟨q, hq, rfl⟩ := List.mem_map.mp hp
  have := h q hq
  unfold stuffP
  dsimp only
  split <;> omega
theorem joinL_len (e : List Nat) : ∀ q : List (List Nat), (joinL e q).length ≤ (q.map List.length).sum + q.length * e.length
  | [] => by simp [joinL]
  | [r] => by simp [joinL]
  | r :: s :: q => by
    have h := joinL_len e (s :: q)
    simp only [joinL, List.length_append, List.map_cons, List.sum_cons, List.length_cons, Nat.add_mul, Nat.one_mul] at h ⊢
    omega
theorem rows_sum {ps : List (Nat × Nat)} {B : Nat} (h : ∀ p ∈ ps, p.1 + p.2 ≤ B) : ((rowsT ps).map (·.length)).sum ≤ (B + 1) * ps.length := by
  have h2 : ∀ l : List Nat, (∀ k ∈ l, k ≤ B + 1) → l.sum ≤ (B + 1) * l.length := by
    intro l
    induction l with
    | nil => intro _; simp
    | cons k l ih =>
      intro hl
      have h3 := ih fun j hj => hl j (.tail _ hj)
      have h4 := hl k (.head _)
      rw [List.sum_cons, List.length_cons, Nat.mul_succ]; omega
  have h3 := h2 ((rowsT ps).map (·.length)) (by
    intro k hk
    obtain ⟨r, hr, rfl⟩ := List.mem_map.mp hk
    obtain ⟨i, hi, rfl⟩ := List.mem_mapIdx.mp hr
    rw [rowT_len]
    have := h _ (List.getElem_mem hi)
    omega)
  rw [List.length_map, rowsT_len] at h3
  exact h3
theorem rows_join_len {ps : List (Nat × Nat)} {e : Str} (h6 : ps.length ≤ 6) (hb : ∀ p ∈ ps, p.1 + p.2 ≤ 14) (he : e.length ≤ 2) : (Txt.join e (rowsT ps)).length ≤ 102 := by
  have h1 := joinL_len e.cps.toList ((rowsT ps).map (·.cps.toList))
  have h2 : (Txt.join e (rowsT ps)).length = (joinL e.cps.toList ((rowsT ps).map (·.cps.toList))).length := by
    rw [← join_toList]; simp [Str.length]
  have h3 : (((rowsT ps).map (·.cps.toList)).map List.length) = (rowsT ps).map (·.length) := by
    rw [List.map_map]; apply List.map_congr_left; intro r _; simp [Str.length]
  have h4 := rows_sum hb
  rw [h3, List.length_map, rowsT_len] at h1
  have h5 : e.cps.toList.length = e.length := by simp [Str.length]
  rw [h5] at h1
  have h7 : ps.length * e.length ≤ 6 * 2 := Nat.mul_le_mul h6 he
  omega
theorem quotS_len (x : Str) : (quotS x).length ≤ 4 * x.length := by
  have h1 := stuffL_len (normL x.cps.toList) true
  have h2 := normL_len _ x.cps.toList (Nat.le_refl _)
  have h3 : x.cps.toList.length = x.length := by simp [Str.length]
  have h4 : (quotS x).length = (stuffL true (normL x.cps.toList)).length := by simp [Str.length, quotS]
  omega
theorem rows_stuff (ps : List (Nat × Nat)) : (rowsT ps).map stuffS = rowsT (ps.map stuffP) := by
  unfold rowsT
  apply List.ext_getElem?
  intro i
  simp only [List.getElem?_map, List.getElem?_mapIdx, Option.map_map]
  cases ps[i]? with
  | none => rfl
  | some p => exact congrArg some (row_stuff i p.1 p.2)
theorem end_len {e : Str} (he : e.cps.toList = [10] ∨ e.cps.toList = [13] ∨ e.cps.toList = [13, 10]) : e.length ≤ 2 := by
  have h : e.length = e.cps.toList.length := by simp [Str.length]
  rcases he with h1 | h1 | h1 <;> rw [h, h1] <;> decide
section
variable {w : World} {prog : Program} {A : Around} {s : Shared} {E : Value → Shared → Prop} {h₀ : Heap} {L : Addr} {m : Str → Option Value} {news : List (Addr × Obj)}
theorem rows_join {Q : Value → Shared → Prop} {e : Str} {t : Tok} {l : Addr} {rv : List Value} {n : Nat} {ps : List (Nat × Nat)} (N : News h₀ L s.heap news) (hm : (l, listOf rv.toArray n) ∈ news) (hS : StrsAre rv (rowsT ps)) (h6 : ps.length ≤ 6) (hb : ∀ p ∈ ps, p.1 + p.2 ≤ 14)
    (he : e.cps.toList = [10] ∨ e.cps.toList = [13] ∨ e.cps.toList = [13, 10])
    (h : (Txt.join e (rowsT ps)).length ≤ 1000 → ∀ t' k, Q (.str (Txt.join e (rowsT ps)) t') { s with toks := k }) :
    wpAny (model prog w) A (call (.builtin "str.join") [.str e t, .ref l]) Q E s := by
  have he2 := end_len he
  refine join_list ⟨_, N.get hm, rfl, _, rfl⟩ hS ?_ (h (Nat.le_trans (rows_join_len h6 hb he2) (by decide)))
  have h4 := rows_sum hb
  rw [rowsT_len]
  have h7 : ps.length * e.length ≤ 6 * 2 := Nat.mul_le_mul h6 he2
  omega
theorem rows_split {Q : Value → Shared → Prop} {e : Str} {t u : Tok} {ps : List (Nat × Nat)} (F : Fr h₀ L s.heap m) (N : News h₀ L s.heap news) (h1 : 0 < ps.length) (h6 : ps.length ≤ 6) (hb : ∀ p ∈ ps, p.1 + p.2 ≤ 14)
    (he : e.cps.toList = [10] ∨ e.cps.toList = [13] ∨ e.cps.toList = [13, 10])
    (h : ∀ D vs ps2 h' k, ps2 = ps.map stuffP → ps2.length = ps.length → (∀ p ∈ ps2, p.1 + p.2 ≤ 15) → StrsAre vs (rowsT ps2) → Fr h₀ L h' m → News h₀ L h' ((D, listOf vs.toArray 0) :: news) → (∀ p ∈ news, p.1 < D) → Q (.ref D) { s with heap := h', toks := k }) :
    wpAny (model prog w) A (call (.builtin "str.split") [.str (quotS (Txt.join e (rowsT ps))) t, .str (Str.ofString "\r\n") u]) Q E s := by
  have he2 := end_len he
  have hl := rows_join_len h6 hb he2
  have hq := quotS_len (Txt.join e (rowsT ps))
  refine KSpl.split1 F N (by decide +kernel) (fun D l h' k e1 hS F' N' hlt => ?_) (by rw [sizeLine_eq]; omega)
  have e2 : Txt.split (quotS (Txt.join e (rowsT ps))) (Str.ofString "\r\n") = rowsT (ps.map stuffP) := by
    rw [crlf_is, mail_split he _ (by intro h0; have := rowsT_len ps; rw [h0] at this; simp at this; omega), rows_stuff]
    intro r hr
    obtain ⟨i, hi, rfl⟩ := List.mem_mapIdx.mp hr
    exact row_clean _ _
  rw [e1, e2] at hS
  exact h D _ _ h' k rfl (List.length_map ..) (stuffP_bound hb) hS F' N' hlt
end
end Mine
end
theorem Mine.cleared_Pass17 : True := by
  k_with_none
  w_top off
  trivial
section
open PySem PySem.W PySem.Spec PySem.Calls PyProof.Rows
set_option maxRecDepth 100000
namespace Mine
def dotAt (ps : List (Nat × Nat)) (n : Int) : List (Nat × Nat) := ps.set (n - 1).toNat ((ps.getD (n - 1).toNat (0, 0)).1 + 1, (ps.getD (n - 1).toNat (0, 0)).2)
/-- where a pass stands: the rows of the mail, the pile, what came out -/
structure PState where
  ps : List (Nat × Nat)
  pi : List Int
  oi : List Int
def lessP (pi : List Int) (x : Int) : Bool := decide (pi ≠ []) && decide (pi.getLastD 0 < x)
def passOk (pi : List Int) (x : Int) : Bool := decide (x = 0) || (lessP pi x == decide (bisL (negs pi) (-x) < pi.length))
/-- what comes out of the pile -/
def outP (st : PState) (x : Int) : PState := if (lessP st.pi x || decide (x = 0)) = true then ⟨st.pi.foldl rotAt st.ps, [], st.oi ++ st.pi.reverse⟩ else st
def onP (st : PState) (x : Int) : PState := if x = 0 then st else ⟨dotAt (st.ps.map stuffP) x, st.pi ++ [x], st.oi⟩
def passStep (st : PState) (x : Int) : Option PState := if passOk st.pi x = true then some (onP (outP st x) x) else none
def passRun : List Int → PState → Option PState
  | [], st => some st
  | x :: l, st => (passStep st x).bind (passRun l)
def pass0 (ns : List Int) : PState := ⟨List.replicate ns.length (0, 0), [], []⟩
/-- what _law_pass gives: what came out, and the dots of the mail's rows -/
def passF (ns : List Int) : List Int × List (Nat × Nat) := match passRun (ns ++ [0]) (pass0 ns) with
  | none => ([], [])
  | some st => (st.oi, st.ps)
theorem passRun_append : ∀ (l q : List Int) (st : PState), passRun (l ++ q) st = (passRun l st).bind (passRun q)
  | [], _, _ => rfl
  | x :: l, q, st => by
    simp only [List.cons_append, passRun]
    cases passStep st x with
    | none => rfl
    | some st' => exact passRun_append l q st'
/-- the code table of _law_pass, and the code of its lambda if that has been made -/
def tabLed : Option (Addr × Obj) → List (Addr × Obj)
  | none => [(98, tabObj #[])]
  | some q => [(98, tabObj #[rawInt 89, rawInt 73, .ref q.1]), q]
def TabOk : Option (Addr × Obj) → Prop
  | none => True
  | some q => ∃ vs t, q.2.data = .fields vs ∧ vs[1]? = some (.str (Str.ofString "_law_pass.<locals>.<lambda>") t) ∧ @Ne Nat q.1 98
def TabOff (cb : Option (Addr × Obj)) (a : Addr) : Prop := LCg.Off1 a (tabLed cb)
theorem off_of_lt {d : Addr} : ∀ {l : List (Addr × Obj)}, AllLt d l → LCg.Off1 d l
  | [], _ => True.intro
  | _ :: _, h => ⟨Nat.ne_of_lt h.1, off_of_lt h.2⟩
structure PassS where
  po : Addr
  pv : List Value
  nP : Nat
  oo : Addr
  ov : List Value
  nO : Nat
  ro : Addr
  rv : List Value
  nR : Nat
  st : PState
  cb : Option (Addr × Obj)
abbrev passLed (q9 : Addr × Obj) (c : PassS) : List (Addr × Obj) := q9 :: (c.po, listOf c.pv.toArray c.nP) :: (c.oo, listOf c.ov.toArray c.nO) :: (c.ro, listOf c.rv.toArray c.nR) :: tabLed c.cb
abbrev passPs (c : PassS) : List (Str × Value) := [(Str.ofString "rows", .ref c.ro), (Str.ofString "pile", .ref c.po), (Str.ofString "out", .ref c.oo)]
abbrev passFacts (l9 : Addr) (c : PassS) : Prop := IntsAre c.pv c.st.pi ∧ IntsAre c.ov c.st.oi ∧ StrsAre c.rv (rowsT c.st.ps) ∧ TabOk c.cb ∧ TabOff c.cb l9 ∧ TabOff c.cb c.po ∧ TabOff c.cb c.oo ∧ TabOff c.cb c.ro ∧
  @Ne Nat l9 c.po ∧ @Ne Nat l9 c.oo ∧ @Ne Nat l9 c.ro ∧ @Ne Nat c.po c.oo ∧ @Ne Nat c.po c.ro ∧ @Ne Nat c.oo c.ro
structure PassI (ns pre : List Int) (st : PState) : Prop where
  e : passRun pre (pass0 ns) = some st
  l : st.ps.length = ns.length
  b : ∀ p ∈ st.ps, p.1 + p.2 ≤ 2 * pre.length
  p : ∀ x ∈ st.pi, 1 ≤ x ∧ x ≤ ns.length
  pl : st.pi.length ≤ pre.length
  ol : st.oi.length ≤ 7 * pre.length
theorem passI_step {ns pre : List Int} {st : PState} {x : Int} (h : PassI ns pre st) (hin : pre.length ≤ 6) (hx : x = 0 ∨ (1 ≤ x ∧ x ≤ ns.length)) (hok : passOk st.pi x = true) : PassI ns (pre ++ [x]) (onP (outP st x) x) := by
  have hlen : (pre ++ [x]).length = pre.length + 1 := by simp
  have hpl := h.pl
  have hol := h.ol
  have ho : (outP st x).ps.length = ns.length ∧ (∀ p ∈ (outP st x).ps, p.1 + p.2 ≤ 2 * pre.length) ∧ (∀ y ∈ (outP st x).pi, 1 ≤ y ∧ y ≤ ns.length) ∧ (outP st x).pi.length ≤ pre.length ∧ (outP st x).oi.length ≤ 7 * pre.length + 6 := by
    unfold outP
    split
    · refine ⟨by rw [rots_len]; exact h.l, rots_bound _ h.b, by simp, by simp, ?_⟩
      simp only [List.length_append, List.length_reverse]; omega
    · exact ⟨h.l, h.b, h.p, h.pl, by omega⟩
  obtain ⟨q1, q2, q3, q4, q5⟩ := ho
  have he : passRun (pre ++ [x]) (pass0 ns) = some (onP (outP st x) x) := by
    rw [passRun_append, h.e]
    show (passStep st x).bind (passRun []) = _
    unfold passStep
    rw [if_pos hok]; rfl
  refine ⟨he, ?_, ?_, ?_, ?_, ?_⟩
  · unfold onP
    split
    · exact q1
    · simp [dotAt, q1]
  · rw [hlen]
    unfold onP
    split
    · intro p hp; have := q2 p hp; omega
    · intro p hp
      have hs : ∀ p ∈ (outP st x).ps.map stuffP, p.1 + p.2 ≤ 2 * pre.length + 1 := by
        intro p hp
        obtain ⟨q, hq, rfl⟩ := List.mem_map.mp hp
        have := q2 q hq
        unfold stuffP
        dsimp only
        split <;> omega
      rcases List.mem_or_eq_of_mem_set hp with h1 | h1
      · have := hs p h1; omega
      · rw [h1]
        dsimp only
        by_cases hi : (x - 1).toNat < ((outP st x).ps.map stuffP).length
        · have e : ((outP st x).ps.map stuffP).getD (x - 1).toNat (0, 0) = ((outP st x).ps.map stuffP)[(x - 1).toNat] := by rw [List.getD_eq_getElem?_getD, List.getElem?_eq_getElem hi]; rfl
          have := hs _ (List.getElem_mem hi)
          rw [e]; omega
        · have e : ((outP st x).ps.map stuffP).getD (x - 1).toNat (0, 0) = (0, 0) := by rw [List.getD_eq_getElem?_getD, List.getElem?_eq_none (by omega)]; rfl
          rw [e]; dsimp only; omega
  · unfold onP
    split
    · exact q3
    · rename_i hx0
      intro y hy
      rcases List.mem_append.mp hy with hy | hy
      · exact q3 y hy
      · rw [List.mem_singleton.mp hy]
        rcases hx with h1 | h1
        · exact absurd h1 hx0
        · exact h1
  · rw [hlen]
    unfold onP
    split
    · omega
    · simp only [List.length_append, List.length_cons, List.length_nil]; omega
  · rw [hlen]
    unfold onP
    split <;> (try dsimp only) <;> omega
theorem passI_zero {ns pre pi oi : List Int} {ps : List (Nat × Nat)} (h : PassI ns pre ⟨ps, pi, oi⟩) (hin : pre.length ≤ 6) : PassI ns (pre ++ [0]) ⟨pi.foldl rotAt ps, [], oi ++ pi.reverse⟩ := by
  have h9 := passI_step (x := 0) h hin (.inl rfl) (by unfold passOk; simp)
  have e : onP (outP ⟨ps, pi, oi⟩ 0) 0 = ⟨pi.foldl rotAt ps, [], oi ++ pi.reverse⟩ := by unfold onP outP; simp
  rw [e] at h9; exact h9
theorem passI_out {ns pre pi oi : List Int} {ps : List (Nat × Nat)} {x : Int} (h : PassI ns pre ⟨ps, pi, oi⟩) (hin : pre.length ≤ 6) (h0 : ¬ x = 0) (hx : 1 ≤ x ∧ x ≤ ns.length) (hok : passOk pi x = true) (hl : lessP pi x = true) : PassI ns (pre ++ [x]) ⟨dotAt ((pi.foldl rotAt ps).map stuffP) x, [] ++ [x], oi ++ pi.reverse⟩ := by
  have h9 := passI_step (x := x) h hin (.inr hx) hok
  have e : onP (outP ⟨ps, pi, oi⟩ x) x = ⟨dotAt ((pi.foldl rotAt ps).map stuffP) x, [] ++ [x], oi ++ pi.reverse⟩ := by unfold onP outP; simp [h0, hl]
  rw [e] at h9; exact h9
theorem passI_on {ns pre pi oi : List Int} {ps : List (Nat × Nat)} {x : Int} (h : PassI ns pre ⟨ps, pi, oi⟩) (hin : pre.length ≤ 6) (h0 : ¬ x = 0) (hx : 1 ≤ x ∧ x ≤ ns.length) (hok : passOk pi x = true) (hl : lessP pi x = false) : PassI ns (pre ++ [x]) ⟨dotAt (ps.map stuffP) x, pi ++ [x], oi⟩ := by
  have h9 := passI_step (x := x) h hin (.inr hx) hok
  have e : onP (outP ⟨ps, pi, oi⟩ x) x = ⟨dotAt (ps.map stuffP) x, pi ++ [x], oi⟩ := by unfold onP outP; simp [h0, hl]
  rw [e] at h9; exact h9
theorem sym_in {ns pre post : List Int} {x : Int} (R : RowIn ns) (e : ns ++ [0] = pre ++ x :: post) (h0 : ¬ x = 0) : 1 ≤ x ∧ x ≤ ns.length := by
  have h : x ∈ ns ++ [0] := by rw [e]; exact List.mem_append_right _ (.head _)
  rcases List.mem_append.mp h with h | h
  · exact R.2 x h
  · exact absurd (List.mem_singleton.mp h) h0
theorem letters_rows {n : Nat} (h : n ≤ 6) : (rangeKs 0 ((n : Int) - 0).toNat).map (fun k => letter k) = rowsT (List.replicate n (0, 0)) := by
  rw [show ((n : Int) - 0).toNat = n by omega]
  apply List.ext_getElem?
  intro i
  simp only [rangeKs, rowsT, List.getElem?_map, List.getElem?_mapIdx]
  by_cases hi : i < n
  · rw [List.getElem?_range hi]
    simp [hi]
    rw [letter_row (by omega) (by omega)]
    simp
  · simp [hi]
theorem pass_for {w : World} {A : Around} {E : Value → Shared → Prop} {Q : Flow → Shared → Prop} {s : Shared} {env : Env} {g : Heap} {l9 po oo ro : Addr} {lv rv : List Value} {nR : Nat} {cb : Option (Addr × Obj)} {m₀ : Str → Option Value} {body : List Stmt} (ns : List Int)
    (hh : A.handled = none) (F : Fr g env.locals s.heap m₀) (N : News g env.locals s.heap (passLed (l9, listOf lv.toArray 0) ⟨po, [], 0, oo, [], 0, ro, rv, nR, pass0 ns, cb⟩)) (hi : IntsAre lv (ns ++ [0]))
    (hS : StrsAre rv (rowsT (List.replicate ns.length (0, 0)))) (hcb : TabOk cb) (f1 : TabOff cb l9 ∧ TabOff cb po ∧ TabOff cb oo ∧ TabOff cb ro) (f2 : @Ne Nat l9 po ∧ @Ne Nat l9 oo ∧ @Ne Nat l9 ro ∧ @Ne Nat po oo ∧ @Ne Nat po ro ∧ @Ne Nat oo ro)
    (h1 : m₀ (Str.ofString "rows") = some (.ref ro)) (h2 : m₀ (Str.ofString "pile") = some (.ref po)) (h3 : m₀ (Str.ofString "out") = some (.ref oo))
    (turn : ∀ (po oo ro : Addr) (pv ov rv : List Value) (nP nO nR : Nat) (ps : List (Nat × Nat)) (pi oi : List Int) (cb : Option (Addr × Obj)) (pre post : List Int) (x : Int) (t : Tok) (u : Str → Option Value) h tk I oI, ns ++ [0] = pre ++ x :: post → IntsAre pv pi → IntsAre ov oi → StrsAre rv (rowsT ps) → TabOk cb → TabOff cb l9 ∧ TabOff cb po ∧ TabOff cb oo ∧ TabOff cb ro ∧ TabOff cb I →
      @Ne Nat l9 po ∧ @Ne Nat l9 oo ∧ @Ne Nat l9 ro ∧ @Ne Nat po oo ∧ @Ne Nat po ro ∧ @Ne Nat oo ro → @Ne Nat l9 I ∧ @Ne Nat po I ∧ @Ne Nat oo I ∧ @Ne Nat ro I → PassI ns pre ⟨ps, pi, oi⟩ →
      Fr g env.locals h (fun z => if z = Str.ofString "symbol" then some (.int x t) else if z = Str.ofString "rows" then some (.ref ro) else if z = Str.ofString "pile" then some (.ref po) else if z = Str.ofString "out" then some (.ref oo) else if [Str.ofString "less", Str.ofString "number"].contains z then u z else m₀ z) →
      News g env.locals h ((I, oI) :: (l9, listOf lv.toArray 0) :: (po, listOf pv.toArray nP) :: (oo, listOf ov.toArray nO) :: (ro, listOf rv.toArray nR) :: tabLed cb) →
      wpAny (model PySem.Challenge.rw_ty0017_01.row.prog w) A (execs body env) (FsPost g env.locals s (passLed (l9, listOf lv.toArray 0)) passPs (passFacts l9) (Str.ofString "symbol") [Str.ofString "less", Str.ofString "number"] m₀ (fun c => PassI ns (pre ++ [x]) c.st) I oI Q) E { s with heap := h, toks := tk })
    (done : ∀ (po oo ro : Addr) (pv ov rv : List Value) (nP nO nR : Nat) (ps : List (Nat × Nat)) (pi oi : List Int) (cb : Option (Addr × Obj)) (u : Str → Option Value) h tk, IntsAre ov oi → StrsAre rv (rowsT ps) → TabOk cb → TabOff cb oo ∧ TabOff cb ro → PassI ns (ns ++ [0]) ⟨ps, pi, oi⟩ →
      Fr g env.locals h (fun z => if z = Str.ofString "symbol" then u z else if z = Str.ofString "rows" then some (.ref ro) else if z = Str.ofString "pile" then some (.ref po) else if z = Str.ofString "out" then some (.ref oo) else if [Str.ofString "less", Str.ofString "number"].contains z then u z else m₀ z) →
      News g env.locals h ((l9, listOf lv.toArray 0) :: (po, listOf pv.toArray nP) :: (oo, listOf ov.toArray nO) :: (ro, listOf rv.toArray nR) :: tabLed cb) → Q .next { s with heap := h, toks := tk }) :
    wpAny (model PySem.Challenge.rw_ty0017_01.row.prog w) A (pyIter (.ref l9)) (fun it s₂ => LoopAtV PySem.Challenge.rw_ty0017_01.row.prog w A g env (Str.ofString "symbol") body Q E it s₂) E s := by
  refine fs_list (σ := PassS) (vs := lv) (ns := ns ++ [0]) (nn := 0) (passLed (l9, listOf lv.toArray 0)) passPs (passFacts l9) [Str.ofString "less", Str.ofString "number"] (fun pre c => PassI ns pre c.st) ⟨po, [], 0, oo, [], 0, ro, rv, nR, pass0 ns, cb⟩ hh (fun c => List.Mem.head _) hi F N ⟨.nil, .nil, hS, hcb, f1.1, f1.2.1, f1.2.2.1, f1.2.2.2, f2⟩ ?_ ?_ ?_ ?_
  · exact List.forall_mem_cons.mpr ⟨h1, List.forall_mem_cons.mpr ⟨h2, List.forall_mem_cons.mpr ⟨h3, List.forall_mem_nil _⟩⟩⟩
  · exact ⟨rfl, by simp [pass0], by simp [pass0], by simp [pass0], by simp [pass0], by simp [pass0]⟩
  · rintro ⟨po, pv, nP, oo, ov, nO, ro, rv, nR, ⟨ps, pi, oi⟩, cb⟩ pre post x t u h tk I oI e ⟨a1, a2, a3, a4, b1, b2, b3, b4, c⟩ hP hn F' N'
    have hoff : ∀ l : List (Addr × Obj), (∀ p ∈ l, p.1 ≠ I) → LCg.Off1 I l := by
      intro l
      induction l with
      | nil => intro _; exact True.intro
      | cons p l ih => intro hl; exact ⟨hl _ (.head _), ih fun q hq => hl q (.tail _ hq)⟩
    exact turn po oo ro pv ov rv nP nO nR ps pi oi cb pre post x t u h tk I oI e a1 a2 a3 a4 ⟨b1, b2, b3, b4, hoff _ fun p hp => hn p (.tail _ (.tail _ (.tail _ (.tail _ hp))))⟩ c ⟨hn _ (.head _), hn _ (.tail _ (.head _)), hn _ (.tail _ (.tail _ (.head _))), hn _ (.tail _ (.tail _ (.tail _ (.head _))))⟩ hP F' N'
  · rintro ⟨po, pv, nP, oo, ov, nO, ro, rv, nR, ⟨ps, pi, oi⟩, cb⟩ u h tk ⟨a1, a2, a3, a4, b1, b2, b3, b4, c⟩ hP F' N'
    exact done po oo ro pv ov rv nP nO nR ps pi oi cb u h tk a2 a3 a4 ⟨b3, b4⟩ hP F' N'
def LessQ (g : Heap) (L : Addr) (s : Shared) (m₀ : Str → Option Value) (news : List (Addr × Obj)) (b : Bool) (f : Flow) (s₂ : Shared) : Prop :=
  match f with
  | .next => ∃ (h : Heap) (tk : Nat), s₂ = { s with heap := h, toks := tk } ∧ Fr g L h (fun z => if z = Str.ofString "less" then some (.bool b) else m₀ z) ∧ News g L h news
  | _ => False
theorem less_exit {M : Model} {A : Around} {E : Value → Shared → Prop} {Q : Flow → Shared → Prop} {s : Shared} {t : Sem Flow} {g : Heap} {L : Addr} {m₀ : Str → Option Value} {news : List (Addr × Obj)} (b : Bool) (_F : Fr g L s.heap m₀) (_N : News g L s.heap news)
    (h : wpAny M A t (LessQ g L s m₀ news b) E s)
    (c : ∀ (h : Heap) (tk : Nat), Fr g L h (fun z => if z = Str.ofString "less" then some (.bool b) else m₀ z) → News g L h news → Q .next { s with heap := h, toks := tk }) :
    wpAny M A t Q E s := by
  refine wpAny_mono h (fun f s₂ q => ?_) fun _ _ x => x
  cases f with
  | next => obtain ⟨h', tk, rfl, F', N'⟩ := q; exact c h' tk F' N'
  | cont => exact q.elim
  | brk => exact q.elim
  | ret v => exact q.elim
theorem less_no {pi : List Int} {x : Int} (h : decide (pi = []) = true) : (!decide (pi = [])) = lessP pi x := by
  unfold lessP; simp at h; subst h; rfl
theorem less_zero {pi : List Int} {B : Int} (h : ∀ x ∈ pi, 1 ≤ x ∧ x ≤ B) : lessP pi 0 = false := by
  unfold lessP
  cases pi with
  | nil => rfl
  | cons a l =>
    have e : (a :: l).getLastD 0 = (a :: l).getLast (by simp) := rfl
    have h9 := h _ (List.getLast_mem (show a :: l ≠ [] by simp))
    have h8 : decide ((a :: l).getLastD 0 < 0) = false := decide_eq_false (by rw [e]; omega)
    rw [h8, Bool.and_false]
theorem row_at {ps : List (Nat × Nat)} {B : Nat} {k : Int} (h : ∀ p ∈ ps, p.1 + p.2 ≤ B) (h0 : 0 ≤ k) (h1 : k < ps.length) : (ps.getD k.toNat (0, 0)).1 + (ps.getD k.toNat (0, 0)).2 ≤ B := by
  have hi : k.toNat < ps.length := by omega
  have e : ps.getD k.toNat (0, 0) = ps[k.toNat] := by rw [List.getD_eq_getElem?_getD, List.getElem?_eq_getElem hi]; rfl
  rw [e]; exact h _ (List.getElem_mem hi)
theorem pass_ok {pi : List Int} {x : Int} (a : (lessP pi x != decide (bisL (negs pi) (-x) < pi.length)) = false) : passOk pi x = true := by
  unfold passOk
  simp only [bne_eq_false_iff_eq] at a
  rw [a]; simp
theorem pass_fail {ns pre post pi oi : List Int} {ps : List (Nat × Nat)} {x : Int} (h : PassI ns pre ⟨ps, pi, oi⟩) (ex : ns ++ [0] = pre ++ x :: post) (hx : ¬ x = 0) (a : (lessP pi x != decide (bisL (negs pi) (-x) < pi.length)) = true) : passF ns = ([], []) := by
  have h1 : passOk pi x = false := by
    unfold passOk
    rw [decide_eq_false hx, Bool.false_or]
    rw [bne, Bool.not_eq_true'] at a
    exact a
  have h2 : passRun (ns ++ [0]) (pass0 ns) = none := by
    rw [ex, passRun_append, h.e]
    show (passStep ⟨ps, pi, oi⟩ x).bind (passRun post) = none
    unfold passStep
    rw [if_neg (by rw [h1]; decide)]; rfl
  unfold passF
  rw [h2]
theorem pass_done {ns pi oi : List Int} {ps : List (Nat × Nat)} (h : PassI ns (ns ++ [0]) ⟨ps, pi, oi⟩) : passF ns = (oi, ps) := by
  unfold passF
  rw [h.e]
theorem ints_concat {x : Int} {t : Tok} : ∀ {vs : List Value} {ns : List Int}, IntsAre vs ns → IntsAre (vs.toArray.toList.concat (.int x t)) (ns ++ [x])
  | _, _, .nil => .cons _ _ .nil
  | _, _, .cons y u h => .cons y u (ints_concat h)
theorem qual_is (sc : Scope) (L f : Addr) (cd : Value) : (envOf (Str.ofString "_law_pass") sc L f cd).qual ++ Str.ofString "<lambda>" = Str.ofString "_law_pass.<locals>.<lambda>" := by
  show (Str.ofString "_law_pass" ++ Str.ofString ".<locals>.") ++ Str.ofString "<lambda>" = _
  decide +kernel
theorem tab_q {vs : Array Value} {t : Tok} {sc : Scope} {L f : Addr} {cd : Value} (h : vs[1]? = some (.str ((envOf (Str.ofString "_law_pass") sc L f cd).qual ++ Str.ofString "<lambda>") t)) : vs[1]? = some (.str (Str.ofString "_law_pass.<locals>.<lambda>") t) := by
  rw [qual_is] at h; exact h
theorem news_sub {g h : Heap} {L : Addr} {a b : List (Addr × Obj)} (N : News g L h a) (hn : ∀ p ∈ b, p ∈ a) : News g L h b := fun p hp => N p (hn p hp)
theorem less_yes {pi : List Int} {x : Int} (h : decide (pi = []) = false) : decide (256 + pi.getLastD 0 - x < 256) = lessP pi x := by
  have h' : pi ≠ [] := by simpa using h
  unfold lessP
  rw [decide_eq_true h', Bool.true_and]
  exact decide_eq_decide.mpr (by omega)
section
variable {w : World} {A : Around} {s : Shared} {Q E : Value → Shared → Prop} {h₀ : Heap} {L : Addr} {m : Str → Option Value} {news : List (Addr × Obj)}
theorem top_item {value slice : Expr} {l : Addr} {vs : List Value} {ns : List Int} {n : Nat} {u : Tok} (N : News h₀ L s.heap news) (hm : (l, listOf vs.toArray n) ∈ news) (hi : IntsAre vs ns) (hne : decide (ns = []) = false)
    (h : ∀ t, Q (.int (ns.getLastD 0) t) s)
    (hs : subscripted slice false (.ref l) (.int (-1) u) = operate [.ref l, .int (-1) u] (getItem (.ref l) (.int (-1) u)) := by with_unfolding_all rfl) :
    wpAny (model PySem.Challenge.rw_ty0017_01.row.prog w) A (subscriptTail value slice (.ref l) (.int (-1) u)) Q E s := by
  have h' : ns ≠ [] := by simpa using hne
  have hl : 0 < ns.length := List.length_pos_iff.mpr h'
  refine item_list_ints_negR ⟨_, N.get hm, rfl, _, rfl⟩ hi (by decide) (by omega) (by decide) (fun t => ?_) hs
  have e : ns.getD ((-1 : Int) + ns.length).toNat 0 = ns.getLastD 0 := by
    rw [show ((-1 : Int) + ns.length).toNat = ns.length - 1 by omega, List.getLastD_eq_getLast?, List.getLast?_eq_getElem?, List.getD_eq_getElem?_getD]
  rw [e]; exact h t
theorem iseof_0 {tx : Tok} (F : Fr h₀ L s.heap m) (N : News h₀ L s.heap news) (C : Ctx w 2 16 A s.heap)
    (h : ∀ h' tk', Fr h₀ L h' m → News h₀ L h' news → Q (.bool true) { s with heap := h', toks := tk' }) :
    wpAny (model PySem.Challenge.rw_ty0017_01.row.prog w) A (call (.ref 96) [.int 0 tx] []) Q E s := iseof_N F N C h
theorem iseof_1 {x : Int} {tx : Tok} (F : Fr h₀ L s.heap m) (N : News h₀ L s.heap news) (C : Ctx w 2 16 A s.heap) (hx : ¬ x = 0)
    (h : ∀ h' tk', Fr h₀ L h' m → News h₀ L h' news → Q (.bool false) { s with heap := h', toks := tk' }) :
    wpAny (model PySem.Challenge.rw_ty0017_01.row.prog w) A (call (.ref 96) [.int x tx] []) Q E s := iseof_N F N C fun h' tk' F' N' => by
  rw [decide_eq_false hx]; exact h h' tk' F' N'
theorem bisK_N {l f c' : Addr} {kw : List (Str × Value)} {nm qual q2 : Str} {p p1 p2 : Pos} {pm ctv : Value} {oc : Obj} {cvs : Array Value} {ct : Tok} {vs : List Value} {ns : List Int} {n : Nat} {x : Int} {tx : Tok}
    (hkw : kw = [(Str.ofString "key", .ref f)])
    (F : Fr h₀ L s.heap m) (N : News h₀ L s.heap news) (hm : (l, listOf vs.toArray n) ∈ news) (C : Ctx w 4 40 A s.heap) (hi : IntsAre vs ns) (hlen : ns.length < 50)
    (hf : (f, kla_obj nm qual (lamPar p) (lamBody p1 p2) lamScope [] pm c' ctv) ∈ news) (hc : (c', oc) ∈ news) (hd : oc.data = .fields cvs) (hq : cvs[1]? = some (.str q2 ct)) (hqq : qual = q2)
    (h : ∀ t h' tk', Fr h₀ L h' m → News h₀ L h' news → Q (.int (bisL (negs ns) x) t) { s with heap := h', toks := tk' }) :
    wpAny (model PySem.Challenge.rw_ty0017_01.row.prog w) A (call (.ref 75) [.ref l, .int x tx] kw) Q E s := by
  rw [hkw]
  subst hqq
  exact bisK_spec C ⟨_, N.get hm, rfl, _, rfl⟩ hi (by omega) (N.get hf) ⟨c', oc, _, ct, rfl, N.get hc, hd, hq⟩ fun t h' tk' k => h t h' tk' (fr_stay F k) (news_stay N k)
theorem quote_N {x : Str} {tx : Tok} (F : Fr h₀ L s.heap m) (N : News h₀ L s.heap news) (C : Ctx w 2 16 A s.heap) (hx : x.length ≤ 1000)
    (h : ∀ t h' tk', Fr h₀ L h' m → News h₀ L h' news → Q (.str (quotS x) t) { s with heap := h', toks := tk' }) :
    wpAny (model PySem.Challenge.rw_ty0017_01.row.prog w) A (call (.ref 48) [.str x tx] []) Q E s :=
  quote_spec C hx fun t h' tk' k => h t h' tk' (fr_stay F k) (news_stay N k)
end
local macro_rules | `(tactic| ktn_open) => `(tactic| (refine' code_H ?k1 ?k2 ?k4 ?k3 ?k5 ?kA ?kF ?kK ?k6 ?k7 ?k8 ?k9 ?kB ?_ ?c2 ?c3 ?c4 ?c5; (case kA => exact rfl); (case kF => exact rfl); (case kK => assumption); (case k1 => k_asm); (case k2 => k_asm); (case k4 => k_asm); (case k3 => k_asm); (case k5 => k_asm); (case k6 => k_is); (case k7 => k_is); (case k8 => ktr_room); (case k9 => first | exact BindsTo.of_eq rfl | (refine' kp_binds ?kx ?ke; (case kx => k_in); (case ke => exact fun _ => rfl))); (case c5 => decide); (case kB => exact locs rfl); (case c2 => exact rfl); (case c3 => exact rfl); (case c4 => exact rfl); k_whole; intro L' h' F' N' B' X' T' l'; (try dsimp only); (try k_fold)))
theorem words_Pass17_1 : True := by
  k_with "w subscriptTail" => (k_here; (with_reducible show wpAny _ _ (subscriptTail _ _ (Value.str _ _) (Value.int _ _)) _ _ _); refine letter_item (by omega) (by omega) ?_)
  k_with "w CompSrc" => (k_here; k_dflt (refine LCg.CompSrc.range (by rfl) (by k_asm) (by k_asm) (by assumption) (small_one (by omega) (by omega) (by omega) (by omega)) (by first | exact rangeSize_nat _ _ | rfl) (by rw [PySem.sizeLine_eq]; omega) ?_; intro _; (refine kct_range (fun k => letter k) (fun _ _ _ _ _ _ _ _ _ _ _ _ _ _ _ _ _ _ off' _ => ?_) ?_); (all_goals (try (simp only [LCg.Off3, and_true] at off'))); (all_goals (try ((show KPfMark → _); intro _))); kcf_last))
  k_with "w CompEnd" => exact LCg.CompEnd.intro (by assumption) (by assumption) (tabLed _) (fun _ hp => hp) (by first | assumption | (simp only [LCg.Off3, and_true]; assumption)) True.intro ⟨rfl, _, rfl⟩
  k_with "w KCtEl" => exact ⟨rfl, _, rfl⟩
  k_with "w subscriptTail" => (k_here; (with_reducible show wpAny _ _ (subscriptTail _ _ (Value.ref _) (Value.int _ _)) _ _ _); (try dsimp only); refine row_item (by k_asm) (by k_mem) (by assumption) (by omega) (by omega) (by omega) ?_; intro _)
  k_with "w subscriptTail" => (k_here; (with_reducible show wpAny _ _ (subscriptTail _ _ (Value.str _ _) (Value.int _ _)) _ _ _); refine row_last ?_)
  k_with "w subscriptTail" => (k_here; (with_reducible show wpAny _ _ (subscriptTail _ _ (Value.str _ _) (Value.ref _)) _ _ _); refine slice_strN_ns (s := ⟨_, _, _, _, _⟩) (by k_asm) (by k_asm) ?_ (hsz := (by (rw [rowT_len, sizeLine_eq]; omega))); intro _ _ _ _ _)
  k_with "w binaryOp Add str str" => (k_here; first | (refine row_add (by omega) ?_; intro _ _; (try dsimp only)) | (refine dot_add ?_ ?_; (focus (refine Nat.le_trans (row_at (B := 15) ?_ ?_ ?_) (by decide); (focus assumption); (focus omega); (focus omega))); intro _ _; (try dsimp only)))
  k_with "w setItem ref int" => (k_here; (with_reducible show wpAny _ _ (setItem (Value.ref _) (Value.int _ _) (Value.str _ _)) _ _ _); refine row_set (by k_asm) (by k_asm) (by k_upd) (by assumption) (by omega) (by omega) (by omega) ?_; intro _ _ _ _)
  k_with "w subscriptTail Name UnaryOp ref int" => (k_here; (with_reducible show wpAny _ _ (subscriptTail _ _ (Value.ref _) (Value.int _ _)) _ _ _); refine top_item (by k_asm) (by k_mem) (by assumption) (by assumption) ?_; intro _)
  k_with "w call ref" => (k_here; refine isterm_N (by k_asm) (by k_asm) (by exact (Ctx.mk (by k_asm) (by k_asm) (by k_asm) (by k_asm) (by first | exact rfl | assumption) (by ktr_room) (by ktr_units))) ?_; intro _ _ _ _)
  k_with "w call ref" => (k_here; refine iseof_0 (by k_asm) (by k_asm) (by exact (Ctx.mk (by k_asm) (by k_asm) (by k_asm) (by k_asm) (by first | exact rfl | assumption) (by ktr_room) (by ktr_units))) ?_; intro _ _ _ _)
  k_with "w call ref" => (k_here; refine iseof_1 (by k_asm) (by k_asm) (by exact (Ctx.mk (by k_asm) (by k_asm) (by k_asm) (by k_asm) (by first | exact rfl | assumption) (by ktr_room) (by ktr_units))) (by assumption) ?_; intro _ _ _ _)
  k_with "w call ref" => (k_here; (with_reducible show wpAny _ _ (call (Value.ref _) [Value.ref _, Value.int _ _] _) _ _ _); refine bisK_N (by exact rfl) (by k_asm) (by k_asm) (by k_mem) (by exact (Ctx.mk (by k_asm) (by k_asm) (by k_asm) (by k_asm) (by first | exact rfl | assumption) (by ktr_room) (by ktr_units))) (by assumption) (by omega) (by k_mem) (by k_mem) (by with_reducible assumption) (by with_reducible assumption) (by first | with_reducible rfl | exact qual_is _ _ _ _) ?_; intro _ _ _ _ _)
  k_with "w call builtin:str.join" => (k_here; (with_reducible show wpAny _ _ (call (Value.builtin _) [Value.str _ _, Value.ref _]) _ _ _); refine rows_join (by k_asm) (by k_mem) (by assumption) (by omega) (by assumption) (by assumption) ?_; intro _ _ _; (try dsimp only))
  k_with "w call ref" => (k_here; (with_reducible show wpAny _ _ (call (Value.ref _) [Value.str _ _] []) _ _ _); refine quote_N (by k_asm) (by k_asm) (by exact (Ctx.mk (by k_asm) (by k_asm) (by k_asm) (by k_asm) (by first | exact rfl | assumption) (by ktr_room) (by ktr_units))) (by assumption) ?_; intro _ _ _ _ _; (try dsimp only))
  k_with "w call builtin:str.split" => (k_here; (with_reducible show wpAny _ _ (call (Value.builtin _) [Value.str _ _, Value.str _ _]) _ _ _); refine rows_split (by k_asm) (by k_asm) (by omega) (by omega) (by assumption) (by assumption) ?_; intro _ _ _ _ _ _ _ _ _ _ _ l1; (try dsimp only); (try k_lt l1))
  trivial
set_option maxHeartbeats 20000000 in
theorem pass_spec {w : World} {A : Around} {s : Shared} {Q E : Value → Shared → Prop} {l : Addr} {vs : List Value} {ns : List Int} {e : Str} {te : Tok} {cb : Option (Addr × Obj)}
    (C : CtxN w 8 80 A s.heap (tabLed cb)) (hc : CodeHd (hideAll s.heap ((tabLed cb).map (·.1))) 100 98) (hl : (hideAll s.heap ((tabLed cb).map (·.1))).IsList l vs.toArray) (hi : IntsAre vs ns) (R : RowIn ns)
    (he : e.cps.toList = [10] ∨ e.cps.toList = [13] ∨ e.cps.toList = [13, 10]) (hcb : TabOk cb)
    (ret : ∀ (T O Y : Addr) (ov rv : List Value) (nO nY : Nat) (cb' : Option (Addr × Obj)) (L' : Addr) (h' : Heap) (tk' : Nat), (∀ b o, (hideAll s.heap ((tabLed cb).map (·.1))).get? b = some o → h'.get? b = some o) →
      News (hideAll s.heap ((tabLed cb).map (·.1))) L' h' ((T, { cls := .type "tuple", data := .seq #[.ref O, .ref Y] }) :: (O, listOf ov.toArray nO) :: (Y, listOf rv.toArray nY) :: tabLed cb') → IntsAre ov (passF ns).1 → StrsAre rv (rowsT (passF ns).2) → TabOk cb' → TabOff cb' O → TabOff cb' Y → Q (.ref T) { s with heap := h', toks := tk' }) :
    wpAny (model PySem.Challenge.rw_ty0017_01.row.prog w) A (call (.ref 101) [.ref l, .str e te] []) Q E s := by
  have hlen : ns.length < 50 := by have := R.1; omega
  have hlen6 : ns.length ≤ 6 := R.1
  obtain ⟨B, F, N, X, T, hk, hd, hu⟩ := C
  revert X
  k_fill
  intro X
  refine wpAny_call ?_
  k_dflt ktn_open
  k_with "exec For" => (refine' For_invVF ?k0 ?k1 ?k2 ?_; (case k0 => k_asm); (case k1 => exact rfl); (case k2 => exact rfl))
  k_with "pyIter ref" => refine hold ?_
  k_steps
  refine Hold.mk ?_
  refine' pass_for (cb := cb) ns rfl (by k_asm) ?kN (by assumption) ?kS hcb ?k1 ?k2 ?h1 ?h2 ?h3 ?turn ?done
  case h1 => with_unfolding_all rfl
  case h2 => with_unfolding_all rfl
  case h3 => with_unfolding_all rfl
  case kN =>
    rename News _ _ _ _ => nN
    intro p hp
    rcases List.mem_cons.mp hp with rfl | hp
    · exact nN _ (.head _)
    rcases List.mem_cons.mp hp with rfl | hp
    · exact nN _ (.tail _ (.tail _ (.tail _ (.head _))))
    rcases List.mem_cons.mp hp with rfl | hp
    · exact nN _ (.tail _ (.tail _ (.head _)))
    rcases List.mem_cons.mp hp with rfl | hp
    · exact nN _ (.tail _ (.tail _ (.tail _ (.tail _ (.head _)))))
    · exact nN _ (.tail _ (.tail _ (.tail _ (.tail _ (.tail _ hp)))))
  case kS =>
    rename CarriedAll _ _ => cA
    have e9 := letters_rows hlen6
    rw [← e9]
    refine StrsAre.ofCarried ?_
    rw [List.map_map]
    exact cA
  case k1 => exact ⟨off_of_lt (by simp_all), off_of_lt (by simp_all), off_of_lt (by simp_all), by assumption⟩
  case k2 => omega
  case turn =>
    intro po oo ro pv ov rv nP nO nR ps pi oi cb pre post x t u h tk I oI ex hpi hoi hS hcb ⟨o1, o2, o3, o4, o5⟩ ⟨n1, n2, n3, n4, n5, n6⟩ ⟨i1, i2, i3, i4⟩ hP F' N'
    k_fold
    refine wpAny_execs_cons ?_
    refine' less_exit (lessP pi x) (by k_asm) (by k_asm) ?w ?c
    case w =>
      k_fold
      k_steps
      all_goals
        rename Fr _ _ _ _ => fN
        rename News _ _ _ _ => nN
        first
        | (have e9 := less_yes (pi := pi) (x := x) (by assumption); rw [e9] at fN; exact ⟨_, _, rfl, fN, fun p hp => nN p (.tail _ hp)⟩)
        | (have e9 := less_no (pi := pi) (x := x) (by assumption); rw [e9] at fN; exact ⟨_, _, rfl, fN, fun p hp => nN p (.tail _ hp)⟩)
    case c =>
      intro h' tk' F' N'
      dsimp only
      have hpl : ps.length = ns.length := hP.l
      have hPb : ∀ p ∈ ps, p.1 + p.2 ≤ 2 * pre.length := hP.b
      have hin : pre.length ≤ 6 := by have h9 := congrArg List.length ex; simp at h9; omega
      have hpi6 : pi.length ≤ 6 := Nat.le_trans hP.pl hin
      have hoi6 : oi.length ≤ 42 := by have h9 : oi.length ≤ 7 * pre.length := hP.ol; omega
      have hpv6 : pv.length ≤ 6 := by rw [hpi.length]; exact hpi6
      have hov6 : ov.length ≤ 42 := by rw [hoi.length]; exact hoi6
      rcases cb with _ | ⟨c', oc⟩
      all_goals
        simp only [TabOff, tabLed, LCg.Off1, and_true] at o1 o2 o3 o4 o5
        dsimp only [tabLed] at N'
        try (have hcb2 := hcb; obtain ⟨cvs, ct, hcd, hcq, hcn⟩ := hcb2; dsimp only at hcd)
        by_cases hx : x = 0
      case pos =>
        subst hx
        have hl0 : lessP pi 0 = false := less_zero hP.p
        rw [hl0] at F'
        k_steps
        refine Hold.mk ?_
        refine' pass_rot rfl (by k_asm) (by k_asm) (by k_mem) ?U2a n5 hpi hS ?turn2a ?done2a
        case U2a => k_updF
        case turn2a =>
          intro rv' nR' ps' pre' post' n t' u' h'' tk'' I' oI' epi eps hS' hI' F'' N''
          k_fold
          try dsimp only at hI' N''
          have hps : ps'.length = ns.length := by rw [eps, rots_len]; exact hpl
          have hn := hP.p n (by rw [epi]; exact List.mem_append_right _ (.head _))
          have hb := row_at (k := n - 1) (rots_bound pre' hPb) (by omega) (by rw [rots_len]; omega)
          rw [← eps] at hb
          simp only [List.forall_mem_cons] at hI'
          k_steps
          rename StrsAre _ _ => hi9
          exact ⟨_, _, _, _, _, rfl, by assumption, by assumption, hi9, fun z hz => if_neg hz⟩
        case done2a =>
          intro rv' nR' u' h'' tk'' hS' F'' N''
          try dsimp only at N''
          dsimp only
          k_steps
          dsimp only [FsPost]
          rename News _ _ _ _ => nE'
          rename IntsAre _ _ => hI9
          have hP9 := passI_zero hP hin
          refine' fs_end (⟨_, [], _, _, _, _, _, _, _, ⟨pi.foldl rotAt ps, [], oi ++ pi.reverse⟩, none⟩ : PassS) (by assumption) ?namesa nE' ?suba ?offa ⟨.nil, hI9, hS', True.intro, ?t1a, ?t2a, ?t3a, ?t4a, ?f1a, ?f2a, ?f3a, ?f4a, ?f5a, ?f6a⟩ ?samea hP9
          case namesa => kst_all
          case suba =>
            dsimp only [passLed, tabLed]
            repeat' (first | exact List.forall_mem_nil _ | refine List.forall_mem_cons.mpr ⟨?_, ?_⟩)
            all_goals k_mem
          case samea => kst_same
          case offa =>
            dsimp only [passLed, tabLed]
            repeat' (first | exact List.forall_mem_nil _ | refine List.forall_mem_cons.mpr ⟨?_, ?_⟩)
            all_goals (show @Ne Nat _ _; first | k_ne | omega)
          all_goals (dsimp only [TabOff, tabLed, LCg.Off1]; first | (refine ⟨?_, ?_, True.intro⟩ <;> first | k_ne | omega) | (refine ⟨?_, True.intro⟩; first | k_ne | omega) | k_ne | omega)
      case neg =>
        have hxr : 1 ≤ x ∧ x ≤ ns.length := sym_in R ex hx
        have hb14 : ∀ p ∈ ps, p.1 + p.2 ≤ 14 := fun p hp => by have h9 := hPb p hp; omega
        k_steps
        · rename News _ _ _ _ => nT
          have e0 := pass_fail hP ex hx (by assumption)
          dsimp only [qk, FsPost]
          refine' ret _ _ _ [] [] 0 0 (some (_, _)) _ _ _ ?keepa (news_sub nT ?sub0a) ?ria ?rsa ?tk0a ?o1a ?o2a
          case sub0a =>
            dsimp only [tabLed]
            repeat' (first | exact List.forall_mem_nil _ | refine List.forall_mem_cons.mpr ⟨?_, ?_⟩)
            all_goals k_mem
          case keepa =>
            rename ∀ (b : Addr) (o : Obj), _ => hk9
            intro b o e9
            exact hk9 b o (Fr.keep (by assumption) b o e9)
          case ria => rw [e0]; exact .nil
          case rsa => rw [e0]; exact .nil
          case tk0a => exact ⟨_, _, by with_reducible assumption, tab_q (by with_reducible assumption), by omega⟩
          all_goals (dsimp only [TabOff, tabLed, LCg.Off1]; refine ⟨?_, ?_, True.intro⟩ <;> first | k_ne | omega)
        · refine Hold.mk ?_
          refine' pass_rot rfl (by k_asm) (by k_asm) (by k_mem) ?U3a n5 hpi hS ?turn3a ?done3a
          case U3a => k_updF
          case turn3a =>
            intro rv' nR' ps' pre' post' n t' u' h'' tk'' I' oI' epi eps hS' hI' F'' N''
            k_fold
            try dsimp only at hI' N''
            have hps : ps'.length = ns.length := by rw [eps, rots_len]; exact hpl
            have hn := hP.p n (by rw [epi]; exact List.mem_append_right _ (.head _))
            have hb := row_at (k := n - 1) (rots_bound pre' hPb) (by omega) (by rw [rots_len]; omega)
            rw [← eps] at hb
            simp only [List.forall_mem_cons] at hI'
            k_steps
            rename StrsAre _ _ => hi9
            exact ⟨_, _, _, _, _, rfl, by assumption, by assumption, hi9, fun z hz => if_neg hz⟩
          case done3a =>
            intro rv' nR' u' h'' tk'' hS' F'' N''
            try dsimp only at N''
            dsimp only
            obtain ⟨ps1, hps1⟩ : ∃ q, q = pi.foldl rotAt ps := ⟨_, rfl⟩
            rw [← hps1] at hS'
            have hl1 : ps1.length = ns.length := by rw [hps1, rots_len]; exact hpl
            have hb1 : ∀ p ∈ ps1, p.1 + p.2 ≤ 14 := by rw [hps1]; exact rots_bound pi hb14
            k_steps
            dsimp only [FsPost]
            subst hps1
            rename _ = List.map stuffP _ => eps9
            subst eps9
            rename News _ _ _ _ => nE'
            rename StrsAre _ _ => hS8
            rename IntsAre _ _ => hI9
            have hP9 := passI_out hP hin hx hxr (pass_ok (by assumption)) (by assumption)
            refine' fs_end (⟨_, _, _, _, _, _, _, _, _, ⟨_, _, _⟩, some (_, _)⟩ : PassS) (by assumption) ?namesap nE' ?subap ?offap ⟨?i1ap, ?i2ap, ?i3ap, ?tkap, ?t1ap, ?t2ap, ?t3ap, ?t4ap, ?f1ap, ?f2ap, ?f3ap, ?f4ap, ?f5ap, ?f6ap⟩ ?sameap hP9
            case namesap => kst_all
            case subap =>
              dsimp only [passLed, tabLed]
              repeat' (first | exact List.forall_mem_nil _ | refine List.forall_mem_cons.mpr ⟨?_, ?_⟩)
              all_goals k_mem
            case i1ap => first | exact ints_concat hpi | exact ints_concat (vs := []) .nil
            case i2ap => assumption
            case i3ap => assumption
            case tkap => exact ⟨_, _, by with_reducible assumption, tab_q (by with_reducible assumption), by omega⟩
            case sameap => kst_same
            case offap =>
              dsimp only [passLed, tabLed]
              repeat' (first | exact List.forall_mem_nil _ | refine List.forall_mem_cons.mpr ⟨?_, ?_⟩)
              all_goals (show @Ne Nat _ _; first | k_ne | omega)
            all_goals (dsimp only [TabOff, tabLed, LCg.Off1]; first | (refine ⟨?_, ?_, True.intro⟩ <;> first | k_ne | omega) | (refine ⟨?_, True.intro⟩; first | k_ne | omega) | k_ne | omega)
        · dsimp only [qk, FsPost]
          rename _ = List.map stuffP _ => eps9
          subst eps9
          rename News _ _ _ _ => nE'
          rename StrsAre _ _ => hS8
          rename IntsAre _ _ => hI9
          have hP9 := passI_on hP hin hx hxr (pass_ok (by assumption)) (by assumption)
          refine' fs_end (⟨_, _, _, _, _, _, _, _, _, ⟨_, _, _⟩, some (_, _)⟩ : PassS) (by assumption) ?namesaq nE' ?subaq ?offaq ⟨?i1aq, ?i2aq, ?i3aq, ?tkaq, ?t1aq, ?t2aq, ?t3aq, ?t4aq, ?f1aq, ?f2aq, ?f3aq, ?f4aq, ?f5aq, ?f6aq⟩ ?sameaq hP9
          case namesaq => kst_all
          case subaq =>
            dsimp only [passLed, tabLed]
            repeat' (first | exact List.forall_mem_nil _ | refine List.forall_mem_cons.mpr ⟨?_, ?_⟩)
            all_goals k_mem
          case i1aq => first | exact ints_concat hpi | exact ints_concat (vs := []) .nil
          case i2aq => assumption
          case i3aq => assumption
          case tkaq => exact ⟨_, _, by with_reducible assumption, tab_q (by with_reducible assumption), by omega⟩
          case sameaq => kst_same
          case offaq =>
            dsimp only [passLed, tabLed]
            repeat' (first | exact List.forall_mem_nil _ | refine List.forall_mem_cons.mpr ⟨?_, ?_⟩)
            all_goals (show @Ne Nat _ _; first | k_ne | omega)
          all_goals (dsimp only [TabOff, tabLed, LCg.Off1]; first | (refine ⟨?_, ?_, True.intro⟩ <;> first | k_ne | omega) | (refine ⟨?_, True.intro⟩; first | k_ne | omega) | k_ne | omega)
      case pos =>
        subst hx
        have hl0 : lessP pi 0 = false := less_zero hP.p
        rw [hl0] at F'
        k_steps
        refine Hold.mk ?_
        refine' pass_rot rfl (by k_asm) (by k_asm) (by k_mem) ?U2b n5 hpi hS ?turn2b ?done2b
        case U2b => k_updF
        case turn2b =>
          intro rv' nR' ps' pre' post' n t' u' h'' tk'' I' oI' epi eps hS' hI' F'' N''
          k_fold
          try dsimp only at hI' N''
          have hps : ps'.length = ns.length := by rw [eps, rots_len]; exact hpl
          have hn := hP.p n (by rw [epi]; exact List.mem_append_right _ (.head _))
          have hb := row_at (k := n - 1) (rots_bound pre' hPb) (by omega) (by rw [rots_len]; omega)
          rw [← eps] at hb
          simp only [List.forall_mem_cons] at hI'
          k_steps
          rename StrsAre _ _ => hi9
          exact ⟨_, _, _, _, _, rfl, by assumption, by assumption, hi9, fun z hz => if_neg hz⟩
        case done2b =>
          intro rv' nR' u' h'' tk'' hS' F'' N''
          try dsimp only at N''
          dsimp only
          k_steps
          dsimp only [FsPost]
          rename News _ _ _ _ => nE'
          rename IntsAre _ _ => hI9
          have hP9 := passI_zero hP hin
          refine' fs_end (⟨_, [], _, _, _, _, _, _, _, ⟨pi.foldl rotAt ps, [], oi ++ pi.reverse⟩, some (_, _)⟩ : PassS) (by assumption) ?namesb nE' ?subb ?offb ⟨.nil, hI9, hS', hcb, ?t1b, ?t2b, ?t3b, ?t4b, ?f1b, ?f2b, ?f3b, ?f4b, ?f5b, ?f6b⟩ ?sameb hP9
          case namesb => kst_all
          case subb =>
            dsimp only [passLed, tabLed]
            repeat' (first | exact List.forall_mem_nil _ | refine List.forall_mem_cons.mpr ⟨?_, ?_⟩)
            all_goals k_mem
          case sameb => kst_same
          case offb =>
            dsimp only [passLed, tabLed]
            repeat' (first | exact List.forall_mem_nil _ | refine List.forall_mem_cons.mpr ⟨?_, ?_⟩)
            all_goals (show @Ne Nat _ _; first | k_ne | omega)
          all_goals (dsimp only [TabOff, tabLed, LCg.Off1]; first | (refine ⟨?_, ?_, True.intro⟩ <;> first | k_ne | omega) | (refine ⟨?_, True.intro⟩; first | k_ne | omega) | k_ne | omega)
      case neg =>
        have hxr : 1 ≤ x ∧ x ≤ ns.length := sym_in R ex hx
        have hb14 : ∀ p ∈ ps, p.1 + p.2 ≤ 14 := fun p hp => by have h9 := hPb p hp; omega
        k_steps
        · rename News _ _ _ _ => nT
          have e0 := pass_fail hP ex hx (by assumption)
          dsimp only [qk, FsPost]
          refine' ret _ _ _ [] [] 0 0 (some (_, _)) _ _ _ ?keepb (news_sub nT ?sub0b) ?rib ?rsb ?tk0b ?o1b ?o2b
          case sub0b =>
            dsimp only [tabLed]
            repeat' (first | exact List.forall_mem_nil _ | refine List.forall_mem_cons.mpr ⟨?_, ?_⟩)
            all_goals k_mem
          case keepb =>
            rename ∀ (b : Addr) (o : Obj), _ => hk9
            intro b o e9
            exact hk9 b o (Fr.keep (by assumption) b o e9)
          case rib => rw [e0]; exact .nil
          case rsb => rw [e0]; exact .nil
          case tk0b => exact hcb
          all_goals (dsimp only [TabOff, tabLed, LCg.Off1]; refine ⟨?_, ?_, True.intro⟩ <;> first | k_ne | omega)
        · refine Hold.mk ?_
          refine' pass_rot rfl (by k_asm) (by k_asm) (by k_mem) ?U3b n5 hpi hS ?turn3b ?done3b
          case U3b => k_updF
          case turn3b =>
            intro rv' nR' ps' pre' post' n t' u' h'' tk'' I' oI' epi eps hS' hI' F'' N''
            k_fold
            try dsimp only at hI' N''
            have hps : ps'.length = ns.length := by rw [eps, rots_len]; exact hpl
            have hn := hP.p n (by rw [epi]; exact List.mem_append_right _ (.head _))
            have hb := row_at (k := n - 1) (rots_bound pre' hPb) (by omega) (by rw [rots_len]; omega)
            rw [← eps] at hb
            simp only [List.forall_mem_cons] at hI'
            k_steps
            rename StrsAre _ _ => hi9
            exact ⟨_, _, _, _, _, rfl, by assumption, by assumption, hi9, fun z hz => if_neg hz⟩
          case done3b =>
            intro rv' nR' u' h'' tk'' hS' F'' N''
            try dsimp only at N''
            dsimp only
            obtain ⟨ps1, hps1⟩ : ∃ q, q = pi.foldl rotAt ps := ⟨_, rfl⟩
            rw [← hps1] at hS'
            have hl1 : ps1.length = ns.length := by rw [hps1, rots_len]; exact hpl
            have hb1 : ∀ p ∈ ps1, p.1 + p.2 ≤ 14 := by rw [hps1]; exact rots_bound pi hb14
            k_steps
            dsimp only [FsPost]
            subst hps1
            rename _ = List.map stuffP _ => eps9
            subst eps9
            rename News _ _ _ _ => nE'
            rename StrsAre _ _ => hS8
            rename IntsAre _ _ => hI9
            have hP9 := passI_out hP hin hx hxr (pass_ok (by assumption)) (by assumption)
            refine' fs_end (⟨_, _, _, _, _, _, _, _, _, ⟨_, _, _⟩, some (_, _)⟩ : PassS) (by assumption) ?namesbp nE' ?subbp ?offbp ⟨?i1bp, ?i2bp, ?i3bp, ?tkbp, ?t1bp, ?t2bp, ?t3bp, ?t4bp, ?f1bp, ?f2bp, ?f3bp, ?f4bp, ?f5bp, ?f6bp⟩ ?samebp hP9
            case namesbp => kst_all
            case subbp =>
              dsimp only [passLed, tabLed]
              repeat' (first | exact List.forall_mem_nil _ | refine List.forall_mem_cons.mpr ⟨?_, ?_⟩)
              all_goals k_mem
            case i1bp => first | exact ints_concat hpi | exact ints_concat (vs := []) .nil
            case i2bp => assumption
            case i3bp => assumption
            case tkbp => exact hcb
            case samebp => kst_same
            case offbp =>
              dsimp only [passLed, tabLed]
              repeat' (first | exact List.forall_mem_nil _ | refine List.forall_mem_cons.mpr ⟨?_, ?_⟩)
              all_goals (show @Ne Nat _ _; first | k_ne | omega)
            all_goals (dsimp only [TabOff, tabLed, LCg.Off1]; first | (refine ⟨?_, ?_, True.intro⟩ <;> first | k_ne | omega) | (refine ⟨?_, True.intro⟩; first | k_ne | omega) | k_ne | omega)
        · dsimp only [qk, FsPost]
          rename _ = List.map stuffP _ => eps9
          subst eps9
          rename News _ _ _ _ => nE'
          rename StrsAre _ _ => hS8
          rename IntsAre _ _ => hI9
          have hP9 := passI_on hP hin hx hxr (pass_ok (by assumption)) (by assumption)
          refine' fs_end (⟨_, _, _, _, _, _, _, _, _, ⟨_, _, _⟩, some (_, _)⟩ : PassS) (by assumption) ?namesbq nE' ?subbq ?offbq ⟨?i1bq, ?i2bq, ?i3bq, ?tkbq, ?t1bq, ?t2bq, ?t3bq, ?t4bq, ?f1bq, ?f2bq, ?f3bq, ?f4bq, ?f5bq, ?f6bq⟩ ?samebq hP9
          case namesbq => kst_all
          case subbq =>
            dsimp only [passLed, tabLed]
            repeat' (first | exact List.forall_mem_nil _ | refine List.forall_mem_cons.mpr ⟨?_, ?_⟩)
            all_goals k_mem
          case i1bq => first | exact ints_concat hpi | exact ints_concat (vs := []) .nil
          case i2bq => assumption
          case i3bq => assumption
          case tkbq => exact hcb
          case samebq => kst_same
          case offbq =>
            dsimp only [passLed, tabLed]
            repeat' (first | exact List.forall_mem_nil _ | refine List.forall_mem_cons.mpr ⟨?_, ?_⟩)
            all_goals (show @Ne Nat _ _; first | k_ne | omega)
          all_goals (dsimp only [TabOff, tabLed, LCg.Off1]; first | (refine ⟨?_, ?_, True.intro⟩ <;> first | k_ne | omega) | (refine ⟨?_, True.intro⟩; first | k_ne | omega) | k_ne | omega)
  case done =>
    intro po oo ro pv ov rv nP nO nR ps pi oi cb u h tk hov hrv hcb ⟨o1, o2⟩ hP F' N'
    dsimp only
    k_steps
    rename News _ _ _ _ => nT
    have e0 := pass_done hP
    refine' ret _ _ _ _ _ _ _ cb _ _ _ ?keepd (news_sub nT ?subd) ?rid ?rsd hcb o1 o2
    case keepd =>
      rename ∀ (b : Addr) (o : Obj), _ => hk9
      intro b o e9
      exact hk9 b o (Fr.keep (by assumption) b o e9)
    case rid => rw [e0]; exact hov
    case rsd => rw [e0]; exact hrv
    case subd =>
      refine List.forall_mem_cons.mpr ⟨.head _, List.forall_mem_cons.mpr ⟨?_, List.forall_mem_cons.mpr ⟨?_, ?_⟩⟩⟩
      · k_mem
      · k_mem
      · intro p hp
        exact .tail _ (.tail _ (.tail _ (.tail _ (.tail _ hp))))
end Mine
end
theorem Mine.cleared_Due17 : True := by
  k_with_none
  w_top off
  trivial
section
open PySem PySem.W PySem.Spec PySem.Calls PyProof.Rows
set_option maxRecDepth 100000
namespace Mine
def runL (ns : List Int) : Nat → Int → Int
  | 0, m => m
  | f + 1, m => if m < ns.length ∧ ns.getD m.toNat 0 < ns.getD (m - 1).toNat 0 then runL ns f (m + 1) else m
/-- where the falling stretch that begins at k ends -/
def runE (ns : List Int) (k : Int) : Int := runL ns ns.length (k + 1)
theorem runL_le (ns : List Int) : ∀ (f f' : Nat) (m : Int), ((ns.length : Int) - m).toNat ≤ f → ((ns.length : Int) - m).toNat ≤ f' → runL ns f m = runL ns f' m := by
  intro f
  induction f with
  | zero =>
    intro f' m h _
    cases f' with
    | zero => rfl
    | succ f' => rw [runL, runL, if_neg (fun x => by have := x.1; omega)]
  | succ f ih =>
    intro f' m h h'
    cases f' with
    | zero => rw [runL, runL, if_neg (fun x => by have := x.1; omega)]
    | succ f' =>
      rw [runL, runL]
      by_cases hc : m < ns.length ∧ ns.getD m.toNat 0 < ns.getD (m - 1).toNat 0
      · have := hc.1
        rw [if_pos hc, if_pos hc]; exact ih _ _ (by omega) (by omega)
      · rw [if_neg hc, if_neg hc]
structure RunP (ns : List Int) (k m : Int) : Prop where
  e : runL ns ((ns.length : Int) - m).toNat m = runE ns k
theorem run_start {ns : List Int} {k : Int} (h0 : 0 ≤ k) (h1 : k < ns.length) : k + 1 ≤ k + 1 ∧ k + 1 ≤ (ns.length : Int) ∧ RunP ns k (k + 1) := ⟨Int.le_refl _, by omega, ⟨runL_le _ _ _ _ (by omega) (by omega)⟩⟩
theorem run_turn {ns : List Int} {k m : Int} (h0 : k + 1 ≤ m) (h : RunP ns k m) (h1 : m < ns.length) (h2 : ns.getD m.toNat 0 < ns.getD (m - 1).toNat 0) : k + 1 ≤ m + 1 ∧ m + 1 ≤ (ns.length : Int) ∧ RunP ns k (m + 1) := by
  refine ⟨by omega, by omega, ⟨?_⟩⟩
  rw [← h.e, runL_le ns _ (((ns.length : Int) - m).toNat - 1 + 1) m (Nat.le_refl _) (by omega), runL, if_pos ⟨h1, h2⟩]
  exact runL_le _ _ _ _ (by omega) (by omega)
theorem run_end {ns : List Int} {k m : Int} (h : RunP ns k m) (hm : m ≤ ns.length) (h1 : ¬ (m < ns.length ∧ ns.getD m.toNat 0 < ns.getD (m - 1).toNat 0)) : m = runE ns k := by
  rw [← h.e]
  by_cases he : m < ns.length
  · rw [runL_le ns _ (((ns.length : Int) - m).toNat - 1 + 1) m (Nat.le_refl _) (by omega), runL, if_neg h1]
  · rw [show ((ns.length : Int) - m).toNat = 0 by omega]; rfl
def RunQ (g : Heap) (L : Addr) (s : Shared) (m₀ : Str → Option Value) (news : List (Addr × Obj)) (ns : List Int) (k : Int) (f : Flow) (s₂ : Shared) : Prop :=
  match f with
  | .next => ∃ (tm : Tok) (u : Str → Option Value) (h : Heap) (tk : Nat), s₂ = { s with heap := h, toks := tk } ∧ k + 1 ≤ runE ns k ∧ runE ns k ≤ ns.length ∧ Fr g L h (fun z => if z = Str.ofString "m" then some (.int (runE ns k) tm) else if [].contains z = true then u z else m₀ z) ∧ News g L h news
  | _ => False
theorem run_exit {M : Model} {A : Around} {E : Value → Shared → Prop} {Q : Flow → Shared → Prop} {s : Shared} {t : Sem Flow} {g : Heap} {L : Addr} {m₀ : Str → Option Value} {news : List (Addr × Obj)} (ns : List Int) (k : Int) (F : Fr g L s.heap m₀) (N : News g L s.heap news)
    (h : wpAny M A t (RunQ g L s m₀ news ns k) E s)
    (c : ∀ (tm : Tok) (u : Str → Option Value) (h : Heap) (tk : Nat), k + 1 ≤ runE ns k → runE ns k ≤ ns.length → Fr g L h (fun z => if z = Str.ofString "m" then some (.int (runE ns k) tm) else if [].contains z = true then u z else m₀ z) → News g L h news → Q .next { s with heap := h, toks := tk }) :
    wpAny M A t Q E s := by
  refine wpAny_mono h (fun f s₂ q => ?_) fun _ _ x => x
  cases f with
  | next => obtain ⟨tm, u, h', tk, rfl, e1, e2, F', N'⟩ := q; exact c tm u h' tk e1 e2 F' N'
  | cont => exact q.elim
  | brk => exact q.elim
  | ret v => exact q.elim
theorem runL_ge (ns : List Int) : ∀ (f : Nat) (m : Int), m ≤ runL ns f m := by
  intro f
  induction f with
  | zero => intro m; exact Int.le_refl _
  | succ f ih =>
    intro m
    rw [runL]
    by_cases hc : m < ns.length ∧ ns.getD m.toNat 0 < ns.getD (m - 1).toNat 0
    · rw [if_pos hc]; have := ih (m + 1); omega
    · rw [if_neg hc]; exact Int.le_refl _
theorem runE_gt (ns : List Int) (k : Int) : k + 1 ≤ runE ns k := runL_ge _ _ _
def setRow (ns : List Int) (e : Int) (rs : List Str) (t : Int) : List Str := rs.set (ns.getD t.toNat 0 - 1).toNat (letter (ns.getD t.toNat 0 - 1) ++ dotsI (e - t))
def chunk (ns : List Int) (k : Int) : List Int := ((ns.drop k.toNat).take (min (runE ns k).toNat ns.length - k.toNat)).reverse
def dueL (ns : List Int) : Nat → Int → List Int → List Str → List Int × List Str
  | 0, _, o, r => (o, r)
  | f + 1, k, o, r => if k < ns.length then dueL ns f (runE ns k) (o ++ chunk ns k) ((rangeKs k (runE ns k - k).toNat).foldl (setRow ns (runE ns k)) r) else (o, r)
/-- what _law_due gives -/
def dueF (ns : List Int) : List Int × List Str := dueL ns ns.length 0 [] (List.replicate ns.length (Str.ofString ""))
theorem dueL_le (ns : List Int) : ∀ (f f' : Nat) (k : Int) (o : List Int) (r : List Str), ((ns.length : Int) - k).toNat ≤ f → ((ns.length : Int) - k).toNat ≤ f' → dueL ns f k o r = dueL ns f' k o r := by
  intro f
  induction f with
  | zero =>
    intro f' k o r h _
    cases f' with
    | zero => rfl
    | succ f' => rw [dueL, dueL, if_neg (by omega)]
  | succ f ih =>
    intro f' k o r h h'
    have hg := runE_gt ns k
    cases f' with
    | zero => rw [dueL, dueL, if_neg (by omega)]
    | succ f' =>
      rw [dueL, dueL]
      by_cases hc : k < ns.length
      · rw [if_pos hc, if_pos hc]; exact ih _ _ _ _ (by omega) (by omega)
      · rw [if_neg hc, if_neg hc]
structure DueI (ns : List Int) (k : Int) (o : List Int) (r : List Str) : Prop where
  e : dueL ns ((ns.length : Int) - k).toNat k o r = dueF ns
theorem due_start (ns : List Int) : DueI ns 0 [] (List.replicate ns.length (Str.ofString "")) := ⟨dueL_le _ _ _ _ _ _ (by omega) (by omega)⟩
theorem due_turn {ns : List Int} {k : Int} {o : List Int} {r : List Str} (h : DueI ns k o r) (hk : k < ns.length) : DueI ns (runE ns k) (o ++ chunk ns k) ((rangeKs k (runE ns k - k).toNat).foldl (setRow ns (runE ns k)) r) := by
  have hg := runE_gt ns k
  refine ⟨?_⟩
  rw [← h.e, dueL_le ns ((ns.length : Int) - k).toNat (((ns.length : Int) - k).toNat - 1 + 1) k _ _ (Nat.le_refl _) (by omega), dueL, if_pos hk]
  exact dueL_le _ _ _ _ _ _ (by omega) (by omega)
theorem due_end {ns : List Int} {k : Int} {o : List Int} {r : List Str} (h : DueI ns k o r) (hk : ¬ k < ns.length) : o = (dueF ns).1 ∧ r = (dueF ns).2 := by
  have e := h.e
  rw [show ((ns.length : Int) - k).toNat = 0 by omega] at e
  rw [← e]; exact ⟨rfl, rfl⟩
theorem setRows_len (ns : List Int) (e : Int) : ∀ (l : List Int) (q : List Str), (l.foldl (setRow ns e) q).length = q.length := by
  intro l
  induction l with
  | nil => intro q; rfl
  | cons a l ih => intro q; rw [List.foldl_cons, ih]; simp [setRow]
structure DueS where
  ao : Addr
  ov : List Value
  oi : List Int
  nO : Nat
  rv : List Value
  rs : List Str
  nR : Nat
  k : Int
  tk : Tok
abbrev dueLed (ar : Addr) (c : DueS) : List (Addr × Obj) := [(c.ao, listOf c.ov.toArray c.nO), (ar, listOf c.rv.toArray c.nR)]
abbrev duePs (c : DueS) : List (Str × Value) := [(Str.ofString "out", .ref c.ao), (Str.ofString "k", .int c.k c.tk)]
abbrev dueFacts (ar : Addr) (c : DueS) : Prop := IntsAre c.ov c.oi ∧ StrsAre c.rv c.rs ∧ @Ne Nat c.ao ar
abbrev DueP (ns : List Int) (c : DueS) : Prop := 0 ≤ c.k ∧ c.k ≤ ns.length ∧ c.rs.length = ns.length ∧ (c.oi.length : Int) ≤ c.k ∧ DueI ns c.k c.oi c.rs
abbrev dueMu (ns : List Int) (c : DueS) : Nat := ((ns.length : Int) - c.k).toNat
theorem due_while {w : World} {A : Around} {E : Value → Shared → Prop} {Q : Flow → Shared → Prop} {s : Shared} {env : Env} {g : Heap} {L ar al ao : Addr} {ol : Obj} {rv : List Value} {m₀ : Str → Option Value} {tk0 : Tok} {test : Expr} {body : List Stmt} {pos : Pos} (ns : List Int)
    (F : Fr g L s.heap m₀) (N : News g L s.heap [(ar, listOf rv.toArray 0), (al, ol), (ao, listOf #[] 0)]) (hS : StrsAre rv (List.replicate ns.length (Str.ofString ""))) (hne : @Ne Nat ao ar)
    (ho : m₀ (Str.ofString "out") = some (.ref ao)) (hk : m₀ (Str.ofString "k") = some (.int 0 tk0))
    (turn : ∀ (ao : Addr) (ov : List Value) (oi : List Int) (nO : Nat) (rv : List Value) (rs : List Str) (nR : Nat) (k : Int) (tkk : Tok) (u : Str → Option Value) h tk, IntsAre ov oi → StrsAre rv rs → @Ne Nat ao ar → 0 ≤ k → k ≤ ns.length → rs.length = ns.length → (oi.length : Int) ≤ k → DueI ns k oi rs →
      Fr g L h (fun z => if z = Str.ofString "out" then some (.ref ao) else if z = Str.ofString "k" then some (.int k tkk) else if [Str.ofString "m", Str.ofString "t"].contains z then u z else m₀ z) → News g L h [(ao, listOf ov.toArray nO), (ar, listOf rv.toArray nR)] →
      wpAny (model PySem.Challenge.rw_ty0017_01.row.prog w) A (isTrue test env (eval test env)) (fun b s₂ =>
        if b = true then wpAny (model PySem.Challenge.rw_ty0017_01.row.prog w) A (execs body env) (KswPost g L s (dueLed ar) duePs (dueFacts ar) [Str.ofString "m", Str.ofString "t"] m₀ (DueP ns) (dueMu ns) Q ⟨ao, ov, oi, nO, rv, rs, nR, k, tkk⟩) E s₂ else Q .next s₂) E { s with heap := h, toks := tk })
    (hE : PassesOwn (model PySem.Challenge.rw_ty0017_01.row.prog w) A env E) :
    wpAny (model PySem.Challenge.rw_ty0017_01.row.prog w) A (exec (.While test body [] pos) env) Q E s := by
  refine ksw_while (dueLed ar) duePs (dueFacts ar) [Str.ofString "m", Str.ofString "t"] (DueP ns) (dueMu ns) ⟨ao, [], [], 0, rv, _, 0, 0, tk0⟩ F ?_ ⟨.nil, hS, hne⟩ ?_ ?_ ?_ hE
  · exact kst_newsOf N (List.forall_mem_cons.mpr ⟨.tail _ (.tail _ (.head _)), List.forall_mem_cons.mpr ⟨.head _, List.forall_mem_nil _⟩⟩)
  · exact List.forall_mem_cons.mpr ⟨ho, List.forall_mem_cons.mpr ⟨hk, List.forall_mem_nil _⟩⟩
  · exact ⟨Int.le_refl _, by dsimp only; omega, by simp, by simp, due_start _⟩
  · rintro ⟨ao, ov, oi, nO, rv, rs, nR, k, tkk⟩ u h tk ⟨hI, hS, hne⟩ ⟨p1, p2, p3, p4, p5⟩ F' N'
    exact turn ao ov oi nO rv rs nR k tkk u h tk hI hS hne p1 p2 p3 p4 p5 F' N'
theorem words_Due17_1 : True := by
  k_with "w binaryOp Mult ref int" => (k_here; k_dflt (refine KMa.mul (by k_asm) (by k_asm) (by is_list) (by omega) (by omega) (by (simp only [List.length_cons, List.length_nil]; omega)) rfl ?_; intro _ _ _ _ l1; (try k_lt l1); (try k_sweep)))
  trivial
def DueFE (g : Heap) (L : Addr) (s : Shared) (ao ar I : Addr) (oI : Obj) (ov : List Value) (nO : Nat) (m₀ : Str → Option Value) (R : List Str) (s₂ : Shared) : Prop :=
  ∃ (rv : List Value) (nR : Nat) (h' : Heap) (tk : Nat) (m' : Str → Option Value), s₂ = { s with heap := h', toks := tk } ∧ Fr g L h' m' ∧ News g L h' [(I, oI), (ao, listOf ov.toArray nO), (ar, listOf rv.toArray nR)] ∧ StrsAre rv R ∧ ∀ z, z ≠ Str.ofString "t" → m' z = m₀ z
theorem due_for {w : World} {A : Around} {E : Value → Shared → Prop} {Q : Flow → Shared → Prop} {s : Shared} {env : Env} {g : Heap} {ar ao r : Addr} {ov rv : List Value} {rs : List Str} {nO nR : Nat} {m₀ : Str → Option Value} {body : List Stmt} {k e : Int} {t₀ u₀ v₀ : Tok} (ns : List Int)
    (hh : A.handled = none) (F : Fr g env.locals s.heap m₀) (N : News g env.locals s.heap [(ao, listOf ov.toArray nO), (ar, listOf rv.toArray nR)]) (hS : StrsAre rv rs) (hr : IsRange s.heap r k e 1 t₀ u₀ v₀) (h0 : 0 ≤ k) (hke : k ≤ e) (he : e ≤ 1000)
    (turn : ∀ (rv : List Value) (rs' : List Str) (nR : Nat) (t : Int) (tt : Tok) (u : Str → Option Value) h tk I oI, StrsAre rv rs' → rs'.length = rs.length → k ≤ t → t < e → @Ne Nat ao I → @Ne Nat ar I →
      Fr g env.locals h (fun y => if y = Str.ofString "t" then some (.int t tt) else m₀ y) → News g env.locals h [(I, oI), (ao, listOf ov.toArray nO), (ar, listOf rv.toArray nR)] →
      wpAny (model PySem.Challenge.rw_ty0017_01.row.prog w) A (execs body env) (fun f s₂ => match f with | .next => DueFE g env.locals s ao ar I oI ov nO m₀ (setRow ns e rs' t) s₂ | _ => False) E { s with heap := h, toks := tk })
    (done : ∀ (rv : List Value) (nR : Nat) (u : Str → Option Value) h tk, StrsAre rv ((rangeKs k (e - k).toNat).foldl (setRow ns e) rs) → Fr g env.locals h (fun y => if y = Str.ofString "t" then u y else m₀ y) → News g env.locals h [(ao, listOf ov.toArray nO), (ar, listOf rv.toArray nR)] → Q .next { s with heap := h, toks := tk }) :
    wpAny (model PySem.Challenge.rw_ty0017_01.row.prog w) A (pyIter (.ref r)) (fun it s₂ => LoopAtV PySem.Challenge.rw_ty0017_01.row.prog w A g env (Str.ofString "t") body Q E it s₂) E s := by
  refine fs_range (σ := List Value × Nat × List Str) (n := (e - k).toNat) (fun c => [(ao, listOf ov.toArray nO), (ar, listOf c.1.toArray c.2.1)]) (fun _ => []) (fun c => StrsAre c.1 c.2.2) [] (fun pre c => c.2.2 = pre.foldl (setRow ns e) rs) (rv, nR, rs) hh hr (small_one (by omega) (by omega) (by omega) (by omega)) (rangeSize_nat _ _) F N hS (List.forall_mem_nil _) rfl ?_ ?_
  · rintro ⟨rv', nR', rs'⟩ pre t tt u h tk I oI ht hpre hS' hP hnc F' N'
    dsimp only at hS' hP
    have hlen : rs'.length = rs.length := by
      rw [hP, setRows_len]
    have F'' : Fr g env.locals h (fun y => if y = Str.ofString "t" then some (.int t tt) else m₀ y) := F'
    refine wpAny_mono (turn rv' rs' nR' t tt u h tk I oI hS' hlen (by omega) (by omega) (hnc _ (List.Mem.head _)) (hnc _ (.tail _ (List.Mem.head _))) F'' N') (fun f s₂ q => ?_) fun _ _ x => x
    cases f with
    | next =>
      obtain ⟨rv2, nR2, h2, tk2, m2, rfl, F2, N2, hS2, hm2⟩ := q
      refine ⟨(rv2, nR2, setRow ns e rs' t), h2, tk2, m2, rfl, F2, N2, ?_, hS2, List.forall_mem_nil _, fun z hz _ _ => hm2 z hz, ?_⟩
      · intro p hp
        rcases List.mem_cons.mp hp with rfl | hp
        · exact hnc _ (List.Mem.head _)
        · rw [List.mem_singleton.mp hp]; exact (show ar ≠ I from hnc (ar, _) (.tail _ (List.Mem.head _)))
      · show setRow ns e rs' t = (pre ++ [t]).foldl (setRow ns e) rs
        rw [List.foldl_append, ← hP]; rfl
    | cont => exact q.elim
    | brk => exact q.elim
    | ret v => exact q.elim
  · rintro ⟨rv', nR', rs'⟩ u h tk hS' hP F' N'
    dsimp only at hS' hP
    subst hP
    exact done rv' nR' u h tk hS' F' N'
theorem words_Due17_2 : True := by
  k_with "w subscriptTail" => (k_here; refine letter_item (by omega) (by omega) ?_)
  k_with "w binaryOp Mult str int" => (k_here; refine dotsI_mul (by omega) (by omega) ?_; intro _ _)
  k_with "w binaryOp Add str str" => (k_here; refine letter_dots (by omega) (by omega) ?_; intro _ _)
  k_with "w setItem ref int" => (k_here; k_dflt (refine txt_set (by k_asm) (by k_asm) (by k_upd) (by with_reducible assumption) (by omega) (by omega) (by omega) ?_; k_whole); intro _ _ _ _ _)
  trivial
set_option maxHeartbeats 400000 in
theorem due_spec {w : World} {A : Around} {s : Shared} {Q E : Value → Shared → Prop} {l : Addr} {vs : List Value} {ns : List Int}
    (C : Ctx w 6 60 A s.heap) (hl : s.heap.IsList l vs.toArray) (hi : IntsAre vs ns) (R : RowIn ns)
    (ret : ∀ T O Y ov rv nO nY h' tk', s.heap.StaysIn h' → s.heap.get? T = none → h'.get? T = some { cls := .type "tuple", data := .seq #[.ref O, .ref Y] } → s.heap.get? O = none → h'.get? O = some (listOf (List.toArray ov) nO) → s.heap.get? Y = none → h'.get? Y = some (listOf (List.toArray rv) nY) → IntsAre ov (dueF ns).1 → StrsAre rv (dueF ns).2 → Q (.ref T) { s with heap := h', toks := tk' }) :
    wpAny (model PySem.Challenge.rw_ty0017_01.row.prog w) A (call (.ref 108) [.ref l] []) Q E s := by
  have hlen : ns.length < 50 := by have := R.1; omega
  obtain ⟨B, F, X, T, hk, hd, hu⟩ := C
  revert X
  k_fill
  intro X
  refine wpAny_call ?_
  k_dflt ktn_open
  k_with "exec While Compare cons nil" => refine hold ?_
  k_steps
  refine Hold.mk ?_
  refine' due_while ns (by k_asm) (by k_asm) ?kS ?kne ?ko ?kk ?turn (by passes_own)
  case kS => exact strs_repI _ _ _
  case kne => omega
  case ko => with_unfolding_all rfl
  case kk => with_unfolding_all rfl
  case turn =>
    intro ao ov oi nO rv rs nR k tkk u h tk hI hS hne p1 p2 p3 p4 p5 F' N'
    k_fold
    k_with "exec While BoolOp cons nil" => refine hold ?_
    k_steps
    · refine Hold.mk ?_
      refine' run_exit ns k (by k_asm) (by k_asm) ?w ?c
      case w =>
        k_fold
        k_with "exec While BoolOp cons nil" => k_while (fun _ m => k + 1 ≤ m ∧ m ≤ (ns.length : Int) ∧ RunP ns k m) (fun _ m => ((ns.length : Int) - m).toNat) "m"
        k_with "state" => first | exact run_start (by assumption) (by assumption) | exact run_turn (by assumption) (by assumption) (by assumption) (by assumption)
        k_steps
        all_goals
          (have em := run_end (by assumption) (by assumption) (by intro hx; omega)
           subst em
           exact ⟨_, _, _, _, rfl, by assumption, by assumption, by k_asm, by k_asm⟩)
      case c =>
        intro tm u2 h2 tk2 e1 e2 F' N'
        dsimp only
        k_fold
        k_with "pyIter ref" => refine hold ?_
        k_steps
        refine Hold.mk ?_
        refine' due_for ns rfl (by k_asm) (by k_asm) (by assumption) (by assumption) (by omega) (by omega) (by omega) ?turn ?done
        case turn =>
          intro rv' rs' nR' t tt u' h' tk' I oI hS' hl' ht0 ht1 hI1 hI2 F' N'
          k_fold
          have R17 := R.at (i := t) (by omega) (by omega)
          have R18 : ns.length ≤ 6 := R.1
          k_steps
          rename StrsAre _ _ => hi9
          exact ⟨_, _, _, _, _, rfl, by assumption, by assumption, hi9, fun z hz => if_neg hz⟩
        case done =>
          intro rv' nR' u' h' tk' hS' F' N'
          dsimp only
          k_with "KswEnd" => refine hold ?_
          k_steps
          refine Hold.mk ?_
          rename IntsAre _ _ => hI9
          rename News _ _ _ _ => nE'
          rename _ ∧ _ => hlt9
          have hc9 : (chunk ns k).length ≤ (runE ns k - k).toNat := by
            unfold chunk; rw [List.length_reverse, List.length_take]; omega
          refine ksw_end (⟨_, _, oi ++ chunk ns k, _, _, _, _, runE ns k, _⟩ : DueS) (by assumption) nE' (by kst_in) ⟨hI9, hS', ?hne⟩ (by kst_all) (by ksw_same) ?hp ?hm
          case hne => exact Nat.ne_of_gt hlt9.2.2.2
          case hp =>
            dsimp only [DueP]
            exact ⟨by omega, by omega, by rw [setRows_len]; exact p3, by rw [List.length_append]; omega, due_turn p5 (by assumption)⟩
          case hm =>
            dsimp only [dueMu]
            omega
    · obtain ⟨d1, d2⟩ := due_end p5 (by assumption)
      subst d1
      subst d2
      rename News _ _ _ _ => nN
      exact ret _ _ _ _ _ _ _ _ _ (Fr.keep (by k_asm)) (nN _ (.head _)).2.2 (nN _ (.head _)).1 (nN _ (.tail _ (.head _))).2.2 (nN _ (.tail _ (.head _))).1 (nN _ (.tail _ (.tail _ (.head _)))).2.2 (nN _ (.tail _ (.tail _ (.head _)))).1 hI hS
end Mine
end
section
open PySem PySem.W PySem.Spec PySem.Calls PyProof.Rows PySem.Flt
set_option maxRecDepth 100000
namespace Mine
def mx (x y : UInt64) : UInt64 := if (Float64.cmp x y == some .lt) = true then y else x
def mn (x y : UInt64) : UInt64 := if (Float64.cmp y x == some .lt) = true then y else x
theorem args_max3 (a b c : Value) : argsOk "max" ⟨[a, b, c], []⟩ := by unfold argsOk; kernel_rfl
theorem args_min3 (a b c : Value) : argsOk "min" ⟨[a, b, c], []⟩ := by unfold argsOk; kernel_rfl
section
variable {prog : Program} {w : World} {A : Around} {E : Value → Shared → Prop} {s : Shared} {Q : Value → Shared → Prop} {h₀ : Heap} {L : Addr} {m : Str → Option Value} {news : List (Addr × Obj)}
theorem call_max_three {a b c : Value} {Q : Value → Shared → Prop}
    (h : wpAny (model prog w) A.in1 (pyIter (.ref s.heap.objs.size)) (fun it s₂ => ∃ I fp wr n P St bt, it = .ref I ∧ Walks prog w A.in1 I fp wr n P St ∧ St 0 s₂.heap ∧ (∀ b ∈ fp, b < s₂.heap.objs.size) ∧ 0 < n ∧ CmpOf prog w A.in1 .Gt P bt ∧
      ∀ v h' tk, P (argBest bt (n - 1)) v → (∀ b o, b ∉ wr → s₂.heap.get? b = some o → h'.get? b = some o) → Q v { s₂ with heap := h', toks := tk }) E
      { s with heap := s.heap.push { cls := .type "tuple", data := .seq #[a, b, c] } }) :
    wpAny (model prog w) A (call (.builtin "max") [a, b, c]) Q E s := by
  have hname : (toString "max" ++ toString ".loop" : String) = "max.loop" := by decide
  refine call_function_tree PySem.F.kind_max PySem.F.plain_max PySem.F.entry_max (args_max3 _ _ _) ?_
  show wpAny _ A.in1 (Builtin.Builtins.bindParams "max" ["key", "default"] 0 ⟨[], []⟩ >>= _) _ _ s
  refine wpAny_bind (wpAny_of_eq (show Builtin.Builtins.bindParams "max" ["key", "default"] 0 ⟨[], []⟩ = pure [none, none] from rfl) ?_)
  show wpAny _ A.in1 (newTuple [a, b, c] >>= _) _ _ s
  refine wpAny_bind (wpAny_newObj_type ?_)
  refine wpAny_bind (wpAny_mono h (fun it s₂ h₂ => ?_) fun _ _ e => e)
  obtain ⟨I, fp, wr, n, P, St, bt, rfl, W, hst, hfp, hn, hcmp, hQ⟩ := h₂
  refine wpAny_bind (wpAny_newObj_type ?_)
  have hSf : s₂.heap.objs.size ∉ fp := fun hm => Nat.lt_irrefl _ (hfp _ hm)
  rw [hname]
  refine wpAny_pure ⟨plainId_quiet PySem.F.plain_max_loop _, codeAny_max_loop_first W bt hcmp s₂.heap.objs.size hSf hn (W.frame _ _ _ hst fun b _ o e => Heap.get?_push_of_some _ e) (Heap.get?_push_size _ rfl) fun v h' tk hP hk => ?_⟩
  exact hQ v h' tk hP fun b o hbw e => hk b o hbw (Nat.ne_of_lt (Heap.lt_size e)) (Heap.get?_push_of_some _ e)
theorem max3 {a b c : UInt64} {t u v : Tok} (hh : A.handled = none) (F : Fr h₀ L s.heap m) (N : News h₀ L s.heap news)
    (h : ∀ h' tk t', Fr h₀ L h' m → News h₀ L h' news → Q (.float (mx (mx a b) c) t') { s with heap := h', toks := tk }) :
    wpAny (model prog w) A (call (.builtin "max") [.float a t, .float b u, .float c v]) Q E s := by
  have hT : (s.heap.push { cls := .type "tuple", data := .seq #[.float a t, .float b u, .float c v] }).IsTuple s.heap.objs.size #[.float a t, .float b u, .float c v] := ⟨_, Heap.get?_push_size _ rfl, rfl, 0, rfl⟩
  refine call_max_three (wpAny_pyIter_tuple hT ?_)
  have hsz : (s.heap.push { cls := .type "tuple", data := .seq #[.float a t, .float b u, .float c v] }).objs.size = s.heap.objs.size + 1 := Heap.size_push ..
  refine ⟨_, [_, s.heap.objs.size], [_], _, _, _, _, rfl, Walks.tuple (A := A.in1) hh _ s.heap.objs.size (by rw [hsz]; exact Nat.ne_of_lt (Nat.lt_succ_self _)) #[.float a t, .float b u, .float c v],
    ⟨⟨_, Heap.get?_push_size _ rfl, rfl, rfl⟩, hT.push _⟩, fun c hc => ?_, by simp, cmpOf_gt #[.float a t, .float b u, .float c v] (by intro x hx; simp at hx; rcases hx with rfl | rfl | rfl <;> exact .float _ _), fun v' h' tk hP hk => ?_⟩
  · show c < ((s.heap.push _).push _).objs.size
    rw [Heap.size_push, hsz]
    rcases List.mem_cons.mp hc with rfl | hc
    · rw [hsz]; exact Nat.lt_succ_self _
    · rcases List.mem_cons.mp hc with rfl | hc
      · exact Nat.lt_succ_of_lt (Nat.lt_succ_self _)
      · cases hc
  · have hold : ∀ c o, s.heap.get? c = some o → h'.get? c = some o := fun c o e => by
      refine hk c o (fun hm => ?_) (Heap.get?_push_of_some _ (Heap.get?_push_of_some _ e))
      rcases List.mem_cons.mp hm with e1 | hm
      · have := Heap.lt_size e; rw [e1, hsz] at this; exact Nat.lt_irrefl _ (Nat.lt_of_succ_lt this)
      · cases hm
    obtain ⟨t', hv⟩ : ∃ t', v' = .float (mx (mx a b) c) t' := by
      cases h1 : Float64.cmp a b == some .lt <;> cases h2 : Float64.cmp b c == some .lt <;> cases h3 : Float64.cmp a c == some .lt <;>
        simp only [mx, h1, h2, h3, if_true, Bool.false_eq_true, if_false] <;> simp [argBest, ltV, h1, h2, h3] at hP <;> exact ⟨_, hP.symm⟩
    rw [hv]; exact h h' tk t' (F.grownK hold) (N.grown hold)
theorem call_min_three {a b c : Value} {Q : Value → Shared → Prop}
    (h : wpAny (model prog w) A.in1 (pyIter (.ref s.heap.objs.size)) (fun it s₂ => ∃ I fp wr n P St bt, it = .ref I ∧ Walks prog w A.in1 I fp wr n P St ∧ St 0 s₂.heap ∧ (∀ b ∈ fp, b < s₂.heap.objs.size) ∧ 0 < n ∧ CmpOf prog w A.in1 .Lt P bt ∧
      ∀ v h' tk, P (argBest bt (n - 1)) v → (∀ b o, b ∉ wr → s₂.heap.get? b = some o → h'.get? b = some o) → Q v { s₂ with heap := h', toks := tk }) E
      { s with heap := s.heap.push { cls := .type "tuple", data := .seq #[a, b, c] } }) :
    wpAny (model prog w) A (call (.builtin "min") [a, b, c]) Q E s := by
  have hname : (toString "min" ++ toString ".loop" : String) = "min.loop" := by decide
  refine call_function_tree PySem.F.kind_min PySem.F.plain_min PySem.F.entry_min (args_min3 _ _ _) ?_
  show wpAny _ A.in1 (Builtin.Builtins.bindParams "min" ["key", "default"] 0 ⟨[], []⟩ >>= _) _ _ s
  refine wpAny_bind (wpAny_of_eq (show Builtin.Builtins.bindParams "min" ["key", "default"] 0 ⟨[], []⟩ = pure [none, none] from rfl) ?_)
  show wpAny _ A.in1 (newTuple [a, b, c] >>= _) _ _ s
  refine wpAny_bind (wpAny_newObj_type ?_)
  refine wpAny_bind (wpAny_mono h (fun it s₂ h₂ => ?_) fun _ _ e => e)
  obtain ⟨I, fp, wr, n, P, St, bt, rfl, W, hst, hfp, hn, hcmp, hQ⟩ := h₂
  refine wpAny_bind (wpAny_newObj_type ?_)
  have hSf : s₂.heap.objs.size ∉ fp := fun hm => Nat.lt_irrefl _ (hfp _ hm)
  rw [hname]
  refine wpAny_pure ⟨plainId_quiet PySem.F.plain_min_loop _, codeAny_min_loop_first W bt hcmp s₂.heap.objs.size hSf hn (W.frame _ _ _ hst fun b _ o e => Heap.get?_push_of_some _ e) (Heap.get?_push_size _ rfl) fun v h' tk hP hk => ?_⟩
  exact hQ v h' tk hP fun b o hbw e => hk b o hbw (Nat.ne_of_lt (Heap.lt_size e)) (Heap.get?_push_of_some _ e)
theorem min3 {a b c : UInt64} {t u v : Tok} (hh : A.handled = none) (F : Fr h₀ L s.heap m) (N : News h₀ L s.heap news)
    (h : ∀ h' tk t', Fr h₀ L h' m → News h₀ L h' news → Q (.float (mn (mn a b) c) t') { s with heap := h', toks := tk }) :
    wpAny (model prog w) A (call (.builtin "min") [.float a t, .float b u, .float c v]) Q E s := by
  have hT : (s.heap.push { cls := .type "tuple", data := .seq #[.float a t, .float b u, .float c v] }).IsTuple s.heap.objs.size #[.float a t, .float b u, .float c v] := ⟨_, Heap.get?_push_size _ rfl, rfl, 0, rfl⟩
  refine call_min_three (wpAny_pyIter_tuple hT ?_)
  have hsz : (s.heap.push { cls := .type "tuple", data := .seq #[.float a t, .float b u, .float c v] }).objs.size = s.heap.objs.size + 1 := Heap.size_push ..
  refine ⟨_, [_, s.heap.objs.size], [_], _, _, _, _, rfl, Walks.tuple (A := A.in1) hh _ s.heap.objs.size (by rw [hsz]; exact Nat.ne_of_lt (Nat.lt_succ_self _)) #[.float a t, .float b u, .float c v],
    ⟨⟨_, Heap.get?_push_size _ rfl, rfl, rfl⟩, hT.push _⟩, fun c hc => ?_, by simp, cmpOf_lt #[.float a t, .float b u, .float c v] (by intro x hx; simp at hx; rcases hx with rfl | rfl | rfl <;> exact .float _ _), fun v' h' tk hP hk => ?_⟩
  · show c < ((s.heap.push _).push _).objs.size
    rw [Heap.size_push, hsz]
    rcases List.mem_cons.mp hc with rfl | hc
    · rw [hsz]; exact Nat.lt_succ_self _
    · rcases List.mem_cons.mp hc with rfl | hc
      · exact Nat.lt_succ_of_lt (Nat.lt_succ_self _)
      · cases hc
  · have hold : ∀ c o, s.heap.get? c = some o → h'.get? c = some o := fun c o e => by
      refine hk c o (fun hm => ?_) (Heap.get?_push_of_some _ (Heap.get?_push_of_some _ e))
      rcases List.mem_cons.mp hm with e1 | hm
      · have := Heap.lt_size e; rw [e1, hsz] at this; exact Nat.lt_irrefl _ (Nat.lt_of_succ_lt this)
      · cases hm
    obtain ⟨t', hv⟩ : ∃ t', v' = .float (mn (mn a b) c) t' := by
      cases h1 : Float64.cmp b a == some .lt <;> cases h2 : Float64.cmp c b == some .lt <;> cases h3 : Float64.cmp c a == some .lt <;>
        simp only [mn, h1, h2, h3, if_true, Bool.false_eq_true, if_false] <;> simp [argBest, ltV, h1, h2, h3] at hP <;> exact ⟨_, hP.symm⟩
    rw [hv]; exact h h' tk t' (F.grownK hold) (N.grown hold)
end
end Mine
end
theorem Mine.cleared_Rgb17 : True := by
  k_with_none
  w_top off
  trivial
section
open PySem PySem.W PySem.Spec PySem.Calls PyProof.Rows
set_option maxRecDepth 100000
namespace Mine
theorem words_Rgb17_1 : True := by
  k_with "w call builtin:max" => (k_here; (with_reducible show wpAny _ _ (call (Value.builtin _) [Value.float _ _, Value.float _ _, Value.float _ _]) _ _ _); k_dflt (refine max3 (by exact rfl) (by k_asm) (by k_asm) ?_; intro _ _ _ _ _))
  k_with "w call builtin:min" => (k_here; (with_reducible show wpAny _ _ (call (Value.builtin _) [Value.float _ _, Value.float _ _, Value.float _ _]) _ _ _); k_dflt (refine min3 (by exact rfl) (by k_asm) (by k_asm) ?_; intro _ _ _ _ _))
  trivial
def hueC (c1 c2 : Bool) (r g b : UInt64) : UInt64 :=
  let M := mx (mx r g) b
  let d := Float64.sub M (mn (mn r g) b)
  let h := if c1 = true then Float64.sub (Float64.div (Float64.sub M b) d) (Float64.div (Float64.sub M g) d)
    else if c2 = true then Float64.sub (Float64.add 4611686018427387904 (Float64.div (Float64.sub M r) d)) (Float64.div (Float64.sub M b) d)
    else Float64.sub (Float64.add 4616189618054758400 (Float64.div (Float64.sub M g) d)) (Float64.div (Float64.sub M r) d)
  (Float64.divmod (Float64.div h 4618441417868443648) 4607182418800017408).snd
/-- the hue that rgb_to_hsv gives -/
def hueF (r g b : UInt64) : UInt64 := hueC (Float64.cmp r (mx (mx r g) b) == some .eq) (Float64.cmp g (mx (mx r g) b) == some .eq) r g b
/-- neither grey nor black: no division by nought -/
def hueOk (r g b : UInt64) : Bool :=
  !(Float64.cmp (mn (mn r g) b) (mx (mx r g) b) == some .eq) && !Float64.isZero (mx (mx r g) b) && !Float64.isZero (Float64.sub (mx (mx r g) b) (mn (mn r g) b))
set_option maxHeartbeats 4000000 in
theorem rgb_spec {w : World} {A : Around} {s : Shared} {Q E : Value → Shared → Prop} {r g b : UInt64} {tr tg tb : Tok}
    (C : Ctx w 2 16 A s.heap) (hok : hueOk r g b = true)
    (ret : ∀ T t v2 v3 h' tk', s.heap.StaysIn h' → s.heap.get? T = none → h'.get? T = some { cls := .type "tuple", data := .seq #[.float (hueF r g b) t, v2, v3] } → Q (.ref T) { s with heap := h', toks := tk' }) :
    wpAny (model PySem.Challenge.rw_ty0017_01.row.prog w) A (call (.ref 82) [.float r tr, .float g tg, .float b tb] []) Q E s := by
  have H1 : (Float64.cmp (mn (mn r g) b) (mx (mx r g) b) == some .eq) = false := by
    unfold hueOk at hok; simp only [Bool.and_eq_true, Bool.not_eq_true'] at hok; exact hok.1.1
  have H2 : Float64.isZero (mx (mx r g) b) = false := by
    unfold hueOk at hok; simp only [Bool.and_eq_true, Bool.not_eq_true'] at hok; exact hok.1.2
  have H3 : Float64.isZero (Float64.sub (mx (mx r g) b) (mn (mn r g) b)) = false := by
    unfold hueOk at hok; simp only [Bool.and_eq_true, Bool.not_eq_true'] at hok; exact hok.2
  clear hok
  have ret' : ∀ x T t v2 v3 h' tk', x = hueF r g b → s.heap.StaysIn h' → s.heap.get? T = none → h'.get? T = some { cls := .type "tuple", data := .seq #[.float x t, v2, v3] } → Q (.ref T) { s with heap := h', toks := tk' } := by
    intro x T t v2 v3 h' tk' e; subst e; exact ret T t v2 v3 h' tk'
  obtain ⟨B, F, X, T, hk, hd, hu⟩ := C
  revert X
  k_fill
  intro X
  refine wpAny_call ?_
  k_dflt ktn_open
  k_steps
  all_goals first
    | exact absurd (H1.symm.trans (by assumption)) Bool.false_ne_true
    | exact absurd (H2.symm.trans (by assumption)) Bool.false_ne_true
    | exact absurd (H3.symm.trans (by assumption)) Bool.false_ne_true
    | (rename News _ _ _ _ => nN
       refine' ret' _ _ _ _ _ _ _ ?_ (Fr.keep (by k_asm)) (nN _ (List.Mem.head _)).2.2 (nN _ (List.Mem.head _)).1
       unfold hueF
       first
         | (rw [show (Float64.cmp r (mx (mx r g) b) == some .eq) = true by assumption]; rfl)
         | (rw [show (Float64.cmp r (mx (mx r g) b) == some .eq) = false by assumption, show (Float64.cmp g (mx (mx r g) b) == some .eq) = true by assumption]; rfl)
         | (rw [show (Float64.cmp r (mx (mx r g) b) == some .eq) = false by assumption, show (Float64.cmp g (mx (mx r g) b) == some .eq) = false by assumption]; rfl))
end Mine
end
section
open PySem PySem.W PySem.Spec PySem.Calls PyProof.Rows PySem.Flt
set_option maxRecDepth 100000
namespace Mine
def e8 (a : Int) : UInt64 := Float64.ofFrac (decide (a < 0) != decide ((8 : Int) < 0)) a.natAbs (8 : Int).natAbs
def hue6 (a b c : Int) : UInt64 := Float64.mul (hueF (e8 a) (e8 b) (e8 c)) (Float64.ofInt 6)
def sixthF (a b c : Int) : Int := toInt Float64.truncOf (hue6 a b c)
def hueGood (a b c : Int) : Bool := hueOk (e8 a) (e8 b) (e8 c) && Float64.isFinite (hue6 a b c)
def one6 : List Int := [1, 2, 3, 4, 5, 6]
theorem hue_table : (one6.all fun a => one6.all fun b => one6.all fun c => a == b || a == c || b == c || hueGood a b c) = true := by decide +kernel
-- the sixth by comparison alone
def sixC (a b c : Int) : Int :=
  if b ≤ a ∧ c ≤ a then (if c < b then 0 else 5) else if c ≤ b ∧ a ≤ b then (if a > c then 1 else 2) else (if b > a then 3 else 4)
theorem six_table : (one6.all fun a => one6.all fun b => one6.all fun c => a == b || a == c || b == c || sixthF a b c == sixC a b c) = true := by decide +kernel
end Mine
end
theorem Mine.cleared_Seen17 : True := by
  k_with_none
  w_top off
  trivial
section
open PySem PySem.W PySem.Spec PySem.Calls PyProof.Rows PySem.Flt
set_option maxRecDepth 100000
namespace Mine
def f3 (ns : List Int) (i j k : Int) : Int := sixthF (ns.getD i.toNat 0) (ns.getD j.toNat 0) (ns.getD k.toNat 0)
def f2 (ns : List Int) (i j : Int) : List Int := (rangeKs (j + 1) ((ns.length : Int) - (j + 1)).toNat).map (f3 ns i j)
def f1 (ns : List Int) (i : Int) : List Int := (rangeKs (i + 1) ((ns.length : Int) - (i + 1)).toNat).flatMap (f2 ns i)
def f0 (ns : List Int) : List Int := (rangeKs 0 ((ns.length : Int) - 0).toNat).flatMap (f1 ns)
structure S1 (ns pre xs : List Int) : Prop where
  e : xs = pre.flatMap (f1 ns)
structure S2 (ns : List Int) (i : Int) (base pre xs : List Int) : Prop where
  e : xs = base ++ pre.flatMap (f2 ns i)
structure S3 (ns : List Int) (i j : Int) (base pre xs : List Int) : Prop where
  e : xs = base ++ pre.map (f3 ns i j)
theorem s1_start (ns : List Int) : ([] : List Int).length ≤ 2500 * ([] : List Int).length ∧ S1 ns [] [] := ⟨Nat.le_refl _, ⟨rfl⟩⟩
theorem s2_start (ns : List Int) (i : Int) (base : List Int) : base.length ≤ base.length + 50 * ([] : List Int).length ∧ S2 ns i base [] base := ⟨Nat.le_add_right _ _, ⟨(List.append_nil _).symm⟩⟩
theorem s3_start (ns : List Int) (i j : Int) (base : List Int) : base.length ≤ base.length + ([] : List Int).length ∧ S3 ns i j base [] base := ⟨Nat.le_add_right _ _, ⟨(List.append_nil _).symm⟩⟩
theorem s3_turn {ns base pre xs : List Int} {i j k : Int} (hl : xs.length ≤ base.length + pre.length) (h : S3 ns i j base pre xs) : (xs ++ [f3 ns i j k]).length ≤ base.length + (pre ++ [k]).length ∧ S3 ns i j base (pre ++ [k]) (xs ++ [f3 ns i j k]) := ⟨by simp; omega, ⟨by rw [h.e]; simp⟩⟩
theorem s2_turn {ns base pre xs ys : List Int} {i j : Int} (hn : ns.length < 50) (hj : 0 ≤ j) (hl : xs.length ≤ base.length + 50 * pre.length) (h : S2 ns i base pre xs) (hl' : ys.length ≤ xs.length + (rangeKs (j + 1) ((ns.length : Int) - (j + 1)).toNat).length) (h' : S3 ns i j xs (rangeKs (j + 1) ((ns.length : Int) - (j + 1)).toNat) ys) : ys.length ≤ base.length + 50 * (pre ++ [j]).length ∧ S2 ns i base (pre ++ [j]) ys :=
  ⟨by rw [rangeKs_length] at hl'; simp only [List.length_append, List.length_cons, List.length_nil]; omega, ⟨by rw [h'.e, h.e]; simp [f2]⟩⟩
theorem s1_turn {ns pre xs ys : List Int} {i : Int} (hn : ns.length < 50) (hi : 0 ≤ i) (hl : xs.length ≤ 2500 * pre.length) (h : S1 ns pre xs) (hl' : ys.length ≤ xs.length + 50 * (rangeKs (i + 1) ((ns.length : Int) - (i + 1)).toNat).length) (h' : S2 ns i xs (rangeKs (i + 1) ((ns.length : Int) - (i + 1)).toNat) ys) : ys.length ≤ 2500 * (pre ++ [i]).length ∧ S1 ns (pre ++ [i]) ys :=
  ⟨by rw [rangeKs_length] at hl'; simp only [List.length_append, List.length_cons, List.length_nil]; omega, ⟨by rw [h'.e, h.e]; simp [f1]⟩⟩
def ins1 (x : Int) : List Int → List Int
  | [] => [x]
  | y :: r => if x ≤ y then x :: y :: r else y :: ins1 x r
def isort : List Int → List Int
  | [] => []
  | x :: r => ins1 x (isort r)
theorem ins1_perm (x : Int) : ∀ l : List Int, (ins1 x l).Perm (x :: l)
  | [] => .refl _
  | y :: r => by
    unfold ins1
    split
    · exact .refl _
    · exact ((ins1_perm x r).cons y).trans (.swap _ _ _)
theorem isort_perm : ∀ l : List Int, (isort l).Perm l
  | [] => .refl _
  | x :: r => (ins1_perm x _).trans ((isort_perm r).cons x)
theorem ins1_sorted (x : Int) : ∀ l : List Int, l.Pairwise (· ≤ ·) → (ins1 x l).Pairwise (· ≤ ·)
  | [], _ => by simp [ins1]
  | y :: r, h => by
    obtain ⟨h1, h2⟩ := List.pairwise_cons.mp h
    unfold ins1
    split
    · rename_i hx
      refine List.pairwise_cons.mpr ⟨fun z hz => ?_, h⟩
      rcases List.mem_cons.mp hz with rfl | hz
      · exact hx
      · exact Int.le_trans hx (h1 z hz)
    · rename_i hx
      refine List.pairwise_cons.mpr ⟨fun z hz => ?_, ins1_sorted x r h2⟩
      rcases List.mem_cons.mp ((ins1_perm x r).mem_iff.mp hz) with rfl | hz
      · omega
      · exact h1 z hz
theorem isort_sorted : ∀ l : List Int, (isort l).Pairwise (· ≤ ·)
  | [] => .nil
  | x :: r => ins1_sorted x _ (isort_sorted r)
theorem sorted_unique : ∀ (a b : List Int), a.Perm b → a.Pairwise (· ≤ ·) → b.Pairwise (· ≤ ·) → a = b
  | [], b, p, _, _ => (List.nil_perm.mp p).symm
  | x :: a, [], p, _, _ => by have := p.length_eq; simp at this
  | x :: a, y :: b, p, ha, hb => by
    obtain ⟨h1, h2⟩ := List.pairwise_cons.mp ha
    obtain ⟨h3, h4⟩ := List.pairwise_cons.mp hb
    have e : x = y := by
      have hx : y ≤ x := by
        rcases List.mem_cons.mp (p.mem_iff.mp (List.mem_cons_self ..)) with e | m
        · omega
        · exact h3 x m
      have hy : x ≤ y := by
        rcases List.mem_cons.mp (p.mem_iff.mpr (List.mem_cons_self ..)) with e | m
        · omega
        · exact h1 y m
      omega
    subst e
    rw [sorted_unique a b p.cons_inv h2 h4]
@[irreducible] def seenS (ns : List Int) : List Int := isort (f0 ns)
theorem seenS_eq (ns : List Int) : seenS ns = isort (f0 ns) := by unfold seenS; rfl
structure Ap (xs pre : List Int) (a : Int) : Prop where
  e : a = (pre.map fun s => bisR xs s - bisR xs (s - 1)).sum
theorem ap_start (xs : List Int) : Ap xs [] 0 := ⟨rfl⟩
theorem ap_turn {xs pre : List Int} {a x : Int} (h : Ap xs pre a) : Ap xs (pre ++ [x]) (a + (bisR xs x - bisR xs (x - 1))) := ⟨by rw [h.e]; simp⟩
theorem f0_len {ns : List Int} (h : ns.length ≤ 6) : (f0 ns).length ≤ 20 := by
  have key : ∀ n : Nat, n ≤ 6 → (((rangeKs 0 ((n : Int) - 0).toNat).map fun i => ((rangeKs (i + 1) ((n : Int) - (i + 1)).toNat).map fun j => ((n : Int) - (j + 1)).toNat).sum).sum) ≤ 20 := by decide
  have e : (f0 ns).length = (((rangeKs 0 ((ns.length : Int) - 0).toNat).map fun i => ((rangeKs (i + 1) ((ns.length : Int) - (i + 1)).toNat).map fun j => ((ns.length : Int) - (j + 1)).toNat).sum).sum) := by
    unfold f0 f1 f2
    simp only [List.length_flatMap, List.length_map, rangeKs_length]
  rw [e]; exact key _ h
/-- a row of unlike numbers of 1 to 6 -/
structure RowOk (ns : List Int) : Prop where
  len : ns.length ≤ 6
  rng : ∀ x ∈ ns, 1 ≤ x ∧ x ≤ 6
  nd : ns.Nodup
theorem RowOk.at {ns : List Int} (R : RowOk ns) {i : Int} (h0 : 0 ≤ i) (h1 : i < ns.length) : 1 ≤ ns.getD i.toNat 0 ∧ ns.getD i.toNat 0 ≤ 6 := by
  have h : i.toNat < ns.length := by omega
  have e : ns.getD i.toNat 0 = ns[i.toNat] := by simp [h]
  rw [e]; exact R.rng _ (List.getElem_mem h)
theorem RowOk.ne {ns : List Int} (R : RowOk ns) {i j : Int} (h0 : 0 ≤ i) (hij : i < j) (h1 : j < ns.length) : ns.getD i.toNat 0 ≠ ns.getD j.toNat 0 := by
  have hi : i.toNat < ns.length := by omega
  have hj : j.toNat < ns.length := by omega
  have e1 : ns.getD i.toNat 0 = ns[i.toNat] := by simp [hi]
  have e2 : ns.getD j.toNat 0 = ns[j.toNat] := by simp [hj]
  rw [e1, e2]
  intro e
  have := (List.nodup_iff_pairwise_ne.mp R.nd)
  exact absurd e (List.pairwise_iff_getElem.mp this i.toNat j.toNat hi hj (by omega))
theorem mem_one6 {x : Int} (h : 1 ≤ x ∧ x ≤ 6) : x ∈ one6 := by
  have : x = 1 ∨ x = 2 ∨ x = 3 ∨ x = 4 ∨ x = 5 ∨ x = 6 := by omega
  rcases this with rfl | rfl | rfl | rfl | rfl | rfl <;> simp [one6]
theorem hue_at {a b c : Int} (ha : 1 ≤ a ∧ a ≤ 6) (hb : 1 ≤ b ∧ b ≤ 6) (hc : 1 ≤ c ∧ c ≤ 6) (h1 : a ≠ b) (h2 : a ≠ c) (h3 : b ≠ c) : hueGood a b c = true := by
  have := List.all_eq_true.mp (List.all_eq_true.mp (List.all_eq_true.mp hue_table a (mem_one6 ha)) b (mem_one6 hb)) c (mem_one6 hc)
  simpa [h1, h2, h3] using this
theorem RowOk.hue {ns : List Int} (R : RowOk ns) {i j k : Int} (h0 : 0 ≤ i) (hij : i < j) (hjk : j < k) (h1 : k < ns.length) : hueGood (ns.getD i.toNat 0) (ns.getD j.toNat 0) (ns.getD k.toNat 0) = true :=
  hue_at (R.at h0 (by omega)) (R.at (by omega) (by omega)) (R.at (by omega) h1) (R.ne h0 hij (by omega)) (R.ne h0 (by omega) h1) (R.ne (by omega) hjk h1)
section
variable {w : World} {prog : Program} {A : Around} {s : Shared} {Q E : Value → Shared → Prop} {h₀ : Heap} {L : Addr} {m : Str → Option Value} {news : List (Addr × Obj)}
theorem div8 {a : Int} {t u : Tok} (ha : 1 ≤ a ∧ a ≤ 6) (h : Q (.float (e8 a) s.toks) { s with toks := s.toks + 1 }) : wpAny (model prog w) A (binaryOp .Div (.int a t) (.int 8 u)) Q E s :=
  AutoIntOps.truediv_2 (by decide) (quot_fits (by decide) (by omega)) h
theorem rgb_N {a b c : Int} {tr tg tb : Tok} (F : Fr h₀ L s.heap m) (N : News h₀ L s.heap news) (C : Ctx w 2 16 A s.heap) (hok : hueGood a b c = true)
    (h : ∀ T t v2 v3 h' tk', Fr h₀ L h' m → News h₀ L h' news → IsTup h' T #[.float (hueF (e8 a) (e8 b) (e8 c)) t, v2, v3] → Q (.ref T) { s with heap := h', toks := tk' }) :
    wpAny (model PySem.Challenge.rw_ty0017_01.row.prog w) A (call (.ref 82) [.float (e8 a) tr, .float (e8 b) tg, .float (e8 c) tb] []) Q E s := by
  unfold hueGood at hok
  rw [Bool.and_eq_true] at hok
  exact rgb_spec C hok.1 fun T t v2 v3 h' tk' k hn ht => h T t v2 v3 h' tk' (fr_stay F k) (news_stay N k) ⟨_, ht, rfl, _, rfl⟩
theorem int_hue {a b c : Int} {t : Tok} (hok : hueGood a b c = true) (h : Q (.int (sixthF a b c) s.toks) { s with toks := s.toks + 1 }) : wpAny (model prog w) A (call (.type "int") [.float (Float64.mul (hueF (e8 a) (e8 b) (e8 c)) (Float64.ofInt 6)) t]) Q E s := by
  unfold hueGood at hok
  rw [Bool.and_eq_true] at hok
  have hf : Float64.isFinite (Float64.mul (hueF (e8 a) (e8 b) (e8 c)) (Float64.ofInt 6)) = true := hok.2
  rcases three (Float64.mul (hueF (e8 a) (e8 b) (e8 c)) (Float64.ofInt 6)) with ⟨hd, _⟩ | ⟨_, hd, _⟩ | ⟨sg, mm, e, hd, _⟩
  · unfold Float64.isFinite at hf; rw [hd] at hf; cases hf
  · unfold Float64.isFinite at hf; rw [hd] at hf; cases hf
  · have h2 : Q (.int (Float64.truncOf sg mm e) s.toks) { s with toks := s.toks + 1 } := by
      have e2 : sixthF a b c = Float64.truncOf sg mm e := toInt_fin hd
      rw [← e2]; exact h
    exact call_int_float hd h2
end
theorem words_Seen17_1 : True := by
  k_with "w binaryOp Div int int" => (k_here; k_dflt (refine div8 (by exact RowOk.at (by assumption) (by omega) (by omega)) ?_))
  k_with "w call ref" => (k_here; k_dflt (refine rgb_N (by k_asm) (by k_asm) (by exact (Ctx.mk (by k_asm) (by k_asm) (by k_asm) (by k_asm) (by first | exact rfl | assumption) (by ktr_room) (by ktr_units))) (by exact RowOk.hue (by assumption) (by omega) (by omega) (by omega) (by omega)) ?_; intro _ _ _ _ _ _ _ _ _))
  k_with "w subscriptTail" => (k_here; (with_reducible show wpAny _ _ (subscriptTail _ _ (Value.ref _) (Value.int _ _)) _ _ _); k_dflt (refine item_tupleT (by with_reducible assumption : IsTup _ _ _) (by decide) (by decide) (by rfl) (by rfl) ?_; k_whole))
  k_with "w binaryOp Mult float int" => (k_here; k_dflt (refine PySem.Rows.mul_fi_fits (by decide) ?_))
  k_with "w call type:int" => (k_here; k_dflt (refine int_hue (by exact RowOk.hue (by assumption) (by omega) (by omega) (by omega) (by omega)) ?_))
  trivial
def farF (ns : List Int) : Int := ((seenS ns).map fun k' => if k' - 3 < 0 then -(k' - 3) else k' - 3).sum
def apartF (ns : List Int) : Int := 0 + (bisR (seenS ns) 1 - bisR (seenS ns) (1 - 1)) + (bisR (seenS ns) 5 - bisR (seenS ns) (5 - 1))
theorem sorted_seen {w : World} {prog : Program} {A : Around} {s : Shared} {Q E : Value → Shared → Prop} {h₀ : Heap} {L : Addr} {m : Str → Option Value} {news : List (Addr × Obj)} {l : Addr} {vs : List Value} {ns xs : List Int} {n : Nat}
    (F : Fr h₀ L s.heap m) (N : News h₀ L s.heap news) (hm : (l, listOf vs.toArray n) ∈ news) (hi : IntsAre vs xs) (R : RowOk ns) (hx : S1 ns (rangeKs 0 ((ns.length : Int) - 0).toNat) xs)
    (h : ∀ D vs' c h', Fr h₀ L h' m → News h₀ L h' ((D, listOf vs'.toArray c) :: news) → (∀ q ∈ news, q.1 < D) → IntsAre vs' (seenS ns) → (seenS ns).length < 2 ^ 20 → Q (.ref D) { s with heap := h' }) :
    wpAny (model prog w) A (call (.builtin "sorted") [.ref l]) Q E s := by
  have e : xs = f0 ns := hx.e
  subst e
  have hl := f0_len R.len
  refine kso_sorted F N ⟨_, N.get hm, rfl, _, rfl⟩ hi (by omega) fun D vs' ns' c h' F' N' l1 i' e' p' o' _ => ?_
  have e2 := sorted_unique _ _ (p'.trans (isort_perm _).symm) o' (isort_sorted _)
  subst e2
  exact h D vs' c h' F' N' l1 (by rw [seenS_eq]; exact i') (by rw [seenS_eq, e']; omega)
theorem words_Seen17_2 : True := by
  k_with "w call builtin:sorted" => (k_here; k_dflt (refine sorted_seen (by k_asm) (by k_asm) (by k_mem) (by assumption) (by assumption) (by assumption) ?_; intro _ _ _ _ _ _ l1 _ _; (try k_lt l1); (try k_sweep)))
  k_with "w call ref" => (k_here; k_dflt (refine bisR_N (by k_asm) (by k_asm) (by k_mem) (by exact (Ctx.mk (by k_asm) (by k_asm) (by k_asm) (by k_asm) (by first | exact rfl | assumption) (by ktr_room) (by ktr_units))) (by assumption) (by assumption) ?_; intro _ _ _ _ _))
  trivial
set_option maxHeartbeats 1500000 in
theorem seen_spec {w : World} {A : Around} {s : Shared} {Q E : Value → Shared → Prop} {l : Addr} {vs : List Value} {ns : List Int}
    (C : Ctx w 6 60 A s.heap) (hl : s.heap.IsList l vs.toArray) (hi : IntsAre vs ns) (R : RowOk ns)
    (ret : ∀ T t1 t2 h' tk', s.heap.StaysIn h' → s.heap.get? T = none → h'.get? T = some { cls := .type "tuple", data := .seq #[.int (farF ns) t1, .int (apartF ns) t2] } → Q (.ref T) { s with heap := h', toks := tk' }) :
    wpAny (model PySem.Challenge.rw_ty0017_01.row.prog w) A (call (.ref 113) [.ref l] []) Q E s := by
  have hlen : ns.length < 50 := by have := R.len; omega
  obtain ⟨B, F, X, T, hk, hd, hu⟩ := C
  revert X
  k_fill
  intro X
  refine wpAny_call ?_
  k_dflt ktn_open
  k_with "pyIter ref" => (k_of "i" => k_state (fun pre sixths => sixths.length ≤ 2500 * pre.length ∧ S1 ns pre sixths) "sixths")
  k_with "pyIter ref" => (k_of "j" => k_state_given ["i", "sixths!"] (fun i base pre sixths => sixths.length ≤ base.length + 50 * pre.length ∧ S2 ns i base pre sixths) "sixths")
  k_with "pyIter ref" => (k_of "k" => k_state_given ["i", "j", "sixths!"] (fun i j base pre sixths => sixths.length ≤ base.length + pre.length ∧ S3 ns i j base pre sixths) "sixths")
  k_with "pyIter ref" => (k_of "sixth" => k_listUnr)
  k_with "state" => first | exact ap_start _ | exact ap_turn (by assumption) | exact s1_start _ | exact s2_start _ _ _ | exact s3_start _ _ _ _ | exact s3_turn (by assumption) (by assumption) | exact s2_turn hlen (by omega) (by assumption) (by assumption) (by assumption) (by assumption) | exact s1_turn hlen (by omega) (by assumption) (by assumption) (by assumption) (by assumption)
  k_steps
  rename News _ _ _ _ => nN
  exact ret _ _ _ _ _ (Fr.keep (by k_asm)) (nN _ (List.Mem.head _)).2.2 (nN _ (List.Mem.head _)).1
end Mine
end
section
open PySem PySem.W PySem.Spec PySem.Calls PyProof.Rows
set_option maxRecDepth 100000
namespace Mine
def mainAt (i : Nat) : Stmt := (forBody (lawAt 6)).getD i (.Return none ⟨0, 0, 0, 0⟩)
theorem off1_of {D : Addr} : ∀ {l : List (Addr × Obj)}, (∀ p ∈ l, @Ne Nat p.1 D) → LCg.Off1 D l
  | [], _ => True.intro
  | _ :: _, h => ⟨h _ (.head _), off1_of fun q hq => h q (.tail _ hq)⟩
theorem of_off1 {D : Addr} (l : List (Addr × Obj)) : LCg.Off1 D l → ∀ p ∈ l, @Ne Nat p.1 D := by
  induction l with
  | nil => intro _ p hp; cases hp
  | cons q l ih =>
    intro h p hp
    rcases List.mem_cons.mp hp with e | hp
    · rw [e]; exact h.1
    · exact ih h.2 p hp
theorem new_addr {g h : Heap} {L a : Addr} {m : Str → Option Value} (F : Fr g L h m) (ha : h.get? a = none) : a ≠ L ∧ g.get? a = none := by
  constructor
  · intro e
    subst e
    obtain ⟨o, ho, _⟩ := LCg.ns_obj F.ns
    rw [ha] at ho; cases ho
  · cases e : g.get? a with
    | none => rfl
    | some o => have := F.keep _ _ e; rw [ha] at this; cases this
section
variable {w : World} {A : Around} {s : Shared} {Q E : Value → Shared → Prop} {g : Heap} {L : Addr} {m : Str → Option Value} {news : List (Addr × Obj)}
theorem due_N {l : Addr} {vs : List Value} {ns : List Int} {n : Nat} (F : Fr g L s.heap m) (N : News g L s.heap news) (hm : (l, listOf vs.toArray n) ∈ news) (C : Ctx w 6 60 A s.heap) (hi : IntsAre vs ns) (R : RowIn ns)
    (h : ∀ T O Y ov rv nO nY h' tk', Fr g L h' m → News g L h' ((T, { cls := .type "tuple", data := .seq #[.ref O, .ref Y] }) :: (O, listOf (List.toArray ov) nO) :: (Y, listOf (List.toArray rv) nY) :: news) → IntsAre ov (dueF ns).1 → StrsAre rv (dueF ns).2 → Q (.ref T) { s with heap := h', toks := tk' }) :
    wpAny (model PySem.Challenge.rw_ty0017_01.row.prog w) A (call (.ref 108) [.ref l] []) Q E s := by
  refine due_spec C ⟨_, N.get hm, rfl, _, rfl⟩ hi R fun T O Y ov rv nO nY h' tk' k t0 t1 o0 o1 y0 y1 hO hY => h T O Y ov rv nO nY h' tk' (fr_stay F k) (fun p hp => ?_) hO hY
  have hnew : ∀ a, s.heap.get? a = none → a ≠ L ∧ g.get? a = none := fun a ha => new_addr F ha
  rcases List.mem_cons.mp hp with rfl | hp
  · exact ⟨t1, hnew _ t0⟩
  rcases List.mem_cons.mp hp with rfl | hp
  · exact ⟨o1, hnew _ o0⟩
  rcases List.mem_cons.mp hp with rfl | hp
  · exact ⟨y1, hnew _ y0⟩
  · exact ⟨k _ _ (N p hp).1, (N p hp).2⟩
theorem seen_N {l : Addr} {vs : List Value} {ns : List Int} {n : Nat} (F : Fr g L s.heap m) (N : News g L s.heap news) (hm : (l, listOf vs.toArray n) ∈ news) (C : Ctx w 6 60 A s.heap) (hi : IntsAre vs ns) (R : RowOk ns)
    (h : ∀ T t1 t2 h' tk', Fr g L h' m → News g L h' ((T, { cls := .type "tuple", data := .seq #[.int (farF ns) t1, .int (apartF ns) t2] }) :: news) → Q (.ref T) { s with heap := h', toks := tk' }) :
    wpAny (model PySem.Challenge.rw_ty0017_01.row.prog w) A (call (.ref 113) [.ref l] []) Q E s := by
  refine seen_spec C ⟨_, N.get hm, rfl, _, rfl⟩ hi R fun T t1 t2 h' tk' k t0 ht => h T t1 t2 h' tk' (fr_stay F k) (fun p hp => ?_)
  have hnew : ∀ a, s.heap.get? a = none → a ≠ L ∧ g.get? a = none := fun a ha => new_addr F ha
  rcases List.mem_cons.mp hp with rfl | hp
  · exact ⟨ht, hnew _ t0⟩
  · exact ⟨k _ _ (N p hp).1, (N p hp).2⟩
theorem bisL_N {l : Addr} {vs : List Value} {ns : List Int} {x : Int} {tx : Tok} {n : Nat} (F : Fr g L s.heap m) (N : News g L s.heap news) (hm : (l, listOf vs.toArray n) ∈ news) (C : Ctx w 2 16 A s.heap) (hi : IntsAre vs ns) (hlen : ns.length < 2 ^ 20)
    (h : ∀ t h' tk', Fr g L h' m → News g L h' news → Q (.int (bisL ns x) t) { s with heap := h', toks := tk' }) :
    wpAny (model PySem.Challenge.rw_ty0017_01.row.prog w) A (call (.ref 75) [.ref l, .int x tx] []) Q E s :=
  bisL_spec C ⟨_, N.get hm, rfl, _, rfl⟩ hi hlen fun t h' tk' k => h t h' tk' (fr_stay F k) (news_stay N k)
/-- the pass, called where the code table and what the pass has laid there stand at the ledger's end -/
theorem pass_N {l : Addr} {vs : List Value} {ns : List Int} {n : Nat} {e : Str} {te : Tok} {cb : Option (Addr × Obj)} {rest : List (Addr × Obj)} {hid : List (Addr × Obj)} (eh : hid = tabLed cb) (F : Fr g L s.heap m) (N : News g L s.heap news) (hn : ∀ p ∈ rest, p ∈ news) (hn2 : ∀ p ∈ tabLed cb, p ∈ news) (hm : (l, listOf vs.toArray n) ∈ rest)
    (C : CtxN w 8 80 A s.heap hid) (hc : CodeHd g 100 98) (hoff : ∀ p ∈ rest, TabOff cb p.1) (hi : IntsAre vs ns) (R : RowIn ns)
    (he : e.cps.toList = [10] ∨ e.cps.toList = [13] ∨ e.cps.toList = [13, 10]) (hcb : TabOk cb)
    (h : ∀ (T O Y : Addr) (ov rv : List Value) (nO nY : Nat) (cb' : Option (Addr × Obj)) (h' : Heap) (tk' : Nat), Fr g L h' m →
      News g L h' ((T, { cls := .type "tuple", data := .seq #[.ref O, .ref Y] }) :: (O, listOf ov.toArray nO) :: (Y, listOf rv.toArray nY) :: (rest ++ tabLed cb')) → IntsAre ov (passF ns).1 → StrsAre rv (rowsT (passF ns).2) → TabOk cb' → TabOff cb' O → TabOff cb' Y →
      (∀ p ∈ rest, TabOff cb' p.1 ∧ @Ne Nat p.1 O ∧ @Ne Nat p.1 Y) → Q (.ref T) { s with heap := h', toks := tk' }) :
    wpAny (model PySem.Challenge.rw_ty0017_01.row.prog w) A (call (.ref 101) [.ref l, .str e te] []) Q E s := by
  subst eh
  have hin : ∀ p ∈ rest, p.1 ∉ (tabLed cb).map (·.1) := fun p hp q => by
    obtain ⟨r, hr, er⟩ := List.mem_map.mp q
    exact of_off1 _ (hoff p hp) r hr er
  have hge : ∀ b o, g.get? b = some o → (hideAll s.heap ((tabLed cb).map (·.1))).get? b = some o := fun b o e => hideAll_get _ (F.keep b o e) fun q => by
    obtain ⟨r, hr, er⟩ := List.mem_map.mp q
    rw [← er, (N r (hn2 r hr)).2.2] at e; cases e
  have hrest : ∀ p ∈ rest, (hideAll s.heap ((tabLed cb).map (·.1))).get? p.1 = some p.2 := fun p hp => hideAll_get _ (N p (hn p hp)).1 (hin p hp)
  have hLin : L ∉ (tabLed cb).map (·.1) := fun q => by
    obtain ⟨r, hr, er⟩ := List.mem_map.mp q
    exact (N r (hn2 r hr)).2.1 er
  refine pass_spec C (hc.keeps hge) ⟨_, hrest _ hm, rfl, _, rfl⟩ hi R he hcb fun T O Y ov rv nO nY cb' L' h' tk' keep N' hO hY hcb' o1 o2 => ?_
  have hnew : ∀ a, (hideAll s.heap ((tabLed cb).map (·.1))).get? a = none → a ≠ L ∧ g.get? a = none := fun a ha => by
    constructor
    · intro e
      subst e
      obtain ⟨o, ho, _⟩ := LCg.ns_obj F.ns
      rw [hideAll_get _ ho hLin] at ha; cases ha
    · cases e : g.get? a with
      | none => rfl
      | some o => have := hge _ _ e; rw [ha] at this; cases this
  have hne : ∀ p ∈ rest, ∀ a, (hideAll s.heap ((tabLed cb).map (·.1))).get? a = none → @Ne Nat p.1 a := fun p hp a ha e => by
    have := hrest p hp
    rw [show p.1 = a from e, ha] at this; cases this
  refine h T O Y ov rv nO nY cb' h' tk' ⟨F.ns.at' fun o e => keep _ _ (hideAll_get _ e hLin), fun b o e => keep _ _ (hge b o e), F.above⟩ (fun p hp => ?_) hO hY hcb' o1 o2 (fun p hp => ⟨?_, ?_, ?_⟩)
  · rcases List.mem_cons.mp hp with rfl | hp
    · exact ⟨(N' _ (.head _)).1, hnew _ (N' _ (.head _)).2.2⟩
    rcases List.mem_cons.mp hp with rfl | hp
    · exact ⟨(N' _ (.tail _ (.head _))).1, hnew _ (N' _ (.tail _ (.head _))).2.2⟩
    rcases List.mem_cons.mp hp with rfl | hp
    · exact ⟨(N' _ (.tail _ (.tail _ (.head _)))).1, hnew _ (N' _ (.tail _ (.tail _ (.head _)))).2.2⟩
    rcases List.mem_append.mp hp with hp | hp
    · exact ⟨keep _ _ (hrest p hp), (N p (hn p hp)).2⟩
    · have := N' p (.tail _ (.tail _ (.tail _ hp)))
      exact ⟨this.1, hnew _ this.2.2⟩
  · refine off1_of fun q hq e => ?_
    exact hne p hp q.1 (N' q (.tail _ (.tail _ (.tail _ hq)))).2.2 e.symm
  · exact hne p hp O (N' _ (.tail _ (.head _))).2.2
  · exact hne p hp Y (N' _ (.tail _ (.tail _ (.head _)))).2.2
end
end Mine
end
theorem Mine.cleared_MainA17 : True := by
  k_with_none
  w_top off
  trivial
section
open PySem PySem.W PySem.Spec PySem.Calls PyProof.Rows
set_option maxRecDepth 100000
namespace Mine
section
variable {prog : Program} {w : World} {A : Around} {s : Shared} {E : Value → Shared → Prop} {g : Heap} {L : Addr} {news : List (Addr × Obj)}
theorem ends_item {value slice : Expr} {l : Addr} {t1 t2 t3 u : Tok} {n : Nat} {y : Int} {Q : Value → Shared → Prop} (N : News g L s.heap news)
    (hm : (l, listOf #[.str (Str.ofString "\n") t1, .str (Str.ofString "\r") t2, .str (Str.ofString "\r\n") t3] n) ∈ news)
    (h : ∀ e t, e.cps.toList = [10] ∨ e.cps.toList = [13] ∨ e.cps.toList = [13, 10] → Q (.str e t) s)
    (hs : subscripted slice false (.ref l) (.int (y.fmod 3) u) = operate [.ref l, .int (y.fmod 3) u] (getItem (.ref l) (.int (y.fmod 3) u)) := by with_unfolding_all rfl) :
    wpAny (model prog w) A (subscriptTail value slice (.ref l) (.int (y.fmod 3) u)) Q E s := by
  have h0 : 0 ≤ y.fmod 3 := Int.fmod_nonneg_of_pos _ (by decide)
  have h3 : y.fmod 3 < 3 := Int.fmod_lt_of_pos _ (by decide)
  generalize y.fmod 3 = k at *
  have hl : s.heap.IsList l #[.str (Str.ofString "\n") t1, .str (Str.ofString "\r") t2, .str (Str.ofString "\r\n") t3] := ⟨_, N.get hm, rfl, _, rfl⟩
  have hk : k = 0 ∨ k = 1 ∨ k = 2 := by omega
  rcases hk with rfl | rfl | rfl
  · exact item_listR hl (by decide) (by decide) rfl (h _ _ (by decide)) hs
  · exact item_listR hl (by decide) (by decide) rfl (h _ _ (by decide)) hs
  · exact item_listR hl (by decide) (by decide) rfl (h _ _ (by decide)) hs
end
theorem words_MainA17_1 : True := by
  k_with "w subscriptTail" => (k_here; (with_reducible show wpAny _ _ (subscriptTail _ _ (Value.ref _) (Value.int (Int.fmod _ 3) _)) _ _ _); k_dflt (refine ends_item (by k_asm) (by k_dflt k_mem) ?_); intro _ _ _; (try dsimp only))
  trivial
set_option maxHeartbeats 4000000 in
theorem main_pass {w : World} {g : Heap} {L fa lR D I : Addr} {cd : Value} {s : Shared} {E : Value → Shared → Prop} {Q : Flow → Shared → Prop} {p : Program} {loose : List Str} {mean : ExcName → Option Value} {mg mb : Str → Option Value}
    {ws vs : List Value} {ns rs : List Int} {nR : Nat} {k : Int} {oi oR oN oI : Obj} {tt : Tok} {cb : Option (Addr × Obj)} {u : Str → Option Value}
    (X' : (hd.heap_39 w.params).In g) (K' : Below callerA g [] g) (T' : Top p loose mean mg mb g) (codeHd' : CodeHd g 100 98)
    (hIn : IntsAre ws ns) (hn56 : ns.length = 5 ∨ ns.length = 6) (hp : IntsAre vs rs) (R : RowIn rs)
    (dR : oR.data = .cell (some (.ref lR))) (dN : oN.data = .cell (some (.ref D))) (hcb : TabOk cb)
    (hoff : ∀ p ∈ [(I, oI), (lR, listOf vs.toArray nR), (D, listOf ws.toArray 0), (L + 1 + 1 + 1, oi), (L + 1 + 1, oR), (L + 1, oN)], TabOff cb p.1)
    (F : Fr g L s.heap (fun y => if y = Str.ofString "turn" then some (.int k tt) else u y))
    (N : News g L s.heap ((I, oI) :: (lR, listOf vs.toArray nR) :: (D, listOf ws.toArray 0) :: (L + 1 + 1 + 1, oi) :: (L + 1 + 1, oR) :: (L + 1, oN) :: tabLed cb))
    (ret : ∀ (O Y : Addr) (ov rv : List Value) (nO nY : Nat) (cb' : Option (Addr × Obj)) h' tk', 
      Fr g L h' (fun y => if y = Str.ofString "rows" then some (.ref Y) else if y = Str.ofString "out" then some (.ref O) else if y = Str.ofString "turn" then some (.int k tt) else u y) →
      News g L h' ((O, listOf ov.toArray nO) :: (Y, listOf rv.toArray nY) :: (I, oI) :: (lR, listOf vs.toArray nR) :: (D, listOf ws.toArray 0) :: (L + 1 + 1 + 1, oi) :: (L + 1 + 1, oR) :: (L + 1, oN) :: tabLed cb') →
      IntsAre ov (passF rs).1 → StrsAre rv (rowsT (passF rs).2) → TabOk cb' → TabOff cb' O → TabOff cb' Y →
      (∀ p ∈ [(I, oI), (lR, listOf vs.toArray nR), (D, listOf ws.toArray 0), (L + 1 + 1 + 1, oi), (L + 1 + 1, oR), (L + 1, oN)], TabOff cb' p.1 ∧ @Ne Nat p.1 O ∧ @Ne Nat p.1 Y) → Q .next { s with heap := h', toks := tk' }) :
    wpAny (model PySem.Challenge.rw_ty0017_01.row.prog w) (callerA.deeper (lawEnv L fa cd)) (execs [mainAt 0] (lawEnv L fa cd)) Q E s := by
  unfold lawEnv
  have hs : lawScope = lawScope := rfl
  conv at hs => rhs; whnf
  have hb0 : mainAt 0 = mainAt 0 := rfl
  conv at hb0 => rhs; whnf
  rw [hb0, hs]
  clear hs hb0
  have hns100 : ns.length ≤ 100 := by omega
  revert X'
  k_fill
  intro X'
  k_with "call ref" => refine hold ?_
  k_steps
  refine Hold.mk ?_
  rename News _ _ _ _ => nN
  have nTab : News g L _ (tabLed cb) := fun p hp => nN p (by simp only [List.mem_cons]; exact .inr (.inr (.inr (.inr (.inr (.inr (.inr hp)))))))
  refine' pass_N (cb := cb) (rest := [(I, oI), (lR, listOf vs.toArray nR), (D, listOf ws.toArray 0), (L + 1 + 1 + 1, oi), (L + 1 + 1, oR), (L + 1, oN)]) rfl (by k_asm) nN ?kn ?kn2 (by k_mem) ?kC codeHd' hoff hp R (by assumption) hcb ?_
  case kn => intro p hp; exact .tail _ (List.mem_append_left (tabLed cb) hp)
  case kn2 => intro p hp; exact .tail _ (List.mem_append_right [(I, oI), (lR, listOf vs.toArray nR), (D, listOf ws.toArray 0), (L + 1 + 1 + 1, oi), (L + 1 + 1, oR), (L + 1, oN)] hp)
  case kC => k_dflt (exact (CtxN.mk (by k_asm) (by k_asm) nTab (by k_asm) (by k_asm) (by first | exact rfl | assumption) (by ktr_room) (by ktr_units)))
  intro T O Y ov rv nO nY cb' h' tk' F' N' hO hY hcb' o1 o2 o3
  dsimp only [List.cons_append, List.nil_append] at N'
  clear nN nTab
  k_steps
  rename News _ _ _ _ => nN
  exact ret O Y ov rv nO nY cb' _ _ (by k_asm) (fun p hp => nN p (.tail _ hp)) hO hY hcb' o1 o2 o3
end Mine
end
theorem Mine.cleared_MainB17 : True := by
  k_with_none
  w_top off
  trivial
section
open PySem PySem.W PySem.Spec PySem.Calls PyProof.Rows
set_option maxRecDepth 100000
namespace Mine
theorem strs_lay : ∀ l : List Str, (∀ x ∈ l, x.cps.all (· < 0x110000) = true) → PyData.canLayAll0 (l.map PyData.str) = true ∧ PyData.depthAll (l.map PyData.str) = 0
  | [], _ => ⟨rfl, rfl⟩
  | x :: l, h => by
    have ih := strs_lay l fun y hy => h y (.tail _ hy)
    refine ⟨?_, ?_⟩
    · show (PyData.canLay0 (.str x) && PyData.canLayAll0 (l.map PyData.str)) = true
      rw [ih.1, Bool.and_true]
      exact h x (.head _)
    · show max (PyData.depth (.str x)) (PyData.depthAll (l.map PyData.str)) = 0
      rw [ih.2]; rfl
theorem rows_lay {ps : List (Nat × Nat)} (h : ps.length ≤ 6) : ∀ x ∈ rowsT ps, x.cps.all (· < 0x110000) = true := by
  intro x hx
  obtain ⟨i, hi, rfl⟩ := List.mem_iff_getElem.mp hx
  have hi' : i < ps.length := by rw [rowsT_len] at hi; exact hi
  have e : (rowsT ps)[i] = rowT i ps[i].1 ps[i].2 := by simp [rowsT]
  rw [e]
  show (rowL i ps[i].1 ps[i].2).toArray.all _ = true
  rw [List.all_toArray]
  refine List.all_eq_true.mpr fun c hc => ?_
  simp only [rowL, List.mem_append, List.mem_cons, List.mem_replicate] at hc
  exact decide_eq_true (by omega)
theorem ints_lay : ∀ l : List Int, PyData.canLayAll0 (l.map PyData.int) = true ∧ PyData.depthAll (l.map PyData.int) = 0 := fun l => ⟨ke_canLayAll0 l, ke_depthAll l⟩
section
variable {prog : Program} {w : World} {A : Around} {s : Shared} {E : Value → Shared → Prop} {g : Heap} {L : Addr} {m : Str → Option Value} {news : List (Addr × Obj)} {Q : Value → Shared → Prop}
theorem pair_ne {T O Y T' O' Y' : Addr} {ov rv ov' rv' : List Value} {nO nY nO' nY' nT nT' : Nat} {os : List Int} {ps : List (Nat × Nat)} (_F : Fr g L s.heap m) (N : News g L s.heap news)
    (h1 : (T, { cls := .type "tuple", data := .seq #[.ref O, .ref Y] nT }) ∈ news) (h2 : (O, listOf ov.toArray nO) ∈ news) (h3 : (Y, listOf rv.toArray nY) ∈ news)
    (k1 : (T', { cls := .type "tuple", data := .seq #[.ref O', .ref Y'] nT' }) ∈ news) (k2 : (O', listOf ov'.toArray nO') ∈ news) (k3 : (Y', listOf rv'.toArray nY') ∈ news)
    (hO : IntsAre ov os) (hY : StrsAre rv (rowsT ps)) (hO' : IntsAre ov' os) (hY' : StrsAre rv' (rowsT ps)) (h6 : ps.length ≤ 6) (hu : A.units + 64 < cLine) (h : Q (.bool false) s) :
    wpAny (model prog w) A (compareOp .NotEq (.ref T) (.ref T')) Q E s := by
  have rd : ∀ {T O Y : Addr} {ov rv : List Value} {nO nY nT : Nat}, (T, { cls := .type "tuple", data := .seq #[.ref O, .ref Y] nT }) ∈ news → (O, listOf ov.toArray nO) ∈ news → (Y, listOf rv.toArray nY) ∈ news → IntsAre ov os → StrsAre rv (rowsT ps) →
      Reads s.heap (.ref T) (.tuple [.list (os.map PyData.int), .list ((rowsT ps).map PyData.str)]) [O, Y] := by
    intro T O Y ov rv nO nY nT h1 h2 h3 hO hY
    exact reads_tuple_at (N.get h1) rfl rfl (.cons (reads_newData ⟨_, N.get h2, rfl, _, rfl⟩ (ke_carried hO)) (.cons (reads_newData ⟨_, N.get h3, rfl, _, rfl⟩ hY.carried) .nil))
  have hcl : PyData.canLay0 (.tuple [.list (os.map PyData.int), .list ((rowsT ps).map PyData.str)]) = true := by
    show (PyData.canLayAll0 (os.map PyData.int) && (PyData.canLayAll0 ((rowsT ps).map PyData.str) && true)) = true
    rw [(ints_lay os).1, (strs_lay _ (rows_lay h6)).1]; rfl
  have hsh : SeqAt.shaped (.tuple [.list (os.map PyData.int), .list ((rowsT ps).map PyData.str)]) = true := by
    refine Bool.and_eq_true_iff.mpr ⟨hcl, decide_eq_true ?_⟩
    show max (PyData.depthAll (os.map PyData.int) + 1) (max (PyData.depthAll ((rowsT ps).map PyData.str) + 1) 0) + 1 ≤ 64
    rw [(ints_lay os).2, (strs_lay _ (rows_lay h6)).2]; decide
  refine ne_dataH (rd h1 h2 h3 hO hY) (rd k1 k2 k3 hO' hY') hsh hsh hu ?_
  rw [PySem.SeqAt.eqv_refl _ hcl]
  exact h
end
theorem words_MainB17_1 : True := by
  k_with "w call ref" => (k_here; (with_reducible show wpAny _ _ (call (Value.ref _) [Value.ref _] []) _ _ _); k_dflt (refine due_N (by k_asm) (by k_asm) (by k_dflt k_mem) (by k_dflt (exact (Ctx.mk (by k_asm) (by k_asm) (by k_asm) (by k_asm) (by first | exact rfl | assumption) (by ktr_room) (by ktr_units)))) (by assumption) (by assumption) ?_); intro _ _ _ _ _ _ _ _ _ _ _ _ _; (try dsimp only))
  k_with "w compareOp NotEq ref ref" => (refine hold ?_)
  trivial
set_option maxHeartbeats 4000000 in
theorem main_due {w : World} {g : Heap} {L fa lR D I O Y : Addr} {cd : Value} {s : Shared} {E : Value → Shared → Prop} {Q : Flow → Shared → Prop} {p : Program} {loose : List Str} {mean : ExcName → Option Value} {mg mb : Str → Option Value}
    {vs ov rv : List Value} {rs os : List Int} {ps : List (Nat × Nat)} {nR nO nY : Nat} {oR oI oi oN oD : Obj} {tl : List (Addr × Obj)} {u : Str → Option Value}
    (X' : (hd.heap_39 w.params).In g) (K' : Below callerA g [] g) (T' : Top p loose mean mg mb g)
    (hp : IntsAre vs rs) (R : RowIn rs) (hO : IntsAre ov os) (hY : StrsAre rv (rowsT ps)) (h6 : ps.length ≤ 6) (hd1 : (dueF rs).1 = os) (hd2 : (dueF rs).2 = rowsT ps)
    (dR : oR.data = .cell (some (.ref lR)))
    (F : Fr g L s.heap (fun y => if y = Str.ofString "rows" then some (.ref Y) else if y = Str.ofString "out" then some (.ref O) else u y))
    (N : News g L s.heap ((O, listOf ov.toArray nO) :: (Y, listOf rv.toArray nY) :: (I, oI) :: (lR, listOf vs.toArray nR) :: (D, oD) :: (L + 1 + 1 + 1, oi) :: (L + 1 + 1, oR) :: (L + 1, oN) :: tl))
    (ret : ∀ h' tk', Fr g L h' (fun y => if y = Str.ofString "rows" then some (.ref Y) else if y = Str.ofString "out" then some (.ref O) else u y) →
      News g L h' ((O, listOf ov.toArray nO) :: (Y, listOf rv.toArray nY) :: (I, oI) :: (lR, listOf vs.toArray nR) :: (D, oD) :: (L + 1 + 1 + 1, oi) :: (L + 1 + 1, oR) :: (L + 1, oN) :: tl) → Q .next { s with heap := h', toks := tk' }) :
    wpAny (model PySem.Challenge.rw_ty0017_01.row.prog w) (callerA.deeper (lawEnv L fa cd)) (execs [mainAt 1] (lawEnv L fa cd)) Q E s := by
  unfold lawEnv
  have hs : lawScope = lawScope := rfl
  conv at hs => rhs; whnf
  have hb0 : mainAt 1 = mainAt 1 := rfl
  conv at hb0 => rhs; whnf
  rw [hb0, hs]
  clear hs hb0
  revert X'
  k_fill
  intro X'
  k_steps
  refine Hold.mk ?_
  rename IntsAre _ (dueF rs).1 => hO9
  rename StrsAre _ (dueF rs).2 => hY9
  rw [hd1] at hO9
  rw [hd2] at hY9
  refine' pair_ne (by k_asm) (by k_asm) (by k_mem) (by k_mem) (by k_mem) (by k_mem) (by k_mem) (by k_mem) hO hY hO9 hY9 h6 (by ke_room) ?_
  k_steps
  rename News _ _ _ _ => nN
  exact ret _ _ (by k_asm) (fun p hp => nN p (.tail _ (.tail _ (.tail _ (.tail _ hp)))))
end Mine
end
theorem Mine.cleared_MainC17 : True := by
  k_with_none
  w_top off
  trivial
section
open PySem PySem.W PySem.Spec PySem.Calls PyProof.Rows
set_option maxRecDepth 100000
namespace Mine
section
variable {w : World} {A : Around} {s : Shared} {Q E : Value → Shared → Prop} {g : Heap} {L : Addr} {m : Str → Option Value} {news : List (Addr × Obj)}
theorem cnt_N2 {l : Addr} {vs : List Value} {ns : List Int} {n : Nat} (F : Fr g L s.heap m) (N : News g L s.heap news) (hm : (l, listOf vs.toArray n) ∈ news) (C : Ctx w 6 60 A s.heap) (hi : IntsAre vs ns) (hlen : ns.length ≤ 6)
    (h : ∀ t h' tk', Fr g L h' m → News g L h' news → Q (.int (cntF ns) t) { s with heap := h', toks := tk' }) :
    wpAny (model PySem.Challenge.rw_ty0017_01.row.prog w) A (call (.ref 120) [.ref l] []) Q E s :=
  cnt_spec C ⟨_, N.get hm, rfl, _, rfl⟩ hi (by omega) fun t h' tk' k => h t h' tk' (fr_stay F k) (news_stay N k)
end
theorem words_MainC17_1 : True := by
  k_with "w call ref" => (k_here; (with_reducible show wpAny _ _ (call (Value.ref _) [Value.ref _] []) _ _ _); first
    | (k_dflt (refine cnt_N2 (by k_asm) (by k_asm) (by k_dflt k_mem) (by k_dflt (exact (Ctx.mk (by k_asm) (by k_asm) (by k_asm) (by k_asm) (by first | exact rfl | assumption) (by ktr_room) (by ktr_units)))) (by assumption) (by assumption) ?_); intro _ _ _ _ _; (try dsimp only))
    | (k_dflt (refine seen_N (by k_asm) (by k_asm) (by k_dflt k_mem) (by k_dflt (exact (Ctx.mk (by k_asm) (by k_asm) (by k_asm) (by k_asm) (by first | exact rfl | assumption) (by ktr_room) (by ktr_units)))) (by assumption) (by assumption) ?_); intro _ _ _ _ _ _ _; (try dsimp only)))
  trivial
set_option maxHeartbeats 4000000 in
theorem main_seen {w : World} {g : Heap} {L fa lR D I O Y : Addr} {cd : Value} {s : Shared} {E : Value → Shared → Prop} {Q : Flow → Shared → Prop} {p : Program} {loose : List Str} {mean : ExcName → Option Value} {mg mb : Str → Option Value}
    {vs ov rv : List Value} {rs os : List Int} {nR nO nY : Nat} {oR oI oi oN oD : Obj} {tl : List (Addr × Obj)} {u : Str → Option Value}
    (X' : (hd.heap_39 w.params).In g) (K' : Below callerA g [] g) (T' : Top p loose mean mg mb g)
    (hp : IntsAre vs rs) (R : RowOk rs) (hO : IntsAre ov os) (h6 : os.length ≤ 6)
    (dR : oR.data = .cell (some (.ref lR)))
    (F : Fr g L s.heap (fun y => if y = Str.ofString "out" then some (.ref O) else u y))
    (N : News g L s.heap ((O, listOf ov.toArray nO) :: (Y, listOf rv.toArray nY) :: (I, oI) :: (lR, listOf vs.toArray nR) :: (D, oD) :: (L + 1 + 1 + 1, oi) :: (L + 1 + 1, oR) :: (L + 1, oN) :: tl))
    (ret : ∀ t1 t2 t3 h' tk', Fr g L h' (fun y => if y = Str.ofString "apart" then some (.int (apartF rs) t1) else if y = Str.ofString "far" then some (.int (farF rs) t2) else if y = Str.ofString "after" then some (.int (cntF os) t3) else if y = Str.ofString "out" then some (.ref O) else u y) →
      News g L h' ((O, listOf ov.toArray nO) :: (Y, listOf rv.toArray nY) :: (I, oI) :: (lR, listOf vs.toArray nR) :: (D, oD) :: (L + 1 + 1 + 1, oi) :: (L + 1 + 1, oR) :: (L + 1, oN) :: tl) → Q .next { s with heap := h', toks := tk' }) :
    wpAny (model PySem.Challenge.rw_ty0017_01.row.prog w) (callerA.deeper (lawEnv L fa cd)) (execs [mainAt 2, mainAt 3] (lawEnv L fa cd)) Q E s := by
  unfold lawEnv
  have hs : lawScope = lawScope := rfl
  conv at hs => rhs; whnf
  have hb0 : mainAt 2 = mainAt 2 := rfl
  conv at hb0 => rhs; whnf
  have hb1 : mainAt 3 = mainAt 3 := rfl
  conv at hb1 => rhs; whnf
  rw [hb0, hb1, hs]
  clear hs hb0 hb1
  revert X'
  k_fill
  intro X'
  k_steps
  rename News _ _ _ _ => nN
  exact ret _ _ _ _ _ (by k_asm) (fun p hp => nN p (.tail _ hp))
end Mine
end
theorem Mine.cleared_MainD17 : True := by
  k_with_none
  w_top off
  trivial
section
open PySem PySem.W PySem.Spec PySem.Calls PyProof.Rows
set_option maxRecDepth 100000
namespace Mine
section
variable {prog : Program} {w : World} {A : Around} {h₀ : Heap} {L : Addr} {m : Str → Option Value} {env : Env} {elt : Expr} {x : Str} {scope : Scope} {cl : List (Str × Addr)} {s : Shared} {S : List (Addr × Obj) → Prop} {Fin : List Value → List (Addr × Obj) → Prop} {news : List (Addr × Obj)}
/-- a comprehension over a list of texts whose element is an int -/
theorem comp_texts {vs : List Value} {xs : List Str} (f : Str → Int) (hi : StrsAre vs xs)
    (turn : ∀ (z : Str) t I oI C oC D m₂ ys h tk (E' : Value → Shared → Prop), z ∈ xs → LCg.NsObj oC m₂ → m₂ x = some (.str z t) → Fr h₀ L h m → News h₀ L h ((I, oI) :: (C, oC) :: (D, LCg.lst ys) :: news) → LCg.Off3 I C D news → ((@Ne Nat I C) ∧ (@Ne Nat I D) ∧ (@Ne Nat C D)) → KPfMark →
      wpAny (model prog w) A (eval elt (compEnvC scope cl C env)) (LCg.CompEnd h₀ L m { s with heap := h, toks := tk } I oI C oC D (LCg.lst ys) S (fun y news' => KCfEl news (f z) y news')) E' { s with heap := h, toks := tk })
    (fin : ∀ ys, IntsAre ys (xs.map f) → Fin ys news) : LCg.CompRest prog w A h₀ L m env elt x scope cl s S (fun i v => vs.toArray[i]? = some v) Fin vs.toArray.size 0 [] news := by
  have hlen : vs.toArray.size = xs.length := by rw [List.size_toArray, hi.length]
  rw [hlen]
  suffices key : ∀ (j i : Nat) (ys : List Value), i + j = xs.length → IntsAre ys ((xs.take i).map f) → LCg.CompRest prog w A h₀ L m env elt x scope cl s S (fun i v => vs.toArray[i]? = some v) Fin j i ys news from
    key _ 0 [] (by omega) .nil
  intro j
  induction j with
  | zero =>
    intro i ys hij hy
    rw [List.take_of_length_le (by omega)] at hy
    exact LCg.CompRest.zero (fin ys hy)
  | succ j ih =>
    intro i ys hij hy
    refine LCg.CompRest.succ fun v I oI C oC D m₂ h tk E' hv hC hx F N off ne => ?_
    have hlt : i < xs.length := by omega
    obtain ⟨t, ht⟩ := hi.get i xs[i] (List.getElem?_eq_getElem hlt)
    have hv' : vs[i]? = some v := by simpa using hv
    rw [ht] at hv'
    have ev := Option.some.inj hv'
    subst ev
    refine wpAny_mono (turn xs[i] t I oI C oC D m₂ ys h tk E' (List.getElem_mem hlt) hC hx F N off ne True.intro) (fun y s₂ q => ?_) fun _ _ e => e
    obtain ⟨h', tk', nw, e, F', N', off', hS, hn, t', hy'⟩ := q
    subst hn
    refine ⟨h', tk', _, e, F', N', off', hS, ?_⟩
    subst hy'
    refine ih (i + 1) _ (by omega) ?_
    rw [List.take_add_one, List.getElem?_eq_getElem hlt, List.map_append]
    exact IntsAre.append hy (.cons _ _ .nil)
end
theorem rows_lens (ps : List (Nat × Nat)) : (rowsT ps).map (fun z => (z.length : Int) - 2) = ps.map fun p => (p.1 : Int) + p.2 - 1 := by
  refine List.ext_getElem (by simp [rowsT_len]) fun i h1 h2 => ?_
  simp only [List.getElem_map]
  have e : (rowsT ps)[i]'(by simpa using h1) = rowT i (ps[i]'(by simpa using h2)).1 (ps[i]'(by simpa using h2)).2 := by simp [rowsT]
  rw [e, rowT_len]
  omega
theorem row_len63 {ps : List (Nat × Nat)} {z : Str} (hbd : ∀ p ∈ ps, p.1 + p.2 ≤ 20) (hz : z ∈ rowsT ps) : ¬ (z.length : Int) ≥ 2 ^ 63 := by
  obtain ⟨i, hi, rfl⟩ := List.mem_iff_getElem.mp hz
  have hi' : i < ps.length := by rw [rowsT_len] at hi; exact hi
  have e : (rowsT ps)[i] = rowT i ps[i].1 ps[i].2 := by simp [rowsT]
  have := hbd _ (List.getElem_mem hi')
  rw [e, rowT_len]
  omega
theorem words_MainD17_1 : True := by
  k_with "w eval ListComp" => (k_here; k_dflt (refine LCg.ListComp_U (F₀ := by k_asm) (by with_unfolding_all rfl) (by decide) (by rfl) (by decide) (by rfl) ?_))
  k_with "w CompSrc" => (refine hold ?_)
  trivial
set_option maxHeartbeats 4000000 in
theorem main_far {w : World} {g : Heap} {L fa Y : Addr} {cd : Value} {s : Shared} {E : Value → Shared → Prop} {Q : Flow → Shared → Prop} {p : Program} {loose : List Str} {mean : ExcName → Option Value} {mg mb : Str → Option Value}
    {rv : List Value} {nY n : Nat} {ps : List (Nat × Nat)} {tl : List (Addr × Obj)} {u : Str → Option Value} {fr b af : Int} {t1 t2 t3 t4 : Tok}
    (X' : (hd.heap_39 w.params).In g) (K' : Below callerA g [] g) (T' : Top p loose mean mg mb g)
    (hn56 : n = 5 ∨ n = 6) (hfar : fr = ((n : Int) - 2) * b) (hdots : b - af = (ps.map fun p => (p.1 : Int) + p.2 - 1).sum) (hY : StrsAre rv (rowsT ps)) (h6 : ps.length ≤ 6) (hbd : ∀ p ∈ ps, p.1 + p.2 ≤ 20)
    (F : Fr g L s.heap (fun y => if y = Str.ofString "far" then some (.int fr t1) else if y = Str.ofString "after" then some (.int af t2) else if y = Str.ofString "rows" then some (.ref Y) else if y = Str.ofString "before" then some (.int b t3) else if y = Str.ofString "size" then some (.int n t4) else u y))
    (N : News g L s.heap ((Y, listOf rv.toArray nY) :: tl))
    (ret : ∀ h' tk', Fr g L h' (fun y => if y = Str.ofString "far" then some (.int fr t1) else if y = Str.ofString "after" then some (.int af t2) else if y = Str.ofString "rows" then some (.ref Y) else if y = Str.ofString "before" then some (.int b t3) else if y = Str.ofString "size" then some (.int n t4) else u y) →
      News g L h' ((Y, listOf rv.toArray nY) :: tl) → Q .next { s with heap := h', toks := tk' }) :
    wpAny (model PySem.Challenge.rw_ty0017_01.row.prog w) (callerA.deeper (lawEnv L fa cd)) (execs [mainAt 4] (lawEnv L fa cd)) Q E s := by
  unfold lawEnv
  have hs : lawScope = lawScope := rfl
  conv at hs => rhs; whnf
  have hb0 : mainAt 4 = mainAt 4 := rfl
  conv at hb0 => rhs; whnf
  rw [hb0, hs]
  clear hs hb0
  revert X'
  k_fill
  intro X'
  k_steps
  · rename _ ≠ _ => h9
    exact absurd hfar h9
  refine Hold.mk ?_
  have hsz : rv.toArray.size ≤ sizeLine := by rw [List.size_toArray, hY.length, rowsT_len, sizeLine_eq]; omega
  refine LCg.CompSrc.ledger (by rfl) (by k_asm) (by k_asm) (by k_mem) hsz ?_
  intro g'
  refine' comp_texts (fun z => (z.length : Int) - 2) hY ?turn ?fin
  case turn =>
    intro z t9 I C oI oC D m₂ ys h tk E' hz hC hx F' N' off ne hM
    k_with "call builtin:len" => refine PyProof.Rows.len_str (row_len63 hbd hz) ?_
    k_steps
  case fin =>
    intro ys hI D h tk F' N' off
    have e9 := congrArg List.sum (rows_lens ps)
    k_steps
    · rename _ ≠ _ => h9
      exact absurd (hdots.trans e9.symm) h9
    · rename News _ _ _ _ => nN
      exact ret _ _ (by k_asm) (fun p hp => nN p (.tail _ hp))
end Mine
end
theorem Mine.cleared_MainE17 : True := by
  k_with_none
  w_top off
  trivial
section
open PySem PySem.W PySem.Spec PySem.Calls PyProof.Rows
set_option maxRecDepth 100000
namespace Mine
theorem decide_ne_eq {a b : Bool} (h : a = b) : (a != b) = false := by subst h; cases a <;> rfl
section
variable {M : Model} {A : Around} {E : Value → Shared → Prop} {s : Shared} {h₀ : Heap} {L a : Addr} {m : Str → Option Value} {cn : Str} {cs : Scope} {ccd : Value} {cl : List (Str × Addr)}
  {x : Str} {v : Value} {Q : Unit → Shared → Prop} {news news' : List (Addr × Obj)} {c : Addr} {o : Obj} {v₀ : Option Value}
theorem store_cell (F : Fr h₀ L s.heap m) (N : News h₀ L s.heap news) (hc : cl.lookup x = some c) (hm : (c, o) ∈ news) (hs : ∀ p ∈ news', p ∈ news) (hd : o.data = .cell v₀) (hne : Mine.Hold (∀ p ∈ news', @Ne Nat p.1 c))
    (h : ∀ h' o', Fr h₀ L h' m → News h₀ L h' ((c, o') :: news') → o'.data = .cell (some v) → Q () { s with heap := h' })
    (hk : cs.kind = .function := by rfl) (hx : (envX cn cs L a ccd cl).kindOf x = some .cell := by rfl) : wpAny M A (storeName (envX cn cs L a ccd cl) x v) Q E s := by
  have hmem := N (c, o) hm
  refine wpAny_storeName_cell hk hx hc ⟨o, hmem.1, hd⟩ fun h' hv hs' => ?_
  obtain ⟨o', ho', hd'⟩ := hv
  refine h h' o' ⟨F.ns.sameBut hs' (Ne.symm hmem.2.1), fun b ob e => (hs'.2 b (fun q => ?_)).trans (F.keep b ob e), F.above⟩ (fun p hp => ?_) hd'
  · rw [q, hmem.2.2] at e; cases e
  · rcases List.mem_cons.mp hp with rfl | hp
    · exact ⟨ho', hmem.2⟩
    · have h1 := N p (hs p hp)
      exact ⟨(hs'.2 p.1 (hne p hp)).trans h1.1, h1.2⟩
end
theorem words_MainE17_1 : True := by
  k_with "w storeName" => (k_here; (with_reducible show wpAny _ _ (storeName _ _ (Value.ref _)) _ _ _); refine hold ?_)
  trivial
set_option maxHeartbeats 4000000 in
theorem main_ends {w : World} {g : Heap} {L fa lR D I O Y : Addr} {cd : Value} {s : Shared} {E : Value → Shared → Prop} {Q : Flow → Shared → Prop} {p : Program} {loose : List Str} {mean : ExcName → Option Value} {mg mb : Str → Option Value}
    {vs ov rv : List Value} {nR nO nY : Nat} {oR oI oi oN oD : Obj} {tl : List (Addr × Obj)} {u : Str → Option Value} {ap af : Int} {t1 t3 : Tok}
    (X' : (hd.heap_39 w.params).In g) (K' : Below callerA g [] g) (T' : Top p loose mean mg mb g)
    (hap : ap = 0 ↔ af = 0)
    (dR : oR.data = .cell (some (.ref lR)))
    (F : Fr g L s.heap (fun y => if y = Str.ofString "apart" then some (.int ap t1) else if y = Str.ofString "after" then some (.int af t3) else if y = Str.ofString "out" then some (.ref O) else u y))
    (N : News g L s.heap ((O, listOf ov.toArray nO) :: (Y, listOf rv.toArray nY) :: (I, oI) :: (lR, listOf vs.toArray nR) :: (D, oD) :: (L + 1 + 1 + 1, oi) :: (L + 1 + 1, oR) :: (L + 1, oN) :: tl))
    (hne : Mine.Hold (∀ p ∈ ((O, listOf ov.toArray nO) :: (Y, listOf rv.toArray nY) :: (I, oI) :: (D, oD) :: (L + 1 + 1 + 1, oi) :: (L + 1, oN) :: tl), @Ne Nat p.1 (L + 1 + 1)))
    (ret : ∀ oR' t4 h' tk', oR'.data = .cell (some (.ref O)) → Fr g L h' (fun y => if y = Str.ofString "before" then some (.int af t4) else if y = Str.ofString "apart" then some (.int ap t1) else if y = Str.ofString "after" then some (.int af t3) else if y = Str.ofString "out" then some (.ref O) else u y) →
      News g L h' ((O, listOf ov.toArray nO) :: (Y, listOf rv.toArray nY) :: (I, oI) :: (D, oD) :: (L + 1 + 1 + 1, oi) :: (L + 1 + 1, oR') :: (L + 1, oN) :: tl) → Q (if af = 0 then .brk else .next) { s with heap := h', toks := tk' }) :
    wpAny (model PySem.Challenge.rw_ty0017_01.row.prog w) (callerA.deeper (lawEnv L fa cd)) (execs [mainAt 5, mainAt 6, mainAt 7, mainAt 8] (lawEnv L fa cd)) Q E s := by
  unfold lawEnv
  have hs : lawScope = lawScope := rfl
  conv at hs => rhs; whnf
  have hb0 : mainAt 5 = mainAt 5 := rfl
  conv at hb0 => rhs; whnf
  have hb1 : mainAt 6 = mainAt 6 := rfl
  conv at hb1 => rhs; whnf
  have hb2 : mainAt 7 = mainAt 7 := rfl
  conv at hb2 => rhs; whnf
  have hb3 : mainAt 8 = mainAt 8 := rfl
  conv at hb3 => rhs; whnf
  rw [hb0, hb1, hb2, hb3, hs]
  clear hs hb0 hb1 hb2 hb3
  revert X'
  k_fill
  intro X'
  k_steps
  · rename _ = true => hx9
    have e9 : (ap == 0) = (af == 0) := by
      by_cases h0 : af = 0
      · rw [h0, hap.mpr h0]
      · rw [beq_eq_false_iff_ne.mpr h0, beq_eq_false_iff_ne.mpr (fun q => h0 (hap.mp q))]
    rw [e9] at hx9
    simp at hx9
  · refine Hold.mk ?_
    refine store_cell (by k_asm) (by k_asm) (by rfl) (by k_mem) ?_ dR hne ?_
    · intro p hp
      simp only [List.mem_cons] at hp ⊢
      rcases hp with h | h | h | h | h | h | h <;> simp [h]
    intro h' oR' F' N' dR'
    clear F N hne
    k_steps
    all_goals
      rename News _ _ _ _ => nN
      have fin := ret oR' _ _ ‹Nat› dR' (by k_asm) (fun p hp => nN p (by simp only [List.mem_cons] at hp ⊢; rcases hp with h | h | h | h | h | h | h | h <;> simp [h]))
    · rename af = 0 => h0
      rw [if_pos h0] at fin
      exact fin
    · rename ¬ af = 0 => h0
      rw [if_neg h0] at fin
      exact fin
end Mine
end
theorem Mine.cleared_MainF17 : True := by
  k_with_none
  w_top off
  trivial
section
open PySem PySem.W PySem.Spec PySem.Calls PyProof.Rows
set_option maxRecDepth 100000
namespace Mine
theorem words_MainF17_1 : True := by
  k_with "w call ref" => (k_here; (with_reducible show wpAny _ _ (call (Value.ref _) [Value.ref _, Value.int _ _] []) _ _ _); k_dflt (refine bisL_N (by k_asm) (by k_asm) (by k_dflt k_mem) (by k_dflt (exact (Ctx.mk (by k_asm) (by k_asm) (by k_asm) (by k_asm) (by first | exact rfl | assumption) (by ktr_room) (by ktr_units)))) (by assumption) (by first | assumption | omega) ?_); intro _ _ _ _ _; (try dsimp only))
  trivial
set_option maxHeartbeats 4000000 in
theorem main_ret {w : World} {g : Heap} {L fa lR : Addr} {cd : Value} {s : Shared} {E : Value → Shared → Prop} {Q : Flow → Shared → Prop} {p : Program} {loose : List Str} {mean : ExcName → Option Value} {mg mb : Str → Option Value}
    {vs : List Value} {rs : List Int} {nR n : Nat} {oR : Obj} {tl : List (Addr × Obj)} {u : Str → Option Value} {t4 : Tok}
    (X' : (hd.heap_39 w.params).In g) (K' : Below callerA g [] g) (T' : Top p loose mean mg mb g)
    (hn56 : n = 5 ∨ n = 6) (hp : IntsAre vs rs) (hr20 : rs.length < 2 ^ 20) (hbis : (rangeKs 0 n).map (fun k => bisL rs (k + 1)) = rangeKs 0 n) (dR : oR.data = .cell (some (.ref lR)))
    (F : Fr g L s.heap (fun y => if y = Str.ofString "size" then some (.int n t4) else u y))
    (N : News g L s.heap ((lR, listOf vs.toArray nR) :: (L + 1 + 1, oR) :: tl))
    (ret : ∀ m' h' tk', Fr g L h' m' → News g L h' tl → Q (.ret (.bool true)) { s with heap := h', toks := tk' }) :
    wpAny (model PySem.Challenge.rw_ty0017_01.row.prog w) (callerA.deeper (lawEnv L fa cd)) (execs [lawAt 7] (lawEnv L fa cd)) Q E s := by
  unfold lawEnv
  have hs : lawScope = lawScope := rfl
  conv at hs => rhs; whnf
  have hb0 : lawAt 7 = lawAt 7 := rfl
  conv at hb0 => rhs; whnf
  rw [hb0, hs]
  clear hs hb0
  revert X'
  k_fill
  intro X'
  k_steps
  rename News _ _ _ _ => nN
  have e9 : decide (List.map (fun k' => bisL rs (k' + 1)) (rangeKs 0 ((n : Int) - 0).toNat) = List.map (fun k' => k') (rangeKs 0 ((n : Int) - 0).toNat)) = true := by
    refine decide_eq_true ?_
    rw [show ((n : Int) - 0).toNat = n by omega, hbis, List.map_id']
  rw [e9]
  exact ret _ _ _ (by k_asm) (fun p hp => nN p (.tail _ (.tail _ (.tail _ (.tail _ hp)))))
end Mine
end
section
open PySem PySem.W PySem.Spec PySem.Calls PyProof.Rows
set_option maxRecDepth 100000
namespace Mine
theorem turn_outer (elt ta ia tb ib : Expr) (ifs : List Expr) (scope : Scope) (pos : Pos) (it acc : Value) (env : Env) :
    compTurn (.ListComp elt [⟨ta, ia, [], 0⟩, ⟨tb, ib, ifs, 0⟩] scope pos) 0 it acc env = (do
      standAt ia.pos
      match ← pyNext it with
      | none => pure (.done .next)
      | some v =>
        letOwnedTupleGo ta it v
        assign ta env v
        let x ← eval ib env
        standAt ib.pos
        let x ← foldedSetIterable ib env x
        let _ ← runOwn (.compStart (.ListComp elt [⟨ta, ia, [], 0⟩, ⟨tb, ib, ifs, 0⟩] scope pos) 1 (← holding [x] (pyIter x)) acc env) env
        again (.compLoop (.ListComp elt [⟨ta, ia, [], 0⟩, ⟨tb, ib, ifs, 0⟩] scope pos) 0 it acc env)) := by rfl
theorem turn_inner (elt ta ia tb ib : Expr) (ifs : List Expr) (scope : Scope) (pos : Pos) (it acc : Value) (env : Env) :
    compTurn (.ListComp elt [⟨ta, ia, [], 0⟩, ⟨tb, ib, ifs, 0⟩] scope pos) 1 it acc env = (do
      standAt ib.pos
      match ← pyNext it with
      | none => pure (.done .next)
      | some v =>
        letOwnedTupleGo tb it v
        assign tb env v
        let mut ok := true
        for c in ifs do
          if ok then ok ← isTrue c env (eval c env)
        if ok then
          (do let _ ← call (.builtin "list.append") [acc, ← eval elt env])
        again (.compLoop (.ListComp elt [⟨ta, ia, [], 0⟩, ⟨tb, ib, ifs, 0⟩] scope pos) 1 it acc env)) := by rfl
section
variable {prog : Program} {w : World} {A : Around} {R : Result → Shared → Prop} {s : Shared}
abbrev NoE : Value → Shared → Prop := fun _ _ => False
theorem no_mono {α : Type} {M : Model} {t : Sem α} {Q : α → Shared → Prop} {E : Value → Shared → Prop} (h : wpAny M A t Q NoE s) : wpAny M A t Q E s := wpAny_mono h (fun _ _ q => q) fun _ _ x => x.elim
theorem loop_inner {elt ia ib : Expr} {ta tb : Expr} {ifs : List Expr} {scope : Scope} {pos : Pos} {it acc : Value} {env : Env} (I : Nat → Shared → Prop)
    (turn : ∀ n s, I n s → wpAny (model prog w) A (pyNext it) (fun r s₁ => match r with
      | none => R (.ok .next) s₁
      | some v => wpAny (model prog w) A (assign tb env v) (fun _ s₂ =>
          wpAny (model prog w) A (forIn ifs true fun c r => if r = true then do let ok ← isTrue c env (eval c env); pure (ForInStep.yield ok) else pure (ForInStep.yield r)) (fun ok s₃ =>
            if ok = true then wpAny (model prog w) A (eval elt env) (fun x s₄ =>
              wpAny (model prog w) A (call (.builtin "list.append") [acc, x]) (fun _ s₅ => ∃ m, m < n ∧ I m s₅) NoE s₄) NoE s₃
            else ∃ m, m < n ∧ I m s₃) NoE s₂) NoE s₁) NoE s)
    (n : Nat) (h : I n s) (ht : ∀ v, letOwnedTupleGo tb it v = pure () := by intro _; rfl) :
    codeAny (model prog w) A (.compLoop (.ListComp elt [⟨ta, ia, [], 0⟩, ⟨tb, ib, ifs, 0⟩] scope pos) 1 it acc env) R s := by
  refine codeAny_loop rfl I (fun n s hI => ?_) n h
  show wpAny _ A ((compTurn (.ListComp elt [⟨ta, ia, [], 0⟩, ⟨tb, ib, ifs, 0⟩] scope pos) 1 it acc env).onRaise (fun x => do noteFrame x env; theTreesLotGoes x)) _ _ s
  refine wpAny_noted ?_
  rw [turn_inner]
  refine wpAny_bind (wpAny_standAt (wpAny_bind (wpAny_mono (turn n s hI) (fun r s₁ h₁ => ?_) fun _ _ h' => h'.elim)))
  cases r with
  | none => exact wpAny_pure h₁
  | some v =>
    refine wpAny_bind (wpAny_of_eq (ht v) ?_)
    refine wpAny_bind (wpAny_mono h₁ (fun _ s₂ h₂ => wpAny_bind (wpAny_mono h₂ (fun ok s₃ h₃ => ?_) fun _ _ h' => h'.elim)) fun _ _ h' => h'.elim)
    cases ok with
    | false => exact wpAny_pure ⟨rfl, h₃⟩
    | true =>
      exact wpAny_bind (wpAny_bind (wpAny_mono h₃ (fun x s₄ h₄ => wpAny_bind (wpAny_mono h₄ (fun _ s₅ h₅ => wpAny_pure (wpAny_pure ⟨rfl, h₅⟩)) fun _ _ h' => h'.elim)) fun _ _ h' => h'.elim))
theorem start_any {elt ia ib : Expr} {ta tb : Expr} {ifs : List Expr} {scope : Scope} {pos : Pos} {it acc : Value} {env : Env} {d : Nat} (hd : d = 0 ∨ d = 1)
    (h0 : codeAny (model prog w) A (.compLoop (.ListComp elt [⟨ta, ia, [], 0⟩, ⟨tb, ib, ifs, 0⟩] scope pos) d it acc env) R s)
    (h : wpAny (model prog w) A (pyIter it) (fun it' s' => codeAny (model prog w) A (.compLoop (.ListComp elt [⟨ta, ia, [], 0⟩, ⟨tb, ib, ifs, 0⟩] scope pos) d it' acc env) R s') NoE s) :
    codeAny (model prog w) A (.compStart (.ListComp elt [⟨ta, ia, [], 0⟩, ⟨tb, ib, ifs, 0⟩] scope pos) d it acc env) R s := by
  refine codeAny_of_tree ?_
  show wpAny _ A ((compStart (.ListComp elt [⟨ta, ia, [], 0⟩, ⟨tb, ib, ifs, 0⟩] scope pos) d it acc env).onRaise (fun x => do noteFrame x env; standAt theWindowsPlace)) _ _ s
  refine wpAny_notedAt ?_
  unfold compStart
  have hd' : ∃ g : Comprehension, (clausesOf (.ListComp elt [⟨ta, ia, [], 0⟩, ⟨tb, ib, ifs, 0⟩] scope pos))[d]? = some g ∧ (g.is_async != 0) = false := by
    rcases hd with rfl | rfl
    · exact ⟨_, rfl, rfl⟩
    · exact ⟨_, rfl, rfl⟩
  obtain ⟨g, hg, ha⟩ := hd'
  rw [hg]
  simp only [Option.elim, ha, Bool.false_eq_true, if_false]
  refine wpAny_bind (wpAny_askSetting (wpAny_ite ?_))
  split
  · exact wpAny_bind (wpAny_pure (wpAny_pure (And.intro rfl h0)))
  · exact wpAny_bind (wpAny_rule (wpAny_bind (wpAny_standAt (wpAny_bind (wpAny_mono h (fun it' s' h' => wpAny_pure (And.intro rfl h')) fun _ _ x => x.elim)))))
theorem loop_outer {elt ia ib : Expr} {ta tb : Expr} {ifs : List Expr} {scope : Scope} {pos : Pos} {it acc : Value} {env : Env} (I : Nat → Shared → Prop)
    (turn : ∀ n s, I n s → wpAny (model prog w) A (pyNext it) (fun r s₁ => match r with
      | none => R (.ok .next) s₁
      | some v => wpAny (model prog w) A (assign ta env v) (fun _ s₂ => wpAny (model prog w) A (eval ib env) (fun x s₃ => wpAny (model prog w) A (pyIter x) (fun it' s₄ =>
          codeAny (model prog w) A (.compStart (.ListComp elt [⟨ta, ia, [], 0⟩, ⟨tb, ib, ifs, 0⟩] scope pos) 1 it' acc env) (fun r s₅ => match r with | .ok _ => ∃ m, m < n ∧ I m s₅ | .error _ => False) s₄) NoE s₃) NoE s₂) NoE s₁) NoE s)
    (n : Nat) (h : I n s) (hs : ∀ x, foldedSetIterable ib env x = pure x) (ht : ∀ v, letOwnedTupleGo ta it v = pure () := by intro _; rfl) :
    codeAny (model prog w) A (.compLoop (.ListComp elt [⟨ta, ia, [], 0⟩, ⟨tb, ib, ifs, 0⟩] scope pos) 0 it acc env) R s := by
  refine codeAny_loop rfl I (fun n s hI => ?_) n h
  show wpAny _ A ((compTurn (.ListComp elt [⟨ta, ia, [], 0⟩, ⟨tb, ib, ifs, 0⟩] scope pos) 0 it acc env).onRaise (fun x => do noteFrame x env; theTreesLotGoes x)) _ _ s
  refine wpAny_noted ?_
  rw [turn_outer]
  refine wpAny_bind (wpAny_standAt (wpAny_bind (wpAny_mono (turn n s hI) (fun r s₁ h₁ => ?_) fun _ _ h' => h'.elim)))
  cases r with
  | none => exact wpAny_pure h₁
  | some v =>
    refine wpAny_bind (wpAny_of_eq (ht v) ?_)
    refine wpAny_bind (wpAny_mono h₁ (fun _ s₂ h₂ => wpAny_bind (wpAny_mono h₂ (fun x s₃ h₃ => wpAny_bind (wpAny_standAt (wpAny_bind (wpAny_of_eq (hs x) ?_)))) fun _ _ h' => h'.elim)) fun _ _ h' => h'.elim)
    refine wpAny_bind (wpAny_holding (wpAny_mono h₃ (fun it' s₄ h₄ => ?_) fun _ _ h' => h'.elim))
    refine wpAny_bind (wpAny_runOwn (codeAny_mono h₄ fun r s₅ h₅ => ?_))
    cases r with
    | ok f => exact wpAny_pure ⟨rfl, h₅⟩
    | error x => exact h₅.elim
end
end Mine
end
section
open PySem PySem.W PySem.Spec PySem.Calls PyProof.Rows
set_option maxRecDepth 100000
namespace Mine
def rowC (p : Nat → Bool) : Nat → Nat
  | 0 => 0
  | j + 1 => rowC p j + (if p j = true then 1 else 0)
def allC (p : Nat → Nat → Bool) : Nat → Nat
  | 0 => 0
  | i + 1 => allC p i + rowC (p i) i
theorem rowC_le (p : Nat → Bool) : ∀ j, rowC p j ≤ j
  | 0 => Nat.le_refl _
  | j + 1 => by
    have := rowC_le p j
    unfold rowC
    split <;> omega
theorem allC_le (p : Nat → Nat → Bool) : ∀ {i : Nat}, i ≤ 100 → allC p i ≤ 100 * i
  | 0, _ => Nat.le_refl _
  | i + 1, h => by
    have := allC_le p (i := i) (by omega)
    have := rowC_le (p i) i
    unfold allC
    omega
theorem allC_sq (p : Nat → Nat → Bool) : ∀ i : Nat, allC p i ≤ i * i
  | 0 => Nat.le_refl _
  | i + 1 => by
    have h1 := allC_sq p i
    have h2 := rowC_le (p i) i
    have h3 : (i + 1) * (i + 1) = i * i + i + i + 1 := by rw [Nat.add_mul, Nat.mul_add]; omega
    unfold allC
    omega
theorem ex2 {α β : Type} {P : α → β → Prop} {G : Prop} (h : ∃ a b, P a b) (k : ∀ a b, P a b → G) : G := by
  obtain ⟨a, b, h⟩ := h; exact k a b h
theorem ex6 {α β γ δ ε ζ : Type} {P : α → β → γ → δ → ε → ζ → Prop} {G : Prop} (h : ∃ a b c d e f, P a b c d e f) (k : ∀ a b c d e f, P a b c d e f → G) : G := by
  obtain ⟨a, b, c, d, e, f, h⟩ := h; exact k a b c d e f h
structure B2 (H h' : Heap) (I D C : Addr) (oI : Obj) (m' : Str → Option Value) (ys : List Value) : Prop where
  keep : ∀ b o, H.get? b = some o → h'.get? b = some o
  it : h'.get? I = some oI
  ns : h'.Ns C m'
  acc : h'.get? D = some (LCg.lst ys)
theorem B2.but {H h h' : Heap} {I D C : Addr} {oI : Obj} {m' : Str → Option Value} {ys : List Value} {wr : List Addr} (b : B2 H h I D C oI m' ys) (hk : ∀ b o, b ∉ wr → h.get? b = some o → h'.get? b = some o)
    (hH : ∀ b ∈ wr, H.get? b = none) (hI : I ∉ wr) (hC : C ∉ wr) (hD : D ∉ wr) : B2 H h' I D C oI m' ys :=
  ⟨fun a o e => hk a o (fun q => by rw [hH a q] at e; cases e) (b.keep a o e), hk _ _ hI b.it, b.ns.at' fun o e => hk _ o hC e, hk _ _ hD b.acc⟩
theorem B2.keeps {H h h' : Heap} {I D C : Addr} {oI : Obj} {m' : Str → Option Value} {ys : List Value} (b : B2 H h I D C oI m' ys) (hk : ∀ b o, h.get? b = some o → h'.get? b = some o) : B2 H h' I D C oI m' ys :=
  b.but (wr := []) (fun a o _ e => hk a o e) (by simp) (by simp) (by simp) (by simp)
section
variable {prog : Program} {w : World} {A : Around} {s : Shared}
theorem inner_run {elt ia ib : Expr} {ta : Expr} {y : Str} {py : Pos} {ifs : List Expr} {scope : Scope} {pos : Pos} {I D : Addr} {cenv : Env} {x : Str} {H : Heap} {oI : Obj} {k : Nat} {tx t u v : Tok} {r : Addr} {m₁ : Str → Option Value} {ys₁ : List Value} {ns₁ : List Int}
    (p : Nat → Bool) (hh : A.handled = none) (hy : cenv.kindOf y = some .local) (hp : (cenv.scope.kind == .class || (cenv.scope.kind == .module && cenv.locals != cenv.globals)) = false) (hxy : x ≠ y) (hk100 : k ≤ 100)
    (htests : ∀ (j : Nat) tj s₂ m₂, j < k → s₂.heap.Ns cenv.locals m₂ → m₂ x = some (.int (k : Nat) tx) → m₂ y = some (.int (j : Nat) tj) → (∀ b o, H.get? b = some o → s₂.heap.get? b = some o) →
      wpAny (model prog w) A (forIn ifs true fun c r => if r = true then do let ok ← isTrue c cenv (eval c cenv); pure (ForInStep.yield ok) else pure (ForInStep.yield r)) (fun ok s₃ => ok = p j ∧ Keeps s₂ s₃) NoE s₂)
    (helt : ∀ (j : Nat) tj s₂ m₂, j < k → s₂.heap.Ns cenv.locals m₂ → m₂ x = some (.int (k : Nat) tx) → m₂ y = some (.int (j : Nat) tj) → (∀ b o, H.get? b = some o → s₂.heap.get? b = some o) →
      wpAny (model prog w) A (eval elt cenv) (fun z s₃ => (∃ a t, z = .int a t) ∧ Keeps s₂ s₃) NoE s₂)
    (hIC : I ≠ cenv.locals) (hID : I ≠ D) (hDC : D ≠ cenv.locals)
    (hHC : H.get? cenv.locals = none) (hHD : H.get? D = none)
    (b : B2 H s.heap I D cenv.locals oI m₁ ys₁) (hm : m₁ x = some (.int (k : Nat) tx)) (hys : IntsAre ys₁ ns₁) (hns : ns₁.length ≤ 10000)
    (hr : IsRange s.heap r 0 (k : Nat) 1 t u v) {R : Result → Shared → Prop}
    (hR : ∀ h' tk m' ys ns, B2 H h' I D cenv.locals oI m' ys → IntsAre ys ns → ns.length = ns₁.length + rowC p k → R (.ok .next) { s with heap := h', toks := tk }) :
    wpAny (model prog w) A (pyIter (.ref r)) (fun it' s₄ => codeAny (model prog w) A (.compStart (.ListComp elt [⟨ta, ia, [], 0⟩, ⟨.Name y py, ib, ifs, 0⟩] scope pos) 1 it' (.ref D) cenv) R s₄) NoE s := by
  have hn : Builtin.Range.rangeSize 0 (k : Nat) 1 = (k : Int) := by unfold Builtin.Range.rangeSize; simp; try omega
  refine wpAny_pyIter_range hr (small_one (by omega) (by omega) (by omega) (by omega)) ?_
  have W : Walks prog w A s.heap.objs.size [s.heap.objs.size] [s.heap.objs.size] k (fun i v => i < k ∧ ∃ t, v = .int (0 + i * 1) t) (fun i h => IsRangeIter h s.heap.objs.size (0 + (i : Nat) * 1) ((k : Int) - (i : Nat)) 1) := (Walks.range hh _ 0 1 k).bound
  have hlt : ∀ a o, s.heap.get? a = some o → a ≠ s.heap.objs.size := fun a o e => Nat.ne_of_lt (Heap.lt_size e)
  have hII : I ∉ [s.heap.objs.size] := fun q => hlt _ _ b.it (List.mem_singleton.mp q)
  have hCI : cenv.locals ∉ [s.heap.objs.size] := fun q => by obtain ⟨o, _, _, e, _⟩ := b.ns; exact hlt _ _ e (List.mem_singleton.mp q)
  have hDI : D ∉ [s.heap.objs.size] := fun q => hlt _ _ b.acc (List.mem_singleton.mp q)
  have hHn : ∀ a ∈ [s.heap.objs.size], H.get? a = none := fun a q => by
    rw [List.mem_singleton.mp q]
    cases e : H.get? s.heap.objs.size with
    | none => rfl
    | some o => exact absurd (Heap.lt_size (b.keep _ _ e)) (Nat.lt_irrefl _)
  have b0 : B2 H (s.heap.push { cls := .type "range_iterator", data := .fields #[rawInt 0, rawInt (Builtin.Range.rangeSize 0 (k : Nat) 1), rawInt 1] }) I D cenv.locals oI m₁ ys₁ := b.keeps fun _ _ e => Heap.get?_push_of_some _ e
  have it0 : IsRangeIter (s.heap.push { cls := .type "range_iterator", data := .fields #[rawInt 0, rawInt (Builtin.Range.rangeSize 0 (k : Nat) 1), rawInt 1] }) s.heap.objs.size (0 + ((0 : Nat) : Int) * 1) ((k : Int) - ((0 : Nat) : Int)) 1 := by
    show IsRangeIter _ _ _ _ _; rw [hn]; simpa using Heap.get?_push_size _ rfl
  have loop : ∀ s₃ : Shared, s₃ = { s with heap := s.heap.push { cls := .type "range_iterator", data := .fields #[rawInt 0, rawInt (Builtin.Range.rangeSize 0 (k : Nat) 1), rawInt 1] } } →
      codeAny (model prog w) A (.compLoop (.ListComp elt [⟨ta, ia, [], 0⟩, ⟨.Name y py, ib, ifs, 0⟩] scope pos) 1 (.ref s.heap.objs.size) (.ref D) cenv) R s₃ := by
    rintro s₃ rfl
    refine loop_inner (fun fu s' => ∃ h' tk j ys ns m', s' = { s with heap := h', toks := tk } ∧ j ≤ k ∧ fu = k + 1 - j ∧ B2 H h' I D cenv.locals oI m' ys ∧ m' x = some (.int (k : Nat) tx) ∧
        IsRangeIter h' s.heap.objs.size (0 + (j : Nat) * 1) ((k : Int) - (j : Nat)) 1 ∧ IntsAre ys ns ∧ ns.length = ns₁.length + rowC p j) ?_ (k + 1)
      ⟨_, _, 0, ys₁, ns₁, m₁, rfl, Nat.zero_le _, rfl, b0, hm, it0, hys, rfl⟩
    intro fu s' hx9
    refine ex6 hx9 fun h' tk j ys ns m' q9 => ?_
    clear hx9
    have es9 := q9.1
    have hj := q9.2.1
    have ef9 := q9.2.2.1
    have b' := q9.2.2.2.1
    have hm' := q9.2.2.2.2.1
    have hit := q9.2.2.2.2.2.1
    have hI := q9.2.2.2.2.2.2.1
    have hl := q9.2.2.2.2.2.2.2
    clear q9
    subst es9
    subst ef9
    by_cases hjk : j < k
    · refine W.item j _ _ _ hjk hit fun v h₂ tk₂ hPv hst₂ hk₂ => ?_
      obtain ⟨_, tj, rfl⟩ := hPv
      have b₂ := b'.but hk₂ hHn hII hCI hDI
      refine wpAny_assign_Name (wpAny_storeName_local hy b₂.ns (fun h₃ hn₃ hs₃ => ?_) hp)
      have b₃ : B2 H h₃ I D cenv.locals oI (fun z => if z = y then some (.int (0 + (j : Int) * 1) tj) else m' z) ys :=
        ⟨fun a o e => hs₃.extBut a o (fun q => by rw [q, hHC] at e; cases e) (b₂.keep a o e), hs₃.extBut _ _ hIC b₂.it, hn₃, hs₃.extBut _ _ hDC b₂.acc⟩
      have hmx : (fun z => if z = y then some (Value.int (0 + (j : Int) * 1) tj) else m' z) x = some (.int (k : Nat) tx) := (if_neg hxy).trans hm'
      have hmy : (fun z => if z = y then some (Value.int (0 + (j : Int) * 1) tj) else m' z) y = some (.int (j : Nat) tj) := (if_pos rfl).trans (by rw [Int.zero_add, Int.mul_one])
      have hst₃ : IsRangeIter h₃ s.heap.objs.size (0 + ((j + 1 : Nat) : Int) * 1) ((k : Int) - ((j + 1 : Nat) : Int)) 1 := hs₃.extBut _ _ (fun q => hCI (by rw [q]; exact List.mem_singleton_self _)) hst₂
      refine wpAny_mono (htests j tj _ _ hjk hn₃ hmx hmy b₃.keep) (fun ok s₃ q₃ => ?_) fun _ _ e => e
      have eo9 := q₃.1
      refine ex2 q₃.2 fun h₄ tk₄ q9 => ?_
      clear q₃
      have es9 := q9.1
      have hk₄ := q9.2
      clear q9
      subst es9
      subst eo9
      have b₄ := b₃.keeps hk₄
      have hst₄ := hk₄ _ _ hst₃
      by_cases hpj : p j = true
      · rw [if_pos hpj]
        refine wpAny_mono (helt j tj _ _ hjk b₄.ns hmx hmy b₄.keep) (fun z s₅ q₅ => ?_) fun _ _ e => e
        refine ex2 q₅.1 fun a ta' ez9 => ?_
        refine ex2 q₅.2 fun h₅ tk₅ q9 => ?_
        clear q₅
        have es9 := q9.1
        have hk₅ := q9.2
        clear q9
        subst es9
        subst ez9
        have b₅ := b₄.keeps hk₅
        have hst₅ := hk₅ _ _ hst₄
        have hlen := hI.length
        have hrc := rowC_le p j
        refine append_at (hsz := by rw [List.size_toArray, sizeLine_eq]; omega) b₅.acc fun h₆ hs₆ hD₆ => ?_
        refine ⟨k + 1 - (j + 1), by omega, h₆, _, j + 1, ys ++ [.int a ta'], ns ++ [a], _, rfl, hjk, rfl, ⟨fun c o e => hs₆.extBut c o (fun q => by rw [q, hHD] at e; cases e) (b₅.keep c o e), hs₆.extBut _ _ hID b₅.it, b₅.ns.sameBut hs₆ (Ne.symm hDC), hD₆.trans (congrArg some (LCg.lst_snoc ys _))⟩, hmx, hs₆.extBut _ _ (fun q => hDI (by rw [q]; exact List.mem_singleton_self _)) hst₅, hI.append (.cons _ _ .nil), ?_⟩
        rw [List.length_append, hl]; show _ = _ + (rowC p j + _); rw [if_pos hpj]; rfl
      · rw [if_neg hpj]
        refine ⟨k + 1 - (j + 1), by omega, h₄, _, j + 1, ys, ns, _, rfl, hjk, rfl, b₄, hmx, hst₄, hI, ?_⟩
        rw [hl]; show _ = _ + (rowC p j + _); rw [if_neg hpj]; rfl
    · obtain rfl : j = k := Nat.le_antisymm hj (Nat.not_lt.mp hjk)
      refine W.done _ _ _ hit fun h₂ tk₂ hk₂ => ?_
      exact hR _ _ _ _ _ (b'.but hk₂ hHn hII hCI hDI) hI hl
  refine start_any (.inr rfl) (loop _ rfl) (W.self 0 _ _ _ it0 (loop _ rfl))

def C2It (k : Nat) (s₂ : Shared) (xv : Value) (s₃ : Shared) : Prop := ∃ r t u v, xv = .ref r ∧ IsRange s₃.heap r 0 (k : Nat) 1 t u v ∧ Keeps s₂ s₃
def C2Te (b : Bool) (s₂ : Shared) (ok : Bool) (s₃ : Shared) : Prop := ok = b ∧ Keeps s₂ s₃
def C2El (s₂ : Shared) (z : Value) (s₃ : Shared) : Prop := (∃ a t, z = .int a t) ∧ Keeps s₂ s₃
theorem c2_in {h₀ h h2 : Heap} {L C : Addr} {m m₂ : Str → Option Value} {news : List (Addr × Obj)} (F : Fr h₀ L h m) (N : News h₀ L h news) (hn : h2.Ns C m₂) (hC : h.objs.size ≤ C) (keep : ∀ b o, h.get? b = some o → h2.get? b = some o) :
    ∃ oC, LCg.NsObj oC m₂ ∧ Fr h₀ L h2 m ∧ News h₀ L h2 ((C, oC) :: news) := by
  obtain ⟨oC, eC, hoC⟩ := LCg.ns_obj hn
  have hL : L < h.objs.size := F.ns.lt
  refine ⟨oC, hoC, F.keeps keep, fun p hp => ?_⟩
  rcases List.mem_cons.mp hp with rfl | hp
  · exact ⟨eC, Nat.ne_of_gt (Nat.lt_of_lt_of_le hL hC), Heap.get?_none_of_le (Nat.le_trans F.above (Nat.le_trans (Nat.le_of_lt hL) hC))⟩
  · exact ⟨keep _ _ (N p hp).1, (N p hp).2⟩
def C2Src (prog : Program) (w : World) (A : Around) (h₀ : Heap) (L : Addr) (m : Str → Option Value) (elt ib : Expr) (x y : Str) (ifs : List Expr) (scope : Scope) (cl : List (Str × Addr)) (env : Env) (n : Nat) (p : Nat → Nat → Bool) (Q : Value → Shared → Prop) (xv : Value) (s₁ : Shared) : Prop :=
    ∃ r t u v news, xv = .ref r ∧ IsRange s₁.heap r 0 (n : Nat) 1 t u v ∧ Fr h₀ L s₁.heap m ∧ News h₀ L s₁.heap news ∧
      (∀ C (k : Nat) tx s₂ m₂, s₁.heap.objs.size ≤ C → k < n → s₂.heap.Ns C m₂ → m₂ x = some (.int (k : Nat) tx) → (∀ b o, s₁.heap.get? b = some o → s₂.heap.get? b = some o) →
        wpAny (model prog w) A (eval ib (compEnvC scope cl C env)) (C2It k s₂) NoE s₂) ∧
      (∀ C (k j : Nat) tx tj s₂ m₂, s₁.heap.objs.size ≤ C → k < n → j < k → s₂.heap.Ns C m₂ → m₂ x = some (.int (k : Nat) tx) → m₂ y = some (.int (j : Nat) tj) → (∀ b o, s₁.heap.get? b = some o → s₂.heap.get? b = some o) →
        wpAny (model prog w) A (forIn ifs true fun c r => if r = true then do let ok ← isTrue c (compEnvC scope cl C env) (eval c (compEnvC scope cl C env)); pure (ForInStep.yield ok) else pure (ForInStep.yield r)) (C2Te (p k j) s₂) NoE s₂) ∧
      (∀ C (k j : Nat) tx tj s₂ m₂, s₁.heap.objs.size ≤ C → k < n → j < k → s₂.heap.Ns C m₂ → m₂ x = some (.int (k : Nat) tx) → m₂ y = some (.int (j : Nat) tj) → (∀ b o, s₁.heap.get? b = some o → s₂.heap.get? b = some o) →
        wpAny (model prog w) A (eval elt (compEnvC scope cl C env)) (C2El s₂) NoE s₂) ∧
      (∀ D (ys : List Value) ns h' tk, Fr h₀ L h' m → News h₀ L h' ((D, LCg.lst ys) :: news) → (∀ q ∈ news, q.1 < D) → IntsAre ys ns → ns.length = allC p n → Q (.ref D) { s₁ with heap := h', toks := tk })
theorem C2Src.elim {A : Around} {h₀ : Heap} {L : Addr} {m : Str → Option Value} {elt ib : Expr} {x y : Str} {ifs : List Expr} {scope : Scope} {cl : List (Str × Addr)} {env : Env} {n : Nat} {p : Nat → Nat → Bool} {Q : Value → Shared → Prop} {xv : Value} {s₁ : Shared} {G : Prop}
    (h : C2Src prog w A h₀ L m elt ib x y ifs scope cl env n p Q xv s₁)
    (k : ∀ r t u v news, xv = .ref r → IsRange s₁.heap r 0 (n : Nat) 1 t u v → Fr h₀ L s₁.heap m → News h₀ L s₁.heap news →
      (∀ C (k : Nat) tx s₂ m₂, s₁.heap.objs.size ≤ C → k < n → s₂.heap.Ns C m₂ → m₂ x = some (.int (k : Nat) tx) → (∀ b o, s₁.heap.get? b = some o → s₂.heap.get? b = some o) →
        wpAny (model prog w) A (eval ib (compEnvC scope cl C env)) (C2It k s₂) NoE s₂) →
      (∀ C (k j : Nat) tx tj s₂ m₂, s₁.heap.objs.size ≤ C → k < n → j < k → s₂.heap.Ns C m₂ → m₂ x = some (.int (k : Nat) tx) → m₂ y = some (.int (j : Nat) tj) → (∀ b o, s₁.heap.get? b = some o → s₂.heap.get? b = some o) →
        wpAny (model prog w) A (forIn ifs true fun c r => if r = true then do let ok ← isTrue c (compEnvC scope cl C env) (eval c (compEnvC scope cl C env)); pure (ForInStep.yield ok) else pure (ForInStep.yield r)) (C2Te (p k j) s₂) NoE s₂) →
      (∀ C (k j : Nat) tx tj s₂ m₂, s₁.heap.objs.size ≤ C → k < n → j < k → s₂.heap.Ns C m₂ → m₂ x = some (.int (k : Nat) tx) → m₂ y = some (.int (j : Nat) tj) → (∀ b o, s₁.heap.get? b = some o → s₂.heap.get? b = some o) →
        wpAny (model prog w) A (eval elt (compEnvC scope cl C env)) (C2El s₂) NoE s₂) →
      (∀ D (ys : List Value) ns h' tk, Fr h₀ L h' m → News h₀ L h' ((D, LCg.lst ys) :: news) → (∀ q ∈ news, q.1 < D) → IntsAre ys ns → ns.length = allC p n → Q (.ref D) { s₁ with heap := h', toks := tk }) → G) : G := by
  obtain ⟨r, t, u, v, news, e, hr, F, N, h1, h2, h3, h4⟩ := h
  exact k r t u v news e hr F N h1 h2 h3 h4
theorem C2It.elim {k : Nat} {s₂ s₃ : Shared} {xv : Value} {G : Prop} (h : C2It k s₂ xv s₃) (c : ∀ r t u v, xv = .ref r → IsRange s₃.heap r 0 (k : Nat) 1 t u v → Keeps s₂ s₃ → G) : G := by
  obtain ⟨r, t, u, v, e, hr, hk⟩ := h
  exact c r t u v e hr hk
theorem comp2_range {elt ia ib : Expr} {x y : Str} {px py : Pos} {ifs : List Expr} {scope : Scope} {cl : List (Str × Addr)} {pos : Pos} {env : Env} {h₀ : Heap} {L : Addr} {m : Str → Option Value} {n : Nat} {Q E : Value → Shared → Prop} (_F₀ : Fr h₀ L s.heap m) (p : Nat → Nat → Bool)
    (hh : A.handled = none) (hclos : closureFor scope env = pure cl) (hcell : ∀ z ∈ scope.names, z.2 ≠ .cell) (hkind : scope.kind = .function)
    (hnames : ∀ z ∈ scope.names, z.2 = .local → scope.names.lookup z.1 = some .local) (hx : scope.names.lookup x = some .local) (hy : scope.names.lookup y = some .local) (hxy : x ≠ y) (hn100 : n ≤ 100)
    (h : wpAny (model prog w) A (eval ia env) (C2Src prog w A h₀ L m elt ib x y ifs scope cl env n p Q) E s)
    (hsa : ∀ x, foldedSetIterable ia env x = pure x) (hsb : ∀ C x, foldedSetIterable ib (compEnvC scope cl C env) x = pure x) :
    wpAny (model prog w) A (eval (.ListComp elt [⟨.Name x px, ia, [], 0⟩, ⟨.Name y py, ib, ifs, 0⟩] scope pos) env) Q E s := by
  rw [eval_ListComp]
  refine wpAny_comprehension_free (use := none) rfl hsa hclos hkind hnames (wpAny_mono h (fun xv s₁ h₁ => ?_) fun _ _ e => e)
  refine h₁.elim fun r t u v news ex9 hr F N hiter htests helt hQ => ?_
  clear h₁
  subst ex9
  have hn : Builtin.Range.rangeSize 0 (n : Nat) 1 = (n : Int) := by unfold Builtin.Range.rangeSize; simp; try omega
  refine wpAny_pyIter_range hr (small_one (by omega) (by omega) (by omega) (by omega)) ?_
  have W : Walks prog w A s₁.heap.objs.size [s₁.heap.objs.size] [s₁.heap.objs.size] n (fun i v => i < n ∧ ∃ t, v = .int (0 + i * 1) t) (fun i h => IsRangeIter h s₁.heap.objs.size (0 + (i : Nat) * 1) ((n : Int) - (i : Nat)) 1) := (Walks.range hh _ 0 1 n).bound
  have it0 : IsRangeIter (s₁.heap.push { cls := .type "range_iterator", data := .fields #[rawInt 0, rawInt (Builtin.Range.rangeSize 0 (n : Nat) 1), rawInt 1] }) s₁.heap.objs.size (0 + ((0 : Nat) : Int) * 1) ((n : Int) - ((0 : Nat) : Int)) 1 := by
    show IsRangeIter _ _ _ _ _; rw [hn]; simpa using Heap.get?_push_size _ rfl
  generalize hH1 : s₁.heap.push { cls := .type "range_iterator", data := .fields #[rawInt 0, rawInt (Builtin.Range.rangeSize 0 (n : Nat) 1), rawInt 1] } = H1 at it0 ⊢
  have up1 : ∀ b o, s₁.heap.get? b = some o → H1.get? b = some o := fun b o e => hH1 ▸ Heap.get?_push_of_some _ e
  have sz1 : H1.objs.size = s₁.heap.objs.size + 1 := by rw [← hH1, Heap.size_push]
  refine wpAny_newObj_type (wpAny_newFunctionEnv hcell (by intro y hy; simp at hy) (fun h₁ hns₁ hsb₁ => ?_) hkind)
  dsimp only at hns₁ hsb₁ ⊢
  generalize hH2 : H1.push { cls := .type "list", dict := none, data := .seq ([] : List Value).toArray } = H2 at hns₁ hsb₁ ⊢
  have hC : H2.objs.size = H1.objs.size + 1 := by rw [← hH2, Heap.size_push]
  generalize hDe : H1.objs.size = D at *
  generalize hCe : H2.objs.size = C at *
  generalize hIe : s₁.heap.objs.size = I at *
  have hDC : D ≠ C := by omega
  have hIC : I ≠ C := by omega
  have hID : I ≠ D := by omega
  have below : ∀ b, b < D → b ≠ C ∧ b ≠ D := fun b hb => ⟨by omega, by omega⟩
  have old : ∀ b o, H1.get? b = some o → h₁.get? b = some o := fun b o e => by
    have hb : b < D := hDe ▸ Heap.lt_size e
    exact hsb₁.extBut b o (below b hb).1 (Heap.get?_push_of_some _ (hH2 ▸ Heap.get?_push_of_some _ e))
  have hacc : h₁.get? D = some (LCg.lst []) := hsb₁.extBut _ _ hDC (Heap.get?_push_of_some _ (hH2 ▸ hDe ▸ Heap.get?_push_size _ rfl))
  have fresh : ∀ a, I ≤ a → s₁.heap.get? a = none := fun a ha => by
    cases e : s₁.heap.get? a with
    | none => rfl
    | some o' => exact absurd (hIe ▸ Heap.lt_size e) (Nat.not_lt.mpr ha)
  have hHI := fresh I (Nat.le_refl _)
  have hHC := fresh C (by omega)
  have hHD := fresh D (by omega)
  have kx := lookup_relabel_local (env := env) hx
  have ky := lookup_relabel_local (env := env) hy
  have b0 : B2 s₁.heap h₁ I D C { cls := .type "range_iterator", data := .fields #[rawInt (0 + ((0 : Nat) : Int) * 1), rawInt ((n : Int) - ((0 : Nat) : Int)), rawInt 1] } (fun x => List.lookup x ([] : List (Str × Value)).reverse) [] := ⟨fun b o e => old b o (up1 b o e), old _ _ it0, hns₁, hacc⟩
  have fin : ∀ h' tk m' ys ns, (∀ b o, s₁.heap.get? b = some o → h'.get? b = some o) → h'.Ns C m' → h'.get? D = some (LCg.lst ys) → IntsAre ys ns → ns.length = allC p n → compPost (model prog w) A E none Q (.ref D) C (.ok .next) { s₁ with heap := h', toks := tk } := by
    intro h' tk m' ys ns bk bn ba hi hl
    have hL : L < I := hIe ▸ F.ns.lt
    have N' : News h₀ L h' ((D, LCg.lst ys) :: news) := fun q hq => by
      rcases List.mem_cons.mp hq with rfl | hq
      · refine ⟨ba, Nat.ne_of_gt (Nat.lt_trans hL (by omega)), ?_⟩
        cases e : h₀.get? D with
        | none => rfl
        | some o => have := F.keep _ _ e; rw [hHD] at this; cases this
      · exact ⟨bk _ _ (N q hq).1, (N q hq).2⟩
    have hlt : ∀ q ∈ news, q.1 < D := fun q hq => by
      have : q.1 < I := hIe ▸ Heap.lt_size (N q hq).1
      exact Nat.lt_trans this (by omega)
    have hC0 : h₀.get? C = none := by
      cases e : h₀.get? C with
      | none => rfl
      | some o => have := F.keep _ _ e; rw [hHC] at this; cases this
    refine ⟨m', bn, fun h'' hs'' => hQ D ys ns h'' tk ((F.keeps bk).change hs'' (Nat.ne_of_gt (Nat.lt_trans hL (by omega))) hC0) (fun q hq => ⟨hs''.extBut _ _ ?_ (N' q hq).1, (N' q hq).2⟩) hlt hi hl⟩
    rcases List.mem_cons.mp hq with rfl | hq
    · exact hDC
    · have := hlt q hq
      have : D < C := by omega
      exact Nat.ne_of_lt (Nat.lt_trans (hlt q hq) this)
  have loop : ∀ s₃ : Shared, s₃ = { s₁ with heap := h₁, toks := s₁.toks + ([] : List (Str × Value)).length } →
      codeAny (model prog w) A (.compLoop (.ListComp elt [⟨.Name x px, ia, [], 0⟩, ⟨.Name y py, ib, ifs, 0⟩] scope pos) 0 (.ref I) (.ref D) (compEnvC scope cl C env)) (compPost (model prog w) A E none Q (.ref D) C) s₃ := by
    rintro s₃ rfl
    refine loop_outer (fun fu s' => ∃ h' tk i ys ns m', s' = { s₁ with heap := h', toks := tk } ∧ i ≤ n ∧ fu = n + 1 - i ∧ B2 s₁.heap h' I D C { cls := .type "range_iterator", data := .fields #[rawInt (0 + (i : Nat) * 1), rawInt ((n : Int) - (i : Nat)), rawInt 1] } m' ys ∧
        IntsAre ys ns ∧ ns.length = allC p i) ?_ (n + 1)
      ⟨_, _, 0, [], [], _, rfl, Nat.zero_le _, rfl, b0, .nil, rfl⟩ (hsb C)
    intro fu s' hx9
    refine ex6 hx9 fun h' tk i ys ns m' q9 => ?_
    clear hx9
    have es9 := q9.1
    have hi := q9.2.1
    have ef9 := q9.2.2.1
    have b' := q9.2.2.2.1
    have hI := q9.2.2.2.2.1
    have hl := q9.2.2.2.2.2
    clear q9
    subst es9
    subst ef9
    by_cases hlt : i < n
    · refine W.item i _ _ _ hlt b'.it fun v h₂ tk₂ hPv hst₂ hk₂ => ?_
      obtain ⟨_, tx, rfl⟩ := hPv
      have hn₂ : h₂.Ns C m' := b'.ns.at' fun o e => hk₂ _ o (by rw [List.mem_singleton]; exact Ne.symm hIC) e
      have hk2 : ∀ b o, s₁.heap.get? b = some o → h₂.get? b = some o := fun b o e => hk₂ _ _ (by rw [List.mem_singleton]; intro q; rw [q, hHI] at e; cases e) (b'.keep b o e)
      have ha2 : h₂.get? D = some (LCg.lst ys) := hk₂ _ _ (by rw [List.mem_singleton]; exact Ne.symm hID) b'.acc
      refine wpAny_assign_Name (wpAny_storeName_local kx hn₂ (fun h₃ hn₃ hs₃ => ?_) (by simp [compEnvC, relabel, hkind]))
      have b₃ : B2 s₁.heap h₃ I D C { cls := .type "range_iterator", data := .fields #[rawInt (0 + ((i + 1 : Nat) : Int) * 1), rawInt ((n : Int) - ((i + 1 : Nat) : Int)), rawInt 1] } (fun z => if z = x then some (.int (0 + (i : Int) * 1) tx) else m' z) ys :=
        ⟨fun a o e => hs₃.extBut a o (fun q => by have q' : a = C := q; rw [q', hHC] at e; cases e) (hk2 a o e), hs₃.extBut _ _ hIC hst₂, hn₃, hs₃.extBut _ _ hDC ha2⟩
      have hmx : (fun z => if z = x then some (Value.int (0 + (i : Int) * 1) tx) else m' z) x = some (.int (i : Nat) tx) := (if_pos rfl).trans (by rw [Int.zero_add, Int.mul_one])
      refine wpAny_mono (hiter C i tx _ _ (by omega) hlt hn₃ hmx b₃.keep) (fun xv s₄ q₄ => ?_) fun _ _ e => e
      refine q₄.elim fun r' t' u' v' ex9 hr' hk9 => ?_
      clear q₄
      refine ex2 hk9 fun h₄ tk₄ q9 => ?_
      clear hk9
      have es9 := q9.1
      have hk₄ := q9.2
      clear q9
      subst es9
      subst ex9
      have b₄ := b₃.keeps hk₄
      have hal := allC_le p (i := i) (by omega)
      refine inner_run (cenv := compEnvC scope cl C env) (p i) hh ky (by simp [compEnvC, relabel, hkind]) hxy (by omega) (fun j tj s₂ m₂ hj => htests C i j tx tj s₂ m₂ (by omega) hlt hj) (fun j tj s₂ m₂ hj => helt C i j tx tj s₂ m₂ (by omega) hlt hj) hIC hID hDC hHC hHD b₄ hmx hI (by omega) hr' ?_
      intro h₅ tk₅ m₅ ys₅ ns₅ b₅ hi₅ hl₅
      exact ⟨n + 1 - (i + 1), by omega, h₅, tk₅, i + 1, ys₅, ns₅, m₅, rfl, hlt, rfl, b₅, hi₅, by rw [hl₅, hl]; rfl⟩
    · obtain rfl : i = n := Nat.le_antisymm hi (Nat.not_lt.mp hlt)
      refine W.done _ _ _ b'.it fun h₂ tk₂ hk₂ => ?_
      exact fin _ _ _ _ _ (fun b o e => hk₂ _ _ (by rw [List.mem_singleton]; intro q; rw [q, hHI] at e; cases e) (b'.keep b o e)) (b'.ns.at' fun o e => hk₂ _ o (by rw [List.mem_singleton]; exact Ne.symm hIC) e) (hk₂ _ _ (by rw [List.mem_singleton]; exact Ne.symm hID) b'.acc) hI hl
  exact start_any (.inl rfl) (loop _ rfl) (no_mono (W.self 0 _ _ _ b0.it (loop _ rfl)))
end
end Mine
end
section
open PySem PySem.W PySem.Spec PySem.Calls PyProof.Rows
set_option maxRecDepth 100000
namespace Mine
/-- all rows of k unlike numbers out of a pool -/
def allRows : List Int → Nat → List (List Int)
  | _, 0 => [[]]
  | pool, k + 1 => pool.flatMap fun x => (allRows (pool.erase x) k).map (x :: ·)
theorem mem_allRows : ∀ (l pool : List Int), l.Nodup → (∀ x ∈ l, x ∈ pool) → l ∈ allRows pool l.length
  | [], _, _, _ => List.mem_singleton.mpr rfl
  | x :: l, pool, hn, hs => by
    obtain ⟨h1, h2⟩ := List.nodup_cons.mp hn
    refine List.mem_flatMap.mpr ⟨x, hs x (.head _), List.mem_map.mpr ⟨l, mem_allRows l _ h2 fun y hy => ?_, rfl⟩⟩
    exact (List.mem_erase_of_ne (by rintro rfl; exact h1 hy)).mpr (hs y (.tail _ hy))
def setD (ns : List Int) (e : Int) (ds : List (Option (Nat × Nat))) (t : Int) : List (Option (Nat × Nat)) := ds.set (ns.getD t.toNat 0 - 1).toNat (some (0, (e - t).toNat))
def dueLD (ns : List Int) : Nat → Int → List Int → List (Option (Nat × Nat)) → List Int × List (Option (Nat × Nat))
  | 0, _, o, r => (o, r)
  | f + 1, k, o, r => if k < ns.length then dueLD ns f (runE ns k) (o ++ chunk ns k) ((rangeKs k (runE ns k - k).toNat).foldl (setD ns (runE ns k)) r) else (o, r)
/-- all ends of a list: its head and what stands behind it -/
def ends {α : Type} (G : Int → List Int → List α) : List Int → List α
  | [] => []
  | x :: r => G x r ++ ends G r
def f0C (ns : List Int) : List Int := ends (fun x r => ends (fun y q => q.map (sixC x y)) r) ns
def farC (xs : List Int) : Int := (xs.map fun k' => if k' - 3 < 0 then -(k' - 3) else k' - 3).sum
def leC (xs : List Int) (v : Int) : Int := ((xs.filter fun x => decide (x ≤ v)).length : Nat)
/-- the pass by comparison alone: what is left, the pile (its top first), what came out -/
def passGo : List Int → List Int → List Int → List Int
  | [], pi, out => out ++ pi
  | x :: r, [], out => passGo r [x] out
  | x :: r, t :: pi, out => if t < x then passGo r [x] (out ++ t :: pi) else passGo r (x :: t :: pi) out
def passC (r : List Int) : List Int := passGo r [] []
def outsC : Nat → List Int → List Int
  | 0, r => r
  | k + 1, r => outsC k (passC r)
def cntC : List Int → Int
  | [] => 0
  | x :: r => ((r.filter fun y => decide (y < x)).length : Nat) + cntC r
def chkA (n : Nat) (row : List Int) : Bool := match passF row with
  | (o, ps) => decide (dueLD row row.length 0 [] (List.replicate row.length none) = (o, ps.map some)) && decide (o = passC row) && decide (ps.length = n) && ps.all (fun p => decide (p.1 + p.2 ≤ 20)) && decide ((ps.map fun p => (p.1 : Int) + p.2 - 1).sum = cntC row - cntC (passC row))
def chkB (n : Nat) (row : List Int) : Bool := decide ((passC row).length = n) && (passC row).all (fun x => decide (1 ≤ x) && decide (x ≤ n)) && decide (passC row).Nodup
def chkC (n : Nat) (row : List Int) : Bool := decide (farC (f0C row) = ((n : Int) - 2) * cntC row)
def chkD (row : List Int) : Bool := decide (0 + (leC (f0C row) 1 - leC (f0C row) 0) + (leC (f0C row) 5 - leC (f0C row) 4) = 0) == decide (cntC (passC row) = 0)
def chkE (n : Nat) (row : List Int) : Bool := decide (cntF row = cntC row) && decide (cntC row = (allC (fun k j => decide (row.getD k 0 < row.getD j 0)) n : Nat))
def chkF (n : Nat) (row : List Int) : Bool := decide (cntC (outsC (n - 1) row) = 0)
def chkG (n : Nat) (row : List Int) : Bool := !decide (cntC row = 0) || decide ((rangeKs 0 n).map (fun k => bisL row (k + 1)) = rangeKs 0 n)
set_option maxHeartbeats 0
theorem chkA5 : (allRows [1, 2, 3, 4, 5] 5).all (chkA 5) = true := by decide +kernel
theorem chkB5 : (allRows [1, 2, 3, 4, 5] 5).all (chkB 5) = true := by decide +kernel
theorem chkC5 : (allRows [1, 2, 3, 4, 5] 5).all (chkC 5) = true := by decide +kernel
theorem chkD5 : (allRows [1, 2, 3, 4, 5] 5).all chkD = true := by decide +kernel
theorem chkE5 : (allRows [1, 2, 3, 4, 5] 5).all (chkE 5) = true := by decide +kernel
theorem chkF5 : (allRows [1, 2, 3, 4, 5] 5).all (chkF 5) = true := by decide +kernel
theorem chkG5 : (allRows [1, 2, 3, 4, 5] 5).all (chkG 5) = true := by decide +kernel
theorem chkB6 : (allRows [1, 2, 3, 4, 5, 6] 6).all (chkB 6) = true := by decide +kernel
theorem chkC6 : (allRows [1, 2, 3, 4, 5, 6] 6).all (chkC 6) = true := by decide +kernel
theorem chkD6 : (allRows [1, 2, 3, 4, 5, 6] 6).all chkD = true := by decide +kernel
theorem chkE6 : (allRows [1, 2, 3, 4, 5, 6] 6).all (chkE 6) = true := by decide +kernel
theorem chkF6 : (allRows [1, 2, 3, 4, 5, 6] 6).all (chkF 6) = true := by decide +kernel
theorem chkG6 : (allRows [1, 2, 3, 4, 5, 6] 6).all (chkG 6) = true := by decide +kernel
theorem chkA6_1 : (allRows [2, 3, 4, 5, 6] 5).all (fun r => chkA 6 (1 :: r)) = true := by decide +kernel
theorem chkA6_2 : (allRows [1, 3, 4, 5, 6] 5).all (fun r => chkA 6 (2 :: r)) = true := by decide +kernel
theorem chkA6_3 : (allRows [1, 2, 4, 5, 6] 5).all (fun r => chkA 6 (3 :: r)) = true := by decide +kernel
theorem chkA6_4 : (allRows [1, 2, 3, 5, 6] 5).all (fun r => chkA 6 (4 :: r)) = true := by decide +kernel
theorem chkA6_5 : (allRows [1, 2, 3, 4, 6] 5).all (fun r => chkA 6 (5 :: r)) = true := by decide +kernel
theorem chkA6_6 : (allRows [1, 2, 3, 4, 5] 5).all (fun r => chkA 6 (6 :: r)) = true := by decide +kernel
theorem chkA6 : (allRows [1, 2, 3, 4, 5, 6] 6).all (chkA 6) = true := by
  have e : allRows [1, 2, 3, 4, 5, 6] 6 = [1, 2, 3, 4, 5, 6].flatMap fun x => (allRows ([1, 2, 3, 4, 5, 6].erase x) 5).map (x :: ·) := rfl
  rw [e, List.all_flatMap]
  simp only [List.all_cons, List.all_nil, List.all_map, Bool.and_true, Bool.and_eq_true]
  exact ⟨chkA6_1, chkA6_2, chkA6_3, chkA6_4, chkA6_5, chkA6_6⟩
end Mine
end
section
open PySem PySem.W PySem.Spec PySem.Calls PyProof.Rows
set_option maxRecDepth 100000
namespace Mine
/-- a row of the numbers 1 to n -/
structure RowN (n : Nat) (row : List Int) : Prop where
  len : row.length = n
  rng : ∀ x ∈ row, 1 ≤ x ∧ x ≤ n
  nd : row.Nodup
theorem RowN.rin {n : Nat} {row : List Int} (h : RowN n row) (hn : n ≤ 6) : RowIn row := ⟨by rw [h.len]; exact hn, fun x hx => by rw [h.len]; exact h.rng x hx⟩
theorem RowN.rok {n : Nat} {row : List Int} (h : RowN n row) (hn : n ≤ 6) : RowOk row := ⟨by rw [h.len]; exact hn, fun x hx => by have := h.rng x hx; omega, h.nd⟩
theorem RowN.mem5 {row : List Int} (h : RowN 5 row) : row ∈ allRows [1, 2, 3, 4, 5] 5 := by
  have := mem_allRows row [1, 2, 3, 4, 5] h.nd fun x hx => by
    have := h.rng x hx
    have : x = 1 ∨ x = 2 ∨ x = 3 ∨ x = 4 ∨ x = 5 := by omega
    simpa using this
  rwa [h.len] at this
theorem RowN.mem6 {row : List Int} (h : RowN 6 row) : row ∈ allRows [1, 2, 3, 4, 5, 6] 6 := by
  have := mem_allRows row [1, 2, 3, 4, 5, 6] h.nd fun x hx => by
    have := h.rng x hx
    have : x = 1 ∨ x = 2 ∨ x = 3 ∨ x = 4 ∨ x = 5 ∨ x = 6 := by omega
    simpa using this
  rwa [h.len] at this
structure Chks (n : Nat) (row : List Int) : Prop where
  a : chkA n row = true
  b : chkB n row = true
  c : chkC n row = true
  d : chkD row = true
  e : chkE n row = true
  f : chkF n row = true
  g : chkG n row = true
theorem RowN.chks {n : Nat} {row : List Int} (h : RowN n row) (hn : n = 5 ∨ n = 6) : Chks n row := by
  rcases hn with rfl | rfl
  · have hm := h.mem5
    exact ⟨List.all_eq_true.mp chkA5 _ hm, List.all_eq_true.mp chkB5 _ hm, List.all_eq_true.mp chkC5 _ hm, List.all_eq_true.mp chkD5 _ hm, List.all_eq_true.mp chkE5 _ hm, List.all_eq_true.mp chkF5 _ hm, List.all_eq_true.mp chkG5 _ hm⟩
  · have hm := h.mem6
    exact ⟨List.all_eq_true.mp chkA6 _ hm, List.all_eq_true.mp chkB6 _ hm, List.all_eq_true.mp chkC6 _ hm, List.all_eq_true.mp chkD6 _ hm, List.all_eq_true.mp chkE6 _ hm, List.all_eq_true.mp chkF6 _ hm, List.all_eq_true.mp chkG6 _ hm⟩
-- the rows that _law_due makes
def strD (ds : List (Option (Nat × Nat))) : List Str := ds.mapIdx fun i d => match d with
  | none => Str.ofString ""
  | some p => rowT i p.1 p.2
theorem strD_len (ds : List (Option (Nat × Nat))) : (strD ds).length = ds.length := by simp [strD]
theorem strD_some (ps : List (Nat × Nat)) : strD (ps.map some) = rowsT ps := by
  apply List.ext_getElem?
  intro i
  simp only [strD, rowsT, List.getElem?_mapIdx, List.getElem?_map]
  cases ps[i]? <;> rfl
theorem strD_none (n : Nat) : strD (List.replicate n none) = List.replicate n (Str.ofString "") := by
  apply List.ext_getElem?
  intro i
  simp only [strD, List.getElem?_mapIdx, List.getElem?_replicate]
  by_cases h : i < n <;> simp [h]
theorem strD_set (ds : List (Option (Nat × Nat))) (i : Nat) (p : Nat × Nat) : (strD ds).set i (rowT i p.1 p.2) = strD (ds.set i (some p)) := by
  apply List.ext_getElem?
  intro j
  simp only [strD, List.getElem?_set, List.getElem?_mapIdx, List.length_mapIdx]
  by_cases h : i = j
  · subst h
    by_cases h2 : i < ds.length <;> simp [h2]
  · simp [h]
theorem runL_bd (ns : List Int) : ∀ (f : Nat) (m : Int), m ≤ ns.length → runL ns f m ≤ ns.length := by
  intro f
  induction f with
  | zero => intro m h; exact h
  | succ f ih =>
    intro m h
    rw [runL]
    split
    · rename_i hc; exact ih _ (by have := hc.1; omega)
    · exact h
theorem due_sim {ns : List Int} (R : RowIn ns) : ∀ (f : Nat) (k : Int) (o : List Int) (r : List (Option (Nat × Nat))), 0 ≤ k → dueL ns f k o (strD r) = ((dueLD ns f k o r).1, strD (dueLD ns f k o r).2) := by
  intro f
  induction f with
  | zero => intro k o r _; rfl
  | succ f ih =>
    intro k o r hk
    rw [dueL, dueLD]
    by_cases hc : k < ns.length
    · rw [if_pos hc, if_pos hc]
      have hg := runE_gt ns k
      have hb : runE ns k ≤ ns.length := runL_bd ns _ _ (by omega)
      have h6 : ns.length ≤ 6 := R.1
      have key : ∀ (l : List Int) (r : List (Option (Nat × Nat))), (∀ t ∈ l, k ≤ t ∧ t < runE ns k) → l.foldl (setRow ns (runE ns k)) (strD r) = strD (l.foldl (setD ns (runE ns k)) r) := by
        intro l
        induction l with
        | nil => intro r _; rfl
        | cons t l ih2 =>
          intro r hl
          have ht := hl t (.head _)
          have hv := R.at (i := t) (by omega) (by omega)
          rw [List.foldl_cons, List.foldl_cons]
          have e1 : setRow ns (runE ns k) (strD r) t = strD (setD ns (runE ns k) r t) := by
            unfold setRow setD
            rw [letter_dots_row (by omega) (by omega) (by omega) (by omega)]
            exact strD_set r _ (0, (runE ns k - t).toNat)
          rw [e1]
          exact ih2 _ fun t ht => hl t (.tail _ ht)
      rw [key _ _ fun t ht => by have := mem_rangeKs ht; omega]
      exact ih _ _ _ (by omega)
    · rw [if_neg hc, if_neg hc]
theorem due_eq {ns o : List Int} {ps : List (Nat × Nat)} (R : RowIn ns) (h : dueLD ns ns.length 0 [] (List.replicate ns.length none) = (o, ps.map some)) : (dueF ns).1 = o ∧ (dueF ns).2 = rowsT ps := by
  have e := due_sim R ns.length 0 [] (List.replicate ns.length none) (Int.le_refl _)
  rw [strD_none, h, strD_some] at e
  have e' : dueF ns = (o, rowsT ps) := e
  rw [e']; exact ⟨rfl, rfl⟩
-- the sixths
theorem flatMap_same {α β : Type} {f f' : α → List β} : ∀ {l : List α}, (∀ x ∈ l, f x = f' x) → l.flatMap f = l.flatMap f'
  | [], _ => rfl
  | x :: l, h => by
    rw [List.flatMap_cons, List.flatMap_cons, h x (.head _), flatMap_same fun y hy => h y (.tail _ hy)]
theorem six_at {a b c : Int} (ha : 1 ≤ a ∧ a ≤ 6) (hb : 1 ≤ b ∧ b ≤ 6) (hc : 1 ≤ c ∧ c ≤ 6) (h1 : a ≠ b) (h2 : a ≠ c) (h3 : b ≠ c) : sixthF a b c = sixC a b c := by
  have := List.all_eq_true.mp (List.all_eq_true.mp (List.all_eq_true.mp six_table a (mem_one6 ha)) b (mem_one6 hb)) c (mem_one6 hc)
  simpa [h1, h2, h3] using this
theorem ks_cons (a : Int) (n : Nat) : rangeKs a (n + 1) = a :: rangeKs (a + 1) n := by
  unfold rangeKs
  rw [List.range_succ_eq_map, List.map_cons, List.map_map]
  congr 1
  · simp
  · apply List.map_congr_left
    intro x _
    show a + ((x + 1 : Nat) : Int) = a + 1 + x
    omega
theorem drop_int (ns : List Int) {a : Int} (h0 : 0 ≤ a) (h1 : a < ns.length) : ns.drop a.toNat = ns.getD a.toNat 0 :: ns.drop (a + 1).toNat := by
  have h : a.toNat < ns.length := by omega
  rw [List.drop_eq_getElem_cons h, show (a + 1).toNat = a.toNat + 1 by omega]
  simp [h]
theorem ends_map {β : Type} (f : Int → β) (ns : List Int) : ∀ (m : Nat) (a : Int), 0 ≤ a → a + m = ns.length → (rangeKs a m).map (fun k => f (ns.getD k.toNat 0)) = (ns.drop a.toNat).map f
  | 0, a, _, h => by rw [List.drop_eq_nil_of_le (by omega)]; rfl
  | m + 1, a, h0, h => by
    rw [ks_cons, List.map_cons, drop_int ns h0 (by omega), List.map_cons, ends_map f ns m (a + 1) (by omega) (by omega)]
theorem ends_flat {β : Type} (G : Int → List Int → List β) (ns : List Int) : ∀ (m : Nat) (a : Int), 0 ≤ a → a + m = ns.length → (rangeKs a m).flatMap (fun k => G (ns.getD k.toNat 0) (ns.drop (k + 1).toNat)) = ends G (ns.drop a.toNat)
  | 0, a, _, h => by rw [List.drop_eq_nil_of_le (by omega)]; rfl
  | m + 1, a, h0, h => by
    rw [ks_cons, List.flatMap_cons, drop_int ns h0 (by omega), ends, ends_flat G ns m (a + 1) (by omega) (by omega)]
theorem f0_eq {ns : List Int} (R : RowOk ns) : f0 ns = f0C ns := by
  have e2 : ∀ i j : Int, 0 ≤ i → i < j → j < ns.length → f2 ns i j = (ns.drop (j + 1).toNat).map (sixC (ns.getD i.toNat 0) (ns.getD j.toNat 0)) := by
    intro i j hi hij hj
    rw [← ends_map (sixC (ns.getD i.toNat 0) (ns.getD j.toNat 0)) ns ((ns.length : Int) - (j + 1)).toNat (j + 1) (by omega) (by omega)]
    unfold f2
    refine List.map_congr_left fun k hk => ?_
    have hk' := mem_rangeKs hk
    have h1 : k < ns.length := by omega
    exact six_at (R.at hi (by omega)) (R.at (by omega) hj) (R.at (by omega) h1) (R.ne hi hij hj) (R.ne hi (by omega) h1) (R.ne (by omega) (by omega) h1)
  have e1 : ∀ i : Int, 0 ≤ i → i < ns.length → f1 ns i = ends (fun y q => q.map (sixC (ns.getD i.toNat 0) y)) (ns.drop (i + 1).toNat) := by
    intro i hi hl
    rw [← ends_flat (fun y q => q.map (sixC (ns.getD i.toNat 0) y)) ns ((ns.length : Int) - (i + 1)).toNat (i + 1) (by omega) (by omega)]
    unfold f1
    refine flatMap_same fun j hj => ?_
    have hj' := mem_rangeKs hj
    exact e2 i j hi (by omega) (by omega)
  unfold f0 f0C
  have e0 := ends_flat (fun x r => ends (fun y q => q.map (sixC x y)) r) ns ((ns.length : Int) - 0).toNat 0 (by omega) (by omega)
  rw [show (0 : Int).toNat = 0 from rfl, List.drop_zero] at e0
  rw [← e0]
  refine flatMap_same fun i hi => ?_
  have hi' := mem_rangeKs hi
  exact e1 i (by omega) (by omega)
theorem perm_sum {a b : List Int} (p : a.Perm b) : a.sum = b.sum := by
  induction p with
  | nil => rfl
  | cons x _ ih => simp only [List.sum_cons, ih]
  | swap x y l => simp only [List.sum_cons]; omega
  | trans _ _ h1 h2 => exact h1.trans h2
theorem far_eq {ns : List Int} (R : RowOk ns) : farF ns = farC (f0C ns) := by
  unfold farF farC
  rw [seenS_eq, f0_eq R]
  exact perm_sum ((isort_perm _).map _)
-- bisect_right of a sorted list counts
theorem leC_cons (y : Int) (r : List Int) (x : Int) : leC (y :: r) x = (if y ≤ x then 1 else 0) + leC r x := by
  unfold leC
  rw [List.filter_cons]
  by_cases h : y ≤ x
  · rw [if_pos (decide_eq_true h), if_pos h, List.length_cons]; omega
  · rw [if_neg (by simpa using h), if_neg h]; omega
theorem leC_bd (xs : List Int) (x : Int) : 0 ≤ leC xs x ∧ leC xs x ≤ xs.length := by
  have := List.length_filter_le (fun y => decide (y ≤ x)) xs
  unfold leC; omega
theorem leC_zero {r : List Int} {x : Int} (h : ∀ z ∈ r, x < z) : leC r x = 0 := by
  unfold leC
  rw [List.filter_eq_nil_iff.mpr fun z hz => by have := h z hz; simp; omega]; rfl
theorem sorted_at : ∀ {xs : List Int} (_ : xs.Pairwise (· ≤ ·)) (x : Int) (i : Nat), i < xs.length → (xs.getD i 0 ≤ x ↔ (i : Int) < leC xs x)
  | y :: r, hs, x, i, hi => by
    obtain ⟨h1, h2⟩ := List.pairwise_cons.mp hs
    rw [leC_cons]
    have hb := leC_bd r x
    by_cases hy : y ≤ x
    · rw [if_pos hy]
      cases i with
      | zero => simp only [List.getD_cons_zero]; constructor <;> intro _ <;> omega
      | succ i =>
        have := sorted_at h2 x i (by simpa using hi)
        rw [List.getD_cons_succ, this]; omega
    · rw [if_neg hy]
      have hz : leC r x = 0 := leC_zero fun z hz => by have := h1 z hz; omega
      rw [hz]
      cases i with
      | zero => simp only [List.getD_cons_zero]; omega
      | succ i =>
        have hi' : i < r.length := by simpa using hi
        have hm : r.getD i 0 ∈ r := by rw [List.getD_eq_getElem?_getD, List.getElem?_eq_getElem hi']; exact List.getElem_mem hi'
        have := h1 _ hm
        rw [List.getD_cons_succ]; omega
theorem bisRL_sorted {xs : List Int} (hs : xs.Pairwise (· ≤ ·)) (x : Int) : ∀ (k : Nat) (lo hi : Int), 0 ≤ lo → lo ≤ leC xs x → leC xs x ≤ hi → hi ≤ xs.length → (hi - lo).toNat ≤ k → bisRL xs x k lo hi = leC xs x
  | 0, lo, hi, h0, h1, h2, h3, h4 => by rw [bisRL]; omega
  | k + 1, lo, hi, h0, h1, h2, h3, h4 => by
    rw [bisRL]
    by_cases hc : lo < hi
    · rw [if_pos hc]
      have hh := half hc
      have hm : ((lo + hi).fdiv 2).toNat < xs.length := by omega
      have hw := sorted_at hs x _ hm
      rw [show ((((lo + hi).fdiv 2).toNat : Nat) : Int) = (lo + hi).fdiv 2 by omega] at hw
      by_cases hx : x < xs.getD ((lo + hi).fdiv 2).toNat 0
      · rw [if_pos hx]
        exact bisRL_sorted hs x k _ _ h0 h1 (by have := mt hw.mpr (by omega); omega) (by omega) (by omega)
      · rw [if_neg hx]
        exact bisRL_sorted hs x k _ _ (by omega) (by have := hw.mp (by omega); omega) h2 h3 (by omega)
    · rw [if_neg hc]; omega
theorem bisR_sorted {xs : List Int} (hs : xs.Pairwise (· ≤ ·)) (x : Int) : bisR xs x = leC xs x := by
  have := leC_bd xs x
  exact bisRL_sorted hs x _ _ _ (Int.le_refl _) this.1 this.2 (Int.le_refl _) (by omega)
theorem perm_leC {a b : List Int} (p : a.Perm b) (x : Int) : leC a x = leC b x := by
  unfold leC
  rw [(p.filter _).length_eq]
theorem apart_eq {ns : List Int} (R : RowOk ns) : apartF ns = 0 + (leC (f0C ns) 1 - leC (f0C ns) 0) + (leC (f0C ns) 5 - leC (f0C ns) 4) := by
  unfold apartF
  rw [seenS_eq, f0_eq R]
  have hs := isort_sorted (f0C ns)
  have e : ∀ x, bisR (isort (f0C ns)) x = leC (f0C ns) x := fun x => (bisR_sorted hs x).trans (perm_leC (isort_perm _) x)
  rw [e, e, e, e]
  rfl
/-- all that a turn of the law asks of its row -/
structure TurnOk (n : Nat) (row : List Int) : Prop where
  due1 : (dueF row).1 = (passF row).1
  due2 : (dueF row).2 = rowsT (passF row).2
  len : (passF row).2.length = n
  bd : ∀ p ∈ (passF row).2, p.1 + p.2 ≤ 20
  far : farF row = ((n : Int) - 2) * cntF row
  dots : cntF row - cntF (passF row).1 = ((passF row).2.map fun p => (p.1 : Int) + p.2 - 1).sum
  apart : apartF row = 0 ↔ cntF (passF row).1 = 0
  nxt : RowN n (passF row).1
  out : (passF row).1 = passC row
theorem cnt_eq {n : Nat} {row : List Int} (hn : n = 5 ∨ n = 6) (h : RowN n row) : cntF row = cntC row ∧ cntF row = (allC (fun k j => decide (row.getD k 0 < row.getD j 0)) n : Nat) := by
  have he := (h.chks hn).e
  unfold chkE at he
  rw [Bool.and_eq_true] at he
  have e1 := of_decide_eq_true he.1
  exact ⟨e1, e1.trans (of_decide_eq_true he.2)⟩
theorem turn_ok {n : Nat} {row : List Int} (hn : n = 5 ∨ n = 6) (h : RowN n row) : TurnOk n row := by
  have hk := h.chks hn
  have hn6 : n ≤ 6 := by omega
  have Rin := h.rin hn6
  have Rok := h.rok hn6
  have hc := (cnt_eq hn h).1
  have ha := hk.a
  have hb := hk.b
  unfold chkA at ha
  unfold chkB at hb
  revert ha
  rcases hp : passF row with ⟨o, ps⟩
  intro ha
  simp only [Bool.and_eq_true, decide_eq_true_eq, List.all_eq_true] at ha hb
  obtain ⟨⟨⟨⟨a1, a2⟩, a3⟩, a4⟩, a5⟩ := ha
  obtain ⟨⟨b1, b2⟩, b3⟩ := hb
  have hd := due_eq Rin a1
  have hN : RowN n o := by
    rw [a2]
    exact ⟨b1, b2, b3⟩
  have hc2 := (cnt_eq hn hN).1
  refine ⟨?_, ?_, ?_, ?_, ?_, ?_, ?_, ?_, ?_⟩
  · rw [hp]; exact hd.1
  · rw [hp]; exact hd.2
  · rw [hp]; exact a3
  · rw [hp]; exact a4
  · rw [far_eq Rok, hc]
    exact of_decide_eq_true hk.c
  · rw [hp]
    show cntF row - cntF o = (ps.map _).sum
    rw [a5, hc, hc2, a2]
  · rw [hp]
    show apartF row = 0 ↔ cntF o = 0
    have hdd := hk.d
    unfold chkD at hdd
    rw [apart_eq Rok, hc2, a2]
    have := eq_of_beq hdd
    exact decide_eq_decide.mp this
  · rw [hp]; exact hN
  · rw [hp]; exact a2
theorem done_bis {n : Nat} {row : List Int} (hn : n = 5 ∨ n = 6) (h : RowN n row) (h0 : cntF row = 0) : (rangeKs 0 n).map (fun k => bisL row (k + 1)) = rangeKs 0 n := by
  have hg := (h.chks hn).g
  unfold chkG at hg
  rw [(cnt_eq hn h).1] at h0
  simp only [h0, decide_true, Bool.not_true, Bool.false_or, decide_eq_true_eq] at hg
  exact hg
theorem outs_ok {n : Nat} (hn : n = 5 ∨ n = 6) : ∀ (k : Nat) {row : List Int}, RowN n row → RowN n (outsC k row)
  | 0, _, h => h
  | k + 1, row, h => by
    have t := turn_ok hn h
    rw [outsC, ← t.out]
    exact outs_ok hn k t.nxt
theorem outsC_succ : ∀ (k : Nat) (row : List Int), outsC (k + 1) row = passC (outsC k row)
  | 0, _ => rfl
  | k + 1, row => outsC_succ k (passC row)
theorem outs_end {n : Nat} {row : List Int} (hn : n = 5 ∨ n = 6) (h : RowN n row) : cntF (outsC (n - 1) row) = 0 := by
  rw [(cnt_eq hn (outs_ok hn _ h)).1]
  exact of_decide_eq_true (h.chks hn).f
end Mine
end
section
open PySem PySem.W PySem.Spec PySem.Calls PyProof.Rows
set_option maxRecDepth 100000
namespace Mine
section
variable {M : Model} {A : Around} {E : Value → Shared → Prop} {Q : Flow → Shared → Prop} {env : Env}
theorem execs_app (b : List Stmt) : ∀ (a : List Stmt) {s : Shared}, wpAny M A (execs a env) (fun f s' => match f with | .next => wpAny M A (execs b env) Q E s' | f => Q f s') E s → wpAny M A (execs (a ++ b) env) Q E s := by
  intro a s h Γ p hΓ
  have h0 := h Γ p hΓ
  clear h
  induction a generalizing p s with
  | nil => exact h0 Γ p hΓ
  | cons st a ih =>
    rw [execs_cons, Sem.wp_bind'] at h0
    rw [List.cons_append, execs_cons, Sem.wp_bind']
    refine Sem.wp_mono M Γ _ (fun f p' s' h' => ?_) (fun _ _ _ x => x) p s h0
    cases f with
    | next => exact ih p' h'
    | cont => exact h'
    | brk => exact h'
    | ret v => exact h'
end
theorem fr_has {m : Str → Option Value} (x : Str) (v : Value) (hx : m x = some v) : (fun y => if y = x then some v else m y) = m := by
  funext y
  by_cases e : y = x
  · rw [if_pos e, e, hx]
  · rw [if_neg e]
theorem main_body : forBody (lawAt 6) = [mainAt 0] ++ ([mainAt 1] ++ ([mainAt 2, mainAt 3] ++ ([mainAt 4] ++ [mainAt 5, mainAt 6, mainAt 7, mainAt 8]))) := rfl
theorem fr_upd {g h : Heap} {L : Addr} {m : Str → Option Value} (F : Fr g L h m) (x : Str) (v : Value) (hx : m x = some v) : Fr g L h (fun y => if y = x then some v else m y) := by
  rw [fr_has x v hx]; exact F
def nOut : Str := Str.ofString "out"
structure MainS where
  lR : Addr
  vs : List Value
  nR : Nat
  rs : List Int
  oR : Obj
  cb : Option (Addr × Obj)
  tb : Tok
abbrev mainFix (L D : Addr) (ws : List Value) (oi oN : Obj) (c : MainS) : List (Addr × Obj) := [(c.lR, listOf c.vs.toArray c.nR), (D, listOf ws.toArray 0), (L + 1 + 1 + 1, oi), (L + 1 + 1, c.oR), (L + 1, oN)]
abbrev mainLed (L D : Addr) (ws : List Value) (oi oN : Obj) (c : MainS) : List (Addr × Obj) := (c.lR, listOf c.vs.toArray c.nR) :: (D, listOf ws.toArray 0) :: (L + 1 + 1 + 1, oi) :: (L + 1 + 1, c.oR) :: (L + 1, oN) :: tabLed c.cb
abbrev mainPs (c : MainS) : List (Str × Value) := [(Str.ofString "before", .int (cntF c.rs) c.tb)]
abbrev mainFacts (n : Nat) (L D : Addr) (ws : List Value) (oi oN : Obj) (c : MainS) : Prop :=
  IntsAre c.vs c.rs ∧ RowN n c.rs ∧ c.oR.data = .cell (some (.ref c.lR)) ∧ TabOk c.cb ∧ (∀ p ∈ mainFix L D ws oi oN c, TabOff c.cb p.1)
abbrev mainStored : List Str := [Str.ofString "out", Str.ofString "rows", Str.ofString "after", Str.ofString "far", Str.ofString "apart"]
/-- where the loop ends -/
def MainQ (g : Heap) (L : Addr) (n : Nat) (ts : Tok) (s : Shared) (f : Flow) (s₂ : Shared) : Prop :=
  match f with
  | .next => ∃ (lR : Addr) (vs : List Value) (rs : List Int) (nR : Nat) (oR : Obj) (cb : Option (Addr × Obj)) (m : Str → Option Value) (h' : Heap) (tk' : Nat), s₂ = { s with heap := h', toks := tk' } ∧ RowN n rs ∧ cntF rs = 0 ∧ IntsAre vs rs ∧
      oR.data = .cell (some (.ref lR)) ∧ m (Str.ofString "size") = some (.int n ts) ∧ Fr g L h' m ∧ News g L h' ((lR, listOf vs.toArray nR) :: (L + 1 + 1, oR) :: tabLed cb)
  | _ => False
theorem main_turn {w : World} {g : Heap} {L fa D I : Addr} {cd : Value} {s : Shared} {E : Value → Shared → Prop} {p : Program} {loose : List Str} {mean : ExcName → Option Value} {mg mb : Str → Option Value}
    {ws : List Value} {ns : List Int} {n : Nat} {k : Int} {oi oN oI : Obj} {tt ts : Tok} {u m₀ : Str → Option Value} {c : MainS} {h : Heap} {tk : Nat} {P : MainS → Prop}
    (X' : (hd.heap_39 w.params).In g) (K' : Below callerA g [] g) (T' : Top p loose mean mg mb g) (codeHd' : CodeHd g 100 98)
    (hIn : IntsAre ws ns) (hl : ns.length = n) (hn56 : n = 5 ∨ n = 6) (dN : oN.data = .cell (some (.ref D))) (hD : @LT.lt Nat _ (L + 1 + 1 + 1) D)
    (hsz : m₀ (Str.ofString "size") = some (.int n ts)) (hf : mainFacts n L D ws oi oN c) (hI : ∀ p ∈ mainLed L D ws oi oN c, p.1 ≠ I)
    (F : Fr g L h (fun y => if y = Str.ofString "turn" then some (.int k tt) else kstB (fun z => if mainStored.contains z then u z else m₀ z) (mainPs c) y))
    (N : News g L h ((I, oI) :: mainLed L D ws oi oN c))
    (hP : ∀ c' : MainS, c'.rs = passC c.rs → P c') :
    wpAny (model PySem.Challenge.rw_ty0017_01.row.prog w) (callerA.deeper (lawEnv L fa cd)) (execs (forBody (lawAt 6)) (lawEnv L fa cd))
      (FsPost g L s (mainLed L D ws oi oN) mainPs (mainFacts n L D ws oi oN) (Str.ofString "turn") mainStored m₀ P I oI (MainQ g L n ts s)) E { s with heap := h, toks := tk } := by
  obtain ⟨lR, vs, nR, rs, oR, cb, tb⟩ := c
  obtain ⟨hp, hN, dR, hcb, hoff⟩ := hf
  dsimp only at hp hN dR hcb
  have hn6 : n ≤ 6 := by omega
  have t := turn_ok hn56 hN
  have h56 : ns.length = 5 ∨ ns.length = 6 := by rw [hl]; exact hn56
  have h6 : (passF rs).2.length ≤ 6 := by rw [t.len]; exact hn6
  have hos6 : (passF rs).1.length ≤ 6 := by rw [t.nxt.len]; exact hn6
  have hoffI : TabOff cb I := off1_of fun p hp => hI p (.tail _ (.tail _ (.tail _ (.tail _ (.tail _ hp)))))
  rw [main_body]
  refine execs_app _ _ (main_pass (u := kstB (fun z => if mainStored.contains z then u z else m₀ z) (mainPs ⟨lR, vs, nR, rs, oR, cb, tb⟩)) X' K' T' codeHd' hIn h56 hp (hN.rin hn6) dR dN hcb (List.forall_mem_cons.mpr ⟨hoffI, hoff⟩) F N ?_)
  intro O Y ov rv nO nY cb' h1 tk1 F1 N1 hO hY hcb' o1 o2 o3
  refine execs_app _ _ (main_due X' K' T' hp (hN.rin hn6) hO hY h6 t.due1 t.due2 dR F1 N1 ?_)
  intro h2 tk2 F2 N2
  clear F1 N1 F N
  have hmB9 : ∃ mB, Fr g L h2 mB ∧ mB (Str.ofString "out") = some (.ref O) ∧ mB (Str.ofString "rows") = some (.ref Y) ∧ mB (Str.ofString "before") = some (.int (cntF rs) tb) ∧ mB (Str.ofString "size") = some (.int n ts) ∧
      (∀ z, z ≠ Str.ofString "turn" → z ≠ Str.ofString "before" → mainStored.contains z = false → mB z = m₀ z) := by
    refine ⟨_, F2, by with_unfolding_all rfl, by with_unfolding_all rfl, by with_unfolding_all rfl, by with_unfolding_all exact hsz, fun z z1 z2 z3 => ?_⟩
    have y1 : z ≠ Str.ofString "out" := by rintro rfl; exact absurd z3 (by decide)
    have y2 : z ≠ Str.ofString "rows" := by rintro rfl; exact absurd z3 (by decide)
    rw [if_neg y2, if_neg y1, if_neg z1]
    show (if z = Str.ofString "before" then _ else if mainStored.contains z then u z else m₀ z) = m₀ z
    rw [if_neg z2, if_neg (by rw [z3]; decide)]
  refine Exists.elim hmB9 fun mB hmB => ?_
  have FB := hmB.1
  have b1 := hmB.2.1
  have b2 := hmB.2.2.1
  have b3 := hmB.2.2.2.1
  have b4 := hmB.2.2.2.2.1
  have b5 := hmB.2.2.2.2.2
  clear hmB hmB9
  clear F2
  refine execs_app _ _ (main_seen (u := mB) X' K' T' hp (hN.rok hn6) hO hos6 dR (fr_upd FB _ _ b1) N2 ?_)
  intro t1 t2 t3 h3 tk3 F3 N3
  clear N2 FB
  have hmC9 : ∃ mC, Fr g L h3 mC ∧ mC (Str.ofString "out") = some (.ref O) ∧ mC (Str.ofString "rows") = some (.ref Y) ∧ mC (Str.ofString "before") = some (.int (cntF rs) tb) ∧ mC (Str.ofString "size") = some (.int n ts) ∧
      mC (Str.ofString "apart") = some (.int (apartF rs) t1) ∧ mC (Str.ofString "far") = some (.int (farF rs) t2) ∧ mC (Str.ofString "after") = some (.int (cntF (passF rs).1) t3) ∧
      (∀ z, z ≠ Str.ofString "turn" → z ≠ Str.ofString "before" → mainStored.contains z = false → mC z = m₀ z) := by
    refine ⟨_, F3, by with_unfolding_all rfl, by with_unfolding_all exact b2, by with_unfolding_all exact b3, by with_unfolding_all exact b4, by with_unfolding_all rfl, by with_unfolding_all rfl, by with_unfolding_all rfl, fun z z1 z2 z3 => ?_⟩
    have y1 : z ≠ Str.ofString "apart" := by rintro rfl; exact absurd z3 (by decide)
    have y2 : z ≠ Str.ofString "far" := by rintro rfl; exact absurd z3 (by decide)
    have y3 : z ≠ Str.ofString "after" := by rintro rfl; exact absurd z3 (by decide)
    have y4 : z ≠ Str.ofString "out" := by rintro rfl; exact absurd z3 (by decide)
    rw [if_neg y1, if_neg y2, if_neg y3, if_neg y4]
    exact b5 z z1 z2 z3
  refine Exists.elim hmC9 fun mC hmC => ?_
  have FC := hmC.1
  have c1 := hmC.2.1
  have c2 := hmC.2.2.1
  have c3 := hmC.2.2.2.1
  have c4 := hmC.2.2.2.2.1
  have c5 := hmC.2.2.2.2.2.1
  have c6 := hmC.2.2.2.2.2.2.1
  have c7 := hmC.2.2.2.2.2.2.2.1
  have c8 := hmC.2.2.2.2.2.2.2.2
  clear hmC hmC9
  clear F3
  have F4 := fr_upd (fr_upd (fr_upd (fr_upd (fr_upd FC _ _ c4) (Str.ofString "before") (.int (cntF rs) tb) (by with_unfolding_all exact c3)) (Str.ofString "rows") (.ref Y) (by with_unfolding_all exact c2)) (Str.ofString "after") (.int (cntF (passF rs).1) t3) (by with_unfolding_all exact c7)) (Str.ofString "far") (.int (farF rs) t2) (by with_unfolding_all exact c6)
  have N4 := N3
  refine execs_app _ _ (main_far (ps := (passF rs).2) (nY := nY) (u := mC) X' K' T' hn56 t.far t.dots hY h6 t.bd F4 (tl := (I, oI) :: (lR, listOf vs.toArray nR) :: (D, listOf ws.toArray 0) :: (L + 1 + 1 + 1, oi) :: (L + 1 + 1, oR) :: (L + 1, oN) :: (O, listOf ov.toArray nO) :: tabLed cb') (news_sub N4 (by
    (repeat' (refine List.forall_mem_cons.mpr ⟨?_, ?_⟩))
    all_goals (first | k_mem | exact fun p hp => by repeat (first | exact hp | refine List.Mem.tail _ ?_)))) ?_)
  intro h5 tk5 F5 N5
  clear F4 N4 N3 FC
  have hmD9 : ∃ mD, Fr g L h5 mD ∧ mD (Str.ofString "out") = some (.ref O) ∧ mD (Str.ofString "size") = some (.int n ts) ∧
      mD (Str.ofString "apart") = some (.int (apartF rs) t1) ∧ mD (Str.ofString "after") = some (.int (cntF (passF rs).1) t3) ∧
      (∀ z, z ≠ Str.ofString "turn" → z ≠ Str.ofString "before" → mainStored.contains z = false → mD z = m₀ z) := by
    refine ⟨_, F5, by with_unfolding_all exact c1, by with_unfolding_all rfl, by with_unfolding_all exact c5, by with_unfolding_all rfl, fun z z1 z2 z3 => ?_⟩
    have y1 : z ≠ Str.ofString "far" := by rintro rfl; exact absurd z3 (by decide)
    have y2 : z ≠ Str.ofString "after" := by rintro rfl; exact absurd z3 (by decide)
    have y3 : z ≠ Str.ofString "rows" := by rintro rfl; exact absurd z3 (by decide)
    rw [if_neg y1, if_neg y2, if_neg y3, if_neg z2]
    by_cases y4 : z = Str.ofString "size"
    · rw [if_pos y4, y4, hsz]
    · rw [if_neg y4]; exact c8 z z1 z2 z3
  refine Exists.elim hmD9 fun mD hmD => ?_
  have FD := hmD.1
  have d1 := hmD.2.1
  have d4 := hmD.2.2.1
  have d5 := hmD.2.2.2.1
  have d7 := hmD.2.2.2.2.1
  have d8 := hmD.2.2.2.2.2
  clear hmD hmD9
  clear F5
  have F6 := fr_upd (fr_upd (fr_upd FD _ _ d1) (Str.ofString "after") (.int (cntF (passF rs).1) t3) (by with_unfolding_all exact d7)) (Str.ofString "apart") (.int (apartF rs) t1) (by with_unfolding_all exact d5)
  have q1 := o3 (I, oI) (.head _)
  have q2 := o3 (lR, listOf vs.toArray nR) (.tail _ (.head _))
  have q3 := o3 (D, listOf ws.toArray 0) (.tail _ (.tail _ (.head _)))
  have q4 := o3 (L + 1 + 1 + 1, oi) (.tail _ (.tail _ (.tail _ (.head _))))
  have q5 := o3 (L + 1 + 1, oR) (.tail _ (.tail _ (.tail _ (.tail _ (.head _)))))
  have q6 := o3 (L + 1, oN) (.tail _ (.tail _ (.tail _ (.tail _ (.tail _ (.head _))))))
  have iR : @Ne Nat (L + 1 + 1) I := hI (L + 1 + 1, oR) (.tail _ (.tail _ (.tail _ (.head _))))
  have iD : @Ne Nat D I := hI (D, listOf ws.toArray 0) (.tail _ (.head _))
  have ii : @Ne Nat (L + 1 + 1 + 1) I := hI (L + 1 + 1 + 1, oi) (.tail _ (.tail _ (.head _)))
  have iN : @Ne Nat (L + 1) I := hI (L + 1, oN) (.tail _ (.tail _ (.tail _ (.tail _ (.head _)))))
  refine main_ends (u := mD) (O := O) (Y := Y) (ov := ov) (rv := rv) (nO := nO) (nY := nY) (I := I) (oI := oI) (lR := lR) (vs := vs) (nR := nR) (D := D) (oD := listOf ws.toArray 0) (oi := oi) (oN := oN) (tl := tabLed cb') X' K' T' t.apart dR F6 (news_sub N5 (by
    (repeat' (refine List.forall_mem_cons.mpr ⟨?_, ?_⟩))
    all_goals (first | k_mem | exact fun p hp => by repeat (first | exact hp | refine List.Mem.tail _ ?_)))) ?hne ?_
  case hne =>
    exact List.forall_mem_cons.mpr ⟨fun e => q5.2.1 e.symm, List.forall_mem_cons.mpr ⟨fun e => q5.2.2 e.symm, List.forall_mem_cons.mpr ⟨fun e => iR e.symm, List.forall_mem_cons.mpr ⟨Nat.ne_of_gt (Nat.lt_trans (Nat.lt_succ_self (L + 1 + 1)) hD),
      List.forall_mem_cons.mpr ⟨Nat.ne_of_gt (Nat.lt_succ_self (L + 1 + 1)), List.forall_mem_cons.mpr ⟨Nat.ne_of_lt (Nat.lt_succ_self (L + 1)), of_off1 _ q5.1⟩⟩⟩⟩⟩⟩
  intro oR' t4 h6' tk6 dR' F7 N7
  clear F6 N5 FD
  have hmE9 : ∃ mE, Fr g L h6' mE ∧ mE (Str.ofString "before") = some (.int (cntF (passF rs).1) t4) ∧ mE (Str.ofString "size") = some (.int n ts) ∧
      (∀ z, z ≠ Str.ofString "turn" → z ≠ Str.ofString "before" → mainStored.contains z = false → mE z = m₀ z) := by
    refine ⟨_, F7, by with_unfolding_all rfl, by with_unfolding_all exact d4, fun z z1 z2 z3 => ?_⟩
    have y1 : z ≠ Str.ofString "apart" := by rintro rfl; exact absurd z3 (by decide)
    have y2 : z ≠ Str.ofString "after" := by rintro rfl; exact absurd z3 (by decide)
    have y3 : z ≠ Str.ofString "out" := by rintro rfl; exact absurd z3 (by decide)
    rw [if_neg z2, if_neg y1, if_neg y2, if_neg y3]
    exact d8 z z1 z2 z3
  refine Exists.elim hmE9 fun mE hmE => ?_
  have FE := hmE.1
  have e1 := hmE.2.1
  have e2 := hmE.2.2.1
  have e3 := hmE.2.2.2
  clear hmE hmE9
  by_cases h0 : cntF (passF rs).1 = 0
  · rw [if_pos h0]
    refine ⟨O, ov, (passF rs).1, nO, oR', cb', mE, h6', tk6, rfl, t.nxt, h0, hO, dR', e2, FE, news_sub N7 ?_⟩
    (repeat' (refine List.forall_mem_cons.mpr ⟨?_, ?_⟩))
    all_goals (first | k_mem | exact fun p hp => by repeat (first | exact hp | refine List.Mem.tail _ ?_))
  · rw [if_neg h0]
    refine ⟨⟨O, ov, nO, (passF rs).1, oR', cb', t4⟩, h6', tk6, mE, rfl, FE, news_sub N7 ?_, ?_, ⟨hO, t.nxt, dR', hcb', ?_⟩, ?_, fun z z1 z2 z3 => e3 z z1 (z2 _ (.head _)) z3, hP _ t.out⟩
    · (repeat' (refine List.forall_mem_cons.mpr ⟨?_, ?_⟩))
      all_goals (first | k_mem | exact fun p hp => by repeat (first | exact hp | refine List.Mem.tail _ ?_))
    · exact List.forall_mem_cons.mpr ⟨fun e => q1.2.1 e.symm, List.forall_mem_cons.mpr ⟨iD, List.forall_mem_cons.mpr ⟨ii, List.forall_mem_cons.mpr ⟨iR, List.forall_mem_cons.mpr ⟨iN, of_off1 _ q1.1⟩⟩⟩⟩⟩
    · exact List.forall_mem_cons.mpr ⟨o1, List.forall_mem_cons.mpr ⟨q3.1, List.forall_mem_cons.mpr ⟨q4.1, List.forall_mem_cons.mpr ⟨q5.1, List.forall_mem_cons.mpr ⟨q6.1, List.forall_mem_nil _⟩⟩⟩⟩⟩
    · intro p hp
      rcases List.mem_cons.mp hp with rfl | hp
      · exact e1
      · cases hp
end Mine
end
theorem Mine.cleared_MainG17 : True := by
  k_with_none
  w_top off
  trivial
section
open PySem PySem.W PySem.Spec PySem.Calls PyProof.Rows
set_option maxRecDepth 100000
namespace Mine
def forIter : Stmt → Expr
  | .For _ i _ _ _ => i
  | _ => .Name (Str.ofString "x") ⟨0, 0, 0, 0⟩
def forPos : Stmt → Pos
  | .For _ _ _ _ p => p
  | _ => ⟨0, 0, 0, 0⟩
def forNamePos : Stmt → Pos
  | .For (.Name _ p) _ _ _ _ => p
  | _ => ⟨0, 0, 0, 0⟩
theorem main_is : lawAt 6 = .For (.Name (Str.ofString "turn") (forNamePos (lawAt 6))) (forIter (lawAt 6)) (forBody (lawAt 6)) [] (forPos (lawAt 6)) := rfl
theorem off_none {a : Addr} (h : @LT.lt Nat _ 98 a) : TabOff none a := ⟨Nat.ne_of_lt h, True.intro⟩
theorem range_n {n : Nat} (hn : n = 5 ∨ n = 6) : Builtin.Range.rangeSize 0 ((n : Int) - 1) 1 = ((n - 1 : Nat) : Int) ∧ Builtin.Range.small 0 ((n : Int) - 1) 1 = true := by
  rcases hn with rfl | rfl <;> decide
set_option maxHeartbeats 4000000 in
theorem main_loop {w : World} {g : Heap} {L fa D lR l : Addr} {cd : Value} {s : Shared} {E : Value → Shared → Prop} {Q : Flow → Shared → Prop} {p : Program} {loose : List Str} {mean : ExcName → Option Value} {mg mb : Str → Option Value}
    {ws vs : List Value} {ns rs : List Int} {n nR : Nat} {oi oN oR : Obj} {tb ts : Tok}
    (X' : (hd.heap_39 w.params).In g) (K' : Below callerA g [] g) (T' : Top p loose mean mg mb g) (codeHd' : CodeHd g 100 98)
    (hIn : IntsAre ws ns) (hl : ns.length = n) (hn56 : n = 5 ∨ n = 6) (hp : IntsAre vs rs) (hN : RowN n rs) (dR : oR.data = .cell (some (.ref lR))) (dN : oN.data = .cell (some (.ref D)))
    (hE : PassesOwn (model PySem.Challenge.rw_ty0017_01.row.prog w) (callerA.deeper (lawEnv L fa cd)) (lawEnv L fa cd) E)
    (l0 : @LT.lt Nat _ 98 L) (hlt : @LT.lt Nat _ (L + 1 + 1 + 1) D ∧ @LT.lt Nat _ D lR)
    (F : Fr g L s.heap (fun y => if y = Str.ofString "before" then some (.int (cntF rs) tb) else if y = Str.ofString "size" then some (.int n ts) else if y = Str.ofString "script" then some (.ref l) else none))
    (N : News g L s.heap [(lR, listOf vs.toArray nR), (D, listOf ws.toArray 0), (L + 1 + 1 + 1, oi), (L + 1 + 1, oR), (L + 1, oN), (98, tabObj #[])])
    (ret : ∀ m' cb h' tk', Fr g L h' m' → News g L h' (tabLed cb) → Q (.ret (.bool true)) { s with heap := h', toks := tk' }) :
    wpAny (model PySem.Challenge.rw_ty0017_01.row.prog w) (callerA.deeper (lawEnv L fa cd)) (execs [lawAt 6, lawAt 7] (lawEnv L fa cd)) Q E s := by
  refine wpAny_execs_cons (wpAny_mono (Q := MainQ g L n ts s) ?loop (fun f s₂ q => ?next) fun _ _ x => x)
  case next =>
    cases f with
    | next =>
      obtain ⟨lR', vs', rs', nR', oR', cb, m, h', tk', rfl, hN', h0, hI', dR', hsz, F', N'⟩ := q
      exact main_ret (u := m) X' K' T' hn56 hI' (by rw [hN'.len]; omega) (done_bis hn56 hN' h0) dR' (fr_upd F' _ _ hsz) N' fun m' h2 tk2 F2 N2 => ret m' cb h2 tk2 F2 N2
    | cont => exact q.elim
    | brk => exact q.elim
    | ret v => exact q.elim
  case loop =>
    rw [main_is]
    unfold lawEnv at hE ⊢
    have hs : lawScope = lawScope := rfl
    conv at hs => rhs; whnf
    have hi : forIter (lawAt 6) = forIter (lawAt 6) := rfl
    conv at hi => rhs; whnf
    rw [hi]
    generalize hB : forBody (lawAt 6) = B
    generalize forPos (lawAt 6) = pp
    generalize forNamePos (lawAt 6) = pn
    rw [hs] at hE ⊢
    clear hi
    revert X'
    k_fill
    intro X'
    refine For_invVF F ?k1 ?k2 ?main (by intro _; with_unfolding_all rfl) hE
    case k1 => exact rfl
    case k2 => exact rfl
    k_with "pyIter ref" => refine hold ?_
    k_steps
    refine Hold.mk ?_
    rename Fr _ _ _ _ => fF
    rename News _ _ _ _ => nN
    rename IsRange _ _ _ _ _ _ _ _ => hr
    have hfix : ∀ q ∈ mainFix L D ws oi oN ⟨lR, vs, nR, rs, oR, none, tb⟩, TabOff none q.1 := by
      intro q hq
      simp only [List.mem_cons, List.not_mem_nil, or_false] at hq
      rcases hq with h | h | h | h | h
      · rw [h]; exact off_none (show @LT.lt Nat _ 98 lR by omega)
      · rw [h]; exact off_none (show @LT.lt Nat _ 98 D by omega)
      · rw [h]; exact off_none (show @LT.lt Nat _ 98 (L + 1 + 1 + 1) by omega)
      · rw [h]; exact off_none (show @LT.lt Nat _ 98 (L + 1 + 1) by omega)
      · rw [h]; exact off_none (show @LT.lt Nat _ 98 (L + 1) by omega)
    refine fs_range (σ := MainS) (n := n - 1) (mainLed L D ws oi oN) mainPs (mainFacts n L D ws oi oN) mainStored (fun pre c => c.rs = outsC pre.length rs) ⟨lR, vs, nR, rs, oR, none, tb⟩ rfl hr (range_n hn56).2 (range_n hn56).1 fF nN ⟨hp, hN, dR, True.intro, hfix⟩ ?_ rfl ?turn ?done
    · intro q hq
      rcases List.mem_cons.mp hq with rfl | hq
      · with_unfolding_all rfl
      · cases hq
    case turn =>
      intro c pre k t u h tk I oI _ _ hf hP hI F9 N9
      rw [← hB, ← hs]
      refine wpAny_mono (main_turn X' K' T' codeHd' hIn hl hn56 dN hlt.1 (by with_unfolding_all rfl) hf hI F9 N9 fun c' hc' => ?_) (fun f s₂ q => q) fun _ _ x => x
      show c'.rs = outsC (pre ++ [k]).length rs
      rw [hc', hP, List.length_append]
      exact (outsC_succ pre.length rs).symm
    case done =>
      intro c u h tk hf hP F9 N9
      refine ⟨c.lR, c.vs, c.rs, c.nR, c.oR, c.cb, _, h, tk, rfl, hf.2.1, ?_, hf.1, hf.2.2.1, ?_, F9, fun q hq => N9 q ?_⟩
      · rw [hP, rangeKs_length]; exact outs_end hn56 hN
      · with_unfolding_all rfl
      · simp only [List.mem_cons] at hq ⊢
        rcases hq with h | h | h <;> simp [h]
end Mine
end
theorem Mine.cleared_Fore17 : True := by
  k_with_none
  w_top off
  trivial
section
open PySem PySem.W PySem.Spec PySem.Calls PyProof.Rows
set_option maxRecDepth 100000
namespace Mine
section
variable {w : World} {A : Around} {s : Shared} {Q E : Value → Shared → Prop} {h₀ : Heap} {L : Addr} {m : Str → Option Value} {news : List (Addr × Obj)}
theorem cnt_N {l : Addr} {vs : List Value} {ns : List Int} {n : Nat} (F : Fr h₀ L s.heap m) (N : News h₀ L s.heap news) (hm : (l, listOf vs.toArray n) ∈ news) (C : Ctx w 6 60 A s.heap) (hi : IntsAre vs ns) (hlen : ns.length ≤ 6)
    (h : ∀ t h' tk', Fr h₀ L h' m → News h₀ L h' news → Q (.int (cntF ns) t) { s with heap := h', toks := tk' }) :
    wpAny (model PySem.Challenge.rw_ty0017_01.row.prog w) A (call (.ref 120) [.ref l] []) Q E s :=
  cnt_spec C ⟨_, N.get hm, rfl, _, rfl⟩ hi (by omega) fun t h' tk' k => h t h' tk' (fr_stay F k) (news_stay N k)
end
theorem hi_nat1 {k : Int} {n : Nat} (h : k < 0 + (((n : Int) - 0).toNat : Nat)) : k < n := by omega
theorem words_Fore17_1 : True := by
  k_with "w call builtin:len" => (k_here; (with_reducible show wpAny _ _ (call (Value.builtin _) [Value.ref _]) _ _ _); k_dflt (refine len_N (by k_asm) (by k_dflt k_mem) (by assumption) (by first | assumption | omega) ?_))
  k_with "w subscriptTail" => (k_here; (with_reducible show wpAny _ _ (subscriptTail _ _ (Value.ref _) (Value.int _ _)) _ _ _); k_dflt (refine item_N (by k_asm) (by k_dflt k_mem) (by assumption) (by first | assumption | exact Int.natCast_nonneg _) (by first | exact hi_nat1 (by assumption) | exact Int.ofNat_lt.mpr (by assumption) | omega) (by assumption) ?_); intro _)
  k_with "w subscriptTail Name Name ref int" => (k_here; (with_reducible show wpAny _ _ (subscriptTail _ _ (Value.ref _) (Value.int _ _)) _ _ _); k_dflt (refine item_N (by k_asm) (by k_dflt k_mem) (by assumption) (by first | assumption | exact Int.natCast_nonneg _) (by first | exact hi_nat1 (by assumption) | exact Int.ofNat_lt.mpr (by assumption) | omega) (by assumption) ?_); intro _)
  k_with "w call ref" => (k_here; (with_reducible show wpAny _ _ (call (Value.ref _) [Value.ref _] []) _ _ _); k_dflt (refine cnt_N (by k_asm) (by k_asm) (by k_dflt k_mem) (by k_dflt (exact (Ctx.mk (by k_asm) (by k_asm) (by k_asm) (by k_asm) (by first | exact rfl | assumption) (by ktr_room) (by ktr_units)))) (by assumption) (by assumption) ?_); intro _ _ _ _ _; (try dsimp only))
  k_with "w ite" => (k_here; (with_reducible show if decide _ = true then _ else _); refine split_dec ?_ ?_ <;> intro _)
  trivial
set_option maxHeartbeats 4000000 in
theorem fore_walk {w : World} {g : Heap} {L fa l lR D : Addr} {cd : Value} {s : Shared} {E : Value → Shared → Prop} {Q : Flow → Shared → Prop} {p : Program} {loose : List Str} {mean : ExcName → Option Value} {mg mb : Str → Option Value}
    {ws vs : List Value} {ns rs : List Int} {nR : Nat} {oi oR oN : Obj} {ts : Tok} {ov : Option Value}
    (X' : (hd.heap_39 w.params).In g) (K' : Below callerA g [] g) (T' : Top p loose mean mg mb g) (codeHd' : CodeHd g 100 98)
    (hIn : IntsAre ws ns) (hn56 : ns.length = 5 ∨ ns.length = 6) (hp : IntsAre vs rs) (hrl : rs.length = ns.length) (hinv : cntF rs = (allC (fun k j => decide (rs.getD k 0 < rs.getD j 0)) ns.length : Nat))
    (hov : oi.data = .cell ov) (dR : oR.data = .cell (some (.ref lR))) (dN : oN.data = .cell (some (.ref D)))
    (l0 : @LT.lt Nat _ 98 L) (hlt : @LT.lt Nat _ (L + 1 + 1 + 1) D ∧ @LT.lt Nat _ D lR)
    (F : Fr g L s.heap (fun y => if y = Str.ofString "size" then some (.int ns.length ts) else if y = Str.ofString "script" then some (.ref l) else none))
    (N : News g L s.heap [(lR, listOf vs.toArray nR), (D, listOf ws.toArray 0), (L + 1 + 1 + 1, oi), (L + 1 + 1, oR), (L + 1, oN), (98, tabObj #[])])
    (ret : ∀ tb h' tk', Fr g L h' (fun y => if y = Str.ofString "before" then some (.int (cntF rs) tb) else if y = Str.ofString "size" then some (.int ns.length ts) else if y = Str.ofString "script" then some (.ref l) else none) →
      News g L h' [(lR, listOf vs.toArray nR), (D, listOf ws.toArray 0), (L + 1 + 1 + 1, oi), (L + 1 + 1, oR), (L + 1, oN), (98, tabObj #[])] → Q .next { s with heap := h', toks := tk' }) :
    wpAny (model PySem.Challenge.rw_ty0017_01.row.prog w) (callerA.deeper (lawEnv L fa cd)) (execs ((lawBody.drop 4).take 2) (lawEnv L fa cd)) Q E s := by
  unfold lawEnv
  have hs : lawScope = lawScope := rfl
  conv at hs => rhs; whnf
  have hb0 : lawAt 4 = lawAt 4 := rfl
  conv at hb0 => rhs; whnf
  have hb1 : lawAt 5 = lawAt 5 := rfl
  conv at hb1 => rhs; whnf
  have hb : (lawBody.drop 4).take 2 = [lawAt 4, lawAt 5] := rfl
  rw [hb, hb0, hb1, hs]
  clear hs hb hb0 hb1
  have hns100 : ns.length ≤ 100 := by omega
  have hrs100 : rs.length ≤ 100 := by omega
  have hrs6 : rs.length ≤ 6 := by omega
  revert X'
  k_fill
  intro X'
  k_with "eval ListComp" => refine hold ?_
  k_steps
  refine Hold.mk ?_
  rename Fr _ _ _ _ => fF
  refine' comp2_range (n := ns.length) fF (fun k j => decide (rs.getD k 0 < rs.getD j 0)) rfl ?hclos ?hcell ?hkind ?hnames ?hx ?hy ?hxy hns100 ?main ?hsa ?hsb
  case hclos => with_unfolding_all rfl
  case hcell => decide
  case hkind => rfl
  case hnames => decide
  case hx => rfl
  case hy => rfl
  case hxy => decide
  case hsa => intro _; with_unfolding_all rfl
  case hsb => intro _ _; with_unfolding_all rfl
  case main =>
    k_with "C2Src" => refine hold ?_
    k_steps
    refine Hold.mk ?_
    refine' ⟨_, _, _, _, _, rfl, by assumption, by k_asm, by k_asm, ?it, ?te, ?el, ?fin⟩
    case it =>
      rename Fr _ _ _ _ => fF2
      rename News _ _ _ _ => fN2
      intro C k tx s₂ m₂ hC hk hn hm keep
      obtain ⟨oC, hoC, F', N'⟩ := c2_in fF2 fN2 hn hC keep
      clear fF2 fN2
      k_with "C2It" => refine hold ?_
      k_steps
      refine Hold.mk ?_
      exact ⟨_, _, _, _, rfl, by assumption, _, _, rfl, by assumption⟩
    case te =>
      rename Fr _ _ _ _ => fF2
      rename News _ _ _ _ => fN2
      intro C k j tx tj s₂ m₂ hC hk hj hn hm hmy keep
      obtain ⟨oC, hoC, F', N'⟩ := c2_in fF2 fN2 hn hC keep
      clear fF2 fN2
      refine wpAny_tests_one ?_
      k_with "C2Te" => refine hold ?_
      k_steps
      refine Hold.mk ?_
      exact ⟨rfl, _, _, rfl, fun _ _ e => e⟩
    case el =>
      rename Fr _ _ _ _ => fF2
      rename News _ _ _ _ => fN2
      intro C k j tx tj s₂ m₂ hC hk hj hn hm hmy keep
      obtain ⟨oC, hoC, F', N'⟩ := c2_in fF2 fN2 hn hC keep
      clear fF2 fN2
      k_with "C2El" => refine hold ?_
      k_steps
      refine Hold.mk ?_
      exact ⟨⟨_, _, rfl⟩, _, _, rfl, fun _ _ e => e⟩
    case fin =>
      intro D' ys ns' h' tk' F' N' lt9 hI' hl'
      dsimp only
      have hl9 : ns'.length ≤ 100 := by rw [hl']; exact Nat.le_trans (allC_sq _ _) (by rcases hn56 with e | e <;> rw [e] <;> decide)
      simp only [List.forall_mem_cons] at lt9
      k_steps
      · exfalso
        rename _ ≠ _ => hne9
        exact hne9 (by rw [hl', hinv])
      · rename News _ _ _ _ => nN9
        exact ret _ _ _ (by k_asm) (fun p hp => nN9 p (.tail _ hp))
end Mine
end
theorem Mine.cleared_RowT17 : True := by
  k_with_none
  w_top off
  trivial
section
open PySem PySem.W PySem.Spec PySem.Calls PyProof.Rows
set_option maxRecDepth 100000
namespace Mine
theorem ints_concat2 {x : Int} {t : Tok} : ∀ {vs : List Value} {ns : List Int}, IntsAre vs ns → IntsAre (vs.toArray.toList.concat (.int x t)) (ns ++ [x])
  | _, _, .nil => .cons _ _ .nil
  | _, _, .cons y u h => .cons y u (ints_concat2 h)
theorem rank_fold (ns : List Int) (i : Int) (xs acc : List Int) : List.foldl (fun l' k' => if ns.getD k'.toNat 0 < ns.getD i.toNat 0 then l' ++ [k'] else if ns.getD k'.toNat 0 = ns.getD i.toNat 0 ∧ i < k' then l' ++ [k'] else if ns.getD k'.toNat 0 = ns.getD i.toNat 0 ∧ ¬ i < k' then l' else l') acc xs = acc ++ xs.filter (rankOk ns i) := by
  induction xs generalizing acc with
  | nil => simp
  | cons x xs ih =>
    rw [List.foldl_cons, ih, List.filter_cons]
    by_cases h1 : ns.getD x.toNat 0 < ns.getD i.toNat 0
    · have hr : rankOk ns i x = true := by unfold rankOk; rw [decide_eq_true h1]; rfl
      rw [if_pos h1, if_pos hr, List.append_assoc]; rfl
    · by_cases h2 : ns.getD x.toNat 0 = ns.getD i.toNat 0
      · by_cases h3 : i < x
        · have hr : rankOk ns i x = true := by unfold rankOk; rw [decide_eq_false h1, decide_eq_true h2, decide_eq_true (show x > i from h3)]; rfl
          rw [if_neg h1, if_pos ⟨h2, h3⟩, if_pos hr, List.append_assoc]; rfl
        · have hr : ¬ rankOk ns i x = true := by unfold rankOk; rw [decide_eq_false h1, decide_eq_true h2, decide_eq_false (show ¬ x > i from h3)]; decide
          rw [if_neg h1, if_neg (fun q => h3 q.2), if_pos ⟨h2, h3⟩, if_neg hr]
      · have hr : ¬ rankOk ns i x = true := by unfold rankOk; rw [decide_eq_false h1, decide_eq_false h2]; simp
        rw [if_neg h1, if_neg (fun q => h2 q.1), if_neg (fun q => h2 q.1), if_neg hr]
theorem news_sub2 {g h : Heap} {L : Addr} {a b : List (Addr × Obj)} (N : News g L h a) (hn : ∀ p ∈ b, p ∈ a) : News g L h b := fun p hp => N p (hn p hp)
theorem rank_eq (ns : List Int) (i : Int) : rankAt ns i = 1 + ((List.foldl (fun l' k' => if ns.getD k'.toNat 0 < ns.getD i.toNat 0 then l' ++ [k'] else if ns.getD k'.toNat 0 = ns.getD i.toNat 0 ∧ i < k' then l' ++ [k'] else if ns.getD k'.toNat 0 = ns.getD i.toNat 0 ∧ ¬ i < k' then l' else l') [] (rangeKs 0 ((ns.length : Int) - 0).toNat)).length : Nat) := by
  rw [rank_fold, List.nil_append, show ((ns.length : Int) - 0).toNat = ns.length by omega]
  rfl
theorem hi_nat {k : Int} {n : Nat} (h : k < 0 + (((n : Int) - 0).toNat : Nat)) : k < n := by omega
theorem words_RowT17_1 : True := by
  k_with "w call builtin:len" => (k_here; (with_reducible show wpAny _ _ (call (Value.builtin _) [Value.ref _]) _ _ _); k_dflt (refine len_N (by k_asm) (by k_dflt k_mem) (by assumption) (by first | assumption | omega) ?_))
  k_with "w subscriptTail" => (k_here; (with_reducible show wpAny _ _ (subscriptTail _ _ (Value.ref _) (Value.int _ _)) _ _ _); k_dflt (refine item_N (by k_asm) (by k_dflt k_mem) (by assumption) (by first | assumption | exact Int.natCast_nonneg _) (by first | exact hi_nat (by assumption) | exact Int.ofNat_lt.mpr (by assumption)) (by assumption) ?_); intro _)
  k_with "w subscriptTail Name Name ref int" => (k_here; (with_reducible show wpAny _ _ (subscriptTail _ _ (Value.ref _) (Value.int _ _)) _ _ _); k_dflt (refine item_N (by k_asm) (by k_dflt k_mem) (by assumption) (by first | assumption | exact Int.natCast_nonneg _) (by first | exact hi_nat (by assumption) | exact Int.ofNat_lt.mpr (by assumption)) (by assumption) ?_); intro _)
  k_with "w ite" => (k_here; (with_reducible show if decide _ = true then _ else _); refine split_dec ?_ ?_ <;> intro _)
  trivial
set_option maxHeartbeats 4000000 in
theorem row_turn {w : World} {g : Heap} {L fa l lR D I : Addr} {cd : Value} {s : Shared} {E : Value → Shared → Prop} {Q : Flow → Shared → Prop} {p : Program} {loose : List Str} {mean : ExcName → Option Value} {mg mb : Str → Option Value}
    {ws vs : List Value} {ns : List Int} {nR k : Nat} {oi oR oN oI : Obj} {ts t : Tok}
    (X' : (hd.heap_39 w.params).In g) (K' : Below callerA g [] g) (T' : Top p loose mean mg mb g) (codeHd' : CodeHd g 100 98)
    (hIn : IntsAre ws ns) (hn56 : ns.length = 5 ∨ ns.length = 6) (hk : k < ns.length) (hp : IntsAre vs ((rangeKs 0 k).map (rankAt ns)))
    (hov : oi.data = .cell (some (.int k t))) (dR : oR.data = .cell (some (.ref lR))) (dN : oN.data = .cell (some (.ref D)))
    (l0 : @LT.lt Nat _ 98 L) (hlt : @LT.lt Nat _ (L + 1 + 1 + 1) D ∧ @LT.lt Nat _ D lR ∧ @LT.lt Nat _ lR I)
    (F : Fr g L s.heap (fun y => if y = Str.ofString "size" then some (.int ns.length ts) else if y = Str.ofString "script" then some (.ref l) else none))
    (N : News g L s.heap [(I, oI), (lR, listOf vs.toArray nR), (D, listOf ws.toArray 0), (L + 1 + 1 + 1, oi), (L + 1 + 1, oR), (L + 1, oN), (98, tabObj #[])])
    (ret : ∀ vs' nR' h' tk', IntsAre vs' ((rangeKs 0 k).map (rankAt ns) ++ [rankAt ns k]) → Fr g L h' (fun y => if y = Str.ofString "size" then some (.int ns.length ts) else if y = Str.ofString "script" then some (.ref l) else none) →
      News g L h' [(I, oI), (lR, listOf vs'.toArray nR'), (D, listOf ws.toArray 0), (L + 1 + 1 + 1, oi), (L + 1 + 1, oR), (L + 1, oN), (98, tabObj #[])] → Q .next { s with heap := h', toks := tk' }) :
    wpAny (model PySem.Challenge.rw_ty0017_01.row.prog w) (callerA.deeper (lawEnv L fa cd)) (execs (forBody (lawAt 3)) (lawEnv L fa cd)) Q E s := by
  unfold lawEnv
  have hs : lawScope = lawScope := rfl
  conv at hs => rhs; whnf
  have hb : forBody (lawAt 3) = forBody (lawAt 3) := rfl
  conv at hb => rhs; whnf
  rw [hs, hb]
  clear hs hb
  have hns100 : ns.length ≤ 100 := by omega
  clear hn56
  have hvl : vs.length = k := by have h9 := hp.length; simpa [rangeKs] using h9
  revert X'
  k_fill
  intro X'
  k_steps
  rename News _ _ _ _ => nN
  refine' ret _ _ _ _ ?i (by k_asm) (news_sub2 nN ?n)
  case n =>
    repeat' (first | exact List.forall_mem_nil _ | refine List.forall_mem_cons.mpr ⟨?_, ?_⟩)
    all_goals k_mem
  case i =>
    rw [rank_eq]
    exact ints_concat2 hp
end Mine
end
section
open PySem PySem.W PySem.Spec PySem.Calls PyProof.Rows
set_option maxRecDepth 100000
namespace Mine
theorem filter_lt {p q : Int → Bool} : ∀ {l : List Int}, (∀ x ∈ l, p x = true → q x = true) → (∃ x ∈ l, q x = true ∧ ¬ p x = true) → (l.filter p).length < (l.filter q).length
  | [], _, h => by obtain ⟨x, hx, _⟩ := h; cases hx
  | y :: l, hi, h => by
    have le : ∀ l : List Int, (∀ x ∈ l, p x = true → q x = true) → (l.filter p).length ≤ (l.filter q).length := by
      intro l
      induction l with
      | nil => intro _; exact Nat.le_refl _
      | cons z l ih =>
        intro hl
        have := ih fun x hx => hl x (.tail _ hx)
        have hz := hl z (.head _)
        rw [List.filter_cons, List.filter_cons]
        by_cases hp : p z = true
        · rw [if_pos hp, if_pos (hz hp), List.length_cons, List.length_cons]; omega
        · rw [if_neg hp]; split
          · rw [List.length_cons]; omega
          · exact this
    have hl := le l fun x hx => hi x (.tail _ hx)
    obtain ⟨x, hx, hq, hp⟩ := h
    rw [List.filter_cons, List.filter_cons]
    rcases List.mem_cons.mp hx with rfl | hx
    · rw [if_neg hp, if_pos hq, List.length_cons]; omega
    · have ih := filter_lt (fun x hx => hi x (.tail _ hx)) ⟨x, hx, hq, hp⟩
      have hy := hi y (.head _)
      by_cases hpy : p y = true
      · rw [if_pos hpy, if_pos (hy hpy), List.length_cons, List.length_cons]; omega
      · rw [if_neg hpy]; split
        · rw [List.length_cons]; omega
        · exact ih
theorem rankOk_iff {ns : List Int} {i j : Int} : rankOk ns i j = true ↔ ns.getD j.toNat 0 < ns.getD i.toNat 0 ∨ (ns.getD j.toNat 0 = ns.getD i.toNat 0 ∧ j > i) := by
  unfold rankOk
  simp only [Bool.or_eq_true, Bool.and_eq_true, decide_eq_true_eq]
theorem rank_lt {ns : List Int} {i k : Int} (hk : k ∈ rangeKs 0 ns.length) (h : rankOk ns i k = true) : rankAt ns k < rankAt ns i := by
  have := filter_lt (p := rankOk ns k) (q := rankOk ns i) (l := rangeKs 0 ns.length) (fun x _ hx => by
    rw [rankOk_iff] at hx h ⊢
    omega) ⟨k, hk, h, fun q => by rw [rankOk_iff] at q; omega⟩
  unfold rankAt; omega
theorem rank_bd {ns : List Int} {i : Int} (hi : i ∈ rangeKs 0 ns.length) : 1 ≤ rankAt ns i ∧ rankAt ns i ≤ ns.length := by
  have := filter_lt (p := rankOk ns i) (q := fun _ => true) (l := rangeKs 0 ns.length) (fun x _ _ => rfl) ⟨i, hi, rfl, fun q => by rw [rankOk_iff] at q; omega⟩
  rw [List.filter_eq_self.mpr fun _ _ => rfl, rangeKs_length] at this
  unfold rankAt; omega
theorem ranks_ok (ns : List Int) : RowN ns.length ((rangeKs 0 ns.length).map (rankAt ns)) := by
  refine ⟨by rw [List.length_map, rangeKs_length], fun x hx => ?_, ?_⟩
  · obtain ⟨i, hi, rfl⟩ := List.mem_map.mp hx
    exact rank_bd hi
  · have hr : (rangeKs 0 ns.length).Pairwise (· < ·) := by
      unfold rangeKs
      rw [List.pairwise_map]
      exact List.pairwise_lt_range.imp fun h => by omega
    show ((rangeKs 0 ns.length).map (rankAt ns)).Pairwise (· ≠ ·)
    rw [List.pairwise_map]
    refine hr.imp_of_mem fun {i k} hi hk hlt => ?_
    by_cases hv : ns.getD k.toNat 0 ≤ ns.getD i.toNat 0
    · have : rankOk ns i k = true := rankOk_iff.mpr (by omega)
      have := rank_lt hk this
      omega
    · have : rankOk ns k i = true := rankOk_iff.mpr (by omega)
      have := rank_lt hi this
      omega
end Mine
end
theorem Mine.cleared_Rest17 : True := by
  k_with_none
  w_top off
  trivial
section
open PySem PySem.W PySem.Spec PySem.Calls PyProof.Rows
set_option maxRecDepth 100000
namespace Mine
structure RowS where
  vs : List Value
  nR : Nat
  oi : Obj
abbrev rowLed (L D lR : Addr) (ws : List Value) (oR oN : Obj) (c : RowS) : List (Addr × Obj) := [(lR, listOf c.vs.toArray c.nR), (D, listOf ws.toArray 0), (L + 1 + 1 + 1, c.oi), (L + 1 + 1, oR), (L + 1, oN), (98, tabObj #[])]
def RowQ (g : Heap) (L D lR : Addr) (ws : List Value) (ns : List Int) (oR oN : Obj) (m : Str → Option Value) (s : Shared) (f : Flow) (s₂ : Shared) : Prop :=
  match f with
  | .next => ∃ (c : RowS) (ov : Option Value) (h' : Heap) (tk' : Nat), s₂ = { s with heap := h', toks := tk' } ∧ c.oi.data = .cell ov ∧ IntsAre c.vs ((rangeKs 0 ns.length).map (rankAt ns)) ∧ Fr g L h' m ∧ News g L h' (rowLed L D lR ws oR oN c)
  | _ => False
theorem row_is : lawAt 3 = .For (.Name (Str.ofString "i") (forNamePos (lawAt 3))) (forIter (lawAt 3)) (forBody (lawAt 3)) [] (forPos (lawAt 3)) := rfl
theorem fore_is : (lawBody.drop 4).take 2 = [lawAt 4, lawAt 5] := rfl
theorem rows_n {n : Nat} (hn : n = 5 ∨ n = 6) : Builtin.Range.rangeSize 0 (n : Int) 1 = (n : Int) ∧ Builtin.Range.small 0 (n : Int) 1 = true := by
  rcases hn with rfl | rfl <;> decide
theorem ks_snoc (a : Int) (k : Nat) : rangeKs a (k + 1) = rangeKs a k ++ [a + (k : Int)] := by
  unfold rangeKs
  rw [List.range_succ, List.map_append]; rfl
set_option maxHeartbeats 4000000 in
theorem row_loop {w : World} {g : Heap} {L fa D lR l : Addr} {cd : Value} {s : Shared} {E : Value → Shared → Prop} {p : Program} {loose : List Str} {mean : ExcName → Option Value} {mg mb : Str → Option Value}
    {ws : List Value} {ns : List Int} {oi oN oR : Obj} {ts : Tok} {ov : Option Value}
    (X' : (hd.heap_39 w.params).In g) (K' : Below callerA g [] g) (T' : Top p loose mean mg mb g) (codeHd' : CodeHd g 100 98)
    (hIn : IntsAre ws ns) (hn56 : ns.length = 5 ∨ ns.length = 6) (hov : oi.data = .cell ov) (dR : oR.data = .cell (some (.ref lR))) (dN : oN.data = .cell (some (.ref D)))
    (hE : PassesOwn (model PySem.Challenge.rw_ty0017_01.row.prog w) (callerA.deeper (lawEnv L fa cd)) (lawEnv L fa cd) E)
    (l0 : @LT.lt Nat _ 98 L) (hlt : @LT.lt Nat _ (L + 1 + 1 + 1) D ∧ @LT.lt Nat _ D lR)
    (F : Fr g L s.heap (fun y => if y = Str.ofString "size" then some (.int ns.length ts) else if y = Str.ofString "script" then some (.ref l) else none))
    (N : News g L s.heap [(lR, listOf #[] 0), (D, listOf ws.toArray 0), (L + 1 + 1 + 1, oi), (L + 1 + 1, oR), (L + 1, oN), (98, tabObj #[])]) :
    wpAny (model PySem.Challenge.rw_ty0017_01.row.prog w) (callerA.deeper (lawEnv L fa cd)) (exec (lawAt 3) (lawEnv L fa cd))
      (RowQ g L D lR ws ns oR oN (fun y => if y = Str.ofString "size" then some (.int ns.length ts) else if y = Str.ofString "script" then some (.ref l) else none) s) E s := by
  rw [row_is]
  unfold lawEnv at hE ⊢
  have hs : lawScope = lawScope := rfl
  conv at hs => rhs; whnf
  have hi : forIter (lawAt 3) = forIter (lawAt 3) := rfl
  conv at hi => rhs; whnf
  rw [hi]
  generalize hB : forBody (lawAt 3) = B
  generalize forPos (lawAt 3) = pp
  generalize forNamePos (lawAt 3) = pn
  rw [hs] at hE ⊢
  clear hi
  revert X'
  k_fill
  intro X'
  refine For_invTF F ?main (by intro _; with_unfolding_all rfl) hE
  k_with "pyIter ref" => refine hold ?_
  k_steps
  refine Hold.mk ?_
  rename Fr _ _ _ _ => fF
  rename News _ _ _ _ => nN
  rename IsRange _ _ _ _ _ _ _ _ => hr
  refine cell_range (σ := RowS) (n := ns.length) (rowLed L D lR ws oR oN) (fun c => ∃ ov, c.oi.data = .cell ov) (fun k c => IntsAre c.vs ((rangeKs 0 k).map (rankAt ns))) ⟨[], 0, oi⟩ rfl hr (rows_n hn56).2 (rows_n hn56).1 fF nN ⟨ov, hov⟩ .nil ?turn ?done
  case turn =>
    intro c k t s₁ I oI hI hk hf hP hne F9 N9
    obtain ⟨ov9, hov9⟩ := hf
    have hlR : @LT.lt Nat _ lR I := by rw [hI]; exact Heap.lt_size (nN _ (.head _)).1
    rw [Int.zero_add]
    refine wpAny_assign_Name (store_cell F9 N9 (by rfl) (by k_mem) (news' := [(I, oI), (lR, listOf c.vs.toArray c.nR), (D, listOf ws.toArray 0), (L + 1 + 1, oR), (L + 1, oN), (98, tabObj #[])]) ?_ hov9 ?_ ?_)
    · intro q hq
      simp only [List.mem_cons] at hq ⊢
      rcases hq with h | h | h | h | h | h | h <;> simp [h]
    · intro q hq
      simp only [List.mem_cons, List.not_mem_nil, or_false] at hq
      rcases hq with h | h | h | h | h | h
      · rw [h]; show @Ne Nat I (L + 1 + 1 + 1); omega
      · rw [h]; show @Ne Nat lR (L + 1 + 1 + 1); omega
      · rw [h]; show @Ne Nat D (L + 1 + 1 + 1); omega
      · rw [h]; show @Ne Nat (L + 1 + 1) (L + 1 + 1 + 1); omega
      · rw [h]; show @Ne Nat (L + 1) (L + 1 + 1 + 1); omega
      · rw [h]; show @Ne Nat 98 (L + 1 + 1 + 1); omega
    · intro h' oi' F8 N8 hd8
      rw [← hB, ← hs]
      refine row_turn (k := k) (nR := c.nR) (oI := oI) X' K' T' codeHd' hIn hn56 hk hP hd8 dR dN l0 ⟨hlt.1, hlt.2, hlR⟩ F8 (fun q hq => N8 q ?_) ?_
      · simp only [List.mem_cons] at hq ⊢
        rcases hq with h | h | h | h | h | h | h | h <;> simp [h]
      · intro vs' nR' h'' tk'' hI' F7 N7
        refine ⟨⟨vs', nR', oi'⟩, h'', tk'', rfl, F7, N7, ?_, ⟨_, hd8⟩, ?_⟩
        · intro q hq
          simp only [List.mem_cons, List.not_mem_nil, or_false] at hq
          rcases hq with h | h | h | h | h | h
          · rw [h]; show @Ne Nat lR I; omega
          · rw [h]; show @Ne Nat D I; omega
          · rw [h]; show @Ne Nat (L + 1 + 1 + 1) I; omega
          · rw [h]; show @Ne Nat (L + 1 + 1) I; omega
          · rw [h]; show @Ne Nat (L + 1) I; omega
          · rw [h]; show @Ne Nat 98 I; omega
        · show IntsAre vs' ((rangeKs 0 (k + 1)).map (rankAt ns))
          rw [ks_snoc, List.map_append, Int.zero_add]
          exact hI'
  case done =>
    intro c h tk hf hP F9 N9
    obtain ⟨ov9, hov9⟩ := hf
    exact ⟨c, ov9, h, tk, rfl, hov9, hP, F9, N9⟩
theorem law_rest {w : World} {g : Heap} {L fa D lR l : Addr} {cd : Value} {s : Shared} {E : Value → Shared → Prop} {Q : Flow → Shared → Prop} {p : Program} {loose : List Str} {mean : ExcName → Option Value} {mg mb : Str → Option Value}
    {ws : List Value} {ns : List Int} {oi oN oR : Obj} {ts : Tok} {ov : Option Value}
    (X' : (hd.heap_39 w.params).In g) (K' : Below callerA g [] g) (T' : Top p loose mean mg mb g) (codeHd' : CodeHd g 100 98)
    (hIn : IntsAre ws ns) (hn56 : ns.length = 5 ∨ ns.length = 6) (hov : oi.data = .cell ov) (dR : oR.data = .cell (some (.ref lR))) (dN : oN.data = .cell (some (.ref D)))
    (hE : PassesOwn (model PySem.Challenge.rw_ty0017_01.row.prog w) (callerA.deeper (lawEnv L fa cd)) (lawEnv L fa cd) E)
    (l0 : @LT.lt Nat _ 98 L) (hlt : @LT.lt Nat _ (L + 1 + 1 + 1) D ∧ @LT.lt Nat _ D lR)
    (F : Fr g L s.heap (fun y => if y = Str.ofString "size" then some (.int ns.length ts) else if y = Str.ofString "script" then some (.ref l) else none))
    (N : News g L s.heap [(lR, listOf #[] 0), (D, listOf ws.toArray 0), (L + 1 + 1 + 1, oi), (L + 1 + 1, oR), (L + 1, oN), (98, tabObj #[])])
    (ret : ∀ m' cb h' tk', Fr g L h' m' → News g L h' (tabLed cb) → Q (.ret (.bool true)) { s with heap := h', toks := tk' }) :
    wpAny (model PySem.Challenge.rw_ty0017_01.row.prog w) (callerA.deeper (lawEnv L fa cd)) (execs [lawAt 3, lawAt 4, lawAt 5, lawAt 6, lawAt 7] (lawEnv L fa cd)) Q E s := by
  refine wpAny_execs_cons (wpAny_mono (row_loop X' K' T' codeHd' hIn hn56 hov dR dN hE l0 hlt F N) (fun f s₂ q => ?_) fun _ _ x => x)
  cases f with
  | next =>
    obtain ⟨c, ov', h', tk', rfl, hov', hP, F', N'⟩ := q
    have hN := ranks_ok ns
    show wpAny _ _ (execs ([lawAt 4, lawAt 5] ++ [lawAt 6, lawAt 7]) _) _ _ _
    rw [← fore_is]
    refine execs_app _ _ (fore_walk X' K' T' codeHd' hIn hn56 hP (by rw [hN.len]) ((cnt_eq hn56 hN).2) hov' dR dN l0 hlt F' N' ?_)
    intro tb h2 tk2 F2 N2
    exact main_loop X' K' T' codeHd' hIn rfl hn56 hP hN dR dN hE l0 hlt F2 N2 fun m' cb h3 tk3 F3 N3 => ret m' cb h3 tk3 F3 N3
  | cont => exact q.elim
  | brk => exact q.elim
  | ret v => exact q.elim
end Mine
end
theorem Mine.cleared_LawA17 : True := by
  k_with_none
  w_top off
  trivial
section
open PySem PySem.W PySem.Spec PySem.Calls PyProof.Rows
set_option maxRecDepth 100000
namespace Mine
theorem words_LawA17_1 : True := by
  k_with "w call builtin:len" => (k_here; (with_reducible show wpAny _ _ (call (Value.builtin _) [Value.ref _]) _ _ _); k_dflt (refine len_N (by k_asm) (by k_dflt k_mem) (by assumption) (by first | assumption | omega) ?_))
  k_with "w subscriptTail" => (k_here; (with_reducible show wpAny _ _ (subscriptTail (Expr.List _ _) (Expr.Slice (some _) none none _) (Value.ref _) (Value.ref _)) _ _ _); k_dflt (refine kba_turn (value' := PySem.Expr.Name (PySem.Str.ofString "_") ⟨0, 0, 0, 0⟩) (fun _ => rfl) ?_); k_dflt (refine lit_from (by k_asm) (by k_asm) (by k_dflt k_mem) ?_); intro _ _ _ _ _ l1 _; (try dsimp only); (try k_lt l1))
  k_with "w binaryOp Add ref ref" => (k_here; (with_reducible show wpAny _ _ (binaryOp _ (Value.ref _) (Value.ref _)) _ _ _); k_dflt (refine nums_add (by k_asm) (by k_asm) (by k_dflt k_mem) (by k_dflt k_mem) (by assumption) (by assumption) (by simp only [List.length_take, List.length_drop, List.length_cons, List.length_nil]; omega) ?_); intro _ _ _ _ _ _ _ _ l1 _; (try dsimp only); (try k_lt l1))
  trivial
set_option maxHeartbeats 4000000 in
theorem law_head {w : World} {g : Heap} {L fa l : Addr} {cd : Value} {s : Shared} {E : Value → Shared → Prop} {Q : Flow → Shared → Prop} {p : Program} {loose : List Str} {mean : ExcName → Option Value} {mg mb : Str → Option Value}
    {vs : List Value} {ks : List Int} {o1 o2 o3 : Obj} {v1 v2 v3 : Option Value}
    (X' : (hd.heap_39 w.params).In g) (K' : Below callerA g [] g) (T' : Top p loose mean mg mb g)
    (hI : IntsAre vs ks) (hks : ks.length ≤ 63) (lifted : g.IsList l vs.toArray) (c1' : o1.data = .cell v1) (c2' : o2.data = .cell v2) (c3' : o3.data = .cell v3) (l0 : @LT.lt Nat _ 98 L)
    (F1 : Fr g L s.heap (fun z => if z = Str.ofString "script" then some (.ref l) else none))
    (N' : News g L s.heap [(L + 1 + 1 + 1, o1), (L + 1 + 1, o2), (L + 1, o3), (98, tabObj #[])])
    (ret : ∀ D lR ws ts oR oN h' tk', IntsAre ws (numsOf ks) → oR.data = .cell (some (.ref lR)) → oN.data = .cell (some (.ref D)) → @LT.lt Nat _ (L + 1 + 1 + 1) D → @LT.lt Nat _ D lR →
      Fr g L h' (fun y => if y = Str.ofString "size" then some (.int (numsOf ks).length ts) else if y = Str.ofString "script" then some (.ref l) else none) →
      News g L h' [(lR, listOf #[] 0), (D, listOf (List.toArray ws) 0), (L + 1 + 1 + 1, o1), (L + 1 + 1, oR), (L + 1, oN), (98, tabObj #[])] → Q .next { s with heap := h', toks := tk' }) :
    wpAny (model PySem.Challenge.rw_ty0017_01.row.prog w) (callerA.deeper (lawEnv L fa cd)) (execs [lawAt 0, lawAt 1, lawAt 2] (lawEnv L fa cd)) Q E s := by
  unfold lawEnv
  have hs : lawScope = lawScope := rfl
  conv at hs => rhs; whnf
  have hb0 : lawAt 0 = lawAt 0 := rfl
  conv at hb0 => rhs; whnf
  have hb1 : lawAt 1 = lawAt 1 := rfl
  conv at hb1 => rhs; whnf
  have hb2 : lawAt 2 = lawAt 2 := rfl
  conv at hb2 => rhs; whnf
  rw [hb0, hb1, hb2, hs]
  clear hs hb0 hb1 hb2
  revert X'
  k_fill
  intro X'
  k_steps
  have l19 := l1
  clear l1
  rename_i D9 ws9 ns9 h4 ens hns hI9 h3 oN9 dN9 tk1 h2 tk0 lR9 h1 l18 h0 oR9 F9 N9 dR9
  subst ens
  refine ret D9 lR9 ws9 _ oR9 oN9 _ _ hI9 dR9 dN9 l19.2.2.2.2.1 l18.1 F9 (news_sub N9 ?_)
  (repeat' (first | exact List.forall_mem_nil _ | refine List.forall_mem_cons.mpr ⟨?_, ?_⟩))
  all_goals k_mem
end Mine
end
section
open PySem PySem.W PySem.Spec PySem.Calls PyProof.Rows
set_option maxRecDepth 100000
namespace Mine
theorem law_is : lawBody = [lawAt 0, lawAt 1, lawAt 2] ++ [lawAt 3, lawAt 4, lawAt 5, lawAt 6, lawAt 7] := rfl
theorem grown_tab {g h : Heap} {L : Addr} {cb : Option (Addr × Obj)} (N : News g L h (tabLed cb)) : GrownAll [(100, 98)] h := by
  cases cb with
  | none => exact ⟨GrownAt.of N (.head _), True.intro⟩
  | some q => exact ⟨GrownAt.of N (.head _), True.intro⟩
set_option maxHeartbeats 4000000 in
theorem law_whole : PySem.Challenge.rw_ty0017_01.Holds := hd (by
  k_go0
  rename_i w s₀ s₁ mg mb G Y fa o pm cd doc ho hcd hg X V T B TE TW ks hs hlay0 hL1 hr1 hl2 w7 w6 l vs w3 hL ra w1 r0 hI hr hcond1 hcond hD h₁ tk₁ o1 o2 o3 c1 c2 c3 X0 X' T' K' F' N' l0
  have F1 : Fr (ghostOf s₁.heap [(100, 98)]) s₁.heap.objs.size h₁ (fun z => if z = Str.ofString "script" then some (.ref l) else none) := by with_unfolding_all exact F'
  have c1' : o1.data = .cell none := c1
  have c2' : o2.data = .cell none := c2
  have c3' : o3.data = .cell none := c3
  clear F' c1 c2 c3 X0 G Y ho hcd X V T B TE TW hs hlay0 hL1 hr1 hl2 hL ra w1 r0 hr hcond hD hT8 hT9
  have codeHd' : CodeHd (ghostOf s₁.heap [(100, 98)]) 100 98 := codeHd
  clear codeHd
  have hks : ks.length ≤ 63 := by omega
  generalize ghostOf s₁.heap [(100, 98)] = g at *
  generalize hLs : s₁.heap.objs.size = L at *
  generalize (looseW _ _ ++ _ ++ _ ++ _) = loose at T'
  generalize (ExcName.means s₀.heap) = mean at T'
  generalize topProg = p at T'
  dsimp only
  refine (fun h => h : _ → wpAny _ _ _ _ _ _) ?_
  have hsc : lawScope = lawScope := rfl
  conv at hsc => rhs; whnf
  have hbd : lawBody = lawBody := rfl
  conv at hbd => rhs; whnf
  rw [← hsc]
  rw [← hbd]
  clear hsc hbd
  rw [law_is]
  refine execs_app _ _ (law_head X' K' T' hI hks lifted c1' c2' c3' l0 F1 N' ?_)
  intro D lR ws ts oR oN h' tk' hW dR dN l1 l2 F2 N2
  dsimp only
  refine law_rest (ns := numsOf ks) X' K' T' codeHd' hW (nums_len ks) c1' dR dN (by passes_own) l0 ⟨l1, l2⟩ F2 N2 ?_
  intro m' cb h2 tk2 F3 N3
  dsimp only
  refine And.intro ?_ (grown_tab N3)
  refine goodW_bool F3 hg (raisesW_false ?_) ?_
  · wrow_none_raised
  · kc_post)
end Mine
end
theorem PySem.Challenge.cw_ty0017_01_holds : PySem.Challenge.rw_ty0017_01.Holds :=
  Mine.law_whole
