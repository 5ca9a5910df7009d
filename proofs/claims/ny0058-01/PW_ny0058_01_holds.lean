import PyProof.Rows.All
import Wide.All
import OpenK.AllK
import Wide.FinOn
import Lean
import PySem.Challenge.RW_ny0058_01
open PySem PySem.W PyProof.Rows
set_option Elab.async false
set_option maxRecDepth 100000
set_option maxHeartbeats 8000000
namespace Mine
open_top hd for PySem.Challenge.rw_ny0058_01
end Mine
open PySem PySem.W PyProof.Rows
set_option Elab.async false
set_option maxRecDepth 100000
set_option maxHeartbeats 8000000
namespace Mine
open PySem PySem.Spec PySem.Calls PyProof.Rows PySem.W

/-- what every call of ours may lean on: the text's own objects and the built-in names stand in the heap -/
noncomputable def Cx (w : World) (mean : ExcName → Option Value) (mg mb : Str → Option Value) (h : Heap) : Prop :=
  (Mine.hd.heap_39 w.params).In h ∧ Top Mine.hd.view_39 (looseW Mine.hd.view_39 [Str.ofString "b2a_base64", Str.ofString "b64encode"]) mean mg mb h

theorem Cx.keeps {w : World} {mean : ExcName → Option Value} {mg mb : Str → Option Value} {h h' : Heap} (C : Cx w mean mg mb h) (k : h.StaysIn h') : Cx w mean mg mb h' :=
  ⟨C.1.keeps k, C.2.keeps k⟩

/-- room of the machine: nothing handled, frames and C units to spare -/
structure Room (A : Around) (d u : Nat) : Prop where
  handled : A.handled = none
  depth : A.depth + d < recursionLimit
  units : A.units + u < cLine

/-- the frame told by a list of its names -/
theorem frAs {h₀ h : Heap} {L : Addr} {m : Str → Option Value} (F : Fr h₀ L h m) {ps : List (Str × Value)} (hk : ∀ p ∈ ps, m p.1 = some p.2) : Fr h₀ L h (kstB m ps) := by
  have e : kstB m ps = m := funext fun z => kstB_eq hk fun _ => rfl
  rw [e]; exact F

section
variable {prog : Program} {w : World} {A : Around} {s : Shared} {mean : ExcName → Option Value} {mg mb : Str → Option Value}
  {name qual : Str} {params : Arguments} {body : List Stmt} {scope : Scope} {dV kV doc pm cdv ct oc : Value} {an od : Option Addr} {osl : Array (Option Value)} {f : Addr} {pos : List Value} {kw : List (Str × Value)} {binds : List (Str × Value)}

theorem enter {Q : Value → Shared → Prop} {E : Value → Shared → Prop} (ps : List (Str × Value)) (C : Cx w mean mg mb s.heap)
    (ho : (Mine.hd.heap_39 w.params).lookup f = some ⟨oc, od, .func (fnOf name qual params body scope dV kV doc pm an cdv ct), osl⟩) (hcd : codeIn (Mine.hd.heap_39 w.params) cdv qual = true) (hroom : A.depth < recursionLimit)
    (hbind : BindsTo s (fnOf name qual params body scope dV kV doc pm an cdv ct) ⟨pos, kw⟩ binds) (hloc : ∀ y ∈ binds, scope.names.lookup y.1 = some .local) (hps : ∀ p ∈ ps, binds.reverse.lookup p.1 = some p.2)
    (h : ∀ g L' h₁ u tk, g = s.heap → Fr g L' h₁ (kstB u ps) → News g L' h₁ [] → (Mine.hd.heap_39 w.params).In g → Top Mine.hd.view_39 (looseW Mine.hd.view_39 [Str.ofString "b2a_base64", Str.ofString "b64encode"]) mean mg mb g →
      wpAny (model prog w) (A.deeper (envOf qual scope L' f cdv)) (execs body (envOf qual scope L' f cdv))
        (fun fl s' => Q (match fl with | .ret v => v | _ => .none) s') (fun _ _ => False)
        { s with heap := h₁, toks := tk })
    (hco : scope.isCoroutine = false := by rfl) (hgen : scope.isGenerator = false := by rfl) (hk : scope.kind = .function := by rfl)
    (hcell : ∀ x ∈ scope.names, x.2 ≠ .cell := by decide) : wpAny (model prog w) A (call (.ref f) pos kw) Q E s := by
  refine wpAny_call ?_
  refine codeAny_call_def (fd := fnOf name qual params body scope dV kV doc pm an cdv ct) (body := body) (binds := binds) hroom (C.1 _ _ ho) rfl C.2.nolimit (codeRec_of C.1 hcd) rfl hbind hcell hloc (fun h₁ hns hk₁ => ?_) hco hgen hk
  have F : Fr s.heap s.heap.objs.size h₁ (fun x => binds.reverse.lookup x) := ⟨hns, hk₁, Nat.le_refl _⟩
  exact wpAny_mono (h s.heap s.heap.objs.size h₁ _ _ rfl (frAs F hps) News.nil C.1 C.2) (fun _ _ x => x) fun _ _ x => x.elim
end

/-- a goal at which the walk stands still -/
structure Hold (P : Prop) : Prop where
  h : P

noncomputable def StEnd {σ : Type} (h₀ : Heap) (L : Addr) (s : Shared) (Led : σ → List (Addr × Obj)) (ps : σ → List (Str × Value)) (P : σ → Prop) (s₂ : Shared) : Prop :=
  ∃ (c : σ) (h' : Heap) (tk : Nat) (m' : Str → Option Value) (news' : List (Addr × Obj)), s₂ = { s with heap := h', toks := tk } ∧ Fr h₀ L h' m' ∧ News h₀ L h' news' ∧ (∀ p ∈ Led c, p ∈ news') ∧ (∀ p ∈ ps c, m' p.1 = some p.2) ∧ P c
theorem StEnd.mk {σ : Type} {h₀ : Heap} {L : Addr} {s : Shared} {Led : σ → List (Addr × Obj)} {ps : σ → List (Str × Value)} {P : σ → Prop} (c : σ) {h' : Heap} {tk : Nat} {m' : Str → Option Value} {news' : List (Addr × Obj)}
    (F : Fr h₀ L h' m') (N : News h₀ L h' news') (hl : ∀ p ∈ Led c, p ∈ news') (hp : ∀ p ∈ ps c, m' p.1 = some p.2) (h : P c) : StEnd h₀ L s Led ps P { s with heap := h', toks := tk } :=
  ⟨c, h', tk, m', news', rfl, F, N, hl, hp, h⟩
noncomputable def StPost {σ : Type} (h₀ : Heap) (L : Addr) (s : Shared) (Led : σ → List (Addr × Obj)) (ps : σ → List (Str × Value)) (P : σ → Prop) (Q : Flow → Shared → Prop) (f : Flow) (s₂ : Shared) : Prop :=
  match f with
  | .ret v => Q (.ret v) s₂
  | .brk => Q .next s₂
  | _ => StEnd h₀ L s Led ps P s₂

section
variable {prog : Program} {w : World} {A : Around} {E : Value → Shared → Prop} {Q : Flow → Shared → Prop} {s : Shared} {env : Env} {h₀ : Heap} {L : Addr}

theorem my_while {σ : Type} {test : Expr} {body : List Stmt} {pos : Pos} {m₀ : Str → Option Value} {news₀ : List (Addr × Obj)} (Led : σ → List (Addr × Obj)) (ps : σ → List (Str × Value)) (P : σ → Prop) (μ : σ → Nat) (c₀ : σ)
    (F : Fr h₀ L s.heap m₀) (N : News h₀ L s.heap news₀) (hl : ∀ p ∈ Led c₀, p ∈ news₀) (hk : ∀ p ∈ ps c₀, m₀ p.1 = some p.2) (hp : P c₀)
    (turn : ∀ (c : σ) (u : Str → Option Value) h tk, P c → Fr h₀ L h (kstB u (ps c)) → News h₀ L h (Led c) →
      wpAny (model prog w) A (isTrue test env (eval test env)) (fun b s₂ =>
        if b = true then wpAny (model prog w) A (execs body env) (StPost h₀ L s Led ps (fun c' => P c' ∧ μ c' < μ c) Q) E s₂ else Q .next s₂) E { s with heap := h, toks := tk })
    (hE : PassesOwn (model prog w) A env E := by passes_own) :
    wpAny (model prog w) A (exec (.While test body [] pos) env) Q E s := by
  refine While_inv2 (fun n m nx => ∃ c : σ, nx = Led c ∧ μ c = n ∧ (∀ p ∈ ps c, m p.1 = some p.2) ∧ P c) F (fun p hp => N p (hl p hp)) ⟨c₀, rfl, rfl, hk, hp⟩ ?_ hE
  rintro n m₁ nx h tk F₁ N₁ ⟨c, rfl, rfl, h1, hp'⟩
  refine wpAny_mono (turn c m₁ h tk hp' (frAs F₁ h1) N₁) (fun b s₂ p => ?_) fun _ _ x => x
  cases b with
  | false => simpa using p
  | true =>
    simp only [if_true] at p ⊢
    refine wpAny_mono p (fun f s₃ q => ?_) fun _ _ x => x
    cases f with
    | ret v => exact q
    | brk => exact q
    | next =>
      obtain ⟨c', h', tk', m', news', rfl, F', N', hn, hk9, hp9, hm9⟩ := q
      exact ⟨h', tk', m', Led c', μ c', rfl, F', fun p hp => N' p (hn p hp), hm9, c', rfl, rfl, hk9, hp9⟩
    | cont =>
      obtain ⟨c', h', tk', m', news', rfl, F', N', hn, hk9, hp9, hm9⟩ := q
      exact ⟨h', tk', m', Led c', μ c', rfl, F', fun p hp => N' p (hn p hp), hm9, c', rfl, rfl, hk9, hp9⟩

/-- a for over anything that walks with an iterator of its own at I -/
theorem my_loop {σ : Type} {x : Str} {body : List Stmt} {I : Addr} {fp : List Addr} {n : Nat} {Pv : Nat → Value → Prop} {St : Nat → Heap → Prop} {m₀ : Str → Option Value} {news₀ : List (Addr × Obj)}
    (Led : σ → List (Addr × Obj)) (ps : σ → List (Str × Value)) (P : Nat → σ → Prop) (c₀ : σ)
    (W : Walks prog w A I fp [I] n Pv St) (hI : I ∈ fp) (hLf : env.locals ∉ fp) (hI0 : h₀.get? I = none) (hst : St 0 s.heap) (hsI : ∀ i h, St i h → (h.get? I).isSome = true)
    (F : Fr h₀ env.locals s.heap m₀) (N : News h₀ env.locals s.heap news₀) (hl : ∀ p ∈ Led c₀, p ∈ news₀) (hne : ∀ p ∈ Led c₀, p.1 ≠ I) (hk : ∀ p ∈ ps c₀, m₀ p.1 = some p.2) (hp : P 0 c₀)
    (turn : ∀ (i : Nat) (v : Value) (c : σ) (oI : Obj) (u : Str → Option Value) h tk, i < n → Pv i v → P i c → (∀ p ∈ Led c, p.1 ≠ I) → Fr h₀ env.locals h (fun y => if y = x then some v else kstB u (ps c) y) → News h₀ env.locals h ((I, oI) :: Led c) →
      wpAny (model prog w) A (execs body env) (StPost h₀ env.locals s (fun c' => (I, oI) :: Led c') ps (fun c' => P (i + 1) c' ∧ ∀ p ∈ Led c', p.1 ≠ I) Q) E { s with heap := h, toks := tk })
    (hfp : ∀ b ∈ fp, b = I ∨ (h₀.get? b).isSome = true)
    (done : ∀ (c : σ) (u : Str → Option Value) h tk, P n c → Fr h₀ env.locals h (kstB u (ps c)) → News h₀ env.locals h (Led c) → Q .next { s with heap := h, toks := tk }) :
    LoopAtV prog w A h₀ env x body Q E (.ref I) s := by
  refine ⟨I, fp, [I], n, Pv, St, m₀, Led c₀, fun i m nx => ∃ c : σ, nx = Led c ∧ (∀ p ∈ ps c, m p.1 = some p.2) ∧ P i c, rfl, W, hLf, ?_, ?_, hst, F, fun p hp => N p (hl p hp), ⟨c₀, rfl, hk, hp⟩, ?_, ?_⟩
  · intro b hb; rw [List.mem_singleton.mp hb]; exact hI0
  · intro p hp hm; exact hne p hp (List.mem_singleton.mp hm)
  · rintro i v m₁ news₁ s₁ own ⟨h, tk, rfl⟩ hi hv ⟨c, rfl, h1, hp'⟩ hoff hof hon hin hst₁ F₁ N₁
    obtain ⟨oI, ho⟩ := Option.isSome_iff_exists.mp (hsI _ _ hst₁)
    have hmem : (I, oI) ∈ own := hin I hI hI0 oI ho
    have e : (fun y => if y = x then some v else m₁ y) = fun y => if y = x then some v else kstB m₁ (ps c) y := by
      funext y
      by_cases q : y = x
      · simp [q]
      · simp only [if_neg q]; exact (kstB_eq h1 fun _ => rfl).symm
    rw [e] at F₁
    refine wpAny_mono (turn i v c oI m₁ h tk hi hv hp' (fun p hp q => hoff p hp (q ▸ .head _)) F₁ fun p hp => ?_) (fun f s₂ q => ?_) fun _ _ x => x
    · rcases List.mem_cons.mp hp with rfl | hp
      · exact N₁ _ (List.mem_append_left _ hmem)
      · exact N₁ _ (List.mem_append_right _ hp)
    · have fin : StEnd h₀ env.locals s (fun c' => (I, oI) :: Led c') ps (fun c' => P (i + 1) c' ∧ ∀ p ∈ Led c', p.1 ≠ I) s₂ → LoopStepU h₀ env.locals [I] own (fun m nx => ∃ c : σ, nx = Led c ∧ (∀ p ∈ ps c, m p.1 = some p.2) ∧ P (i + 1) c) { s with heap := h, toks := tk } .next s₂ := by
        rintro ⟨c', h', tk', m', news', rfl, F', N', hn, hk9, hp9, hne9⟩
        refine ⟨rfl, h', tk', m', Led c', rfl, F', fun p hp => ?_, fun p hp hm => hne9 p hp (List.mem_singleton.mp hm), c', rfl, hk9, hp9⟩
        rcases List.mem_append.mp hp with hp | hp
        · have hb := hof p hp
          rcases hfp _ hb with e | e
          · have e1 := hon p hp
            rw [e] at e1
            have e2 : p = (I, oI) := by
              obtain ⟨a, o⟩ := p
              have q1 : a = I := e
              have q2 : o = oI := Option.some.inj (e1.symm.trans ho)
              rw [q1, q2]
            rw [e2]
            exact N' _ (hn _ (.head _))
          · have q := (N₁ p (List.mem_append_left _ hp)).2.2
            rw [q] at e; cases e
        · exact N' p (hn p (.tail _ hp))
      cases f with
      | ret v => exact q
      | brk => exact q
      | next => exact fin q
      | cont => exact fin q
  · rintro h' tk m' news' F' N' hoff ⟨c, rfl, h1, hp'⟩
    exact done c m' h' tk hp' (frAs F' h1) N'
end
end Mine
namespace Mine
open PySem PySem.Spec PySem.Calls PyProof.Rows PySem.W
section
variable {prog : Program} {w : World} {A : Around} {E : Value → Shared → Prop} {Q : Flow → Shared → Prop} {s : Shared} {env : Env} {h₀ : Heap}
theorem for_bytes {σ : Type} {x : Str} {body : List Stmt} {m₀ : Str → Option Value} {news₀ : List (Addr × Obj)} {l : List UInt8} {tb : Tok} {L : Addr} (hL : env.locals = L) (Led : σ → List (Addr × Obj)) (ps : σ → List (Str × Value)) (P : Nat → σ → Prop) (c₀ : σ)
    (hh : A.handled = none) (F : Fr h₀ L s.heap m₀) (N : News h₀ L s.heap news₀) (hl : ∀ p ∈ Led c₀, p ∈ news₀) (hk : ∀ p ∈ ps c₀, m₀ p.1 = some p.2) (hp : P 0 c₀)
    (turn : ∀ (i : Nat) (b : UInt8) (tv : Tok) (c : σ) (oI : Obj) (u : Str → Option Value) h tk, l[i]? = some b → P i c → (∀ p ∈ Led c, p.1 ≠ s.heap.objs.size) → Fr h₀ L h (fun y => if y = x then some (.int (b.toNat : Int) tv) else kstB u (ps c) y) → News h₀ L h ((s.heap.objs.size, oI) :: Led c) →
      wpAny (model prog w) A (execs body env) (StPost h₀ L s (fun c' => (s.heap.objs.size, oI) :: Led c') ps (fun c' => P (i + 1) c' ∧ ∀ p ∈ Led c', p.1 ≠ s.heap.objs.size) Q) E { s with heap := h, toks := tk })
    (done : ∀ (c : σ) (u : Str → Option Value) h tk, P l.length c → Fr h₀ L h (kstB u (ps c)) → News h₀ L h (Led c) → Q .next { s with heap := h, toks := tk }) :
    wpAny (model prog w) A (pyIter (.bytes l.toArray tb)) (fun it s₂ => LoopAtV prog w A h₀ env x body Q E it s₂) E s := by
  subst hL
  refine KBw.pyIter_bytes ?_
  have W := KBw.walks (prog := prog) (w := w) hh s.heap.objs.size l.toArray tb
  refine my_loop (s := { s with heap := s.heap.push { cls := .type "bytes_iterator", data := .fields #[.bytes l.toArray tb, .int 0 0] } }) Led ps P c₀ W (.head _) ?_ (next_is_new F) ⟨_, Heap.get?_push_size _ rfl, rfl, rfl⟩ ?_ (F.push _) (fun p hp => ⟨Heap.get?_push_of_some _ (N p hp).1, (N p hp).2⟩) hl ?_ hk hp ?_ ?_ ?_
  · intro hm
    exact absurd F.ns.lt ((List.mem_singleton.mp hm) ▸ Nat.lt_irrefl _)
  · rintro i h ⟨o, ho, _⟩
    rw [ho]; rfl
  · intro p hp q
    exact absurd (Heap.lt_size (N p (hl p hp)).1) (q ▸ Nat.lt_irrefl _)
  · rintro i v c oI u h tk hi ⟨b, tv, hb, rfl⟩ hp' hne F' N'
    exact turn i b tv c oI u h tk (by simpa using hb) hp' hne F' N'
  · intro b hb; exact .inl (List.mem_singleton.mp hb)
  · intro c u h tk hp' F' N'
    exact done c u h tk (by simpa using hp') F' N'
end

theorem binds_load {K : Frag} {s : Shared} {fd : FuncData} {args : Args} {binds : List (Str × Value)} {T : Addr} {o : Obj} {part : Option Value} {k : Obj → Sem (List (Str × Value))}
    (X : K.In s.heap) (ho : K.lookup T = some o) (h₁ : bindArgs fd args = Sem.load T part k) (h₂ : k o = Sem.pure binds) : BindsTo s fd args binds := by
  intro M A E Q hq Γ p _
  rw [h₁, Sem.wp_load]
  refine ⟨o, X _ _ ho, ?_⟩
  rw [h₂]
  exact hq
end Mine
namespace Mine
open PySem PySem.Spec PySem.Calls PyProof.Rows PySem.W
section
variable {prog : Program} {w : World} {A : Around} {s : Shared} {mean : ExcName → Option Value} {mg mb : Str → Option Value}
  {name qual : Str} {params : Arguments} {body : List Stmt} {scope : Scope} {dV kV doc pm cdv ct oc : Value} {an od : Option Addr} {osl : Array (Option Value)} {f : Addr} {pos : List Value} {kw : List (Str × Value)} {binds : List (Str × Value)}

theorem enterC {Q : Value → Shared → Prop} {E : Value → Shared → Prop} (ps : List (Str × Value)) (C : Cx w mean mg mb s.heap)
    (ho : (Mine.hd.heap_39 w.params).lookup f = some ⟨oc, od, .func (fnOf name qual params body scope dV kV doc pm an cdv ct), osl⟩) (hcd : codeIn (Mine.hd.heap_39 w.params) cdv qual = true) (hroom : A.depth < recursionLimit)
    (hbind : BindsTo s (fnOf name qual params body scope dV kV doc pm an cdv ct) ⟨pos, kw⟩ binds) (hkind : (binds.all fun y => scope.names.lookup y.1 == some .local || scope.names.lookup y.1 == some .cell) = true)
    (hnd : ((cellsFrom 0 scope.names []).map (·.1)).Nodup) (hps : ∀ L', ∀ p ∈ ps, bindL (envOfC qual scope L' f cdv).kindOf binds (fun _ => none) p.1 = some p.2)
    (h : ∀ g L' h₁ u tk cells, g = s.heap → Fr g L' h₁ (kstB u ps) → News g L' h₁ cells → CellsAre (bindC (envOfC qual scope L' f cdv).kindOf binds fun _ => none) (cellsFrom (L' + 1) scope.names []) cells →
      (Mine.hd.heap_39 w.params).In g → Top Mine.hd.view_39 (looseW Mine.hd.view_39 [Str.ofString "b2a_base64", Str.ofString "b64encode"]) mean mg mb g →
      wpAny (model prog w) (A.deeper (envOfC qual scope L' f cdv)) (execs body (envOfC qual scope L' f cdv))
        (fun fl s' => Q (match fl with | .ret v => v | _ => .none) s') (fun _ _ => False)
        { s with heap := h₁, toks := tk })
    (hco : scope.isCoroutine = false := by rfl) (hgen : scope.isGenerator = false := by rfl) (hk : scope.kind = .function := by rfl) : wpAny (model prog w) A (call (.ref f) pos kw) Q E s := by
  refine wpAny_call ?_
  refine codeAny_call_function hroom (C.1 _ _ ho) rfl hco hgen rfl (codeRec_of C.1 hcd) (hbind _ _ _ _ ?_)
  refine wpAny_newFunctionEnv_cells hk (kindsX hkind _) fun env' he s' x => ?_
  subst he
  refine ⟨C.2.nolimit.keeps x.toInCall.keep, codeAny_func ?_⟩
  obtain ⟨h₁, tk, rfl, _⟩ := x.done
  obtain ⟨cells, NC, Y⟩ := Cl.news (h₀ := s.heap) (Nat.le_refl _) fun n c hm => ⟨x.cell n c (lookup_of_mem_nodup (cellsFrom_names scope.names 0 (s.heap.objs.size + 1) [] [] rfl ▸ hnd) hm), x.above n c hm⟩
  have F : Fr s.heap s.heap.objs.size h₁ (bindL (envOfC qual scope s.heap.objs.size f cdv).kindOf binds fun _ => none) := ⟨x.toInCall.ns, x.toInCall.keep, Nat.le_refl _⟩
  exact wpAny_mono (h s.heap s.heap.objs.size h₁ _ tk cells rfl (frAs F (hps _)) NC Y C.1 C.2) (fun _ _ y => y) fun _ _ y => y.elim

/-- a def entered with the ledger kept: what it may turn are the ledger's own objects -/
theorem enterN {h₀ : Heap} {L : Addr} {m : Str → Option Value} {news : List (Addr × Obj)} {R : Result → Shared → Prop} (ps : List (Str × Value)) (F : Fr h₀ L s.heap m) (N : News h₀ L s.heap news) (C : Cx w mean mg mb h₀)
    (ho : (Mine.hd.heap_39 w.params).lookup f = some ⟨oc, od, .func (fnOf name qual params body scope dV kV doc pm an cdv ct), osl⟩) (hcd : codeIn (Mine.hd.heap_39 w.params) cdv qual = true) (hroom : A.depth < recursionLimit)
    (hbind : BindsTo s (fnOf name qual params body scope dV kV doc pm an cdv ct) ⟨pos, kw⟩ binds) (hloc : ∀ y ∈ binds, scope.names.lookup y.1 = some .local) (hps : ∀ p ∈ ps, binds.reverse.lookup p.1 = some p.2)
    (h : ∀ g L' h₁ u tk, Fr g L' h₁ (kstB u ps) → News g L' h₁ news → (Mine.hd.heap_39 w.params).In g → Top Mine.hd.view_39 (looseW Mine.hd.view_39 [Str.ofString "b2a_base64", Str.ofString "b64encode"]) mean mg mb g →
      wpAny (model prog w) (A.deeper (envOf qual scope L' f cdv)) (execs body (envOf qual scope L' f cdv))
        (fun fl s' => LeaveK h₀ L m g R (match fl with | .ret v => v | _ => .none) s') (fun _ _ => False)
        { s with heap := h₁, toks := tk })
    (hco : scope.isCoroutine = false := by rfl) (hgen : scope.isGenerator = false := by rfl) (hk : scope.kind = .function := by rfl)
    (hcell : ∀ x ∈ scope.names, x.2 ≠ .cell := by decide) : codeAny (model prog w) A (.call (.ref f) ⟨pos, kw⟩) R s := by
  have CS := C.keeps F.keep
  let env0 : Env := envOf qual scope L 0 .none
  obtain ⟨FG, _, st, lv⟩ := groundX (A₀ := { frames := some [] }) (A := { frames := some [env0] }) (base := h₀) (outer := []) (env := env0) (R := R) ⟨rfl, fun _ _ e => e, trivial⟩ F N rfl rfl hk
  have CG := C.keeps st
  refine codeAny_call_def (fd := fnOf name qual params body scope dV kV doc pm an cdv ct) (body := body) (binds := binds) hroom (CS.1 _ _ ho) rfl CS.2.nolimit (codeRec_of CS.1 hcd) rfl hbind hcell hloc (fun h₁ hns hk₁ => ?_) hco hgen hk
  have F' : Fr (hideAll s.heap (news.map (·.1))) s.heap.objs.size h₁ (fun x => binds.reverse.lookup x) := ⟨hns, fun b o e => hk₁ b o (of_hideAll _ e), Nat.le_of_eq (hideAll_size _ _)⟩
  exact wpAny_mono (h _ s.heap.objs.size h₁ _ _ (frAs F' hps) (fun p hp => ⟨hk₁ _ _ (N p hp).1, Nat.ne_of_lt (Heap.lt_size (N p hp).1), hideAll_none _ (List.mem_map_of_mem hp)⟩) CG.1 CG.2) (fun _ _ x => lv _ _ x) fun _ _ x => x.elim
end
end Mine
namespace Mine
/-- the sixteen letters -/
noncomputable def apChar (d : Nat) : UInt8 := (65 + d).toUInt8
noncomputable def ap (n : Nat) : List UInt8 := if n = 0 then [] else ap (n / 16) ++ [apChar (n % 16)]
termination_by n
decreasing_by omega
theorem ap_zero : ap 0 = [] := by unfold ap; simp
theorem ap_pos {n : Nat} (h : n ≠ 0) : ap n = ap (n / 16) ++ [apChar (n % 16)] := by
  conv => lhs; unfold ap
  simp [h]
theorem ap_length_le (n : Nat) : ∀ k, n < 16 ^ k → (ap n).length ≤ k := by
  intro k
  induction k generalizing n with
  | zero => intro h; have : n = 0 := by omega
            subst this; simp [ap_zero]
  | succ k ih =>
    intro h
    by_cases hn : n = 0
    · subst hn; simp [ap_zero]
    · rw [ap_pos hn, List.length_append]
      have := ih (n / 16) (by rw [Nat.pow_succ] at h; omega)
      simp; omega

/-- a row of octets as a number to the base 256 -/
noncomputable def val256 (l : List UInt8) : Nat := l.foldl (fun a b => a * 256 + b.toNat) 0
theorem val256_nil : val256 [] = 0 := rfl
theorem val256_snoc (l : List UInt8) (b : UInt8) : val256 (l ++ [b]) = val256 l * 256 + b.toNat := by simp [val256]
theorem val256_lt (l : List UInt8) : val256 l < 256 ^ l.length := by
  suffices h : ∀ (r : List UInt8), val256 r.reverse < 256 ^ r.length by
    have := h l.reverse
    simpa using this
  intro r
  induction r with
  | nil => decide
  | cons b r ih =>
    rw [List.reverse_cons, val256_snoc, List.length_cons, Nat.pow_succ]
    have := b.toNat_lt
    omega

noncomputable def alpha : List UInt8 := [65, 66, 67, 68, 69, 70, 71, 72, 73, 74, 75, 76, 77, 78, 79, 80, 81, 82, 83, 84, 85, 86, 87, 88, 89, 90, 97, 98, 99, 100, 101, 102, 103, 104, 105, 106, 107, 108, 109, 110, 111, 112, 113, 114, 115, 116, 117, 118, 119, 120, 121, 122, 48, 49, 50, 51, 52, 53, 54, 55, 56, 57, 43, 47]
noncomputable def sign (d : Nat) : UInt8 := alpha.getD d 0

/-- the first k sixes of the n bits of V -/
noncomputable def emit (V n k : Nat) : List Nat := (List.range k).map fun j => V / 2 ^ (n - 6 * (j + 1)) % 64
theorem emit_zero (V n : Nat) : emit V n 0 = [] := rfl
theorem emit_length (V n k : Nat) : (emit V n k).length = k := by simp [emit]
theorem emit_succ (V n k : Nat) : emit V n (k + 1) = emit V n k ++ [V / 2 ^ (n - 6 * (k + 1)) % 64] := by
  simp [emit, List.range_succ]
theorem emit_shift (V x n r k : Nat) (hk : 6 * k ≤ n) (hx : x < 2 ^ r) : emit (V * 2 ^ r + x) (n + r) k = emit V n k := by
  unfold emit
  refine List.map_congr_left fun j hj => ?_
  have hj : j < k := List.mem_range.mp hj
  have e : n + r - 6 * (j + 1) = r + (n - 6 * (j + 1)) := by omega
  rw [e, Nat.pow_add, ← Nat.div_div_eq_div_mul]
  have e2 : (V * 2 ^ r + x) / 2 ^ r = V := by
    rw [Nat.mul_comm, Nat.mul_add_div (Nat.two_pow_pos r), Nat.div_eq_of_lt hx, Nat.add_zero]
  rw [e2]
theorem emit_lt (V n k : Nat) : ∀ d ∈ emit V n k, d < 64 := by
  intro d hd
  obtain ⟨j, _, rfl⟩ := List.mem_map.mp hd
  exact Nat.mod_lt _ (by decide)

noncomputable def room (len : Nat) : Nat := (8 * len + 5) / 6
noncomputable def spare (len : Nat) : Nat := 6 * room len - 8 * len
noncomputable def pads (len : Nat) : Nat := (4 - room len % 4) % 4
noncomputable def digs (l : List UInt8) : List Nat := emit (val256 l * 2 ^ spare l.length) (6 * room l.length) (room l.length)
noncomputable def b64 (l : List UInt8) : List UInt8 := (digs l).map sign ++ List.replicate (pads l.length) 61
theorem digs_length (l : List UInt8) : (digs l).length = room l.length := emit_length ..
theorem b64_length (l : List UInt8) : (b64 l).length = (l.length + 2) / 3 * 4 := by
  unfold b64
  rw [List.length_append, List.length_map, digs_length, List.length_replicate]
  unfold pads room
  omega
theorem digs_0 {l : List UInt8} (h : 8 * l.length % 6 = 0) : digs l = emit (val256 l) (8 * l.length) (8 * l.length / 6) := by
  unfold digs
  have e1 : room l.length = 8 * l.length / 6 := by unfold room; omega
  have e2 : spare l.length = 0 := by unfold spare; rw [e1]; omega
  have e3 : 6 * (8 * l.length / 6) = 8 * l.length := by omega
  rw [e2, e1, e3, Nat.pow_zero, Nat.mul_one]
theorem digs_r {l : List UInt8} {r : Nat} (h : 8 * l.length % 6 = r) (hr : r ≠ 0) : digs l = emit (val256 l) (8 * l.length) (8 * l.length / 6) ++ [val256 l * 2 ^ (6 - r) % 64] := by
  unfold digs
  have e1 : room l.length = 8 * l.length / 6 + 1 := by unfold room; omega
  have e2 : spare l.length = 6 - r := by unfold spare; rw [e1]; omega
  have e3 : 6 * (8 * l.length / 6 + 1) = 8 * l.length + (6 - r) := by omega
  rw [e2, e1, e3, emit_succ]
  have := emit_shift (val256 l) 0 (8 * l.length) (6 - r) (8 * l.length / 6) (by omega) (Nat.two_pow_pos _)
  rw [Nat.add_zero] at this
  rw [this]
  have e4 : 8 * l.length + (6 - r) - 6 * (8 * l.length / 6 + 1) = 0 := by omega
  rw [e4, Nat.pow_zero, Nat.div_one]
theorem b64_0 {l : List UInt8} (h : 8 * l.length % 6 = 0) : b64 l = (emit (val256 l) (8 * l.length) (8 * l.length / 6)).map sign := by
  unfold b64
  rw [digs_0 h]
  have e : pads l.length = 0 := by unfold pads room; omega
  rw [e]; simp
theorem b64_2 {l : List UInt8} (h : 8 * l.length % 6 = 2) : b64 l = (emit (val256 l) (8 * l.length) (8 * l.length / 6) ++ [val256 l % 4 * 16]).map sign ++ [61, 61] := by
  unfold b64
  rw [digs_r h (by decide)]
  have e : pads l.length = 2 := by unfold pads room; omega
  have e2 : val256 l * 2 ^ (6 - 2) % 64 = val256 l % 4 * 16 := by
    show val256 l * 16 % 64 = _
    omega
  rw [e, e2]; rfl
theorem b64_4 {l : List UInt8} (h : 8 * l.length % 6 = 4) : b64 l = (emit (val256 l) (8 * l.length) (8 * l.length / 6) ++ [val256 l % 16 * 4]).map sign ++ [61] := by
  unfold b64
  rw [digs_r h (by decide)]
  have e : pads l.length = 1 := by unfold pads room; omega
  have e2 : val256 l * 2 ^ (6 - 4) % 64 = val256 l % 16 * 4 := by
    show val256 l * 4 % 64 = _
    omega
  rw [e, e2]; rfl
/-- the inner loop's own sign -/
theorem emit_sign (V n k s : Nat) (h : n - 6 * (k + 1) = s) (hs : s ≤ 10) : V % 65536 / 2 ^ s % 64 = V / 2 ^ (n - 6 * (k + 1)) % 64 := by
  rw [h]
  have e : (65536 : Nat) = 2 ^ s * 2 ^ (16 - s) := by rw [← Nat.pow_add, show s + (16 - s) = 16 by omega]
  rw [e, Nat.mod_mul_right_div_self]
  have e2 : (2 : Nat) ^ (16 - s) = 64 * 2 ^ (10 - s) := by
    rw [show 16 - s = 6 + (10 - s) by omega, Nat.pow_add]
  rw [e2, Nat.mod_mul_right_mod]

theorem val256_append (a : List UInt8) (b : List UInt8) : val256 (a ++ b) = val256 a * 256 ^ b.length + val256 b := by
  suffices h : ∀ (r : List UInt8), val256 (a ++ r.reverse) = val256 a * 256 ^ r.length + val256 r.reverse by
    have := h b.reverse
    simpa using this
  intro r
  induction r with
  | nil => simp [val256_nil]
  | cons c r ih =>
    rw [List.reverse_cons, ← List.append_assoc, val256_snoc, ih, val256_snoc, List.length_cons, Nat.pow_succ]
    rw [Nat.add_mul, Nat.mul_assoc, Nat.add_assoc]
theorem emit_add (V n k₁ k₂ : Nat) : emit V n (k₁ + k₂) = emit V n k₁ ++ (List.range k₂).map fun i => V / 2 ^ (n - 6 * (k₁ + i + 1)) % 64 := by
  unfold emit
  rw [List.range_add, List.map_append, List.map_map]
  rfl
theorem room_bits (len : Nat) : 8 * len + spare len = 6 * room len := by unfold spare room; omega
theorem wide_lt (l : List UInt8) : val256 l * 2 ^ spare l.length < 2 ^ (6 * room l.length) := by
  rw [← room_bits, Nat.pow_add, Nat.pow_mul]
  exact (Nat.mul_lt_mul_right (Nat.two_pow_pos _)).mpr (val256_lt l)
theorem b64_append (a b : List UInt8) (h : a.length % 3 = 0) : b64 (a ++ b) = b64 a ++ b64 b := by
  have hr : room (a.length + b.length) = room a.length + room b.length := by unfold room; omega
  have hra : 6 * room a.length = 8 * a.length := by unfold room; omega
  have hsp : spare (a.length + b.length) = spare b.length := by unfold spare; rw [hr]; omega
  have hsa : spare a.length = 0 := by unfold spare; omega
  have hq : room a.length % 4 = 0 := by unfold room; omega
  have hq2 : room (a.length + b.length) % 4 = room b.length % 4 := by rw [hr]; omega
  have hp : pads (a.length + b.length) = pads b.length := by unfold pads; rw [hq2]
  have hpa : pads a.length = 0 := by unfold pads room; omega
  have hW : val256 (a ++ b) * 2 ^ spare (a.length + b.length) = val256 a * 2 ^ (6 * room b.length) + val256 b * 2 ^ spare b.length := by
    rw [hsp, val256_append, Nat.add_mul, Nat.mul_assoc]
    congr 2
    rw [← room_bits, Nat.pow_add, Nat.pow_mul]
  have hd : digs (a ++ b) = digs a ++ digs b := by
    unfold digs
    rw [List.length_append, hW, hr, hsa, emit_add, Nat.pow_zero, Nat.mul_one, Nat.mul_add]
    congr 1
    · exact emit_shift _ _ _ _ _ (Nat.le_refl _) (wide_lt b)
    · unfold emit
      refine List.map_congr_left fun i hi => ?_
      have hi : i < room b.length := List.mem_range.mp hi
      have e : 6 * room a.length + 6 * room b.length - 6 * (room a.length + i + 1) = 6 * room b.length - 6 * (i + 1) := by omega
      rw [e]
      have e2 : 2 ^ (6 * room b.length) = 2 ^ (6 * room b.length - 6 * (i + 1)) * (64 * 2 ^ (6 * i)) := by
        rw [show (64 : Nat) = 2 ^ 6 by decide, ← Nat.pow_add, ← Nat.pow_add]
        congr 1
        omega
      rw [e2, ← Nat.mul_assoc, Nat.mul_comm (val256 a), Nat.mul_assoc, Nat.mul_add_div (Nat.two_pow_pos _)]
      rw [← Nat.mul_assoc, Nat.mul_comm (val256 a), Nat.mul_assoc, Nat.mul_add_mod]
  unfold b64
  rw [hd, List.length_append, hp, hpa]
  simp
theorem b64_nil : b64 [] = [] := by decide
noncomputable def val64 (l : List Nat) : Nat := l.foldl (fun a d => a * 64 + d) 0
theorem val64_snoc (l : List Nat) (d : Nat) : val64 (l ++ [d]) = val64 l * 64 + d := by simp [val64]
theorem val64_emit (W R : Nat) : ∀ k, k ≤ R → val64 (emit W (6 * R) k) = W / 2 ^ (6 * (R - k)) % 2 ^ (6 * k) := by
  intro k
  induction k with
  | zero => intro _; simp [emit_zero, val64, Nat.mod_one]
  | succ k ih =>
    intro hk
    rw [emit_succ, val64_snoc, ih (by omega)]
    have e1 : 6 * R - 6 * (k + 1) = 6 * (R - (k + 1)) := by omega
    have e2 : 6 * (R - k) = 6 * (R - (k + 1)) + 6 := by omega
    rw [e1, e2, Nat.pow_add, ← Nat.div_div_eq_div_mul]
    generalize W / 2 ^ (6 * (R - (k + 1))) = X
    rw [show 6 * (k + 1) = 6 + 6 * k by omega, Nat.pow_add]
    show X / 64 % 2 ^ (6 * k) * 64 + X % 64 = X % (64 * 2 ^ (6 * k))
    rw [Nat.mod_mul]
    omega
theorem val64_digs (l : List UInt8) : val64 (digs l) = val256 l * 2 ^ spare l.length := by
  unfold digs
  rw [val64_emit _ _ _ (Nat.le_refl _), Nat.sub_self, Nat.mul_zero, Nat.pow_zero, Nat.div_one]
  exact Nat.mod_eq_of_lt (wide_lt l)
theorem digs_lt (l : List UInt8) : ∀ d ∈ digs l, d < 64 := emit_lt _ _ _
end Mine
namespace Mine
/-- letters as figures to the base 16 -/
noncomputable def apVal (l : List UInt8) : Nat := l.foldl (fun a c => a * 16 + (c.toNat - 65)) 0
theorem apVal_snoc (l : List UInt8) (c : UInt8) : apVal (l ++ [c]) = apVal l * 16 + (c.toNat - 65) := by simp [apVal]
theorem apChar_toNat {d : Nat} (h : d < 16) : (apChar d).toNat = 65 + d := by
  unfold apChar
  show (65 + d) % 256 = _
  omega
theorem ap_val : ∀ (n : Nat), apVal (ap n) = n := by
  intro n
  induction n using Nat.strongRecOn with
  | ind n ih =>
    by_cases h : n = 0
    · subst h; rw [ap_zero]; rfl
    · rw [ap_pos h, apVal_snoc, ih (n / 16) (by omega), apChar_toNat (Nat.mod_lt _ (by decide))]
      omega
/-- each letter of the sixteen, and a beginning that is no nought -/
theorem ap_step : ∀ (n : Nat) (ds ds' : List UInt8) (c : UInt8), ap n = ds ++ c :: ds' → 65 ≤ c.toNat ∧ c.toNat ≤ 80 ∧ (65 < c.toNat ∨ 0 < apVal ds) := by
  intro n
  induction n using Nat.strongRecOn with
  | ind n ih =>
    intro ds ds' c e
    by_cases h : n = 0
    · subst h; rw [ap_zero] at e; simp at e
    · rw [ap_pos h] at e
      rcases List.eq_nil_or_concat ds' with rfl | ⟨r, x, rfl⟩
      · have e2 : ap (n / 16) = ds ∧ apChar (n % 16) = c := by
          have := List.append_inj' e rfl
          exact ⟨this.1, by simpa using this.2⟩
        obtain ⟨rfl, rfl⟩ := e2
        rw [apChar_toNat (Nat.mod_lt _ (by decide)), ap_val]
        omega
      · have e2 : ap (n / 16) = ds ++ c :: r := by
          have e3 : ds ++ c :: (r ++ [x]) = (ds ++ c :: r) ++ [x] := by simp
          rw [List.concat_eq_append, e3] at e
          exact (List.append_inj' e rfl).1
        exact ih (n / 16) (by omega) ds r c e2
end Mine
open PySem PySem.W PyProof.Rows
set_option Elab.async false
set_option maxRecDepth 100000
set_option maxHeartbeats 8000000
namespace Mine
open PySem PySem.Spec PySem.Calls PyProof.Rows PySem.W
theorem someInt {a b : Int} {t : Tok} (h : a = b) : some (Value.int a t) = some (Value.int b t) := by rw [h]
theorem someBytes {a b : List UInt8} {t : Tok} (h : a = b) : some (Value.bytes a.toArray t) = some (Value.bytes b.toArray t) := by rw [h]
noncomputable def bcut (l : List UInt8) (lo hi : Option Int) : List UInt8 := (l.drop (lo.elim 0 (clipAt l.length))).take (hi.elim l.length (clipAt l.length) - lo.elim 0 (clipAt l.length))
theorem bcut_take (l : List UInt8) (n : Nat) : bcut l none (some (n : Int)) = l.take n := by
  unfold bcut
  simp only [Option.elim, clipAt_nat, List.drop_zero, Nat.sub_zero]
  rcases Nat.le_total n l.length with h | h
  · rw [Nat.min_eq_left h]
  · rw [Nat.min_eq_right h, List.take_length, List.take_of_length_le h]
theorem bcut_drop (l : List UInt8) (n : Nat) : bcut l (some (n : Int)) none = l.drop n := by
  unfold bcut
  simp only [Option.elim, clipAt_nat]
  rcases Nat.le_total n l.length with h | h
  · rw [Nat.min_eq_left h]
    exact List.take_of_length_le (by simp)
  · rw [Nat.min_eq_right h, List.drop_length, List.drop_eq_nil_of_le h]; simp
theorem bcut_both (l : List UInt8) (a b : Nat) : bcut l (some (a : Int)) (some (b : Int)) = (l.drop a).take (b - a) := by
  unfold bcut
  simp only [Option.elim, clipAt_nat]
  rcases Nat.le_total a l.length with h | h
  · rw [Nat.min_eq_left h]
    rcases Nat.le_total b l.length with h' | h'
    · rw [Nat.min_eq_left h']
    · rw [Nat.min_eq_right h', List.take_of_length_le (by simp), List.take_of_length_le (by simp; omega)]
  · rw [Nat.min_eq_right h, List.drop_length, List.drop_eq_nil_of_le h]; simp
theorem bcut_last (l : List UInt8) : bcut l none (some (-1)) = l.take (l.length - 1) := by
  unfold bcut
  have := clipAt_neg l.length 1 (by decide)
  simp only [Option.elim, List.drop_zero, Nat.sub_zero]
  congr 1
theorem bcut_le (l : List UInt8) (lo hi : Option Int) : (bcut l lo hi).length ≤ l.length := by
  unfold bcut
  rw [List.length_take, List.length_drop]
  omega
noncomputable def bI (bs : List UInt8) : List Int := bs.map fun c => (c.toNat : Int)
theorem intsAre_snoc {vs : List Value} {bs : List UInt8} (h : IntsAre vs (bI bs)) (c : UInt8) (t : Tok) : IntsAre (vs ++ [.int (c.toNat : Int) t]) (bI (bs ++ [c])) := by
  have e : bI (bs ++ [c]) = bI bs ++ [(c.toNat : Int)] := by simp [bI]
  rw [e]
  generalize bI bs = ns at h
  induction h with
  | nil => exact .cons _ t .nil
  | cons n t' _ ih => exact .cons n t' ih
theorem bI_length (bs : List UInt8) : (bI bs).length = bs.length := by simp [bI]
theorem intsAre_len {vs : List Value} {bs : List UInt8} (h : IntsAre vs (bI bs)) : vs.length = bs.length := by rw [h.length, bI_length]
section
variable {prog : Program} {w : World} {A : Around} {E : Value → Shared → Prop} {s : Shared} {value slice : PySem.Expr} {l c : List UInt8} {t u : Tok} {h₀ : Heap} {L : Addr} {m : PySem.Str → Option Value} {news : List (Addr × Obj)} {lv uv : Value} {lo hi : Option Int}

theorem bslice {Q : Value → Shared → Prop} (hF : Fr h₀ L s.heap m) (hN : News h₀ L s.heap news) (hl : IsPart lv lo) (hu : IsPart uv hi) (hz : Hold (l.length ≤ 16777216))
    (h : ∀ h' t' k, Fr h₀ L h' m → News h₀ L h' news → Q (.bytes (bcut l lo hi).toArray t') { s with heap := h', toks := k })
    (hs : subscripted slice false (.bytes l.toArray t) (.ref s.heap.objs.size) = operate [.ref s.heap.objs.size, .bytes l.toArray t] (getItem (.bytes l.toArray t) (.ref s.heap.objs.size)) := by with_unfolding_all rfl)
    (ht : ∀ r, letTemporaryGo value (.bytes l.toArray t) r = pure () := by intro _; with_unfolding_all rfl) :
    wpAny (model prog w) A (subscriptTail value slice (.bytes l.toArray t) (.ref s.heap.objs.size)) Q E { s with heap := s.heap.push { cls := .type "slice", data := .fields #[lv, uv, .none] } } := by
  refine KBc.slice_K hF hN (ks := KBw.bInts l.toArray) rfl hl hu (by rw [KBw.ints_length]; simpa using hz.h) (fun h' t' k F N _ => ?_) hs ht
  rw [KBc.picked_eq]
  exact h h' t' k F N

theorem badd {Q : Value → Shared → Prop} (hz : Hold (l.length + c.length ≤ 16777216)) (h : ∀ t' k, Q (.bytes (l ++ c).toArray t') { s with toks := k }) :
    wpAny (model prog w) A (binaryOp .Add (.bytes l.toArray t) (.bytes c.toArray u)) Q E s :=
  bytes_add_K (by simpa using hz.h) rfl h
theorem blen {Q : Value → Shared → Prop} (hz : Hold (l.length ≤ 1099511627776)) (h : ∀ t' k, Q (.int (l.length : Nat) t') { s with toks := k }) : wpAny (model prog w) A (call (.builtin "len") [.bytes l.toArray t]) Q E s := by
  refine KBw.len_K (ks := KBw.bInts l.toArray) rfl (by rw [KBw.ints_length]; simpa using hz.h) ?_
  rw [KBw.ints_length]
  simpa using h _ _
theorem btruthy {Q : Bool → Shared → Prop} (hz : Hold (l.length ≤ 1099511627776)) (h : ∀ k, Q (decide (0 < l.length)) { s with toks := k }) : wpAny (model prog w) A (truthy (.bytes l.toArray t)) Q E s := by
  refine KBw.truthy_K (ks := KBw.bInts l.toArray) rfl (by rw [KBw.ints_length]; simpa using hz.h) ?_
  rw [KBw.ints_length]
  simpa using h _
theorem bitem {i : Int} {ui : Tok} {Q : Value → Shared → Prop} (hz : Hold (l.length ≤ 1099511627776 ∧ 0 ≤ i ∧ i < (l.length : Int))) (h : ∀ t' k, Q (.int (l.getD i.toNat 0).toNat t') { s with toks := k })
    (hs : subscripted slice false (.bytes l.toArray t) (.int i ui) = operate [.bytes l.toArray t, .int i ui] (getItem (.bytes l.toArray t) (.int i ui)) := by with_unfolding_all rfl)
    (ht : ∀ r, letTemporaryGo value (.bytes l.toArray t) r = pure () := by intro _; with_unfolding_all rfl) :
    wpAny (model prog w) A (subscriptTail value slice (.bytes l.toArray t) (.int i ui)) Q E s := KBy.item_N hz.h.1 hz.h.2.1 hz.h.2.2 (h _ _) hs ht
theorem lappend {D : Addr} {vs : List Value} {n : Nat} {x : Value} {news' : List (Addr × Obj)} {Q : Value → Shared → Prop} (F : Fr h₀ L s.heap m) (N : News h₀ L s.heap news) (U : Upd D (listOf vs.toArray n) (listOf (vs ++ [x]).toArray (n + 1)) news news') (hz : Hold (vs.length ≤ sizeLine))
    (h : ∀ h', Fr h₀ L h' m → News h₀ L h' news' → Q .none { s with heap := h' }) : wpAny (model prog w) A (call (.builtin "list.append") [.ref D, x]) Q E s := by
  have e : (vs ++ [x]).toArray = vs.toArray.push x := by simp
  rw [e] at U
  exact append_K F N U h (by simpa using hz.h)
theorem intBits_le {a : Int} {k : Nat} (h : a.natAbs < 2 ^ k) : (Builtin.Int.intBits a : Int) ≤ k := by
  unfold Builtin.Int.intBits
  split
  · omega
  · rename_i h0
    have hne : a.natAbs ≠ 0 := by
      intro e; apply h0; simp; omega
    have := (Nat.log2_lt hne).2 h
    omega
theorem shl {a n : Int} {Q : Value → Shared → Prop} (hz : Hold (0 ≤ n ∧ n ≤ 1000 ∧ a.natAbs < 2 ^ 1000)) (h : ∀ t' k, Q (.int (a * 2 ^ n.toNat) t') { s with toks := k }) : wpAny (model prog w) A (binaryOp .LShift (.int a t) (.int n u)) Q E s := by
  have hb := intBits_le hz.h.2.2
  exact lshift_int hz.h.1 (by have := hz.h.2.1; omega) (h _ _)
theorem bmake {D : Addr} {vs : List Value} {bs : List UInt8} {n : Nat} {Q : Value → Shared → Prop} (F : Fr h₀ L s.heap m) (N : News h₀ L s.heap news) (hm : (D, listOf vs.toArray n) ∈ news) (hi : IntsAre vs (bI bs)) (hz : bs.length ≤ 16777216) (hh : A.handled = none)
    (h : ∀ h' t' k, Fr h₀ L h' m → News h₀ L h' news → Q (.bytes bs.toArray t') { s with heap := h', toks := k }) : wpAny (model prog w) A (call (.type "bytes") [.ref D]) Q E s := by
  refine bytes_K F N ⟨_, (N _ hm).1, rfl, n, rfl⟩ hi ?_ (by rw [intsAre_len hi, sizeLine_eq]; exact hz) hh fun h' t' k F' N' _ => ?_
  · intro x hx
    obtain ⟨c, _, rfl⟩ := List.mem_map.mp hx
    have := c.toNat_lt
    omega
  · have e : (bI bs).map (fun n => n.toNat.toUInt8) = bs := by
      unfold bI
      rw [List.map_map]
      conv => rhs; rw [← List.map_id bs]
      refine List.map_congr_left fun c _ => ?_
      simp
    rw [e]
    exact h h' t' k F' N'
theorem bmul {n : Int} {Q : Value → Shared → Prop} (hz : Hold (l ≠ [] ∧ l.length ≤ 16 ∧ 0 ≤ n ∧ n ≤ 1000)) (h : ∀ t' k, Q (.bytes ((List.replicate n.toNat l).flatten).toArray t') { s with toks := k }) :
    wpAny (model prog w) A (binaryOp .Mult (.bytes l.toArray t) (.int n u)) Q E s :=
  bytes_mul_any hz.h.1 (by have := hz.h.2.2.1; omega) (by have := hz.h.2.2.2; omega) hz.h.2.1 h
theorem ipow {a n : Int} {Q : Value → Shared → Prop} (hz : Hold (0 ≤ n ∧ n ≤ 100000 ∧ a.natAbs < 2 ^ 1000)) (h : ∀ t' k, Q (.int (a ^ n.toNat) t') { s with toks := k }) : wpAny (model prog w) A (binaryOp .Pow (.int a t) (.int n u)) Q E s := by
  have hb := intBits_le hz.h.2.2
  refine pow_int hz.h.1 ?_ (h _ _)
  have h1 := hz.h.1
  have h2 := hz.h.2.1
  have h3 : (Builtin.Int.intBits a : Int) * n ≤ 1000 * n := Int.mul_le_mul_of_nonneg_right hb h1
  omega
theorem idiv {a b : Int} {Q : Value → Shared → Prop} (hz : Hold (b ≠ 0 ∧ b.natAbs.log2 < 9000)) (h : ∀ t' k, Q (.int (a.fdiv b) t') { s with toks := k }) : wpAny (model prog w) A (binaryOp .FloorDiv (.int a t) (.int b u)) Q E s :=
  floordiv_int hz.h.1 (h _ _) (Or.inl (PyProof.noPylong_of_log2 hz.h.2))
theorem imod {a b : Int} {Q : Value → Shared → Prop} (hz : Hold (b ≠ 0)) (h : ∀ t' k, Q (.int (a.fmod b) t') { s with toks := k }) : wpAny (model prog w) A (binaryOp .Mod (.int a t) (.int b u)) Q E s :=
  mod_int' hz.h (h _ _)
theorem ltype {a : Addr} {vs : List Value} {n : Nat} {Q : Value → Shared → Prop} (F : Fr h₀ L s.heap m) (ha : h₀.get? a = some (listOf vs.toArray n)) (h : Q (.type "list") s) : wpAny (model prog w) A (call (.type "type") [.ref a]) Q E s :=
  call_type_of (⟨_, F.keep _ _ ha, rfl⟩) (by decide) h
theorem btype {b : Array UInt8} {Q : Value → Shared → Prop} (h : Q (.type "bytes") s) : wpAny (model prog w) A (call (.type "type") [.bytes b t]) Q E s :=
  call_type_of (typeIs_bytes _ _ _) (by decide) h
end
end Mine
open PySem PySem.W PyProof.Rows
set_option Elab.async false
set_option maxRecDepth 100000
set_option maxHeartbeats 8000000
namespace Mine
open PySem PySem.Spec PySem.Calls PyProof.Rows PySem.W
local macro_rules | `(tactic| walk_at "MY fill") => `(tactic| (have hfill : PySem.Challenge.rw_ny0058_01 = PySem.Challenge.rw_ny0058_01 ∧ Mine.hd.heap_39 = Mine.hd.heap_39 := by { k_fill; exact ⟨rfl, rfl⟩ }; clear hfill))
local macro_rules | `(tactic| walk_at "MY all") => `(tactic| repeat' (first | exact List.forall_mem_nil _ | refine List.forall_mem_cons.mpr ⟨by first | rfl | assumption | (simp; done), ?_⟩))
local macro_rules | `(tactic| walk_at "MY enter") => `(tactic| (k_dflt (refine' enter ?ps ?kC ?k6 ?k7 ?k8 ?k9 ?kB ?hps ?_ ?c2 ?c3 ?c4 ?c5; (case kC => assumption); (case k6 => k_is); (case k7 => k_is); (case k8 => first | assumption | omega); (case k9 => first | exact BindsTo.of_eq rfl | exact binds_K (by k_in) rfl (by k_is) rfl rfl rfl); (case c5 => decide); (case kB => exact locs rfl); (case c2 => exact rfl); (case c3 => exact rfl); (case c4 => exact rfl))))
local macro_rules | `(tactic| walk_at "MY steps") => `(tactic| repeat' (first | (k_unfold; (try dsimp only)) | (k_unmd; k_unfold; (try dsimp only)) | ((with_reducible show wpAny _ _ (call _ (_ ++ _)) _ _ _); dsimp only [List.nil_append, List.cons_append]; walk1) | walk1 | (dsimp only; walk1) | (dsimp only [List.nil_append, List.cons_append]; walk1) | dsimp only | fail "no step"))
local macro_rules | `(tactic| walk_at "subscriptTail") => `(tactic| (k_here; (with_reducible show wpAny _ _ (subscriptTail _ _ (Value.bytes (List.toArray _) _) (Value.int _ _)) _ _ _); k_dflt (refine bitem ?_ ?_); rotate_left; intro _ _; rotate_left))
local macro_rules | `(tactic| walk_at "subscriptTail") => `(tactic| (k_here; (with_reducible show wpAny _ _ (subscriptTail _ (Expr.Slice _ _ none _) (Value.bytes (List.toArray _) _) (Value.ref _)) _ _ _); (with_reducible rename Fr _ _ _ _ => F'); (with_reducible rename News _ _ _ _ => N'); k_dflt (refine bslice (s := ⟨_, _, _, _, _⟩) F' N' (by constructor) (by constructor) ?_ ?_); rotate_left; (intro _ _ _ _ _); (try k_sweep); rotate_left))
local macro_rules | `(tactic| walk_at "binaryOp Add bytes bytes") => `(tactic| (k_here; (with_reducible show wpAny _ _ (binaryOp Operator.Add (Value.bytes (List.toArray _) _) (Value.bytes (List.toArray _) _)) _ _ _); k_dflt (refine badd ?_ ?_); rotate_left; intro _ _; rotate_left))
local macro_rules | `(tactic| walk_at "call builtin:len") => `(tactic| (k_here; (with_reducible show wpAny _ _ (call (Value.builtin "len") [Value.bytes (List.toArray _) _]) _ _ _); k_dflt (refine blen ?_ ?_); rotate_left; intro _ _; rotate_left))
local macro_rules | `(tactic| walk_at "truthy bytes") => `(tactic| (k_here; (with_reducible show wpAny _ _ (truthy (Value.bytes (List.toArray _) _)) _ _ _); k_dflt (refine btruthy ?_ ?_); rotate_left; intro _; rotate_left))
local macro_rules | `(tactic| walk_at "MY go") => `(tactic| ((try dsimp only); (try k_unmd); (try k_fold); walk_at "MY steps"))
local macro_rules | `(tactic| walk_at "call type:type") => `(tactic| (k_here; (with_reducible show wpAny _ _ (call (Value.type "type") [Value.bytes _ _]) _ _ _); refine btype ?_))
local macro_rules | `(tactic| walk_at "call builtin:list.append") => `(tactic| (k_here; (with_reducible show wpAny _ _ (call (Value.builtin _) [Value.ref _, _]) _ _ _); k_dflt (refine' lappend ?k1 ?k2 ?k3 ?_ ?_; (case k1 => k_asm); (case k2 => k_asm); (case k3 => k_upd)); rotate_left; (intro h' F' N'); (try k_sweep); rotate_left))
local macro_rules | `(tactic| walk_at "MY cx") => `(tactic| exact Cx.keeps ⟨by assumption, by assumption⟩ (Fr.keep (by assumption)))
local macro_rules | `(tactic| walk_at "MY room") => `(tactic| (refine ⟨rfl, ?_, ?_⟩ <;> ((try dsimp only [Around.deeper] at *); omega)))
local macro_rules | `(tactic| walk_at "MY back") => `(tactic| ((rename Heap.StaysIn _ _ => st'); (rename Fr _ _ _ _ => oF'); (rename News _ _ _ _ => oN'); (have F' := Fr.keeps oF' st'); (have N' := News.grown oN' st'); clear st' oF' oN'))
local macro_rules | `(tactic| walk_at "binaryOp LShift int int") => `(tactic| (k_here; (with_reducible show wpAny _ _ (binaryOp Operator.LShift (Value.int _ _) (Value.int _ _)) _ _ _); k_dflt (refine shl ?_ ?_); rotate_left; intro _ _; rotate_left))
section
open PySem PySem.W PyProof.Rows
set_option Elab.async false
set_option maxRecDepth 100000
set_option maxHeartbeats 8000000
open PySem PySem.Spec PySem.Calls PyProof.Rows PySem.W
local macro_rules | `(tactic| walk_at "exec While Name cons nil") => `(tactic| refine Hold.h ?_)

theorem ap_slice (num : Nat) : List.take
    ((some ((num : Int).fmod 16 + 1)).elim [65, 66, 67, 68, 69, 70, 71, 72, 73, 74, 75, 76, 77, 78, 79, 80].length
        (clipAt ([65, 66, 67, 68, 69, 70, 71, 72, 73, 74, 75, 76, 77, 78, 79, 80] : List UInt8).length) -
      (some ((num : Int).fmod 16)).elim 0 (clipAt ([65, 66, 67, 68, 69, 70, 71, 72, 73, 74, 75, 76, 77, 78, 79, 80] : List UInt8).length))
    (List.drop ((some ((num : Int).fmod 16)).elim 0 (clipAt ([65, 66, 67, 68, 69, 70, 71, 72, 73, 74, 75, 76, 77, 78, 79, 80] : List UInt8).length))
      ([65, 66, 67, 68, 69, 70, 71, 72, 73, 74, 75, 76, 77, 78, 79, 80] : List UInt8)) = [apChar (num % 16)] := by
  have e : (num : Int).fmod 16 = ((num % 16 : Nat) : Int) := by
    rw [Int.fmod_eq_emod_of_nonneg _ (by decide)]; rfl
  have e2 : ((num % 16 : Nat) : Int) + 1 = ((num % 16 + 1 : Nat) : Int) := rfl
  rw [e, e2]
  simp only [Option.elim, clipAt_nat]
  have h : num % 16 < 16 := Nat.mod_lt _ (by decide)
  generalize num % 16 = d at h
  revert d
  decide

theorem int2ap {prog : Program} {w : World} {A : Around} {s : Shared} {mean mg mb} {n : Nat} {t : Tok} {Q : Value → Shared → Prop} {E : Value → Shared → Prop} (C : Cx w mean mg mb s.heap) (hr : Room A 0 0) (hb : (ap n).length ≤ 1000000)
    (h : ∀ h' t' k, s.heap.StaysIn h' → Q (.bytes (ap n).toArray t') { s with heap := h', toks := k }) : wpAny (model prog w) A (call (.ref 92) [.int n t]) Q E s := by
  walk_at "MY fill"
  obtain ⟨hn0, dp, fr, gd, un⟩ := A
  obtain ⟨hh, hr, hu⟩ := hr
  obtain rfl : hn0 = none := hh
  walk_at "MY enter"
  case ps => exact [("num", .int n t)]
  case hps => walk_at "MY all"
  intro g L h₁ u tk hg F N X T
  w_on
  walk_at "MY go"
  refine ⟨?_⟩
  rename Fr _ _ _ _ => F
  rename News _ _ _ _ => N
  have e0 : (if (n : Int) < 0 then -(n : Int) else (n : Int)) = n := if_neg (by omega)
  rw [e0] at F
  refine my_while (σ := Int × List UInt8 × Tok × Tok × Tok) (fun _ => []) (fun c => [("num", .int c.1 c.2.2.1), ("val", .bytes c.2.1.toArray c.2.2.2.1), ("AP", .bytes #[65, 66, 67, 68, 69, 70, 71, 72, 73, 74, 75, 76, 77, 78, 79, 80] c.2.2.2.2)]) (fun c => ∃ k : Nat, c.1 = k ∧ ap n = ap k ++ c.2.1) (fun c => c.1.toNat) (n, [], ?t1, ?t2, ?t3) F N (fun _ hp => nomatch hp) ?hk ?hp ?turn
  case hk => walk_at "MY all"
  case hp => exact ⟨n, rfl, by simp⟩
  case turn =>
    clear F N
    rintro ⟨num', val, t1, t2, t3⟩ u h' tk ⟨num, hnum, hv⟩ F N
    dsimp only at F N hv hnum
    subst hnum
    have hlen := congrArg List.length hv
    rw [List.length_append] at hlen
    walk_at "MY go"
    · exact ⟨by decide⟩
    · exact ⟨Nat.le_trans (Nat.le_of_eq (congrArg (fun z : List UInt8 => z.length + val.length) (ap_slice num))) (by simp; omega)⟩
    · rename Fr _ _ _ _ => F
      rename News _ _ _ _ => N
      rename (num : Int) ≠ 0 => hn
      have e1 : (num : Int).fdiv 16 = ((num / 16 : Nat) : Int) := by
        rw [Int.fdiv_eq_ediv_of_nonneg _ (by decide)]; rfl
      have hn' : num ≠ 0 := by omega
      refine StEnd.mk (?_, ?_, ?_, ?_, ?_) F N (fun _ hp => nomatch hp) ?_ ?_
      rotate_left 5
      · walk_at "MY all"
      · refine ⟨⟨num / 16, e1, hv.trans ?_⟩, ?_⟩
        · refine Eq.trans ?_ (congrArg (fun z : List UInt8 => ap (num / 16) ++ (z ++ val)) (ap_slice num)).symm
          rw [ap_pos hn']; simp
        · have : ((num : Int).fdiv 16).toNat < (num : Int).toNat := by rw [e1]; omega
          exact this
    · have hn' : num = 0 := by omega
      subst hn'
      rw [ap_zero, List.nil_append] at hv
      rw [← hv]
      subst hg
      exact h _ _ _ F.keep
end
section
open PySem PySem.W PyProof.Rows
set_option Elab.async false
set_option maxRecDepth 100000
set_option maxHeartbeats 8000000
open PySem PySem.Spec PySem.Calls PyProof.Rows PySem.W

theorem buffer_ {prog : Program} {w : World} {A : Around} {s : Shared} {mean mg mb} {l : List UInt8} {t : Tok} {Q : Value → Shared → Prop} {E : Value → Shared → Prop} (C : Cx w mean mg mb s.heap) (hr : Room A 0 0)
    (h : ∀ h' k, s.heap.StaysIn h' → Q (.bytes l.toArray t) { s with heap := h', toks := k }) : wpAny (model prog w) A (call (.ref 28) [.bytes l.toArray t]) Q E s := by
  walk_at "MY fill"
  obtain ⟨hn0, dp, fr, gd, un⟩ := A
  obtain ⟨hh, hr, hu⟩ := hr
  obtain rfl : hn0 = none := hh
  walk_at "MY enter"
  case ps => exact [("data", .bytes l.toArray t)]
  case hps => walk_at "MY all"
  intro g L h₁ u tk hg F N X T
  w_on
  walk_at "MY go"
  trace_state
  subst hg
  rename Fr _ _ _ _ => F
  exact h _ _ F.keep
theorem truth_ {prog : Program} {w : World} {A : Around} {s : Shared} {mean mg mb} {b : Bool} {Q : Value → Shared → Prop} {E : Value → Shared → Prop} (C : Cx w mean mg mb s.heap) (hr : Room A 0 0)
    (h : ∀ h' k, s.heap.StaysIn h' → Q (.bool b) { s with heap := h', toks := k }) : wpAny (model prog w) A (call (.ref 35) [.bool b]) Q E s := by
  walk_at "MY fill"
  obtain ⟨hn0, dp, fr, gd, un⟩ := A
  obtain ⟨hh, hr, hu⟩ := hr
  obtain rfl : hn0 = none := hh
  walk_at "MY enter"
  case ps => exact [("x", .bool b)]
  case hps => walk_at "MY all"
  intro g L h₁ u tk hg F N X T
  w_on
  walk_at "MY go"
  · subst hg
    rename Fr _ _ _ _ => F
    rename b = true => hb
    rw [← hb]
    exact h _ _ F.keep
  · subst hg
    rename Fr _ _ _ _ => F
    have hb : b = false := by cases b <;> simp_all
    rw [← hb]
    exact h _ _ F.keep
end
section
open PySem PySem.W PyProof.Rows
set_option Elab.async false
set_option maxRecDepth 100000
set_option maxHeartbeats 8000000
open PySem PySem.Spec PySem.Calls PyProof.Rows PySem.W
local macro_rules | `(tactic| walk_at "exec While Compare cons nil") => `(tactic| refine Hold.h ?_)
local macro_rules | `(tactic| walk_at "pyIter bytes") => `(tactic| refine Hold.h ?_)
local macro_rules | `(tactic| walk_at "call type:bytes") => `(tactic| refine Hold.h ?_)
local macro_rules | `(tactic| walk_at "exec For Name Name cons nil") => `(tactic| (k_here; (rename Fr _ _ _ _ => lF'); (with_unfolding_all refine' For_invVF lF' ?k1 ?k2 ?_; (case k1 => exact rfl); (case k2 => exact rfl); k_whole)))
local macro_rules | `(tactic| walk_at "call ref") => `(tactic| ((with_reducible show wpAny _ _ (call (Value.ref 28) [Value.bytes (List.toArray _) _]) _ _ _); k_dflt (refine' buffer_ ?k1 ?k2 ?_; (case k1 => walk_at "MY cx"); (case k2 => walk_at "MY room")); (intro _ _ _); walk_at "MY back"))
local macro_rules | `(tactic| walk_at "call ref") => `(tactic| ((with_reducible show wpAny _ _ (call (Value.ref 35) [Value.bool _]) _ _ _); k_dflt (refine' truth_ ?k1 ?k2 ?_; (case k1 => walk_at "MY cx"); (case k2 => walk_at "MY room")); (intro _ _ _); walk_at "MY back"))

theorem b2a_char (c b : Nat) (hb : b < 256) : Builtin.bitAnd (Builtin.bitOr ((c : Int) * 2 ^ Int.toNat 8) (b : Int)) 65535 = (((c * 256 + b) % 65536 : Nat) : Int) := by
  rw [bitAnd_m16]
  have e1 : (c : Int) * 2 ^ Int.toNat 8 = ((256 * c : Nat) : Int) := by
    show (c : Int) * 256 = _
    omega
  rw [e1, bitOr_and, bitAnd_pp (by omega) (by omega)]
  have e2 : (((256 * c : Nat) : Int).toNat &&& ((b : Nat) : Int).toNat) = 0 := by
    simp only [Int.toNat_natCast]
    have h1 := nat_or_add_and (256 * c) b
    have h2 : 256 * c + b = 256 * c ||| b := Nat.two_pow_add_eq_or_of_lt (i := 8) hb c
    omega
  rw [e2]
  omega
theorem b2a_idx (V n k : Nat) (lb : Int) (h : lb = ((n - 6 * k : Nat) : Int)) (h1 : n - 6 * k ≤ 12) (h2 : 6 ≤ lb) : Builtin.bitAnd (((V % 65536 : Nat) : Int).fdiv (2 ^ (lb - 6).toNat)) 63 = ((V / 2 ^ (n - 6 * (k + 1)) % 64 : Nat) : Int) := by
  have e : (lb - 6).toNat = n - 6 * (k + 1) := by omega
  rw [e, bitAnd_m6, Int.fdiv_eq_ediv_of_nonneg _ (Int.le_of_lt (kbt_pos _)), ← kbt_cast]
  rw [← emit_sign V n k (n - 6 * (k + 1)) rfl (by omega)]
  rfl

theorem b2a {prog : Program} {w : World} {A : Around} {s : Shared} {mean mg mb} {l : List UInt8} {t : Tok} {nl : Bool} {kw : List (Str × Value)} {Q : Value → Shared → Prop} {E : Value → Shared → Prop} (C : Cx w mean mg mb s.heap) (hr : Room A 1 10)
    (hkw : kw = ([(Str.ofString "newline", Value.bool nl)] : List (Str × Value)) ∨ (kw = [] ∧ nl = true)) (hlen : l.length ≤ 100000)
    (h : ∀ h' t' k, s.heap.StaysIn h' → Q (.bytes (b64 l ++ if nl then [10] else []).toArray t') { s with heap := h', toks := k })
    : wpAny (model prog w) A (call (.ref 43) [.bytes l.toArray t] kw) Q E s := by
  walk_at "MY fill"
  obtain ⟨hn0, dp, fr, gd, un⟩ := A
  obtain ⟨hh, hr, hu⟩ := hr
  obtain rfl : hn0 = none := hh
  k_dflt (refine' enter (binds := [("data", .bytes l.toArray t), ("newline", .bool nl)]) [("data", .bytes l.toArray t), ("newline", .bool nl)] C ?k6 ?k7 ?k8 ?k9 ?kB ?hps ?_ ?c2 ?c3 ?c4 ?c5; (case k6 => k_is); (case k7 => k_is); (case k8 => omega);  (case c5 => decide); (case kB => exact locs rfl); (case c2 => exact rfl); (case c3 => exact rfl); (case c4 => exact rfl))
  case k9 =>
    rcases hkw with rfl | ⟨rfl, rfl⟩
    · exact BindsTo.of_eq rfl
    · k_dflt (refine' binds_load (T := 36) C.1 ?ho ?h1 ?h2; (case ho => k_is); (case h1 => with_unfolding_all exact rfl); (case h2 => with_unfolding_all exact rfl))
  case hps => walk_at "MY all"
  clear hkw
  have fin : ∀ (bs : List UInt8), bs = (b64 l ++ if nl then [10] else []) → ∀ h' t' k, s.heap.StaysIn h' → Q (.bytes bs.toArray t') { s with heap := h', toks := k } := by
    rintro bs rfl
    exact h
  clear h
  intro g L h₁ u tk hg F N X T
  w_on
  walk_at "MY go"
  refine ⟨?_⟩
  rename_i D h3 l1 h2 h1 h0 F N
  refine for_bytes (σ := List Value × Nat × Int × Int × Tok × Tok) (L := L) rfl (fun c => [(D, listOf c.1.toArray c.2.1)]) (fun c => [("out", .ref D), ("leftbits", .int c.2.2.1 c.2.2.2.2.1), ("leftchar", .int c.2.2.2.1 c.2.2.2.2.2), ("newline", .bool nl)])
    (fun i c => c.2.2.1 = ((8 * i % 6 : Nat) : Int) ∧ c.2.2.2.1 = ((val256 (l.take i) % 65536 : Nat) : Int) ∧ IntsAre c.1 (bI ((emit (val256 (l.take i)) (8 * i) (8 * i / 6)).map sign))) ([], 0, 0, 0, ?_, ?_) rfl F N ?hl ?hk ?hp ?turn ?done
  case hl => exact fun _ h => h
  case hk => walk_at "MY all"
  case hp => exact ⟨rfl, rfl, .nil⟩
  case turn =>
    clear F N
    rintro i b tv ⟨vs, n, lb, lc, t1, t2⟩ oI u h' tk hi ⟨h01, h02, h03⟩ hne F N
    dsimp only at F N hne h01 h02 h03
    have hb := b.toNat_lt
    have hil : i < l.length := by
      rcases Nat.lt_or_ge i l.length with q | q
      · exact q
      · rw [List.getElem?_eq_none q] at hi; cases hi
    have hV : val256 (l.take (i + 1)) = val256 (l.take i) * 256 + b.toNat := by
      rw [List.take_add_one, hi]; exact val256_snoc _ _
    have hDI := neN (hne _ (.head _))
    dsimp only at hDI
    subst h01 h02
    walk_at "MY go"
    · refine ⟨by decide, by decide, ?_⟩
      exact Nat.lt_of_lt_of_le (Nat.mod_lt (val256 (l.take i)) (show 0 < 65536 by decide)) (Nat.pow_le_pow_right (show 0 < 2 by decide) (show 16 ≤ 1000 by decide))
    · refine ⟨?_⟩
      (try dsimp only)
      rename Fr _ _ _ _ => F
      rename News _ _ _ _ => N
      refine my_while (σ := List Value × Nat × Int × Int × Tok × Tok) (fun c => [(_, oI), (D, listOf c.1.toArray c.2.1)]) (fun c => [("out", .ref D), ("leftbits", .int c.2.2.1 c.2.2.2.2.1), ("leftchar", .int c.2.2.2.1 c.2.2.2.2.2), ("newline", .bool nl)])
        (fun c => ∃ k : Nat, 6 * k ≤ 8 * (i + 1) ∧ 8 * (i + 1) - 6 * k ≤ 12 ∧ c.2.2.1 = ((8 * (i + 1) - 6 * k : Nat) : Int) ∧ c.2.2.2.1 = ((val256 (l.take (i + 1)) % 65536 : Nat) : Int) ∧ IntsAre c.1 (bI ((emit (val256 (l.take (i + 1))) (8 * (i + 1)) k).map sign)))
        (fun c => c.2.2.1.toNat) (vs, n, ?_, ?_, ?_, ?_) F N (fun _ h => h) ?hk2 ?hp2 ?turn2
      case hk2 => walk_at "MY all"
      case hp2 =>
        refine ⟨8 * i / 6, by omega, by omega, ?_, ?_, ?_⟩
        · show ((8 * i % 6 : Nat) : Int) + 8 = _
          omega
        · refine (b2a_char _ _ hb).trans ?_
          rw [hV]
          omega
        · have e := emit_shift (val256 (l.take i)) b.toNat (8 * i) 8 (8 * i / 6) (by omega) hb
          rw [hV]
          show IntsAre vs (bI ((emit (val256 (l.take i) * 2 ^ 8 + b.toNat) (8 * i + 8) (8 * i / 6)).map sign))
          rw [e]
          exact h03
      case turn2 =>
        clear F N h03
        rintro ⟨vs, n, lb, lc, t1, t2⟩ u h' tk ⟨k, hk1, hk2, hk3, hk4, hk5⟩ F N
        dsimp only at F N hk3 hk4 hk5
        have hln := intsAre_len hk5
        rw [List.length_map, emit_length] at hln
        walk_at "MY go"
        · have e := b2a_idx (val256 (l.take (i + 1))) (8 * (i + 1)) k lb hk3 hk2 (by omega)
          rw [← hk4] at e
          refine ⟨by decide, ?_, ?_⟩
          · rw [e]; omega
          · rw [e]
            have := Nat.mod_lt (val256 (l.take (i + 1)) / 2 ^ (8 * (i + 1) - 6 * (k + 1))) (show 0 < 64 by decide)
            show _ < (64 : Int)
            omega
        · refine ⟨?_⟩
          rw [sizeLine_eq]; omega
        · rename Fr _ _ _ _ => F
          rename News _ _ _ _ => N
          have e := b2a_idx (val256 (l.take (i + 1))) (8 * (i + 1)) k lb hk3 hk2 (by omega)
          rw [← hk4] at e
          refine' StEnd.mk (_, _, _, _, _, _) F N (fun _ h => h) ?hA ?hB
          case hA => walk_at "MY all"
          case hB =>
            refine ⟨⟨k + 1, by omega, by omega, ?_, hk4, ?_⟩, ?_⟩
            · show lb - 6 = _
              omega
            · rw [emit_succ, List.map_append]
              have e8 : alpha.getD (Builtin.bitAnd (lc.fdiv (2 ^ (lb - 6).toNat)) 63).toNat 0 = sign (val256 (l.take (i + 1)) / 2 ^ (8 * (i + 1) - 6 * (k + 1)) % 64) := by
                rw [e]; rfl
              have e9 : ∀ t', IntsAre (vs ++ [.int ((alpha.getD (Builtin.bitAnd (lc.fdiv (2 ^ (lb - 6).toNat)) 63).toNat 0).toNat : Int) t']) (bI ((emit (val256 (l.take (i + 1))) (8 * (i + 1)) k).map sign ++ [sign (val256 (l.take (i + 1)) / 2 ^ (8 * (i + 1) - 6 * (k + 1)) % 64)])) := by
                intro t'
                rw [e8]
                exact intsAre_snoc hk5 _ t'
              exact e9 _
            · show (lb - 6).toNat < lb.toNat
              omega
        · rename Fr _ _ _ _ => F
          rename News _ _ _ _ => N
          have hk6 : k = 8 * (i + 1) / 6 := by omega
          subst hk6
          refine' StEnd.mk (_, _, _, _, _, _) F N (fun _ h => h) ?hA ?hB
          case hA => walk_at "MY all"
          case hB => exact ⟨⟨by show lb = _; omega, hk4, hk5⟩, fun p hp => by rw [List.mem_singleton.mp hp]; exact hDI⟩
  case done =>
    clear F N
    rintro ⟨vs, n, lb, lc, t1, t2⟩ u h' tk ⟨h01, h02, h03⟩ F N
    dsimp only at F N h01 h02 h03
    rw [List.take_length] at h02 h03
    have hln := intsAre_len h03
    rw [List.length_map, emit_length] at hln
    have z2 : ∀ t', 8 * l.length % 6 = 2 → IntsAre (vs ++ [.int ((alpha.getD (Builtin.bitAnd lc 3 * 2 ^ Int.toNat 4).toNat 0).toNat : Int) t']) (bI ((emit (val256 l) (8 * l.length) (8 * l.length / 6) ++ [val256 l % 4 * 16]).map sign)) := by
      intro t' _
      have e : (Builtin.bitAnd lc 3 * 2 ^ Int.toNat 4).toNat = val256 l % 4 * 16 := by
        rw [h02, bitAnd_m2]
        show (_ * (16 : Int)).toNat = _
        omega
      rw [e, List.map_append]
      exact intsAre_snoc h03 _ t'
    have z4 : ∀ t', 8 * l.length % 6 = 4 → IntsAre (vs ++ [.int ((alpha.getD (Builtin.bitAnd lc 15 * 2 ^ Int.toNat 2).toNat 0).toNat : Int) t']) (bI ((emit (val256 l) (8 * l.length) (8 * l.length / 6) ++ [val256 l % 16 * 4]).map sign)) := by
      intro t' _
      have e : (Builtin.bitAnd lc 15 * 2 ^ Int.toNat 2).toNat = val256 l % 16 * 4 := by
        rw [h02, bitAnd_m4]
        show (_ * (4 : Int)).toNat = _
        omega
      rw [e, List.map_append]
      exact intsAre_snoc h03 _ t'
    walk_at "MY go"
    · refine ⟨by decide, by decide, ?_⟩
      have := bitAnd_range lc (y := 3) (by decide)
      exact Nat.lt_of_lt_of_le (show (Builtin.bitAnd lc 3).natAbs < 2 ^ 16 by omega) (Nat.pow_le_pow_right (by decide) (by decide))
    · have e : Builtin.bitAnd lc 3 * 2 ^ Int.toNat 4 = ((val256 l % 4 * 16 : Nat) : Int) := by
        rw [h02, bitAnd_m2]
        show _ * (16 : Int) = _
        omega
      refine ⟨by decide, ?_, ?_⟩
      · rw [e]; omega
      · rw [e]; show _ < (64 : Int); omega
    · refine ⟨?_⟩; rw [sizeLine_eq]; omega
    · refine ⟨?_⟩; rw [sizeLine_eq]; simp only [List.length_append, List.length_cons, List.length_nil]; omega
    · refine ⟨?_⟩; rw [sizeLine_eq]; simp only [List.length_append, List.length_cons, List.length_nil]; omega
    · refine ⟨?_⟩; rw [sizeLine_eq]; simp only [List.length_append, List.length_cons, List.length_nil]; omega
    · refine ⟨?_⟩
      rename nl = true => hnl
      have hm2 : 8 * l.length % 6 = 2 := by omega
      rename Fr _ _ _ _ => F
      rename News _ _ _ _ => N
      refine bmake F N (.head _) (intsAre_snoc (intsAre_snoc (intsAre_snoc (z2 _ hm2) 61 _) 61 _) 10 _) (by simp [emit_length]; omega) rfl ?_
      intro h' t' k F' N'
      walk_at "MY steps"
      subst hg
      refine fin _ ?_ _ _ _ F'.keep
      rw [b64_2 hm2, hnl]
      simp
    · refine ⟨?_⟩
      have hnl : nl = false := by cases nl <;> simp_all
      have hm2 : 8 * l.length % 6 = 2 := by omega
      rename Fr _ _ _ _ => F
      rename News _ _ _ _ => N
      refine bmake F N (.head _) (intsAre_snoc (intsAre_snoc (z2 _ hm2) 61 _) 61 _) (by simp [emit_length]; omega) rfl ?_
      intro h' t' k F' N'
      walk_at "MY steps"
      subst hg
      refine fin _ ?_ _ _ _ F'.keep
      rw [b64_2 hm2, hnl]
      simp
    · refine ⟨by decide, by decide, ?_⟩
      have := bitAnd_range lc (y := 15) (by decide)
      exact Nat.lt_of_lt_of_le (show (Builtin.bitAnd lc 15).natAbs < 2 ^ 16 by omega) (Nat.pow_le_pow_right (by decide) (by decide))
    · have e : Builtin.bitAnd lc 15 * 2 ^ Int.toNat 2 = ((val256 l % 16 * 4 : Nat) : Int) := by
        rw [h02, bitAnd_m4]
        show _ * (4 : Int) = _
        omega
      refine ⟨by decide, ?_, ?_⟩
      · rw [e]; omega
      · rw [e]; show _ < (64 : Int); omega
    · refine ⟨?_⟩; rw [sizeLine_eq]; omega
    · refine ⟨?_⟩; rw [sizeLine_eq]; simp only [List.length_append, List.length_cons, List.length_nil]; omega
    · refine ⟨?_⟩; rw [sizeLine_eq]; simp only [List.length_append, List.length_cons, List.length_nil]; omega
    · refine ⟨?_⟩
      rename nl = true => hnl
      have hm2 : 8 * l.length % 6 = 4 := by omega
      rename Fr _ _ _ _ => F
      rename News _ _ _ _ => N
      refine bmake F N (.head _) (intsAre_snoc (intsAre_snoc (z4 _ hm2) 61 _) 10 _) (by simp [emit_length]; omega) rfl ?_
      intro h' t' k F' N'
      walk_at "MY steps"
      subst hg
      refine fin _ ?_ _ _ _ F'.keep
      rw [b64_4 hm2, hnl]
      simp
    · refine ⟨?_⟩
      have hnl : nl = false := by cases nl <;> simp_all
      have hm2 : 8 * l.length % 6 = 4 := by omega
      rename Fr _ _ _ _ => F
      rename News _ _ _ _ => N
      refine bmake F N (.head _) (intsAre_snoc (z4 _ hm2) 61 _) (by simp [emit_length]; omega) rfl ?_
      intro h' t' k F' N'
      walk_at "MY steps"
      subst hg
      refine fin _ ?_ _ _ _ F'.keep
      rw [b64_4 hm2, hnl]
      simp
    · refine ⟨?_⟩; rw [sizeLine_eq]; omega
    · refine ⟨?_⟩
      rename nl = true => hnl
      have hm2 : 8 * l.length % 6 = 0 := by omega
      rename Fr _ _ _ _ => F
      rename News _ _ _ _ => N
      refine bmake F N (.head _) (intsAre_snoc h03 10 _) (by simp [emit_length]; omega) rfl ?_
      intro h' t' k F' N'
      walk_at "MY steps"
      subst hg
      refine fin _ ?_ _ _ _ F'.keep
      rw [b64_0 hm2, hnl]
      simp
    · refine ⟨?_⟩
      have hnl : nl = false := by cases nl <;> simp_all
      have hm2 : 8 * l.length % 6 = 0 := by omega
      rename Fr _ _ _ _ => F
      rename News _ _ _ _ => N
      refine bmake F N (.head _) h03 (by simp [emit_length]; omega) rfl ?_
      intro h' t' k F' N'
      walk_at "MY steps"
      subst hg
      refine fin _ ?_ _ _ _ F'.keep
      rw [b64_0 hm2, hnl]
      simp
end
section
open PySem PySem.W PyProof.Rows
set_option Elab.async false
set_option maxRecDepth 100000
set_option maxHeartbeats 8000000
open PySem PySem.Spec PySem.Calls PyProof.Rows PySem.W
local macro_rules | `(tactic| walk_at "call ref") => `(tactic| ((with_reducible show wpAny _ _ (call (Value.ref 43) [Value.bytes (List.toArray _) _] _) _ _ _); k_dflt (refine' b2a ?k1 ?k2 ?k3 ?k4 ?_; (case k1 => walk_at "MY cx"); (case k2 => walk_at "MY room"); (case k3 => exact .inl rfl); (case k4 => assumption)); (intro _ _ _ _); walk_at "MY back"))
theorem b64enc {prog : Program} {w : World} {A : Around} {s : Shared} {mean mg mb} {l : List UInt8} {t : Tok} {Q : Value → Shared → Prop} {E : Value → Shared → Prop} (C : Cx w mean mg mb s.heap) (hr : Room A 2 20) (hlen : l.length ≤ 100000)
    (h : ∀ h' t' k, s.heap.StaysIn h' → Q (.bytes (b64 l).toArray t') { s with heap := h', toks := k })
    : wpAny (model prog w) A (call (.ref 100) [.bytes l.toArray t]) Q E s := by
  walk_at "MY fill"
  obtain ⟨hn0, dp, fr, gd, un⟩ := A
  obtain ⟨hh, hr, hu⟩ := hr
  obtain rfl : hn0 = none := hh
  have C' := C.1
  walk_at "MY enter"
  case ps => exact [("s", .bytes l.toArray t), ("altchars", .none)]
  case hps => walk_at "MY all"
  intro g L h₁ u tk hg F N X T
  w_on
  walk_at "MY go"
  rename Fr _ _ _ _ => F
  subst hg
  have e : (b64 l ++ if false = true then [10] else []) = b64 l := by simp
  rw [e]
  exact h _ _ _ F.keep
end
section
open PySem PySem.W PyProof.Rows
set_option Elab.async false
set_option maxRecDepth 100000
set_option maxHeartbeats 8000000
open PySem PySem.Spec PySem.Calls PyProof.Rows PySem.W
local macro_rules | `(tactic| walk_at "exec While Name cons nil") => `(tactic| refine Hold.h ?_)
local macro_rules | `(tactic| walk_at "call ref") => `(tactic| ((with_reducible show wpAny _ _ (call (Value.ref 43) [Value.bytes (List.toArray _) _] _) _ _ _); k_dflt (refine' b2a (nl := true) ?k1 ?k2 ?k3 ?_ ?_; (case k1 => walk_at "MY cx"); (case k2 => walk_at "MY room"); (case k3 => exact .inr ⟨rfl, rfl⟩)); rotate_left; (intro _ _ _ _); walk_at "MY back"; rotate_left))
theorem encode_ {prog : Program} {w : World} {A : Around} {s : Shared} {mean mg mb} {x : Value} {l : List UInt8} {t : Tok} {Q : Value → Shared → Prop} {E : Value → Shared → Prop} (C : Cx w mean mg mb s.heap) (hr : Room A 2 20) (hlen : l.length ≤ 100000)
    (h : ∀ h' t' k, s.heap.StaysIn h' → Q (.bytes (b64 l).toArray t') { s with heap := h', toks := k })
    : wpAny (model prog w) A (call (.ref 71) [x, .bytes l.toArray t]) Q E s := by
  walk_at "MY fill"
  obtain ⟨hn0, dp, fr, gd, un⟩ := A
  obtain ⟨hh, hr, hu⟩ := hr
  obtain rfl : hn0 = none := hh
  walk_at "MY enter"
  case ps => exact [("inp", .bytes l.toArray t)]
  case hps => walk_at "MY all"
  intro g L h₁ u tk hg F N X T
  w_on
  walk_at "MY go"
  refine ⟨?_⟩
  rename Fr _ _ _ _ => F
  rename News _ _ _ _ => N
  refine my_while (σ := List UInt8 × List UInt8 × Tok × Tok) (fun _ => []) (fun c => [("inp", .bytes c.1.toArray c.2.2.1), ("oup", .bytes c.2.1.toArray c.2.2.2)]) (fun c => b64 l = c.2.1 ++ b64 c.1 ∧ c.1.length ≤ l.length) (fun c => c.1.length) (l, [], ?_, ?_) F N (fun _ hp => nomatch hp) ?hk ?hp ?turn
  case hk => walk_at "MY all"
  case hp => exact ⟨by simp, Nat.le_refl _⟩
  case turn =>
    clear F N
    rintro ⟨inp, oup, t1, t2⟩ u h' tk ⟨hv, hle⟩ F N
    dsimp only at F N hv hle
    have hl1 := congrArg List.length hv
    rw [List.length_append, b64_length, b64_length] at hl1
    walk_at "MY go"
    · exact ⟨by omega⟩
    · exact ⟨by omega⟩
    · exact ⟨by omega⟩
    · exact ⟨by omega⟩
    · exact Nat.le_trans (bcut_le ..) (by omega)
    · have := bcut_le inp none (some 48)
      refine ⟨?_⟩
      show (b64 (bcut inp none (some 48)) ++ [10]).length ≤ _
      rw [List.length_append, b64_length]
      simp; omega
    · have := bcut_le inp none (some 48)
      refine ⟨?_⟩
      show (b64 (bcut inp none (some 48)) ++ [10]).length ≤ _
      rw [List.length_append, b64_length]
      simp; omega
    · refine ⟨?_⟩
      have := bcut_le inp none (some 48)
      have h9 := bcut_le (b64 (bcut inp none (some 48)) ++ [10]) none (some (-1))
      rw [List.length_append, b64_length] at h9
      simp at h9
      show oup.length + (bcut (b64 (bcut inp none (some 48)) ++ [10]) none (some (-1))).length ≤ _
      omega
    · rename Fr _ _ _ _ => F
      rename News _ _ _ _ => N
      refine' StEnd.mk (_, _, _, _) F N (fun _ hp => nomatch hp) ?hA ?hB
      case hA => walk_at "MY all"
      case hB =>
        show (b64 l = (oup ++ bcut (b64 (bcut inp none (some ((48 : Nat) : Int))) ++ [10]) none (some (-1))) ++ b64 (bcut inp (some ((48 : Nat) : Int)) none) ∧ (bcut inp (some ((48 : Nat) : Int)) none).length ≤ l.length) ∧ (bcut inp (some ((48 : Nat) : Int)) none).length < inp.length
        rw [bcut_last, bcut_take, bcut_drop]
        have e : List.take ((b64 (inp.take 48) ++ [10]).length - 1) (b64 (inp.take 48) ++ [10]) = b64 (inp.take 48) := by simp
        rw [e, List.length_drop]
        refine ⟨⟨?_, by omega⟩, by omega⟩
        rw [hv, List.append_assoc, ← b64_append _ _ (by simp; omega), List.take_append_drop]
    · rename_i hx
      exact absurd (by simp) hx
    · refine ⟨?_⟩
      show (b64 inp ++ [10]).length ≤ _
      rw [List.length_append, b64_length]
      simp; omega
    · refine ⟨?_⟩
      show (b64 inp ++ [10]).length ≤ _
      rw [List.length_append, b64_length]
      simp; omega
    · refine ⟨?_⟩
      have h9 := bcut_le (b64 inp ++ [10]) none (some (-1))
      rw [List.length_append, b64_length] at h9
      simp at h9
      show oup.length + (bcut (b64 inp ++ [10]) none (some (-1))).length ≤ _
      omega
    · rename Fr _ _ _ _ => F
      rename News _ _ _ _ => N
      refine' StEnd.mk (_, _, _, _) F N (fun _ hp => nomatch hp) ?hA ?hB
      case hA => walk_at "MY all"
      case hB =>
        show (b64 l = (oup ++ bcut (b64 inp ++ [10]) none (some (-1))) ++ b64 [] ∧ 0 ≤ l.length) ∧ 0 < inp.length
        rw [bcut_last]
        have e : List.take ((b64 inp ++ [10]).length - 1) (b64 inp ++ [10]) = b64 inp := by simp
        rw [e, b64_nil, List.append_nil]
        exact ⟨⟨hv, Nat.zero_le _⟩, by omega⟩
    · rename_i hx
      exact absurd (by simp) hx
    · have h0 : inp = [] := List.length_eq_zero_iff.mp (by omega)
      subst h0
      rw [b64_nil, List.append_nil] at hv
      rw [← hv]
      subst hg
      exact h _ _ _ F.keep
end
section
open PySem PySem.W PyProof.Rows
set_option Elab.async false
set_option maxRecDepth 100000
set_option maxHeartbeats 8000000
open PySem PySem.Spec PySem.Calls PyProof.Rows PySem.W
theorem plain_ {prog : Program} {w : World} {A : Around} {s : Shared} {mean mg mb} {l : List UInt8} {t : Tok} {Q : Value → Shared → Prop} {E : Value → Shared → Prop} (C : Cx w mean mg mb s.heap) (hr : Room A 0 0)
    (h : ∀ h' k, s.heap.StaysIn h' → Q (.bytes l.toArray t) { s with heap := h', toks := k })
    : wpAny (model prog w) A (call (.ref 112) [.bytes l.toArray t]) Q E s := by
  walk_at "MY fill"
  obtain ⟨hn0, dp, fr, gd, un⟩ := A
  obtain ⟨hh, hr, hu⟩ := hr
  obtain rfl : hn0 = none := hh
  walk_at "MY enter"
  case ps => exact [("written", .bytes l.toArray t)]
  case hps => walk_at "MY all"
  intro g L h₁ u tk hg F N X T
  w_on
  walk_at "MY go"
  subst hg
  exact h _ _ F.keep
theorem auth_ {prog : Program} {w : World} {A : Around} {s : Shared} {mean mg mb} {h₀ : Heap} {L : Addr} {m : Str → Option Value} {news : List (Addr × Obj)} {Q : Value → Shared → Prop} {E : Value → Shared → Prop} (F : Fr h₀ L s.heap m) (C : Cx w mean mg mb h₀) (N : News h₀ L s.heap news) (hr : Room A 3 20)
    (h : ∀ x dx hs tm h' tk, Fr h₀ L h' m → News h₀ L h' ((x, instObj 81 dx) :: (dx, dictOf [⟨hs, .str "mech" tm, .none⟩] 1) :: news) → Q (.ref x) { s with heap := h', toks := tk })
    : wpAny (model prog w) A (call (.ref 81) [.none]) Q E s := by
  walk_at "MY fill"
  obtain ⟨hn0, dp, fr, gd, un⟩ := A
  obtain ⟨hh, hr, hu⟩ := hr
  obtain rfl : hn0 = none := hh
  k_dflt (refine' call_cls F C.1 N ?k4 ?k5 ?k6 ?_; (case k4 => k_is); (case k5 => k_is); (case k6 => k_is))
  intro x dx h' F' N' l1 l2
  k_dflt (refine' enterN [("self", .ref x), ("mechinst", .none)] F' N' C ?k6 ?k7 ?k8 ?k9 ?kB ?hps ?_ ?c2 ?c3 ?c4 ?c5; (case k6 => k_is); (case k7 => k_is); (case k9 => exact BindsTo.of_eq rfl); (case c5 => decide); (case kB => exact locs rfl); (case c2 => exact rfl); (case c3 => exact rfl); (case c4 => exact rfl))
  case k8 =>
    simp only [depth_under_make]
    dsimp only at hr ⊢
    omega
  case hps => walk_at "MY all"
  intro g L' h₁ u tk F N X T
  replace l2 := ltN l2
  w_on
  walk_at "MY go"
  rename Fr _ _ _ _ => F'
  rename News _ _ _ _ => N'
  refine leaveK_ F' N' fun kF kN => ?_
  dsimp only [InitBack]
  exact ⟨rfl, h _ _ _ _ _ _ kF kN⟩
end
section
open PySem PySem.W PyProof.Rows
set_option Elab.async false
set_option maxRecDepth 100000
set_option maxHeartbeats 8000000
open PySem PySem.Spec PySem.Calls PyProof.Rows PySem.W Builtin
theorem slot_join : Slot "bytes" "join" "bytes.join" :=
  .of (owner := "bytes") (n := "join") (by rw [typeLookup_type, builtinLookup_eq_fast]; kernel_rfl) (by decide +kernel) (by decide +kernel) (by decide +kernel)
    (by first | exact .inl (by decide +kernel) | exact .inr (by decide +kernel)) (by rw [isSubtype_type]; kernel_rfl)
theorem type_join : typeOf (.builtin "bytes.join") = pure (.type "method_descriptor") := by show builtinType _ = _; rw [builtinType_eq_fast]; kernel_rfl
theorem entry_join : entryFor table "bytes.join" = some Builtin.«bytes.join» := entryFor_of_tree (by kernel_rfl)
theorem args_join (a b : Value) : argsOk "bytes.join" ⟨[a, b], []⟩ := by
  unfold argsOk; rw [signature?_of (id := "bytes.join") (n := ['n', 'i', 'o', 'j']) (o := ['s', 'e', 't', 'y', 'b']) (by kernel_rfl) FB.owner_bytes]; kernel_rfl
theorem slot_find : Slot "bytes" "find" "bytes.find" :=
  .of (owner := "bytes") (n := "find") (by rw [typeLookup_type, builtinLookup_eq_fast]; kernel_rfl) (by decide +kernel) (by decide +kernel) (by decide +kernel)
    (by first | exact .inl (by decide +kernel) | exact .inr (by decide +kernel)) (by rw [isSubtype_type]; kernel_rfl)
theorem type_find : typeOf (.builtin "bytes.find") = pure (.type "method_descriptor") := by show builtinType _ = _; rw [builtinType_eq_fast]; kernel_rfl
theorem entry_find : entryFor table "bytes.find" = some Builtin.«bytes.find» := entryFor_of_tree (by kernel_rfl)
theorem args_find (a b : Value) : argsOk "bytes.find" ⟨[a, b], []⟩ := by
  unfold argsOk; rw [signature?_of (id := "bytes.find") (n := ['d', 'n', 'i', 'f']) (o := ['s', 'e', 't', 'y', 'b']) (by kernel_rfl) FB.owner_bytes]; kernel_rfl
theorem int_no_buffer : typeLookup (.type "int") "__buffer__" = pure none := by rw [typeLookup_type, builtinLookup_eq_fast]; kernel_rfl
theorem buffer_int {id : String} {i : Int} {u : Tok} : Bytes.buffer? id (.int i u) = pure none := by
  have e : specialOf (.int i u) "__buffer__" = pure none := by
    unfold specialOf
    show typeLookup (.type "int") "__buffer__" = pure none
    exact int_no_buffer
  unfold Bytes.buffer?
  rw [e]
  rfl

theorem gives_contains (b : Array UInt8) (i : Int) (t u : Tok) (h0 : 0 ≤ i) (h1 : i < 256) : Gives («bytes.__contains__» ⟨[.bytes b t, .int i u], []⟩) (.val (.bool (b.contains i.toNat.toUInt8))) := by
  refine .of_wp fun M A E s Q hq => ?_
  show wpAny M A (Bytes.containsIn "bytes.__contains__" (.bytes b t) (.int i u) >>= fun r => _) _ E s
  refine wpAny_bind ?_
  unfold Bytes.containsIn
  refine wpAny_bind (wpAny_of_eq (a := Except.ok i) rfl ?_)
  refine wpAny_bind (wpAny_of_eq KBy.buffer_eq ?_)
  show wpAny M A (if (decide (i < 0) || decide (i ≥ 256)) = true then _ else pure (b.contains i.toNat.toUInt8)) _ E s
  rw [if_neg (by simp; omega)]
  exact wpAny_pure (wpAny_pure ⟨_, rfl, hq⟩)

theorem gives_find (b : Array UInt8) (i : Int) (t u : Tok) (k : Nat) (h0 : 0 ≤ i) (h1 : i < 256) (hb : 1 ≤ b.size) (hf : Bytes.find? b #[i.toNat.toUInt8] 0 b.size = some k) : Gives («bytes.find» ⟨[.bytes b t, .int i u], []⟩) (.int k) := by
  refine .of_wp fun M A E s Q hq => ?_
  show wpAny M A (Bytes.searchArgs .bytes "find" ⟨[.bytes b t, .int i u], []⟩ >>= fun r => _) _ E s
  have e : Bytes.searchArgs .bytes "find" ⟨[.bytes b t, .int i u], []⟩ = pure (b, #[i.toNat.toUInt8], some (0, b.size)) := by
    unfold Bytes.searchArgs
    show (Bytes.buffer? ("bytes" ++ "." ++ "find") (.int i u) >>= fun r => _) = _
    rw [buffer_int]
    show (if (decide (i < 0) || decide (i ≥ 256)) = true then _ else _) = _
    rw [if_neg (by simp; omega)]
    have e2 : Bytes.window b.size none none = (0, (b.size : Int)) := by
      unfold Bytes.window
      simp only [Option.getD]
      rw [if_neg (by omega), if_neg (by omega), Int.min_self]
    show (pure (b, #[i.toNat.toUInt8], if (Bytes.window b.size none none).2 - (Bytes.window b.size none none).1 < ((#[i.toNat.toUInt8] : Array UInt8).size : Int) then none else some ((Bytes.window b.size none none).1.toNat, (Bytes.window b.size none none).2.toNat)) : Sem _) = _
    rw [e2]
    have e3 : ¬ ((b.size : Int) - 0 < ((#[i.toNat.toUInt8] : Array UInt8).size : Int)) := by simp; omega
    dsimp only
    rw [if_neg e3]
    simp
  rw [e]
  refine wpAny_bind (wpAny_pure ?_)
  show wpAny M A (match (Bytes.find? b #[i.toNat.toUInt8] 0 b.size) with | some i => retInt i | none => _) _ E s
  rw [hf]
  exact wpAny_bind (wpAny_mkInt (wpAny_pure ⟨_, rfl, hq⟩))
section
variable {prog : Program} {w : World} {A : Around} {E : Value → Shared → Prop} {s : Shared} {b : Array UInt8} {t u : Tok}
theorem notIn_bytes {i : Int} {Q : Value → Shared → Prop} (h0 : 0 ≤ i) (h1 : i < 256) (h : Q (.bool (!(b.contains i.toNat.toUInt8))) s) : wpAny (model prog w) A (compareOp .NotIn (.int i u) (.bytes b t)) Q E s :=
  notIn_gives (typeIs_bytes s b t) FB.slot_bytes_contains FB.entry_bytes_contains (FB.args_bytes_contains_2 _ _) (gives_contains b i t u h0 h1) h
theorem meth_join {M : Model} {pl : Sem Bool} {Q : Value × List Value → Shared → Prop} (h : Q (.builtin "bytes.join", [.bytes b t]) s) : wpAny M A (getMethod (.bytes b t) "join" pl) Q E s := by
  with_reducible exact KBd.method_of (.bytes b t) (typeIs_bytes _ _ _) slot_join type_join KBd.noRef h
theorem meth_find {M : Model} {pl : Sem Bool} {Q : Value × List Value → Shared → Prop} (h : Q (.builtin "bytes.find", [.bytes b t]) s) : wpAny M A (getMethod (.bytes b t) "find" pl) Q E s := by
  with_reducible exact KBd.method_of (.bytes b t) (typeIs_bytes _ _ _) slot_find type_find KBd.noRef h
end
theorem alpha_find : ∀ d, d < 64 → Bytes.find? alpha.toArray #[sign d] 0 alpha.toArray.size = some d := by decide +kernel
theorem alpha_has : ∀ d, d < 64 → alpha.toArray.contains (sign d) = true := by decide +kernel
theorem back_byte (c : UInt8) : ((c.toNat : Int)).toNat.toUInt8 = c := by simp
section
variable {prog : Program} {w : World} {A : Around} {E : Value → Shared → Prop} {s : Shared} {t u : Tok}
theorem bfind {d : Nat} {Q : Value → Shared → Prop} (hd : d < 64) (h : ∀ t' k, Q (.int (d : Nat) t') { s with toks := k }) : wpAny (model prog w) A (call (.builtin "bytes.find") [.bytes alpha.toArray t, .int ((sign d).toNat : Int) u]) Q E s := by
  have hc := (sign d).toNat_lt
  refine call_gives slot_find (typeIs_bytes _ _ _) entry_find (args_find _ _) (gives_find alpha.toArray ((sign d).toNat : Int) t u d (by omega) (by omega) (by decide) ?_) (h _ _)
  rw [back_byte]
  exact alpha_find d hd
end
end
section
open PySem PySem.W PyProof.Rows
set_option maxRecDepth 100000
open PySem PySem.Spec PySem.Calls PyProof.Rows PySem.W Builtin
theorem forRange {β : Type} {M : Model} {A : Around} {E : Value → Shared → Prop} {n : Nat} {f : Nat → β → Sem (ForInStep β)} (I : Nat → β → Shared → Prop) {Q : β → Shared → Prop}
    (turn : ∀ i b s, i < n → I i b s → wpAny M A (f i b) (fun r s' => ∃ b', r = .yield b' ∧ I (i + 1) b' s') E s) (done : ∀ b s, I n b s → Q b s) {b₀ : β} {s : Shared} (h0 : I 0 b₀ s) :
    wpAny M A (forIn [0:n] b₀ f) Q E s := by
  rw [Std.Legacy.Range.forIn_eq_forIn_range']
  have hsz : ([0:n] : Std.Legacy.Range).size = n := by simp [Std.Legacy.Range.size]
  show wpAny M A (forIn (List.range' 0 ([0:n] : Std.Legacy.Range).size 1) b₀ f) Q E s
  rw [hsz]
  suffices h : ∀ k i b s, i + k = n → I i b s → wpAny M A (forIn (List.range' i k 1) b f) Q E s from h n 0 b₀ s (by omega) h0
  intro k
  induction k with
  | zero => intro i b s hi hI; rw [List.range'_zero]; have : i = n := by omega
            subst this; exact wpAny_pure (done b s hI)
  | succ k ih =>
    intro i b s hi hI
    rw [List.range'_succ, List.forIn_cons]
    refine wpAny_bind (wpAny_mono (turn i b s (by omega) hI) (fun r s' hr => ?_) fun _ _ e => e)
    obtain ⟨b', rfl, hI'⟩ := hr
    exact ih (i + 1) b' s' (by omega) hI'

noncomputable def bvals (ls : List (List UInt8 × Tok)) : List Value := ls.map fun p => .bytes p.1.toArray p.2
noncomputable def btaken (ls : List (List UInt8 × Tok)) : List (Value × Option Value) := ls.map fun p => (.bytes p.1.toArray p.2, none)
noncomputable def barrs (ls : List (List UInt8 × Tok)) : List (Array UInt8) := ls.map fun p => p.1.toArray
noncomputable def bflat (ls : List (List UInt8 × Tok)) : List UInt8 := (ls.map (·.1)).flatten
theorem barrs_snoc (ls : List (List UInt8 × Tok)) (p : List UInt8 × Tok) : barrs (ls ++ [p]) = barrs ls ++ [p.1.toArray] := by simp [barrs]
theorem btaken_snoc (ls : List (List UInt8 × Tok)) (p : List UInt8 × Tok) : btaken (ls ++ [p]) = btaken ls ++ [(.bytes p.1.toArray p.2, none)] := by simp [btaken]
theorem takeQuiet {id : String} {b : Array UInt8} {t : Tok} : Bytes.takeBufferQuiet? id (.bytes b t) 0 = pure (some (b, none)) := by
  have e : Bytes.takeBuffer? id (.bytes b t) 0 = pure (some (b, none)) := by
    unfold Bytes.takeBuffer?
    have e0 : ((0 : Int) == Bytes.fullReadOnly) = false := by decide
    rw [KBy.special_eq KBy.look_buffer, KBy.own_buffer, e0, KBy.buffer_eq]
    rfl
  unfold Bytes.takeBufferQuiet?
  rw [e]
  rfl
theorem taken_plain (ls : List (List UInt8 × Tok)) : ((btaken ls).any fun x => x.1.onHeap) = false := by
  unfold btaken
  rw [List.any_map, List.any_eq_false]
  intro x _
  simp [Value.onHeap]
theorem letGo_taken {M : Model} {A : Around} {E : Value → Shared → Prop} {s : Shared} {keep : List Value} {Q : Unit → Shared → Prop} (h : Q () s) : ∀ ls, wpAny M A (Bytes.joinLetGo (btaken ls) keep) Q E s
  | [] => wpAny_pure h
  | p :: r => by
    show wpAny M A (Bytes.joinLetGo ((.bytes p.1.toArray p.2, none) :: btaken r) keep) Q E s
    unfold Bytes.joinLetGo
    dsimp only
    exact wpAny_bind (wpAny_letGo (letGo_taken h r))
theorem joined_flat (ls : List (List UInt8 × Tok)) : Bytes.joined #[] (barrs ls) = (bflat ls).toArray := by
  unfold Bytes.joined
  have key : ∀ (ps : List (Array UInt8)) (k : Nat) (out : Array UInt8), ((ps.zipIdx k).foldl (fun out (p : Array UInt8 × Nat) => (if p.2 > 0 then out ++ #[] else out) ++ p.1) out) = out ++ (ps.map Array.toList).flatten.toArray := by
    intro ps
    induction ps with
    | nil => intro k out; simp
    | cons p r ih =>
      intro k out
      rw [List.zipIdx_cons, List.foldl_cons, ih]
      obtain ⟨p⟩ := p
      simp
  refine (key (barrs ls) 0 #[]).trans ?_
  unfold barrs bflat
  rw [List.map_map]
  simp only [Array.empty_append]
  rfl
theorem total_len (ls : List (List UInt8 × Tok)) (n : Nat) : (barrs ls).toArray.foldl (fun x y => x + y.size) n = n + (bflat ls).length := by
  unfold barrs bflat
  rw [List.foldl_toArray']
  · induction ls generalizing n with
    | nil => simp
    | cons p r ih => simp [ih]; omega
  · simp
section
variable {D : Addr} {t : Tok} {ls : List (List UInt8 × Tok)} {n : Nat}
theorem meets_join (hz : (bflat ls).length ≤ 16777216) :
    Meets («bytes.join» ⟨[.bytes #[] t, .ref D], []⟩) (fun _ R s => s.heap.get? D = some (listOf (bvals ls).toArray n) ∧ ∀ t' k, R (.ok (.ret (.bytes (bflat ls).toArray t'))) { s with toks := k }) := by
  refine .of_wp fun prog w A R s hS => ?_
  obtain ⟨hD, h⟩ := hS
  have hT : s.TypeIs (.ref D) "list" := ⟨_, hD, rfl⟩
  show wpAny _ _ (Bytes.joinItems (.ref D) >>= fun seq => _) _ _ s
  refine wpAny_bind ?_
  unfold Bytes.joinItems
  refine wpAny_bind (wpAny_typeOf hT ?_)
  show wpAny _ _ (pure (Value.ref D)) _ _ s
  refine wpAny_pure ?_
  dsimp only
  refine wpAny_bind (wpAny_seqItems hD rfl ?_)
  dsimp only
  rw [if_pos (by decide)]
  have fin : ∀ (ls' : List (List UInt8 × Tok)), ls' = ls → ∀ t' k, R (.ok (.ret (.bytes (bflat ls').toArray t'))) { s with toks := k } := by rintro _ rfl; exact h
  rcases ls with _ | ⟨p, _ | ⟨q, r⟩⟩
  case cons.nil =>
    show wpAny _ _ (typeOf (.bytes p.1.toArray p.2) >>= _) _ _ _
    refine wpAny_bind (wpAny_typeOf (typeIs_bytes _ _ _) ?_)
    rw [if_pos (by decide)]
    refine wpAny_bind (wpAny_rule (wpAny_pure ⟨_, rfl, ?_⟩))
    have e2 : bflat [p] = p.1 := by simp [bflat]
    rw [e2] at h
    exact h _ _
  all_goals show wpAny _ _ (forIn _ _ _ >>= _) _ _ _
  case nil =>
    generalize hls : ([] : List (List UInt8 × Tok)) = ls at *
    refine wpAny_bind (forRange (fun i (b : Array (Array UInt8) × List (Value × Option Value)) s' => s' = s ∧ b.1 = (barrs (ls.take i)).toArray ∧ b.2 = btaken (ls.take i)) ?_ ?_ ⟨rfl, rfl, rfl⟩)
    · rintro i ⟨parts, taken⟩ s' hi ⟨rfl, hp, ht⟩
      dsimp only at hp ht ⊢
      have hil : i < ls.length := by simpa [bvals] using hi
      refine wpAny_bind (wpAny_seqItems hD rfl ?_)
      dsimp only
      have hg : (bvals ls).toArray.getD i Value.none = .bytes ls[i].1.toArray ls[i].2 := by simp [bvals, hil]
      rw [hg, if_neg (by rw [ht, taken_plain]; decide), takeQuiet]
      refine wpAny_bind (wpAny_holding (wpAny_pure ?_))
      dsimp only
      refine wpAny_bind (wpAny_seqItems hD rfl ?_)
      dsimp only
      rw [if_neg (by simp)]
      refine wpAny_pure ⟨_, rfl, rfl, ?_, ?_⟩
      · show parts.push _ = _
        rw [hp, List.take_add_one, List.getElem?_eq_getElem hil]
        show _ = (barrs (ls.take i ++ [ls[i]])).toArray
        rw [barrs_snoc, List.push_toArray]
      · show taken ++ _ = _
        rw [ht, List.take_add_one, List.getElem?_eq_getElem hil]
        show _ = btaken (ls.take i ++ [ls[i]])
        rw [btaken_snoc]
    · rintro ⟨parts, taken⟩ s' ⟨rfl, hp, ht⟩
      have hn : (bvals ls).toArray.size = ls.length := by simp [bvals]
      dsimp only at hp ht ⊢
      rw [hn, List.take_length] at hp ht
      subst hp ht
      refine wpAny_bind (wpAny_of_eq (a := (#[] : Array UInt8)) rfl ?_)
      have e3 : Bytes.tooLong ((barrs ls).toArray.foldl (fun x y => x + y.size) ((#[] : Array UInt8).size * ((barrs ls).toArray.size - 1))) = false := by
        rw [total_len]
        refine KBy.tooLong_not ?_
        simp; omega
      dsimp only
      rw [e3]
      have e4 : Bytes.joined #[] (barrs ls).toArray.toList = (bflat ls).toArray := by
        simpa using joined_flat ls
      show wpAny _ _ (mkBytes (Bytes.joined #[] (barrs ls).toArray.toList) >>= fun r => _) _ _ _
      rw [e4]
      refine wpAny_bind (wpAny_mkBytes ?_ (by rw [sizeLine_eq]; simpa using hz))
      refine wpAny_bind (wpAny_holding (wpAny_point ?_))
      refine wpAny_bind (letGo_taken ?_ ls)
      exact wpAny_pure ⟨_, rfl, h _ _⟩
  case cons.cons =>
    generalize hls : p :: q :: r = ls at *
    refine wpAny_bind (forRange (fun i (b : Array (Array UInt8) × List (Value × Option Value)) s' => s' = s ∧ b.1 = (barrs (ls.take i)).toArray ∧ b.2 = btaken (ls.take i)) ?_ ?_ ⟨rfl, rfl, rfl⟩)
    · rintro i ⟨parts, taken⟩ s' hi ⟨rfl, hp, ht⟩
      dsimp only at hp ht ⊢
      have hil : i < ls.length := by simpa [bvals] using hi
      refine wpAny_bind (wpAny_seqItems hD rfl ?_)
      dsimp only
      have hg : (bvals ls).toArray.getD i Value.none = .bytes ls[i].1.toArray ls[i].2 := by simp [bvals, hil]
      rw [hg, if_neg (by rw [ht, taken_plain]; decide), takeQuiet]
      refine wpAny_bind (wpAny_holding (wpAny_pure ?_))
      dsimp only
      refine wpAny_bind (wpAny_seqItems hD rfl ?_)
      dsimp only
      rw [if_neg (by simp)]
      refine wpAny_pure ⟨_, rfl, rfl, ?_, ?_⟩
      · show parts.push _ = _
        rw [hp, List.take_add_one, List.getElem?_eq_getElem hil]
        show _ = (barrs (ls.take i ++ [ls[i]])).toArray
        rw [barrs_snoc, List.push_toArray]
      · show taken ++ _ = _
        rw [ht, List.take_add_one, List.getElem?_eq_getElem hil]
        show _ = btaken (ls.take i ++ [ls[i]])
        rw [btaken_snoc]
    · rintro ⟨parts, taken⟩ s' ⟨rfl, hp, ht⟩
      have hn : (bvals ls).toArray.size = ls.length := by simp [bvals]
      dsimp only at hp ht ⊢
      rw [hn, List.take_length] at hp ht
      subst hp ht
      refine wpAny_bind (wpAny_of_eq (a := (#[] : Array UInt8)) rfl ?_)
      have e3 : Bytes.tooLong ((barrs ls).toArray.foldl (fun x y => x + y.size) ((#[] : Array UInt8).size * ((barrs ls).toArray.size - 1))) = false := by
        rw [total_len]
        refine KBy.tooLong_not ?_
        simp; omega
      dsimp only
      rw [e3]
      have e4 : Bytes.joined #[] (barrs ls).toArray.toList = (bflat ls).toArray := by
        simpa using joined_flat ls
      show wpAny _ _ (mkBytes (Bytes.joined #[] (barrs ls).toArray.toList) >>= fun r => _) _ _ _
      rw [e4]
      refine wpAny_bind (wpAny_mkBytes ?_ (by rw [sizeLine_eq]; simpa using hz))
      refine wpAny_bind (wpAny_holding (wpAny_point ?_))
      refine wpAny_bind (letGo_taken ?_ ls)
      exact wpAny_pure ⟨_, rfl, h _ _⟩
end
section
variable {prog : Program} {w : World} {A : Around} {E : Value → Shared → Prop} {s : Shared} {D : Addr} {t : Tok} {ls : List (List UInt8 × Tok)} {n : Nat}
theorem call_join {Q : Value → Shared → Prop} (hz : (bflat ls).length ≤ 16777216) (hD : s.heap.get? D = some (listOf (bvals ls).toArray n)) (h : ∀ t' k, Q (.bytes (bflat ls).toArray t') { s with toks := k }) :
    wpAny (model prog w) A (call (.builtin "bytes.join") [.bytes #[] t, .ref D]) Q E s :=
  call_meets slot_join (typeIs_bytes _ _ _) entry_join (args_join _ _) (meets_join hz) ⟨hD, h⟩
end
end
section
open PySem PySem.W PyProof.Rows
set_option Elab.async false
set_option maxRecDepth 100000
open PySem PySem.Spec PySem.Calls PyProof.Rows PySem.W

/-- what the law builds: a number, a row of octets, a node -/
inductive Tree where
  | num (n : Nat)
  | oct (l : List UInt8)
  | node (ts : List Tree)

mutual
noncomputable def written : Tree → List UInt8
  | .num n => ap n ++ [46]
  | .oct l => ap l.length ++ [44] ++ l
  | .node ts => ap (body ts).length ++ [58] ++ b64 (body ts)
noncomputable def body : List Tree → List UInt8
  | [] => []
  | t :: ts => written t ++ body ts
end
mutual
noncomputable def height : Tree → Nat
  | .num _ => 0
  | .oct _ => 0
  | .node ts => heights ts + 1
noncomputable def heights : List Tree → Nat
  | [] => 0
  | t :: ts => max (height t) (heights ts)
end
mutual
/-- a bound of what a tree takes, written -/
noncomputable def pot : Tree → Nat
  | .num _ => 7
  | .oct _ => 7
  | .node ts => max 7 (2 * pots ts)
noncomputable def pots : List Tree → Nat
  | [] => 0
  | t :: ts => pot t + pots ts
end
mutual
/-- leaves are small -/
noncomputable def Small : Tree → Prop
  | .num n => n < 16 ^ 6
  | .oct l => l.length ≤ 4
  | .node ts => Smalls ts
noncomputable def Smalls : List Tree → Prop
  | [] => True
  | t :: ts => Small t ∧ Smalls ts
end

mutual
/-- the store bears the tree at a value -/
noncomputable def TreeAt (G : Addr → Obj → Prop) : Tree → Value → Prop
  | .num n, v => ∃ tk, v = .int (n : Int) tk
  | .oct l, v => ∃ tk, v = .bytes l.toArray tk
  | .node ts, v => ∃ a vs k, v = .ref a ∧ G a (listOf vs.toArray k) ∧ TreesAt G ts vs
noncomputable def TreesAt (G : Addr → Obj → Prop) : List Tree → List Value → Prop
  | [], vs => vs = []
  | t :: ts, vs => ∃ v r, vs = v :: r ∧ TreeAt G t v ∧ TreesAt G ts r
end

mutual
theorem TreeAt.mono {G G' : Addr → Obj → Prop} (hG : ∀ a o, G a o → G' a o) : ∀ (t : Tree) (v : Value), TreeAt G t v → TreeAt G' t v
  | .num _, _, h => by unfold TreeAt at h ⊢; exact h
  | .oct _, _, h => by unfold TreeAt at h ⊢; exact h
  | .node ts, v, h => by
    unfold TreeAt at h ⊢
    obtain ⟨a, vs, k, hv, hg, ht⟩ := h
    exact ⟨a, vs, k, hv, hG _ _ hg, TreesAt.mono hG ts vs ht⟩
theorem TreesAt.mono {G G' : Addr → Obj → Prop} (hG : ∀ a o, G a o → G' a o) : ∀ (ts : List Tree) (vs : List Value), TreesAt G ts vs → TreesAt G' ts vs
  | [], _, h => by unfold TreesAt at h ⊢; exact h
  | t :: ts, vs, h => by
    unfold TreesAt at h ⊢
    obtain ⟨v, r, e, h1, h2⟩ := h
    exact ⟨v, r, e, TreeAt.mono hG t v h1, TreesAt.mono hG ts r h2⟩
end
theorem TreesAt.length {G : Addr → Obj → Prop} : ∀ (ts : List Tree) (vs : List Value), TreesAt G ts vs → vs.length = ts.length
  | [], _, h => by unfold TreesAt at h; rw [h]; rfl
  | t :: ts, vs, h => by
    unfold TreesAt at h
    obtain ⟨v, r, rfl, _, h2⟩ := h
    rw [List.length_cons, List.length_cons, TreesAt.length ts r h2]
theorem TreesAt.append {G : Addr → Obj → Prop} : ∀ (ts us : List Tree) (vs ws : List Value), TreesAt G ts vs → TreesAt G us ws → TreesAt G (ts ++ us) (vs ++ ws)
  | [], us, vs, ws, h, h' => by unfold TreesAt at h; rw [h]; exact h'
  | t :: ts, us, vs, ws, h, h' => by
    unfold TreesAt at h
    obtain ⟨v, r, rfl, h1, h2⟩ := h
    show TreesAt G (t :: (ts ++ us)) (v :: (r ++ ws))
    unfold TreesAt
    exact ⟨v, _, rfl, h1, TreesAt.append ts us r ws h2 h'⟩
theorem TreesAt.get {G : Addr → Obj → Prop} : ∀ (ts : List Tree) (vs : List Value) (i : Nat) (v : Value), TreesAt G ts vs → vs[i]? = some v → ∃ t, ts[i]? = some t ∧ TreeAt G t v
  | [], vs, i, v, h, hi => by unfold TreesAt at h; rw [h] at hi; cases hi
  | t :: ts, vs, i, v, h, hi => by
    unfold TreesAt at h
    obtain ⟨x, r, rfl, h1, h2⟩ := h
    cases i with
    | zero => exact ⟨t, rfl, by cases hi; exact h1⟩
    | succ i => exact TreesAt.get ts r i v h2 hi
theorem TreesAt.take {G : Addr → Obj → Prop} : ∀ (n : Nat) (ts : List Tree) (vs : List Value), TreesAt G ts vs → TreesAt G (ts.take n) (vs.take n)
  | 0, ts, vs, _ => by simp only [List.take_zero]; unfold TreesAt; rfl
  | n + 1, [], vs, h => by unfold TreesAt at h; rw [h]; simp; unfold TreesAt; rfl
  | n + 1, t :: ts, vs, h => by
    unfold TreesAt at h
    obtain ⟨x, r, rfl, h1, h2⟩ := h
    show TreesAt G (t :: ts.take n) (x :: r.take n)
    unfold TreesAt
    exact ⟨x, _, rfl, h1, TreesAt.take n ts r h2⟩
theorem TreesAt.drop {G : Addr → Obj → Prop} : ∀ (n : Nat) (ts : List Tree) (vs : List Value), TreesAt G ts vs → TreesAt G (ts.drop n) (vs.drop n)
  | 0, ts, vs, h => h
  | n + 1, [], vs, h => by unfold TreesAt at h; rw [h]; simp; unfold TreesAt; rfl
  | n + 1, t :: ts, vs, h => by
    unfold TreesAt at h
    obtain ⟨x, r, rfl, h1, h2⟩ := h
    exact TreesAt.drop n ts r h2
theorem treesAt_one {G : Addr → Obj → Prop} {t : Tree} {v : Value} (h : TreeAt G t v) : TreesAt G [t] [v] := by
  unfold TreesAt
  exact ⟨v, [], rfl, h, by unfold TreesAt; rfl⟩
theorem body_append : ∀ (ts us : List Tree), body (ts ++ us) = body ts ++ body us
  | [], us => by simp [body]
  | t :: ts, us => by
    show body (t :: (ts ++ us)) = _
    simp only [body]
    rw [body_append ts us, List.append_assoc]
theorem heights_get : ∀ (ts : List Tree) (i : Nat) (t : Tree), ts[i]? = some t → height t ≤ heights ts
  | [], i, t, h => by cases h
  | u :: ts, 0, t, h => by cases h; simp only [heights]; omega
  | u :: ts, i + 1, t, h => by
    have := heights_get ts i t h
    simp only [heights]; omega
theorem written_get : ∀ (ts : List Tree) (i : Nat) (t : Tree), ts[i]? = some t → (written t).length ≤ (body ts).length
  | [], i, t, h => by cases h
  | u :: ts, 0, t, h => by cases h; simp only [body, List.length_append]; omega
  | u :: ts, i + 1, t, h => by
    have := written_get ts i t h
    simp only [body, List.length_append]; omega
theorem body_length_le (ts : List Tree) : (body ts).length ≤ (written (.node ts)).length := by
  simp only [written, List.length_append, b64_length]
  omega
theorem height_pos_node (ts : List Tree) : height (.node ts) = heights ts + 1 := by simp [height]
mutual
theorem TreeAt.uniq {G : Addr → Obj → Prop} (hG : ∀ a o o', G a o → G a o' → o = o') : ∀ (t t' : Tree) (v : Value), TreeAt G t v → TreeAt G t' v → t = t'
  | .num n, t', v, h, h' => by
    unfold TreeAt at h
    obtain ⟨tk, rfl⟩ := h
    cases t' with
    | num n' => unfold TreeAt at h'; obtain ⟨_, e⟩ := h'; injection e with e1 e2; rw [Int.ofNat.inj e1]
    | oct _ => unfold TreeAt at h'; obtain ⟨_, e⟩ := h'; cases e
    | node _ => unfold TreeAt at h'; obtain ⟨_, _, _, e, _⟩ := h'; cases e
  | .oct l, t', v, h, h' => by
    unfold TreeAt at h
    obtain ⟨tk, rfl⟩ := h
    cases t' with
    | num n' => unfold TreeAt at h'; obtain ⟨_, e⟩ := h'; cases e
    | oct l' => unfold TreeAt at h'; obtain ⟨_, e⟩ := h'; injection e with e1 e2; rw [show l = l' by simpa using congrArg Array.toList e1]
    | node _ => unfold TreeAt at h'; obtain ⟨_, _, _, e, _⟩ := h'; cases e
  | .node ts, t', v, h, h' => by
    unfold TreeAt at h
    obtain ⟨a, vs, k, rfl, hg, ht⟩ := h
    cases t' with
    | num n' => unfold TreeAt at h'; obtain ⟨_, e⟩ := h'; cases e
    | oct l' => unfold TreeAt at h'; obtain ⟨_, e⟩ := h'; cases e
    | node ts' =>
      unfold TreeAt at h'
      obtain ⟨a', vs', k', e, hg', ht'⟩ := h'
      cases e
      have q := hG _ _ _ hg hg'
      have q2 : vs = vs' := by
        have q3 := congrArg Obj.data q
        injection q3 with q4 _
        simpa using congrArg Array.toList q4
      subst q2
      rw [TreesAt.uniq hG ts ts' vs ht ht']
theorem TreesAt.uniq {G : Addr → Obj → Prop} (hG : ∀ a o o', G a o → G a o' → o = o') : ∀ (ts ts' : List Tree) (vs : List Value), TreesAt G ts vs → TreesAt G ts' vs → ts = ts'
  | [], ts', vs, h, h' => by
    unfold TreesAt at h
    subst h
    cases ts' with
    | nil => rfl
    | cons _ _ => unfold TreesAt at h'; obtain ⟨_, _, e, _⟩ := h'; cases e
  | t :: ts, ts', vs, h, h' => by
    unfold TreesAt at h
    obtain ⟨v, r, rfl, h1, h2⟩ := h
    cases ts' with
    | nil => unfold TreesAt at h'; cases h'
    | cons t' us =>
      unfold TreesAt at h'
      obtain ⟨v', r', e, h1', h2'⟩ := h'
      cases e
      rw [TreeAt.uniq hG t t' v h1 h1', TreesAt.uniq hG ts us r h2 h2']
end
theorem treesAt_mem {G : Addr → Obj → Prop} {ts : List Tree} {vs : List Value} {v : Value} (h : TreesAt G ts vs) (hv : v ∈ vs) : ∃ (i : Nat) (t : Tree), ts[i]? = some t ∧ TreeAt G t v := by
  obtain ⟨i, hi, e⟩ := List.getElem_of_mem hv
  obtain ⟨t, ht⟩ := TreesAt.get ts vs i v h (by rw [List.getElem?_eq_getElem hi, e])
  exact ⟨i, t, ht⟩
theorem written_pos : ∀ (t : Tree), 1 ≤ (written t).length
  | .num n => by simp [written]
  | .oct l => by simp [written]; omega
  | .node ts => by simp [written]; omega
theorem length_le_body : ∀ (ts : List Tree), ts.length ≤ (body ts).length
  | [] => by simp [body]
  | t :: ts => by
    have := written_pos t
    have := length_le_body ts
    simp only [body, List.length_append, List.length_cons]
    omega
end
section
open PySem PySem.W PyProof.Rows
set_option Elab.async false
set_option maxRecDepth 100000
open PySem PySem.Spec PySem.Calls PyProof.Rows PySem.W
section
variable {prog : Program} {w : World} {A : Around} {E : Value → Shared → Prop} {env : Env}
theorem filter_yes {α : Type} (l : List α) : l.filter (fun _ => true) = l := List.filter_eq_self.mpr fun _ _ => rfl

/-- a list comprehension over a list, without tests -/
theorem comp_list {s : Shared} {elt iter : Expr} {x : Str} {px : Pos} {scope : Scope} {cl : List (Str × Addr)} {pos : Pos} {Q : Value → Shared → Prop} (G : Value → Value → Prop) {ax : Addr} {vs : List Value}
    (hh : A.handled = none) (hclos : closureFor scope env = pure cl) (hcell : ∀ y ∈ scope.names, y.2 ≠ .cell) (hkind : scope.kind = .function)
    (hnames : ∀ y ∈ scope.names, y.2 = .local → scope.names.lookup y.1 = some .local) (hx : scope.names.lookup x = some .local)
    (h : wpAny (model prog w) A (eval iter env) (fun xv s₁ => xv = .ref ax ∧ s₁.heap.IsList ax vs.toArray ∧ vs.length ≤ sizeLine ∧
      (∀ C v s₂ m₂ E', v ∈ vs → Fr s₁.heap C s₂.heap m₂ → m₂ x = some v → wpAny (model prog w) A (eval elt (compEnvC scope cl C env)) (fun y s₃ => G v y ∧ Keeps s₂ s₃) E' s₂) ∧
      (∀ D h' tk (ys : List Value) n, s₁.heap.get? D = none → h'.get? D = some (listOf ys.toArray n) → Paired G vs ys → s₁.heap.StaysIn h' → Q (.ref D) { s₁ with heap := h', toks := tk })) E s)
    (hs : ∀ x, foldedSetIterable iter env x = pure x := by intro _; rfl) :
    wpAny (model prog w) A (eval (.ListComp elt [⟨.Name x px, iter, [], 0⟩] scope pos) env) Q E s := by
  refine wpAny_ListComp_free (fun _ => true) G hclos hcell hkind hnames hx (wpAny_mono h (fun xv s₁ h₁ => ?_) fun _ _ e => e) hs
  obtain ⟨rfl, hl, hsz, helt, hQ⟩ := h₁
  have hlt : ax < s₁.heap.objs.size := by obtain ⟨_, e, _⟩ := hl; exact Heap.lt_size e
  have up : ∀ (h₃ : Heap), (∀ b o, b ∉ [s₁.heap.objs.size] → (s₁.heap.push { cls := .type "list_iterator", data := .fields #[.ref ax, .int 0 0] }).get? b = some o → h₃.get? b = some o) → s₁.heap.StaysIn h₃ :=
    fun h₃ hk b o e => hk b o (fun hm => Nat.lt_irrefl _ ((List.mem_singleton.mp hm) ▸ Heap.lt_size e)) (Heap.get?_push_of_some _ e)
  refine wpAny_pyIter_list hl ⟨s₁.heap.objs.size, [s₁.heap.objs.size, ax], [s₁.heap.objs.size], vs.toArray.size, _, _, rfl, Walks.list hh _ _ (Nat.ne_of_lt hlt) vs.toArray, (by rw [List.size_toArray]; exact hsz), ⟨⟨_, Heap.get?_push_size _ rfl, rfl, rfl⟩, hl.push _⟩, ?_, ⟨?_, ?_⟩, ?_⟩
  · intro b hb
    show b < (s₁.heap.push _).objs.size
    rw [Heap.size_push]
    rcases List.mem_cons.mp hb with rfl | hb
    · exact Nat.lt_succ_self _
    · rw [List.mem_singleton.mp hb]; exact Nat.lt_succ_of_lt hlt
  · intro C i v s₃ m₃ E' hC hP hn hm hk _
    exact wpAny_tests_nil ⟨rfl, s₃.heap, s₃.toks, rfl, fun _ _ e => e⟩
  · intro C i v s₃ m₃ E' hC hP hp hn hm hk _
    have hC' : s₁.heap.objs.size ≤ C := Nat.le_of_succ_le (by simpa [Heap.size_push] using hC)
    exact helt C v s₃ m₃ E' (by simpa using Array.mem_of_getElem? hP) ⟨hn, up _ hk, hC'⟩ hm
  · intro D h' tk ys vs' hnew hlD hplD hlen hP hF hk
    have e : vs' = vs := by simpa using list_of_places hlen hP
    subst e
    obtain ⟨n, hD⟩ := hplD
    rw [filter_yes] at hF
    refine hQ D h' tk ys.toList n ?_ (by rw [Array.toArray_toList]; exact hD) hF (up _ hk)
    cases e : s₁.heap.get? D with
    | none => rfl
    | some o' => rw [Heap.get?_push_of_some _ e] at hnew; cases hnew
end
end
section
open PySem PySem.W PyProof.Rows
set_option Elab.async false
set_option maxRecDepth 100000
open PySem PySem.Spec PySem.Calls PyProof.Rows PySem.W
theorem newsNew {h₀ h h' : Heap} {L D : Addr} {m : Str → Option Value} {o : Obj} {news : List (Addr × Obj)} (F : Fr h₀ L h m) (N : News h₀ L h news) (st : h.StaysIn h') (hD : h.get? D = none) (hD' : h'.get? D = some o) : Fr h₀ L h' m ∧ News h₀ L h' ((D, o) :: news) := by
  refine ⟨F.keeps st, fun p hp => ?_⟩
  rcases List.mem_cons.mp hp with rfl | hp
  · refine ⟨hD', fun e => ?_, ?_⟩
    · obtain ⟨o, _, _, ho, _⟩ := F.ns
      have e' : D = L := e
      rw [e', ho] at hD; cases hD
    · cases q : h₀.get? D with
      | none => rfl
      | some o => rw [F.keep _ _ q] at hD; cases hD
  · exact N.grown st p hp
section
variable {prog : Program} {w : World} {A : Around} {E : Value → Shared → Prop} {env : Env}
/-- a list comprehension over bytes whose one test holds nowhere -/
theorem comp_none {s : Shared} {elt iter c : Expr} {x : Str} {px : Pos} {scope : Scope} {cl : List (Str × Addr)} {pos : Pos} {Q : Value → Shared → Prop} {l : List UInt8}
    (hh : A.handled = none) (hclos : closureFor scope env = pure cl) (hcell : ∀ y ∈ scope.names, y.2 ≠ .cell) (hkind : scope.kind = .function)
    (hnames : ∀ y ∈ scope.names, y.2 = .local → scope.names.lookup y.1 = some .local) (hx : scope.names.lookup x = some .local)
    (h : wpAny (model prog w) A (eval iter env) (fun xv s₁ => Hold ((∃ tb, xv = .bytes l.toArray tb) ∧ l.length ≤ sizeLine ∧
      (∀ C (b : UInt8) tv s₂ m₂ E', b ∈ l → Fr s₁.heap C s₂.heap m₂ → m₂ x = some (.int (b.toNat : Int) tv) → wpAny (model prog w) A (isTrue c (compEnvC scope cl C env) (eval c (compEnvC scope cl C env))) (fun ok s₃ => ok = false ∧ Keeps s₂ s₃) E' s₂) ∧
      (∀ D h' tk n, s₁.heap.get? D = none → h'.get? D = some (listOf #[] n) → s₁.heap.StaysIn h' → Q (.ref D) { s₁ with heap := h', toks := tk }))) E s)
    (hs : ∀ x, foldedSetIterable iter env x = pure x := by intro _; rfl) :
    wpAny (model prog w) A (eval (.ListComp elt [⟨.Name x px, iter, [c], 0⟩] scope pos) env) Q E s := by
  refine wpAny_ListComp_free (fun _ => false) (fun _ _ => False) hclos hcell hkind hnames hx (wpAny_mono h (fun xv s₁ h₁ => ?_) fun _ _ e => e) hs
  obtain ⟨⟨tb, rfl⟩, hsz, htest, hQ⟩ := h₁.h
  have up : ∀ (h₃ : Heap), (∀ b o, b ∉ [s₁.heap.objs.size] → (s₁.heap.push { cls := .type "bytes_iterator", data := .fields #[.bytes l.toArray tb, .int 0 0] }).get? b = some o → h₃.get? b = some o) → s₁.heap.StaysIn h₃ :=
    fun h₃ hk b o e => hk b o (fun hm => Nat.lt_irrefl _ ((List.mem_singleton.mp hm) ▸ Heap.lt_size e)) (Heap.get?_push_of_some _ e)
  refine KBw.pyIter_bytes ⟨s₁.heap.objs.size, [s₁.heap.objs.size], [s₁.heap.objs.size], l.toArray.size, _, _, rfl, KBw.walks hh s₁.heap.objs.size l.toArray tb, (by rw [List.size_toArray]; exact hsz), ⟨_, Heap.get?_push_size _ rfl, rfl, rfl⟩, ?_, ⟨?_, ?_⟩, ?_⟩
  · intro b hb
    show b < (s₁.heap.push _).objs.size
    rw [Heap.size_push, List.mem_singleton.mp hb]
    exact Nat.lt_succ_self _
  · rintro C i v s₃ m₃ E' hC ⟨b, tv, hb, rfl⟩ hn hm hk _
    have hC' : s₁.heap.objs.size ≤ C := Nat.le_of_succ_le (by simpa [Heap.size_push] using hC)
    exact wpAny_tests_one (htest C b tv s₃ m₃ E' (by simpa using Array.mem_of_getElem? hb) ⟨hn, up _ hk, hC'⟩ hm)
  · intro C i v s₃ m₃ E' hC hP hp hn hm hk _
    cases hp
  · intro D h' tk ys vs' hnew hlD hplD hlen hP hF hk
    obtain ⟨n, hD⟩ := hplD
    have e0 : vs'.filter (fun _ => false) = [] := by simp
    rw [e0] at hF
    have e1 : ys.toList = [] := by cases q : ys.toList with
      | nil => rfl
      | cons a r => rw [q] at hF; cases hF
    have e2 : ys = #[] := by rw [← Array.toArray_toList (xs := ys), e1]
    rw [e2] at hD
    refine hQ D h' tk n ?_ hD (up _ hk)
    cases e : s₁.heap.get? D with
    | none => rfl
    | some o' => rw [Heap.get?_push_of_some _ e] at hnew; cases hnew

theorem int_inj {i i' : Nat} {t t' : Tok} (e : Value.int (i : Int) t = Value.int (i' : Int) t') : i' = i := by
  cases e; rfl
theorem ints_of_paired {f : Nat → Int} : ∀ (vs ys : List Value) (k : Nat), (∀ (j : Nat) v, vs[j]? = some v → ∃ t, v = .int ((k + j : Nat) : Int) t) → Paired (fun v y => ∀ (i : Nat) t, v = .int (i : Int) t → ∃ ty, y = Value.int (f i) ty) vs ys → IntsAre ys ((List.range' k vs.length).map f)
  | [], _, k, _, hp => by cases hp; exact .nil
  | v :: vs, _, k, hv, hp => by
    cases hp with
    | cons a b =>
      obtain ⟨t, rfl⟩ := hv 0 v rfl
      obtain ⟨ty, rfl⟩ := a k t (by simp)
      rw [List.length_cons, List.range'_succ, List.map_cons]
      refine .cons _ _ (ints_of_paired vs _ (k + 1) (fun j v' hv' => ?_) b)
      obtain ⟨t', e⟩ := hv (j + 1) v' hv'
      exact ⟨t', by rw [e]; congr 1; omega⟩

/-- a list comprehension over range(n), without tests, of ints -/
theorem comp_range {s : Shared} {elt iter : Expr} {x : Str} {px : Pos} {scope : Scope} {cl : List (Str × Addr)} {pos : Pos} {Q : Value → Shared → Prop} (f : Nat → Int) (n : Nat)
    (hh : A.handled = none) (hclos : closureFor scope env = pure cl) (hcell : ∀ y ∈ scope.names, y.2 ≠ .cell) (hkind : scope.kind = .function)
    (hnames : ∀ y ∈ scope.names, y.2 = .local → scope.names.lookup y.1 = some .local) (hx : scope.names.lookup x = some .local)
    (h : wpAny (model prog w) A (eval iter env) (fun xv s₁ => Hold (∃ r t₀ u₀ v₀, xv = .ref r ∧ IsRange s₁.heap r 0 (n : Int) 1 t₀ u₀ v₀ ∧ n ≤ 100000 ∧
      (∀ C (i : Nat) tv s₂ m₂ E', i < n → Fr s₁.heap C s₂.heap m₂ → m₂ x = some (.int (i : Int) tv) → wpAny (model prog w) A (eval elt (compEnvC scope cl C env)) (fun y s₃ => Hold ((∃ ty, y = .int (f i) ty) ∧ Keeps s₂ s₃)) E' s₂) ∧
      (∀ D h' tk (ys : List Value) k, s₁.heap.get? D = none → h'.get? D = some (listOf ys.toArray k) → IntsAre ys ((List.range n).map f) → s₁.heap.StaysIn h' → Q (.ref D) { s₁ with heap := h', toks := tk }))) E s)
    (hs : ∀ x, foldedSetIterable iter env x = pure x := by intro _; rfl) :
    wpAny (model prog w) A (eval (.ListComp elt [⟨.Name x px, iter, [], 0⟩] scope pos) env) Q E s := by
  refine wpAny_ListComp_free (fun _ => true) (fun v y => ∀ (i : Nat) t, v = .int (i : Int) t → ∃ ty, y = Value.int (f i) ty) hclos hcell hkind hnames hx (wpAny_mono h (fun xv s₁ h₁ => ?_) fun _ _ e => e) hs
  obtain ⟨r, t₀, u₀, v₀, rfl, hr, hsz, helt, hQ⟩ := h₁.h
  have hn : Builtin.Range.rangeSize 0 (n : Int) 1 = (n : Int) := by
    have := rangeSize_nat 0 (n : Int)
    simpa using this
  have hsmall : Builtin.Range.small 0 (n : Int) 1 = true := small_one (by omega) (by omega) (by omega) (by omega)
  have up : ∀ (h₃ : Heap), (∀ b o, b ∉ [s₁.heap.objs.size] → (s₁.heap.push { cls := .type "range_iterator", data := .fields #[rawInt 0, rawInt (Builtin.Range.rangeSize 0 (n : Int) 1), rawInt 1] }).get? b = some o → h₃.get? b = some o) → s₁.heap.StaysIn h₃ :=
    fun h₃ hk b o e => hk b o (fun hm => Nat.lt_irrefl _ ((List.mem_singleton.mp hm) ▸ Heap.lt_size e)) (Heap.get?_push_of_some _ e)
  refine wpAny_pyIter_range hr hsmall ⟨s₁.heap.objs.size, [s₁.heap.objs.size], [s₁.heap.objs.size], n, _, _, rfl, (Walks.range hh _ 0 1 n).bound, (by rw [sizeLine_eq]; omega), (by show IsRangeIter _ _ _ _ _; rw [hn]; simpa using Heap.get?_push_size _ rfl), ?_, ⟨?_, ?_⟩, ?_⟩
  · intro b hb
    show b < (s₁.heap.push _).objs.size
    rw [Heap.size_push, List.mem_singleton.mp hb]
    exact Nat.lt_succ_self _
  · intro C i v s₃ m₃ E' hC hP hn' hm hk _
    exact wpAny_tests_nil ⟨rfl, s₃.heap, s₃.toks, rfl, fun _ _ e => e⟩
  · intro C i v s₃ m₃ E' hC hP hp hn' hm hk _
    obtain ⟨hin, tv, rfl⟩ := hP
    have e0 : (0 : Int) + (i : Int) * 1 = (i : Int) := by rw [Int.zero_add, Int.mul_one]
    rw [e0] at hm
    have hC' : s₁.heap.objs.size ≤ C := Nat.le_of_succ_le (by simpa [Heap.size_push] using hC)
    refine wpAny_mono (helt C i tv s₃ m₃ E' hin ⟨hn', up _ hk, hC'⟩ hm) (fun y s₄ h₄ => ⟨fun i' t' e => ?_, h₄.h.2⟩) fun _ _ e => e
    have e1 : i' = i := by
      rw [e0] at e
      exact int_inj e
    rw [e1]; exact h₄.h.1
  · intro D h' tk ys vs' hnew hlD hplD hlen hP hF hk
    obtain ⟨k, hD⟩ := hplD
    rw [filter_yes] at hF
    have hi := ints_of_paired vs' ys.toList 0 (fun j v hv => by
      obtain ⟨_, t, e⟩ := hP j v hv
      have e0 : (0 : Int) + (j : Int) * 1 = ((0 + j : Nat) : Int) := by rw [Int.zero_add, Int.mul_one, Nat.zero_add]
      exact ⟨t, by rw [e, e0]⟩) hF
    rw [hlen, ← List.range_eq_range'] at hi
    refine hQ D h' tk ys.toList k ?_ (by rw [Array.toArray_toList]; exact hD) hi (up _ hk)
    cases e : s₁.heap.get? D with
    | none => rfl
    | some o' => rw [Heap.get?_push_of_some _ e] at hnew; cases hnew
end
end
section
open PySem PySem.W PyProof.Rows
set_option Elab.async false
set_option maxRecDepth 100000
open PySem PySem.Spec PySem.Calls PyProof.Rows PySem.W
/-- a written part against its tree -/
noncomputable def WritRel (G : Addr → Obj → Prop) (v y : Value) : Prop := ∀ t, TreeAt G t v → ∃ tk, y = .bytes (written t).toArray tk
theorem writ_all {G : Addr → Obj → Prop} : ∀ (ts : List Tree) (vs ys : List Value), TreesAt G ts vs → Paired (WritRel G) vs ys → ∃ ls, ys = bvals ls ∧ bflat ls = body ts
  | [], vs, ys, h, hp => by
    unfold TreesAt at h
    subst h
    cases hp
    exact ⟨[], rfl, by simp [bflat, body]⟩
  | t :: ts, vs, ys, h, hp => by
    unfold TreesAt at h
    obtain ⟨v, r, rfl, h1, h2⟩ := h
    cases hp with
    | cons a b =>
      obtain ⟨tk, rfl⟩ := a t h1
      obtain ⟨ls, rfl, e⟩ := writ_all ts r _ h2 b
      refine ⟨(written t, tk) :: ls, rfl, ?_⟩
      show written t ++ bflat ls = _
      rw [e]; simp [body]
theorem getFun {h : Heap} (a : Addr) (o o' : Obj) (e : h.get? a = some o) (e' : h.get? a = some o') : o = o' := Option.some.inj (e.symm.trans e')
end
section
open PySem PySem.W PyProof.Rows
set_option Elab.async false
set_option maxRecDepth 100000
set_option maxHeartbeats 8000000
open PySem PySem.Spec PySem.Calls PyProof.Rows PySem.W
local macro_rules | `(tactic| walk_at "getMethod bytes") => `(tactic| (k_here; (with_reducible refine meth_join ?_)))
local macro_rules | `(tactic| walk_at "eval ListComp") => `(tactic| refine Hold.h ?_)
local macro_rules | `(tactic| walk_at "call builtin:bytes.join") => `(tactic| refine Hold.h ?_)
local macro_rules | `(tactic| walk_at "call ref") => `(tactic| ((with_reducible show wpAny _ _ (call (Value.ref 92) [Value.int _ _]) _ _ _); k_dflt (refine' int2ap ?k1 ?k2 ?_ ?_; (case k1 => walk_at "MY cx"); (case k2 => walk_at "MY room")); rotate_left; (intro _ _ _ _); walk_at "MY back"; rotate_left))
local macro_rules | `(tactic| walk_at "call ref") => `(tactic| ((with_reducible show wpAny _ _ (call (Value.ref 112) [Value.bytes (List.toArray _) _]) _ _ _); k_dflt (refine' plain_ ?k1 ?k2 ?_; (case k1 => walk_at "MY cx"); (case k2 => walk_at "MY room")); (intro _ _ _); walk_at "MY back"))
local macro_rules | `(tactic| walk_at "call ref") => `(tactic| ((with_reducible show wpAny _ _ (call (Value.ref 100) [Value.bytes (List.toArray _) _] _) _ _ _); k_dflt (refine' b64enc ?k1 ?k2 ?_ ?_; (case k1 => walk_at "MY cx"); (case k2 => walk_at "MY room")); rotate_left; (intro _ _ _ _); walk_at "MY back"; rotate_left))
local macro_rules | `(tactic| walk_at "call ref") => `(tactic| ((with_reducible show wpAny _ _ (call (Value.ref 71) [Value.ref _, Value.bytes (List.toArray _) _] _) _ _ _); k_dflt (refine' encode_ ?k1 ?k2 ?_ ?_; (case k1 => walk_at "MY cx"); (case k2 => walk_at "MY room")); rotate_left; (intro _ _ _ _); walk_at "MY back"; rotate_left))
local macro_rules | `(tactic| walk_at "call ref") => `(tactic| ((with_reducible show wpAny _ _ (call (Value.ref 81) [Value.none] _) _ _ _); k_dflt (refine' auth_ ?k1 ?k2 ?k3 ?k4 ?_; (case k1 => k_asm); (case k2 => exact ⟨by assumption, by assumption⟩); (case k3 => k_asm); (case k4 => walk_at "MY room")); (intro x' dx' hs' tm' h' tk' F' N'); (try k_sweep)))
local macro_rules | `(tactic| walk_at "call type:type") => `(tactic| (k_here; (with_reducible show wpAny _ _ (call (Value.type "type") [Value.ref _]) _ _ _); refine ltype (by assumption) (by assumption) ?_))
local macro_rules | `(tactic| walk_at "eval Name") => `(tactic| ((with_reducible show wpAny _ _ (eval (Expr.Name _ _) (compEnvC _ _ _ _)) _ _ _); k_dflt (first | (refine' ldVarK (Fr.ns (by assumption)) (by assumption) ?_ ?ka ?kb ?kc; (case ka => exact rfl); (case kb => exact rfl); (case kc => decide)) | (refine' ldCellK ?kd (by assumption) ?_ ?ka ?kb ?kc; (case kd => exact rfl); (case ka => exact rfl); (case kb => exact rfl); (case kc => decide)) | (refine' nameG_K (Fr.keeps (by assumption) (fun _ _ h9 => h9)) (by assumption) (by assumption) ?kd ?_ ?ke ?ka ?kb ?kc; (case kd => k_is); (case ke => exact rfl); (case ka => exact rfl); (case kb => exact rfl); (case kc => decide)))))
local macro_rules | `(tactic| walk_at "MY enterW") => `(tactic| (k_dflt (refine' enterC (binds := ?bs) ?ps ?kC ?k6 ?k7 ?k8 ?k9 ?kB ?kD ?hps ?_ ?c2 ?c3 ?c4; (case kC => assumption); (case k6 => k_is); (case k7 => k_is); (case k8 => omega); (case k9 => exact BindsTo.of_eq rfl); (case kB => exact rfl); (case kD => decide +kernel); (case c2 => exact rfl); (case c3 => exact rfl); (case c4 => exact rfl))))

theorem written_num {prog : Program} {w : World} {n : Nat} {A : Around} {s : Shared} {mean mg mb} {t d td} {Q : Value → Shared → Prop} {E : Value → Shared → Prop} (C : Cx w mean mg mb s.heap) (hr : Room A 4 40)
    (hlen : (written (.num n)).length ≤ 3000) (h : ∀ h' t' k, s.heap.StaysIn h' → Q (.bytes (written (.num n)).toArray t') { s with heap := h', toks := k })
    : wpAny (model prog w) A (call (.ref 117) [.int n t, .int d td]) Q E s := by
  walk_at "MY fill"
  obtain ⟨hn0, dp, fr, gd, un⟩ := A
  obtain ⟨hh, hr, hu⟩ := hr
  obtain rfl : hn0 = none := hh
  k_dflt (refine' enterC (binds := [("tree", .int n t), ("depth", .int d td)]) [("tree", .int n t)] C ?k6 ?k7 ?k8 ?k9 ?kB ?kD ?hps ?_ ?c2 ?c3 ?c4; (case k6 => k_is); (case k7 => k_is); (case k8 => omega); (case k9 => exact BindsTo.of_eq rfl); (case kB => exact rfl); (case kD => decide +kernel); (case c2 => exact rfl); (case c3 => exact rfl); (case c4 => exact rfl))
  case hps => intro _; walk_at "MY all"
  intro g L h₁ u tk cells hg F N Y X T
  have Y1 := CellsAre.one Y
  obtain ⟨o1, rfl, d1⟩ := Y1
  clear Y d1
  simp only [written] at h hlen
  rw [List.length_append] at hlen
  w_on
  walk_at "MY go"
  · exact ⟨by simp; omega⟩
  · rename Fr _ _ _ _ => F
    subst hg
    exact h _ _ _ F.keep

theorem written_oct {prog : Program} {w : World} {l : List UInt8} {A : Around} {s : Shared} {mean mg mb} {t d td} {Q : Value → Shared → Prop} {E : Value → Shared → Prop} (C : Cx w mean mg mb s.heap) (hr : Room A 4 40)
    (hlen : (written (.oct l)).length ≤ 3000) (h : ∀ h' t' k, s.heap.StaysIn h' → Q (.bytes (written (.oct l)).toArray t') { s with heap := h', toks := k })
    : wpAny (model prog w) A (call (.ref 117) [.bytes l.toArray t, .int d td]) Q E s := by
  walk_at "MY fill"
  obtain ⟨hn0, dp, fr, gd, un⟩ := A
  obtain ⟨hh, hr, hu⟩ := hr
  obtain rfl : hn0 = none := hh
  k_dflt (refine' enterC (binds := [("tree", .bytes l.toArray t), ("depth", .int d td)]) [("tree", .bytes l.toArray t)] C ?k6 ?k7 ?k8 ?k9 ?kB ?kD ?hps ?_ ?c2 ?c3 ?c4; (case k6 => k_is); (case k7 => k_is); (case k8 => omega); (case k9 => exact BindsTo.of_eq rfl); (case kB => exact rfl); (case kD => decide +kernel); (case c2 => exact rfl); (case c3 => exact rfl); (case c4 => exact rfl))
  case hps => intro _; walk_at "MY all"
  intro g L h₁ u tk cells hg F N Y X T
  have Y1 := CellsAre.one Y
  obtain ⟨o1, rfl, d1⟩ := Y1
  clear Y d1
  simp only [written] at h hlen
  rw [List.length_append, List.length_append] at hlen
  w_on
  walk_at "MY go"
  · exact ⟨by omega⟩
  · exact ⟨by simp; omega⟩
  · exact ⟨by simp; omega⟩
  · rename Fr _ _ _ _ => F
    subst hg
    exact h _ _ _ F.keep

theorem written_node {prog : Program} {w : World} {ts : List Tree} {vs : List Value} {a k} {A : Around} {s : Shared} {mean mg mb} {d td} {Q : Value → Shared → Prop} {E : Value → Shared → Prop} (C : Cx w mean mg mb s.heap) (hr : Room A 4 40)
    (ha : s.heap.get? a = some (listOf vs.toArray k)) (hts : TreesAt (fun a o => s.heap.get? a = some o) ts vs) (hd0 : 0 ≤ d)
    (IH : ∀ (t : Tree), t ∈ ts → ∀ {A' : Around} {s' : Shared} {v' : Value} {d' td'} {Q : Value → Shared → Prop} {E : Value → Shared → Prop}, Cx w mean mg mb s'.heap → A'.handled = none → A'.depth = A.depth + 1 → A'.units ≤ A.units + 10 → TreeAt (fun a o => s'.heap.get? a = some o) t v' → 0 ≤ d' →
      (∀ h' t' k, s'.heap.StaysIn h' → Q (.bytes (written t).toArray t') { s' with heap := h', toks := k }) → wpAny (model prog w) A' (call (.ref 117) [v', .int d' td']) Q E s')
    (hlen : (written (.node ts)).length ≤ 3000) (h : ∀ h' t' k, s.heap.StaysIn h' → Q (.bytes (written (.node ts)).toArray t') { s with heap := h', toks := k })
    : wpAny (model prog w) A (call (.ref 117) [.ref a, .int d td]) Q E s := by
  walk_at "MY fill"
  obtain ⟨hn0, dp, fr, gd, un⟩ := A
  obtain ⟨hh, hr, hu⟩ := hr
  obtain rfl : hn0 = none := hh
  k_dflt (refine' enterC (binds := [("tree", .ref a), ("depth", .int d td)]) [("tree", .ref a)] C ?k6 ?k7 ?k8 ?k9 ?kB ?kD ?hps ?_ ?c2 ?c3 ?c4; (case k6 => k_is); (case k7 => k_is); (case k8 => omega); (case k9 => exact BindsTo.of_eq rfl); (case kB => exact rfl); (case kD => decide +kernel); (case c2 => exact rfl); (case c3 => exact rfl); (case c4 => exact rfl))
  case hps => intro _; walk_at "MY all"
  intro g L h₁ u tk cells hg F N Y X T
  have Y1 := CellsAre.one Y
  obtain ⟨o1, rfl, d1⟩ := Y1
  replace d1 : o1.data = .cell (some (.int d td)) := d1
  clear Y
  simp only [written] at h hlen
  rw [List.length_append, List.length_append] at hlen
  have hb : (body ts).length ≤ 3000 := by rw [b64_length] at hlen; omega
  have hbt := length_le_body ts
  rw [← hg] at ha hts
  w_on
  walk_at "MY go"
  refine ⟨?_⟩
  refine comp_list (WritRel fun a o => g.get? a = some o) (ax := a) (vs := vs) (cl := [("depth", L + 1)]) rfl (by with_unfolding_all rfl) (by decide) rfl (by decide) rfl ?_
  refine nameX_L F rfl ?_ rfl rfl (by decide)
  have hN1 := (N (L + 1, o1) (.head _)).1
  have C₁ := Cx.keeps ⟨X, T⟩ F.keep
  refine ⟨rfl, ⟨_, F.keep _ _ ha, rfl, k, rfl⟩, by rw [hts.length, sizeLine_eq]; omega, ?_, ?_⟩
  · intro C' v s₂ m₂ E' hv F₂ hm
    obtain ⟨i, t, hi, hvt⟩ := treesAt_mem hts hv
    have X₁ := X.keeps F.keep
    have T₁ := topRead_of (T.keeps F.keep)
    have hc : s₂.heap.IsCell (L + 1) (some (.int d td)) := ⟨o1, F₂.keep _ _ hN1, d1⟩
    have st₂ : g.StaysIn s₂.heap := fun b o e => F₂.keep _ _ (F.keep _ _ e)
    clear F N
    walk_at "MY go"
    refine IH t (List.mem_of_getElem? hi) (C₁.keeps F₂.keep) rfl rfl (by show un + 3 ≤ un + 10; omega) (TreeAt.mono (fun a o e => st₂ a o e) t v hvt) (by omega) ?_
    intro h' t' k' st
    refine ⟨fun t2 h2 => ?_, h', k', rfl, st⟩
    obtain rfl := TreeAt.uniq getFun t t2 v hvt h2
    exact ⟨_, rfl⟩
  · intro D h' tk ys n hD hD' hP st
    obtain ⟨ls, rfl, hls⟩ := writ_all ts vs ys hts hP
    have hDL : D ≠ L := fun e => by
      obtain ⟨o, _, _, ho, _⟩ := F.ns
      rw [e, ho] at hD; cases hD
    have hDg : g.get? D = none := by
      cases q : g.get? D with
      | none => rfl
      | some o => rw [F.keep _ _ q] at hD; cases hD
    have F' := F.keeps st
    have N' : News g L h' [(D, listOf (bvals ls).toArray n), (L + 1, o1)] := by
      intro p hp
      rcases List.mem_cons.mp hp with rfl | hp
      · exact ⟨hD', hDL, hDg⟩
      · exact N.grown st p hp
    clear F N st hP hD IH
    walk_at "MY go"
    refine ⟨?_⟩
    refine call_join (ls := ls) (n := n) (by rw [hls]; omega) hD' ?_
    rw [hls]
    intro t' k'
    walk_at "MY steps"
    · exact ⟨by omega⟩
    · exact ⟨by simp at hlen ⊢; omega⟩
    · exact ⟨by simp at hlen ⊢; omega⟩
    · rename Fr _ _ _ _ => F
      subst hg
      exact h _ _ _ F.keep
    · exact ⟨by omega⟩
    · exact ⟨by simp at hlen ⊢; omega⟩
    · exact ⟨by simp at hlen ⊢; omega⟩
    · rename Fr _ _ _ _ => F
      subst hg
      exact h _ _ _ F.keep

/-- the writer: a tree of at most this height -/
theorem written_ {prog : Program} {w : World} {mean mg mb} : ∀ (n : Nat) (tr : Tree), height tr ≤ n → ∀ {A : Around} {s : Shared} {v : Value} {d td} {Q : Value → Shared → Prop} {E : Value → Shared → Prop}, Cx w mean mg mb s.heap → A.handled = none → A.depth + n + 4 < recursionLimit → A.units + 10 * n + 40 < cLine →
    TreeAt (fun a o => s.heap.get? a = some o) tr v → 0 ≤ d → (written tr).length ≤ 3000 → (∀ h' t' k, s.heap.StaysIn h' → Q (.bytes (written tr).toArray t') { s with heap := h', toks := k }) →
    wpAny (model prog w) A (call (.ref 117) [v, .int d td]) Q E s := by
  intro n
  induction n with
  | zero =>
    intro tr ht A s v d td Q E C hh hd hu hT h0 hlen h
    cases tr with
    | num n => unfold TreeAt at hT; obtain ⟨tk, rfl⟩ := hT; exact written_num C ⟨hh, by omega, by omega⟩ hlen h
    | oct l => unfold TreeAt at hT; obtain ⟨tk, rfl⟩ := hT; exact written_oct C ⟨hh, by omega, by omega⟩ hlen h
    | node ts => rw [height_pos_node] at ht; omega
  | succ n ih =>
    intro tr ht A s v d td Q E C hh hd hu hT h0 hlen h
    cases tr with
    | num n => unfold TreeAt at hT; obtain ⟨tk, rfl⟩ := hT; exact written_num C ⟨hh, by omega, by omega⟩ hlen h
    | oct l => unfold TreeAt at hT; obtain ⟨tk, rfl⟩ := hT; exact written_oct C ⟨hh, by omega, by omega⟩ hlen h
    | node ts =>
      unfold TreeAt at hT
      obtain ⟨a, vs, k, rfl, ha, hts⟩ := hT
      rw [height_pos_node] at ht
      refine written_node C ⟨hh, by omega, by omega⟩ ha hts h0 ?_ hlen h
      intro t hm A' s' v' d' td' Q' E' C' hh' hd' hu' hT' h0' h'
      obtain ⟨i, hi, e⟩ := List.getElem_of_mem hm
      have hi' : ts[i]? = some t := by rw [List.getElem?_eq_getElem hi, e]
      have h1 := heights_get ts i t hi'
      have h2 := written_get ts i t hi'
      have h3 := body_length_le ts
      exact ih t (by omega) C' hh' (by omega) (by omega) hT' h0' (by omega) h'
end
section
open PySem PySem.W PyProof.Rows
set_option Elab.async false
set_option maxRecDepth 100000
set_option maxHeartbeats 8000000
open PySem PySem.Spec PySem.Calls PyProof.Rows PySem.W
local macro_rules | `(tactic| walk_at "getMethod bytes") => `(tactic| (k_here; (with_reducible refine meth_find ?_)))
local macro_rules | `(tactic| walk_at "eval ListComp") => `(tactic| refine Hold.h ?_)
local macro_rules | `(tactic| walk_at "pyIter bytes") => `(tactic| refine Hold.h ?_)
local macro_rules | `(tactic| walk_at "call builtin:bytes.find") => `(tactic| refine Hold.h ?_)
local macro_rules | `(tactic| walk_at "exec For Name Subscript cons nil") => `(tactic| (k_here; (rename Fr _ _ _ _ => lF'); (with_unfolding_all refine' For_invVF lF' ?k1 ?k2 ?_; (case k1 => exact rfl); (case k2 => exact rfl); k_whole)))
local macro_rules | `(tactic| walk_at "binaryOp FloorDiv int int") => `(tactic| (k_here; (with_reducible show wpAny _ _ (binaryOp Operator.FloorDiv (Value.int _ _) (Value.int (HPow.hPow _ _) _)) _ _ _); k_dflt (refine idiv ?_ ?_); rotate_left; intro _ _; rotate_left))
local macro_rules | `(tactic| walk_at "subscriptTail ListComp") => `(tactic| (k_here; k_dflt (refine kba_turn (value' := PySem.Expr.Name (PySem.Str.ofString "_") ⟨0, 0, 0, 0⟩) (fun _ => rfl) ?_); refine Hold.h ?_))
local macro_rules | `(tactic| walk_at "call type:bytes") => `(tactic| refine Hold.h ?_)
local macro_rules | `(tactic| walk_at "compareOp NotEq ref ref") => `(tactic| refine Hold.h ?_)
local macro_rules | `(tactic| walk_at "compareOp NotIn int bytes") => `(tactic| refine Hold.h ?_)
local macro_rules | `(tactic| walk_at "eval Name") => `(tactic| ((with_reducible show wpAny _ _ (eval (Expr.Name _ _) (compEnvC _ _ _ _)) _ _ _); k_dflt (first | (refine' ldVarK (Fr.ns (by assumption)) (by assumption) ?_ ?ka ?kb ?kc; (case ka => exact rfl); (case kb => exact rfl); (case kc => decide)) | (refine' ldCellK (by exact rfl) (by assumption) ?_ ?ka ?kb ?kc; (case ka => exact rfl); (case kb => exact rfl); (case kc => decide)) | (refine' nameG_K (Fr.keeps (by assumption) (fun _ _ h9 => h9)) (by assumption) (by assumption) ?kd ?_ ?ke ?ka ?kb ?kc; (case kd => k_is); (case ke => exact rfl); (case ka => exact rfl); (case kb => exact rfl); (case kc => decide)))))
local macro_rules | `(tactic| walk_at "binaryOp Mult bytes int") => `(tactic| (k_here; (with_reducible show wpAny _ _ (binaryOp Operator.Mult (Value.bytes (List.toArray _) _) (Value.int _ _)) _ _ _); k_dflt (refine bmul ?_ ?_); rotate_left; intro _ _; rotate_left))
local macro_rules | `(tactic| walk_at "binaryOp Pow int int") => `(tactic| (k_here; (with_reducible show wpAny _ _ (binaryOp Operator.Pow (Value.int _ _) (Value.int _ _)) _ _ _); k_dflt (refine ipow ?_ ?_); rotate_left; intro _ _; rotate_left))
theorem pow_log2 (k : Nat) : ((2 : Int) ^ k).natAbs.log2 = k := by
  rw [← kbt_cast, Int.natAbs_natCast, Nat.log2_two_pow]
theorem pow256_log2 (k : Nat) : ((256 : Int) ^ k).natAbs.log2 = 8 * k := by
  have e : (256 : Int) ^ k = (2 : Int) ^ (8 * k) := by rw [Int.pow_mul]; rfl
  rw [e, pow_log2]
theorem someIntV {a b : Int} {t : Tok} (h : a = b) : Value.int a t = Value.int b t := by rw [h]
theorem oct_item (l : List UInt8) (i : Nat) (bits sp : Int) (hb : bits = ((val256 l * 2 ^ spare l.length : Nat) : Int)) (es : sp = ((spare l.length : Nat) : Int)) :
    ((bits.fdiv (2 ^ sp.toNat)).fdiv (256 ^ ((i : Nat) : Int).toNat)).fmod 256 = ((val256 l / 256 ^ i % 256 : Nat) : Int) := by
  rw [hb, es, Int.toNat_natCast, Int.toNat_natCast, Int.fdiv_eq_ediv_of_nonneg _ (Int.le_of_lt (kbt_pos _)), ← kbt_cast]
  have e1 : ((val256 l * 2 ^ spare l.length : Nat) : Int) / ((2 ^ spare l.length : Nat) : Int) = ((val256 l : Nat) : Int) := by
    rw [← Int.natCast_ediv, Nat.mul_div_cancel _ (Nat.two_pow_pos _)]
  rw [e1]
  have e2 : (256 : Int) ^ i = ((256 ^ i : Nat) : Int) := by rw [Int.natCast_pow]; rfl
  rw [e2, Int.fdiv_eq_ediv_of_nonneg _ (Int.natCast_nonneg _), ← Int.natCast_ediv, Int.fmod_eq_emod_of_nonneg _ (by decide)]
  rfl
theorem oct_rev (l : List UInt8) : ((List.range l.length).map (fun i => ((val256 l / 256 ^ i % 256 : Nat) : Int))).reverse = bI l := by
  suffices h : ∀ (r : List UInt8), ((List.range r.reverse.length).map (fun i => ((val256 r.reverse / 256 ^ i % 256 : Nat) : Int))).reverse = bI r.reverse by
    have := h l.reverse
    simpa using this
  intro r
  induction r with
  | nil => rfl
  | cons b r ih =>
    rw [List.reverse_cons, List.length_append]
    generalize r.reverse = q at ih
    show ((List.range (q.length + 1)).map _).reverse = _
    rw [List.range_succ_eq_map, List.map_cons, List.reverse_cons, List.map_map]
    have hb := b.toNat_lt
    have e1 : (List.range q.length).map ((fun i => ((val256 (q ++ [b]) / 256 ^ i % 256 : Nat) : Int)) ∘ Nat.succ) = (List.range q.length).map (fun i => ((val256 q / 256 ^ i % 256 : Nat) : Int)) := by
      refine List.map_congr_left fun i _ => ?_
      show ((val256 (q ++ [b]) / 256 ^ (i + 1) % 256 : Nat) : Int) = _
      rw [val256_snoc, Nat.pow_succ, Nat.mul_comm (256 ^ i), ← Nat.div_div_eq_div_mul]
      have e2 : (val256 q * 256 + b.toNat) / 256 = val256 q := by omega
      rw [e2]
    rw [e1, ih, val256_snoc]
    have e3 : (val256 q * 256 + b.toNat) / 256 ^ 0 % 256 = b.toNat := by rw [Nat.pow_zero, Nat.div_one]; omega
    rw [e3]
    simp [bI]
theorem octets_ {prog : Program} {w : World} {l : List UInt8} {A : Around} {s : Shared} {mean mg mb} {t tc} {Q : Value → Shared → Prop} {E : Value → Shared → Prop} (C : Cx w mean mg mb s.heap) (hr : Room A 4 100)
    (hlen : l.length ≤ 1000) (h : ∀ h' t' k, s.heap.StaysIn h' → Q (.bytes l.toArray t') { s with heap := h', toks := k })
    : wpAny (model prog w) A (call (.ref 122) [.bytes (b64 l).toArray t, .int (l.length : Nat) tc]) Q E s := by
  walk_at "MY fill"
  obtain ⟨hn0, dp, fr, gd, un⟩ := A
  obtain ⟨hh, hr, hu⟩ := hr
  obtain rfl : hn0 = none := hh
  k_dflt (refine' enterC (binds := [("signs", .bytes (b64 l).toArray t), ("count", .int (l.length : Nat) tc)]) [("signs", .bytes (b64 l).toArray t), ("count", .int (l.length : Nat) tc)] C ?k6 ?k7 ?k8 ?k9 ?kB ?kD ?hps ?_ ?c2 ?c3 ?c4; (case k6 => k_is); (case k7 => k_is); (case k8 => omega); (case k9 => exact BindsTo.of_eq rfl); (case kB => exact rfl); (case kD => decide +kernel); (case c2 => exact rfl); (case c3 => exact rfl); (case c4 => exact rfl))
  case hps => intro _; walk_at "MY all"
  intro g L h₁ u tk cells hg F N Y X T
  have Y1 := CellsAre.three Y
  obtain ⟨o1, o2, o3, rfl, d1, d2, d3⟩ := Y1
  replace d1 : o1.data = .cell none := d1
  replace d2 : o2.data = .cell none := d2
  replace d3 : o3.data = .cell none := d3
  clear Y
  w_on
  walk_at "MY go"
  · exact ⟨by rw [b64_length]; omega⟩
  refine ⟨?_⟩
  dsimp only at *
  rename_i oA dA _ _ _ _ _ _ oB dB _ oS dS hh0 tb kb F N
  have er : (8 * (l.length : Int) + 5).fdiv 6 = ((room l.length : Nat) : Int) := by
    rw [Int.fdiv_eq_ediv_of_nonneg _ (by decide)]; unfold room; omega
  have es : 6 * (8 * (l.length : Int) + 5).fdiv 6 - 8 * (l.length : Int) = ((spare l.length : Nat) : Int) := by
    rw [er]; unfold spare room; omega
  have eb : bcut (b64 l) none (some ((8 * (l.length : Int) + 5).fdiv 6)) = (digs l).map sign := by
    rw [er, bcut_take]
    unfold b64
    rw [List.take_append_of_le_length (by rw [List.length_map, digs_length]; exact Nat.le_refl _), List.take_of_length_le (by rw [List.length_map, digs_length]; exact Nat.le_refl _)]
  replace dA : oA.data = .cell (some (.bytes alpha.toArray tk)) := dA
  refine' for_bytes (σ := Obj × Int) (L := L) rfl (fun c => [(L + 1 + 1 + 1, oS), (L + 1 + 1, c.1), (L + 1, oA)]) (fun c => [("signs", .bytes (b64 l).toArray t), ("count", .int (l.length : Nat) tc), ("room", .int ((8 * (l.length : Int) + 5).fdiv 6) (tk + 1 + 1 + 1 + 1 + 1 + 1))])
    (fun i c => (∃ tb, c.1.data = .cell (some (.int c.2 tb))) ∧ c.2 = ((val64 ((digs l).take i) : Nat) : Int)) (oB, 0) rfl F N ?hl ?hk ?hp ?turn ?done
  case hl => exact fun _ h => .tail _ h
  case hk => walk_at "MY all"
  case hp => exact ⟨⟨_, dB⟩, rfl⟩
  case turn =>
    clear F N
    rintro i b tv ⟨o2, bits⟩ oI u h' tk' hi ⟨⟨t2, h01⟩, h02⟩ hne F N
    dsimp only at F N hne h01 h02
    rw [eb] at hi
    have hI1 := neN (hne _ (.head _))
    have hI2 := neN (hne _ (.tail _ (.head _)))
    have hI3 := neN (hne _ (.tail _ (.tail _ (.head _))))
    dsimp only at hI1 hI2 hI3
    obtain ⟨d, hd, rfl⟩ : ∃ d, (digs l)[i]? = some d ∧ sign d = b := by
      rw [List.getElem?_map] at hi
      cases q : (digs l)[i]? with
      | none => rw [q] at hi; cases hi
      | some d => rw [q] at hi; exact ⟨d, rfl, Option.some.inj hi⟩
    have hd64 := digs_lt l d (List.mem_of_getElem? hd)
    walk_at "MY go"
    refine ⟨?_⟩
    refine bfind hd64 ?_
    intro t' k'
    walk_at "MY steps"
    rename_i o4 F N d4
    refine' StEnd.mk (_, bits * 64 + (d : Int)) F N (fun _ h => h) ?hA ?hB
    case hA => walk_at "MY all"
    case hB =>
      refine ⟨⟨⟨_, d4⟩, ?_⟩, ?_⟩
      · show bits * 64 + (d : Int) = _
        rw [List.take_add_one, hd]
        show _ = ((val64 ((digs l).take i ++ [d]) : Nat) : Int)
        rw [val64_snoc, h02]
        omega
      · intro p hp
        rcases List.mem_cons.mp hp with rfl | hp
        · exact hI1
        · rcases List.mem_cons.mp hp with rfl | hp
          · exact hI2
          · rw [List.mem_singleton.mp hp]; exact hI3
  case done =>
    clear F N
    rintro ⟨o2, bits⟩ u h' tk' ⟨⟨t2, h01⟩, h02⟩ F N
    dsimp only at F N h01 h02
    rw [eb, List.length_map, List.take_length, val64_digs] at h02
    have e4 : (-(8 * (l.length : Int) + 5).fdiv 6).fmod 4 = ((pads l.length : Nat) : Int) := by
      rw [er, Int.fmod_eq_emod_of_nonneg _ (by decide)]; unfold pads; omega
    have e5 : bcut (b64 l) (some ((8 * (l.length : Int) + 5).fdiv 6)) none = (List.replicate ((-(8 * (l.length : Int) + 5).fdiv 6).fmod 4).toNat [(61 : UInt8)]).flatten := by
      rw [e4, er, bcut_drop]
      unfold b64
      rw [List.drop_append_of_le_length (by rw [List.length_map, digs_length]; exact Nat.le_refl _), List.drop_eq_nil_of_le (by rw [List.length_map, digs_length]; exact Nat.le_refl _)]
      simp
    have e6 : bits.fmod (2 ^ (6 * (8 * (l.length : Int) + 5).fdiv 6 - 8 * (l.length : Int)).toNat) = 0 := by
      rw [es, h02, Int.toNat_natCast, Int.fmod_eq_emod_of_nonneg _ (Int.le_of_lt (kbt_pos _)), ← kbt_cast]
      have : ((val256 l * 2 ^ spare l.length % 2 ^ spare l.length : Nat) : Int) = 0 := by rw [Nat.mul_mod_left]; rfl
      exact this
    walk_at "MY go"
    · exact ⟨by rw [b64_length]; omega⟩
    · exact ⟨by decide, by decide, Int.le_trans (Int.natCast_nonneg (pads l.length)) (Int.le_of_eq e4.symm), Int.le_trans (Int.le_of_eq e4) (by unfold pads; omega)⟩
    · rename_i hx
      exact absurd e5 (by simpa using hx)
    · exact ⟨Int.le_trans (Int.natCast_nonneg (spare l.length)) (Int.le_of_eq es.symm), Int.le_trans (Int.le_of_eq es) (by unfold spare room; omega), Nat.lt_of_lt_of_le (show 2 < 2 ^ 2 by decide) (Nat.pow_le_pow_right (by decide) (by decide))⟩
    · refine ⟨?_⟩
      rename Fr _ _ _ _ => F
      rename News _ _ _ _ => N
      refine comp_none (l := (digs l).map sign) (cl := [("alphabet", L + 1)]) rfl (by with_unfolding_all rfl) (by decide) rfl (by decide) rfl ?_
      walk_at "MY go"
      · exact ⟨by rw [b64_length]; omega⟩
      rename Fr _ _ _ _ => F
      rename News _ _ _ _ => N
      have C₁ := Cx.keeps ⟨X, T⟩ F.keep
      have hN1 := (N (L + 1, oA) (.tail _ (.tail _ (.head _)))).1
      rw [eb]
      refine ⟨⟨_, rfl⟩, by rw [List.length_map, digs_length, sizeLine_eq]; unfold room; omega, ?_, ?_⟩
      · intro C' b tv s₂ m₂ E' hb F₂ hm
        obtain ⟨d, hd, rfl⟩ := List.mem_map.mp hb
        have hd64 := digs_lt l d hd
        have hc : s₂.heap.IsCell (L + 1) (some (.bytes alpha.toArray tk)) := ⟨oA, F₂.keep _ _ hN1, dA⟩
        clear F N
        walk_at "MY go"
        refine ⟨?_⟩
        have hc := (sign d).toNat_lt
        refine notIn_bytes (by omega) (by omega) ?_
        rw [back_byte, alpha_has d hd64]
        walk_at "MY steps"
        exact ⟨_, _, rfl, fun _ _ e => e⟩
      · intro D h' tk n hD hD' st
        have FN := newsNew F N st hD hD'
        clear F N hD hD' st C₁
        have F := FN.1
        have N := FN.2
        clear FN
        walk_at "MY go"
        refine ⟨?_⟩
        rename Fr _ _ _ _ => F
        rename News _ _ _ _ => N
        refine ne_intsK (vs := []) (us := []) (ns := []) (ms := []) ⟨_, (N _ (.tail _ (.head _))).1, rfl, n, rfl⟩ .nil ⟨_, (N _ (.head _)).1, rfl, 0, rfl⟩ .nil (by show un + 3 + 64 < cLine; omega) ?_
        walk_at "MY steps"
        refine ⟨?_⟩
        refine comp_range (fun i => ((val256 l / 256 ^ i % 256 : Nat) : Int)) l.length (cl := [("spare", L + 1 + 1 + 1), ("bits", L + 1 + 1)]) rfl (by with_unfolding_all rfl) (by decide) rfl (by decide) rfl ?_
        walk_at "MY go"
        rename_i hR F N st9
        have hN2 := (N (L + 1 + 1, o2) (.tail _ (.tail _ (.tail _ (.head _))))).1
        have hN3 := (N (L + 1 + 1 + 1, oS) (.tail _ (.tail _ (.head _)))).1
        refine ⟨⟨_, _, _, _, rfl, hR, by omega, ?_, ?_⟩⟩
        · intro C' i tv s₂ m₂ E' hi F₂ hm
          have hc2 : s₂.heap.IsCell (L + 1 + 1) (some (.int bits t2)) := ⟨o2, F₂.keep _ _ hN2, h01⟩
          have hc3 : s₂.heap.IsCell (L + 1 + 1 + 1) (some (.int (6 * (8 * (l.length : Int) + 5).fdiv 6 - 8 * (l.length : Int)) _)) := ⟨oS, F₂.keep _ _ hN3, dS⟩
          clear F N st9
          walk_at "MY go"
          · exact ⟨Int.le_trans (Int.natCast_nonneg (spare l.length)) (Int.le_of_eq es.symm), Int.le_trans (Int.le_of_eq es) (by unfold spare room; omega), Nat.lt_of_lt_of_le (show 2 < 2 ^ 2 by decide) (Nat.pow_le_pow_right (by decide) (by decide))⟩
          · refine ⟨?_, ?_⟩
            · exact Int.ne_of_gt (kbt_pos _)
            · rw [pow_log2]
              have := congrArg Int.toNat es
              rw [Int.toNat_natCast] at this
              exact Nat.lt_of_le_of_lt (Nat.le_of_eq this) (by unfold spare room; omega)
          · exact ⟨by omega, by omega, Nat.lt_of_lt_of_le (show 256 < 2 ^ 9 by decide) (Nat.pow_le_pow_right (by decide) (by decide))⟩
          · refine ⟨?_, ?_⟩
            · exact Int.ne_of_gt (Int.pow_pos (by decide))
            · rw [pow256_log2, Int.toNat_natCast]
              omega
          · exact ⟨⟨_, someIntV (oct_item l i bits _ h02 es)⟩, _, _, rfl, fun _ _ e => e⟩
        · intro D2 h' tk ys k2 hD hD' hI st
          have FN := newsNew F N st hD hD'
          clear F N hD hD' st st9
          have F := FN.1
          have N := FN.2
          clear FN
          walk_at "MY go"
          refine ⟨?_⟩
          refine krv_ints (s := ⟨_, _, _, _, _⟩) F N ⟨_, (N _ (.head _)).1, rfl, k2, rfl⟩ (IsPart.int _ _) hI ?_ (by with_unfolding_all rfl) (by intro _; with_unfolding_all rfl) (by rw [List.size_toArray, hI.length, sizeLine_eq]; simp; omega)
          intro D3 ws h3 F3 N3 _ hI3 _
          rw [oct_rev] at hI3
          clear F N
          walk_at "MY steps"
          refine ⟨?_⟩
          refine bmake F3 N3 (.head _) hI3 (by omega) rfl ?_
          intro h4 t4 k4 F4 N4
          walk_at "MY steps"
          subst hg
          exact h _ _ _ F4.keep
end
section
open PySem PySem.W PyProof.Rows
set_option Elab.async false
set_option maxRecDepth 100000
open PySem PySem.Spec PySem.Calls PyProof.Rows PySem.W

noncomputable def hdr : Tree → Nat
  | .num n => n
  | .oct l => l.length
  | .node ts => (body ts).length
noncomputable def mrk : Tree → UInt8
  | .num _ => 46
  | .oct _ => 44
  | .node _ => 58
noncomputable def tl : Tree → List UInt8
  | .num _ => []
  | .oct l => l
  | .node ts => b64 (body ts)
theorem written_parts (t : Tree) : written t = ap (hdr t) ++ mrk t :: tl t := by
  cases t <;> simp [written, hdr, mrk, tl]
noncomputable def headAp : List Tree → List UInt8
  | [] => []
  | t :: _ => ap (hdr t)
theorem getD_at (x y : List UInt8) (c : UInt8) : (x ++ c :: y).getD x.length 0 = c := by
  simp [List.getD]
theorem row_turn {ts pre rest : List Tree} {ds ds' : List UInt8} {place : Int} (e : ts = pre ++ rest) (hp : place = (((body pre).length + ds.length : Nat) : Int)) (hd : headAp rest = ds ++ ds') (hlt : place < (body ts).length) :
    (∃ c ds'', ds' = c :: ds'' ∧ (body ts).getD place.toNat 0 = c ∧ 65 ≤ c.toNat ∧ c.toNat ≤ 80 ∧ (65 < c.toNat ∨ 0 < apVal ds)) ∨
    (∃ t rest', rest = t :: rest' ∧ ds = ap (hdr t) ∧ apVal ds = hdr t ∧ (body ts).getD place.toNat 0 = mrk t ∧ (body ts).drop (place + 1).toNat = tl t ++ body rest' ∧ (body ts).length = place + 1 + (tl t).length + (body rest').length ∧ (body (pre ++ [t])).length = place + 1 + (tl t).length) := by
  subst e hp
  rw [Int.toNat_natCast]
  cases rest with
  | nil =>
    exfalso
    have : ds = [] := by
      cases ds with
      | nil => rfl
      | cons a b => cases hd
    subst this
    rw [body_append] at hlt
    simp [body] at hlt
  | cons t rest' =>
    have hd : ap (hdr t) = ds ++ ds' := hd
    have eb : body (pre ++ t :: rest') = body pre ++ (ds ++ ds' ++ mrk t :: tl t ++ body rest') := by
      rw [body_append]
      show _ ++ (written t ++ body rest') = _
      rw [written_parts, hd]
    have eb1 : body (pre ++ [t]) = body pre ++ (ds ++ ds' ++ mrk t :: tl t) := by
      rw [body_append]
      show _ ++ (written t ++ []) = _
      rw [written_parts, hd, List.append_nil]
    cases ds' with
    | cons c ds'' =>
      refine .inl ⟨c, ds'', rfl, ?_, ap_step (hdr t) ds ds'' c hd⟩
      rw [eb]
      have := getD_at (body pre ++ ds) (ds'' ++ mrk t :: tl t ++ body rest') c
      rw [List.length_append] at this
      rw [← this]
      congr 1
      simp
    | nil =>
      rw [List.append_nil] at hd eb
      refine .inr ⟨t, rest', rfl, hd.symm, by rw [← hd, ap_val], ?_, ?_, ?_, ?_⟩
      · rw [eb]
        have := getD_at (body pre ++ ds) (tl t ++ body rest') (mrk t)
        rw [List.length_append] at this
        rw [← this]
        congr 1
        simp
      · have e1 : ((((body pre).length + ds.length : Nat) : Int) + 1).toNat = (body pre ++ ds ++ [mrk t]).length := by
          simp; omega
        have e2 : body (pre ++ t :: rest') = (body pre ++ ds ++ [mrk t]) ++ (tl t ++ body rest') := by rw [eb]; simp
        rw [e1, e2, List.drop_left]
      · rw [eb]; simp; omega
      · rw [eb1]; simp; omega
/-- the digit's own step -/
theorem row_digit {rest : List Tree} {ds ds'' : List UInt8} {c : UInt8} (hd : headAp rest = ds ++ c :: ds'') : headAp rest = (ds ++ [c]) ++ ds'' := by rw [hd]; simp
theorem bcut_part {l x y : List UInt8} {p n : Int} (hp : 0 ≤ p) (hn : n = (x.length : Int)) (h : l.drop p.toNat = x ++ y) : bcut l (some p) (some (p + n)) = x := by
  obtain ⟨a, rfl⟩ := Int.eq_ofNat_of_zero_le hp
  subst hn
  have e : ((a : Int) + (x.length : Int)) = ((a + x.length : Nat) : Int) := by omega
  rw [e, bcut_both]
  rw [Int.toNat_natCast] at h
  rw [h, Nat.add_sub_cancel_left, List.take_left]
theorem newsMore {h₀ h h' : Heap} {L : Addr} {m : Str → Option Value} {news nw : List (Addr × Obj)} (F : Fr h₀ L h m) (N : News h₀ L h news) (st : h.StaysIn h') (hw : ∀ p ∈ nw, h'.get? p.1 = some p.2 ∧ h.get? p.1 = none) :
    Fr h₀ L h' m ∧ News h₀ L h' (nw ++ news) := by
  refine ⟨F.keeps st, fun p hp => ?_⟩
  rcases List.mem_append.mp hp with hp | hp
  · obtain ⟨h1, h2⟩ := hw p hp
    refine ⟨h1, fun e => ?_, ?_⟩
    · obtain ⟨o, _, _, ho, _⟩ := F.ns
      rw [e, ho] at h2; cases h2
    · cases q : h₀.get? p.1 with
      | none => rfl
      | some o => rw [F.keep _ _ q] at h2; cases h2
  · exact N.grown st p hp
theorem treesAt_snoc {G G' : Addr → Obj → Prop} {ts : List Tree} {vs : List Value} {t : Tree} {v : Value} (hG : ∀ a o, G a o → G' a o) (h : TreesAt G ts vs) (hv : TreeAt G' t v) : TreesAt G' (ts ++ [t]) (vs ++ [v]) :=
  TreesAt.append _ _ _ _ (TreesAt.mono hG _ _ h) (treesAt_one hv)
theorem heights_mem : ∀ (ts : List Tree) (t : Tree), t ∈ ts → height t ≤ heights ts
  | [], _, h => nomatch h
  | u :: ts, t, h => by
    rcases List.mem_cons.mp h with rfl | h
    · exact Nat.le_max_left _ _
    · exact Nat.le_trans (heights_mem ts t h) (Nat.le_max_right _ _)
end
section
open PySem PySem.W PyProof.Rows
set_option Elab.async false
set_option maxRecDepth 100000
set_option maxHeartbeats 8000000
open PySem PySem.Spec PySem.Calls PyProof.Rows PySem.W
local macro_rules | `(tactic| walk_at "binaryOp Add ref ref") => `(tactic| refine Hold.h ?_)
local macro_rules | `(tactic| walk_at "call ref") => `(tactic| refine Hold.h ?_)
local macro_rules | `(tactic| walk_at "exec While Compare cons nil") => `(tactic| refine Hold.h ?_)
theorem row_end {ts pre rest : List Tree} {ds ds' : List UInt8} {place : Int} (e : ts = pre ++ rest) (hp : place = (((body pre).length + ds.length : Nat) : Int)) (hd : headAp rest = ds ++ ds') (hlt : ¬ place < (body ts).length) : ts = pre := by
  subst e hp
  cases rest with
  | nil => simp
  | cons t rest' =>
    exfalso
    have hd : ap (hdr t) = ds ++ ds' := hd
    apply hlt
    rw [body_append]
    show _ < ((body pre ++ (written t ++ body rest')).length : Int)
    rw [written_parts, hd]; simp; omega
theorem octets_of {prog : Program} {w : World} {l l' : List UInt8} {n : Int} {A : Around} {s : Shared} {mean mg mb} {t tc} {Q : Value → Shared → Prop} {E : Value → Shared → Prop} (C : Cx w mean mg mb s.heap) (hr : Room A 4 100)
    (e : l' = b64 l) (en : n = (l.length : Nat)) (hlen : l.length ≤ 1000) (h : ∀ h' t' k, s.heap.StaysIn h' → Q (.bytes l.toArray t') { s with heap := h', toks := k })
    : wpAny (model prog w) A (call (.ref 122) [.bytes l'.toArray t, .int n tc]) Q E s := by
  subst e en
  exact octets_ C hr hlen h
structure RowSt where
  a : Addr
  vs : List Value
  k : Nat
  nw : List (Addr × Obj)
  num : Int
  tn : Tok
  place : Int
  tp : Tok
noncomputable def RowP (ts : List Tree) (c : RowSt) : Prop := ∃ pre rest ds ds', ts = pre ++ rest ∧ c.place = (((body pre).length + ds.length : Nat) : Int) ∧ headAp rest = ds ++ ds' ∧ c.num = (apVal ds : Nat) ∧ (c.a, listOf c.vs.toArray c.k) ∈ c.nw ∧ TreesAt (fun a o => (a, o) ∈ c.nw) pre c.vs
theorem row_next {ts pre rest' : List Tree} {t : Tree} {a' : Addr} {vs : List Value} {v : Value} {nw nw' : List (Addr × Obj)} {tn tp} {place' : Int} (e : ts = pre ++ t :: rest') (hl : ((body (pre ++ [t])).length : Int) = place') (hT : TreesAt (fun a o => (a, o) ∈ nw) pre vs)
    (hsub : ∀ p ∈ nw, p ∈ nw') (hv : TreeAt (fun a o => (a, o) ∈ nw') t v) (ha : (a', listOf (vs ++ [v]).toArray 0) ∈ nw') : RowP ts ⟨a', vs ++ [v], 0, nw', 0, tn, place', tp⟩ := by
  refine ⟨pre ++ [t], rest', [], headAp rest', by rw [e]; simp, ?_, rfl, rfl, ha, treesAt_snoc (fun a o h => hsub _ h) hT hv⟩
  show place' = _
  rw [← hl]; simp
theorem row_step {prog : Program} {w : World} {mean mg mb} (ts : List Tree) {A : Around} {s : Shared} {t} {Q : Value → Shared → Prop} {E : Value → Shared → Prop} (C : Cx w mean mg mb s.heap) (hr : Room A 8 130)
    (IH : ∀ (us : List Tree), Tree.node us ∈ ts → ∀ {A' : Around} {s' : Shared} {t'} {Q : Value → Shared → Prop} {E : Value → Shared → Prop}, Cx w mean mg mb s'.heap → A'.handled = none → A'.depth = A.depth + 1 → A'.units ≤ A.units + 10 → (body us).length ≤ 1300 →
      (∀ r (nw : List (Addr × Obj)) h' k, s'.heap.StaysIn h' → (∀ p ∈ nw, h'.get? p.1 = some p.2 ∧ s'.heap.get? p.1 = none) → TreeAt (fun a o => (a, o) ∈ nw) (.node us) r → Q r { s' with heap := h', toks := k }) → wpAny (model prog w) A' (call (.ref 129) [.bytes (body us).toArray t']) Q E s')
    (hlen : (body ts).length ≤ 1300) (h : ∀ r (nw : List (Addr × Obj)) h' k, s.heap.StaysIn h' → (∀ p ∈ nw, h'.get? p.1 = some p.2 ∧ s.heap.get? p.1 = none) → TreeAt (fun a o => (a, o) ∈ nw) (.node ts) r → Q r { s with heap := h', toks := k }) :
    wpAny (model prog w) A (call (.ref 129) [.bytes (body ts).toArray t]) Q E s := by
  walk_at "MY fill"
  obtain ⟨hn0, dp, fr, gd, un⟩ := A
  obtain ⟨hh, hr, hu⟩ := hr
  obtain rfl : hn0 = none := hh
  dsimp only at hr hu IH
  have hb := length_le_body ts
  k_dflt (refine' enter (binds := [("octets", .bytes (body ts).toArray t)]) [("octets", .bytes (body ts).toArray t)] C ?k6 ?k7 ?k8 ?k9 ?kB ?hps ?_ ?c2 ?c3 ?c4 ?c5; (case k6 => k_is); (case k7 => k_is); (case k8 => show dp < _; omega); (case k9 => exact BindsTo.of_eq rfl); (case c5 => decide); (case kB => exact locs rfl); (case c2 => exact rfl); (case c3 => exact rfl); (case c4 => exact rfl))
  case hps => walk_at "MY all"
  intro g L h₁ u tk hg F N X T
  w_on
  walk_at "MY go"
  refine ⟨?_⟩
  rename Fr _ _ _ _ => F
  rename News _ _ _ _ => N
  refine' my_while (σ := RowSt) (fun c => c.nw) (fun c => [("octets", .bytes (body ts).toArray t), ("row", .ref c.a), ("number", .int c.num c.tn), ("place", .int c.place c.tp)]) (RowP ts) (fun c => (body ts).length - c.place.toNat) ⟨_, [], 0, _, 0, _, 0, _⟩ F N (fun _ h => h) ?hk ?hp ?turn
  case hk => walk_at "MY all"
  case hp => exact ⟨[], ts, [], headAp ts, rfl, rfl, rfl, rfl, .tail _ (.head _), rfl⟩
  case turn =>
    clear F N
    rintro ⟨a, vs, k, nw, num, tn, place, tp⟩ u h' tk' hP F N
    obtain ⟨pre, rest, ds, ds', ets, hpl, hds, hnum, ha, hT⟩ := hP
    dsimp only at F N hpl hnum ha hT ⊢
    by_cases hlt : place < (body ts).length
    · rcases row_turn ets hpl hds hlt with ⟨c, ds'', rfl, hc, hc1, hc2, hc3⟩ | ⟨tr, rest', rfl, hd1, hd2, hm, hdr, hl1, hl2⟩
      · have hc3' : ((((body ts).getD place.toNat 0).toNat : Int) > 65) ∨ num > 0 := by rw [hc, hnum]; omega
        have hc1' : (65 : Int) ≤ (((body ts).getD place.toNat 0).toNat : Int) := by rw [hc]; omega
        have hc2' : (((body ts).getD place.toNat 0).toNat : Int) ≤ 80 := by rw [hc]; omega
        have hz0 : 0 ≤ place := by omega
        have hdone : ∀ tn' tp', RowP ts ⟨a, vs, k, nw, num * 16 + (((body ts).getD place.toNat 0).toNat : Int) - 65, tn', place + 1, tp'⟩ ∧ (body ts).length - (place + 1).toNat < (body ts).length - place.toNat := by
          intro tn' tp'
          refine ⟨⟨pre, rest, ds ++ [c], ds'', ets, ?_, row_digit hds, ?_, ha, hT⟩, ?_⟩
          · show place + 1 = _
            rw [List.length_append]; simp; omega
          · show num * 16 + (((body ts).getD place.toNat 0).toNat : Int) - 65 = _
            rw [apVal_snoc, hnum, hc]; omega
          · omega
        walk_at "MY go"
        · exact ⟨by omega⟩
        · exact ⟨by omega, by omega, by omega⟩
        · rename Fr _ _ _ _ => F
          rename News _ _ _ _ => N
          refine' StEnd.mk ⟨a, vs, k, nw, num * 16 + (((body ts).getD place.toNat 0).toNat : Int) - 65, _, place + 1, _⟩ F N ?hC ?hA ?hB
          case hC => intro p hp; first | exact hp | exact .tail _ hp | simp [hp]
          case hA => walk_at "MY all"
          case hB => exact hdone _ _
        · rename Fr _ _ _ _ => F
          rename News _ _ _ _ => N
          refine' StEnd.mk ⟨a, vs, k, nw, num * 16 + (((body ts).getD place.toNat 0).toNat : Int) - 65, _, place + 1, _⟩ F N ?hC ?hA ?hB
          case hC => intro p hp; first | exact hp | exact .tail _ hp | simp [hp]
          case hA => walk_at "MY all"
          case hB => exact hdone _ _
      · have hz0 : 0 ≤ place := by omega
        have hvl : vs.length = pre.length := TreesAt.length _ _ hT
        have hpre : pre.length ≤ 1300 := by
          have := congrArg List.length ets
          rw [List.length_append] at this; omega
        cases tr with
        | num n =>
          have hm' : (((body ts).getD place.toNat 0).toNat : Int) = 46 := by rw [hm]; rfl
          walk_at "MY go"
          all_goals first | (exfalso; omega) | skip
          · exact ⟨by omega⟩
          · exact ⟨by omega, by omega, by omega⟩
          · refine ⟨?_⟩
            rename Fr _ _ _ _ => F
            rename News _ _ _ _ => N
            refine kmk_add_lit (s := ⟨_, _, _, _, _⟩) (zs := vs ++ [_]) F N (its := vs.toArray) (its2 := #[_]) ⟨_, (N (a, listOf vs.toArray k) (by simp [ha])).1, rfl, k, rfl⟩ ⟨_, (N _ (.head _)).1, rfl, 0, rfl⟩ rfl ?_ ?_
            · intro D h9 F9 N9 _
              clear F N
              walk_at "MY go"
              rename Fr _ _ _ _ => F
              rename News _ _ _ _ => N
              refine' StEnd.mk ⟨D, vs ++ [_], 0, _, 0, _, place + 1, _⟩ F N (fun _ h => h) ?hA ?hB
              case hA => walk_at "MY all"
              case hB =>
                refine' ⟨row_next ets (by rw [hl2]; simp [tl]) hT ?_ ?_ (.tail _ (.head _)), ?_⟩
                · intro p hp; simp [hp]
                · exact ⟨_, by rw [hnum, hd2]; rfl⟩
                · show (body ts).length - (place + 1).toNat < _
                  omega
            · simp [sizeLine_eq]; omega
        | oct l =>
          have hm' : (((body ts).getD place.toNat 0).toNat : Int) = 44 := by rw [hm]; rfl
          have hcut : bcut (body ts) (some (place + 1)) (some (place + 1 + num)) = l := bcut_part (by omega) (by rw [hnum, hd2]; rfl) hdr
          walk_at "MY go"
          all_goals first | (exfalso; omega) | skip
          · exact ⟨by omega⟩
          · exact ⟨by omega, by omega, by omega⟩
          · exact ⟨by omega⟩
          · refine ⟨?_⟩
            rename Fr _ _ _ _ => F
            rename News _ _ _ _ => N
            refine kmk_add_lit (s := ⟨_, _, _, _, _⟩) (zs := vs ++ [_]) F N (its := vs.toArray) (its2 := #[_]) ⟨_, (N (a, listOf vs.toArray k) (by simp [ha])).1, rfl, k, rfl⟩ ⟨_, (N _ (.head _)).1, rfl, 0, rfl⟩ rfl ?_ ?_
            · intro D h9 F9 N9 _
              clear F N
              walk_at "MY go"
              rename Fr _ _ _ _ => F
              rename News _ _ _ _ => N
              refine' StEnd.mk ⟨D, vs ++ [_], 0, _, 0, _, place + 1 + num, _⟩ F N (fun _ h => h) ?hA ?hB
              case hA => walk_at "MY all"
              case hB =>
                have hnl : num = (l.length : Int) := by rw [hnum, hd2]; rfl
                refine' ⟨row_next ets (by rw [hl2, hnl]; rfl) hT ?_ ?_ (.tail _ (.head _)), ?_⟩
                · intro p hp; simp [hp]
                · exact ⟨_, by rw [hcut]⟩
                · show (body ts).length - (place + 1 + num).toNat < _
                  omega
            · simp [sizeLine_eq]; omega
        | node us =>
          have hm' : (((body ts).getD place.toNat 0).toNat : Int) = 58 := by rw [hm]; rfl
          have hnl : num = ((body us).length : Int) := by rw [hnum, hd2]; rfl
          have hsz : (num + 2).fdiv 3 * 4 = ((b64 (body us)).length : Int) := by
            rw [b64_length, hnl, Int.fdiv_eq_ediv_of_nonneg _ (by decide)]; omega
          have hcut : bcut (body ts) (some (place + 1)) (some (place + 1 + (num + 2).fdiv 3 * 4)) = b64 (body us) := bcut_part (by omega) hsz hdr
          have hul : (body us).length ≤ 1000 := by
            simp only [tl, b64_length] at hl1; omega
          walk_at "MY go"
          all_goals first | (exfalso; omega) | skip
          · exact ⟨by omega⟩
          · exact ⟨by omega, by omega, by omega⟩
          · exact ⟨by omega⟩
          · refine ⟨?_⟩
            rename Fr _ _ _ _ => F
            rename News _ _ _ _ => N
            refine octets_of (Cx.keeps ⟨X, T⟩ F.keep) (by walk_at "MY room") hcut hnl hul ?_
            intro h9 t9 k9 st9
            have F9 := F.keeps st9
            have N9 := N.grown st9
            clear F N st9
            walk_at "MY go"
            refine ⟨?_⟩
            rename Fr _ _ _ _ => F
            rename News _ _ _ _ => N
            refine IH us (by rw [ets]; simp) (Cx.keeps ⟨X, T⟩ F.keep) rfl rfl (by dsimp only [Around.deeper]; omega) (by omega) ?_
            intro r nw2 h8 k8 st8 hnw hTr
            have FN := newsMore F N st8 hnw
            clear F N st8
            have F := FN.1
            have N := FN.2
            clear FN
            walk_at "MY go"
            refine ⟨?_⟩
            rename Fr _ _ _ _ => F
            rename News _ _ _ _ => N
            refine kmk_add_lit (s := ⟨_, _, _, _, _⟩) (zs := vs ++ [_]) F N (its := vs.toArray) (its2 := #[_]) ⟨_, (N (a, listOf vs.toArray k) (by simp [ha])).1, rfl, k, rfl⟩ ⟨_, (N _ (.head _)).1, rfl, 0, rfl⟩ rfl ?_ ?_
            · intro D h9 F9 N9 _
              clear F N
              walk_at "MY go"
              rename Fr _ _ _ _ => F
              rename News _ _ _ _ => N
              refine' StEnd.mk ⟨D, vs ++ [_], 0, _, 0, _, place + 1 + (num + 2).fdiv 3 * 4, _⟩ F N (fun _ h => h) ?hA ?hB
              case hA => walk_at "MY all"
              case hB =>
                refine' ⟨row_next ets (by rw [hl2, hsz]; rfl) hT ?_ ?_ (.tail _ (.head _)), ?_⟩
                · intro p hp; simp [hp]
                · exact TreeAt.mono (fun a o ho => .tail _ (.tail _ (.tail _ (List.mem_append_left _ ho)))) _ _ hTr
                · show (body ts).length - (place + 1 + (num + 2).fdiv 3 * 4).toNat < _
                  omega
            · simp [sizeLine_eq]; omega
    · walk_at "MY go"
      · exact ⟨by omega⟩
      · have e := row_end ets hpl hds hlt
        subst hg
        refine h _ nw _ _ F.keep (fun p hp => ⟨(N p hp).1, (N p hp).2.2⟩) ?_
        rw [e]
        exact ⟨a, vs, k, rfl, ha, hT⟩
theorem row_ {prog : Program} {w : World} {mean mg mb} (n : Nat) : ∀ (ts : List Tree) {A : Around} {s : Shared} {t} {Q : Value → Shared → Prop} {E : Value → Shared → Prop}, heights ts ≤ n → Cx w mean mg mb s.heap → A.handled = none → A.depth + n + 9 < recursionLimit → A.units + 10 * n + 140 < cLine →
    (body ts).length ≤ 1300 → (∀ r (nw : List (Addr × Obj)) h' k, s.heap.StaysIn h' → (∀ p ∈ nw, h'.get? p.1 = some p.2 ∧ s.heap.get? p.1 = none) → TreeAt (fun a o => (a, o) ∈ nw) (.node ts) r → Q r { s with heap := h', toks := k }) →
    wpAny (model prog w) A (call (.ref 129) [.bytes (body ts).toArray t]) Q E s := by
  induction n with
  | zero =>
    intro ts A s t Q E hn C hh hr hu hlen h
    refine row_step ts C ⟨hh, by omega, by omega⟩ (fun us hus => ?_) hlen h
    have := heights_mem ts _ hus
    rw [height_pos_node] at this
    omega
  | succ n ih =>
    intro ts A s t Q E hn C hh hr hu hlen h
    refine row_step ts C ⟨hh, by omega, by omega⟩ (fun us hus => ?_) hlen h
    have := heights_mem ts _ hus
    rw [height_pos_node] at this
    intro A' s' t' Q' E' C' hh' hd' hu' hl' h'
    exact ih us (by omega) C' hh' (by omega) (by omega) hl' h'
end
section
open PySem PySem.W PyProof.Rows
set_option Elab.async false
set_option maxRecDepth 100000
open PySem PySem.Spec PySem.Calls PyProof.Rows PySem.W

/-- the octets of a number's 32nd part, the lowest first -/
noncomputable def octsOf (x : Int) : List UInt8 := (List.range ((x.fdiv 4).fmod 5).toNat).map fun k => (((x.fdiv 32).fdiv (256 ^ k)).fmod 256).toNat.toUInt8
noncomputable def cutOf (n : Nat) (x : Int) : Nat := if x.fmod 4 = 3 then n - ((x.fdiv 4).fmod 4).toNat else n
noncomputable def pick (f : List Tree) (x : Int) : Tree :=
  if x.fmod 4 = 3 then .node (f.drop (cutOf f.length x)) else if x.fmod 4 = 2 then .oct (octsOf x) else .num ((x.fdiv 4).fmod 16777216).toNat
noncomputable def forestStep (f : List Tree) (x : Int) : List Tree := f.take (cutOf f.length x) ++ [pick f x]
noncomputable def forest (xs : List Int) : List Tree := xs.foldl forestStep []

theorem pots_append : ∀ (a b : List Tree), pots (a ++ b) = pots a + pots b
  | [], b => by simp [pots]
  | t :: a, b => by simp [pots, pots_append a b, Nat.add_assoc]
theorem heights_append : ∀ (a b : List Tree), heights (a ++ b) = max (heights a) (heights b)
  | [], b => by simp [heights]
  | t :: a, b => by simp [heights, heights_append a b, Nat.max_assoc]
theorem smalls_append : ∀ (a b : List Tree), Smalls (a ++ b) ↔ Smalls a ∧ Smalls b
  | [], b => by simp [Smalls]
  | t :: a, b => by simp [Smalls, smalls_append a b, and_assoc]
theorem pots_split (f : List Tree) (c : Nat) : pots (f.take c) + pots (f.drop c) = pots f := by
  rw [← pots_append, List.take_append_drop]
theorem heights_split (f : List Tree) (c : Nat) : max (heights (f.take c)) (heights (f.drop c)) = heights f := by
  rw [← heights_append, List.take_append_drop]
theorem smalls_split (f : List Tree) (c : Nat) : Smalls (f.take c) ∧ Smalls (f.drop c) ↔ Smalls f := by
  rw [← smalls_append, List.take_append_drop]
theorem step_leaf {f : List Tree} {x : Int} (h : x.fmod 4 ≠ 3) : forestStep f x = f ++ [pick f x] := by
  unfold forestStep cutOf
  rw [if_neg h, List.take_length]
theorem pot_leaf {f : List Tree} {x : Int} (h : x.fmod 4 ≠ 3) : pot (pick f x) = 7 := by
  unfold pick
  rw [if_neg h]
  split <;> rfl
theorem step_pots (f : List Tree) (x : Int) : pots (forestStep f x) ≤ max (pots f + 7) (2 * pots f) := by
  by_cases h : x.fmod 4 = 3
  · unfold forestStep pick
    rw [if_pos h, pots_append]
    have := pots_split f (cutOf f.length x)
    simp only [pots, pot]
    omega
  · rw [step_leaf h, pots_append]
    simp only [pots, pot_leaf h]
    omega
theorem step_heights (f : List Tree) (x : Int) : heights (forestStep f x) ≤ heights f + 1 := by
  unfold forestStep
  rw [heights_append]
  have := heights_split f (cutOf f.length x)
  have : height (pick f x) ≤ heights f + 1 := by
    unfold pick
    split
    · simp only [height]; omega
    · split <;> simp [height]
  simp only [heights]
  omega
theorem octsOf_length (x : Int) : (octsOf x).length ≤ 4 := by
  unfold octsOf
  rw [List.length_map, List.length_range, Int.fmod_eq_emod_of_nonneg _ (by decide)]
  omega
theorem step_small (f : List Tree) (x : Int) (h : Smalls f) : Smalls (forestStep f x) := by
  unfold forestStep
  rw [smalls_append]
  have hs := (smalls_split f (cutOf f.length x)).mpr h
  refine ⟨hs.1, ?_, trivial⟩
  unfold pick
  split
  · simp only [Small]; exact hs.2
  · split
    · simp only [Small]; exact octsOf_length x
    · simp only [Small]
      rw [Int.fmod_eq_emod_of_nonneg _ (by decide)]
      omega
theorem fold_small : ∀ (xs : List Int) (f : List Tree), Smalls f → Smalls (xs.foldl forestStep f)
  | [], f, h => h
  | x :: xs, f, h => fold_small xs _ (step_small f x h)
theorem fold_heights : ∀ (xs : List Int) (f : List Tree), heights (xs.foldl forestStep f) ≤ heights f + xs.length
  | [], f => Nat.le_refl _
  | x :: xs, f => by
    have := fold_heights xs (forestStep f x)
    have := step_heights f x
    simp only [List.foldl_cons, List.length_cons]
    omega
theorem fold_pots : ∀ (xs : List Int) (f : List Tree) (B : Nat), 7 ≤ B → pots f ≤ B → pots (xs.foldl forestStep f) ≤ B * 2 ^ xs.length
  | [], f, B, _, h => by simpa using h
  | x :: xs, f, B, h7, h => by
    have h1 := step_pots f x
    have := fold_pots xs (forestStep f x) (2 * B) (by omega) (by omega)
    simp only [List.foldl_cons, List.length_cons]
    rw [Nat.pow_succ]
    refine Nat.le_trans this (Nat.le_of_eq ?_)
    rw [Nat.mul_comm 2 B, Nat.mul_assoc, Nat.mul_comm 2]
theorem script_pots (xs : List Int) (h : xs.length ≤ 8) : pots (forest xs) ≤ 896 := by
  unfold forest
  cases xs with
  | nil => simp [pots]
  | cons x xs =>
    have h1 := step_pots [] x
    simp only [pots] at h1
    have := fold_pots xs (forestStep [] x) 7 (by omega) (by omega)
    refine Nat.le_trans this ?_
    have : 2 ^ xs.length ≤ 2 ^ 7 := Nat.pow_le_pow_right (by decide) (by simp at h; omega)
    omega
noncomputable def tailOf : List Int := [1024, 60, 7, 400424814, 0, 67108860, 11]
theorem step_node (f g : List Tree) (x : Int) (h : x.fmod 4 = 3) (hg : ((x.fdiv 4).fmod 4).toNat = g.length) : forestStep (f ++ g) x = f ++ [.node g] := by
  have e : cutOf (f ++ g).length x = f.length := by
    unfold cutOf
    rw [if_pos h, hg, List.length_append]; omega
  unfold forestStep pick
  rw [if_pos h, e, List.take_left, List.drop_left]
theorem tail_pots (f : List Tree) : pots (tailOf.foldl forestStep f) ≤ pots f + 56 := by
  show pots (forestStep (forestStep (forestStep (forestStep (forestStep (forestStep (forestStep f 1024) 60) 7) 400424814) 0) 67108860) 11) ≤ _
  rw [step_leaf (x := 1024) (by decide), step_leaf (x := 60) (by decide), step_node _ [_] 7 (by decide) rfl, step_leaf (x := 400424814) (by decide), step_leaf (x := 0) (by decide), step_leaf (x := 67108860) (by decide)]
  generalize e1 : pick f 1024 = p1
  have q1 : pot p1 = 7 := by rw [← e1]; exact pot_leaf (by decide)
  generalize e2 : pick (f ++ [p1]) 60 = p2
  have q2 : pot p2 = 7 := by rw [← e2]; exact pot_leaf (by decide)
  generalize e3 : pick (f ++ [p1] ++ [.node [p2]]) 400424814 = p3
  have q3 : pot p3 = 7 := by rw [← e3]; exact pot_leaf (by decide)
  generalize e4 : pick (f ++ [p1] ++ [.node [p2]] ++ [p3]) 0 = p4
  have q4 : pot p4 = 7 := by rw [← e4]; exact pot_leaf (by decide)
  generalize e5 : pick (f ++ [p1] ++ [.node [p2]] ++ [p3] ++ [p4]) 67108860 = p5
  have q5 : pot p5 = 7 := by rw [← e5]; exact pot_leaf (by decide)
  have e6 : f ++ [p1] ++ [.node [p2]] ++ [p3] ++ [p4] ++ [p5] = (f ++ [p1] ++ [.node [p2]] ++ [p3]) ++ [p4, p5] := by simp
  rw [e6, step_node _ [p4, p5] 11 (by decide) rfl]
  simp only [pots_append, pots, pot, q1, q2, q3, q4, q5]
  omega
theorem pots_pos : ∀ (ts : List Tree), ts ≠ [] → 7 ≤ pots ts
  | [], h => absurd rfl h
  | t :: ts, _ => by
    have : 7 ≤ pot t := by cases t <;> simp only [pot] <;> omega
    simp only [pots]; omega
theorem pot_pos (t : Tree) : 7 ≤ pot t := by cases t <;> simp only [pot] <;> omega
mutual
theorem written_le : ∀ (t : Tree), Small t → pot t ≤ 4000 → (written t).length ≤ pot t
  | .num n, h, _ => by
    simp only [Small] at h
    have := ap_length_le n 6 h
    simp only [written, pot, List.length_append, List.length_singleton]; omega
  | .oct l, h, _ => by
    simp only [Small] at h
    have := ap_length_le l.length 1 (by omega)
    simp only [written, pot, List.length_append, List.length_singleton]; omega
  | .node ts, h, hp => by
    simp only [Small] at h
    simp only [pot] at hp
    have hb := body_le ts h (by omega)
    have hs : ts = [] ∨ 7 ≤ pots ts := by
      by_cases q : ts = []
      · exact .inl q
      · exact .inr (pots_pos ts q)
    simp only [written, pot, List.length_append, List.length_singleton, b64_length]
    rcases hs with rfl | hs
    · simp [body, ap_zero]; omega
    · generalize (body ts).length = b at hb
      by_cases c1 : b < 16
      · have := ap_length_le b 1 (by omega); omega
      · by_cases c2 : b < 256
        · have := ap_length_le b 2 (by omega); omega
        · have := ap_length_le b 3 (by omega); omega
theorem body_le : ∀ (ts : List Tree), Smalls ts → pots ts ≤ 4000 → (body ts).length ≤ pots ts
  | [], _, _ => by simp [body]
  | t :: ts, h, hp => by
    simp only [Smalls] at h
    simp only [pots] at hp
    have := written_le t h.1 (by omega)
    have := body_le ts h.2 (by omega)
    simp only [body, pots, List.length_append]; omega
end
theorem law_sizes (xs : List Int) (h : xs.length ≤ 8) : (body (forest (xs ++ tailOf))).length ≤ 952 ∧ heights (forest (xs ++ tailOf)) ≤ 15 ∧ (written (.node (forest (xs ++ tailOf)))).length ≤ 1300 := by
  have e : forest (xs ++ tailOf) = tailOf.foldl forestStep (forest xs) := by
    unfold forest; rw [List.foldl_append]
  have h1 := script_pots xs h
  have h2 := tail_pots (forest xs)
  have h3 : Smalls (forest (xs ++ tailOf)) := fold_small _ _ trivial
  have h4 : heights (forest (xs ++ tailOf)) ≤ heights [] + (xs ++ tailOf).length := fold_heights _ _
  rw [← e] at h2
  have h5 := body_le _ h3 (by omega)
  refine ⟨by omega, ?_, ?_⟩
  · have e7 : tailOf.length = 7 := rfl
    rw [List.length_append, e7] at h4
    simp only [heights] at h4; omega
  · simp only [written, List.length_append, List.length_singleton, b64_length]
    have := ap_length_le (body (forest (xs ++ tailOf))).length 3 (by omega)
    omega
end
section
open PySem PySem.W PyProof.Rows
set_option Elab.async false
set_option maxRecDepth 100000
open PySem PySem.Spec PySem.Calls PyProof.Rows PySem.W
section
variable {prog : Program} {w : World} {A : Around} {E : Value → Shared → Prop} {Q : Flow → Shared → Prop} {s : Shared} {env : Env} {h₀ : Heap}
/-- a for over a list of the base store, whatever its target is -/
theorem for_list {σ : Type} {target : Expr} {body : List Stmt} {m₀ : Str → Option Value} {news₀ : List (Addr × Obj)} {vs : List Value} {ax : Addr} {k : Nat} {L : Addr} (hL : env.locals = L) (Led : σ → List (Addr × Obj)) (ps : σ → List (Str × Value)) (P : Nat → σ → Prop) (c₀ : σ)
    (hh : A.handled = none) (ha : h₀.get? ax = some (listOf vs.toArray k)) (F : Fr h₀ L s.heap m₀) (N : News h₀ L s.heap news₀) (hl : ∀ p ∈ Led c₀, p ∈ news₀) (hk : ∀ p ∈ ps c₀, m₀ p.1 = some p.2) (hp : P 0 c₀)
    (turn : ∀ (i : Nat) (v : Value) (c : σ) (oI : Obj) (u : Str → Option Value) h tk, vs[i]? = some v → P i c → (∀ p ∈ Led c, p.1 ≠ s.heap.objs.size) → Fr h₀ L h (kstB u (ps c)) → News h₀ L h ((s.heap.objs.size, oI) :: Led c) →
      wpAny (model prog w) A (assign target env v) (fun _ s₃ => wpAny (model prog w) A (execs body env) (StPost h₀ L s (fun c' => (s.heap.objs.size, oI) :: Led c') ps (fun c' => P (i + 1) c' ∧ ∀ p ∈ Led c', p.1 ≠ s.heap.objs.size) Q) E s₃) E { s with heap := h, toks := tk })
    (done : ∀ (c : σ) (u : Str → Option Value) h tk, P vs.length c → Fr h₀ L h (kstB u (ps c)) → News h₀ L h (Led c) → Q .next { s with heap := h, toks := tk }) :
    wpAny (model prog w) A (pyIter (.ref ax)) (fun it s₂ => TurnsAt prog w A h₀ env target body Q E it s₂) E s := by
  subst hL
  have hax : s.heap.get? ax = some (listOf vs.toArray k) := F.keep _ _ ha
  have hlist : s.heap.IsList ax vs.toArray := ⟨_, hax, rfl, k, rfl⟩
  have hlt : ax < s.heap.objs.size := Heap.lt_size hax
  have hne : ax ≠ s.heap.objs.size := Nat.ne_of_lt hlt
  refine wpAny_pyIter_list hlist ?_
  have W := KTurns.ofWalks (target := target) (Walks.list (prog := prog) (w := w) hh s.heap.objs.size ax hne vs.toArray) fun i v s Q E st q => letGo_listiter st.1 q
  refine ⟨s.heap.objs.size, _, _, _, _, _, _, m₀, Led c₀, fun i m nx => ∃ c : σ, nx = Led c ∧ (∀ p ∈ ps c, m p.1 = some p.2) ∧ P i c, rfl, W, ?_, ?_, ?_, ?_, F.push _, fun p hp => ⟨Heap.get?_push_of_some _ (N p (hl p hp)).1, (N p (hl p hp)).2⟩, ⟨c₀, rfl, hk, hp⟩, ?_, ?_⟩
  · intro hm
    rcases List.mem_cons.mp hm with e | hm
    · exact absurd F.ns.lt (e ▸ Nat.lt_irrefl _)
    · have e : env.locals = ax := List.mem_singleton.mp hm
      have h1 : h₀.objs.size ≤ env.locals := F.above
      have h2 := Heap.lt_size ha
      rw [← e] at h2
      exact absurd (Nat.lt_of_lt_of_le h2 h1) (Nat.lt_irrefl _)
  · intro b hb; rw [List.mem_singleton.mp hb]; exact next_is_new F
  · intro p hp hm
    have e := List.mem_singleton.mp hm
    exact absurd (Heap.lt_size (N p (hl p hp)).1) (e ▸ Nat.lt_irrefl _)
  · exact ⟨⟨_, Heap.get?_push_size _ rfl, rfl, rfl⟩, hlist.push _⟩
  · rintro i v m₁ news₁ h tk own hi hv ⟨c, rfl, h1, hp'⟩ hoff hof hon hin hst₁ F₁ N₁
    obtain ⟨oI, ho⟩ : ∃ oI, h.get? s.heap.objs.size = some oI := by
      obtain ⟨⟨o, ho, _⟩, _⟩ := hst₁
      exact ⟨o, ho⟩
    have hI0 : h₀.get? s.heap.objs.size = none := next_is_new F
    have hmem : (s.heap.objs.size, oI) ∈ own := hin _ (.head _) hI0 oI ho
    refine wpAny_mono (turn i v c oI m₁ h tk (by simpa using hv) hp' (fun p hp q => hoff p hp (q ▸ .head _)) (frAs F₁ h1) fun p hp => ?_) (fun _ s₃ q => wpAny_mono q (fun f s₂ q => ?_) fun _ _ x => x) fun _ _ x => x
    · rcases List.mem_cons.mp hp with rfl | hp
      · exact N₁ _ (List.mem_append_left _ hmem)
      · exact N₁ _ (List.mem_append_right _ hp)
    · have fin : StEnd h₀ env.locals s (fun c' => (s.heap.objs.size, oI) :: Led c') ps (fun c' => P (i + 1) c' ∧ ∀ p ∈ Led c', p.1 ≠ s.heap.objs.size) s₂ → LoopStepU h₀ env.locals [s.heap.objs.size] own (fun m nx => ∃ c : σ, nx = Led c ∧ (∀ p ∈ ps c, m p.1 = some p.2) ∧ P (i + 1) c) { s with heap := h, toks := tk } .next s₂ := by
        rintro ⟨c', h', tk', m', news', rfl, F', N', hn, hk9, hp9, hne9⟩
        refine ⟨rfl, h', tk', m', Led c', rfl, F', fun p hp => ?_, fun p hp hm => hne9 p hp (List.mem_singleton.mp hm), c', rfl, hk9, hp9⟩
        rcases List.mem_append.mp hp with hp | hp
        · have hb := hof p hp
          have q := (N₁ p (List.mem_append_left _ hp)).2.2
          rcases List.mem_cons.mp hb with e | e
          · have e1 := hon p hp
            rw [e] at e1
            have e2 : p = (s.heap.objs.size, oI) := by
              obtain ⟨a, o⟩ := p
              have q1 : a = s.heap.objs.size := e
              have q2 : o = oI := Option.some.inj (e1.symm.trans ho)
              rw [q1, q2]
            rw [e2]
            exact N' _ (hn _ (.head _))
          · rw [List.mem_singleton.mp e, ha] at q; cases q
        · exact N' p (hn p (.tail _ hp))
      cases f with
      | ret v => exact q
      | brk => exact q
      | next => exact fin q
      | cont => exact fin q
  · rintro h' tk m' news' F' N' hoff ⟨c, rfl, h1, hp'⟩
    exact done c m' h' tk (by simpa using hp') (frAs F' h1) N'
end
theorem pick_upto (vs : List Value) (n : Nat) : (slicePick vs.toArray none (some (n : Int)) none).toList = vs.take n := by
  have e : sliceBounds none (some (n : Int)) none vs.toArray.size = (((0 : Nat) : Int), ((min n vs.toArray.size : Nat) : Int), 1) := by
    simp only [sliceBounds, Option.getD_none, show (1 : Int) > 0 by decide, if_true, if_neg (show ¬ ((n : Int) < 0) by omega)]
    congr 1
    congr 1
    omega
  rw [kmk_pick_nat _ e]
  show ((vs.drop 0).take (min n vs.toArray.size - 0)) = _
  rw [List.drop_zero, Nat.sub_zero, List.size_toArray, kmk_take_min]
theorem pick_from (vs : List Value) (n : Nat) : (slicePick vs.toArray (some (n : Int)) none none).toList = vs.drop n := by
  have e : sliceBounds (some (n : Int)) none none vs.toArray.size = (((min n vs.toArray.size : Nat) : Int), ((vs.toArray.size : Nat) : Int), 1) := by
    simp only [sliceBounds, Option.getD_none, show (1 : Int) > 0 by decide, if_true, if_neg (show ¬ ((n : Int) < 0) by omega)]
    congr 1
    omega
  rw [kmk_pick_nat _ e]
  show ((vs.drop (min n vs.toArray.size)).take (vs.toArray.size - min n vs.toArray.size)) = _
  rw [List.size_toArray, kmk_drop_min, List.take_of_length_le (by rw [List.length_drop]; omega)]
end
section
open PySem PySem.W PyProof.Rows
set_option Elab.async false
set_option maxRecDepth 100000
set_option maxHeartbeats 8000000
open PySem PySem.Spec PySem.Calls PyProof.Rows PySem.W
local macro_rules | `(tactic| walk_at "binaryOp Add ref ref") => `(tactic| refine Hold.h ?_)
local macro_rules | `(tactic| walk_at "eval ListComp") => `(tactic| refine Hold.h ?_)
local macro_rules | `(tactic| walk_at "pyIter ref") => `(tactic| refine Hold.h ?_)
local macro_rules | `(tactic| walk_at "call type:bytes") => `(tactic| refine Hold.h ?_)
local macro_rules | `(tactic| walk_at "subscriptTail") => `(tactic| ((with_reducible show wpAny _ _ (subscriptTail _ _ (Value.ref _) _) _ _ _); refine Hold.h ?_))
local macro_rules | `(tactic| walk_at "call builtin:len") => `(tactic| ((with_reducible show wpAny _ _ (call (Value.builtin "len") [Value.ref _]) _ _ _); refine Hold.h ?_))
local macro_rules | `(tactic| walk_at "exec For Name Name cons nil") => `(tactic| (k_here; (rename Fr _ _ _ _ => lF'); (with_unfolding_all refine' For_turns lF' ?_ ?k1 ?k2; (case k1 => intro _; exact rfl); (case k2 => passes_own))))
local macro_rules | `(tactic| walk_at "binaryOp FloorDiv int int") => `(tactic| (k_here; (with_reducible show wpAny _ _ (binaryOp Operator.FloorDiv (Value.int _ _) (Value.int (HPow.hPow _ _) _)) _ _ _); k_dflt (refine idiv ?_ ?_); rotate_left; intro _ _; rotate_left))
local macro_rules | `(tactic| walk_at "eval Name") => `(tactic| ((with_reducible show wpAny _ _ (eval (Expr.Name _ _) (compEnvC _ _ _ _)) _ _ _); k_dflt (first | (refine' ldVarK (Fr.ns (by assumption)) (by assumption) ?_ ?ka ?kb ?kc; (case ka => exact rfl); (case kb => exact rfl); (case kc => decide)) | (refine' ldCellK (by exact rfl) (by assumption) ?_ ?ka ?kb ?kc; (case ka => exact rfl); (case kb => exact rfl); (case kc => decide)) | (refine' nameG_K (Fr.keeps (by assumption) (fun _ _ h9 => h9)) (by assumption) (by assumption) ?kd ?_ ?ke ?ka ?kb ?kc; (case kd => k_is); (case ke => exact rfl); (case ka => exact rfl); (case kb => exact rfl); (case kc => decide)))))
local macro_rules | `(tactic| walk_at "binaryOp Pow int int") => `(tactic| (k_here; (with_reducible show wpAny _ _ (binaryOp Operator.Pow (Value.int _ _) (Value.int _ _)) _ _ _); k_dflt (refine ipow ?_ ?_); rotate_left; intro _ _; rotate_left))
theorem octs_ints (x : Int) (n : Nat) (hn : (x.fdiv 4).fmod 5 = (n : Int)) : (List.range n).map (fun k => ((x.fdiv 32).fdiv (256 ^ k)).fmod 256) = bI (octsOf x) := by
  unfold octsOf bI
  rw [hn, Int.toNat_natCast, List.map_map]
  refine List.map_congr_left fun k _ => ?_
  show _ = (((((x.fdiv 32).fdiv (256 ^ k)).fmod 256).toNat.toUInt8).toNat : Int)
  rw [Int.fmod_eq_emod_of_nonneg _ (by decide)]
  generalize (x.fdiv 32).fdiv (256 ^ k) = y
  have h1 : (y % 256).toNat < 256 := by omega
  have : ((y % 256).toNat.toUInt8).toNat = (y % 256).toNat := by
    rw [Nat.toUInt8, UInt8.toNat_ofNat']; omega
  rw [this]; omega
theorem fold_length : ∀ (xs : List Int) (f : List Tree), (xs.foldl forestStep f).length ≤ f.length + xs.length
  | [], f => Nat.le_refl _
  | x :: xs, f => by
    have h1 := fold_length xs (forestStep f x)
    have h2 : (forestStep f x).length ≤ f.length + 1 := by
      unfold forestStep
      rw [List.length_append, List.length_take]; simp; omega
    simp only [List.foldl_cons, List.length_cons]
    omega
theorem step_at {nw nw' : List (Addr × Obj)} {ns : List Int} {i : Nat} {x : Int} {vs1 : List Value} {pv : Value} (hx : ns[i]? = some x) (hT : TreesAt (fun a o => (a, o) ∈ nw) (forest (ns.take i)) vs1) (hsub : ∀ p ∈ nw, p ∈ nw')
    (hv : TreeAt (fun a o => (a, o) ∈ nw') (pick (forest (ns.take i)) x) pv) : TreesAt (fun a o => (a, o) ∈ nw') (forest (ns.take (i + 1))) (vs1.take (cutOf vs1.length x) ++ [pv]) := by
  have e : forest (ns.take (i + 1)) = forestStep (forest (ns.take i)) x := by
    unfold forest
    rw [List.take_add_one, hx]
    show List.foldl forestStep [] (ns.take i ++ [x]) = _
    rw [List.foldl_append]; rfl
  rw [e, TreesAt.length _ _ hT]
  exact TreesAt.append _ _ _ _ (TreesAt.mono (fun a o h => hsub _ h) _ _ (TreesAt.take _ _ _ hT)) (treesAt_one hv)
theorem cut_pos {n : Nat} {x : Int} (h : x.fmod 4 = 3) : (if (n : Int) - (x.fdiv 4).fmod 4 > 0 then (n : Int) - (x.fdiv 4).fmod 4 else 0) = ((cutOf n x : Nat) : Int) := by
  unfold cutOf
  rw [if_pos h, Int.fmod_eq_emod_of_nonneg _ (by decide)]
  split <;> omega
theorem cut_neg {n : Nat} {x : Int} (h : x.fmod 4 ≠ 3) : (n : Int) = ((cutOf n x : Nat) : Int) := by
  unfold cutOf
  rw [if_neg h]
theorem for_hl {I D3 D2 L1 : Addr} {oI oY o3 o2 : Obj} {e1 e2 e3 e4 : Addr × Obj} {nw : List (Addr × Obj)} : ∀ p ∈ (I, oI) :: (L1, oY) :: (D3, o3) :: (D2, o2) :: nw, p ∈ (D3, o3) :: e1 :: e2 :: (D2, o2) :: e3 :: e4 :: (I, oI) :: (L1, oY) :: nw := by
  intro p hp
  rcases List.mem_cons.mp hp with rfl | hp
  · simp
  rcases List.mem_cons.mp hp with rfl | hp
  · simp
  rcases List.mem_cons.mp hp with rfl | hp
  · simp
  rcases List.mem_cons.mp hp with rfl | hp
  · simp
  · simp [hp]
theorem pick0 {x : Int} {a b c d : Value} (h : x.fmod 4 = 0) : ([a, b, c, d] : List Value)[(x.fmod 4).toNat]? = some a := by rw [h]; rfl
theorem pick1 {x : Int} {a b c d : Value} (h : x.fmod 4 = 1) : ([a, b, c, d] : List Value)[(x.fmod 4).toNat]? = some b := by rw [h]; rfl
theorem pick2 {x : Int} {a b c d : Value} (h : x.fmod 4 = 2) : ([a, b, c, d] : List Value)[(x.fmod 4).toNat]? = some c := by rw [h]; rfl
theorem pick3 {x : Int} {a b c d : Value} (h : x.fmod 4 = 3) : ([a, b, c, d] : List Value)[(x.fmod 4).toNat]? = some d := by rw [h]; rfl
theorem num_val (x : Int) : (x.fdiv 4).fmod (16 ^ Int.toNat 6) = ((((x.fdiv 4).fmod 16777216).toNat : Nat) : Int) := by
  have e : (16 : Int) ^ Int.toNat 6 = 16777216 := by decide
  rw [e, Int.fmod_eq_emod_of_nonneg _ (by decide)]; omega
structure ForSt where
  a : Addr
  oX : Obj
  nw : List (Addr × Obj)
theorem forest_ {prog : Program} {w : World} {a : Addr} {k : Nat} {vs : List Value} {ns : List Int} {A : Around} {s : Shared} {mean mg mb} {Q : Value → Shared → Prop} {E : Value → Shared → Prop} (C : Cx w mean mg mb s.heap) (hr : Room A 4 100)
    (ha : s.heap.get? a = some (listOf vs.toArray k)) (hi : IntsAre vs ns) (hlen : ns.length ≤ 100) (h : ∀ r (nw : List (Addr × Obj)) h' k, s.heap.StaysIn h' → (∀ p ∈ nw, h'.get? p.1 = some p.2 ∧ s.heap.get? p.1 = none) → TreeAt (fun a o => (a, o) ∈ nw) (.node (forest ns)) r → Q r { s with heap := h', toks := k })
    : wpAny (model prog w) A (call (.ref 105) [.ref a]) Q E s := by
  walk_at "MY fill"
  obtain ⟨hn0, dp, fr, gd, un⟩ := A
  obtain ⟨hh, hr, hu⟩ := hr
  obtain rfl : hn0 = none := hh
  k_dflt (refine' enterC (binds := [("numbers", .ref a)]) [("numbers", .ref a)] C ?k6 ?k7 ?k8 ?k9 ?kB ?kD ?hps ?_ ?c2 ?c3 ?c4; (case k6 => k_is); (case k7 => k_is); (case k8 => omega); (case k9 => exact BindsTo.of_eq rfl); (case kB => exact rfl); (case kD => decide +kernel); (case c2 => exact rfl); (case c3 => exact rfl); (case c4 => exact rfl))
  case hps => intro _; walk_at "MY all"
  intro g L h₁ u tk cells hg F N Y X T
  have Y1 := CellsAre.one Y
  obtain ⟨o1, rfl, d1⟩ := Y1
  replace d1 : o1.data = .cell none := d1
  clear Y
  w_on
  walk_at "MY go"
  refine ⟨?_⟩
  rename Fr _ _ _ _ => F
  rename News _ _ _ _ => N
  rename_i l0 _ _ _
  have ha' : g.get? a = some (listOf vs.toArray k) := by rw [hg]; exact ha
  have hvl : vs.length = ns.length := hi.length
  refine' for_list (σ := ForSt) (L := L) rfl (fun c => (L + 1, c.oX) :: c.nw) (fun c => [("numbers", .ref a), ("forest", .ref c.a)])
    (fun i c => (∃ vX, c.oX.data = .cell vX) ∧ (∃ vs1 k1, (c.a, listOf (List.toArray vs1) k1) ∈ c.nw ∧ TreesAt (fun a o => (a, o) ∈ c.nw) (forest (ns.take i)) vs1) ∧ (∀ p ∈ c.nw, ∀ v, p.2.data ≠ .cell v)) ⟨l0, o1, [(l0, listOf #[] 0)]⟩ rfl ha' F N ?hl ?hk ?hp ?turn ?done
  case hl =>
    intro p hp
    rcases List.mem_cons.mp hp with rfl | hp
    · exact .tail _ (.head _)
    · rw [List.mem_singleton.mp hp]; exact .head _
  case hk => walk_at "MY all"
  case hp =>
    refine ⟨⟨_, d1⟩, ⟨[], 0, .head _, rfl⟩, ?_⟩
    intro p hp v e
    rw [List.mem_singleton.mp hp] at e
    cases e
  case done =>
    clear F N
    rintro ⟨a1, oX, nw⟩ u h' tk' ⟨_, ⟨vs1, k1, hm, hT⟩, _⟩ F N
    dsimp only at F N hm hT
    rw [hvl, List.take_length] at hT
    walk_at "MY go"
    subst hg
    refine h _ nw _ _ F.keep (fun p hp => ⟨(N p (.tail _ hp)).1, (N p (.tail _ hp)).2.2⟩) ⟨a1, vs1, k1, rfl, hm, hT⟩
  case turn =>
    clear F N
    rintro i v ⟨a1, oX, nw⟩ oI u h' tk' hv ⟨⟨vX, hX⟩, ⟨vs1, k1, hm, hT⟩, hcl⟩ hne F N
    dsimp only at F N hm hT hX hcl hne ⊢
    obtain ⟨x, tx, rfl, hx⟩ := hi.at i v hv
    have hnX : ∀ p ∈ nw, p.1 ≠ L + 1 := by
      intro p hp e
      have q1 := (N p (.tail _ (.tail _ hp))).1
      have q2 := (N (L + 1, oX) (.tail _ (.head _))).1
      rw [e] at q1
      have q3 : p.2 = oX := Option.some.inj (q1.symm.trans q2)
      exact hcl p hp vX (q3 ▸ hX)
    have hIX := neN (hne _ (.head _))
    dsimp only at hIX
    refine wpAny_assign_Name ?_
    refine stCN (own := [(_, oI)]) (c := L + 1) (o := oX) (rest := nw) F N rfl hX ?_ hnX ?_
    · intro p hp; rw [List.mem_singleton.mp hp]; exact fun e => hIX e.symm
    intro h2 oY F2 N2 dY
    clear F N
    replace N2 : News g L h2 ((_, oI) :: (L + 1, oY) :: nw) := N2
    have hlv : vs1.length = (forest (ns.take i)).length := TreesAt.length _ _ hT
    have hfl : (forest (ns.take i)).length ≤ 100 := by
      have := fold_length (ns.take i) []
      have h2 : (ns.take i).length ≤ ns.length := by rw [List.length_take]; omega
      unfold forest
      simp at this h2 ⊢
      omega
    obtain ⟨n, hn⟩ : ∃ n : Nat, (x.fdiv 4).fmod 5 = (n : Int) := ⟨((x.fdiv 4).fmod 5).toNat, by rw [Int.fmod_eq_emod_of_nonneg _ (by decide)]; omega⟩
    have hn5 : n < 5 := by rw [Int.fmod_eq_emod_of_nonneg _ (by decide)] at hn; omega
    by_cases hx3 : x.fmod 4 = 3
    · have hcut := cut_pos (n := vs1.length) hx3
      walk_at "MY go"
      all_goals first | (exfalso; omega) | skip
      refine ⟨?_⟩
      rename Fr _ _ _ _ => F
      rename News _ _ _ _ => N
      refine len_list (items := vs1.toArray) ⟨_, (N (a1, listOf vs1.toArray k1) (.tail _ (.tail _ hm))).1, rfl, k1, rfl⟩ (by simp; omega) ?_
      rw [List.size_toArray]
      walk_at "MY go"
      refine ⟨?_⟩
      refine comp_range (fun k => ((x.fdiv 32).fdiv (256 ^ k)).fmod 256) n (cl := [("x", L + 1)]) rfl (by with_unfolding_all rfl) (by decide) rfl (by decide) rfl ?_
      walk_at "MY go"
      rename_i hR F N st9
      have hN1 := (N (L + 1, oY) (.tail _ (.head _))).1
      refine ⟨⟨_, _, _, _, rfl, hn ▸ hR, by omega, ?_, ?_⟩⟩
      · intro C' j tv s₂ m₂ E' hj F₂ hm2
        have hc : s₂.heap.IsCell (L + 1) (some (.int x tx)) := ⟨oY, F₂.keep _ _ hN1, dY⟩
        clear F N st9 hR
        walk_at "MY go"
        · exact ⟨by omega, by omega, Nat.lt_of_lt_of_le (show 256 < 2 ^ 9 by decide) (Nat.pow_le_pow_right (by decide) (by decide))⟩
        · refine ⟨Int.ne_of_gt (Int.pow_pos (by decide)), ?_⟩
          rw [pow256_log2, Int.toNat_natCast]
          omega
        · exact ⟨⟨_, rfl⟩, _, _, rfl, fun _ _ e => e⟩
      · intro D h' tk ys k2 hD hD' hI st
        have FN := newsNew F N st hD hD'
        clear F N hD hD' st st9 hR
        have F := FN.1
        have N := FN.2
        clear FN
        walk_at "MY go"
        refine ⟨?_⟩
        rename Fr _ _ _ _ => F
        rename News _ _ _ _ => N
        rw [octs_ints x n hn] at hI
        refine bmake F N (.head _) hI (by have := octsOf_length x; omega) rfl ?_
        intro h4 t4 k4 F4 N4
        clear F N
        walk_at "MY go"
        refine ⟨?_⟩
        rename Fr _ _ _ _ => F
        rename News _ _ _ _ => N
        refine kmk_slice_lit (s := ⟨_, _, _, _, _⟩) (zs := vs1.take (cutOf vs1.length x)) F N (its := vs1.toArray) ⟨_, (N (a1, listOf vs1.toArray k1) (.tail _ (.tail _ (.tail _ hm)))).1, rfl, k1, rfl⟩ (by constructor) (by constructor) (by rw [hcut]; exact pick_upto _ _) ?_ (by with_unfolding_all rfl) (by intro _; with_unfolding_all rfl) (by simp [sizeLine_eq]; omega)
        intro D1 h5 F5 N5 l5
        clear F N l5
        walk_at "MY go"
        iterate 2 (exact ⟨by decide, by decide, Nat.lt_of_lt_of_le (show 16 < 2 ^ 5 by decide) (Nat.pow_le_pow_right (by decide) (by decide))⟩)
        refine ⟨?_⟩
        rename Fr _ _ _ _ => F
        rename News _ _ _ _ => N
        refine kmk_slice_lit (s := ⟨_, _, _, _, _⟩) (zs := vs1.drop (cutOf vs1.length x)) F N (its := vs1.toArray) ⟨_, (N (a1, listOf vs1.toArray k1) (by simp [hm])).1, rfl, k1, rfl⟩ (by constructor) (by constructor) (by rw [hcut]; exact pick_from _ _) ?_ (by with_unfolding_all rfl) (by intro _; with_unfolding_all rfl) (by simp [sizeLine_eq]; omega)
        intro D2 h6 F6 N6 l6
        clear F N
        have hI2 := l6 _ (.tail _ (.tail _ (.head _)))
        clear l6
        walk_at "MY go"
        refine ⟨?_⟩
        rename Fr _ _ _ _ => F
        rename News _ _ _ _ => N
        refine kba_turn (value' := PySem.Expr.Name (PySem.Str.ofString "_") ⟨0, 0, 0, 0⟩) (fun _ => rfl) ?_
        refine item_listL (l := [_, _, _, _]) ⟨_, (N _ (.head _)).1, rfl, 0, rfl⟩ (by rw [hx3]; decide) (by rw [hx3]; decide) (pick3 hx3) ?_
        walk_at "MY go"
        refine ⟨?_⟩
        rename Fr _ _ _ _ => F
        rename News _ _ _ _ => N
        refine kmk_add_lit (s := ⟨_, _, _, _, _⟩) (zs := vs1.take (cutOf vs1.length x) ++ [_]) F N (its := (vs1.take (cutOf vs1.length x)).toArray) (its2 := #[_]) ⟨_, (N (D1, listOf (vs1.take (cutOf vs1.length x)).toArray 0) (by simp)).1, rfl, 0, rfl⟩ ⟨_, (N _ (.head _)).1, rfl, 0, rfl⟩ rfl ?_ (by simp [sizeLine_eq]; omega)
        intro D3 h7 F7 N7 l7
        have hI3 := l7 _ (.tail _ (.tail _ (.tail _ (.tail _ (.tail _ (.head _))))))
        clear F N l7
        walk_at "MY go"
        rename Fr _ _ _ _ => F
        rename News _ _ _ _ => N
        refine' StEnd.mk ⟨D3, oY, (D3, _) :: (D2, _) :: nw⟩ F N for_hl ?hA ?hB
        case hA => walk_at "MY all"
        case hB =>
          refine ⟨⟨⟨_, dY⟩, ⟨_, 0, .head _, step_at hx hT (fun p hp => .tail _ (.tail _ hp)) ?_⟩, ?_⟩, ?_⟩
          · unfold pick
            rw [if_pos hx3]
            rw [← hlv]
            exact ⟨D2, _, 0, rfl, .tail _ (.head _), TreesAt.mono (fun a o h => .tail _ (.tail _ h)) _ _ (TreesAt.drop _ _ _ hT)⟩

          · intro p hp v e
            rcases List.mem_cons.mp hp with rfl | hp
            · cases e
            rcases List.mem_cons.mp hp with rfl | hp
            · cases e
            · exact hcl p hp v e
          · intro p hp e
            rcases List.mem_cons.mp hp with rfl | hp
            · exact hIX e
            rcases List.mem_cons.mp hp with rfl | hp
            · exact absurd hI3 (by rw [← e]; exact Nat.lt_irrefl _)
            rcases List.mem_cons.mp hp with rfl | hp
            · exact absurd hI2 (by rw [← e]; exact Nat.lt_irrefl _)
            · exact hne p (.tail _ hp) e
    · have hx4 : x.fmod 4 = 0 ∨ x.fmod 4 = 1 ∨ x.fmod 4 = 2 := by
        rw [Int.fmod_eq_emod_of_nonneg _ (by decide)] at hx3 ⊢; omega
      have hcut := cut_neg (n := vs1.length) hx3
      walk_at "MY go"
      all_goals first | (exfalso; omega) | skip
      refine ⟨?_⟩
      rename Fr _ _ _ _ => F
      rename News _ _ _ _ => N
      refine len_list (items := vs1.toArray) ⟨_, (N (a1, listOf vs1.toArray k1) (.tail _ (.tail _ hm))).1, rfl, k1, rfl⟩ (by simp; omega) ?_
      rw [List.size_toArray]
      walk_at "MY go"
      refine ⟨?_⟩
      refine comp_range (fun k => ((x.fdiv 32).fdiv (256 ^ k)).fmod 256) n (cl := [("x", L + 1)]) rfl (by with_unfolding_all rfl) (by decide) rfl (by decide) rfl ?_
      walk_at "MY go"
      rename_i hR F N st9
      have hN1 := (N (L + 1, oY) (.tail _ (.head _))).1
      refine ⟨⟨_, _, _, _, rfl, hn ▸ hR, by omega, ?_, ?_⟩⟩
      · intro C' j tv s₂ m₂ E' hj F₂ hm2
        have hc : s₂.heap.IsCell (L + 1) (some (.int x tx)) := ⟨oY, F₂.keep _ _ hN1, dY⟩
        clear F N st9 hR
        walk_at "MY go"
        · exact ⟨by omega, by omega, Nat.lt_of_lt_of_le (show 256 < 2 ^ 9 by decide) (Nat.pow_le_pow_right (by decide) (by decide))⟩
        · refine ⟨Int.ne_of_gt (Int.pow_pos (by decide)), ?_⟩
          rw [pow256_log2, Int.toNat_natCast]
          omega
        · exact ⟨⟨_, rfl⟩, _, _, rfl, fun _ _ e => e⟩
      · intro D h' tk ys k2 hD hD' hI st
        have FN := newsNew F N st hD hD'
        clear F N hD hD' st st9 hR
        have F := FN.1
        have N := FN.2
        clear FN
        walk_at "MY go"
        refine ⟨?_⟩
        rename Fr _ _ _ _ => F
        rename News _ _ _ _ => N
        rw [octs_ints x n hn] at hI
        refine bmake F N (.head _) hI (by have := octsOf_length x; omega) rfl ?_
        intro h4 t4 k4 F4 N4
        clear F N
        walk_at "MY go"
        refine ⟨?_⟩
        rename Fr _ _ _ _ => F
        rename News _ _ _ _ => N
        refine kmk_slice_lit (s := ⟨_, _, _, _, _⟩) (zs := vs1.take (cutOf vs1.length x)) F N (its := vs1.toArray) ⟨_, (N (a1, listOf vs1.toArray k1) (.tail _ (.tail _ (.tail _ hm)))).1, rfl, k1, rfl⟩ (by constructor) (by constructor) (by rw [hcut]; exact pick_upto _ _) ?_ (by with_unfolding_all rfl) (by intro _; with_unfolding_all rfl) (by simp [sizeLine_eq]; omega)
        intro D1 h5 F5 N5 l5
        clear F N l5
        walk_at "MY go"
        iterate 2 (exact ⟨by decide, by decide, Nat.lt_of_lt_of_le (show 16 < 2 ^ 5 by decide) (Nat.pow_le_pow_right (by decide) (by decide))⟩)
        refine ⟨?_⟩
        rename Fr _ _ _ _ => F
        rename News _ _ _ _ => N
        refine kmk_slice_lit (s := ⟨_, _, _, _, _⟩) (zs := vs1.drop (cutOf vs1.length x)) F N (its := vs1.toArray) ⟨_, (N (a1, listOf vs1.toArray k1) (by simp [hm])).1, rfl, k1, rfl⟩ (by constructor) (by constructor) (by rw [hcut]; exact pick_from _ _) ?_ (by with_unfolding_all rfl) (by intro _; with_unfolding_all rfl) (by simp [sizeLine_eq]; omega)
        intro D2 h6 F6 N6 l6
        clear F N
        have hI2 := l6 _ (.tail _ (.tail _ (.head _)))
        clear l6
        walk_at "MY go"
        refine ⟨?_⟩
        rename Fr _ _ _ _ => F
        rename News _ _ _ _ => N
        rcases hx4 with hx4 | hx4 | hx4
        · refine kba_turn (value' := PySem.Expr.Name (PySem.Str.ofString "_") ⟨0, 0, 0, 0⟩) (fun _ => rfl) ?_
          refine item_listL (l := [_, _, _, _]) ⟨_, (N _ (.head _)).1, rfl, 0, rfl⟩ (by rw [hx4]; decide) (by rw [hx4]; decide) (pick0 hx4) ?_
          walk_at "MY go"
          refine ⟨?_⟩
          rename Fr _ _ _ _ => F
          rename News _ _ _ _ => N
          refine kmk_add_lit (s := ⟨_, _, _, _, _⟩) (zs := vs1.take (cutOf vs1.length x) ++ [_]) F N (its := (vs1.take (cutOf vs1.length x)).toArray) (its2 := #[_]) ⟨_, (N (D1, listOf (vs1.take (cutOf vs1.length x)).toArray 0) (by simp)).1, rfl, 0, rfl⟩ ⟨_, (N _ (.head _)).1, rfl, 0, rfl⟩ rfl ?_ (by simp [sizeLine_eq]; omega)
          intro D3 h7 F7 N7 l7
          have hI3 := l7 _ (.tail _ (.tail _ (.tail _ (.tail _ (.tail _ (.head _))))))
          clear F N l7
          walk_at "MY go"
          rename Fr _ _ _ _ => F
          rename News _ _ _ _ => N
          refine' StEnd.mk ⟨D3, oY, (D3, _) :: (D2, _) :: nw⟩ F N for_hl ?hA ?hB
          case hA => walk_at "MY all"
          case hB =>
            refine ⟨⟨⟨_, dY⟩, ⟨_, 0, .head _, step_at hx hT (fun p hp => .tail _ (.tail _ hp)) ?_⟩, ?_⟩, ?_⟩
            · unfold pick
              rw [if_neg hx3, if_neg (by rw [hx4]; decide)]
              exact ⟨_, someIntV (num_val x)⟩

            · intro p hp v e
              rcases List.mem_cons.mp hp with rfl | hp
              · cases e
              rcases List.mem_cons.mp hp with rfl | hp
              · cases e
              · exact hcl p hp v e
            · intro p hp e
              rcases List.mem_cons.mp hp with rfl | hp
              · exact hIX e
              rcases List.mem_cons.mp hp with rfl | hp
              · exact absurd hI3 (by rw [← e]; exact Nat.lt_irrefl _)
              rcases List.mem_cons.mp hp with rfl | hp
              · exact absurd hI2 (by rw [← e]; exact Nat.lt_irrefl _)
              · exact hne p (.tail _ hp) e
        · refine kba_turn (value' := PySem.Expr.Name (PySem.Str.ofString "_") ⟨0, 0, 0, 0⟩) (fun _ => rfl) ?_
          refine item_listL (l := [_, _, _, _]) ⟨_, (N _ (.head _)).1, rfl, 0, rfl⟩ (by rw [hx4]; decide) (by rw [hx4]; decide) (pick1 hx4) ?_
          walk_at "MY go"
          refine ⟨?_⟩
          rename Fr _ _ _ _ => F
          rename News _ _ _ _ => N
          refine kmk_add_lit (s := ⟨_, _, _, _, _⟩) (zs := vs1.take (cutOf vs1.length x) ++ [_]) F N (its := (vs1.take (cutOf vs1.length x)).toArray) (its2 := #[_]) ⟨_, (N (D1, listOf (vs1.take (cutOf vs1.length x)).toArray 0) (by simp)).1, rfl, 0, rfl⟩ ⟨_, (N _ (.head _)).1, rfl, 0, rfl⟩ rfl ?_ (by simp [sizeLine_eq]; omega)
          intro D3 h7 F7 N7 l7
          have hI3 := l7 _ (.tail _ (.tail _ (.tail _ (.tail _ (.tail _ (.head _))))))
          clear F N l7
          walk_at "MY go"
          rename Fr _ _ _ _ => F
          rename News _ _ _ _ => N
          refine' StEnd.mk ⟨D3, oY, (D3, _) :: (D2, _) :: nw⟩ F N for_hl ?hA ?hB
          case hA => walk_at "MY all"
          case hB =>
            refine ⟨⟨⟨_, dY⟩, ⟨_, 0, .head _, step_at hx hT (fun p hp => .tail _ (.tail _ hp)) ?_⟩, ?_⟩, ?_⟩
            · unfold pick
              rw [if_neg hx3, if_neg (by rw [hx4]; decide)]
              exact ⟨_, someIntV (num_val x)⟩

            · intro p hp v e
              rcases List.mem_cons.mp hp with rfl | hp
              · cases e
              rcases List.mem_cons.mp hp with rfl | hp
              · cases e
              · exact hcl p hp v e
            · intro p hp e
              rcases List.mem_cons.mp hp with rfl | hp
              · exact hIX e
              rcases List.mem_cons.mp hp with rfl | hp
              · exact absurd hI3 (by rw [← e]; exact Nat.lt_irrefl _)
              rcases List.mem_cons.mp hp with rfl | hp
              · exact absurd hI2 (by rw [← e]; exact Nat.lt_irrefl _)
              · exact hne p (.tail _ hp) e
        · refine kba_turn (value' := PySem.Expr.Name (PySem.Str.ofString "_") ⟨0, 0, 0, 0⟩) (fun _ => rfl) ?_
          refine item_listL (l := [_, _, _, _]) ⟨_, (N _ (.head _)).1, rfl, 0, rfl⟩ (by rw [hx4]; decide) (by rw [hx4]; decide) (pick2 hx4) ?_
          walk_at "MY go"
          refine ⟨?_⟩
          rename Fr _ _ _ _ => F
          rename News _ _ _ _ => N
          refine kmk_add_lit (s := ⟨_, _, _, _, _⟩) (zs := vs1.take (cutOf vs1.length x) ++ [_]) F N (its := (vs1.take (cutOf vs1.length x)).toArray) (its2 := #[_]) ⟨_, (N (D1, listOf (vs1.take (cutOf vs1.length x)).toArray 0) (by simp)).1, rfl, 0, rfl⟩ ⟨_, (N _ (.head _)).1, rfl, 0, rfl⟩ rfl ?_ (by simp [sizeLine_eq]; omega)
          intro D3 h7 F7 N7 l7
          have hI3 := l7 _ (.tail _ (.tail _ (.tail _ (.tail _ (.tail _ (.head _))))))
          clear F N l7
          walk_at "MY go"
          rename Fr _ _ _ _ => F
          rename News _ _ _ _ => N
          refine' StEnd.mk ⟨D3, oY, (D3, _) :: (D2, _) :: nw⟩ F N for_hl ?hA ?hB
          case hA => walk_at "MY all"
          case hB =>
            refine ⟨⟨⟨_, dY⟩, ⟨_, 0, .head _, step_at hx hT (fun p hp => .tail _ (.tail _ hp)) ?_⟩, ?_⟩, ?_⟩
            · unfold pick
              rw [if_neg hx3, if_pos hx4]
              exact ⟨_, rfl⟩

            · intro p hp v e
              rcases List.mem_cons.mp hp with rfl | hp
              · cases e
              rcases List.mem_cons.mp hp with rfl | hp
              · cases e
              · exact hcl p hp v e
            · intro p hp e
              rcases List.mem_cons.mp hp with rfl | hp
              · exact hIX e
              rcases List.mem_cons.mp hp with rfl | hp
              · exact absurd hI3 (by rw [← e]; exact Nat.lt_irrefl _)
              rcases List.mem_cons.mp hp with rfl | hp
              · exact absurd hI2 (by rw [← e]; exact Nat.lt_irrefl _)
              · exact hne p (.tail _ hp) e
end
section
open PySem PySem.W PyProof.Rows
set_option Elab.async false
set_option maxRecDepth 100000
open PySem PySem.Spec PySem.Calls PyProof.Rows PySem.W PySem.SeqAt
theorem eqAt_of_rc {A : Around} {s : Shared} {y x : Value} (hy : ∀ q t, y ≠ .float q t) (h : RcAt A s y x true) : EqAt A s y x true := fun prog w E Q hq => by
  unfold eqBool
  refine wpAny_holding ?_
  refine wpAny_ite_split (fun _ => wpAny_bind (wpAny_rule (wpAny_pure hq))) (fun _ => ?_)
  split
  · exact absurd (by assumption) (by intro e; injection e with e1 _; exact hy _ _ e1)
  · exact wpAny_bind (h prog w E _ (wpAny_truthy_bool hq))
mutual
theorem tree_eq {s : Shared} {G H : Addr → Obj → Prop} (hG : ∀ a o, G a o → s.heap.get? a = some o) (hH : ∀ a o, H a o → s.heap.get? a = some o) : ∀ (t : Tree) (v u : Value) (A : Around), A.units + height t + 1 < cLine → TreeAt G t v → TreeAt H t u → RcAt A s v u true
  | .num n, v, u, A, hu, hv, hw => by
    unfold TreeAt at hv hw
    obtain ⟨t1, rfl⟩ := hv
    obtain ⟨t2, rfl⟩ := hw
    intro prog w E Q h
    exact PyProof.Rows.eq_int (by simpa using h)
  | .oct l, v, u, A, hu, hv, hw => by
    unfold TreeAt at hv hw
    obtain ⟨t1, rfl⟩ := hv
    obtain ⟨t2, rfl⟩ := hw
    intro prog w E Q h
    exact eq_bytes (by simpa using h)
  | .node ts, v, u, A, hu, hv, hw => by
    unfold TreeAt at hv hw
    obtain ⟨a, vs, k, rfl, ha, hvs⟩ := hv
    obtain ⟨b, us, k2, rfl, hb, hus⟩ := hw
    have hl1 := TreesAt.length _ _ hvs
    have hl2 := TreesAt.length _ _ hus
    rw [height_pos_node] at hu
    have e : ((List.range vs.toArray.size).all fun _ => true) = true := by simp
    rw [← e]
    refine RcAt.lists ⟨_, hG _ _ ha, rfl, k, rfl⟩ ⟨_, hH _ _ hb, rfl, k2, rfl⟩ (by simp; omega) (by omega) ?_
    intro j h1 h2
    have := trees_eq hG hH ts vs us A.in1 (by show A.units + 1 + heights ts + 1 < cLine; omega) hvs hus j (by simpa using h1) (by simpa using h2)
    simpa using this
theorem trees_eq {s : Shared} {G H : Addr → Obj → Prop} (hG : ∀ a o, G a o → s.heap.get? a = some o) (hH : ∀ a o, H a o → s.heap.get? a = some o) : ∀ (ts : List Tree) (vs us : List Value) (A : Around), A.units + heights ts + 1 < cLine → TreesAt G ts vs → TreesAt H ts us →
    ∀ (j : Nat) (h1 : j < vs.length) (h2 : j < us.length), EqAt A s vs[j] us[j] true
  | [], vs, us, A, hu, hv, hw => by
    unfold TreesAt at hv
    subst hv
    intro j h1; simp at h1
  | t :: ts, vs, us, A, hu, hv, hw => by
    unfold TreesAt at hv hw
    obtain ⟨v, r, rfl, hv1, hv2⟩ := hv
    obtain ⟨u, q, rfl, hw1, hw2⟩ := hw
    simp only [heights] at hu
    intro j h1 h2
    cases j with
    | zero =>
      refine eqAt_of_rc ?_ (tree_eq hG hH t v u A (by omega) hv1 hw1)
      intro x y e
      subst e
      cases t <;> (unfold TreeAt at hv1) <;> simp at hv1
    | succ j => exact trees_eq hG hH ts r q A (by omega) hv2 hw2 j (by simpa using h1) (by simpa using h2)
end
end
section
open PySem PySem.W PyProof.Rows
set_option Elab.async false
set_option maxRecDepth 100000
set_option maxHeartbeats 8000000
open PySem PySem.Spec PySem.Calls PyProof.Rows PySem.W
local macro_rules | `(tactic| walk_at "call ref") => `(tactic| refine Hold.h ?_)
local macro_rules | `(tactic| walk_at "compareOp Eq ref ref") => `(tactic| refine Hold.h ?_)
theorem row_of {prog : Program} {w : World} {mean mg mb} (n : Nat) (ts : List Tree) {l : List UInt8} (e : l = body ts) {A : Around} {s : Shared} {t} {Q : Value → Shared → Prop} {E : Value → Shared → Prop} (hn : heights ts ≤ n) (C : Cx w mean mg mb s.heap) (hh : A.handled = none) (hr : A.depth + n + 9 < recursionLimit) (hu : A.units + 10 * n + 140 < cLine)
    (hl : (body ts).length ≤ 1300) (h : ∀ r (nw : List (Addr × Obj)) h' k, s.heap.StaysIn h' → (∀ p ∈ nw, h'.get? p.1 = some p.2 ∧ s.heap.get? p.1 = none) → TreeAt (fun a o => (a, o) ∈ nw) (.node ts) r → Q r { s with heap := h', toks := k }) :
    wpAny (model prog w) A (call (.ref 129) [.bytes l.toArray t]) Q E s := by
  subst e
  exact row_ n ts hn C hh hr hu hl h
theorem law_eq {prog : Program} {w : World} {A : Around} {s : Shared} {E : Value → Shared → Prop} {Q : Value → Shared → Prop} {nw nw2 : List (Addr × Obj)} {f : List Tree} {a a2 D : Addr} {k k9 : Nat} {vs vs2 : List Value}
    (N2 : ∀ p ∈ nw2, s.heap.get? p.1 = some p.2) (N1 : ∀ p ∈ nw, s.heap.get? p.1 = some p.2) (hD : s.heap.get? D = some (listOf #[.ref a] 0)) (ha : (a, listOf vs.toArray k) ∈ nw) (hvs : TreesAt (fun a o => (a, o) ∈ nw) f vs)
    (ha2 : (a2, listOf vs2.toArray k9) ∈ nw2) (hvs2 : TreesAt (fun a o => (a, o) ∈ nw2) [.node f] vs2) (hf : heights f ≤ 15) (hu : A.units + 20 < cLine) (h : Q (.bool true) s) : wpAny (model prog w) A (compareOp .Eq (.ref a2) (.ref D)) Q E s := by
  have e1 : TreeAt (fun a o => (a, o) ∈ nw2) (.node [.node f]) (.ref a2) := by
    unfold TreeAt; exact ⟨a2, vs2, k9, rfl, ha2, hvs2⟩
  have e2 : TreeAt (fun a o => (a, o) ∈ nw) (.node f) (.ref a) := by
    unfold TreeAt; exact ⟨a, vs, k, rfl, ha, hvs⟩
  have e3 : TreeAt (fun a o => s.heap.get? a = some o) (.node [.node f]) (.ref D) := by
    unfold TreeAt
    exact ⟨D, [.ref a], 0, rfl, hD, treesAt_one (TreeAt.mono (fun a o h => N1 (a, o) h) _ _ e2)⟩
  have hh : height (.node [.node f]) ≤ 17 := by
    rw [height_pos_node]; simp only [heights]; rw [height_pos_node]; omega
  exact tree_eq (fun a o h => N2 (a, o) h) (fun _ _ h => h) _ _ _ A (by omega) e1 e3 prog w E Q h
theorem law_ : PySem.Challenge.rw_ny0058_01.Holds := by
  refine Mine.hd ?_
  k_go0
  all_goals try k_fold
  walk_at "MY steps"
  refine ⟨?_⟩
  rename Fr _ _ _ _ => F
  rename News _ _ _ _ => N
  rename IntsAre _ (_ ++ _) => hI
  rename (Mine.hd.heap_39 _).In _ => X
  rename Top _ _ _ _ _ _ => T
  rename (List.take 8 _).length = _ => h8
  have sz := law_sizes _ (show (List.take 8 _).length ≤ 8 from h8 ▸ Nat.min_le_left _ _)
  have e8 : ∀ xs : List Int, (xs ++ tailOf).length = xs.length + 7 := fun xs => List.length_append
  refine forest_ (Cx.keeps ⟨X, T⟩ F.keep) (by refine ⟨rfl, ?_, ?_⟩ <;> (clear F N; dsimp only [Around.deeper, callerA]; decide)) (N _ (.head _)).1 hI (by rw [List.length_append, h8]; show min 8 _ + 7 ≤ 100; omega) ?_
  intro r nw h2 k2 st hnw hT
  have FN := newsMore F N st hnw
  clear F N st hnw
  have F := FN.1
  have N := FN.2
  clear FN
  obtain ⟨a, vs, k, rfl, ha, hvs⟩ := hT
  walk_at "MY go"
  refine ⟨?_⟩
  rename Fr _ _ _ _ => F
  rename News _ _ _ _ => N
  refine written_ 16 (.node _) (by rw [height_pos_node]; exact Nat.succ_le_succ sz.2.1) (Cx.keeps ⟨X, T⟩ F.keep) rfl (by dsimp only [Around.deeper, callerA]; decide) (by dsimp only [Around.deeper, callerA]; decide)
    (TreeAt.mono (fun a o h => (N (a, o) (List.mem_append_left _ h)).1) _ _ ⟨a, vs, k, rfl, ha, hvs⟩) (by decide) (Nat.le_trans sz.2.2 (by decide)) ?_
  intro h3 t3 k3 st3
  have F3 := F.keeps st3
  have N3 := N.grown st3
  clear F N st3
  walk_at "MY go"
  refine ⟨?_⟩
  rename Fr _ _ _ _ => F
  rename News _ _ _ _ => N
  refine row_of 16 [.node _] (by simp [body]; rfl) (by simp only [heights]; rw [height_pos_node]; exact Nat.max_le.mpr ⟨Nat.succ_le_succ sz.2.1, Nat.zero_le _⟩) (Cx.keeps ⟨X, T⟩ F.keep) rfl (by dsimp only [Around.deeper, callerA]; decide) (by dsimp only [Around.deeper, callerA]; decide) (by simp only [body, List.append_nil]; exact sz.2.2) ?_
  intro r2 nw2 h4 k4 st4 hnw2 hT2
  have FN := newsMore F N st4 hnw2
  clear F N st4 hnw2
  have F := FN.1
  have N := FN.2
  clear FN
  obtain ⟨a2, vs2, k9, rfl, ha2, hvs2⟩ := hT2
  walk_at "MY go"
  refine ⟨?_⟩
  rename Fr _ _ _ _ => F
  rename News _ _ _ _ => N
  refine law_eq (fun p h => (N p (.tail _ (List.mem_append_left _ h))).1) (fun p h => (N p (.tail _ (List.mem_append_right _ (List.mem_append_left _ h)))).1) (N _ (.head _)).1 ha hvs ha2 hvs2 sz.2.1 (by dsimp only [Around.deeper, callerA]; decide) ?_
  first | (k_end; kc_close) | (k_end; wrow_close) | wrow_close
  all_goals (try k_data)
end
end Mine

theorem PySem.Challenge.cw_ny0058_01_holds : PySem.Challenge.rw_ny0058_01.Holds := by
  exact Mine.law_
