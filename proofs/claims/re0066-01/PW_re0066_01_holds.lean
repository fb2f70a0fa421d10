import PyProof.Rows.All
import Wide.All
import OpenK.AllK
import Wide.FinOn
import PySem.Challenge.RW_re0066_01
open PySem PySem.W PySem.Calls PyProof.Rows
set_option Elab.async false
set_option maxRecDepth 100000

namespace Mine
set_option maxRecDepth 100000 in
set_option maxHeartbeats 8000000 in
open_top hd for PySem.Challenge.rw_re0066_01
end Mine
namespace Mine

noncomputable abbrev PG : Program := PySem.Challenge.rw_re0066_01.prog
noncomputable abbrev LS : List Str := looseW hd.view_39 [Str.ofString "Whitespace"]
def Ext (h h' : Heap) : Prop := ∀ b o, h.get? b = some o → h'.get? b = some o
theorem Ext.refl (h : Heap) : Ext h h := fun _ _ e => e
theorem Ext.trans {a b c : Heap} (x : Ext a b) (y : Ext b c) : Ext a c := fun _ _ e => y _ _ (x _ _ e)
theorem Ext.fr {h₀ h h' : Heap} {L : Addr} {m : Str → Option Value} (x : Ext h h') (F : Fr h₀ L h m) : Fr h₀ L h' m := by
  obtain ⟨oL, a1, a2, hL, a3⟩ := F.ns
  exact ⟨⟨oL, a1, a2, x _ _ hL, a3⟩, fun b o e => x _ _ (F.keep b o e), F.above⟩
theorem Ext.news {h₀ h h' : Heap} {L : Addr} {n : List (Addr × Obj)} (x : Ext h h') (N : News h₀ L h n) : News h₀ L h' n :=
  fun p hp => ⟨x _ _ (N p hp).1, (N p hp).2⟩
theorem InstAt.ext {h h' : Heap} {x : Addr} {ox : Obj} {C : Addr} {od : Option Obj} (I : InstAt h x ox C od) (k : ∀ b o, h.get? b = some o → h'.get? b = some o) : InstAt h' x ox C od := by
  obtain ⟨a, b, c, d⟩ := I
  refine ⟨k _ _ a, b, c, ?_⟩
  cases hx : ox.dict <;> cases od <;> simp only [hx] at d ⊢
  exact k _ _ d
/-- what every call of a def of the text leans on -/
def Ok (w : World) (h : Heap) : Prop := (hd.heap_39 w.params).In h ∧ ∃ mean mg mb, Top hd.view_39 LS mean mg mb h
theorem Ok.ext {w : World} {h h' : Heap} (o : Ok w h) (x : Ext h h') : Ok w h' := by
  obtain ⟨X, mean, mg, mb, T⟩ := o
  exact ⟨X.keeps x, mean, mg, mb, T.keeps x⟩
abbrev Ar (dp un : Nat) (fr : Option (List Env)) (gd : Option (List Code)) : Around := { handled := none, depth := dp, frames := fr, guards := gd, units := un }
section
variable {prog : Program} {w : World} {A : Around} {s : Shared} {K : Frag} {p : Program} {loose : List Str} {mean : ExcName → Option Value} {mg mb : Str → Option Value}
  {Q E : Value → Shared → Prop} {name qual : Str} {params : Arguments} {body : List Stmt} {scope : Scope} {dV kV doc pm cdv ct oc : Value} {an od : Option Addr} {osl : Array (Option Value)} {f : Addr} {args : List Value} {binds : List (Str × Value)}
theorem enter (X : K.In s.heap) (T : Top p loose mean mg mb s.heap)
    (ho : K.lookup f = some ⟨oc, od, .func (fnOf name qual params body scope dV kV doc pm an cdv ct), osl⟩) (hcd : codeIn K cdv qual = true) (hroom : A.depth < recursionLimit)
    (hbind : BindsTo s (fnOf name qual params body scope dV kV doc pm an cdv ct) ⟨args, []⟩ binds) (hloc : ∀ y ∈ binds, scope.names.lookup y.1 = some .local)
    (h : ∀ L h₁ tk, Fr s.heap L h₁ (fun y => binds.reverse.lookup y) → News s.heap L h₁ [] →
      wpAny (model prog w) (A.deeper (envOf qual scope L f cdv)) (execs body (envOf qual scope L f cdv))
        (fun fl s' => Q (match fl with | .ret v => v | _ => .none) s') (fun _ _ => False) { s with heap := h₁, toks := tk })
    (hcell : ∀ x ∈ scope.names, x.2 ≠ .cell) (hco : scope.isCoroutine = false) (hgen : scope.isGenerator = false) (hk : scope.kind = .function) : wpAny (model prog w) A (call (.ref f) args) Q E s := by
  refine wpAny_call (codeAny_call_def (fd := fnOf name qual params body scope dV kV doc pm an cdv ct) (body := body) (binds := binds) hroom (X _ _ ho) rfl T.nolimit (codeRec_of X hcd) rfl hbind hcell hloc (fun h₁ hns hk₁ => ?_) hco hgen hk)
  exact wpAny_mono (h _ h₁ _ ⟨hns, hk₁, Nat.le_refl _⟩ News.nil) (fun _ _ q => q) fun _ _ e => e.elim
theorem enterC (X : K.In s.heap) (T : Top p loose mean mg mb s.heap)
    (ho : K.lookup f = some ⟨oc, od, .func (fnOf name qual params body scope dV kV doc pm an cdv ct), osl⟩) (hcd : codeIn K cdv qual = true) (hroom : A.depth < recursionLimit)
    (hbind : BindsTo s (fnOf name qual params body scope dV kV doc pm an cdv ct) ⟨args, []⟩ binds) (hkind : (binds.all fun y => scope.names.lookup y.1 == some .local || scope.names.lookup y.1 == some .cell) = true)
    (hnd : ((cellsFrom 0 scope.names []).map (·.1)).Nodup)
    (h : ∀ L h₁ tk cells, Fr s.heap L h₁ (bindL (envOfC qual scope L f cdv).kindOf binds fun _ => none) → News s.heap L h₁ cells →
      CellsAre (bindC (envOfC qual scope L f cdv).kindOf binds fun _ => none) (cellsFrom (L + 1) scope.names []) cells →
      wpAny (model prog w) (A.deeper (envOfC qual scope L f cdv)) (execs body (envOfC qual scope L f cdv))
        (fun fl s' => Q (match fl with | .ret v => v | _ => .none) s') (fun _ _ => False) { s with heap := h₁, toks := tk })
    (hco : scope.isCoroutine = false) (hgen : scope.isGenerator = false) (hk : scope.kind = .function) : wpAny (model prog w) A (call (.ref f) args) Q E s := by
  refine wpAny_call (codeAny_call_function hroom (X _ _ ho) rfl hco hgen rfl (codeRec_of X hcd) (hbind _ _ _ _ ?_))
  refine wpAny_newFunctionEnv_cells hk (kindsX hkind _) fun env' he s' x => ?_
  subst he
  refine ⟨T.nolimit.keeps x.toInCall.keep, codeAny_func ?_⟩
  obtain ⟨h₁, tk, rfl, _⟩ := x.done
  have hk₁ := x.toInCall.keep
  obtain ⟨cells, NC, Y⟩ := Cl.news (h₀ := s.heap) (Nat.le_refl _) fun n c hm => ⟨x.cell n c (lookup_of_mem_nodup (cellsFrom_names scope.names 0 (s.heap.objs.size + 1) [] [] rfl ▸ hnd) hm), x.above n c hm⟩
  exact wpAny_mono (h _ h₁ tk cells ⟨x.toInCall.ns, hk₁, Nat.le_refl _⟩ NC Y) (fun _ _ q => q) fun _ _ e => e.elim
end

/-- no iterator: these alone hold fields -/
def notIter (o : Obj) : Bool := match o.data with
  | .fields _ => false
  | _ => true
theorem notIter_cell {o : Obj} {v : Option Value} (h : o.data = .cell v) : notIter o = true := by unfold notIter; rw [h]
theorem notIter_fields {o : Obj} {v : Array Value} (h : o.data = .fields v) : notIter o = false := by unfold notIter; rw [h]
/-- the end of a loop's turn -/
def EndJ (h₀ : Heap) (L I : Addr) (oI : Obj) (fix : List (Addr × Obj)) (Jn : (Str → Option Value) → List (Addr × Obj) → Prop) (s s' : Shared) : Prop :=
  ∃ h' tk m' news', s' = { s with heap := h', toks := tk } ∧ Fr h₀ L h' m' ∧ News h₀ L h' ((I, oI) :: (fix ++ news')) ∧ (∀ p ∈ news', notIter p.2 = true) ∧ Jn m' news'
def TurnJ (h₀ : Heap) (L I : Addr) (oI : Obj) (fix : List (Addr × Obj)) (Jn : (Str → Option Value) → List (Addr × Obj) → Prop) (s : Shared) (Q : Flow → Shared → Prop) (f : Flow) (s' : Shared) : Prop :=
  match f with
  | .ret v => Q (.ret v) s'
  | .brk => Q .next s'
  | .next => EndJ h₀ L I oI fix Jn s s'
  | .cont => EndJ h₀ L I oI fix Jn s s'
def LoopM (prog : Program) (w : World) (A : Around) (h₀ : Heap) (env : Env) (x : Str) (body : List Stmt) (Q : Flow → Shared → Prop) (E : Value → Shared → Prop) (it : Value) (s₂ : Shared) : Prop := LoopAtV prog w A h₀ env x body Q E it s₂
section
variable {prog : Program} {w : World} {A : Around} {E : Value → Shared → Prop} {s : Shared} {env : Env} {h₀ : Heap} {x : Str} {body : List Stmt} {Q : Flow → Shared → Prop}
theorem For_M {m : Str → Option Value} {px pos : Pos} {iter : PySem.Expr} (_F : Fr h₀ env.locals s.heap m) (hx : env.kindOf x = some .local)
    (hp : (env.scope.kind == .class || (env.scope.kind == .module && env.locals != env.globals)) = false)
    (h : wpAny (model prog w) A (eval iter env) (fun xv s₁ => wpAny (model prog w) A (pyIter xv) (fun it s₂ => LoopM prog w A h₀ env x body Q E it s₂) E s₁) E s)
    (hs : ∀ x, foldedSetIterable iter env x = pure x := by intro _; rfl)
    (hE : PassesOwn (model prog w) A env E := by passes_own) :
    wpAny (model prog w) A (exec (.For (.Name x px) iter body [] pos) env) Q E s := For_invV h₀ hx hp h hs hE
theorem loopJ {I : Addr} {fp : List Addr} {n : Nat} {P : Nat → Value → Prop} {St : Nat → Heap → Prop} {m : Str → Option Value} {news : List (Addr × Obj)} (fix : List (Addr × Obj)) (J : Nat → (Str → Option Value) → List (Addr × Obj) → Prop)
    (W : Walks prog w A I fp [I] n P St) (hst : St 0 s.heap) (hfp : ∀ b ∈ fp, b = I ∨ ∃ o, h₀.get? b = some o) (hIo : ∀ i h, St i h → ∃ o, h.get? I = some o ∧ notIter o = false)
    (hI0 : h₀.get? I = none) (hIL : I ≠ env.locals) (hfx : ∀ p ∈ fix, p.1 ≠ I) (F : Fr h₀ env.locals s.heap m) (N : News h₀ env.locals s.heap (fix ++ news)) (hno : ∀ p ∈ news, notIter p.2 = true) (hJ : J 0 m news)
    (turn : ∀ i v m₁ news₁ h tk oI, P i v → i < n → J i m₁ news₁ → notIter oI = false → (∀ p ∈ fix ++ news₁, p.1 ≠ I) → Fr h₀ env.locals h (fun y => if y = x then some v else m₁ y) → News h₀ env.locals h ((I, oI) :: (fix ++ news₁)) →
      wpAny (model prog w) A (execs body env) (TurnJ h₀ env.locals I oI fix (J (i + 1)) { s with heap := h, toks := tk } Q) E { s with heap := h, toks := tk })
    (done : ∀ m₁ news₁ h tk, J n m₁ news₁ → Fr h₀ env.locals h m₁ → News h₀ env.locals h (fix ++ news₁) → Q .next { s with heap := h, toks := tk }) :
    LoopM prog w A h₀ env x body Q E (.ref I) s := by
  have hLf : env.locals ∉ fp := fun hm => by
    rcases hfp _ hm with e | ⟨o, e⟩
    · exact hIL e.symm
    · exact absurd (Heap.lt_size e) (Nat.not_lt.mpr F.above)
  have cut : ∀ (h : Heap) (oI : Obj) (l : List (Addr × Obj)), h.get? I = some oI → notIter oI = false → (∀ p ∈ l, h.get? p.1 = some p.2) → (∀ p ∈ l, notIter p.2 = true) → ∀ p ∈ l, p.1 ≠ I := by
    intro h oI l h1 h2 h3 h4 p hp e
    have h5 := h3 p hp
    rw [e, h1] at h5
    have h6 := h4 p hp
    rw [← Option.some.inj h5, h2] at h6
    cases h6
  obtain ⟨o0, ho0, hn0⟩ := hIo _ _ hst
  refine ⟨I, fp, [I], n, P, St, m, fix ++ news, fun i m' l => ∃ l', l = fix ++ l' ∧ (∀ p ∈ l', notIter p.2 = true) ∧ J i m' l', rfl, W, hLf, ?_, ?_, hst, F, N, ⟨news, rfl, hno, hJ⟩, ?_, ?_⟩
  · intro b hb; rw [List.mem_singleton.mp hb]; exact hI0
  · intro p hp hI
    rcases List.mem_append.mp hp with hp | hp
    · exact hfx p hp (List.mem_singleton.mp hI)
    · exact cut _ _ _ ho0 hn0 (fun p hp => (N p (List.mem_append_right _ hp)).1) hno p hp (List.mem_singleton.mp hI)
  · rintro i v m₁ _ s₁ own ⟨hh, tk, rfl⟩ hi hP ⟨news₁, rfl, hno₁, hJ₁⟩ hoff hown hownG hcomp hst₁ F₁ N₁
    obtain ⟨oI, hoI, hnI⟩ := hIo _ _ hst₁
    have hm : (I, oI) ∈ own := hcomp I (W.sub I (List.mem_singleton.mpr rfl)) hI0 oI hoI
    have N₂ : News h₀ env.locals hh ((I, oI) :: (fix ++ news₁)) := fun p hp => by
      rcases List.mem_cons.mp hp with e | hp
      · exact N₁ p (e ▸ List.mem_append_left _ hm)
      · exact N₁ p (List.mem_append_right _ hp)
    refine wpAny_mono (turn i v m₁ news₁ hh tk oI hP hi hJ₁ hnI (fun p hp e => hoff p hp (List.mem_singleton.mpr e)) F₁ N₂) (fun f s₂ hf => ?_) fun _ _ e => e
    have fin : EndJ h₀ env.locals I oI fix (J (i + 1)) { s with heap := hh, toks := tk } s₂ → LoopStepU h₀ env.locals [I] own (fun m' l => ∃ l', l = fix ++ l' ∧ (∀ p ∈ l', notIter p.2 = true) ∧ J (i + 1) m' l') { s with heap := hh, toks := tk } .next s₂ := by
      rintro ⟨h', tk', m', news', e, F', N', hno', hJ'⟩
      refine ⟨rfl, h', tk', m', fix ++ news', e, F', ?_, ?_, news', rfl, hno', hJ'⟩
      · intro p hp
        rcases List.mem_append.mp hp with hp | hp
        · rcases hfp _ (hown p hp) with e | ⟨o, e⟩
          · have e2 := hownG p hp
            rw [e, hoI] at e2
            have : p = (I, oI) := by
              obtain ⟨p1, p2⟩ := p
              have e' : p1 = I := e
              have e2' : oI = p2 := Option.some.inj e2
              rw [e', e2']
            exact this ▸ N' _ (List.mem_cons_self)
          · have := (N₁ p (List.mem_append_left _ hp)).2.2
            rw [this] at e; cases e
        · exact N' p (List.mem_cons_of_mem _ hp)
      · intro p hp hI
        rcases List.mem_append.mp hp with hp | hp
        · exact hfx p hp (List.mem_singleton.mp hI)
        · exact cut h' oI news' (N' _ List.mem_cons_self).1 hnI (fun p hp => (N' p (List.mem_cons_of_mem _ (List.mem_append_right _ hp))).1) hno' p hp (List.mem_singleton.mp hI)
    cases f with
    | ret v => exact hf
    | brk => exact hf
    | next => exact fin hf
    | cont => exact fin hf
  · rintro h' tk m' _ F' N' _ ⟨news', rfl, _, hJ'⟩
    exact done m' news' h' tk hJ' F' N'
theorem fix_off {l : List (Addr × Obj)} (N : News h₀ env.locals s.heap l) : ∀ p ∈ l, p.1 ≠ s.heap.objs.size := fun p hp e => absurd (Heap.lt_size (N p hp).1) (e ▸ Nat.lt_irrefl _)
theorem next_new {m : Str → Option Value} (F : Fr h₀ env.locals s.heap m) : h₀.get? s.heap.objs.size = none := Heap.get?_none_of_le (Nat.le_trans F.above (Nat.le_of_lt F.ns.lt))
theorem iter_range {r : Addr} {a b c : Int} {t u v : Tok} {n : Nat} {m : Str → Option Value} {news : List (Addr × Obj)} (fix : List (Addr × Obj)) (J : Nat → (Str → Option Value) → List (Addr × Obj) → Prop)
    (hh : A.handled = none) (hr : IsRange s.heap r a b c t u v) (hsmall : Builtin.Range.small a b c = true) (hn : Builtin.Range.rangeSize a b c = (n : Int))
    (F : Fr h₀ env.locals s.heap m) (N : News h₀ env.locals s.heap (fix ++ news)) (hno : ∀ p ∈ news, notIter p.2 = true) (hJ : J 0 m news)
    (turn : ∀ (i : Nat) tk₀ m₁ news₁ h tk I oI, i < n → J i m₁ news₁ → notIter oI = false → (∀ p ∈ fix ++ news₁, p.1 ≠ I) → Fr h₀ env.locals h (fun y => if y = x then some (.int (a + i * c) tk₀) else m₁ y) → News h₀ env.locals h ((I, oI) :: (fix ++ news₁)) →
      wpAny (model prog w) A (execs body env) (TurnJ h₀ env.locals I oI fix (J (i + 1)) { s with heap := h, toks := tk } Q) E { s with heap := h, toks := tk })
    (done : ∀ m₁ news₁ h tk, J n m₁ news₁ → Fr h₀ env.locals h m₁ → News h₀ env.locals h (fix ++ news₁) → Q .next { s with heap := h, toks := tk }) :
    wpAny (model prog w) A (pyIter (.ref r)) (fun it s₂ => LoopM prog w A h₀ env x body Q E it s₂) E s := by
  refine wpAny_pyIter_range hr hsmall ?_
  refine loopJ fix J (Walks.range hh s.heap.objs.size a c n) (by show IsRangeIter _ _ _ _ _; rw [hn]; simpa using Heap.get?_push_size _ rfl) (fun b hb => .inl (List.mem_singleton.mp hb)) (fun i h st => ⟨_, st, rfl⟩)
    (next_new F) (Nat.ne_of_gt F.ns.lt) (fun p hp => fix_off N p (List.mem_append_left _ hp)) (F.push _) (fun p hp => ⟨Heap.get?_push_of_some _ (N p hp).1, (N p hp).2⟩) hno hJ ?_ done
  rintro i v m₁ news₁ h tk oI ⟨tk₀, rfl⟩ hi hJ₁ hnI hoff F₁ N₁
  exact turn i tk₀ m₁ news₁ h tk _ oI hi hJ₁ hnI hoff F₁ N₁
theorem iter_up {r : Addr} {a b : Int} {t u v : Tok} {m : Str → Option Value} {news : List (Addr × Obj)} (fix : List (Addr × Obj)) (J : Nat → (Str → Option Value) → List (Addr × Obj) → Prop)
    (hh : A.handled = none) (hr : IsRange s.heap r a b 1 t u v) (hlo : -1000 ≤ a ∧ a ≤ 1000 ∧ -1000 ≤ b ∧ b ≤ 1000)
    (F : Fr h₀ env.locals s.heap m) (N : News h₀ env.locals s.heap (fix ++ news)) (hno : ∀ p ∈ news, notIter p.2 = true) (hJ : J 0 m news)
    (turn : ∀ (i : Nat) tk₀ m₁ news₁ h tk I oI, i < (b - a).toNat → J i m₁ news₁ → notIter oI = false → (∀ p ∈ fix ++ news₁, p.1 ≠ I) → Fr h₀ env.locals h (fun y => if y = x then some (.int (a + i) tk₀) else m₁ y) → News h₀ env.locals h ((I, oI) :: (fix ++ news₁)) →
      wpAny (model prog w) A (execs body env) (TurnJ h₀ env.locals I oI fix (J (i + 1)) { s with heap := h, toks := tk } Q) E { s with heap := h, toks := tk })
    (done : ∀ m₁ news₁ h tk, J (b - a).toNat m₁ news₁ → Fr h₀ env.locals h m₁ → News h₀ env.locals h (fix ++ news₁) → Q .next { s with heap := h, toks := tk }) :
    wpAny (model prog w) A (pyIter (.ref r)) (fun it s₂ => LoopM prog w A h₀ env x body Q E it s₂) E s := by
  refine iter_range fix J hh hr (small_one (by omega) (by omega) (by omega) (by omega)) (rangeSize_nat _ _) F N hno hJ ?_ done
  intro i tk₀ m₁ news₁ h tk I oI hi hJ₁ hnI hoff F₁ N₁
  rw [Int.mul_one] at F₁
  exact turn i tk₀ m₁ news₁ h tk I oI hi hJ₁ hnI hoff F₁ N₁
theorem iter_down {r : Addr} {a b : Int} {t u v : Tok} {m : Str → Option Value} {news : List (Addr × Obj)} (fix : List (Addr × Obj)) (J : Nat → (Str → Option Value) → List (Addr × Obj) → Prop)
    (hh : A.handled = none) (hr : IsRange s.heap r a b (-1) t u v) (hlo : -1000 ≤ a ∧ a ≤ 1000 ∧ -1000 ≤ b ∧ b ≤ 1000)
    (F : Fr h₀ env.locals s.heap m) (N : News h₀ env.locals s.heap (fix ++ news)) (hno : ∀ p ∈ news, notIter p.2 = true) (hJ : J 0 m news)
    (turn : ∀ (i : Nat) tk₀ m₁ news₁ h tk I oI, i < (a - b).toNat → J i m₁ news₁ → notIter oI = false → (∀ p ∈ fix ++ news₁, p.1 ≠ I) → Fr h₀ env.locals h (fun y => if y = x then some (.int (a - i) tk₀) else m₁ y) → News h₀ env.locals h ((I, oI) :: (fix ++ news₁)) →
      wpAny (model prog w) A (execs body env) (TurnJ h₀ env.locals I oI fix (J (i + 1)) { s with heap := h, toks := tk } Q) E { s with heap := h, toks := tk })
    (done : ∀ m₁ news₁ h tk, J (a - b).toNat m₁ news₁ → Fr h₀ env.locals h m₁ → News h₀ env.locals h (fix ++ news₁) → Q .next { s with heap := h, toks := tk }) :
    wpAny (model prog w) A (pyIter (.ref r)) (fun it s₂ => LoopM prog w A h₀ env x body Q E it s₂) E s := by
  refine iter_range fix J hh hr (small_down (by omega) (by omega) (by omega) (by omega)) (rangeSize_downNat _ _) F N hno hJ ?_ done
  intro i tk₀ m₁ news₁ h tk I oI hi hJ₁ hnI hoff F₁ N₁
  rw [show a + (i : Int) * (-1) = a - i by omega] at F₁
  exact turn i tk₀ m₁ news₁ h tk I oI hi hJ₁ hnI hoff F₁ N₁
theorem iter_list {l : Addr} {vs : List Value} {ns : List Int} {m : Str → Option Value} {news : List (Addr × Obj)} (fix : List (Addr × Obj)) (J : Nat → (Str → Option Value) → List (Addr × Obj) → Prop)
    (hh : A.handled = none) (hl : h₀.IsList l vs.toArray) (hi : IntsAre vs ns)
    (F : Fr h₀ env.locals s.heap m) (N : News h₀ env.locals s.heap (fix ++ news)) (hno : ∀ p ∈ news, notIter p.2 = true) (hJ : J 0 m news)
    (turn : ∀ (i : Nat) k tk₀ m₁ news₁ h tk I oI, ns[i]? = some k → J i m₁ news₁ → notIter oI = false → (∀ p ∈ fix ++ news₁, p.1 ≠ I) → Fr h₀ env.locals h (fun y => if y = x then some (.int k tk₀) else m₁ y) → News h₀ env.locals h ((I, oI) :: (fix ++ news₁)) →
      wpAny (model prog w) A (execs body env) (TurnJ h₀ env.locals I oI fix (J (i + 1)) { s with heap := h, toks := tk } Q) E { s with heap := h, toks := tk })
    (done : ∀ m₁ news₁ h tk, J ns.length m₁ news₁ → Fr h₀ env.locals h m₁ → News h₀ env.locals h (fix ++ news₁) → Q .next { s with heap := h, toks := tk }) :
    wpAny (model prog w) A (pyIter (.ref l)) (fun it s₂ => LoopM prog w A h₀ env x body Q E it s₂) E s := by
  have hls : s.heap.IsList l vs.toArray := hl.at fun o e => F.keep l o e
  obtain ⟨ol, hol, _⟩ := id hl
  have hlt : l < h₀.objs.size := Heap.lt_size hol
  have hne : l ≠ s.heap.objs.size := Nat.ne_of_lt (Nat.lt_trans (Nat.lt_of_lt_of_le hlt F.above) F.ns.lt)
  refine wpAny_pyIter_list hls ?_
  have W := Walks.list (prog := prog) (w := w) hh s.heap.objs.size l hne vs.toArray
  have hlen : vs.toArray.size = ns.length := by simp [hi.length]
  rw [hlen] at W
  refine loopJ fix J W ⟨⟨_, Heap.get?_push_size _ rfl, rfl, rfl⟩, hls.at fun o e => Heap.get?_push_of_some _ e⟩ ?_ ?_
    (next_new F) (Nat.ne_of_gt F.ns.lt) (fun p hp => fix_off N p (List.mem_append_left _ hp)) (F.push _) (fun p hp => ⟨Heap.get?_push_of_some _ (N p hp).1, (N p hp).2⟩) hno hJ ?_ done
  · intro b hb
    rcases List.mem_cons.mp hb with e | hb
    · exact .inl e
    · exact .inr ⟨ol, (List.mem_singleton.mp hb) ▸ hol⟩
  · rintro i h ⟨⟨o, ho, _, hc⟩, _⟩
    exact ⟨o, ho, notIter_fields hc⟩
  · rintro i v m₁ news₁ h tk oI hP hlt' hJ₁ hnI hoff F₁ N₁
    obtain ⟨t, hx⟩ := hi.get i ns[i] (by simp [hlt'])
    have hv : v = .int ns[i] t := by
      have hP' : vs[i]? = some v := by simpa using hP
      rw [hx] at hP'; exact (Option.some.inj hP').symm
    subst hv
    exact turn i _ t m₁ news₁ h tk _ oI (by simp [hlt']) hJ₁ hnI hoff F₁ N₁
theorem iter_str {z : Str} {t : Tok} {m : Str → Option Value} {news : List (Addr × Obj)} (fix : List (Addr × Obj)) (J : Nat → (Str → Option Value) → List (Addr × Obj) → Prop)
    (hh : A.handled = none)
    (F : Fr h₀ env.locals s.heap m) (N : News h₀ env.locals s.heap (fix ++ news)) (hno : ∀ p ∈ news, notIter p.2 = true) (hJ : J 0 m news)
    (turn : ∀ (i : Nat) c tk₀ m₁ news₁ h tk I oI, z.cps[i]? = some c → J i m₁ news₁ → notIter oI = false → (∀ p ∈ fix ++ news₁, p.1 ≠ I) → Fr h₀ env.locals h (fun y => if y = x then some (.str ⟨#[c]⟩ tk₀) else m₁ y) → News h₀ env.locals h ((I, oI) :: (fix ++ news₁)) →
      wpAny (model prog w) A (execs body env) (TurnJ h₀ env.locals I oI fix (J (i + 1)) { s with heap := h, toks := tk } Q) E { s with heap := h, toks := tk })
    (done : ∀ m₁ news₁ h tk, J z.cps.size m₁ news₁ → Fr h₀ env.locals h m₁ → News h₀ env.locals h (fix ++ news₁) → Q .next { s with heap := h, toks := tk }) :
    wpAny (model prog w) A (pyIter (.str z t)) (fun it s₂ => LoopM prog w A h₀ env x body Q E it s₂) E s := by
  have key : ∀ (St : Nat → Heap → Prop) (o : Obj), Walks prog w A s.heap.objs.size [s.heap.objs.size] [s.heap.objs.size] z.cps.size (SignAt z) St → St 0 (s.heap.push o) → (∀ i h, St i h → ∃ o, h.get? s.heap.objs.size = some o ∧ notIter o = false) →
      LoopM prog w A h₀ env x body Q E (.ref s.heap.objs.size) { s with heap := s.heap.push o } := by
    intro St o W hst hIo
    refine loopJ fix J W hst (fun b hb => .inl (List.mem_singleton.mp hb)) hIo (next_new F) (Nat.ne_of_gt F.ns.lt) (fun p hp => fix_off N p (List.mem_append_left _ hp)) (F.push _) (fun p hp => ⟨Heap.get?_push_of_some _ (N p hp).1, (N p hp).2⟩) hno hJ ?_ done
    rintro i v m₁ news₁ h tk oI ⟨c, tk₀, hc, rfl⟩ hi hJ₁ hnI hoff F₁ N₁
    exact turn i c tk₀ m₁ news₁ h tk _ oI hc hJ₁ hnI hoff F₁ N₁
  cases ha : z.cps.all (· < 128)
  · exact wpAny_pyIter_wide ha (key _ _ (Walks.strWide hh _ z t) ⟨_, Heap.get?_push_size _ rfl, rfl, rfl⟩ (by rintro i h ⟨o, ho, _, hc⟩; exact ⟨o, ho, notIter_fields hc⟩))
  · exact wpAny_pyIter_ascii ha (key _ _ (Walks.strAscii hh _ z t) ⟨_, Heap.get?_push_size _ rfl, rfl, rfl⟩ (by rintro i h ⟨o, ho, _, hc⟩; exact ⟨o, ho, notIter_fields hc⟩))
end
theorem upd_self {m : Str → Option Value} {x : Str} {v : Value} (h : m x = some v) : (fun y => if y = x then some v else m y) = m := by
  funext y
  by_cases e : y = x
  · simp [e, h]
  · simp [e]

section
variable {prog : Program} {w : World} {A : Around} {E Q : Value → Shared → Prop} {s : Shared} {h₀ : Heap} {L : Addr} {m : Str → Option Value}
theorem len_tupB {t : Addr} {vs : List Value} {ns : List Int} (F : Fr h₀ L s.heap m) (ht : IsTup h₀ t vs.toArray) (hi : IntsAre vs ns) (hz : ns.length ≤ 16384) (h : Q (.int ns.length (s.toks + 1)) { s with toks := s.toks + 1 + 1 }) : wpAny (model prog w) A (call (.builtin "len") [.ref t]) Q E s := by
  have e : vs.toArray.size = ns.length := by simp [hi.length]
  refine len_tuple (F.tup ht) (by rw [e]; omega) ?_
  rw [e]; exact h
theorem len_listB {t : Addr} {vs : List Value} {ns : List Int} (F : Fr h₀ L s.heap m) (ht : h₀.IsList t vs.toArray) (hi : IntsAre vs ns) (hz : ns.length ≤ 16384) (h : Q (.int ns.length (s.toks + 1)) { s with toks := s.toks + 1 + 1 }) : wpAny (model prog w) A (call (.builtin "len") [.ref t]) Q E s := by
  have e : vs.toArray.size = ns.length := by simp [hi.length]
  refine len_list (F.lst ht) (by rw [e]; omega) ?_
  rw [e]; exact h
theorem item_tupB {value slice : PySem.Expr} {t : Addr} {vs : List Value} {ns : List Int} {k : Int} {u : Tok} (F : Fr h₀ L s.heap m) (ht : IsTup h₀ t vs.toArray) (hi : IntsAre vs ns) (h0 : 0 ≤ k) (hk : k < (ns.length : Int)) (hz : ns.length ≤ 16384) (h : ∀ tk, Q (.int (ns.getD k.toNat 0) tk) s)
    (hs : subscripted slice false (.ref t) (.int k u) = operate [.ref t, .int k u] (getItem (.ref t) (.int k u)) := by with_unfolding_all rfl) : wpAny (model prog w) A (subscriptTail value slice (.ref t) (.int k u)) Q E s := by
  have hk' : k.toNat < ns.length := by omega
  obtain ⟨tk, hx⟩ := hi.get k.toNat (ns.getD k.toNat 0) (by rw [List.getD_eq_getElem?_getD, List.getElem?_eq_getElem hk']; rfl)
  refine item_tupleT (j := k.toNat) (F.tup ht) (by omega) (by omega) ?_ hx (h tk) hs
  unfold seqIndex?
  have := hi.length
  (repeat' split) <;> first | rfl | omega | (simp_all; done) | (simp_all; omega)
theorem item_listB {value slice : PySem.Expr} {t : Addr} {vs : List Value} {ns : List Int} {k : Int} {u : Tok} (F : Fr h₀ L s.heap m) (ht : h₀.IsList t vs.toArray) (hi : IntsAre vs ns) (h0 : 0 ≤ k) (hk : k < (ns.length : Int)) (hz : ns.length ≤ 16384) (h : ∀ tk, Q (.int (ns.getD k.toNat 0) tk) s)
    (hs : subscripted slice false (.ref t) (.int k u) = operate [.ref t, .int k u] (getItem (.ref t) (.int k u)) := by with_unfolding_all rfl) : wpAny (model prog w) A (subscriptTail value slice (.ref t) (.int k u)) Q E s := by
  have hk' : k.toNat < ns.length := by omega
  obtain ⟨tk, hx⟩ := hi.get k.toNat (ns.getD k.toNat 0) (by rw [List.getD_eq_getElem?_getD, List.getElem?_eq_getElem hk']; rfl)
  have hL := F.lst ht
  exact tail_any hL.typeIs slot_list_getitem.lookup (wpAny_getItem_list hL h0 (by omega) (by simpa using hx) (h tk)) hs
/-- a place of a list, from behind too -/
def ix (k : Int) (n : Nat) : Nat := if k < 0 then (k + n).toNat else k.toNat
theorem ix_lt {k : Int} {n : Nat} (h1 : -(n : Int) ≤ k) (h2 : k < (n : Int)) : ix k n < n := by unfold ix; split <;> omega
theorem getItem_any {l : Addr} {vs : List Value} {ns : List Int} {k : Int} {u : Tok} (hl : s.heap.IsList l vs.toArray) (hi : IntsAre vs ns) (h1 : -(ns.length : Int) ≤ k) (h2 : k < (ns.length : Int)) (hz : ns.length ≤ 16384)
    (h : ∀ tk, Q (.int (ns.getD (ix k ns.length) 0) tk) s) : wpAny (model prog w) A (getItem (.ref l) (.int k u)) Q E s := by
  have hk := ix_lt h1 h2
  obtain ⟨tk, hx⟩ := hi.get (ix k ns.length) (ns.getD (ix k ns.length) 0) (by rw [List.getD_eq_getElem?_getD, List.getElem?_eq_getElem hk]; rfl)
  have hlen := hi.length
  by_cases h0 : k < 0
  · have e : ix k ns.length = (k + (vs.toArray.size : Int)).toNat := by unfold ix; rw [if_pos h0, List.size_toArray, hlen]
    exact wpAny_getItem_list_neg hl h0 (by rw [List.size_toArray, hlen]; exact h1) (by omega) (by rw [← e]; simpa using hx) (h tk)
  · have e : ix k ns.length = k.toNat := by unfold ix; rw [if_neg h0]
    exact wpAny_getItem_list hl (by omega) (by omega) (by rw [← e]; simpa using hx) (h tk)
theorem item_newsN {value slice : PySem.Expr} {D : Addr} {vs : List Value} {ns : List Int} {k : Int} {u : Tok} {n : Nat} {news : List (Addr × Obj)} (N : News h₀ L s.heap news) (hm : (D, W.listOf vs.toArray n) ∈ news) (hi : IntsAre vs ns) (h1 : -(ns.length : Int) ≤ k) (h2 : k < (ns.length : Int)) (hz : ns.length ≤ 16384)
    (h : ∀ tk, Q (.int (ns.getD (ix k ns.length) 0) tk) s)
    (hs : subscripted slice false (.ref D) (.int k u) = operate [.ref D, .int k u] (getItem (.ref D) (.int k u)) := by with_unfolding_all rfl) : wpAny (model prog w) A (subscriptTail value slice (.ref D) (.int k u)) Q E s := by
  have hl : s.heap.IsList D vs.toArray := PySem.IsL.isList (n := n) (N _ hm).1
  exact tail_any hl.typeIs slot_list_getitem.lookup (getItem_any hl hi h1 h2 hz h) hs
theorem item_listN {value slice : PySem.Expr} {D : Addr} {vs : List Value} {ns : List Int} {k : Int} {u : Tok} (F : Fr h₀ L s.heap m) (ht : h₀.IsList D vs.toArray) (hi : IntsAre vs ns) (h1 : -(ns.length : Int) ≤ k) (h2 : k < (ns.length : Int)) (hz : ns.length ≤ 16384)
    (h : ∀ tk, Q (.int (ns.getD (ix k ns.length) 0) tk) s)
    (hs : subscripted slice false (.ref D) (.int k u) = operate [.ref D, .int k u] (getItem (.ref D) (.int k u)) := by with_unfolding_all rfl) : wpAny (model prog w) A (subscriptTail value slice (.ref D) (.int k u)) Q E s := by
  have hl := F.lst ht
  exact tail_any hl.typeIs slot_list_getitem.lookup (getItem_any hl hi h1 h2 hz h) hs
end
section
variable {prog : Program} {w : World} {A : Around} {E : Value → Shared → Prop} {s : Shared} {h₀ : Heap} {L D : Addr} {m : Str → Option Value} {news news' : List (Addr × Obj)} {vs : List Value} {ns : List Int} {n : Nat} {k x : Int} {t u : Tok}
theorem set_newsN {Q : Unit → Shared → Prop} (F : Fr h₀ L s.heap m) (N : News h₀ L s.heap news) (hi : IntsAre vs ns) (U : Upd D (W.listOf vs.toArray n) (W.listOf (vs.set (ix k ns.length) (.int x u)).toArray n) news news') (h1 : -(ns.length : Int) ≤ k) (h2 : k < (ns.length : Int)) (hz : ns.length ≤ 16384)
    (h : ∀ h', Fr h₀ L h' m → News h₀ L h' news' → IntsAre (vs.set (ix k ns.length) (.int x u)) (ns.set (ix k ns.length) x) → Q () { s with heap := h' }) :
    wpAny (model prog w) A (setItem (.ref D) (.int k t) (.int x u)) Q E s := by
  obtain ⟨pre, post, rfl, rfl, a, b⟩ := U.split
  have z := N (D, W.listOf vs.toArray n) (List.mem_append.mpr (.inr (.head _)))
  have hl : vs.length = ns.length := hi.length
  have hs : vs.toArray.size = ns.length := by rw [List.size_toArray]; exact hl
  have hk := ix_lt h1 h2
  have fin : ∀ j, j = ix k ns.length → Q () { s with heap := s.heap.update D (Obj.mapSeq (·.setIfInBounds j (.int x u))) } := by
    rintro j rfl
    refine h _ (F.change (Heap.SameBut.update ..) z.2.1 z.2.2) (ki_turn _ N a b ?_ ?_) (ints_set hi _)
    · show vs.toArray.setIfInBounds (ix k ns.length) (.int x u) = (vs.set (ix k ns.length) (.int x u)).toArray
      apply Array.toList_inj.mp
      simp
    · simp
  by_cases h0 : k < 0
  · exact ki_setBack z.1 h0 (by rw [hs]; exact h1) (by omega) (fin _ (by unfold ix; rw [if_pos h0, hs]))
  · exact ki_setAt z.1 (by omega) (by omega) (by rw [hs]; exact h2) (fin _ (by unfold ix; rw [if_neg h0]))
theorem append_L {x : Value} {Q : Value → Shared → Prop} (F : Fr h₀ L s.heap m) (N : News h₀ L s.heap news) (U : Upd D (W.listOf vs.toArray n) (W.listOf (vs ++ [x]).toArray (n + 1)) news news')
    (h : ∀ h', Fr h₀ L h' m → News h₀ L h' news' → Q .none { s with heap := h' }) (hsz : vs.length ≤ 16384) : wpAny (model prog w) A (call (.builtin "list.append") [.ref D, x]) Q E s := by
  refine append_K F N (its := vs.toArray) (n := n) ?_ h (by rw [sizeLine_eq, List.size_toArray]; omega)
  rw [List.push_toArray]; exact U
theorem ne_cell {h : Heap} {a c : Addr} {arr : Array Value} {e : Nat} {oc : Obj} {v : Option Value} (N : News h₀ L h news) (h1 : (a, W.listOf arr e) ∈ news) (h2 : (c, oc) ∈ news) (d : oc.data = .cell v) : @Ne Nat a c := by
  intro q
  have x1 := (N _ h1).1
  have x2 := (N _ h2).1
  dsimp only at x1 x2
  rw [q, x2] at x1
  rw [Option.some.inj x1] at d
  cases d
end

/-- what an element's evaluation hands on: a value and the objects made for it -/
def Made (F : Nat → Value → List (Addr × Obj) → Prop) (h h' : Heap) (i : Nat) (y : Value) : Prop := ∃ fr : List (Addr × Obj), (∀ q ∈ fr, h.get? q.1 = none ∧ h'.get? q.1 = some q.2) ∧ F i y fr
def MadeOff (F : Nat → Value → List (Addr × Obj) → Prop) (h h' : Heap) (off : List Addr) (i : Nat) (y : Value) : Prop := ∃ fr : List (Addr × Obj), (∀ q ∈ fr, h.get? q.1 = none ∧ h'.get? q.1 = some q.2 ∧ q.1 ∉ off) ∧ F i y fr
theorem MadeOff.keep {F : Nat → Value → List (Addr × Obj) → Prop} {h h' h'' : Heap} {off : List Addr} {i : Nat} {y : Value} (x : MadeOff F h h' off i y) (k : ∀ b o, b ∉ off → h'.get? b = some o → h''.get? b = some o) : MadeOff F h h'' off i y := by
  obtain ⟨fr, a, b⟩ := x
  exact ⟨fr, fun q hq => ⟨(a q hq).1, k _ _ (a q hq).2.2 (a q hq).2.1, (a q hq).2.2⟩, b⟩
def KeepsC (C : Addr) (s s' : Shared) : Prop := ∃ h' tk, s' = { s with heap := h', toks := tk } ∧ ∀ b o, b ≠ C → s.heap.get? b = some o → h'.get? b = some o
theorem keeps_c {C : Addr} {s s' : Shared} (k : Keeps s s') : KeepsC C s s' := by
  obtain ⟨h', tk, e, k⟩ := k
  exact ⟨h', tk, e, fun b o _ q => k b o q⟩
abbrev testsOf (ifs : List PySem.Expr) (cenv : Env) : Sem Bool := forIn ifs true fun c r => if r = true then do let ok ← isTrue c cenv (eval c cenv); pure (ForInStep.yield ok) else pure (ForInStep.yield r)
section
variable {prog : Program} {w : World} {A : Around} {R : Result → Shared → Prop} {s : Shared}
theorem comp_loop {elt iter : PySem.Expr} {x : Str} {px : Pos} {ifs : List PySem.Expr} {scope : Scope} {pos : Pos} {I D S C : Addr} {fp : List Addr} {n : Nat} {P : Nat → Value → Prop} {St : Nat → Heap → Prop}
    {cenv : Env} {Live : Heap → Prop} {Has : Value → Heap → Prop} (g₀ : Heap) (W : Walks prog w A I fp [I] n P St) (p : Nat → Bool) (F : Nat → Value → List (Addr × Obj) → Prop)
    (hIo : ∀ i h, St i h → ∃ o, h.get? I = some o)
    (hsto : ∀ v (s : Shared) (Q : Unit → Shared → Prop) (E : Value → Shared → Prop), Live s.heap → (∀ h' tk, s.toks ≤ tk → Live h' → Has v h' → Heap.SameBut S s.heap h' → Q () { s with heap := h', toks := tk }) → wpAny (model prog w) A (assign (.Name x px) cenv v) Q E s)
    (hlive : ∀ h h', Live h → (∀ b o, b ≠ I → b ≠ D → h.get? b = some o → h'.get? b = some o) → Live h')
    (hDS : D ≠ S) (hDf : D ∉ fp) (hSf : S ∉ fp) (hCf : C ∉ fp) (hDC : D ≠ C) (hst : St 0 s.heap) (hacc : s.heap.PlainList D #[]) (hL : Live s.heap)
    (htests : ∀ i v s₂, i < n → P i v → Live s₂.heap → Has v s₂.heap → (∃ h tk, s₂ = { s with heap := h, toks := tk }) → (∃ o, s₂.heap.get? I = some o) → (∃ o, s₂.heap.get? D = some o) → (∀ b o, b ≠ S → b ≠ I → b ≠ D → b ≠ C → s.heap.get? b = some o → s₂.heap.get? b = some o) →
      wpAny (model prog w) A (testsOf ifs cenv) (fun ok s₃ => ok = p i ∧ KeepsC C s₂ s₃ ∧ Live s₃.heap ∧ Has v s₃.heap) (notedBy (model prog w) A cenv fun e s' => R (.error e) s') s₂)
    (helt : ∀ i v s₂, i < n → P i v → p i = true → Live s₂.heap → Has v s₂.heap → (∃ h tk, s₂ = { s with heap := h, toks := tk }) → (∃ o, s₂.heap.get? I = some o) → (∃ o, s₂.heap.get? D = some o) → (∀ b o, b ≠ S → b ≠ I → b ≠ D → b ≠ C → s.heap.get? b = some o → s₂.heap.get? b = some o) →
      wpAny (model prog w) A (eval elt cenv) (fun y s₃ => MadeOff F g₀ s₃.heap [S, I, D, C] i y ∧ KeepsC C s₂ s₃ ∧ Live s₃.heap) (notedBy (model prog w) A cenv fun e s' => R (.error e) s') s₂)
    (hR : ∀ h' tk ys, Live h' → h'.PlainList D ys → Paired (MadeOff F g₀ h' [S, I, D, C]) ((List.range n).filter p) ys.toList →
      (∀ b o, b ≠ S → b ≠ I → b ≠ D → b ≠ C → s.heap.get? b = some o → h'.get? b = some o) → R (.ok .next) { s with heap := h', toks := tk })
    (hsz : n ≤ sizeLine) :
    codeAny (model prog w) A (.compLoop (.ListComp elt [⟨.Name x px, iter, ifs, 0⟩] scope pos) 0 (.ref I) (.ref D) cenv) R s := by
  have hIf : I ∈ fp := W.sub I (List.mem_singleton.mpr rfl)
  have hDI : D ≠ I := fun e => hDf (e ▸ hIf)
  have hSI : S ≠ I := fun e => hSf (e ▸ hIf)
  have hCI : C ≠ I := fun e => hCf (e ▸ hIf)
  have notin : ∀ b, b ∉ [S, I, D, C] ↔ (b ≠ S ∧ b ≠ I ∧ b ≠ D ∧ b ≠ C) := fun b => by simp
  refine codeAny_compLoop_tests
    (fun k s' => ∃ h' tk ys i, s' = { s with heap := h', toks := tk } ∧ St i h' ∧ h'.PlainList D ys ∧ Live h' ∧
      Paired (MadeOff F g₀ h' [S, I, D, C]) ((List.range i).filter p) ys.toList ∧ i ≤ n ∧ k = n + 1 - i ∧
      (∀ b o, b ≠ S → b ≠ I → b ≠ D → b ≠ C → s.heap.get? b = some o → h'.get? b = some o)) ?_ (n + 1)
    ⟨s.heap, s.toks, #[], 0, rfl, hst, hacc, hL, by simpa using Paired.nil, Nat.zero_le _, rfl, fun _ _ _ _ _ _ e => e⟩
  rintro k s' ⟨H, tk, ys, i, rfl, hst', hacc', hL', hF, hi, rfl, hk⟩
  by_cases hlt : i < n
  · refine W.item i _ _ _ hlt hst' fun v h₁ tk₁ hPv hst₁ hk₁ => ?_
    have hk₁' : ∀ b o, b ≠ I → H.get? b = some o → h₁.get? b = some o := fun b o hb e => hk₁ b o (fun h => hb (List.mem_singleton.mp h)) e
    refine hsto v _ _ _ (hlive _ _ hL' fun b o hb _ e => hk₁' b o hb e) fun h₂ tk₂ _ hL₂ hH₂ hs₂ => ?_
    have up₂ : ∀ b o, b ≠ S → b ≠ I → H.get? b = some o → h₂.get? b = some o := fun b o hbS hbI e => hs₂.extBut b o hbS (hk₁' b o hbI e)
    have hst₂ : St (i + 1) h₂ := W.frame _ _ _ hst₁ fun b hb o e => hs₂.extBut b o (fun h => hSf (h ▸ hb)) e
    have hacc₂ : h₂.PlainList D ys := hacc'.at fun o e => up₂ D o hDS hDI e
    have live : ∀ {h : Heap} {ys : Array Value}, h.PlainList D ys → ∃ o, h.get? D = some o := fun h => by obtain ⟨_, h⟩ := h; exact ⟨_, h⟩
    refine wpAny_mono (htests i v _ hlt hPv hL₂ hH₂ ⟨_, _, rfl⟩ (hIo _ _ hst₂) (live hacc₂) (fun b o a1 a2 a3 a4 e => up₂ b o a1 a2 (hk b o a1 a2 a3 a4 e))) (fun ok s₃ h₃ => ?_) fun _ _ e => e
    obtain ⟨rfl, ⟨h₃, tk₃, rfl, hk₃⟩, hL₃, hH₃⟩ := h₃
    have hst₃ : St (i + 1) h₃ := W.frame _ _ _ hst₂ fun b hb o e => hk₃ b o (fun q => hCf (q ▸ hb)) e
    have hacc₃ : h₃.PlainList D ys := hacc₂.at fun o e => hk₃ _ o hDC e
    have hF₃ : Paired (MadeOff F g₀ h₃ [S, I, D, C]) ((List.range i).filter p) ys.toList := hF.mono fun _ _ hy => hy.keep fun b o hb e => by
      obtain ⟨a1, a2, _, a4⟩ := (notin b).mp hb
      exact hk₃ b o a4 (up₂ b o a1 a2 e)
    cases hpv : p i with
    | false =>
      simp only [Bool.false_eq_true, if_false]
      refine ⟨n + 1 - (i + 1), by omega, h₃, tk₃, ys, i + 1, rfl, hst₃, hacc₃, hL₃, ?_, hlt, rfl, fun b o a1 a2 a3 a4 e => hk₃ b o a4 (up₂ b o a1 a2 (hk b o a1 a2 a3 a4 e))⟩
      rw [List.range_succ, List.filter_append]; simpa [hpv] using hF₃
    | true =>
      simp only [if_true]
      refine wpAny_mono (helt i v _ hlt hPv hpv hL₃ hH₃ ⟨_, _, rfl⟩ (hIo _ _ hst₃) (live hacc₃) (fun b o a1 a2 a3 a4 e => hk₃ b o a4 (up₂ b o a1 a2 (hk b o a1 a2 a3 a4 e)))) (fun y s₄ h₄ => ?_) fun _ _ e => e
      obtain ⟨⟨fr, hfr, hFy⟩, ⟨h₄, tk₄, rfl, hk₄⟩, hL₄⟩ := h₄
      have hys : ys.size ≤ sizeLine := by
        have e1 := hF.length
        have e2 : ((List.range i).filter p).length ≤ (List.range i).length := List.length_filter_le _ _
        have e3 : (List.range i).length = i := List.length_range
        have e4 : ys.toList.length = ys.size := by simp
        omega
      refine wpAny_list_append_plain (hsz := hys) (hacc₃.at fun o e => hk₄ _ o hDC e) fun h₅ hl₅ hs₅ => ?_
      refine ⟨n + 1 - (i + 1), by omega, h₅, tk₄, ys.push y, i + 1, rfl, ?_, hl₅, ?_, ?_, hlt, rfl, fun b o a1 a2 a3 a4 e => hs₅.extBut b o a3 (hk₄ b o a4 (hk₃ b o a4 (up₂ b o a1 a2 (hk b o a1 a2 a3 a4 e))))⟩
      · exact W.frame _ _ h₅ hst₃ fun b hb o e => hs₅.extBut b o (fun h => hDf (h ▸ hb)) (hk₄ b o (fun q => hCf (q ▸ hb)) e)
      · exact hlive _ _ hL₄ fun b o _ hbD e => hs₅.extBut b o hbD e
      · have hF₅ := hF₃.mono (F' := MadeOff F g₀ h₅ [S, I, D, C]) fun _ _ hy => hy.keep fun b o hb e => by
          obtain ⟨_, _, a3, a4⟩ := (notin b).mp hb
          exact hs₅.extBut b o a3 (hk₄ b o a4 e)
        have hy₅ : MadeOff F g₀ h₅ [S, I, D, C] i y := by
          refine ⟨fr, fun q hq => ?_, hFy⟩
          obtain ⟨b1, b2, b3⟩ := hfr q hq
          exact ⟨b1, hs₅.extBut _ _ ((notin _).mp b3).2.2.1 b2, b3⟩
        rw [List.range_succ, List.filter_append]
        simpa [hpv] using Paired.snoc hF₅ hy₅
  · have hin : i = n := by omega
    subst hin
    refine W.done _ _ _ hst' fun h₁ tk₁ hk₁ => ?_
    have hk₁' : ∀ b o, b ≠ I → H.get? b = some o → h₁.get? b = some o := fun b o hb e => hk₁ b o (fun h => hb (List.mem_singleton.mp h)) e
    exact hR h₁ tk₁ ys (hlive _ _ hL' fun b o hb _ e => hk₁' b o hb e) (hacc'.at fun o e => hk₁' _ o hDI e)
      (hF.mono fun _ _ hy => hy.keep fun b o hb e => hk₁' b o ((notin b).mp hb).2.1 e) fun b o a1 a2 a3 a4 e => hk₁' b o a2 (hk b o a1 a2 a3 a4 e)
end

/-- what may be gone over -/
def SrcOk (prog : Program) (w : World) (A : Around) (xv : Value) (s₁ : Shared) (n : Nat) (P : Nat → Value → Prop) : Prop :=
  ∃ o fp St, Walks prog w A s₁.heap.objs.size fp [s₁.heap.objs.size] n P St ∧ St 0 (s₁.heap.push o) ∧ (∀ b ∈ fp, b ≤ s₁.heap.objs.size) ∧ (∀ i h, St i h → ∃ o, h.get? s₁.heap.objs.size = some o) ∧ o.isFreed = false ∧
    ∀ (Q E : Value → Shared → Prop), Q (.ref s₁.heap.objs.size) { s₁ with heap := s₁.heap.push o } → wpAny (model prog w) A (pyIter xv) Q E s₁
section
variable {prog : Program} {w : World} {A : Around} {s : Shared}
theorem SrcOk.list {l : Addr} {vs : List Value} (hh : A.handled = none) (hl : s.heap.IsList l vs.toArray) : SrcOk prog w A (.ref l) s vs.length (fun i v => vs[i]? = some v) := by
  obtain ⟨ol, hol, _⟩ := id hl
  have hlt : l < s.heap.objs.size := Heap.lt_size hol
  have W := Walks.list (prog := prog) (w := w) hh s.heap.objs.size l (Nat.ne_of_lt hlt) vs.toArray
  rw [List.size_toArray] at W
  have W' : Walks prog w A s.heap.objs.size [s.heap.objs.size, l] [s.heap.objs.size] vs.length (fun i v => vs[i]? = some v) (fun i h => h.IsListIter s.heap.objs.size l i ∧ h.IsList l vs.toArray) := by
    have e : (fun (i : Nat) (v : Value) => vs.toArray[i]? = some v) = fun i v => vs[i]? = some v := by funext i v; simp
    rw [← e]; exact W
  refine ⟨_, _, _, W', ⟨⟨_, Heap.get?_push_size _ rfl, rfl, rfl⟩, hl.push _⟩, ?_, ?_, rfl, fun Q E h => wpAny_pyIter_list hl h⟩
  · intro b hb
    rcases List.mem_cons.mp hb with e | hb
    · exact Nat.le_of_eq e
    · rw [List.mem_singleton.mp hb]; exact Nat.le_of_lt hlt
  · rintro i h ⟨⟨o, ho, _⟩, _⟩
    exact ⟨o, ho⟩
theorem SrcOk.range {r : Addr} {a b : Int} {t u v : Tok} (hh : A.handled = none) (hr : IsRange s.heap r a b 1 t u v) (hlo : -1000 ≤ a ∧ a ≤ 1000 ∧ -1000 ≤ b ∧ b ≤ 1000) :
    SrcOk prog w A (.ref r) s (b - a).toNat (fun i v => ∃ t, v = .int (a + (i : Int)) t) := by
  have W := Walks.range (prog := prog) (w := w) hh s.heap.objs.size a 1 (b - a).toNat
  have e : (fun (i : Nat) (v : Value) => ∃ t, v = .int (a + (i : Int) * 1) t) = fun i v => ∃ t, v = .int (a + (i : Int)) t := by funext i v; rw [Int.mul_one]
  rw [e] at W
  refine ⟨_, _, _, W, ?_, ?_, ?_, rfl, fun Q E h => wpAny_pyIter_range hr (small_one (by omega) (by omega) (by omega) (by omega)) h⟩
  · show IsRangeIter _ _ _ _ _
    rw [rangeSize_nat]; simpa using Heap.get?_push_size _ rfl
  · intro b hb; rw [List.mem_singleton.mp hb]; exact Nat.le_refl _
  · intro i h st; exact ⟨_, st⟩
end
section
variable {M : Model} {A : Around} {E : Value → Shared → Prop} {s : Shared}
theorem nfe_comp {scope : Scope} {globals : Addr} {cl : List (Str × Addr)} {qual : Str} {outer : Env} {Q : Env → Shared → Prop}
    (h : Q { scope := scope, locals := s.heap.objs.size, globals := globals, cells := cellsFrom (s.heap.objs.size + 1) scope.names cl, qual := qual, func := none, code := outer.code, frame := outer.frame, builtins := outer.builtins }
      { s with heap := pushCells (s.heap.push { cls := .type "dict", data := .dict #[] }) scope.names }) : wpAny M A (newFunctionEnv scope globals cl [] qual none .none (some outer)) Q E s := by
  simp only [newFunctionEnv, Option.isSome_some, if_true]
  refine wpAny_bind (wpAny_alloc ?_)
  refine wpAny_bind (wpAny_layCells _ (fun name kind cells => by cases kind == NameKind.cell <;> simp) _ _ _ _ ?_)
  rw [show ({ s with heap := s.heap.push { cls := .type "dict", data := .dict #[] } } : Shared).heap.objs.size = s.heap.objs.size + 1 from Heap.size_push ..]
  exact wpAny_pure h
end
theorem eqN {a b : Nat} (h : a = b) : a = b := h
theorem leN {a b : Nat} (h : a ≤ b) : a ≤ b := h
section
variable {prog : Program} {w : World} {A : Around} {E : Value → Shared → Prop} {env : Env}
/-- the place that a comprehension's name is laid: its own table, or a cell beside it -/
structure Tgt (prog : Program) (w : World) (A : Around) (env : Env) (scope : Scope) (cl : List (Str × Addr)) (x : Str) (px : Pos) (C : Addr) (cl' : List (Str × Addr)) (S : Addr) (Live : Heap → Prop) (Has : Value → Heap → Prop) : Prop where
  sto : ∀ v (s : Shared) (Q : Unit → Shared → Prop) (E : Value → Shared → Prop), Live s.heap → (∀ h' tk, s.toks ≤ tk → Live h' → Has v h' → Heap.SameBut S s.heap h' → Q () { s with heap := h', toks := tk }) → wpAny (model prog w) A (assign (.Name x px) (compEnvC scope cl' C env) v) Q E s
  live : ∀ h h', Live h → (∀ b o, (b = C ∨ b = S) → h.get? b = some o → h'.get? b = some o) → Live h'
  has : ∀ v h h', Has v h → (∀ b o, h.get? b = some o → h'.get? b = some o) → Has v h'
  objS : ∀ h, Live h → ∃ o, h.get? S = some o
  ns : ∀ h, Live h → ∃ m, h.Ns C m
/-- where an element's turn stands -/
def TgOk (prog : Program) (w : World) (A : Around) (env : Env) (scope : Scope) (cl : List (Str × Addr)) (x : Str) (px : Pos) (ifs : List PySem.Expr) (elt : PySem.Expr) (s₁ : Shared) (n : Nat) (P : Nat → Value → Prop) (p : Nat → Bool) (F : Nat → Value → List (Addr × Obj) → Prop) : Prop :=
    ∀ C, C = s₁.heap.objs.size + 2 → ∃ S Live Has, s₁.heap.objs.size + 1 < S ∧ Tgt prog w A env scope cl x px C (cellsFrom (C + 1) scope.names cl) S Live Has ∧
      (∀ h : Heap, h.objs.size = C → Live (pushCells (h.push { cls := .type "dict", data := .dict #[] }) scope.names)) ∧
      (∀ i v h tk E', i < n → P i v → Live h → Has v h → (∃ o, h.get? s₁.heap.objs.size = some o) → (∃ o, h.get? (s₁.heap.objs.size + 1) = some o) → (∀ b o, s₁.heap.get? b = some o → h.get? b = some o) →
        wpAny (model prog w) A (testsOf ifs (compEnvC scope (cellsFrom (C + 1) scope.names cl) C env)) (fun ok s₃ => ok = p i ∧ KeepsC C { s₁ with heap := h, toks := tk } s₃ ∧ Live s₃.heap ∧ Has v s₃.heap) E' { s₁ with heap := h, toks := tk }) ∧
      (∀ i v h tk E', i < n → P i v → p i = true → Live h → Has v h → (∃ o, h.get? s₁.heap.objs.size = some o) → (∃ o, h.get? (s₁.heap.objs.size + 1) = some o) → (∀ b o, s₁.heap.get? b = some o → h.get? b = some o) →
        wpAny (model prog w) A (eval elt (compEnvC scope (cellsFrom (C + 1) scope.names cl) C env)) (fun y s₃ => MadeOff F s₁.heap s₃.heap [S, s₁.heap.objs.size, s₁.heap.objs.size + 1, C] i y ∧ KeepsC C { s₁ with heap := h, toks := tk } s₃ ∧ Live s₃.heap) E' { s₁ with heap := h, toks := tk })
def CompQ (prog : Program) (w : World) (A : Around) (env : Env) (scope : Scope) (cl : List (Str × Addr)) (x : Str) (px : Pos) (ifs : List PySem.Expr) (elt : PySem.Expr) (Q : Value → Shared → Prop) (xv : Value) (s₁ : Shared) : Prop :=
    ∃ n P p F, SrcOk prog w A xv s₁ n P ∧ n ≤ sizeLine ∧ TgOk prog w A env scope cl x px ifs elt s₁ n P p F ∧
      ∀ D ys h' tk, Ext s₁.heap h' → s₁.heap.get? D = none → h'.PlainList D ys → Paired (Made F s₁.heap h') ((List.range n).filter p) ys.toList → Q (.ref D) { s₁ with heap := h', toks := tk }
def CompQA (prog : Program) (w : World) (A : Around) (env : Env) (scope : Scope) (cl : List (Str × Addr)) (x : Str) (px : Pos) (ifs : List PySem.Expr) (elt : PySem.Expr) (y : Str) (Q : Flow → Shared → Prop) (xv : Value) (s₁ : Shared) : Prop :=
    ∃ n P p F m, SrcOk prog w A xv s₁ n P ∧ n ≤ sizeLine ∧ TgOk prog w A env scope cl x px ifs elt s₁ n P p F ∧ s₁.heap.Ns env.locals m ∧
      ∀ D ys h' tk, (∀ b o, b ≠ env.locals → s₁.heap.get? b = some o → h'.get? b = some o) → s₁.heap.get? D = none → h'.PlainList D ys → Paired (Made F s₁.heap h') ((List.range n).filter p) ys.toList →
        h'.Ns env.locals (fun z => if z = y then some (.ref D) else m z) → Q .next { s₁ with heap := h', toks := tk }
theorem comp_block {elt iter : PySem.Expr} {x : Str} {px : Pos} {ifs : List PySem.Expr} {scope : Scope} {cl : List (Str × Addr)} {pos : Pos} {s₁ : Shared} {o : Obj} {fp : List Addr} {n : Nat} {P : Nat → Value → Prop}
    {St : Nat → Heap → Prop} (W : Walks prog w A s₁.heap.objs.size fp [s₁.heap.objs.size] n P St) (hsz : n ≤ sizeLine) (hst : St 0 (s₁.heap.push o)) (hfp : ∀ b ∈ fp, b ≤ s₁.heap.objs.size) (hIo : ∀ i h, St i h → ∃ o, h.get? s₁.heap.objs.size = some o)
    (p : Nat → Bool) (F : Nat → Value → List (Addr × Obj) → Prop) {RR : Value → Addr → Result → Shared → Prop}
    (tg : TgOk prog w A env scope cl x px ifs elt s₁ n P p F)
    (hRR : ∀ D C h' tk m' ys, s₁.heap.get? D = none → s₁.heap.get? C = none → D ≠ C → h'.Ns C m' → h'.PlainList D ys → Paired (MadeOff F s₁.heap h' [C]) ((List.range n).filter p) ys.toList →
      (∀ b o, s₁.heap.get? b = some o → h'.get? b = some o) → RR (.ref D) C (.ok .next) { s₁ with heap := h', toks := tk }) :
    wpAny (model prog w) A (newList []) (fun acc s₃ => wpAny (model prog w) A (newFunctionEnv scope env.globals cl [] env.qual none .none (some env)) (fun cenv s₄ =>
      codeAny (model prog w) A (.compStart (.ListComp elt [⟨.Name x px, iter, ifs, 0⟩] scope pos) 0 (.ref s₁.heap.objs.size) acc { cenv with scope := relabel scope env }) (RR acc cenv.locals) s₄) E s₃) E { s₁ with heap := s₁.heap.push o } := by
  refine wpAny_newObj_type ?_
  dsimp only
  generalize hH2 : (s₁.heap.push o).push { cls := .type "list", dict := none, data := .seq ([] : List Value).toArray } = H2
  have hC2 : H2.objs.size = s₁.heap.objs.size + 2 := by rw [← hH2, Heap.size_push, Heap.size_push]
  have hD : (s₁.heap.push o).objs.size = s₁.heap.objs.size + 1 := Heap.size_push ..
  obtain ⟨S, Live, Has, hS, tgt, hlive, htests, helt⟩ := tg H2.objs.size hC2
  refine nfe_comp ?_
  dsimp only
  have hL := hlive H2 rfl
  generalize hH3 : pushCells (H2.push { cls := .type "dict", data := .dict #[] }) scope.names = H3 at hL
  rw [hD]
  have k3 : ∀ b o', H2.get? b = some o' → H3.get? b = some o' := fun b o' e => by rw [← hH3]; exact pushCells_keeps _ _ _ _ (Heap.get?_push_of_some _ e)
  have k2 : ∀ b o', (s₁.heap.push o).get? b = some o' → H2.get? b = some o' := fun b o' e => by rw [← hH2]; exact Heap.get?_push_of_some _ e
  have k1 : ∀ b o', s₁.heap.get? b = some o' → H3.get? b = some o' := fun b o' e => k3 _ _ (k2 _ _ (Heap.get?_push_of_some _ e))
  have old : ∀ b o', s₁.heap.get? b = some o' → b < s₁.heap.objs.size := fun b o' e => Heap.lt_size e
  have hst₃ : St 0 H3 := W.frame _ _ _ hst fun b _ o' e => k3 _ _ (k2 _ _ e)
  have hacc : H3.PlainList (s₁.heap.objs.size + 1) #[] := ⟨0, k3 _ _ (by rw [← hH2, ← hD]; exact Heap.get?_push_size _ rfl)⟩
  have hns := tgt.ns
  have loop : codeAny (model prog w) A (.compLoop (.ListComp elt [⟨.Name x px, iter, ifs, 0⟩] scope pos) 0 (.ref s₁.heap.objs.size) (.ref (s₁.heap.objs.size + 1)) (compEnvC scope (cellsFrom (H2.objs.size + 1) scope.names cl) H2.objs.size env))
      (RR (.ref (s₁.heap.objs.size + 1)) H2.objs.size) { s₁ with heap := H3 } := by
    refine comp_loop (S := S) (C := H2.objs.size) (Live := Live) (Has := Has) s₁.heap W p F hIo tgt.sto ?_ ?_ ?_ ?_ ?_ ?_ hst₃ hacc hL ?_ ?_ ?_ hsz
    · intro h h' hl hk
      refine tgt.live h h' hl fun b o' hb e => hk b o' ?_ ?_ e
      · rintro rfl; rcases hb with e1 | e1
        · have := @eqN _ _ e1; omega
        · have := @eqN _ _ e1; omega
      · rintro rfl; rcases hb with e1 | e1
        · have := @eqN _ _ e1; omega
        · have := @eqN _ _ e1; omega
    · exact neN (by omega)
    · intro hm; have := leN (hfp _ hm); omega
    · intro hm; have := leN (hfp _ hm); omega
    · intro hm; have := leN (hfp _ hm); omega
    · exact neN (by omega)
    · rintro i v s₂ hi hP hLv hH ⟨h, tk, rfl⟩ hI hD hk
      exact htests i v h tk _ hi hP hLv hH hI hD fun b o' e => hk b o' (neN (by have := ltN (old b o' e); omega)) (neN (by have := ltN (old b o' e); omega)) (neN (by have := ltN (old b o' e); omega)) (neN (by have := ltN (old b o' e); omega)) (k1 b o' e)
    · rintro i v s₂ hi hP hp hLv hH ⟨h, tk, rfl⟩ hI hD hk
      exact helt i v h tk _ hi hP hp hLv hH hI hD fun b o' e => hk b o' (neN (by have := ltN (old b o' e); omega)) (neN (by have := ltN (old b o' e); omega)) (neN (by have := ltN (old b o' e); omega)) (neN (by have := ltN (old b o' e); omega)) (k1 b o' e)
    · intro h' tk ys hl hD' hF hk
      obtain ⟨m', hm'⟩ := tgt.ns h' hl
      refine hRR _ _ h' tk m' ys (Heap.get?_none_of_le (by omega)) (Heap.get?_none_of_le (by omega)) (neN (by omega)) hm' hD' (hF.mono ?_) fun b o' e => hk b o' (neN (by have := ltN (old b o' e); omega)) (neN (by have := ltN (old b o' e); omega)) (neN (by have := ltN (old b o' e); omega)) (neN (by have := ltN (old b o' e); omega)) (k1 b o' e)
      rintro i y ⟨fr, hfr, hFy⟩
      refine ⟨fr, fun q hq => ?_, hFy⟩
      obtain ⟨a1, a2, a3⟩ := hfr q hq
      refine ⟨a1, a2, fun hm => a3 ?_⟩
      rw [List.mem_singleton.mp hm]; simp
  exact codeAny_compStart_list loop (W.self 0 _ _ _ hst₃ loop)
theorem comp_eval {s : Shared} {elt iter : PySem.Expr} {x : Str} {px : Pos} {ifs : List PySem.Expr} {scope : Scope} {cl : List (Str × Addr)} {pos : Pos} {Q : Value → Shared → Prop}
    (hclos : closureFor scope env = pure cl) (hkind : scope.kind = .function) (hnames : ∀ y ∈ scope.names, y.2 = .local → scope.names.lookup y.1 = some .local)
    (h : wpAny (model prog w) A (eval iter env) (fun xv s₁ => CompQ prog w A env scope cl x px ifs elt Q xv s₁) E s)
    (hs : ∀ x, foldedSetIterable iter env x = pure x) :
    wpAny (model prog w) A (eval (.ListComp elt [⟨.Name x px, iter, ifs, 0⟩] scope pos) env) Q E s := by
  rw [eval_ListComp]
  refine wpAny_comprehension_free (use := none) rfl hs hclos hkind hnames (wpAny_mono h (fun xv s₁ h₁ => ?_) fun _ _ e => e)
  obtain ⟨n, P, p, F, ⟨o, fp, St, W, hst, hfp, hIo, _, hit⟩, hsz, tg, hQ⟩ := h₁
  refine hit _ _ ?_
  refine comp_block (RR := fun acc C => compPost (model prog w) A E none Q acc C) W hsz hst hfp hIo p F tg ?_
  intro D C h' tk m' ys hD hC hDC hn hl hF hk
  refine ⟨m', hn, fun h'' hs'' => hQ D ys h'' tk (fun b o' e => hs''.extBut b o' (by rintro rfl; rw [hC] at e; cases e) (hk b o' e)) hD (hl.extBut hs''.extBut hDC) (hF.mono ?_)⟩
  rintro i y ⟨fr, hfr, hFy⟩
  exact ⟨fr, fun q hq => ⟨(hfr q hq).1, hs''.extBut _ _ (fun e => (hfr q hq).2.2 (List.mem_singleton.mpr e)) (hfr q hq).2.1⟩, hFy⟩
theorem comp_assign {s : Shared} {elt iter : PySem.Expr} {x y : Str} {px py : Pos} {ifs : List PySem.Expr} {scope : Scope} {cl : List (Str × Addr)} {pos spos : Pos} {Q : Flow → Shared → Prop}
    (hsw : swapsWith (.ListComp elt [⟨.Name x px, iter, ifs, 0⟩] scope pos) (some (.Name y py)) spos.line env = pure true)
    (hclos : closureFor scope env = pure cl) (hkind : scope.kind = .function) (hnames : ∀ y ∈ scope.names, y.2 = .local → scope.names.lookup y.1 = some .local)
    (hy : env.kindOf y = some .local) (hp : (env.scope.kind == .class || (env.scope.kind == .module && env.locals != env.globals)) = false)
    (h : wpAny (model prog w) A (eval iter env) (fun xv s₁ => CompQA prog w A env scope cl x px ifs elt y Q xv s₁) E s)
    (hs : ∀ x, foldedSetIterable iter env x = pure x) :
    wpAny (model prog w) A (exec (.Assign [.Name y py] (.ListComp elt [⟨.Name x px, iter, ifs, 0⟩] scope pos) spos) env) Q E s := by
  rw [exec_Assign_Name_used _ _ _ _ hsw]
  refine wpAny_bind (wpAny_standAt (wpAny_bind ?_))
  show wpAny _ A (do let _ ← comprehension (.ListComp elt [⟨.Name x px, iter, ifs, 0⟩] scope pos) scope env _ (newList []) false (eval iter env) (some (assign (.Name y py) env))) _ _ s
  refine wpAny_bind (wpAny_mono (wpAny_comprehension_free (use := some (assign (.Name y py) env)) (Q := fun _ s' => Q .next s') rfl hs hclos hkind hnames
    (wpAny_mono h (fun xv s₁ h₁ => ?_) fun _ _ e => e)) (fun _ s' hq => wpAny_pure (wpAny_pure hq)) fun _ _ e => e)
  obtain ⟨n, P, p, F, m, ⟨o, fp, St, W, hst, hfp, hIo, _, hit⟩, hsz, tg, hn, hQ⟩ := h₁
  refine hit _ _ ?_
  refine comp_block (RR := fun acc C => compPost (model prog w) A E (some (assign (.Name y py) env)) (fun _ s' => Q .next s') acc C) W hsz hst hfp hIo p F tg ?_
  intro D C h' tk m' ys hD hC hDC hnC hlD hF hk
  obtain ⟨oL, _, _, hoL, _⟩ := id hn
  have hLC : env.locals ≠ C := by rintro rfl; rw [hC] at hoL; cases hoL
  have hLD : env.locals ≠ D := by rintro rfl; rw [hD] at hoL; cases hoL
  show wpAny _ A (assign (.Name y py) env (.ref D)) _ _ _
  refine wpAny_assign_Name (wpAny_storeName_local hy (hn.at' fun o' e => hk _ o' e) (fun h₂ hn₂ hs₂ => ?_) hp)
  refine ⟨m', hnC.sameBut hs₂ (Ne.symm hLC), fun h₃ hs₃ => ?_⟩
  refine hQ D ys h₃ _ (fun b o' hb e => hs₃.extBut b o' (by rintro rfl; rw [hC] at e; cases e) (hs₂.extBut b o' hb (hk b o' e))) hD ((hlD.extBut hs₂.extBut (Ne.symm hLD)).extBut hs₃.extBut hDC) (hF.mono ?_) (hn₂.sameBut hs₃ hLC)
  rintro i z ⟨fr, hfr, hFy⟩
  refine ⟨fr, fun q hq => ⟨(hfr q hq).1, ?_⟩, hFy⟩
  have a1 := (hfr q hq).1
  exact hs₃.extBut _ _ (fun e => (hfr q hq).2.2 (List.mem_singleton.mpr e)) (hs₂.extBut _ _ (fun e => by rw [e, hoL] at a1; cases a1) (hfr q hq).2.1)
theorem made_off {F : Nat → Value → List (Addr × Obj) → Prop} {h₀ h h' : Heap} {off : List Addr} {i : Nat} {y : Value} (hk : ∀ b o, h₀.get? b = some o → h.get? b = some o) (ho : ∀ b ∈ off, ∃ o, h.get? b = some o) (q : Made F h h' i y) : MadeOff F h₀ h' off i y := by
  obtain ⟨fr, hfr, hF⟩ := q
  refine ⟨fr, fun q hq => ⟨?_, (hfr q hq).2, fun hm => ?_⟩, hF⟩
  · cases e : h₀.get? q.1 with
    | none => rfl
    | some o => have := hk _ _ e; rw [(hfr q hq).1] at this; cases this
  · obtain ⟨o, e⟩ := ho _ hm
    rw [(hfr q hq).1] at e; cases e
theorem TgOk.loc {s₁ : Shared} {elt : PySem.Expr} {x : Str} {px : Pos} {ifs : List PySem.Expr} {scope : Scope} {cl : List (Str × Addr)} {n : Nat} {P : Nat → Value → Prop} {p : Nat → Bool} {F : Nat → Value → List (Addr × Obj) → Prop}
    (hkind : scope.kind = .function) (hx : scope.names.lookup x = some .local) (hcf : ∀ k, cellsFrom k scope.names cl = cl) (hpc : ∀ h, pushCells h scope.names = h)
    (htests : ∀ C i v h tk m₂ E', i < n → P i v → Fr s₁.heap C h m₂ → m₂ x = some v → News s₁.heap C h [] →
      wpAny (model prog w) A (testsOf ifs (compEnvC scope cl C env)) (fun ok s₃ => ok = p i ∧ Keeps { s₁ with heap := h, toks := tk } s₃) E' { s₁ with heap := h, toks := tk })
    (helt : ∀ C i v h tk m₂ E', i < n → P i v → p i = true → Fr s₁.heap C h m₂ → m₂ x = some v → News s₁.heap C h [] →
      wpAny (model prog w) A (eval elt (compEnvC scope cl C env)) (fun y s₃ => Made F h s₃.heap i y ∧ Keeps { s₁ with heap := h, toks := tk } s₃) E' { s₁ with heap := h, toks := tk }) :
    TgOk prog w A env scope cl x px ifs elt s₁ n P p F := by
  intro C hC
  have hC' := @eqN _ _ hC
  rw [hcf]
  refine ⟨C, fun h => ∃ m, h.Ns C m, fun v h => ∃ m, h.Ns C m ∧ m x = some v, ltN (by omega), ⟨?_, ?_, ?_, ?_, fun _ q => q⟩, ?_, ?_, ?_⟩
  · rintro v s Q E ⟨m, hn⟩ hQ
    refine wpAny_assign_Name (wpAny_storeName_local (env := compEnvC scope cl C env) (lookup_relabel_local hx) hn (fun h₂ hn₂ hs₂ => ?_) (by simp [compEnvC, relabel, hkind]))
    exact hQ h₂ _ (Nat.le_succ _) ⟨_, hn₂⟩ ⟨_, hn₂, by simp⟩ hs₂
  · rintro h h' ⟨m, hn⟩ hk
    exact ⟨m, hn.at' fun o' e => hk C o' (.inl rfl) e⟩
  · rintro v h h' ⟨m, hn, hm⟩ hk
    exact ⟨m, hn.at' fun o' e => hk C o' e, hm⟩
  · rintro h ⟨m, o', _, _, ho', _⟩
    exact ⟨o', ho'⟩
  · intro h hh
    rw [hpc]
    refine ⟨fun _ => none, { cls := .type "dict", data := .dict #[] }, #[], 0, ?_, rfl, ?_, ?_⟩
    · rw [← hh]; exact Heap.get?_push_size _ rfl
    · intro e he; simp at he
    · intro _; rfl
  · rintro i v h tk E' hi hP _ ⟨m, hn, hm⟩ _ _ hk
    refine wpAny_mono (htests C i v h tk m E' hi hP ⟨hn, hk, leN (by omega)⟩ hm News.nil) (fun ok s₃ q => ⟨q.1, keeps_c q.2, ?_⟩) fun _ _ e => e
    obtain ⟨_, h3, tk3, rfl, k3⟩ := q
    exact ⟨⟨m, hn.at' fun o' e => k3 _ _ e⟩, m, hn.at' fun o' e => k3 _ _ e, hm⟩
  · rintro i v h tk E' hi hP hp _ ⟨m, hn, hm⟩ hI hD hk
    refine wpAny_mono (helt C i v h tk m E' hi hP hp ⟨hn, hk, leN (by omega)⟩ hm News.nil) (fun ok s₃ q => ⟨made_off hk (fun b hb => ?_) q.1, keeps_c q.2, ?_⟩) fun _ _ e => e
    · obtain ⟨oC, _, _, hoC, _⟩ := hn
      simp only [List.mem_cons, List.not_mem_nil, or_false] at hb
      rcases hb with rfl | rfl | rfl | rfl
      · exact ⟨_, hoC⟩
      · exact hI
      · exact hD
      · exact ⟨_, hoC⟩
    · obtain ⟨_, h3, tk3, rfl, k3⟩ := q
      exact ⟨m, hn.at' fun o' e => k3 _ _ e⟩
end
/-- the walk stands here -/
def Stop (P : Prop) : Prop := P
theorem stop {P : Prop} (h : Stop P) : P := h
section
variable {prog : Program} {w : World} {M : Model} {A : Around} {E : Value → Shared → Prop} {s : Shared} {env : Env} {scope : Scope} {cl : List (Str × Addr)} {C c : Addr} {h₀ : Heap} {m : Str → Option Value} {x : Str} {v : Value} {pos : Pos} {Q : Value → Shared → Prop}
theorem name_loc (F : Fr h₀ C s.heap m) (hv : m x = some v) (h : Q v s) (hk : scope.kind = .function) (hl : (compEnvC scope cl C env).kindOf x = some .local) (hd : (x == ("__debug__" : Str)) = false) :
    wpAny M A (eval (.Name x pos) (compEnvC scope cl C env)) Q E s := wpAny_Name (wpAny_loadName_local (env := compEnvC scope cl C env) hk hl F.ns hv h) hd
theorem name_cel (F : Fr h₀ C s.heap m) (hc : cl.lookup x = some c) (hv : h₀.IsCell c (some v)) (h : Q v s) (hk : scope.kind = .function) (hl : (compEnvC scope cl C env).kindOf x = some .cell) (hd : (x == ("__debug__" : Str)) = false) :
    wpAny M A (eval (.Name x pos) (compEnvC scope cl C env)) Q E s := by
  obtain ⟨o, ho, hd'⟩ := hv
  exact wpAny_Name (wpAny_loadName_cell (env := compEnvC scope cl C env) hk hl hc ⟨o, F.keep _ _ ho, hd'⟩ h) hd
theorem cell_of_news {L : Addr} {h : Heap} {o : Obj} {news : List (Addr × Obj)} {v : Option Value} (N : News h₀ L h news) (hm : (c, o) ∈ news) (hd : o.data = .cell v) : h.IsCell c v := ⟨o, (N _ hm).1, hd⟩
end
section
variable {prog : Program} {w : World} {A : Around} {E Q : Value → Shared → Prop} {s : Shared}
theorem item_here {value slice : PySem.Expr} {D : Addr} {vs : List Value} {ns : List Int} {k : Int} {u : Tok} (hl : s.heap.IsList D vs.toArray) (hi : IntsAre vs ns) (h0 : 0 ≤ k) (h2 : k < (ns.length : Int)) (hz : ns.length ≤ 16384)
    (h : ∀ tk, Q (.int (ns.getD k.toNat 0) tk) s)
    (hs : subscripted slice false (.ref D) (.int k u) = operate [.ref D, .int k u] (getItem (.ref D) (.int k u)) := by with_unfolding_all rfl) : wpAny (model prog w) A (subscriptTail value slice (.ref D) (.int k u)) Q E s := by
  refine tail_any hl.typeIs slot_list_getitem.lookup (getItem_any hl hi (by omega) h2 hz fun tk => ?_) hs
  have e : ix k ns.length = k.toNat := by unfold ix; rw [if_neg (by omega)]
  rw [e]; exact h tk
end
theorem ints_of_paired {h h' : Heap} {g : Nat → Int} : ∀ {is : List Nat} {ys : List Value}, Paired (Made (fun i y fr => fr = [] ∧ ∃ t, y = .int (g i) t) h h') is ys → IntsAre ys (is.map g)
  | _, _, .nil => .nil
  | _, _, .cons ⟨_, _, _, _, e⟩ r => by rw [e, List.map_cons]; exact .cons _ _ (ints_of_paired r)
theorem range_filter_map (l : List Int) (q : Int → Bool) : ((List.range l.length).filter fun i => q (l.getD i 0)).map (fun i => l.getD i 0) = l.filter q := by
  have e : l = (List.range l.length).map fun i => l.getD i 0 := by
    apply List.ext_getElem
    · simp
    · intro i h1 h2
      simp [List.getD_eq_getElem?_getD, List.getElem?_eq_getElem h1]
  conv => rhs; rw [e, List.filter_map]
  rfl

/-- a heap's part below a place -/
def cutH (h : Heap) (C : Addr) : Heap := ⟨h.objs.extract 0 C, h.life⟩
theorem cut_get {h : Heap} {C b : Addr} {o : Obj} (hC : C ≤ h.objs.size) : (cutH h C).get? b = some o ↔ b < C ∧ h.get? b = some o := by
  have e : (cutH h C).objs[b]? = if b < C then h.objs[b]? else none := by
    show (h.objs.extract 0 C)[b]? = _
    rw [Array.getElem?_extract]
    have e1 : min C h.objs.size = C := Nat.min_eq_left hC
    rw [e1, Nat.sub_zero, Nat.zero_add]
  unfold Heap.get?
  rw [e]
  by_cases hb : b < C
  · rw [if_pos hb]
    exact ⟨fun q => ⟨hb, q⟩, fun q => q.2⟩
  · rw [if_neg hb]
    constructor
    · intro q; cases q
    · rintro ⟨q, _⟩; exact absurd q hb
theorem cut_size {h : Heap} {C : Addr} : (cutH h C).objs.size ≤ C := by
  show (h.objs.extract 0 C).size ≤ C
  rw [Array.size_extract]
  exact Nat.le_trans (Nat.sub_le _ _) (Nat.min_le_left _ _)
def ownOf (h : Heap) (C : Addr) : List (Addr × Obj) := (List.range h.objs.size).filterMap fun a => if C < a then (h.get? a).map fun o => (a, o) else none
theorem own_mem {h : Heap} {C : Addr} {q : Addr × Obj} : q ∈ ownOf h C ↔ C < q.1 ∧ h.get? q.1 = some q.2 := by
  unfold ownOf
  rw [List.mem_filterMap]
  constructor
  · rintro ⟨a, _, e⟩
    by_cases hc : C < a
    · rw [if_pos hc] at e
      cases hg : h.get? a with
      | none => rw [hg] at e; cases e
      | some o => rw [hg] at e; cases e; exact ⟨hc, hg⟩
    · rw [if_neg hc] at e; cases e
  · rintro ⟨hc, e⟩
    refine ⟨q.1, List.mem_range.mpr (Heap.lt_size e), ?_⟩
    rw [if_pos hc, e]
    rfl
/-- behind a turn's test -/
def EndT (s₁ : Shared) (g : Heap) (C : Addr) (x : Str) (v : Value) (own : List (Addr × Obj)) (s₃ : Shared) : Prop :=
  ∃ h' tk' m', s₃ = { s₁ with heap := h', toks := tk' } ∧ Fr g C h' m' ∧ m' x = some v ∧ News g C h' own
/-- behind a turn's element -/
def EndE (s₁ : Shared) (g : Heap) (C : Addr) (own : List (Addr × Obj)) (F : Nat → Value → List (Addr × Obj) → Prop) (i : Nat) (y : Value) (s₃ : Shared) : Prop :=
  ∃ h' tk' m' fr, s₃ = { s₁ with heap := h', toks := tk' } ∧ Fr g C h' m' ∧ News g C h' own ∧ News g C h' fr ∧ F i y fr
theorem own_all {h : Heap} {C : Addr} (hC : C < h.objs.size) {m : Str → Option Value} {h' : Heap} (F : Fr (cutH h C) C h' m) (N : News (cutH h C) C h' (ownOf h C)) : ∀ b o, b ≠ C → h.get? b = some o → h'.get? b = some o := by
  intro b o hb e
  rcases Nat.lt_or_gt_of_ne hb with q | q
  · exact F.keep _ _ ((cut_get (Nat.le_of_lt hC)).mpr ⟨q, e⟩)
  · exact (N (b, o) (own_mem.mpr ⟨q, e⟩)).1
theorem own_news {h : Heap} {C : Addr} (hC : C < h.objs.size) : News (cutH h C) C h (ownOf h C) := by
  intro q hq
  obtain ⟨a1, a2⟩ := own_mem.mp hq
  refine ⟨a2, Nat.ne_of_gt a1, ?_⟩
  cases e : (cutH h C).get? q.1 with
  | none => rfl
  | some o => exact absurd ((cut_get (Nat.le_of_lt hC)).mp e).1 (Nat.lt_asymm a1)
section
variable {prog : Program} {w : World} {A : Around} {E : Value → Shared → Prop} {env : Env}
theorem tests_nil {M : Model} {cenv : Env} {Q : Bool → Shared → Prop} {s : Shared} (h : Q true s) : wpAny M A (testsOf [] cenv) Q E s := wpAny_pure h
theorem TgOk.locW {s₁ : Shared} {elt : PySem.Expr} {x : Str} {px : Pos} {ifs : List PySem.Expr} {scope : Scope} {cl : List (Str × Addr)} {n : Nat} {P : Nat → Value → Prop} {p : Nat → Bool} {F : Nat → Value → List (Addr × Obj) → Prop}
    (hkind : scope.kind = .function) (hx : scope.names.lookup x = some .local) (hcf : ∀ k, cellsFrom k scope.names cl = cl) (hpc : ∀ h, pushCells h scope.names = h)
    (htests : ∀ C g own i v h tk m₂ E', i < n → P i v → Ext s₁.heap g → Fr g C h m₂ → m₂ x = some v → News g C h own →
      wpAny (model prog w) A (testsOf ifs (compEnvC scope cl C env)) (fun ok s₃ => ok = p i ∧ EndT s₁ g C x v own s₃) E' { s₁ with heap := h, toks := tk })
    (helt : ∀ C g own i v h tk m₂ E', i < n → P i v → p i = true → Ext s₁.heap g → Fr g C h m₂ → m₂ x = some v → News g C h own →
      wpAny (model prog w) A (eval elt (compEnvC scope cl C env)) (fun y s₃ => EndE s₁ g C own F i y s₃) E' { s₁ with heap := h, toks := tk }) :
    TgOk prog w A env scope cl x px ifs elt s₁ n P p F := by
  intro C hC
  have hC' := @eqN _ _ hC
  rw [hcf]
  have old : ∀ b o', s₁.heap.get? b = some o' → b < C := fun b o' e => ltN (by have := ltN (Heap.lt_size e); omega)
  have ext : ∀ h : Heap, C < h.objs.size → (∀ b o, s₁.heap.get? b = some o → h.get? b = some o) → Ext s₁.heap (cutH h C) := fun h hl hk b o e => (cut_get (Nat.le_of_lt hl)).mpr ⟨old b o e, hk b o e⟩
  have fr : ∀ (h : Heap) m, h.Ns C m → Fr (cutH h C) C h m := fun h m hn => ⟨hn, fun b o e => ((cut_get (Nat.le_of_lt hn.lt)).mp e).2, cut_size⟩
  refine ⟨C, fun h => ∃ m, h.Ns C m, fun v h => ∃ m, h.Ns C m ∧ m x = some v, ltN (by omega), ⟨?_, ?_, ?_, ?_, fun _ q => q⟩, ?_, ?_, ?_⟩
  · rintro v s Q E ⟨m, hn⟩ hQ
    refine wpAny_assign_Name (wpAny_storeName_local (env := compEnvC scope cl C env) (lookup_relabel_local hx) hn (fun h₂ hn₂ hs₂ => ?_) (by simp [compEnvC, relabel, hkind]))
    exact hQ h₂ _ (Nat.le_succ _) ⟨_, hn₂⟩ ⟨_, hn₂, by simp⟩ hs₂
  · rintro h h' ⟨m, hn⟩ hk
    exact ⟨m, hn.at' fun o' e => hk C o' (.inl rfl) e⟩
  · rintro v h h' ⟨m, hn, hm⟩ hk
    exact ⟨m, hn.at' fun o' e => hk C o' e, hm⟩
  · rintro h ⟨m, o', _, _, ho', _⟩
    exact ⟨o', ho'⟩
  · intro h hh
    rw [hpc]
    refine ⟨fun _ => none, { cls := .type "dict", data := .dict #[] }, #[], 0, ?_, rfl, ?_, ?_⟩
    · rw [← hh]; exact Heap.get?_push_size _ rfl
    · intro e he; simp at he
    · intro _; rfl
  · rintro i v h tk E' hi hP _ ⟨m, hn, hm⟩ _ _ hk
    refine wpAny_mono (htests C _ _ i v h tk m E' hi hP (ext h hn.lt hk) (fr h m hn) hm (own_news hn.lt)) (fun ok s₃ q => ?_) fun _ _ e => e
    obtain ⟨q1, h', tk', m', rfl, F', hm', N'⟩ := q
    exact ⟨q1, ⟨_, _, rfl, own_all hn.lt F' N'⟩, ⟨_, F'.ns⟩, _, F'.ns, hm'⟩
  · rintro i v h tk E' hi hP hp _ ⟨m, hn, hm⟩ hI hD hk
    refine wpAny_mono (helt C _ _ i v h tk m E' hi hP hp (ext h hn.lt hk) (fr h m hn) hm (own_news hn.lt)) (fun ok s₃ q => ?_) fun _ _ e => e
    obtain ⟨h', tk', m', frs, rfl, F', N', N2, hF⟩ := q
    refine ⟨⟨frs, fun q hq => ?_, hF⟩, ⟨_, _, rfl, own_all hn.lt F' N'⟩, _, F'.ns⟩
    obtain ⟨a1, a2, a3⟩ := N2 q hq
    have nog : ∀ o, q.1 < C → h.get? q.1 ≠ some o := fun o hb e => by rw [(cut_get (Nat.le_of_lt hn.lt)).mpr ⟨hb, e⟩] at a3; cases a3
    refine ⟨?_, a1, ?_⟩
    · cases e : s₁.heap.get? q.1 with
      | none => rfl
      | some o => exact absurd (hk _ _ e) (nog o (old _ _ e))
    · intro hm
      simp only [List.mem_cons, List.not_mem_nil, or_false] at hm
      rcases hm with e | e | e | e
      · exact a2 e
      · obtain ⟨o, ho⟩ := hI; rw [← e] at ho; exact nog o (by rw [e]; exact ltN (by omega)) ho
      · obtain ⟨o, ho⟩ := hD; rw [← e] at ho; exact nog o (by rw [e]; exact ltN (by omega)) ho
      · exact a2 e
theorem TgOk.celW {s₁ : Shared} {elt : PySem.Expr} {x : Str} {px : Pos} {ifs : List PySem.Expr} {scope : Scope} {cl : List (Str × Addr)} {n : Nat} {P : Nat → Value → Prop} {p : Nat → Bool} {F : Nat → Value → List (Addr × Obj) → Prop}
    (hkind : scope.kind = .function) (hx : ∀ cl' C, (compEnvC scope cl' C env).kindOf x = some .cell) (hcf : ∀ k, cellsFrom k scope.names cl = (x, k) :: cl) (hpc : ∀ h, pushCells h scope.names = h.push { cls := .type "cell", data := .cell none })
    (hifs : ifs = []) (hp : ∀ i, p i = true)
    (helt : ∀ C g own oc i v h tk m₂ E', i < n → P i v → Ext s₁.heap g → Fr g C h m₂ → oc.data = .cell (some v) → News g C h ((C + 1, oc) :: own) →
      wpAny (model prog w) A (eval elt (compEnvC scope ((x, C + 1) :: cl) C env)) (fun y s₃ => EndE s₁ g C ((C + 1, oc) :: own) (fun i y fr => fr = [] ∧ F i y []) i y s₃) E' { s₁ with heap := h, toks := tk }) :
    TgOk prog w A env scope cl x px ifs elt s₁ n P p F := by
  intro C hC
  have hC' := @eqN _ _ hC
  rw [hcf]
  subst hifs
  have old : ∀ b o', s₁.heap.get? b = some o' → b < C := fun b o' e => ltN (by have := ltN (Heap.lt_size e); omega)
  have ext : ∀ h : Heap, C < h.objs.size → (∀ b o, s₁.heap.get? b = some o → h.get? b = some o) → Ext s₁.heap (cutH h C) := fun h hl hk b o e => (cut_get (Nat.le_of_lt hl)).mpr ⟨old b o e, hk b o e⟩
  have fr : ∀ (h : Heap) m, h.Ns C m → Fr (cutH h C) C h m := fun h m hn => ⟨hn, fun b o e => ((cut_get (Nat.le_of_lt hn.lt)).mp e).2, cut_size⟩
  have news : ∀ (h : Heap) (oc : Obj), C < h.objs.size → h.get? (C + 1) = some oc → News (cutH h C) C h ((C + 1, oc) :: ownOf h (C + 1)) := fun h oc hl e q hq => by
    rcases List.mem_cons.mp hq with e1 | hq
    · rw [e1]
      refine ⟨e, neN (a := C + 1) (b := C) (by omega), ?_⟩
      cases e : (cutH h C).get? (C + 1) with
      | none => rfl
      | some o => have := ltN ((cut_get (Nat.le_of_lt hl)).mp e).1; omega
    · obtain ⟨a1, a2⟩ := own_mem.mp hq
      have a1 := ltN a1
      refine ⟨a2, neN (by omega), ?_⟩
      cases e : (cutH h C).get? q.1 with
      | none => rfl
      | some o => have := ltN ((cut_get (Nat.le_of_lt hl)).mp e).1; omega
  refine ⟨C + 1, fun h => (∃ m, h.Ns C m) ∧ ∃ v₀, h.IsCell (C + 1) v₀, fun v h => (∃ m, h.Ns C m) ∧ h.IsCell (C + 1) (some v), ltN (by omega), ⟨?_, ?_, ?_, ?_, fun _ q => q.1⟩, ?_, ?_, ?_⟩
  · rintro v s Q E ⟨⟨m, hn⟩, v₀, hc⟩ hQ
    refine wpAny_assign_Name (wpAny_storeName_cell (env := compEnvC scope ((x, C + 1) :: cl) C env) (by simp [compEnvC, relabel, hkind]) (hx _ _) (c := C + 1) (by simp [compEnvC]) hc fun h₂ hc₂ hs₂ => ?_)
    have hn₂ := hn.sameBut hs₂ (neN (a := C) (b := C + 1) (by omega))
    exact hQ h₂ _ (Nat.le_refl _) ⟨⟨m, hn₂⟩, _, hc₂⟩ ⟨⟨m, hn₂⟩, hc₂⟩ hs₂
  · rintro h h' ⟨⟨m, hn⟩, v₀, o', ho', hd'⟩ hk
    exact ⟨⟨m, hn.at' fun o' e => hk C o' (.inl rfl) e⟩, v₀, o', hk _ _ (.inr rfl) ho', hd'⟩
  · rintro v h h' ⟨⟨m, hn⟩, o', ho', hd'⟩ hk
    exact ⟨⟨m, hn.at' fun o' e => hk C o' e⟩, o', hk _ _ ho', hd'⟩
  · rintro h ⟨_, v₀, o', ho', _⟩
    exact ⟨o', ho'⟩
  · intro h hh
    rw [hpc]
    have hsz : (h.push { cls := .type "dict", data := .dict #[] }).objs.size = C + 1 := by rw [Heap.size_push, hh]
    refine ⟨⟨fun _ => none, { cls := .type "dict", data := .dict #[] }, #[], 0, ?_, rfl, ?_, ?_⟩, none, { cls := .type "cell", data := .cell none }, ?_, rfl⟩
    · refine Heap.get?_push_of_some _ ?_
      rw [← hh]; exact Heap.get?_push_size _ rfl
    · intro e he; simp at he
    · intro _; rfl
    · rw [← hsz]; exact Heap.get?_push_size _ rfl
  · rintro i v h tk E' hi hP hl hh _ _ hk
    exact tests_nil ⟨(hp i).symm, ⟨_, _, rfl, fun _ _ _ e => e⟩, hl, hh⟩
  · rintro i v h tk E' hi hP _ _ ⟨⟨m, hn⟩, oc, hoc, hd'⟩ hI hD hk
    refine wpAny_mono (helt C _ _ oc i v h tk m E' hi hP (ext h hn.lt hk) (fr h m hn) hd' (news h oc hn.lt hoc)) (fun ok s₃ q => ?_) fun _ _ e => e
    obtain ⟨h', tk', m', frs, rfl, F', N', _, _, hF⟩ := q
    refine ⟨⟨[], (by intro q hq; cases hq), hF⟩, ⟨_, _, rfl, fun b o hb e => ?_⟩, ⟨_, F'.ns⟩, _, oc, (N' _ (.head _)).1, hd'⟩
    rcases Nat.lt_or_gt_of_ne hb with q | q
    · exact F'.keep _ _ ((cut_get (Nat.le_of_lt hn.lt)).mpr ⟨q, e⟩)
    · by_cases hb1 : b = C + 1
      · rw [hb1] at e ⊢
        rw [hoc] at e
        rw [← Option.some.inj e]
        exact (N' _ (.head _)).1
      · refine (N' (b, o) (.tail _ (own_mem.mpr ⟨?_, e⟩))).1
        have q := ltN q
        have hb1 := neN hb1
        exact ltN (by dsimp only; omega)
theorem name_celN {M : Model} {s : Shared} {scope : Scope} {cl : List (Str × Addr)} {C c : Addr} {h₀ : Heap} {x : Str} {v : Value} {pos : Pos} {Q : Value → Shared → Prop} {oc : Obj} {news : List (Addr × Obj)} (N : News h₀ C s.heap news) (hc : cl.lookup x = some c) (hm : (c, oc) ∈ news) (hv : oc.data = .cell (some v)) (h : Q v s) (hk : scope.kind = .function) (hl : (compEnvC scope cl C env).kindOf x = some .cell) (hd : (x == ("__debug__" : Str)) = false) :
    wpAny M A (eval (.Name x pos) (compEnvC scope cl C env)) Q E s :=
  wpAny_Name (wpAny_loadName_cell (env := compEnvC scope cl C env) hk hl hc ⟨oc, (N _ hm).1, hv⟩ h) hd
end

/-- a turn of a search that makes things and drops them -/
def EndS (h₀ : Heap) (L : Addr) (m : Str → Option Value) (news : List (Addr × Obj)) (s : Shared) (J : Prop) (s' : Shared) : Prop := ∃ h' tk, s' = { s with heap := h', toks := tk } ∧ Fr h₀ L h' m ∧ News h₀ L h' news ∧ J
def TurnS (h₀ : Heap) (L : Addr) (m : Str → Option Value) (news : List (Addr × Obj)) (s : Shared) (J : Prop) (Q : Flow → Shared → Prop) (f : Flow) (s' : Shared) : Prop :=
  match f with
  | .ret v => Q (.ret v) s'
  | .brk => Q .next s'
  | .next => EndS h₀ L m news s J s'
  | .cont => EndS h₀ L m news s J s'
def SrchQ (prog : Program) (w : World) (A : Around) (env : Env) (x : Str) (px : Pos) (body : List Stmt) (Q : Flow → Shared → Prop) (E : Value → Shared → Prop) (it : Value) (s₂ : Shared) : Prop :=
  codeAny (model prog w) A (.forLoop (.Name x px) it body [] env) (fun r s' => match r with | .ok f => Q f s' | .error e => cameBackBy (model prog w) A env E e s') s₂
section
variable {prog : Program} {w : World} {A : Around} {E : Value → Shared → Prop} {s : Shared} {env : Env} {h₀ : Heap} {x : Str} {px : Pos} {body : List Stmt} {Q : Flow → Shared → Prop}
theorem For_C {pos : Pos} {iter : PySem.Expr} (_hx : env.kindOf x = some .cell)
    (h : wpAny (model prog w) A (eval iter env) (fun xv s₁ => wpAny (model prog w) A (pyIter xv) (fun it s₂ => SrchQ prog w A env x px body Q E it s₂) E s₁) E s)
    (hs : ∀ x, foldedSetIterable iter env x = pure x := by intro _; rfl) :
    wpAny (model prog w) A (exec (.For (.Name x px) iter body [] pos) env) Q E s := wpAny_For h hs
theorem search_down {r c L : Addr} {a b : Int} {t u v : Tok} {m : Str → Option Value} {news : List (Addr × Obj)} {oc₀ : Obj} {v₀ : Option Value} (J : Nat → Prop)
    (hh : A.handled = none) (hk : env.scope.kind = .function) (hx : env.kindOf x = some .cell) (hc : env.cells.lookup x = some c)
    (hr : IsRange s.heap r a b (-1) t u v) (hlo : -1000 ≤ a ∧ a ≤ 1000 ∧ -1000 ≤ b ∧ b ≤ 1000)
    (F : Fr h₀ L s.heap m) (N : News h₀ L s.heap ((c, oc₀) :: news)) (hd : oc₀.data = .cell v₀) (hne : ∀ p ∈ news, p.1 ≠ c) (hJ : J 0)
    (turn : ∀ (i : Nat) tk₀ h tk I oI oc, i < (a - b).toNat → J i → oc.data = .cell (some (.int (a - i) tk₀)) → Fr h₀ L h m → News h₀ L h ((I, oI) :: (c, oc) :: news) →
      wpAny (model prog w) A (execs body env) (TurnS h₀ L m ((I, oI) :: (c, oc) :: news) { s with heap := h, toks := tk } (J (i + 1)) Q) E { s with heap := h, toks := tk })
    (done : ∀ h tk oc, J (a - b).toNat → Fr h₀ L h m → News h₀ L h ((c, oc) :: news) → Q .next { s with heap := h, toks := tk })
    (hE : PassesOwn (model prog w) A env E := by passes_own) :
    wpAny (model prog w) A (pyIter (.ref r)) (fun it s₂ => SrchQ prog w A env x px body Q E it s₂) E s := by
  refine wpAny_pyIter_range hr (small_down (by omega) (by omega) (by omega) (by omega)) ?_
  have W := Walks.range (prog := prog) (w := w) hh s.heap.objs.size a (-1) (a - b).toNat
  have hcI : c ≠ s.heap.objs.size := Nat.ne_of_lt (Heap.lt_size (N _ List.mem_cons_self).1)
  have hLI : L ≠ s.heap.objs.size := Nat.ne_of_lt F.ns.lt
  have hcL : c ≠ L := (N _ List.mem_cons_self).2.1
  have hI0 : h₀.get? s.heap.objs.size = none := Heap.get?_none_of_le (Nat.le_trans F.above (Nat.le_of_lt F.ns.lt))
  have hc0 : h₀.get? c = none := (N _ List.mem_cons_self).2.2
  refine codeAny_forLoop (target := .Name x px) (orelse := [])
    (fun k s' => ∃ h' tk i oc vc, s' = { s with heap := h', toks := tk } ∧ IsRangeIter h' s.heap.objs.size (a + (i : Nat) * (-1)) (((a - b).toNat : Int) - (i : Nat)) (-1) ∧ Fr h₀ L h' m ∧ News h₀ L h' ((c, oc) :: news) ∧ oc.data = .cell vc ∧ (∀ p ∈ news, p.1 ≠ s.heap.objs.size) ∧ J i ∧ i ≤ (a - b).toNat ∧ k = (a - b).toNat + 1 - i) ?_ ((a - b).toNat + 1)
    ⟨_, s.toks, 0, oc₀, v₀, rfl, by rw [rangeSize_downNat]; simpa using Heap.get?_push_size _ rfl, F.push _, (fun p hp => ⟨Heap.get?_push_of_some _ (N p hp).1, (N p hp).2⟩), hd, (fun p hp e => absurd (Heap.lt_size (N p (List.mem_cons_of_mem _ hp)).1) (by rw [e]; exact Nat.lt_irrefl _)), hJ, Nat.zero_le _, rfl⟩
  rintro k s' ⟨h', tk, i, oc, vc, rfl, hst, F', N', hd', hoff, hJ', hi, rfl⟩
  have mv : ∀ h₁ : Heap, (∀ b o, b ∉ [s.heap.objs.size] → h'.get? b = some o → h₁.get? b = some o) → Fr h₀ L h₁ m ∧ News h₀ L h₁ ((c, oc) :: news) := fun h₁ hk₁ => by
    have k : ∀ b o, b ≠ s.heap.objs.size → h'.get? b = some o → h₁.get? b = some o := fun b o hb e => hk₁ b o (fun q => hb (List.mem_singleton.mp q)) e
    refine ⟨⟨F'.ns.at' fun o e => k _ o hLI e, fun b o e => k b o (by rintro rfl; rw [hI0] at e; cases e) (F'.keep b o e), F'.above⟩, fun p hp => ⟨k _ _ ?_ (N' p hp).1, (N' p hp).2⟩⟩
    rcases List.mem_cons.mp hp with e | hp
    · rw [e]; exact hcI
    · exact hoff p hp
  by_cases hlt : i < (a - b).toNat
  · refine W.item i _ _ _ hlt hst fun v h₁ tk₁ hP hst₁ hk₁ => ?_
    obtain ⟨tk₀, rfl⟩ := hP
    obtain ⟨F₁, N₁⟩ := mv h₁ hk₁
    refine wpAny_assign_Name (wpAny_storeName_cell hk hx hc (v₀ := vc) ⟨oc, (N₁ _ List.mem_cons_self).1, hd'⟩ fun h₂ hc₂ hs₂ => ?_)
    obtain ⟨oc₂, hoc₂, hd₂⟩ := hc₂
    have F₂ : Fr h₀ L h₂ m := ⟨F₁.ns.sameBut hs₂ hcL.symm, fun b o e => hs₂.extBut b o (by rintro rfl; rw [hc0] at e; cases e) (F₁.keep b o e), F₁.above⟩
    obtain ⟨oI, hst₂, hback⟩ : ∃ oI, h₂.get? s.heap.objs.size = some oI ∧ ∀ h : Heap, h.get? s.heap.objs.size = some oI → IsRangeIter h s.heap.objs.size (a + ((i + 1 : Nat) : Int) * (-1)) (((a - b).toNat : Int) - ((i + 1 : Nat) : Int)) (-1) := ⟨_, hs₂.extBut _ _ hcI.symm hst₁, fun _ e => e⟩
    have N₂ : News h₀ L h₂ ((s.heap.objs.size, oI) :: (c, oc₂) :: news) := fun p hp => by
      rcases List.mem_cons.mp hp with e | hp
      · rw [e]; exact ⟨hst₂, hLI.symm, hI0⟩
      · rcases List.mem_cons.mp hp with e | hp
        · rw [e]; exact ⟨hoc₂, hcL, hc0⟩
        · have q := N₁ p (List.mem_cons_of_mem _ hp)
          exact ⟨hs₂.extBut _ _ (hne p hp) q.1, q.2⟩
    rw [show a + (i : Int) * (-1) = a - i by omega] at hd₂
    refine wpAny_mono (wpAny_passesOwn hE (turn i tk₀ h₂ tk₁ _ _ oc₂ hlt hJ' hd₂ F₂ N₂)) (fun f s₃ hf => ?_) fun _ _ e => e
    have fin : EndS h₀ L m ((s.heap.objs.size, oI) :: (c, oc₂) :: news) { s with heap := h₂, toks := tk₁ } (J (i + 1)) s₃ → ∃ m', m' < (a - b).toNat + 1 - i ∧ ∃ h' tk i oc vc, s₃ = { s with heap := h', toks := tk } ∧ IsRangeIter h' s.heap.objs.size (a + (i : Nat) * (-1)) (((a - b).toNat : Int) - (i : Nat)) (-1) ∧ Fr h₀ L h' m ∧ News h₀ L h' ((c, oc) :: news) ∧ oc.data = .cell vc ∧ (∀ p ∈ news, p.1 ≠ s.heap.objs.size) ∧ J i ∧ i ≤ (a - b).toNat ∧ m' = (a - b).toNat + 1 - i := by
      rintro ⟨h₃, tk₃, rfl, F₃, N₃, hJ₃⟩
      exact ⟨(a - b).toNat + 1 - (i + 1), by omega, h₃, tk₃, i + 1, oc₂, _, rfl, hback _ (N₃ _ List.mem_cons_self).1, F₃, fun p hp => N₃ p (List.mem_cons_of_mem _ hp), hd₂, hoff, hJ₃, hlt, rfl⟩
    cases f with
    | ret v => exact hf
    | brk => exact hf
    | next => exact fin hf
    | cont => exact fin hf
  · have hin : i = (a - b).toNat := by omega
    subst hin
    refine W.done _ _ _ hst fun h₁ tk₁ hk₁ => wpAny_execs_nil ?_
    obtain ⟨F₁, N₁⟩ := mv h₁ hk₁
    exact done h₁ tk₁ oc hJ' F₁ N₁
end

section
variable {M : Model} {A : Around} {E : Value → Shared → Prop} {s : Shared} {env : Env} {scope : Scope} {cl : List (Str × Addr)} {C : Addr} {h₀ : Heap} {m mg mb : Str → Option Value} {x : Str} {v : Value} {pos : Pos} {Q : Value → Shared → Prop} {K : Frag} {p : Program} {loose : List Str} {mean : ExcName → Option Value}
theorem name_glob (F : Fr h₀ C s.heap m) (X : K.In h₀) (T : Top p loose mean mg mb h₀) (e : nsIn K mainGlobals x = some (some v)) (h : Q v s) (hk : scope.kind = .function) (hl : (compEnvC scope cl C env).kindOf x = some .globalImplicit) (hg : env.globals = mainGlobals) (hd : (x == ("__debug__" : Str)) = false) :
    wpAny M A (eval (.Name x pos) (compEnvC scope cl C env)) Q E s :=
  Calls.Name_function_global (env := compEnvC scope cl C env) hk hl (Calls.loadGlobal_global (env := compEnvC scope cl C env) (mg := mg) (by show s.heap.Ns env.globals mg; rw [hg]; exact T.g.keeps F.keep) (mg_of X T.g e) h) hd
theorem name_blt (F : Fr h₀ C s.heap m) (X : K.In h₀) (T : Top p loose mean mg mb h₀) (e : nsIn K mainGlobals x = some none) (hv : bootBuiltins x = some v) (hn : x ≠ "__name__") (h : Q v s) (hk : scope.kind = .function) (hl : (compEnvC scope cl C env).kindOf x = some .globalImplicit) (hg : env.globals = mainGlobals) (hb : env.builtins = builtinsNs) (hd : (x == ("__debug__" : Str)) = false) :
    wpAny M A (eval (.Name x pos) (compEnvC scope cl C env)) Q E s :=
  Calls.Name_function_global (env := compEnvC scope cl C env) hk hl (Calls.loadGlobal_builtin (env := compEnvC scope cl C env) (mg := mg) (mb := mb) (by show s.heap.Ns env.globals mg; rw [hg]; exact T.g.keeps F.keep) (mg_none_of X T.g e) (by show s.heap.Ns env.builtins mb; rw [hb]; exact T.b.keeps F.keep) ((T.builtins x hn).trans hv) h) hd
end

theorem fillC1 : PySem.Challenge.rw_re0066_01 = PySem.Challenge.rw_re0066_01 ∧ hd.heap_39 = hd.heap_39 := by
  k_fill
  w_top off
  exact ⟨rfl, rfl⟩
local macro_rules | `(tactic| k_inst) => `(tactic| exact InstAt.ext (by assumption) (Fr.keep (by k_asm)))
local macro_rules | `(tactic| walk_at "call builtin:len") => `(tactic| ((with_reducible show wpAny _ _ (call (Value.builtin "len") [Value.ref _]) _ _ _); first | (refine len_listB (by k_asm) (by with_reducible assumption) (by with_reducible assumption) (by omega) ?_) | (refine len_tupB (by k_asm) (by with_reducible assumption) (by with_reducible assumption) (by omega) ?_)))
local macro_rules | `(tactic| walk_at "exec For") => `(tactic| ((with_reducible show wpAny _ _ (exec (Stmt.For (Expr.Name _ _) _ _ [] _) _) _ _ _); with_unfolding_all (refine For_M (by k_asm) (by rfl) (by rfl) ?_)))
local macro_rules | `(tactic| walk_at "exec For Name Call cons nil") => `(tactic| (walk_at "exec For"))
local macro_rules | `(tactic| walk_at "exec For Name Name cons nil") => `(tactic| (walk_at "exec For"))
local macro_rules | `(tactic| walk_at "subscriptTail") => `(tactic| ((with_reducible show wpAny _ _ (subscriptTail _ _ (Value.ref _) (Value.int _ _)) _ _ _); first | (refine' item_newsN ?k1 ?k2 ?k3 ?k4 ?k5 ?k6 ?_ ?k7; (case k1 => k_asm); (case k2 => k_mem); (case k3 => with_reducible assumption); (case k4 => omega); (case k5 => omega); (case k6 => omega); (case k7 => with_unfolding_all rfl); intro tk9) | (refine item_tupB (by k_asm) (by with_reducible assumption) (by with_reducible assumption) (by omega) (by omega) (by omega) ?_; intro tk9) | (refine item_listB (by k_asm) (by with_reducible assumption) (by with_reducible assumption) (by omega) (by omega) (by omega) ?_; intro tk9)))
local macro_rules | `(tactic| walk_at "subscriptTail Name Name ref int") => `(tactic| (walk_at "subscriptTail"))
local macro_rules | `(tactic| walk_at "call builtin:list.append") => `(tactic| ((with_reducible show wpAny _ _ (call (Value.builtin "list.append") [Value.ref _, _]) _ _ _); first | (refine' append_L ?k1 ?k2 ?k3 ?_ ?k5; (case k1 => k_asm); (case k2 => k_asm); (case k3 => k_upd); (case k5 => omega); intro h9 F9 N9) | (refine' append_K ?k1 ?k2 ?k3 ?_ ?k5; (case k1 => k_asm); (case k2 => k_asm); (case k3 => k_upd); (case k5 => (rw [sizeLine_eq]; omega)); intro h9 F9 N9)))
local macro_rules | `(tactic| walk_at "compareOp In int ref") => `(tactic| ((with_reducible show wpAny _ _ (compareOp CmpOp.In (Value.int _ _) (Value.ref _)) _ _ _); refine in_list_ints (by is_list) (by with_reducible assumption) ?_))
local macro_rules | `(tactic| walk_at "compareOp NotIn int ref") => `(tactic| ((with_reducible show wpAny _ _ (compareOp CmpOp.NotIn (Value.int _ _) (Value.ref _)) _ _ _); refine notin_list_ints (by is_list) (by with_reducible assumption) ?_))
local macro_rules | `(tactic| walk_at "setItem ref int") => `(tactic| ((with_reducible show wpAny _ _ (setItem (Value.ref _) (Value.int _ _) (Value.int _ _)) _ _ _); refine' set_newsN ?k1 ?k2 ?k3 ?k4 ?k5 ?k6 ?k7 ?_; (case k1 => k_asm); (case k2 => k_asm); (case k3 => with_reducible assumption); (case k4 => k_upd); (case k5 => omega); (case k6 => omega); (case k7 => omega); intro h9 F9 N9 I9))
/-- a Whitespace object -/
def WsAt (h : Heap) (x : Addr) (cs : List Int) (b n nt : Int) (sm : Bool) : Prop :=
  ∃ dx tn tc raw us hr hn hnt hno his r0 r1 r2 r3 r4 r5 r6 r7 tb, InstAt h x (instObj 83 dx) 83 (some (dictOf [⟨hr, .str (Str.ofString "raw") r0, .str raw r1⟩, ⟨hn, .str (Str.ofString "n") r2, .int n r3⟩, ⟨hnt, .str (Str.ofString "nt") r4, .int nt r5⟩, ⟨hno, .str (Str.ofString "norm") r6, .ref tn⟩, ⟨his, .str (Str.ofString "is_simple") r7, .bool sm⟩] 5))
    ∧ IsTup h tn #[.ref tc, .int b tb] ∧ IsTup h tc us.toArray ∧ IntsAre us cs
theorem WsAt.ext {h h' : Heap} {x : Addr} {cs : List Int} {b n nt : Int} {sm : Bool} (W : WsAt h x cs b n nt sm) (k : Ext h h') : WsAt h' x cs b n nt sm := by
  obtain ⟨dx, tn, tc, raw, us, hr, hn, hnt, hno, his, r0, r1, r2, r3, r4, r5, r6, r7, tb, a, b, c, d⟩ := W
  exact ⟨dx, tn, tc, raw, us, hr, hn, hnt, hno, his, r0, r1, r2, r3, r4, r5, r6, r7, tb, InstAt.ext a k, b.keeps k, c.keeps k, d⟩
set_option maxHeartbeats 2000000 in
theorem longest_ct {w : World} {dp un : Nat} {gd : Option (List Code)} {fr : Option (List Env)} {s : Shared} {Q E : Value → Shared → Prop}
    (O : Ok w s.heap) (hd : dp + 4 < recursionLimit) {x : Addr} {cs : List Int} {b n nt : Int} {sm : Bool} (W : WsAt s.heap x cs b n nt sm) (hc : cs.length ≤ 3)
    (ret : ∀ t s', Keeps s s' → Q (.int (max ((cs.length : Int) - 1) b) t) s') : wpAny (model PG w) (Ar dp un fr gd) (call (.ref 45) [.ref x]) Q E s := by
  obtain ⟨X, mean, mg, mb, T⟩ := O
  obtain ⟨dx, tn, tc, raw, us, hr, hn, hnt, hno, his, r0, r1, r2, r3, r4, r5, r6, r7, tb, hI, h1, h2, h3⟩ := W
  refine enter (binds := [(Str.ofString "self", .ref x)]) X T (by k_is) (by k_is) (by ktr_room) (BindsTo.of_eq rfl) (locs rfl) ?_ (by decide) rfl rfl rfl
  intro L h' tk F' N'
  (try dsimp only); (try k_fold)
  k_steps
  have e : (if b > (cs.length : Int) - 1 then b else (cs.length : Int) - 1) = max ((cs.length : Int) - 1) b := by omega
  rw [e]
  exact ret _ _ ⟨_, _, rfl, Fr.keep (by assumption)⟩
def ilF (ts : Int) (cs : List Int) (i : Nat) : Int := ((List.range i).map fun (j : Nat) => (ts + (j : Int)) / ts * cs.getD (ts + j).toNat 0).sum
theorem ilF_succ (ts : Int) (cs : List Int) (i : Nat) : ilF ts cs (i + 1) = ilF ts cs i + (ts + (i : Int)) / ts * cs.getD (ts + i).toNat 0 := by
  simp [ilF, List.range_succ]
set_option maxHeartbeats 2000000 in
theorem indent_ct {w : World} {dp un : Nat} {gd : Option (List Code)} {fr : Option (List Env)} {s : Shared} {Q E : Value → Shared → Prop}
    (O : Ok w s.heap) (hd : dp + 4 < recursionLimit) {x : Addr} {cs : List Int} {b n nt : Int} {sm : Bool} (W : WsAt s.heap x cs b n nt sm) (hc : cs.length ≤ 3) {ts : Int} {tt : Tok} (ht : 2 ≤ ts) (ht : ts ≤ 6)
    (ret : ∀ t s', Keeps s s' → Q (.int (b + ts * (ilF ts cs ((cs.length : Int) - ts).toNat + nt)) t) s') : wpAny (model PG w) (Ar dp un fr gd) (call (.ref 52) [.ref x, .int ts tt]) Q E s := by
  obtain ⟨X, mean, mg, mb, T⟩ := O
  obtain ⟨dx, tn, tc, raw, us, hr, hn, hnt, hno, his, r0, r1, r2, r3, r4, r5, r6, r7, tb, hI, h1, h2, h3⟩ := W
  refine enter (binds := [(Str.ofString "self", .ref x), (Str.ofString "tabsize", .int ts tt)]) X T (by k_is) (by k_is) (by ktr_room) (BindsTo.of_eq rfl) (locs rfl) ?_ (by decide) rfl rfl rfl
  intro L h' tk F' N'
  (try dsimp only); (try k_fold)
  k_steps
  refine iter_up [] (fun i m₁ news₁ => (∃ t, m₁ (Str.ofString "il") = some (.int (ilF ts cs i) t)) ∧ m₁ (Str.ofString "self") = some (.ref x) ∧ m₁ (Str.ofString "tabsize") = some (.int ts tt) ∧ m₁ (Str.ofString "count") = some (.ref tc) ∧ m₁ (Str.ofString "trailing") = some (.int b tb) ∧ news₁ = [])
    rfl (by assumption) (by omega) (by assumption) (by assumption) (by simp) ⟨⟨_, rfl⟩, rfl, rfl, rfl, rfl, rfl⟩ ?_ ?_
  · rintro i tk₀ m₁ news₁ h tk I oI hi ⟨⟨t1, e1⟩, e2, e3, e4, e5, rfl⟩ hnI hoff F N
    rw [← upd_self e1, ← upd_self e2, ← upd_self e3, ← upd_self e4, ← upd_self e5] at F
    have hf : ((ts + (i : Int)).fdiv ts) = (ts + (i : Int)) / ts := Int.fdiv_eq_ediv_of_nonneg _ (by omega)
    have hm : IntMulOk ((ts + (i : Int)).fdiv ts) (cs.getD (ts + (i : Int)).toNat 0) := by
      rw [hf]
      have h1 := Int.ediv_nonneg (a := ts + i) (b := ts) (by omega) (by omega)
      have h2 := Int.ediv_le_self ts (a := ts + i) (by omega)
      exact IntMulOk.of_left (intBits_le_64 (by omega) (by omega))
    k_steps
    refine ⟨_, _, _, [], rfl, by assumption, by assumption, by simp, ?_, rfl, rfl, rfl, rfl, rfl⟩
    rw [ilF_succ, ← hf]
    exact ⟨_, rfl⟩
  · rintro m₁ news₁ h tk ⟨⟨t1, e1⟩, e2, e3, e4, e5, rfl⟩ F N
    rw [← upd_self e1, ← upd_self e2, ← upd_self e3, ← upd_self e4, ← upd_self e5] at F
    k_steps
    dsimp only
    exact ret _ _ ⟨_, _, rfl, Fr.keep (by assumption)⟩

theorem fillC2 : True := by
  w_top off
  trivial
local macro_rules | `(tactic| walk_at "call ref") => `(tactic| ((with_reducible show wpAny _ _ (call (Value.ref _) _) _ _ _); refine stop ?_))
def ilv (cs : List Int) (b nt ts : Int) : Int := b + ts * (ilF ts cs ((cs.length : Int) - ts).toNat + nt)
def runF (cs : List Int) (b : Int) : Int := max ((cs.length : Int) - 1) b
def lessF (cs₁ : List Int) (b₁ n₁ nt₁ : Int) (sm₁ : Bool) (cs₂ : List Int) (b₂ n₂ nt₂ : Int) (sm₂ : Bool) : Bool :=
  if n₁ ≥ n₂ then false else if sm₁ && sm₂ then decide (nt₁ ≤ nt₂) else
    (List.range (max (runF cs₁ b₁) (runF cs₂ b₂)).toNat).all fun i => decide (ilv cs₁ b₁ nt₁ (2 + (i : Int)) < ilv cs₂ b₂ nt₂ (2 + (i : Int)))
set_option maxHeartbeats 4000000 in
theorem less_ct {w : World} {dp un : Nat} {gd : Option (List Code)} {fr : Option (List Env)} {s : Shared} {Q E : Value → Shared → Prop}
    (O : Ok w s.heap) (hd : dp + 6 < recursionLimit) {x y : Addr} {cs₁ cs₂ : List Int} {b₁ n₁ nt₁ b₂ n₂ nt₂ : Int} {sm₁ sm₂ : Bool} (W₁ : WsAt s.heap x cs₁ b₁ n₁ nt₁ sm₁) (W₂ : WsAt s.heap y cs₂ b₂ n₂ nt₂ sm₂)
    (hc₁ : cs₁.length ≤ 3) (hc₂ : cs₂.length ≤ 3) (hb₁ : 0 ≤ b₁ ∧ b₁ ≤ 5) (hb₂ : 0 ≤ b₂ ∧ b₂ ≤ 5)
    (ret : ∀ s', Keeps s s' → Q (.bool (lessF cs₁ b₁ n₁ nt₁ sm₁ cs₂ b₂ n₂ nt₂ sm₂)) s') : wpAny (model PG w) (Ar dp un fr gd) (call (.ref 73) [.ref x, .ref y]) Q E s := by
  obtain ⟨X, mean, mg, mb, T⟩ := id O
  obtain ⟨dx, tn, tc, raw, us, hr, hn, hnt, hno, his, r0, r1, r2, r3, r4, r5, r6, r7, tb, hI, h1, h2, h3⟩ := id W₁
  obtain ⟨dx', tn', tc', raw', us', hr', hn', hnt', hno', his', r0', r1', r2', r3', r4', r5', r6', r7', tb', hI', h1', h2', h3'⟩ := id W₂
  refine enter (binds := [(Str.ofString "self", .ref x), (Str.ofString "other", .ref y)]) X T (by k_is) (by k_is) (by ktr_room) (BindsTo.of_eq rfl) (locs rfl) ?_ (by decide) rfl rfl rfl
  intro L h' tk F' N'
  (try dsimp only); (try k_fold)
  k_steps
  · have e : lessF cs₁ b₁ n₁ nt₁ sm₁ cs₂ b₂ n₂ nt₂ sm₂ = false := by unfold lessF; rw [if_pos (by omega)]
    rw [e] at ret
    exact ret _ ⟨_, _, rfl, Fr.keep (by assumption)⟩
  · have e : lessF cs₁ b₁ n₁ nt₁ sm₁ cs₂ b₂ n₂ nt₂ sm₂ = decide (nt₁ ≤ nt₂) := by unfold lessF; rw [if_neg (by omega), if_pos (by rw [‹sm₁ = true›, ‹sm₂ = true›]; rfl)]
    rw [e] at ret
    exact ret _ ⟨_, _, rfl, Fr.keep (by assumption)⟩
  all_goals (
    with_unfolding_all (refine longest_ct (Ok.ext O (Fr.keep (by k_asm))) (by ktr_room) (WsAt.ext W₁ (Fr.keep (by k_asm))) hc₁ ?_)
    rintro t9 s9 ⟨h9, tk9, e9, k9⟩; subst e9; have F9 := Ext.fr k9 (by k_asm); have N9 := Ext.news k9 (by k_asm); (try dsimp only)
    k_steps
    with_unfolding_all (refine longest_ct (Ok.ext O (Fr.keep (by k_asm))) (by ktr_room) (WsAt.ext W₂ (Fr.keep (by k_asm))) hc₂ ?_)
    rintro t9 s9 ⟨h9, tk9, e9, k9⟩; subst e9; have F9 := Ext.fr k9 (by k_asm); have N9 := Ext.news k9 (by k_asm); (try dsimp only)
    k_steps
    have e : lessF cs₁ b₁ n₁ nt₁ sm₁ cs₂ b₂ n₂ nt₂ sm₂ = (List.range (max (runF cs₁ b₁) (runF cs₂ b₂)).toNat).all fun i => decide (ilv cs₁ b₁ nt₁ (2 + (i : Int)) < ilv cs₂ b₂ nt₂ (2 + (i : Int))) := by
      unfold lessF; rw [if_neg (by omega), if_neg (by first | (rw [‹sm₁ = true›, ‹sm₂ = false›]; decide) | (rw [‹sm₁ = false›]; simp))]
    have hr₁ : runF cs₁ b₁ = max ((cs₁.length : Int) - 1) b₁ := rfl
    have hr₂ : runF cs₂ b₂ = max ((cs₂.length : Int) - 1) b₂ := rfl
    refine iter_up [] (fun i m₁ news₁ => (∀ j < i, ilv cs₁ b₁ nt₁ (2 + (j : Int)) < ilv cs₂ b₂ nt₂ (2 + (j : Int))) ∧ m₁ (Str.ofString "self") = some (.ref x) ∧ m₁ (Str.ofString "other") = some (.ref y) ∧ news₁ = [])
      rfl (by assumption) (by omega) (by assumption) (by assumption) (by simp) ⟨by simp, rfl, rfl, rfl⟩ ?_ ?_
    · rintro i tk₀ m₁ news₁ h tk I oI hi ⟨e1, e2, e3, rfl⟩ hnI hoff F N
      rw [← upd_self e2, ← upd_self e3] at F
      k_steps
      with_unfolding_all (refine indent_ct (Ok.ext O (Fr.keep (by k_asm))) (by ktr_room) (WsAt.ext W₁ (Fr.keep (by k_asm))) hc₁ (by omega) (by omega) ?_)
      rintro t9 s9 ⟨h9, tk9, e9, k9⟩; subst e9; have F9 := Ext.fr k9 (by k_asm); have N9 := Ext.news k9 (by k_asm); (try dsimp only)
      k_steps
      with_unfolding_all (refine indent_ct (Ok.ext O (Fr.keep (by k_asm))) (by ktr_room) (WsAt.ext W₂ (Fr.keep (by k_asm))) hc₂ (by omega) (by omega) ?_)
      rintro t9 s9 ⟨h9, tk9, e9, k9⟩; subst e9; have F9 := Ext.fr k9 (by k_asm); have N9 := Ext.news k9 (by k_asm); (try dsimp only)
      k_steps
      · have hle : ilv cs₂ b₂ nt₂ (2 + (i : Int)) ≤ ilv cs₁ b₁ nt₁ (2 + (i : Int)) := by assumption
        have e' : lessF cs₁ b₁ n₁ nt₁ sm₁ cs₂ b₂ n₂ nt₂ sm₂ = false := by
          rw [e, List.all_eq_false]
          exact ⟨i, List.mem_range.mpr (by omega), by rw [decide_eq_true_eq]; omega⟩
        rw [e'] at ret
        exact ret _ ⟨_, _, rfl, Fr.keep (by assumption)⟩
      · have hlt : ¬ ilv cs₂ b₂ nt₂ (2 + (i : Int)) ≤ ilv cs₁ b₁ nt₁ (2 + (i : Int)) := by assumption
        refine ⟨_, _, _, [], rfl, by assumption, by assumption, by simp, ?_, rfl, rfl, rfl⟩
        intro j hj
        rcases Nat.lt_succ_iff_lt_or_eq.mp hj with h | h
        · exact e1 j h
        · rw [h]; omega
    · rintro m₁ news₁ h tk ⟨e1, e2, e3, rfl⟩ F N
      rw [← upd_self e2, ← upd_self e3] at F
      k_steps
      dsimp only
      have e' : lessF cs₁ b₁ n₁ nt₁ sm₁ cs₂ b₂ n₂ nt₂ sm₂ = true := by
        rw [e, List.all_eq_true]
        intro j hj
        exact decide_eq_true (e1 j (by have := List.mem_range.mp hj; omega))
      rw [e'] at ret
      exact ret _ ⟨_, _, rfl, Fr.keep (by assumption)⟩)

theorem fillC3 : True := by
  w_top off
  trivial
def txN (a t c : Nat) : Str := ⟨(List.replicate a 32 ++ List.replicate t 9 ++ List.replicate c 32).toArray⟩
/-- the lead of a number -/
def tx (i : Nat) : Str := txN (i % 3) (i / 3 % 3) (i / 9 % 4)
theorem txN_eq (n : Int) : Txt.mul (Str.ofString " ") (n.fmod 3) ++ Txt.mul (Str.ofString "\t") ((n.fdiv 3).fmod 3) ++ Txt.mul (Str.ofString " ") ((n.fdiv 9).fmod 4) = tx (n % 36).toNat := by
  have e1 : Str.ofString " " = ⟨#[32]⟩ := by decide +kernel
  have e2 : Str.ofString "\t" = ⟨#[9]⟩ := by decide +kernel
  rw [e1, e2]
  have key : ∀ a b c : Str, a ++ b ++ c = ⟨(a.cps.toList ++ b.cps.toList ++ c.cps.toList).toArray⟩ := by
    intro a b c
    obtain ⟨⟨a⟩⟩ := a; obtain ⟨⟨b⟩⟩ := b; obtain ⟨⟨c⟩⟩ := c
    show Str.append (Str.append _ _) _ = _
    simp [Str.append]
  rw [key, mul_one_list, mul_one_list, mul_one_list, tx, txN]
  rw [Int.fmod_eq_emod_of_nonneg _ (by decide), Int.fmod_eq_emod_of_nonneg _ (by decide), Int.fmod_eq_emod_of_nonneg _ (by decide), Int.fdiv_eq_ediv_of_nonneg _ (by decide), Int.fdiv_eq_ediv_of_nonneg _ (by decide)]
  have h1 : (n % 3).toNat = (n % 36).toNat % 3 := by omega
  have h2 : (n / 3 % 3).toNat = (n % 36).toNat / 3 % 3 := by omega
  have h3 : (n / 9 % 4).toNat = (n % 36).toNat / 9 % 4 := by omega
  rw [h1, h2, h3]
local macro_rules | `(tactic| walk_at "binaryOp Add str str") => `(tactic| ((with_reducible show wpAny _ _ (binaryOp Operator.Add (Value.str _ _) (Value.str _ _)) _ _ _); refine add_str ?_ (by rw [sizeLine_eq]; (try simp only [Str.length_append]); omega); intro t9 tk9))
set_option maxHeartbeats 4000000 in
theorem text_ct {w : World} {dp un : Nat} {gd : Option (List Code)} {fr : Option (List Env)} {s : Shared} {Q E : Value → Shared → Prop}
    (O : Ok w s.heap) (hd : dp + 4 < recursionLimit) {n : Int} {t : Tok}
    (ret : ∀ t s', Keeps s s' → Q (.str (tx (n % 36).toNat) t) s') : wpAny (model PG w) (Ar dp un fr gd) (call (.ref 101) [.int n t]) Q E s := by
  obtain ⟨X, mean, mg, mb, T⟩ := id O
  refine enter (binds := [(Str.ofString "number", .int n t)]) X T (by k_is) (by k_is) (by ktr_room) (BindsTo.of_eq rfl) (locs rfl) ?_ (by decide) rfl rfl rfl
  intro L h' tk F' N'
  (try dsimp only); (try k_fold)
  have e3 : ∀ k : Int, 0 ≤ k.fmod 3 ∧ k.fmod 3 < 3 := fun k => ⟨Int.fmod_nonneg_of_pos _ (by decide), Int.fmod_lt_of_pos _ (by decide)⟩
  have e4 : ∀ k : Int, 0 ≤ k.fmod 4 ∧ k.fmod 4 < 4 := fun k => ⟨Int.fmod_nonneg_of_pos _ (by decide), Int.fmod_lt_of_pos _ (by decide)⟩
  have z1 : (Txt.mul (Str.ofString " ") (n.fmod 3)).length ≤ 4 := len_mul_one (c := 32) (by decide +kernel) (by have := e3 n; omega)
  have z2 : (Txt.mul (Str.ofString "\t") ((n.fdiv 3).fmod 3)).length ≤ 4 := len_mul_one (c := 9) (by decide +kernel) (by have := e3 (n.fdiv 3); omega)
  have z3 : (Txt.mul (Str.ofString " ") ((n.fdiv 9).fmod 4)).length ≤ 4 := len_mul_one (c := 32) (by decide +kernel) (by have := e4 (n.fdiv 9); omega)
  k_steps
  rw [← txN_eq] at ret
  exact ret _ _ ⟨_, _, rfl, Fr.keep (by assumption)⟩
set_option maxHeartbeats 4000000 in
theorem hb_ct {w : World} {dp un : Nat} {gd : Option (List Code)} {fr : Option (List Env)} {s : Shared} {Q E : Value → Shared → Prop}
    (O : Ok w s.heap) (hd : dp + 4 < recursionLimit) {n : Int} {t : Tok}
    (ret : ∀ t s', Keeps s s' → Q (.int ((Builtin.Int.intBits n : Int) - 1) t) s') : wpAny (model PG w) (Ar dp un fr gd) (call (.ref 94) [.int n t]) Q E s := by
  obtain ⟨X, mean, mg, mb, T⟩ := id O
  refine enter (binds := [(Str.ofString "value", .int n t)]) X T (by k_is) (by k_is) (by ktr_room) (BindsTo.of_eq rfl) (locs rfl) ?_ (by decide) rfl rfl rfl
  intro L h' tk F' N'
  (try dsimp only); (try k_fold)
  k_steps
  exact ret _ _ ⟨_, _, rfl, Fr.keep (by assumption)⟩

theorem fillC4 : True := by
  w_top off
  trivial
theorem sp_eq (c : Nat) : ((⟨#[c]⟩ : Str) == Str.ofString " ") = decide (c = 32) := by
  rw [show Str.ofString " " = ⟨#[32]⟩ by decide +kernel, Bool.eq_iff_iff]
  simp
def colF (size : Int) (l : List Nat) : Int := l.foldl (fun c ch => if ch = 32 then c + 1 else (c.fdiv size + 1) * size) 0
set_option maxHeartbeats 4000000 in
theorem columns_ct {w : World} {dp un : Nat} {gd : Option (List Code)} {fr : Option (List Env)} {s : Shared} {Q E : Value → Shared → Prop}
    (O : Ok w s.heap) (hd : dp + 4 < recursionLimit) {z : Str} {t : Tok}
    (ret : ∀ l vs s', Keeps s s' → s.heap.get? l = none → s'.heap.PlainList l vs.toArray → IntsAre vs ((List.range 6).map fun (i : Nat) => colF (1 + (i : Int)) z.cps.toList) → Q (.ref l) s') : wpAny (model PG w) (Ar dp un fr gd) (call (.ref 108) [.str z t]) Q E s := by
  obtain ⟨X, mean, mg, mb, T⟩ := id O
  refine enter (binds := [(Str.ofString "text", .str z t)]) X T (by k_is) (by k_is) (by ktr_room) (BindsTo.of_eq rfl) (locs rfl) ?_ (by decide) rfl rfl rfl
  intro L h' tk F' N'
  (try dsimp only); (try k_fold)
  k_steps
  refine iter_up [] (fun i m₁ news₁ => ∃ lc arr e, m₁ (Str.ofString "columns") = some (.ref lc) ∧ m₁ (Str.ofString "text") = some (.str z t) ∧ news₁ = [(lc, W.listOf arr e)] ∧ IntsAre arr.toList ((List.range i).map fun (j : Nat) => colF (1 + (j : Int)) z.cps.toList))
    rfl (by assumption) (by omega) (by assumption) (by assumption) (by intro p hp; rw [List.mem_singleton.mp hp]; rfl) ⟨_, _, _, rfl, rfl, rfl, .nil⟩ ?_ ?_
  · rintro i tk₀ m₁ news₁ h tk I oI hi ⟨lc, arr, e, e1, e2, rfl, e3⟩ hnI hoff F N
    rw [← upd_self e1, ← upd_self e2] at F
    simp only [List.nil_append] at N
    k_steps
    refine iter_str [(I, oI)] (fun k m₁ news₁ => (∃ t', m₁ (Str.ofString "column") = some (.int (colF (1 + (i : Int)) (z.cps.toList.take k)) t')) ∧ m₁ (Str.ofString "columns") = some (.ref lc) ∧ m₁ (Str.ofString "text") = some (.str z t) ∧ m₁ (Str.ofString "size") = some (.int (1 + (i : Int)) tk₀) ∧ news₁ = [(lc, W.listOf arr e)])
      rfl (by assumption) (by assumption) (by intro p hp; rw [List.mem_singleton.mp hp]; rfl) ⟨⟨_, rfl⟩, rfl, rfl, rfl, rfl⟩ ?_ ?_
    · rintro k c tk₁ m₂ news₂ h tk I' oI' hk ⟨⟨t', e4⟩, e5, e6, e7, rfl⟩ hnI' hoff' F N
      rw [← upd_self e4, ← upd_self e5, ← upd_self e6, ← upd_self e7] at F
      simp only [List.nil_append, List.cons_append] at N
      have hs : z.cps.toList.take (k + 1) = z.cps.toList.take k ++ [c] := by
        rw [List.take_add_one, Array.getElem?_toList, hk]; rfl
      have hc : colF (1 + (i : Int)) (z.cps.toList.take (k + 1)) = if c = 32 then colF (1 + (i : Int)) (z.cps.toList.take k) + 1 else ((colF (1 + (i : Int)) (z.cps.toList.take k)).fdiv (1 + (i : Int)) + 1) * (1 + (i : Int)) := by
        rw [hs, colF, List.foldl_append]; rfl
      k_steps
      · refine ⟨_, _, _, _, rfl, by assumption, by assumption, by intro p hp; rw [List.mem_singleton.mp hp]; rfl, ?_, rfl, rfl, rfl, rfl⟩
        rw [hc, if_pos (of_decide_eq_true ((sp_eq c).symm.trans (by assumption)))]
        exact ⟨_, rfl⟩
      · refine ⟨_, _, _, _, rfl, by assumption, by assumption, by intro p hp; rw [List.mem_singleton.mp hp]; rfl, ?_, rfl, rfl, rfl, rfl⟩
        rw [hc, if_neg (of_decide_eq_false ((sp_eq c).symm.trans (by assumption)))]
        exact ⟨_, rfl⟩
    · rintro m₂ news₂ h tk ⟨⟨t', e4⟩, e5, e6, e7, rfl⟩ F N
      rw [← upd_self e4, ← upd_self e5, ← upd_self e6, ← upd_self e7] at F
      simp only [List.nil_append, List.cons_append] at N
      have hne := @neN lc I (hoff _ (List.mem_singleton.mpr rfl))
      have hz : arr.size = i := by have := e3.length; simpa using this
      k_steps
      refine ⟨_, _, _, [_], rfl, by assumption, by assumption, by intro p hp; rw [List.mem_singleton.mp hp]; rfl, _, _, _, rfl, rfl, rfl, ?_⟩
      rw [List.range_succ, List.map_append, Array.toList_push]
      rw [List.take_of_length_le (by simp)]
      exact e3.append (.cons _ _ .nil)
  · rintro m₁ news₁ h tk ⟨lc, arr, e, e1, e2, rfl, e3⟩ F N
    rw [← upd_self e1, ← upd_self e2] at F
    simp only [List.nil_append] at N
    k_steps
    refine ret lc arr.toList _ ⟨_, _, rfl, Fr.keep (by assumption)⟩ (N _ List.mem_cons_self).2.2 ⟨e, (N _ List.mem_cons_self).1⟩ e3

theorem fillC5 : True := by
  w_top off
  trivial
def worthStep (ls os ws : List Int) (k : Int) : List Int :=
  if ls.any (· == k) then ws.set (ix (os.getD k.toNat 0) ws.length) (Builtin.bitXor (ws.getD (ix (os.getD k.toNat 0) ws.length) 0) (ws.getD k.toNat 0 + 1)) else ws
def worthsN (ls os : List Int) (i : Nat) : List Int := (List.range i).foldl (fun ws (j : Nat) => worthStep ls os ws (6 - (j : Int))) [0, 0, 0, 0, 0, 0, 0, 0]
theorem worthsN_succ (ls os : List Int) (i : Nat) : worthsN ls os (i + 1) = worthStep ls os (worthsN ls os i) (6 - (i : Int)) := by
  simp [worthsN, List.range_succ]
theorem worthsN_len (ls os : List Int) (i : Nat) : (worthsN ls os i).length = 8 := by
  induction i with
  | zero => rfl
  | succ i ih => rw [worthsN_succ, worthStep]; split <;> simp [ih]
set_option maxHeartbeats 4000000 in
theorem worths_ct {w : World} {dp un : Nat} {gd : Option (List Code)} {fr : Option (List Env)} {s : Shared} {Q E : Value → Shared → Prop}
    (O : Ok w s.heap) (hd : dp + 4 < recursionLimit) {l o : Addr} {us vs : List Value} {ls os : List Int} (hl : s.heap.IsList l us.toArray) (hli : IntsAre us ls) (ho : s.heap.IsList o vs.toArray) (hoi : IntsAre vs os)
    (hz : os.length ≤ 7) (h1 : ∀ k ∈ ls, 0 ≤ k ∧ k < (os.length : Int)) (h2 : ∀ k ∈ os, -1 ≤ k ∧ k ≤ 6)
    (ret : ∀ r ws s', Keeps s s' → s.heap.get? r = none → s'.heap.PlainList r ws.toArray → IntsAre ws (worthsN ls os 7) → Q (.ref r) s') : wpAny (model PG w) (Ar dp un fr gd) (call (.ref 120) [.ref l, .ref o]) Q E s := by
  obtain ⟨X, mean, mg, mb, T⟩ := id O
  refine enter (binds := [(Str.ofString "left", .ref l), (Str.ofString "owners", .ref o)]) X T (by k_is) (by k_is) (by ktr_room) (BindsTo.of_eq rfl) (locs rfl) ?_ (by decide) rfl rfl rfl
  intro L h' tk F' N'
  (try dsimp only); (try k_fold)
  k_steps
  refine iter_down [] (fun i m₁ news₁ => ∃ lw ws e, m₁ (Str.ofString "left") = some (.ref l) ∧ m₁ (Str.ofString "owners") = some (.ref o) ∧ m₁ (Str.ofString "worths") = some (.ref lw) ∧ news₁ = [(lw, W.listOf ws.toArray e)] ∧ IntsAre ws (worthsN ls os i))
    rfl (by assumption) (by omega) (by assumption) (by assumption) (by intro p hp; rw [List.mem_singleton.mp hp]; rfl) ⟨_, _, _, rfl, rfl, rfl, rfl, by repeat constructor⟩ ?_ ?_
  · rintro i tk₀ m₁ news₁ h tk I oI hi ⟨lw, ws, e, e1, e2, e3, rfl, e4⟩ hnI hoff F N
    rw [← upd_self e1, ← upd_self e2, ← upd_self e3] at F
    simp only [List.nil_append] at N
    have hne := @neN lw I (hoff _ (List.mem_singleton.mpr rfl))
    have hwl := worthsN_len ls os i
    by_cases hin : ls.any (· == (6 - (i : Int))) = true
    · have hm : (6 - (i : Int)) ∈ ls := by
        obtain ⟨k, hk, e⟩ := List.any_eq_true.mp hin
        rw [eq_of_beq e] at hk; exact hk
      have hb := h1 _ hm
      have hb2 : -1 ≤ os.getD (6 - (i : Int)).toNat 0 ∧ os.getD (6 - (i : Int)).toNat 0 ≤ 6 := by
        refine h2 _ ?_
        have hlt : (6 - (i : Int)).toNat < os.length := by omega
        rw [List.getD_eq_getElem?_getD, List.getElem?_eq_getElem hlt]
        exact List.getElem_mem hlt
      k_steps
      refine ⟨_, _, _, [_], rfl, by assumption, by assumption, by intro p hp; rw [List.mem_singleton.mp hp]; rfl, _, _, _, rfl, rfl, rfl, rfl, ?_⟩
      rw [worthsN_succ, worthStep, if_pos hin]
      assumption
    · k_steps
      refine ⟨_, _, _, [_], rfl, by assumption, by assumption, by intro p hp; rw [List.mem_singleton.mp hp]; rfl, _, _, _, rfl, rfl, rfl, rfl, ?_⟩
      rw [worthsN_succ, worthStep, if_neg hin]
      assumption
  · rintro m₁ news₁ h tk ⟨lw, ws, e, e1, e2, e3, rfl, e4⟩ F N
    rw [← upd_self e1, ← upd_self e2, ← upd_self e3] at F
    simp only [List.nil_append] at N
    k_steps
    exact ret lw ws _ ⟨_, _, rfl, Fr.keep (by assumption)⟩ (N _ List.mem_cons_self).2.2 ⟨e, (N _ List.mem_cons_self).1⟩ e4

theorem fillC6 : True := by
  w_top off
  trivial
local macro_rules | `(tactic| walk_at "eval ListComp") => `(tactic| ((with_reducible show wpAny _ _ (eval (Expr.ListComp _ _ _ _) _) _ _ _); refine stop ?_))
local macro_rules | `(tactic| walk_at "exec Assign cons ListComp") => `(tactic| ((with_reducible show wpAny _ _ (exec (Stmt.Assign _ (Expr.ListComp _ _ _ _) _) _) _ _ _); refine stop ?_))
local macro_rules | `(tactic| walk_at "eval Name") => `(tactic| ((with_reducible show wpAny _ _ (eval (Expr.Name _ _) (compEnvC _ _ _ _)) _ _ _); first | (with_unfolding_all (refine name_cel (by k_asm) (by rfl) (by assumption) ?_ (by rfl) (by rfl) (by rfl))) | (with_unfolding_all (refine name_loc (by k_asm) (by assumption) ?_ (by rfl) (by rfl) (by rfl)))))
local macro_rules | `(tactic| walk_at "subscriptTail") => `(tactic| ((with_reducible show wpAny _ _ (subscriptTail _ _ (Value.ref _) (Value.int _ _)) _ _ _); refine' item_here ?k1 ?k2 ?k3 ?k4 ?k5 ?_ ?k7; (case k1 => with_reducible assumption); (case k2 => with_reducible assumption); (case k3 => omega); (case k4 => omega); (case k5 => omega); (case k7 => with_unfolding_all rfl); intro tk9))
def goneStep (os gs : List Int) (k : Int) : List Int := if gs.any (· == os.getD k.toNat 0) then gs ++ [k] else gs
def goneF (os : List Int) (pl : Int) (ls : List Int) : List Int := ls.foldl (goneStep os) [pl]
theorem goneF_len (os : List Int) (pl : Int) : ∀ ls : List Int, (goneF os pl ls).length ≤ ls.length + 1 := by
  intro ls
  have : ∀ (ls gs : List Int), (ls.foldl (goneStep os) gs).length ≤ ls.length + gs.length := by
    intro ls
    induction ls with
    | nil => intro gs; simp
    | cons k r ih => intro gs; rw [List.foldl_cons]; refine Nat.le_trans (ih _) ?_; unfold goneStep; split <;> simp <;> omega
  exact this ls [pl]
def withoutF (os : List Int) (pl : Int) (ls : List Int) : List Int := ls.filter fun k => !(goneF os pl ls).any (· == k)
set_option maxHeartbeats 4000000 in
theorem without_ct {w : World} {dp un : Nat} {gd : Option (List Code)} {fr : Option (List Env)} {s : Shared} {Q E : Value → Shared → Prop}
    (O : Ok w s.heap) (hd : dp + 4 < recursionLimit) {l o : Addr} {us vs : List Value} {ls os : List Int} (hl : s.heap.IsList l us.toArray) (hli : IntsAre us ls) (ho : s.heap.IsList o vs.toArray) (hoi : IntsAre vs os) {pl : Int} {tp : Tok}
    (hz : os.length ≤ 7) (h1 : ∀ k ∈ ls, 0 ≤ k ∧ k < (os.length : Int)) (hlz : ls.length ≤ 7)
    (ret : ∀ r ws s', Keeps s s' → s.heap.get? r = none → s'.heap.PlainList r ws.toArray → IntsAre ws (withoutF os pl ls) → Q (.ref r) s') : wpAny (model PG w) (Ar dp un fr gd) (call (.ref 130) [.ref l, .ref o, .int pl tp]) Q E s := by
  obtain ⟨X, mean, mg, mb, T⟩ := id O
  refine enterC (binds := [(Str.ofString "left", .ref l), (Str.ofString "owners", .ref o), (Str.ofString "place", .int pl tp)]) X T (by k_is) (by k_is) (by ktr_room) (BindsTo.of_eq rfl) rfl (by decide +kernel) ?_ rfl rfl rfl
  intro L h' tk cells F' N' Y'
  k_cells Y'; (try simp only [List.cons_append, List.nil_append] at N')
  (try dsimp only); (try k_fold)
  k_steps
  rename Obj.data _ = Data.cell _ => d2
  refine iter_list [] (fun i m₁ news₁ => ∃ ws e lg oc, oc.data = Data.cell (some (.ref lg)) ∧ m₁ (Str.ofString "left") = some (.ref l) ∧ m₁ (Str.ofString "owners") = some (.ref o) ∧ news₁ = [(lg, W.listOf ws.toArray e), (L + 1, oc)] ∧ IntsAre ws (goneF os pl (ls.take i)))
    rfl (by assumption) (by assumption) (by assumption) (by assumption) ?_ ⟨_, _, _, _, d2, rfl, rfl, rfl, .cons _ _ .nil⟩ ?_ ?_
  · intro p hp
    rcases List.mem_cons.mp hp with e | hp
    · rw [e]; rfl
    · rw [List.mem_singleton.mp hp]; exact notIter_cell d2
  · rintro i k tk₀ m₁ news₁ h tk I oI hi ⟨ws, e, lg, oc, d3, e1, e2, rfl, e4⟩ hnI hoff F N
    rw [← upd_self e1, ← upd_self e2] at F
    simp only [List.nil_append] at N
    have hne := @neN lg I (hoff _ List.mem_cons_self)
    have hk : k ∈ ls := List.mem_of_getElem? hi
    have hb := h1 k hk
    have hw : ws.length ≤ 16000 := by have := goneF_len os pl (ls.take i); rw [e4.length]; rw [List.length_take] at this; omega
    have hs : ls.take (i + 1) = ls.take i ++ [k] := by rw [List.take_add_one, hi]; rfl
    have hg : goneF os pl (ls.take (i + 1)) = goneStep os (goneF os pl (ls.take i)) k := by rw [hs, goneF, List.foldl_append]; rfl
    have hne2 := ne_cell N (.tail _ (.head _)) (.tail _ (.tail _ (.head _))) d3
    k_steps
    · refine ⟨_, _, _, [_, _], rfl, by assumption, by assumption, ?_, _, _, lg, oc, d3, rfl, rfl, rfl, ?_⟩
      · intro p hp
        rcases List.mem_cons.mp hp with e | hp
        · rw [e]; rfl
        · rw [List.mem_singleton.mp hp]; exact notIter_cell d3
      · rw [hg, goneStep, if_pos (by assumption)]
        exact e4.append (.cons _ _ .nil)
    · refine ⟨_, _, _, [_, _], rfl, by assumption, by assumption, ?_, _, _, lg, oc, d3, rfl, rfl, rfl, ?_⟩
      · intro p hp
        rcases List.mem_cons.mp hp with e | hp
        · rw [e]; rfl
        · rw [List.mem_singleton.mp hp]; exact notIter_cell d3
      · rw [hg, goneStep, if_neg (by rw [Bool.not_eq_true]; assumption)]
        exact e4
  · rintro m₁ news₁ h tk ⟨ws, e, lg, oc, d3, e1, e2, rfl, e4⟩ F N
    rw [← upd_self e1, ← upd_self e2] at F
    simp only [List.nil_append] at N
    rw [List.take_length] at e4
    k_steps
    refine comp_eval (by with_unfolding_all rfl) (by rfl) (by decide) ?_ (by intro _; rfl)
    k_steps
    rename News _ _ _ _ => N3
    rename Fr _ _ _ _ => F3
    have c1 := cell_of_news N3 (.tail _ (.head _)) d3
    have hg := News.isList N3 (.head _)
    refine ⟨_, _, fun i => !(goneF os pl ls).any (· == ls.getD i 0), fun i y fr => fr = [] ∧ ∃ t, y = .int (ls.getD i 0) t, SrcOk.list rfl (F3.lst hl), by rw [sizeLine_eq, hli.length]; omega, TgOk.loc (by rfl) (by rfl) (fun _ => rfl) (fun _ => rfl) ?_ ?_, ?_⟩
    · intro C j v' h3 tk3 m3 E3 hj hP F4 hm N4
      obtain ⟨t4, hv4⟩ := hli.get j (ls.getD j 0) (by rw [List.getD_eq_getElem?_getD, List.getElem?_eq_getElem (by rw [← hli.length]; exact hj)]; rfl)
      rw [hv4] at hP
      cases hP
      k_steps
      all_goals exact ⟨_, _, rfl, fun _ _ e => e⟩
    · intro C j v' h3 tk3 m3 E3 hj hP hq F4 hm N4
      obtain ⟨t4, hv4⟩ := hli.get j (ls.getD j 0) (by rw [List.getD_eq_getElem?_getD, List.getElem?_eq_getElem (by rw [← hli.length]; exact hj)]; rfl)
      rw [hv4] at hP
      cases hP
      exact name_loc F4 hm ⟨⟨[], (fun q hq => nomatch hq), rfl, _, rfl⟩, _, _, rfl, fun _ _ e => e⟩ (by rfl) (by rfl) (by rfl)
    · intro D ys h3 tk3 hE hD hL hPd
      have hI := ints_of_paired hPd
      rw [hli.length, range_filter_map ls fun k => !(goneF os pl ls).any (· == k)] at hI
      have F5 := hE.fr F3
      have hD0 : s.heap.get? D = none := by
        cases e : s.heap.get? D with
        | none => rfl
        | some o' => rw [F3.keep _ _ e] at hD; cases hD
      k_steps
      exact ret D ys.toList _ ⟨_, _, rfl, F5.keep⟩ hD0 hL hI

theorem fillC7 : True := by
  w_top off
  trivial
def rowPick (ls os ws : List Int) (place bit : Int) : List Int := ls.filter fun k => os.getD k.toNat 0 == place && ((ws.getD k.toNat 0 + 1).fdiv bit).fmod 2 == 1
def bitOf (change : Int) : Int := 2 ^ ((Builtin.Int.intBits change : Int) - 1).toNat
def ownRowF (ls os ws : List Int) : Nat → Int → Int → Option Int
  | 0, place, _ => some place
  | f + 1, place, change => if 0 < change ∧ change < 1024 then
      match rowPick ls os ws place (bitOf change) with
      | [] => none
      | p :: _ => if Builtin.bitXor (ws.getD p.toNat 0 + 1) change = 0 then some p else ownRowF ls os ws f p (Builtin.bitXor (ws.getD p.toNat 0) (Builtin.bitXor (ws.getD p.toNat 0 + 1) change - 1))
    else none
theorem intBits_small {c : Int} (h : 0 < c ∧ c < 1024) : 1 ≤ Builtin.Int.intBits c ∧ Builtin.Int.intBits c ≤ 10 := by
  unfold Builtin.Int.intBits
  rw [if_neg (by simp; omega)]
  have : c.natAbs.log2 < 10 := (Nat.log2_lt (by omega)).mpr (by omega)
  omega
theorem four_cells {a b c d : Addr} {o1 o2 o3 o4 : Obj} {v1 v2 v3 v4 : Option Value} (h1 : o1.data = .cell v1) (h2 : o2.data = .cell v2) (h3 : o3.data = .cell v3) (h4 : o4.data = .cell v4) : ∀ p ∈ [(a, o1), (b, o2), (c, o3), (d, o4)], notIter p.2 = true := by
  intro p hp
  simp only [List.mem_cons, List.not_mem_nil, or_false] at hp
  rcases hp with e | e | e | e <;> rw [e]
  · exact notIter_cell h1
  · exact notIter_cell h2
  · exact notIter_cell h3
  · exact notIter_cell h4
set_option maxHeartbeats 4000000 in
theorem own_row_ct {w : World} {dp un : Nat} {gd : Option (List Code)} {fr : Option (List Env)} {s : Shared} {Q E : Value → Shared → Prop}
    (O : Ok w s.heap) (hd : dp + 6 < recursionLimit) {l o v : Addr} {us vs xs : List Value} {ls os ws : List Int} (hl : s.heap.IsList l us.toArray) (hli : IntsAre us ls) (ho : s.heap.IsList o vs.toArray) (hoi : IntsAre vs os) (hv : s.heap.IsList v xs.toArray) (hvi : IntsAre xs ws)
    (hz : os.length ≤ 7) (hlz : ls.length ≤ 7) (hwz : ws.length = 8) (h1 : ∀ k ∈ ls, 0 ≤ k ∧ k < (os.length : Int)) {r : Int} (hr : ownRowF ls os ws 7 (-1) (ws.getD 7 0) = some r)
    (ret : ∀ t s', Keeps s s' → Q (.int r t) s') : wpAny (model PG w) (Ar dp un fr gd) (call (.ref 125) [.ref l, .ref o, .ref v]) Q E s := by
  obtain ⟨X, mean, mg, mb, T⟩ := id O
  refine enterC (binds := [(Str.ofString "left", .ref l), (Str.ofString "owners", .ref o), (Str.ofString "worths", .ref v)]) X T (by k_is) (by k_is) (by ktr_room) (BindsTo.of_eq rfl) rfl (by decide +kernel) ?_ rfl rfl rfl
  intro L h' tk cells F' N' Y'
  k_cells Y'; (try simp only [List.cons_append, List.nil_append] at N')
  (try dsimp only); (try k_fold)
  k_steps
  rename News _ _ _ _ => N2
  have hw7 : ws.getD (-1 + (ws.length : Int)).toNat 0 = ws.getD 7 0 := by rw [hwz]; rfl
  refine iter_up [] (fun i m₁ news₁ => ∃ ob op ow oo pl chg t₁ t₂ vb, ob.data = Data.cell vb ∧ op.data = Data.cell (some (.int pl t₂)) ∧ ow.data = Data.cell (some (.ref v)) ∧ oo.data = Data.cell (some (.ref o)) ∧ m₁ (Str.ofString "left") = some (.ref l) ∧ m₁ (Str.ofString "change") = some (.int chg t₁) ∧ news₁ = [(L + 1 + 1 + 1 + 1, ob), (L + 1 + 1 + 1, op), (L + 1 + 1, ow), (L + 1, oo)] ∧ ownRowF ls os ws (7 - i) pl chg = some r)
    rfl (by assumption) (by omega) (by assumption) (fun p hp => N2 p (List.mem_cons_of_mem _ hp)) ?_ ⟨_, _, _, _, -1, _, _, _, _, by assumption, by assumption, by assumption, by assumption, rfl, rfl, rfl, by rw [hw7]; exact hr⟩ ?_ ?_
  · exact four_cells (by assumption) (by assumption) (by assumption) (by assumption)
  · rintro i tk₀ m₁ news₁ h tk I oI hi ⟨ob, op, ow, oo, pl, chg, t₁, t₂, vb, d1, d2, d3, d4, e1, e2, rfl, hrow⟩ hnI hoff F N
    rw [← upd_self e1, ← upd_self e2] at F
    simp only [List.nil_append] at N
    rw [show 7 - i = (7 - (i + 1)) + 1 by omega, ownRowF] at hrow
    split at hrow
    case isFalse => cases hrow
    rename_i hch
    cases hp : rowPick ls os ws pl (bitOf chg) with
    | nil => rw [hp] at hrow; cases hrow
    | cons p rest =>
      rw [hp] at hrow
      dsimp only at hrow
      have q1 := @neN (L + 1 + 1 + 1 + 1) I (hoff _ (.head _))
      have q2 := @neN (L + 1 + 1 + 1) I (hoff _ (.tail _ (.head _)))
      have q3 := @neN (L + 1 + 1) I (hoff _ (.tail _ (.tail _ (.head _))))
      have q4 := @neN (L + 1) I (hoff _ (.tail _ (.tail _ (.tail _ (.head _)))))
      have hbits := intBits_small hch
      have hbit : (0 : Int) < 2 ^ ((Builtin.Int.intBits chg : Int) - 1).toNat := Int.pow_pos (by decide)
      k_steps
      with_unfolding_all (refine hb_ct (Ok.ext O (Fr.keep (by k_asm))) (by ktr_room) ?_)
      rintro t9 s9 ⟨h9, tk9, e9, k9⟩; subst e9; have F9 := Ext.fr k9 (by k_asm); have N9 := Ext.news k9 (by k_asm); (try dsimp only)
      k_steps
      refine comp_eval (by with_unfolding_all rfl) (by rfl) (by decide) ?_ (by intro _; rfl)
      k_steps
      rename News _ _ _ _ => N3
      rename Fr _ _ _ _ => F3
      have c1 := cell_of_news N3 (.tail _ (.head _)) (by assumption)
      have c2 := cell_of_news N3 (.tail _ (.tail _ (.head _))) (by assumption)
      have c3 := cell_of_news N3 (.tail _ (.tail _ (.tail _ (.head _)))) (by assumption)
      have c4 := cell_of_news N3 (.tail _ (.tail _ (.tail _ (.tail _ (.head _))))) (by assumption)
      have ho3 := F3.lst ho
      have hv3 := F3.lst hv
      refine ⟨_, _, fun i => os.getD (ls.getD i 0).toNat 0 == pl && ((ws.getD (ls.getD i 0).toNat 0 + 1).fdiv (bitOf chg)).fmod 2 == 1, fun i y fr => fr = [] ∧ ∃ t, y = .int (ls.getD i 0) t, SrcOk.list rfl (F3.lst hl), by rw [sizeLine_eq, hli.length]; omega, TgOk.loc (by rfl) (by rfl) (fun _ => rfl) (fun _ => rfl) ?_ ?_, ?_⟩
      · intro C j v' h3 tk3 m3 E3 hj hP F4 hm N4
        obtain ⟨t4, hv4⟩ := hli.get j (ls.getD j 0) (by rw [List.getD_eq_getElem?_getD, List.getElem?_eq_getElem (by rw [← hli.length]; exact hj)]; rfl)
        rw [hv4] at hP
        cases hP
        have hb := h1 (ls.getD j 0) (by rw [List.getD_eq_getElem?_getD, List.getElem?_eq_getElem (by rw [← hli.length]; exact hj)]; exact List.getElem_mem _)
        k_steps
        · symm; rw [Bool.and_eq_true]; exact ⟨beq_iff_eq.mpr (by assumption), beq_iff_eq.mpr (by assumption)⟩
        · exact ⟨_, _, rfl, fun _ _ e => e⟩
        · symm; rw [Bool.and_eq_false_iff]; exact .inr (beq_eq_false_iff_ne.mpr (by assumption))
        · exact ⟨_, _, rfl, fun _ _ e => e⟩
        · symm; rw [Bool.and_eq_false_iff]; exact .inl (beq_eq_false_iff_ne.mpr (by assumption))
        · exact ⟨_, _, rfl, fun _ _ e => e⟩
      · intro C j v' h3 tk3 m3 E3 hj hP hq F4 hm N4
        obtain ⟨t4, hv4⟩ := hli.get j (ls.getD j 0) (by rw [List.getD_eq_getElem?_getD, List.getElem?_eq_getElem (by rw [← hli.length]; exact hj)]; rfl)
        rw [hv4] at hP
        cases hP
        refine name_loc F4 hm ⟨⟨[], (fun q hq => nomatch hq), rfl, _, rfl⟩, _, _, rfl, fun _ _ e => e⟩ (by rfl) (by rfl) (by rfl)
      · intro D ys h3 tk3 hE hD hL hPd
        have F5 := hE.fr F3
        have N5 := hE.news N3
        have hI := ints_of_paired hPd
        rw [hli.length, range_filter_map ls fun k => os.getD k.toNat 0 == pl && ((ws.getD k.toNat 0 + 1).fdiv (bitOf chg)).fmod 2 == 1] at hI
        change IntsAre _ (rowPick ls os ws pl (bitOf chg)) at hI
        rw [hp] at hI
        have hL2 : h3.IsList D ys.toList.toArray := by rw [Array.toArray_toList]; exact hL.isList
        have hpz : (p :: rest).length ≤ 7 := by
          have := List.length_filter_le (fun k => os.getD k.toNat 0 == pl && ((ws.getD k.toNat 0 + 1).fdiv (bitOf chg)).fmod 2 == 1) ls
          rw [← hp]; exact Nat.le_trans this hlz
        have hpz1 : 1 ≤ (p :: rest).length := by simp
        have hpl : p ∈ ls := by
          have : p ∈ rowPick ls os ws pl (bitOf chg) := by rw [hp]; exact List.mem_cons_self
          exact (List.mem_filter.mp this).1
        have hpb := h1 p hpl
        have he : (p :: rest).getD (0 : Int).toNat 0 = p := rfl
        k_steps
        · rw [if_pos (by assumption)] at hrow
          cases hrow
          exact ret _ _ ⟨_, _, rfl, Fr.keep (by assumption)⟩
        · rw [if_neg (by assumption)] at hrow
          refine ⟨_, _, _, [_, _, _, _], rfl, by assumption, by assumption, ?_, _, _, _, _, p, _, _, _, _, by assumption, by assumption, by assumption, by assumption, rfl, rfl, rfl, hrow⟩
          exact four_cells (by assumption) (by assumption) (by assumption) (by assumption)
  · rintro m₁ news₁ h tk ⟨ob, op, ow, oo, pl, chg, t₁, t₂, vb, d1, d2, d3, d4, e1, e2, rfl, hrow⟩ F N
    rw [← upd_self e1, ← upd_self e2] at F
    simp only [List.nil_append] at N
    k_steps
    cases (show some pl = some r from hrow)
    exact ret _ _ ⟨_, _, rfl, Fr.keep (by assumption)⟩

theorem fillC8 : True := by
  w_top off
  trivial
/-- a list of lists of ints -/
def ListsAt (h : Heap) (l : Addr) (css : List (List Int)) : Prop := ∃ rs : List Addr, h.IsList l (rs.map Value.ref).toArray ∧ rs.length = css.length ∧ ∀ i, i < css.length → ∃ vs, h.IsList (rs.getD i 0) vs.toArray ∧ IntsAre vs (css.getD i [])
theorem item_refs {prog : Program} {w : World} {A : Around} {E Q : Value → Shared → Prop} {s : Shared} {h₀ : Heap} {L : Addr} {m : Str → Option Value} {value slice : PySem.Expr} {l : Addr} {rs : List Addr} {k : Int} {u : Tok} (F : Fr h₀ L s.heap m) (ht : h₀.IsList l (rs.map Value.ref).toArray) (h0 : 0 ≤ k) (hk : k < (rs.length : Int)) (hz : rs.length ≤ 16384)
    (h : Q (.ref (rs.getD k.toNat 0)) s)
    (hs : subscripted slice false (.ref l) (.int k u) = operate [.ref l, .int k u] (getItem (.ref l) (.int k u)) := by with_unfolding_all rfl) : wpAny (model prog w) A (subscriptTail value slice (.ref l) (.int k u)) Q E s := by
  have hk' : k.toNat < rs.length := by omega
  have hL := F.lst ht
  refine tail_any hL.typeIs slot_list_getitem.lookup (wpAny_getItem_list hL h0 (by omega) (x := .ref (rs.getD k.toNat 0)) ?_ h) hs
  simp [List.getD_eq_getElem?_getD, List.getElem?_eq_getElem hk']
local macro_rules | `(tactic| walk_at "subscriptTail") => `(tactic| ((with_reducible show wpAny _ _ (subscriptTail _ _ (Value.ref _) (Value.int _ _)) _ _ _); refine' item_refs ?k1 ?k2 ?k3 ?k4 ?k5 ?_ ?k7; (case k1 => k_asm); (case k2 => with_reducible assumption); (case k3 => omega); (case k4 => omega); (case k5 => omega); (case k7 => with_unfolding_all rfl)))
local macro_rules | `(tactic| walk_at "exec For") => `(tactic| ((with_reducible show wpAny _ _ (exec (Stmt.For (Expr.Name _ _) _ _ [] _) _) _ _ _); with_unfolding_all (refine For_C (by rfl) ?_)))
local macro_rules | `(tactic| walk_at "compareOp Eq ref ref") => `(tactic| ((with_reducible show wpAny _ _ (compareOp CmpOp.Eq (Value.ref _) (Value.ref _)) _ _ _); refine' eq_intsK ?k1 ?k2 ?k3 ?k4 ?k5 ?_; (case k1 => exact News.isList (by assumption) (by k_mem)); (case k2 => first | with_reducible assumption | exact IntsAre.nil); (case k3 => exact News.isList (by assumption) (by k_mem)); (case k4 => first | with_reducible assumption | exact IntsAre.nil); (case k5 => ktr_units)))
def lessC (css : List (List Int)) (j k : Nat) : Bool := (List.range 6).all fun i => decide ((css.getD j []).getD i 0 < (css.getD k []).getD i 0)
def ownerN (css : List (List Int)) (k : Nat) : Nat → Int
  | 0 => -1
  | j + 1 => if lessC css j k then (j : Int) else ownerN css k j
theorem filt_nil (css : List (List Int)) (j k : Nat) : (((List.range 6).filter fun i => decide ((css.getD k []).getD i 0 ≤ (css.getD j []).getD i 0)).map fun (i : Nat) => (i : Int)) = [] ↔ lessC css j k = true := by
  rw [List.map_eq_nil_iff, List.filter_eq_nil_iff, lessC, List.all_eq_true]
  constructor
  · intro h i hi; have := h i hi; rw [decide_eq_true_eq] at this ⊢; omega
  · intro h i hi; have := h i hi; rw [decide_eq_true_eq] at this ⊢; omega
theorem News.cons {h₀ h : Heap} {L a : Addr} {o : Obj} {news : List (Addr × Obj)} (N : News h₀ L h news) (h1 : h.get? a = some o) (h2 : a ≠ L) (h3 : h₀.get? a = none) : News h₀ L h ((a, o) :: news) := fun p hp => by
  rcases List.mem_cons.mp hp with e | hp
  · rw [e]; exact ⟨h1, h2, h3⟩
  · exact N p hp
set_option maxHeartbeats 4000000 in
theorem owner_ct {w : World} {dp un : Nat} {gd : Option (List Code)} {fr : Option (List Env)} {s : Shared} {Q E : Value → Shared → Prop}
    (O : Ok w s.heap) (hd : dp + 6 < recursionLimit) (hu : un + 200 < cLine) {l : Addr} {css : List (List Int)} (hc : ListsAt s.heap l css) (hz : css.length ≤ 7) (h6 : ∀ i, i < css.length → (css.getD i []).length = 6) {k : Nat} {tk : Tok} (hk : k < css.length)
    (ret : ∀ t s', Keeps s s' → Q (.int (ownerN css k k) t) s') : wpAny (model PG w) (Ar dp un fr gd) (call (.ref 113) [.ref l, .int (k : Int) tk]) Q E s := by
  obtain ⟨X, mean, mg, mb, T⟩ := id O
  obtain ⟨rs, hl, hrl, hrs⟩ := hc
  refine enterC (binds := [(Str.ofString "columns", .ref l), (Str.ofString "k", .int (k : Int) tk)]) X T (by k_is) (by k_is) (by ktr_room) (BindsTo.of_eq rfl) rfl (by decide +kernel) ?_ rfl rfl rfl
  intro L h' tk' cells F' N' Y'
  k_cells Y'; (try simp only [List.cons_append, List.nil_append] at N')
  (try dsimp only); (try k_fold)
  k_steps
  rename News _ _ _ _ => N2
  refine search_down (c := L + 1 + 1 + 1) (fun i => ownerN css k (k - i) = ownerN css k k) rfl (by rfl) (by rfl) (by rfl) (by assumption) (by omega) (by assumption) N2 (by assumption) ?_ rfl ?_ ?_
  · intro p hp
    simp only [List.mem_cons, List.not_mem_nil, or_false] at hp
    rcases hp with e | e <;> rw [e] <;> exact neN (by dsimp only; omega)
  · intro i tk₀ h3 tk3 I oI oc hi hJ hdc F N
    have hik : k - i = (k - i - 1) + 1 := by omega
    have ej : (k : Int) - 1 - (i : Int) = ((k - i - 1 : Nat) : Int) := by omega
    rw [ej] at hdc
    have hi1 : k - (i + 1) = k - i - 1 := by omega
    rw [hi1]
    generalize hj : k - i - 1 = j at hdc hik ej ⊢
    have hjk : j < css.length := by omega
    k_steps
    refine comp_eval (by with_unfolding_all rfl) (by rfl) (by decide) ?_ (by intro _; rfl)
    k_steps
    rename News _ _ _ _ => N3
    rename Fr _ _ _ _ => F3
    have c1 := cell_of_news N3 (.tail _ (.head _)) hdc
    have c2 : Heap.IsCell _ (L + 1 + 1) (some (.int (k : Int) tk)) := cell_of_news N3 (.tail _ (.tail _ (.head _))) (by assumption)
    have c3 : Heap.IsCell _ (L + 1) (some (.ref l)) := cell_of_news N3 (.tail _ (.tail _ (.tail _ (.head _)))) (by assumption)
    obtain ⟨vj, hvj, hij⟩ := hrs j hjk
    obtain ⟨vk, hvk, hik'⟩ := hrs k hk
    have h6j := h6 j hjk
    have h6k := h6 k hk
    have hl3 := F3.lst hl
    have hvj3 := F3.lst hvj
    have hvk3 := F3.lst hvk
    refine ⟨_, _, fun i => decide ((css.getD k []).getD i 0 ≤ (css.getD j []).getD i 0), fun i y fr => fr = [] ∧ ∃ t, y = .int ((i : Nat) : Int) t, SrcOk.range rfl (by assumption) (by omega), by rw [sizeLine_eq]; omega, TgOk.loc (by rfl) (by rfl) (fun _ => rfl) (fun _ => rfl) ?_ ?_, ?_⟩
    · intro C i' v' h4 tk4 m4 E4 hi' hP F4 hm N4
      obtain ⟨t4, rfl⟩ := hP
      rw [Int.zero_add] at hm
      have ejn : ((j : Nat) : Int).toNat = j := by omega
      have ekn : ((k : Nat) : Int).toNat = k := by omega
      k_steps
      exact ⟨_, _, rfl, fun _ _ e => e⟩
    · intro C i' v' h4 tk4 m4 E4 hi' hP hq F4 hm N4
      obtain ⟨t4, rfl⟩ := hP
      rw [Int.zero_add] at hm
      exact name_loc F4 hm ⟨⟨[], (fun q hq => nomatch hq), rfl, _, rfl⟩, _, _, rfl, fun _ _ e => e⟩ (by rfl) (by rfl) (by rfl)
    · intro D ys h4 tk4 hE hD hL hPd
      have F5 := hE.fr F3
      have N5 := hE.news N3
      obtain ⟨ys⟩ := ys
      obtain ⟨nD, hoD⟩ := hL
      have hI := ints_of_paired hPd
      have hD0 : s.heap.get? D = none := by
        cases e : s.heap.get? D with
        | none => rfl
        | some o' => rw [F3.keep _ _ e] at hD; cases hD
      have hDL : D ≠ L := by
        obtain ⟨oL, _, _, hoL, _⟩ := F3.ns
        rintro rfl; rw [hoL] at hD; cases hD
      have N6 := News.cons N5 (o := W.listOf ys.toArray nD) hoD hDL hD0
      have hfl := filt_nil css j k
      k_steps
      · have hle : lessC css j k = true := hfl.mp (of_decide_eq_true (by assumption))
        rw [hik, ownerN, if_pos hle] at hJ
        rw [← hJ] at ret
        exact ret _ _ ⟨_, _, rfl, Fr.keep (by assumption)⟩
      · have hle : ¬ lessC css j k = true := fun q => absurd (hfl.mpr q) (of_decide_eq_false (by assumption))
        rw [hik, ownerN, if_neg hle] at hJ
        rename News _ _ _ _ => N7
        exact ⟨_, _, rfl, by assumption, fun p hp => N7 p (.tail _ (.tail _ hp)), hJ⟩
  · intro h3 tk3 oc hJ F N
    k_steps
    have e0 : k - ((k : Int) - 1 - -1).toNat = 0 := by omega
    rw [e0] at hJ
    rw [← hJ] at ret
    exact ret _ _ ⟨_, _, rfl, Fr.keep (by assumption)⟩

theorem fillC9 : True := by
  w_top off
  trivial
section
variable {prog : Program} {w : World} {A : Around} {s : Shared} {K : Frag} {p : Program} {loose : List Str} {mean : ExcName → Option Value} {mg mb : Str → Option Value}
  {R : Result → Shared → Prop} {name qual : Str} {params : Arguments} {body : List Stmt} {scope : Scope} {dV kV doc pm cdv ct oc : Value} {an od : Option Addr} {osl : Array (Option Value)} {f : Addr} {args : List Value} {binds : List (Str × Value)} {g : Heap} {news : List (Addr × Obj)}
theorem enterN (hg : Ext g s.heap) (hgs : g.objs.size ≤ s.heap.objs.size) (hn : ∀ q ∈ news, s.heap.get? q.1 = some q.2 ∧ g.get? q.1 = none) (X : K.In s.heap) (T : Top p loose mean mg mb s.heap)
    (ho : K.lookup f = some ⟨oc, od, .func (fnOf name qual params body scope dV kV doc pm an cdv ct), osl⟩) (hcd : codeIn K cdv qual = true) (hroom : A.depth < recursionLimit)
    (hbind : BindsTo s (fnOf name qual params body scope dV kV doc pm an cdv ct) ⟨args, []⟩ binds) (hloc : ∀ y ∈ binds, scope.names.lookup y.1 = some .local)
    (h : ∀ L h₁ tk, Fr g L h₁ (fun y => binds.reverse.lookup y) → News g L h₁ news → (∀ q ∈ news, q.1 < L) →
      wpAny (model prog w) (A.deeper (envOf qual scope L f cdv)) (execs body (envOf qual scope L f cdv))
        (fun fl s' => R (.ok (.ret (match fl with | .ret v => v | _ => .none))) s') (fun _ _ => False) { s with heap := h₁, toks := tk })
    (hcell : ∀ x ∈ scope.names, x.2 ≠ .cell) (hco : scope.isCoroutine = false) (hgen : scope.isGenerator = false) (hk : scope.kind = .function) : codeAny (model prog w) A (.call (.ref f) ⟨args, []⟩) R s := by
  refine codeAny_call_def (fd := fnOf name qual params body scope dV kV doc pm an cdv ct) (body := body) (binds := binds) hroom (X _ _ ho) rfl T.nolimit (codeRec_of X hcd) rfl hbind hcell hloc (fun h₁ hns hk₁ => ?_) hco hgen hk
  refine wpAny_mono (h _ h₁ _ ⟨hns, fun b o e => hk₁ b o (hg b o e), hgs⟩ (fun q hq => ⟨hk₁ _ _ (hn q hq).1, Nat.ne_of_lt (Heap.lt_size (hn q hq).1), (hn q hq).2⟩) fun q hq => Heap.lt_size (hn q hq).1) (fun _ _ q => q) fun _ _ e => e.elim
end
local macro_rules | `(tactic| walk_at "exec For Name Attribute cons nil") => `(tactic| (walk_at "exec For"))
def initStep (q : List Int × Int × Int × Int) (c : Nat) : List Int × Int × Int × Int :=
  if c = 32 then (q.1, q.2.1 + 1, q.2.2.1 + 1, q.2.2.2)
  else
    let cs := if q.2.1 ≥ (q.1.length : Int) then q.1 ++ List.replicate (q.2.1 - (q.1.length : Int) + 1).toNat 0 else q.1
    (cs.set q.2.1.toNat (cs.getD q.2.1.toNat 0 + 1), 0, q.2.2.1 + 1, q.2.2.2 + 1)
def initF (l : List Nat) : List Int × Int × Int × Int := l.foldl initStep ([], 0, 0, 0)
theorem initF_snoc (l : List Nat) (c : Nat) : initF (l ++ [c]) = initStep (initF l) c := by rw [initF, List.foldl_append]; rfl
theorem initF_bound : ∀ l : List Nat, 0 ≤ (initF l).2.1 ∧ (initF l).2.1 ≤ l.length ∧ (initF l).1.length ≤ l.length + 1 := by
  have key : ∀ (l : List Nat) (q : List Int × Int × Int × Int) (k : Nat), 0 ≤ q.2.1 → q.2.1 ≤ k → q.1.length ≤ k + 1 →
      0 ≤ (l.foldl initStep q).2.1 ∧ (l.foldl initStep q).2.1 ≤ ((k + l.length : Nat) : Int) ∧ (l.foldl initStep q).1.length ≤ k + l.length + 1 := by
    intro l
    induction l with
    | nil => intro q k h1 h2 h3; exact ⟨h1, h2, h3⟩
    | cons c r ih =>
      intro q k h1 h2 h3
      have e : k + (c :: r).length = (k + 1) + r.length := by simp; omega
      rw [List.foldl_cons, e]
      refine ih _ (k + 1) ?_ ?_ ?_
      · unfold initStep; split <;> simp <;> omega
      · unfold initStep; split <;> simp <;> omega
      · unfold initStep
        split
        · simp; omega
        · simp only [List.length_set]
          split
          · simp; omega
          · omega
  intro l
  have := key l ([], 0, 0, 0) 0 (by decide) (by decide) (by decide)
  simpa [initF] using this
theorem News.drop2 {h₀ h : Heap} {L : Addr} {a b : Addr × Obj} {r : List (Addr × Obj)} (N : News h₀ L h (a :: b :: r)) : News h₀ L h (a :: r) := fun p hp => by
  rcases List.mem_cons.mp hp with e | hp
  · exact N p (e ▸ List.mem_cons_self)
  · exact N p (List.mem_cons_of_mem _ (List.mem_cons_of_mem _ hp))
theorem no3 {a b c : Addr} {arr : Array Value} {e n : Nat} {C dx : Addr} {es : List DictEntry} : ∀ p ∈ [(a, W.listOf arr e), (b, instObj C dx), (c, dictOf es n)], notIter p.2 = true := by
  intro p hp
  simp only [List.mem_cons, List.not_mem_nil, or_false] at hp
  rcases hp with e | e | e <;> rw [e] <;> rfl
theorem News.sub7 {h₀ h : Heap} {L : Addr} {d a b i c x y : Addr × Obj} (N : News h₀ L h [d, a, b, i, c, x, y]) : News h₀ L h (i :: ([] ++ [d, x, y])) := fun p hp => N p (by
  simp only [List.nil_append, List.mem_cons, List.not_mem_nil, or_false] at hp ⊢
  rcases hp with h | h | h | h <;> simp [h])
theorem ne_inst {h₀ h : Heap} {L a x C dx : Addr} {arr : Array Value} {e : Nat} {news : List (Addr × Obj)} (N : News h₀ L h news) (h1 : (a, W.listOf arr e) ∈ news) (h2 : (x, instObj C dx) ∈ news) : @Ne Nat a x := by
  intro q
  have x1 := (N _ h1).1
  have x2 := (N _ h2).1
  dsimp only at x1 x2
  rw [q, x2] at x1
  have := congrArg Obj.data (Option.some.inj x1)
  cases this
theorem ne_dict {h₀ h : Heap} {L a x : Addr} {arr : Array Value} {e n : Nat} {es : List DictEntry} {news : List (Addr × Obj)} (N : News h₀ L h news) (h1 : (a, W.listOf arr e) ∈ news) (h2 : (x, dictOf es n) ∈ news) : @Ne Nat a x := by
  intro q
  have x1 := (N _ h1).1
  have x2 := (N _ h2).1
  dsimp only at x1 x2
  rw [q, x2] at x1
  have := congrArg Obj.data (Option.some.inj x1)
  cases this
/-- the objects of a Whitespace -/
def WsFrag (fr : List (Addr × Obj)) (y : Value) (cs : List Int) (b n nt : Int) (sm : Bool) : Prop :=
  ∃ x dx tn tc raw us hr hn hnt hno his r0 r1 r2 r3 r4 r5 r6 r7 tb k1 k2, y = .ref x ∧ fr = [(tn, { cls := .type "tuple", data := .seq #[.ref tc, .int b tb] k1 }), (tc, { cls := .type "tuple", data := .seq (us : List Value).toArray k2 }), (x, instObj 83 dx), (dx, dictOf [⟨hr, .str (Str.ofString "raw") r0, .str raw r1⟩, ⟨hn, .str (Str.ofString "n") r2, .int n r3⟩, ⟨hnt, .str (Str.ofString "nt") r4, .int nt r5⟩, ⟨hno, .str (Str.ofString "norm") r6, .ref tn⟩, ⟨his, .str (Str.ofString "is_simple") r7, .bool sm⟩] 5)] ∧ IntsAre us cs
theorem WsFrag.at {fr : List (Addr × Obj)} {y : Value} {cs : List Int} {b n nt : Int} {sm : Bool} {h : Heap} (W : WsFrag fr y cs b n nt sm) (hf : ∀ q ∈ fr, h.get? q.1 = some q.2) : ∃ x, y = .ref x ∧ WsAt h x cs b n nt sm := by
  obtain ⟨x, dx, tn, tc, raw, us, hr, hn, hnt, hno, his, r0, r1, r2, r3, r4, r5, r6, r7, tb, k1, k2, e1, e2, e3⟩ := W
  rw [e2] at hf
  refine ⟨x, e1, dx, tn, tc, raw, us, hr, hn, hnt, hno, his, r0, r1, r2, r3, r4, r5, r6, r7, tb, ⟨?_, rfl, rfl, ?_⟩, ⟨_, hf _ (.head _), rfl, k1, rfl⟩, ⟨_, hf _ (.tail _ (.head _)), rfl, k2, rfl⟩, e3⟩
  · exact hf _ (.tail _ (.tail _ (.head _)))
  · exact hf _ (.tail _ (.tail _ (.tail _ (.head _))))
theorem News.sub6 {h₀ h : Heap} {L : Addr} {a b c d x y : Addr × Obj} (N : News h₀ L h [a, b, c, d, x, y]) : ∀ q ∈ [a, b, x, y], h₀.get? q.1 = none ∧ h.get? q.1 = some q.2 := fun p hp => by
  have : p ∈ [a, b, c, d, x, y] := by
    simp only [List.mem_cons, List.not_mem_nil, or_false] at hp ⊢
    rcases hp with h | h | h | h <;> simp [h]
  exact ⟨(N p this).2.2, (N p this).1⟩
theorem ne_tupd {h₀ h : Heap} {L a x : Addr} {arr : Array Value} {e n : Nat} {es : List DictEntry} {news : List (Addr × Obj)} (N : News h₀ L h news) (h1 : (a, ({ cls := .type "tuple", data := .seq arr e } : Obj)) ∈ news) (h2 : (x, dictOf es n) ∈ news) : @Ne Nat a x := by
  intro q
  have x1 := (N _ h1).1
  have x2 := (N _ h2).1
  dsimp only at x1 x2
  rw [q, x2] at x1
  have := congrArg Obj.data (Option.some.inj x1)
  cases this
set_option maxHeartbeats 4000000 in
theorem make_ct {w : World} {dp un : Nat} {gd : Option (List Code)} {fr : Option (List Env)} {s : Shared} {Q E : Value → Shared → Prop}
    (O : Ok w s.heap) (hd : dp + 6 < recursionLimit) {z : Str} {t : Tok} {l : List Nat} (hz : z.cps.toList = l ++ [120]) (hl : ∀ c ∈ l, c = 32 ∨ c = 9) (hlz : l.length ≤ 7)
    (ret : ∀ y fr s', Keeps s s' → (∀ q ∈ fr, s.heap.get? q.1 = none ∧ s'.heap.get? q.1 = some q.2) → WsFrag fr y (initF l).1 (initF l).2.1 (initF l).2.2.1 (initF l).2.2.2 (decide (((initF l).1.length : Int) ≤ 1)) → Q y s') : wpAny (model PG w) (Ar dp un fr gd) (call (.ref 83) [.str z t]) Q E s := by
  obtain ⟨X, mean, mg, mb, T⟩ := id O
  refine wpAny_call ?_
  have hm : makesIn (Mine.hd.heap_39 w.params) 83 = true := by k_is
  have hi : findIn (Mine.hd.heap_39 w.params) (.ref 83) "__init__" = some (some (.ref 38)) := by k_is
  have hf : isFn (Mine.hd.heap_39 w.params) (.ref 38) = true := by k_is
  have k2 : Ext s.heap ((s.heap.push emptyDict).push (instObj 83 s.heap.objs.size)) := fun b o e => Heap.get?_push_of_some _ (Heap.get?_push_of_some _ e)
  refine make_core (h := s.heap) (makes_of X hm) (looks_findIn X hi) (fun self => bind_fn X self (beq_iff_eq.mp hf)) (.inl rfl) ?_
  refine enterN (g := s.heap) (news := [(s.heap.objs.size + 1, instObj 83 s.heap.objs.size), (s.heap.objs.size, dictOf [] 0)]) (binds := [(Str.ofString "self", .ref (s.heap.objs.size + 1)), (Str.ofString "ws", .str z t)]) k2 (by show s.heap.objs.size ≤ ((s.heap.push emptyDict).push (instObj 83 s.heap.objs.size)).objs.size; rw [Heap.size_push, Heap.size_push]; omega) ?_ (X.keeps k2) (T.keeps k2) (by k_is) (by k_is) (by ktr_room) (BindsTo.of_eq rfl) (locs rfl) ?_ (by decide) rfl rfl rfl
  · intro q hq
    simp only [List.mem_cons, List.not_mem_nil, or_false] at hq
    rcases hq with e | e <;> rw [e]
    · refine ⟨?_, Heap.get?_none_of_le (Nat.le_succ _)⟩
      have := Heap.get?_push_size (o := instObj 83 s.heap.objs.size) (s.heap.push emptyDict) rfl
      rwa [Heap.size_push] at this
    · exact ⟨Heap.get?_push_of_some _ (Heap.get?_push_size _ rfl), Heap.get?_none_of_le (Nat.le_refl _)⟩
  generalize hX : s.heap.objs.size + 1 = x
  generalize hDX : s.heap.objs.size = dx
  intro L h' tk F' N' lt'
  have hlt := @neN dx x (by intro q; have := @eqN _ _ q; have := @eqN _ _ hX; have := @eqN _ _ hDX; omega)
  (try dsimp only); (try k_fold)
  k_steps
  rename News _ _ _ _ => N2
  refine iter_str [] (fun k m₁ news₁ => ∃ lc vs e tb tn tnt hr r0, k ≤ l.length ∧ m₁ (Str.ofString "self") = some (.ref x) ∧ m₁ (Str.ofString "S") = some (.str (Str.ofString " ") 209) ∧ m₁ (Str.ofString "T") = some (.str (Str.ofString "\t") 210) ∧ m₁ (Str.ofString "count") = some (.ref lc) ∧
      m₁ (Str.ofString "b") = some (.int (initF (l.take k)).2.1 tb) ∧ m₁ (Str.ofString "n") = some (.int (initF (l.take k)).2.2.1 tn) ∧ m₁ (Str.ofString "nt") = some (.int (initF (l.take k)).2.2.2 tnt) ∧
      news₁ = [(lc, W.listOf vs.toArray e), (x, instObj 83 dx), (dx, dictOf [⟨hr, .str (Str.ofString "raw") r0, .str z t⟩] 1)] ∧ IntsAre vs (initF (l.take k)).1)
    rfl (by assumption) (News.drop2 N2) no3 ⟨_, _, _, _, _, _, _, _, Nat.zero_le _, rfl, rfl, rfl, rfl, rfl, rfl, rfl, rfl, .nil⟩ ?_ ?_
  · rintro k c tk₀ m₁ news₁ h tk I oI hk ⟨lc, vs, e, tb, tn, tnt, hr, r0, e0, e1, e2, e3, e4, e5, e6, e7, rfl, e8⟩ hnI hoff F N
    rw [← upd_self e1, ← upd_self e2, ← upd_self e3, ← upd_self e4, ← upd_self e5, ← upd_self e6, ← upd_self e7] at F
    simp only [List.nil_append] at N
    have hne := @neN lc I (hoff _ (.head _))
    have hck : (l ++ [120])[k]? = some c := by rw [← hz, Array.getElem?_toList]; exact hk
    obtain ⟨b1, b2, b3⟩ := initF_bound (l.take k)
    have btk : (l.take k).length ≤ 7 := by rw [List.length_take]; omega
    by_cases hkl : k < l.length
    · have hcl : l[k]? = some c := by rwa [List.getElem?_append_left hkl] at hck
      have hs : l.take (k + 1) = l.take k ++ [c] := by rw [List.take_add_one, hcl]; rfl
      rcases hl c (List.mem_of_getElem? hcl) with rfl | rfl
      · have hst : initF (l.take (k + 1)) = ((initF (l.take k)).1, (initF (l.take k)).2.1 + 1, (initF (l.take k)).2.2.1 + 1, (initF (l.take k)).2.2.2) := by rw [hs, initF_snoc]; rfl
        k_steps
        refine ⟨_, _, _, [_, _, _], rfl, by assumption, by assumption, no3, ?_⟩
        rw [hst]
        exact ⟨lc, vs, e, _, _, _, hr, r0, hkl, rfl, rfl, rfl, rfl, rfl, rfl, rfl, rfl, e8⟩
      · have hne1 := ne_inst N (.tail _ (.head _)) (.tail _ (.tail _ (.head _)))
        have hne2 := ne_dict N (.tail _ (.head _)) (.tail _ (.tail _ (.tail _ (.head _))))
        k_steps
        · have hge : (initF (l.take k)).2.1 ≥ ((initF (l.take k)).1.length : Int) := by omega
          have hst : initF (l.take (k + 1)) = (((initF (l.take k)).1 ++ (List.replicate ((initF (l.take k)).2.1 - ((initF (l.take k)).1.length : Int) + 1).toNat [0]).flatten).set (initF (l.take k)).2.1.toNat (0 + 1), 0, (initF (l.take k)).2.2.1 + 1, (initF (l.take k)).2.2.2 + 1) := by
            rw [hs, initF_snoc, initStep, if_neg (by decide), if_pos hge]
            have e1 : (List.replicate ((initF (l.take k)).2.1 - ((initF (l.take k)).1.length : Int) + 1).toNat [(0 : Int)]).flatten = List.replicate ((initF (l.take k)).2.1 - ((initF (l.take k)).1.length : Int) + 1).toNat 0 := by simp
            rw [e1]
            have e2 : ((initF (l.take k)).1 ++ List.replicate ((initF (l.take k)).2.1 - ((initF (l.take k)).1.length : Int) + 1).toNat 0).getD (initF (l.take k)).2.1.toNat 0 = 0 := by
              rw [List.getD_eq_getElem?_getD, List.getElem?_append_right (by omega), List.getElem?_replicate]
              split <;> rfl
            dsimp only
            rw [e2]
          rename News _ _ _ _ => N9
          refine ⟨_, _, _, [_, _, _], rfl, by assumption, News.sub7 N9, no3, ?_⟩
          rw [hst]
          exact ⟨_, _, _, _, _, _, hr, r0, hkl, rfl, rfl, rfl, rfl, rfl, rfl, rfl, rfl, by assumption⟩
        · have hlt2 : ¬ (initF (l.take k)).2.1 ≥ ((initF (l.take k)).1.length : Int) := by omega
          have hix : ix (initF (l.take k)).2.1 (initF (l.take k)).1.length = (initF (l.take k)).2.1.toNat := by unfold ix; rw [if_neg (by omega)]
          have hst : initF (l.take (k + 1)) = ((initF (l.take k)).1.set (ix (initF (l.take k)).2.1 (initF (l.take k)).1.length) ((initF (l.take k)).1.getD (initF (l.take k)).2.1.toNat 0 + 1), 0, (initF (l.take k)).2.2.1 + 1, (initF (l.take k)).2.2.2 + 1) := by
            rw [hix, hs, initF_snoc, initStep, if_neg (by decide), if_neg hlt2]
          refine ⟨_, _, _, [_, _, _], rfl, by assumption, by assumption, no3, ?_⟩
          rw [hst]
          exact ⟨_, _, _, _, _, _, hr, r0, hkl, rfl, rfl, rfl, rfl, rfl, rfl, rfl, rfl, by assumption⟩
    · have hkl' : k = l.length := by omega
      subst hkl'
      have hc : c = 120 := by simpa using hck.symm
      subst hc
      have q1 := @neN x I (hoff _ (.tail _ (.head _)))
      have q2 := @neN dx I (hoff _ (.tail _ (.tail _ (.head _))))
      have hne1 := ne_inst N (.tail _ (.head _)) (.tail _ (.tail _ (.head _)))
      have hne2 := ne_dict N (.tail _ (.head _)) (.tail _ (.tail _ (.tail _ (.head _))))
      k_steps
      show wpAny _ _ _ _ _ _
      k_steps
      rename News _ _ _ _ => N5
      have hne5 := ne_tupd N5 (.tail _ (.head _)) (.tail _ (.tail _ (.tail _ (.tail _ (.tail _ (.head _))))))
      have hvz : vs.length ≤ 16 := by rw [e8.length]; omega
      k_steps
      rename News _ _ _ _ => N6
      rw [List.take_length] at N6 e8
      refine ⟨rfl, ret _ _ _ ⟨_, _, rfl, Fr.keep (by assumption)⟩ (News.sub6 N6) ⟨_, _, _, _, _, _, _, _, _, _, _, _, _, _, _, _, _, _, _, _, _, _, rfl, rfl, e8⟩⟩
  · rintro m₁ news₁ h tk ⟨lc, vs, e, tb, tn, tnt, hr, r0, e0, _⟩ F N
    have : z.cps.size = l.length + 1 := by rw [← Array.length_toList, hz]; simp
    omega

theorem IsCell.ext {h h' : Heap} {a : Addr} {v : Option Value} (x : Ext h h') (c : h.IsCell a v) : h'.IsCell a v := by
  obtain ⟨o, e, d⟩ := c
  exact ⟨o, x _ _ e, d⟩
theorem IsList.ext {h h' : Heap} {a : Addr} {vs : Array Value} (x : Ext h h') (c : h.IsList a vs) : h'.IsList a vs := c.at fun o e => x _ _ e
theorem ints_pick {vs : List Value} {ns : List Int} (h : IntsAre vs ns) : ∀ idx : List Nat, ∃ ms, IntsAre (idx.filterMap (vs.toArray[·]?)) ms ∧ ms.length ≤ idx.length
  | [] => ⟨[], .nil, Nat.le_refl _⟩
  | i :: r => by
    obtain ⟨ms, hm, hz⟩ := ints_pick h r
    cases e : ns[i]? with
    | none =>
      have e1 : vs.toArray[i]? = none := by
        have : ns.length ≤ i := by rcases Nat.lt_or_ge i ns.length with q | q
                                   · rw [List.getElem?_eq_getElem q] at e; cases e
                                   · exact q
        simp [h.length, this]
      exact ⟨ms, by rw [List.filterMap_cons, e1]; exact hm, by simp; omega⟩
    | some k =>
      obtain ⟨t, e1⟩ := h.get i k e
      have e2 : vs.toArray[i]? = some (.int k t) := by simpa using e1
      exact ⟨k :: ms, by rw [List.filterMap_cons, e2]; exact .cons _ _ hm, by simp; omega⟩
theorem ints_slice {vs : List Value} {ns : List Int} (h : IntsAre vs ns) (lo hi st : Option Int) : ∃ xs ms, slicePick vs.toArray lo hi st = List.toArray xs ∧ IntsAre xs ms := by
  obtain ⟨ms, hm, _⟩ := ints_pick h (sliceRange (sliceBounds lo hi st vs.toArray.size).1 (sliceBounds lo hi st vs.toArray.size).2.1 (sliceBounds lo hi st vs.toArray.size).2.2)
  exact ⟨_, ms, rfl, hm⟩
/-- texts of leads -/
def TxAre (ys : List Value) (js : List Nat) : Prop := ys.length = js.length ∧ ∀ i, i < js.length → js.getD i 0 < 36 ∧ ∃ t, ys[i]? = some (.str (tx (js.getD i 0)) t)
theorem paired_ex {α : Type} {h h' : Heap} {F : Nat → Value → List (Addr × Obj) → Prop} {R : Nat → Value → α → Prop} (hF : ∀ i y fr, F i y fr → ∃ a, R i y a) :
    ∀ {is : List Nat} {ys : List Value}, Paired (Made F h h') is ys → ∃ as : List α, as.length = ys.length ∧ is.length = ys.length ∧ ∀ i, i < ys.length → ∃ k y a, is[i]? = some k ∧ ys[i]? = some y ∧ as[i]? = some a ∧ R k y a
  | _, _, .nil => ⟨[], rfl, rfl, fun i hi => absurd hi (Nat.not_lt_zero _)⟩
  | _, _, .cons ⟨fr, _, q⟩ r => by
    obtain ⟨a, ha⟩ := hF _ _ _ q
    obtain ⟨as, h1, h2, h3⟩ := paired_ex hF r
    refine ⟨a :: as, by simp [h1], by simp [h2], fun i hi => ?_⟩
    cases i with
    | zero => exact ⟨_, _, _, rfl, rfl, rfl, ha⟩
    | succ i =>
      obtain ⟨k, y, b, e1, e2, e3, e4⟩ := h3 i (by simp at hi; omega)
      exact ⟨k, y, b, by simpa using e1, by simpa using e2, by simpa using e3, e4⟩
theorem tx_of_paired {h h' : Heap} {is : List Nat} {ys : List Value} (p : Paired (Made (fun _ y fr => fr = [] ∧ ∃ j t, j < 36 ∧ y = .str (tx j) t) h h') is ys) : ∃ js, TxAre ys js ∧ js.length = is.length := by
  obtain ⟨as, h1, h2, h3⟩ := paired_ex (R := fun _ y (j : Nat) => j < 36 ∧ ∃ t, y = .str (tx j) t) (fun i y fr q => by obtain ⟨_, j, t, a, b⟩ := q; exact ⟨j, a, t, b⟩) p
  refine ⟨as, ⟨h1.symm, fun i hi => ?_⟩, by omega⟩
  obtain ⟨k, y, a, _, e2, e3, e4, t, e5⟩ := h3 i (by omega)
  have e : as.getD i 0 = a := by rw [List.getD_eq_getElem?_getD, e3]; rfl
  rw [e]
  exact ⟨e4, t, by rw [e2, e5]⟩
theorem fresh_ne {h : Heap} {a b : Addr} {o : Obj} (ha : h.get? a = none) (hb : h.get? b = some o) : @Ne Nat a b := by
  intro e
  rw [← e, ha] at hb; cases hb
/-- behind a comprehension that is laid in a name -/
theorem asg_next {h₀ h h' : Heap} {L D : Addr} {m m' : Str → Option Value} {news : List (Addr × Obj)} {ys : Array Value} (F : Fr h₀ L h m) (N : News h₀ L h news) (hk : ∀ b o, b ≠ L → h.get? b = some o → h'.get? b = some o) (hD : h.get? D = none) (hl : h'.PlainList D ys) (hn : h'.Ns L m') :
    ∃ n, Fr h₀ L h' m' ∧ News h₀ L h' ((D, W.listOf ys n) :: news) := by
  obtain ⟨n, hl⟩ := hl
  have off : ∀ b o, h₀.get? b = some o → b ≠ L := fun b o e => Nat.ne_of_lt (Nat.lt_of_lt_of_le (Heap.lt_size e) F.above)
  refine ⟨n, ⟨hn, fun b o e => hk b o (off b o e) (F.keep b o e), F.above⟩, fun p hp => ?_⟩
  rcases List.mem_cons.mp hp with e | hp
  · rw [e]
    refine ⟨hl, ?_, ?_⟩
    · obtain ⟨oL, _, _, hoL, _⟩ := F.ns
      dsimp only
      rintro rfl
      rw [hoL] at hD; cases hD
    · cases e : h₀.get? D with
      | none => rfl
      | some o => rw [F.keep _ _ e] at hD; cases hD
  · exact ⟨hk _ _ (N p hp).2.1 (N p hp).1, (N p hp).2⟩
theorem ev_next {h₀ h h' : Heap} {L D : Addr} {m : Str → Option Value} {news : List (Addr × Obj)} {ys : Array Value} (F : Fr h₀ L h m) (N : News h₀ L h news) (hk : Ext h h') (hD : h.get? D = none) (hl : h'.PlainList D ys) :
    ∃ n, Fr h₀ L h' m ∧ News h₀ L h' ((D, W.listOf ys n) :: news) := asg_next F N (fun b o _ e => hk b o e) hD hl (F.ns.at' fun o e => hk _ _ e)

theorem tx_list (j : Nat) : (tx j).cps.toList = List.replicate (j % 3) 32 ++ List.replicate (j / 3 % 3) 9 ++ List.replicate (j / 9 % 4) 32 := rfl
theorem tx_len (j : Nat) : (tx j).cps.toList.length ≤ 7 := by
  rw [tx_list]; simp only [List.length_append, List.length_replicate]; omega
theorem tx_len' (j : Nat) : (tx j).length ≤ 7 := tx_len j
theorem tx_sp (j : Nat) : ∀ c ∈ (tx j).cps.toList, c = 32 ∨ c = 9 := by
  intro c hc
  rw [tx_list] at hc
  simp only [List.mem_append, List.mem_replicate] at hc
  rcases hc with (h | h) | h
  · exact .inl h.2
  · exact .inr h.2
  · exact .inl h.2
theorem tx_x (j : Nat) : (tx j ++ Str.ofString "x").cps.toList = (tx j).cps.toList ++ [120] := by
  have e : Str.ofString "x" = ⟨#[120]⟩ := by decide +kernel
  rw [e]
  show (Str.append _ _).cps.toList = _
  simp [Str.append]
theorem x_len : (Str.ofString "x").length ≤ 1 := by decide +kernel
/-- the parts of a lead's object -/
def wsj (j : Nat) : List Int × Int × Int × Int := initF (tx j).cps.toList
def WsJ (fr : List (Addr × Obj)) (y : Value) (j : Nat) : Prop := WsFrag fr y (wsj j).1 (wsj j).2.1 (wsj j).2.2.1 (wsj j).2.2.2 (decide (((wsj j).1.length : Int) ≤ 1))
def WsIs (h : Heap) (x : Addr) (j : Nat) : Prop := WsAt h x (wsj j).1 (wsj j).2.1 (wsj j).2.2.1 (wsj j).2.2.2 (decide (((wsj j).1.length : Int) ≤ 1))
theorem frags_of {h h' : Heap} {F : Nat → Value → List (Addr × Obj) → Prop} : ∀ {is : List Nat} {ys : List Value}, Paired (Made F h h') is ys →
    ∃ all : List (Addr × Obj), (∀ q ∈ all, h.get? q.1 = none ∧ h'.get? q.1 = some q.2) ∧ is.length = ys.length ∧ ∀ i, i < ys.length → ∃ k y fr, is[i]? = some k ∧ ys[i]? = some y ∧ (∀ q ∈ fr, q ∈ all) ∧ F k y fr
  | _, _, .nil => ⟨[], (by intro q hq; cases hq), rfl, fun i hi => absurd hi (Nat.not_lt_zero _)⟩
  | _, _, .cons ⟨fr, hfr, q⟩ r => by
    obtain ⟨all, h1, h2, h3⟩ := frags_of r
    refine ⟨fr ++ all, fun q hq => ?_, by simp [h2], fun i hi => ?_⟩
    · rcases List.mem_append.mp hq with hq | hq
      · exact hfr q hq
      · exact h1 q hq
    · cases i with
      | zero => exact ⟨_, _, fr, rfl, rfl, fun q hq => List.mem_append_left _ hq, q⟩
      | succ i =>
        obtain ⟨k, y, fr', e1, e2, e3, e4⟩ := h3 i (by simp at hi; omega)
        exact ⟨k, y, fr', by simpa using e1, by simpa using e2, fun q hq => List.mem_append_right _ (e3 q hq), e4⟩
/-- behind a comprehension whose items are made objects -/
theorem asg_more {h₀ h h' : Heap} {L : Addr} {m : Str → Option Value} {all : List (Addr × Obj)} (F : Fr h₀ L h m) (ha : ∀ q ∈ all, h.get? q.1 = none ∧ h'.get? q.1 = some q.2) : News h₀ L h' all := by
  intro q hq
  obtain ⟨a1, a2⟩ := ha q hq
  refine ⟨a2, ?_, ?_⟩
  · obtain ⟨oL, _, _, hoL, _⟩ := F.ns
    intro e
    rw [e, hoL] at a1; cases a1
  · cases e : h₀.get? q.1 with
    | none => rfl
    | some o => rw [F.keep _ _ e] at a1; cases a1
theorem News.app {h₀ h : Heap} {L : Addr} {a b : List (Addr × Obj)} (N : News h₀ L h a) (N2 : News h₀ L h b) : News h₀ L h (a ++ b) := fun q hq => by
  rcases List.mem_append.mp hq with hq | hq
  · exact N q hq
  · exact N2 q hq
theorem filt_true {α : Type} (l : List α) : (l.filter fun _ => true) = l := List.filter_eq_self.mpr fun _ _ => rfl
theorem getD_range (n i : Nat) (h : i < n) : ((List.range n).filter fun _ => true)[i]? = some i := by
  rw [filt_true]; simp [h]
/-- the leads' objects -/
theorem leads_of {h h' : Heap} {n : Nat} {js : List Nat} {ys : List Value} (p : Paired (Made (fun i y fr => WsJ fr y (js.getD i 0)) h h') ((List.range n).filter fun _ => true) ys) :
    ∃ (all : List (Addr × Obj)) (rs : List Addr), (∀ q ∈ all, h.get? q.1 = none ∧ h'.get? q.1 = some q.2) ∧ ys = rs.map Value.ref ∧ rs.length = n ∧ ∀ h'' : Heap, (∀ q ∈ all, h''.get? q.1 = some q.2) → ∀ i, i < n → WsIs h'' (rs.getD i 0) (js.getD i 0) := by
  obtain ⟨all, h1, h2, h3⟩ := frags_of p
  have hn : ys.length = n := by rw [← h2, filt_true]; simp
  have key : ∀ ys : List Value, (∀ i, i < ys.length → ∃ x, ys[i]? = some (Value.ref x)) → ∃ rs : List Addr, ys = rs.map Value.ref := by
    intro ys
    induction ys with
    | nil => intro _; exact ⟨[], rfl⟩
    | cons y r ih =>
      intro h
      obtain ⟨x, hx⟩ := h 0 (by simp)
      obtain ⟨rs, hr⟩ := ih fun i hi => by
        obtain ⟨x, hx⟩ := h (i + 1) (by simp; omega)
        exact ⟨x, by simpa using hx⟩
      refine ⟨x :: rs, ?_⟩
      simp only [List.getElem?_cons_zero, Option.some.injEq] at hx
      rw [hx, hr]; rfl
  obtain ⟨rs, hrs⟩ := key ys fun i hi => by
    obtain ⟨k, y, fr, _, e2, _, e4⟩ := h3 i hi
    obtain ⟨x, _, _, _, _, _, _, _, _, _, _, _, _, _, _, _, _, _, _, _, _, _, e5, _⟩ := e4
    exact ⟨x, by rw [e2, e5]⟩
  have hrl : rs.length = n := by rw [← hn, hrs]; simp
  refine ⟨all, rs, h1, hrs, hrl, fun h'' hall i hi => ?_⟩
  obtain ⟨k, y, fr, e1, e2, e3, e4⟩ := h3 i (by omega)
  rw [getD_range n i hi] at e1
  cases e1
  obtain ⟨x, e5, e6⟩ := WsFrag.at e4 (fun q hq => hall q (e3 q hq))
  have : rs.getD i 0 = x := by
    rw [hrs, e5] at e2
    rw [List.getD_eq_getElem?_getD]
    simp only [List.getElem?_map] at e2
    cases q : rs[i]? with
    | none => rw [q] at e2; cases e2
    | some x' => rw [q] at e2; cases e2; rfl
  rw [this]
  exact e6

theorem wsj_bound : ∀ j, j < 36 → (wsj j).1.length ≤ 3 ∧ 0 ≤ (wsj j).2.1 ∧ (wsj j).2.1 ≤ 5 := by decide +kernel
theorem WsIs.ext {h h' : Heap} {x : Addr} {j : Nat} (W : WsIs h x j) (k : Ext h h') : WsIs h' x j := WsAt.ext W k
def lessJ (a b : Nat) : Bool := lessF (wsj a).1 (wsj a).2.1 (wsj a).2.2.1 (wsj a).2.2.2 (decide (((wsj a).1.length : Int) ≤ 1)) (wsj b).1 (wsj b).2.1 (wsj b).2.2.1 (wsj b).2.2.2 (decide (((wsj b).1.length : Int) ≤ 1))
theorem less_ctJ {w : World} {dp un : Nat} {gd : Option (List Code)} {fr : Option (List Env)} {s : Shared} {Q E : Value → Shared → Prop}
    (O : Ok w s.heap) (hd : dp + 6 < recursionLimit) {x y : Addr} {a b : Nat} (W₁ : WsIs s.heap x a) (W₂ : WsIs s.heap y b) (ha : a < 36) (hb : b < 36)
    (ret : ∀ s', Keeps s s' → Q (.bool (lessJ a b)) s') : wpAny (model PG w) (Ar dp un fr gd) (call (.ref 73) [.ref x, .ref y]) Q E s :=
  less_ct O hd W₁ W₂ (wsj_bound a ha).1 (wsj_bound b hb).1 (wsj_bound a ha).2 (wsj_bound b hb).2 ret
/-- the greatest place below n that q takes, or -1 -/
def ownQ (q : Nat → Bool) : Nat → Int
  | 0 => -1
  | j + 1 => if q j then (j : Int) else ownQ q j
theorem own_max (q : Nat → Bool) : ∀ (n : Nat) (M : Int), M ∈ [(-1 : Int)] ++ ((List.range n).filter q).map (fun i => ((i : Nat) : Int)) → (∀ a ∈ [(-1 : Int)] ++ ((List.range n).filter q).map (fun i => ((i : Nat) : Int)), a ≤ M) → M = ownQ q n
  | 0, M, h1, _ => by rw [ownQ]; simpa using h1
  | n + 1, M, h1, h2 => by
    rw [List.range_succ, List.filter_append] at h1 h2
    by_cases hq : q n = true
    · have e : ([n].filter q) = [n] := by simp [hq]
      rw [e] at h1 h2
      rw [ownQ, if_pos hq]
      have a1 := h2 n (by simp)
      have a2 : M ≤ n := by
        simp only [List.map_append, List.mem_append, List.mem_map, List.mem_filter, List.mem_range, List.mem_cons, List.not_mem_nil, or_false] at h1
        rcases h1 with h1 | ⟨a, ⟨h1, _⟩, rfl⟩ | ⟨a, rfl, rfl⟩
        · omega
        · omega
        · omega
      omega
    · have e : ([n].filter q) = [] := by simp [hq]
      rw [e, List.append_nil] at h1 h2
      rw [ownQ, if_neg hq]
      exact own_max q n M h1 h2
def ownL (js : List Nat) (i : Nat) : Int := ownQ (fun j => lessJ (js.getD j 0) (js.getD i 0)) i
theorem ownerN_eq (css : List (List Int)) (k : Nat) : ∀ j, ownerN css k j = ownQ (fun j => lessC css j k) j
  | 0 => rfl
  | j + 1 => by rw [ownerN, ownQ, ownerN_eq css k j]

def colsJ (j : Nat) : List Int := (List.range 6).map fun (i : Nat) => colF (1 + (i : Int)) (tx j).cps.toList
theorem refs_of : ∀ ys : List Value, (∀ i, i < ys.length → ∃ x, ys[i]? = some (Value.ref x)) → ∃ rs : List Addr, ys = rs.map Value.ref := by
  intro ys
  induction ys with
  | nil => intro _; exact ⟨[], rfl⟩
  | cons y r ih =>
    intro h
    obtain ⟨x, hx⟩ := h 0 (by simp)
    obtain ⟨rs, hr⟩ := ih fun i hi => by
      obtain ⟨x, hx⟩ := h (i + 1) (by simp; omega)
      exact ⟨x, by simpa using hx⟩
    refine ⟨x :: rs, ?_⟩
    simp only [List.getElem?_cons_zero, Option.some.injEq] at hx
    rw [hx, hr]; rfl
/-- a fresh list of a text's columns -/
def ColsFr (fr : List (Addr × Obj)) (y : Value) (j : Nat) : Prop := ∃ D vs n, y = .ref D ∧ fr = [(D, W.listOf (List.toArray vs) n)] ∧ IntsAre vs (colsJ j)
theorem cols_of {h h' : Heap} {n : Nat} {js : List Nat} {ys : List Value} (p : Paired (Made (fun i y fr => ColsFr fr y (js.getD i 0)) h h') ((List.range n).filter fun _ => true) ys) :
    ∃ (all : List (Addr × Obj)) (rs : List Addr), (∀ q ∈ all, h.get? q.1 = none ∧ h'.get? q.1 = some q.2) ∧ ys = rs.map Value.ref ∧ rs.length = n ∧ ∀ h'' : Heap, (∀ q ∈ all, h''.get? q.1 = some q.2) → ∀ i, i < n → ∃ vs, h''.IsList (rs.getD i 0) (List.toArray vs) ∧ IntsAre vs (colsJ (js.getD i 0)) := by
  obtain ⟨all, h1, h2, h3⟩ := frags_of p
  have hn : ys.length = n := by rw [← h2, filt_true]; simp
  obtain ⟨rs, hrs⟩ := refs_of ys fun i hi => by
    obtain ⟨k, y, fr, _, e2, _, D, vs, m, e5, _⟩ := h3 i hi
    exact ⟨D, by rw [e2, e5]⟩
  have hrl : rs.length = n := by rw [← hn, hrs]; simp
  refine ⟨all, rs, h1, hrs, hrl, fun h'' hall i hi => ?_⟩
  obtain ⟨k, y, fr, e1, e2, e3, D, vs, m, e5, e6, e7⟩ := h3 i (by omega)
  rw [getD_range n i hi] at e1
  cases e1
  have : rs.getD i 0 = D := by
    rw [hrs, e5] at e2
    rw [List.getD_eq_getElem?_getD]
    simp only [List.getElem?_map] at e2
    cases q : rs[i]? with
    | none => rw [q] at e2; cases e2
    | some x' => rw [q] at e2; cases e2; rfl
  rw [this]
  exact ⟨vs, ⟨_, hall _ (e3 _ (by rw [e6]; exact .head _)), rfl, m, rfl⟩, e7⟩
theorem lists_at {h : Heap} {l : Addr} {rs : List Addr} {js : List Nat} (hl : h.IsList l (rs.map Value.ref).toArray) (hrl : rs.length = js.length) (hc : ∀ i, i < js.length → ∃ vs, h.IsList (rs.getD i 0) (List.toArray vs) ∧ IntsAre vs (colsJ (js.getD i 0))) : ListsAt h l (js.map colsJ) := by
  refine ⟨rs, hl, by rw [hrl, List.length_map], fun i hi => ?_⟩
  rw [List.length_map] at hi
  obtain ⟨vs, a, b⟩ := hc i hi
  refine ⟨vs, a, ?_⟩
  have e : (js.map colsJ).getD i [] = colsJ (js.getD i 0) := by
    rw [List.getD_eq_getElem?_getD, List.getD_eq_getElem?_getD, List.getElem?_map, List.getElem?_eq_getElem hi]; rfl
  rw [e]; exact b
theorem ListsAt.ext {h h' : Heap} {l : Addr} {css : List (List Int)} (c : ListsAt h l css) (x : Ext h h') : ListsAt h' l css := by
  obtain ⟨rs, a, b, c⟩ := c
  refine ⟨rs, IsList.ext x a, b, fun i hi => ?_⟩
  obtain ⟨vs, d, e⟩ := c i hi
  exact ⟨vs, IsList.ext x d, e⟩
theorem getD_map_cols (js : List Nat) (i : Nat) (hi : i < js.length) : (js.map colsJ).getD i [] = colsJ (js.getD i 0) := by
  rw [List.getD_eq_getElem?_getD, List.getD_eq_getElem?_getD, List.getElem?_map, List.getElem?_eq_getElem hi]; rfl
theorem colsJ_len (j : Nat) : (colsJ j).length = 6 := by simp [colsJ]
theorem ownQ_bound (q : Nat → Bool) : ∀ n, -1 ≤ ownQ q n ∧ ownQ q n < (n : Int)
  | 0 => by simp [ownQ]
  | n + 1 => by
    have := ownQ_bound q n
    rw [ownQ]; split <;> omega
theorem News.subN {h₀ h : Heap} {L : Addr} {a : List (Addr × Obj)} (N : News h₀ L h a) (b : List (Addr × Obj)) (hs : ∀ p ∈ b, p ∈ a) : News h₀ L h b := fun p hp => N p (hs p hp)
/-- the owners of the rows -/
def ownsJ (js : List Nat) : List Int := (List.range js.length).map (ownL js)
theorem ownsJ_len (js : List Nat) : (ownsJ js).length = js.length := by simp [ownsJ]
theorem ownsJ_get (js : List Nat) (i : Nat) (hi : i < js.length) : (ownsJ js).getD i 0 = ownL js i := by
  rw [List.getD_eq_getElem?_getD, ownsJ, List.getElem?_map]; simp [hi]
theorem ownsJ_mem (js : List Nat) (hz : js.length ≤ 7) : ∀ k ∈ ownsJ js, -1 ≤ k ∧ k ≤ 6 := by
  intro k hk
  obtain ⟨i, hi, rfl⟩ := List.mem_map.mp hk
  have := ownQ_bound (fun j => lessJ (js.getD j 0) (js.getD i 0)) i
  have := List.mem_range.mp hi
  unfold ownL
  omega

def lessCJ (a b : Nat) : Bool := (List.range 6).all fun i => decide ((colsJ a).getD i 0 < (colsJ b).getD i 0)
theorem less_cols : ∀ a, a < 36 → ∀ b, b < 36 → lessJ a b = lessCJ a b := by decide +kernel
theorem owns_eq {js : List Nat} (h : ∀ i, i < js.length → js.getD i 0 < 36) : ownsJ js = (List.range js.length).map fun k => ownerN (js.map colsJ) k k := by
  refine List.map_congr_left fun k hk => ?_
  have hk := List.mem_range.mp hk
  rw [ownerN_eq]
  unfold ownL
  have key : ∀ n, n ≤ k → ownQ (fun j => lessJ (js.getD j 0) (js.getD k 0)) n = ownQ (fun j => lessC (js.map colsJ) j k) n := by
    intro n
    induction n with
    | zero => intro _; rfl
    | succ n ih =>
      intro hn
      have e : lessJ (js.getD n 0) (js.getD k 0) = lessC (js.map colsJ) n k := by
        rw [less_cols _ (h n (by omega)) _ (h k hk), lessC, getD_map_cols js n (by omega), getD_map_cols js k hk]; rfl
      rw [ownQ, ownQ, ih (by omega), e]
  exact key k (Nat.le_refl _)

/-! ## the exclusive or of a row of numbers -/
def xf (f : Nat → Nat) : Nat → Nat
  | 0 => 0
  | n + 1 => xf f n ^^^ f n
theorem xf_congr {f g : Nat → Nat} : ∀ n, (∀ i, i < n → f i = g i) → xf f n = xf g n
  | 0, _ => rfl
  | n + 1, h => by rw [xf, xf, xf_congr n (fun i hi => h i (Nat.lt_succ_of_lt hi)), h n (Nat.lt_succ_self n)]
theorem xf_zero {f : Nat → Nat} : ∀ n, (∀ i, i < n → f i = 0) → xf f n = 0
  | 0, _ => rfl
  | n + 1, h => by rw [xf, xf_zero n (fun i hi => h i (Nat.lt_succ_of_lt hi)), h n (Nat.lt_succ_self n)]; rfl
theorem xor4 (a b c d : Nat) : (a ^^^ b) ^^^ (c ^^^ d) = (a ^^^ c) ^^^ (b ^^^ d) := by
  apply Nat.eq_of_testBit_eq
  intro i
  simp only [Nat.testBit_xor]
  cases a.testBit i <;> cases b.testBit i <;> cases c.testBit i <;> cases d.testBit i <;> rfl
theorem xf_xor {f g : Nat → Nat} : ∀ n, xf f n ^^^ xf g n = xf (fun i => f i ^^^ g i) n
  | 0 => by simp [xf]
  | n + 1 => by rw [xf, xf, xf, xor4, xf_xor n]
theorem xf_single {f : Nat → Nat} {r : Nat} : ∀ n, r < n → (∀ i, i < n → i ≠ r → f i = 0) → xf f n = f r
  | 0, h, _ => absurd h (Nat.not_lt_zero _)
  | n + 1, h, hz => by
    rw [xf]
    by_cases e : n = r
    · rw [xf_zero n (fun i hi => hz i (Nat.lt_succ_of_lt hi) (by omega)), e]; simp
    · rw [xf_single n (by omega) (fun i hi => hz i (Nat.lt_succ_of_lt hi)), hz n (Nat.lt_succ_self n) e]; simp
theorem xf_bit {f : Nat → Nat} {j : Nat} : ∀ n, (xf f n).testBit j = true → ∃ k, k < n ∧ (f k).testBit j = true
  | 0, h => by rw [xf, Nat.zero_testBit] at h; cases h
  | n + 1, h => by
    rw [xf, Nat.testBit_xor] at h
    cases e : (f n).testBit j with
    | true => exact ⟨n, Nat.lt_succ_self n, e⟩
    | false =>
      rw [e, Bool.xor_false] at h
      obtain ⟨k, hk, hb⟩ := xf_bit n h
      exact ⟨k, Nat.lt_succ_of_lt hk, hb⟩
theorem xf_lt {f : Nat → Nat} {m : Nat} : ∀ n, (∀ i, i < n → f i < 2 ^ m) → xf f n < 2 ^ m
  | 0, _ => Nat.two_pow_pos m
  | n + 1, h => Nat.xor_lt_two_pow (xf_lt n fun i hi => h i (Nat.lt_succ_of_lt hi)) (h n (Nat.lt_succ_self n))
/-! ## the change's high bit -/
theorem lt_bit {x y i : Nat} (hx : x.testBit i = false) (hy : y.testBit i = true) (h : ∀ j, i < j → x.testBit j = y.testBit j) : x < y := by
  have e1 : x / 2 ^ (i + 1) = y / 2 ^ (i + 1) := by
    apply Nat.eq_of_testBit_eq
    intro j
    rw [Nat.testBit_div_two_pow, Nat.testBit_div_two_pow]
    exact h _ (by omega)
  have e2 : x % 2 ^ (i + 1) < 2 ^ i := by
    apply Nat.lt_pow_two_of_testBit
    intro j hj
    rw [Nat.testBit_mod_two_pow]
    by_cases e : j = i
    · rw [e, hx, Bool.and_false]
    · rw [decide_eq_false (by omega), Bool.false_and]
  have e3 : 2 ^ i ≤ y % 2 ^ (i + 1) := by
    apply Nat.ge_two_pow_of_testBit
    rw [Nat.testBit_mod_two_pow, hy, decide_eq_true (by omega)]; rfl
  have a := Nat.div_add_mod x (2 ^ (i + 1))
  have b := Nat.div_add_mod y (2 ^ (i + 1))
  rw [e1] at a
  omega
theorem hi_bit {c : Nat} (h : c ≠ 0) : ∀ j, c.log2 < j → c.testBit j = false := fun j hj => Nat.testBit_lt_two_pow (Nat.lt_of_lt_of_le Nat.lt_log2_self (Nat.pow_le_pow_right (by decide) hj))
theorem xor_less {a c : Nat} (h : c ≠ 0) (ha : a.testBit c.log2 = true) : a ^^^ c < a := by
  refine lt_bit (i := c.log2) ?_ ha fun j hj => ?_
  · rw [Nat.testBit_xor, ha, Nat.testBit_log2 h]; rfl
  · rw [Nat.testBit_xor, hi_bit h j hj, Bool.xor_false]
theorem bit_of_less {a c : Nat} (h : c ≠ 0) (hl : a ^^^ c < a) : a.testBit c.log2 = true := by
  cases e : a.testBit c.log2 with
  | true => rfl
  | false =>
    have : a < a ^^^ c := by
      refine lt_bit (i := c.log2) e ?_ fun j hj => ?_
      · rw [Nat.testBit_xor, e, Nat.testBit_log2 h]; rfl
      · rw [Nat.testBit_xor, hi_bit h j hj, Bool.xor_false]
    omega
theorem xor_ne {a b : Nat} (h : a ≠ b) : a ^^^ b ≠ 0 := by
  intro e
  apply h
  have : (a ^^^ b) ^^^ b = 0 ^^^ b := by rw [e]
  rw [Nat.xor_assoc, Nat.xor_self, Nat.xor_zero, Nat.zero_xor] at this
  exact this
theorem xor_back (a b : Nat) : a ^^^ (a ^^^ b) = b := by rw [← Nat.xor_assoc, Nat.xor_self, Nat.zero_xor]
theorem xa : ∀ (n a b : Nat), a < n → (a ^^^ b) + 2 * (a &&& b) = a + b
  | 0, a, _, h => absurd h (Nat.not_lt_zero _)
  | n + 1, a, b, h => by
    by_cases ha : a = 0
    · subst ha; simp
    · have ih := xa n (a / 2) (b / 2) (by omega)
      have x1 : (a ^^^ b) / 2 = a / 2 ^^^ b / 2 := Nat.xor_div_two
      have x2 : (a &&& b) / 2 = a / 2 &&& b / 2 := Nat.and_div_two
      have x3 := @Nat.xor_mod_two_eq_one a b
      have x4 := @Nat.and_mod_two_eq_one a b
      rw [← x1, ← x2] at ih
      have y1 := Nat.div_add_mod (a ^^^ b) 2
      have y2 := Nat.div_add_mod (a &&& b) 2
      have y3 := Nat.div_add_mod a 2
      have y4 := Nat.div_add_mod b 2
      rcases Nat.mod_two_eq_zero_or_one a with ea | ea <;> rcases Nat.mod_two_eq_zero_or_one b with eb | eb
      all_goals
        rcases Nat.mod_two_eq_zero_or_one (a ^^^ b) with e1 | e1 <;> rcases Nat.mod_two_eq_zero_or_one (a &&& b) with e2 | e2 <;> simp only [ea, eb, e1, e2] at x3 x4
      all_goals first
        | (exfalso; revert x3; decide)
        | (exfalso; revert x4; decide)
        | (clear x1 x2 x3 x4; rw [ea] at y3; rw [eb] at y4; rw [e1] at y1; rw [e2] at y2; clear ea eb e1 e2; omega)
/-! ## rows on rows -/
def rk (q : Nat) : Nat := if q = 7 then 0 else q + 1
structure Lies (par : Nat → Nat) (S : Nat → Prop) : Prop where
  top : ∀ k, k < 7 → par k = 7 ∨ par k < k
  lt : ∀ k, S k → k < 7
  up : ∀ k, S k → par k = 7 ∨ S (par k)
inductive Anc (par : Nat → Nat) (a : Nat) : Nat → Prop
  | refl : Anc par a a
  | step {b : Nat} : b < 7 → Anc par a (par b) → Anc par a b
theorem rk_par {par : Nat → Nat} {k : Nat} (h : par k = 7 ∨ par k < k) (hk : k < 7) : rk (par k) < rk k := by
  unfold rk
  rcases h with h | h
  · rw [if_pos h, if_neg (by omega)]; omega
  · rw [if_neg (by omega), if_neg (by omega)]; omega
section
variable {par : Nat → Nat} {S : Nat → Prop} {a b k r p q : Nat} (G : ∀ k, k < 7 → par k = 7 ∨ par k < k)
include G
theorem anc_lt (h : Anc par a b) : a = b ∨ rk a < rk b := by
  induction h with
  | refl => exact .inl rfl
  | step hb _ ih =>
    rename_i b _
    have := rk_par (G b hb) hb
    rcases ih with e | e
    · rw [e]; exact .inr this
    · exact .inr (by omega)
theorem anc_both (h : Anc par a b) (h' : Anc par b a) : a = b := by
  rcases anc_lt G h with e | e
  · exact e
  · rcases anc_lt G h' with e' | e'
    · exact e'.symm
    · omega
omit G in
theorem anc_par (h : Anc par k p) (hk : k < 7) : Anc par (par k) p := by
  induction h with
  | refl => exact .step hk .refl
  | step hb _ ih => exact .step hb ih
theorem anc_uniq (h : Anc par k p) : Anc par r p → k < 7 → r < 7 → par k = par r → k = r := by
  induction h with
  | refl =>
    intro h2 hk hr e
    cases h2 with
    | refl => rfl
    | step _ h2 =>
      have a1 := rk_par (G r hr) hr
      rw [e] at h2
      rcases anc_lt G h2 with e' | e'
      · rw [← e'] at a1; omega
      · omega
  | step hb h ih =>
    intro h2 hk hr e
    cases h2 with
    | refl =>
      have a1 := rk_par (G k hk) hk
      rw [← e] at h
      rcases anc_lt G h with e' | e'
      · rw [← e'] at a1; omega
      · omega
    | step _ h2 => exact ih h2 hk hr e
omit G in
theorem anc_child (h : Anc par q p) : q = p ∨ ∃ r, r < 7 ∧ Anc par r p ∧ par r = q := by
  induction h with
  | refl => exact .inl rfl
  | step hb h ih =>
    rename_i b
    rcases ih with e | ⟨r, h1, h2, h3⟩
    · exact .inr ⟨b, hb, .refl, e.symm⟩
    · exact .inr ⟨r, h1, .step hb h2, h3⟩
theorem anc_ground : ∀ n p, rk p ≤ n → p ≤ 7 → Anc par 7 p
  | 0, p, h, hp => by
    have : p = 7 := by unfold rk at h; split at h <;> omega
    rw [this]; exact .refl
  | n + 1, p, h, hp => by
    by_cases e : p = 7
    · rw [e]; exact .refl
    · have hp7 : p < 7 := by omega
      have := rk_par (G p hp7) hp7
      exact .step hp7 (anc_ground n (par p) (by omega) (by rcases G p hp7 with e | e <;> omega))
end
theorem anc_up {par : Nat → Nat} {S : Nat → Prop} {k p : Nat} (L : Lies par S) (h : Anc par k p) : S p → k = 7 ∨ S k := by
  induction h with
  | refl => exact .inr
  | step hb h ih =>
    intro hs
    rcases L.up _ hs with e | e
    · rw [e] at h
      cases h with
      | refl => exact .inl rfl
      | step h7 _ => omega
    · exact ih e
open Classical in
/-- the worths of what lies -/
def IsW (par : Nat → Nat) (S : Nat → Prop) (W : Nat → Nat) : Prop := ∀ q, q ≤ 7 → W q = xf (fun k => if S k ∧ par k = q then W k + 1 else 0) 7
section
variable {par : Nat → Nat} {S S' : Nat → Prop} {W W' : Nat → Nat} {p : Nat} (L : Lies par S) (hS : ∀ k, S' k ↔ S k ∧ ¬ Anc par p k) (hW : IsW par S W) (hW' : IsW par S' W')
include L hS hW hW'
theorem same_w : ∀ n q, 7 - q ≤ n → q < 7 → ¬ Anc par q p → ¬ Anc par p q → W' q = W q
  | 0, q, h, hq, _, _ => by omega
  | n + 1, q, h, hq, h1, h2 => by
    rw [hW' q (by omega), hW q (by omega)]
    refine xf_congr 7 fun k hk => ?_
    by_cases e : par k = q
    · have hqk : q < k := by rcases L.top k hk with e' | e' <;> omega
      have n1 : ¬ Anc par k p := fun a => h1 (e ▸ anc_par a hk)
      have n2 : ¬ Anc par p k := fun a => by
        cases a with
        | refl => exact n1 .refl
        | step _ a => exact h2 (e ▸ a)
      have e1 : (S' k ∧ par k = q) ↔ (S k ∧ par k = q) := by rw [hS]; constructor <;> intro x <;> simp_all
      rw [same_w n k (by omega) hk n1 n2]
      by_cases hs : S k ∧ par k = q
      · rw [if_pos hs, if_pos (e1.mpr hs)]
      · rw [if_neg hs, if_neg (fun x => hs (e1.mp x))]
    · rw [if_neg (fun x => e x.2), if_neg (fun x => e x.2)]
open Classical in
theorem change_w {q r : Nat} (hq : q ≤ 7) (hr : r < 7) (ha : Anc par r p) (e : par r = q) (hs : S r) : W q ^^^ W' q = (W r + 1) ^^^ (if r = p then 0 else W' r + 1) := by
  have npq : ¬ Anc par p q := fun a => by
    have a1 := rk_par (L.top r hr) hr
    rw [e] at a1
    rcases anc_lt L.top a with x | x
    · rcases anc_lt L.top ha with y | y
      · rw [y, x] at a1; omega
      · rw [x] at y; omega
    · rcases anc_lt L.top ha with y | y
      · rw [y] at a1; omega
      · omega
  rw [hW q hq, hW' q hq, xf_xor, xf_single 7 hr]
  · rw [if_pos ⟨hs, e⟩]
    by_cases erp : r = p
    · rw [if_pos erp, if_neg]
      rintro ⟨x, _⟩
      exact ((hS r).mp x).2 (erp ▸ .refl)
    · rw [if_neg erp, if_pos]
      exact ⟨(hS r).mpr ⟨hs, fun a => erp (anc_both L.top ha a)⟩, e⟩
  · intro k hk hkr
    by_cases e' : par k = q
    · have n1 : ¬ Anc par k p := fun a => hkr (anc_uniq L.top a ha hk hr (e'.trans e.symm))
      have n2 : ¬ Anc par p k := fun a => by
        cases a with
        | refl => exact n1 .refl
        | step _ a => exact npq (e' ▸ a)
      have e1 : (S' k ∧ par k = q) ↔ (S k ∧ par k = q) := by rw [hS]; constructor <;> intro x <;> simp_all
      rw [same_w L hS hW hW' 7 k (by omega) hk n1 n2]
      by_cases hs' : S k ∧ par k = q
      · rw [if_pos hs', if_pos (e1.mpr hs'), Nat.xor_self]
      · rw [if_neg hs', if_neg (fun x => hs' (e1.mp x))]; rfl
    · rw [if_neg (fun x => e' x.2), if_neg (fun x => e' x.2)]; rfl
theorem differs (hp : S p) : ∀ n q, 9 - rk q ≤ n → q ≤ 7 → Anc par q p → q ≠ p → W q ≠ W' q
  | 0, q, h, hq, _, _ => by unfold rk at h; split at h <;> omega
  | n + 1, q, h, hq, ha, hne => by
    rcases anc_child ha with e | ⟨r, hr, har, e⟩
    · exact absurd e hne
    · have hs : S r := by
        rcases anc_up L har hp with x | x
        · omega
        · exact x
      have hc := change_w L hS hW hW' hq hr har e hs
      have hrk := rk_par (L.top r hr) hr
      rw [e] at hrk
      have hrk2 : rk r ≤ 7 := by unfold rk; split <;> omega
      intro x
      rw [x, Nat.xor_self] at hc
      by_cases erp : r = p
      · rw [if_pos erp, Nat.xor_zero] at hc; omega
      · rw [if_neg erp] at hc
        exact xor_ne (fun y => differs hp n r (by omega) (by omega) har erp (by omega)) hc.symm
end
open Classical in
theorem w_lt {par : Nat → Nat} {S : Nat → Prop} {W : Nat → Nat} (L : Lies par S) (hW : IsW par S W) : ∀ n q, 9 - rk q ≤ n → q ≤ 7 → W q < 2 ^ (8 - rk q)
  | 0, q, h, hq => by unfold rk at h; split at h <;> omega
  | n + 1, q, h, hq => by
    rw [hW q hq]
    refine xf_lt 7 fun k hk => ?_
    by_cases e : S k ∧ par k = q
    · rw [if_pos e]
      have hrk := rk_par (L.top k hk) hk
      rw [e.2] at hrk
      have hrk2 : rk k ≤ 7 := by unfold rk; split <;> omega
      have ih := w_lt L hW n k (by omega) (by omega)
      have hle : 2 ^ (8 - rk k) ≤ 2 ^ (7 - rk q) := Nat.pow_le_pow_right (by decide) (by omega)
      have hdb : 2 ^ (8 - rk q) = 2 * 2 ^ (7 - rk q) := by rw [show 8 - rk q = (7 - rk q) + 1 by omega, Nat.pow_succ]; omega
      have := Nat.two_pow_pos (7 - rk q)
      omega
    · rw [if_neg e]; exact Nat.two_pow_pos _

theorem bx (a b : Nat) : Builtin.bitXor (a : Int) (b : Int) = ((a ^^^ b : Nat) : Int) := by
  rw [bitXor_and, bitAnd_pp (by omega) (by omega)]
  have := xa (a + 1) a b (by omega)
  have e1 : ((a : Int)).toNat = a := by omega
  have e2 : ((b : Int)).toNat = b := by omega
  rw [e1, e2]
  omega
/-- rows that lie, each on one that lies -/
structure Pos (os ls : List Int) : Prop where
  len : os.length ≤ 7
  own : ∀ i, i < os.length → os.getD i 0 = -1 ∨ (0 ≤ os.getD i 0 ∧ os.getD i 0 < (i : Int))
  mem : ∀ k ∈ ls, 0 ≤ k ∧ k < (os.length : Int)
  sorted : ls.Pairwise (· < ·)
  up : ∀ k ∈ ls, os.getD k.toNat 0 = -1 ∨ os.getD k.toNat 0 ∈ ls
/-- the ground's worth -/
def gnd (os ls : List Int) : Int := (worthsN ls os 7).getD 7 0
theorem Pos.start {js : List Nat} (hz : js.length ≤ 7) : Pos (ownsJ js) ((List.range js.length).map fun i => ((i : Nat) : Int)) := by
  have hb : ∀ i, i < js.length → (ownsJ js).getD i 0 = -1 ∨ (0 ≤ (ownsJ js).getD i 0 ∧ (ownsJ js).getD i 0 < (i : Int)) := by
    intro i hi
    rw [ownsJ_get js i hi]
    have := ownQ_bound (fun j => lessJ (js.getD j 0) (js.getD i 0)) i
    unfold ownL; omega
  refine ⟨by rw [ownsJ_len]; exact hz, fun i hi => hb i (by rw [ownsJ_len] at hi; exact hi), ?_, ?_, ?_⟩
  · intro k hk
    obtain ⟨i, hi, rfl⟩ := List.mem_map.mp hk
    have := List.mem_range.mp hi
    rw [ownsJ_len]; omega
  · rw [List.pairwise_map]
    exact List.pairwise_lt_range.imp fun h => by omega
  · intro k hk
    obtain ⟨i, hi, rfl⟩ := List.mem_map.mp hk
    have hi := List.mem_range.mp hi
    have e : ((i : Nat) : Int).toNat = i := by omega
    rw [e]
    rcases hb i hi with h | h
    · exact .inl h
    · refine .inr (List.mem_map.mpr ⟨((ownsJ js).getD i 0).toNat, List.mem_range.mpr (by omega), by omega⟩)
theorem sorted_ge {ls : List Int} (hs : ls.Pairwise (· < ·)) (h0 : ∀ k ∈ ls, 0 ≤ k) : ∀ i (h : i < ls.length), (i : Int) ≤ ls[i]
  | 0, h => h0 _ (List.getElem_mem h)
  | i + 1, h => by
    have := sorted_ge hs h0 i (by omega)
    have := (List.pairwise_iff_getElem.mp hs) i (i + 1) (by omega) h (by omega)
    omega
theorem Pos.len7 {os ls : List Int} (P : Pos os ls) : ls.length ≤ 7 := by
  have hl := P.len
  by_cases h : ls.length = 0
  · omega
  · have h1 := sorted_ge P.sorted (fun k hk => (P.mem k hk).1) (ls.length - 1) (by omega)
    have h2 := (P.mem _ (List.getElem_mem (show ls.length - 1 < ls.length by omega))).2
    omega
theorem gnd_nil (os : List Int) : gnd os [] = 0 := by
  have : ∀ i, worthsN [] os i = [0, 0, 0, 0, 0, 0, 0, 0] := by
    intro i
    induction i with
    | zero => rfl
    | succ i ih => rw [worthsN_succ, ih]; rfl
  rw [gnd, this]; rfl
def ownB (os ls : List Int) : Bool := decide (0 ≤ ((Builtin.Int.intBits (gnd os ls) : Nat) : Int) - 1)
theorem ownB_eq (os ls : List Int) : ownB os ls = decide (gnd os ls ≠ 0) := by
  unfold ownB Builtin.Int.intBits
  by_cases h : gnd os ls = 0
  · rw [h]; rfl
  · rw [if_neg (by simpa using h), decide_eq_true h]
    exact decide_eq_true (by omega)
theorem without_mem {os ls : List Int} {p : Int} {P : Int → Prop} (h : ∀ k ∈ ls, P k) : ∀ k ∈ withoutF os p ls, P k := fun k hk => h k (List.mem_filter.mp hk).1
/-! ## the row's number of its owner; 7 for the ground -/
def parO (os : List Int) (k : Nat) : Nat := if k < os.length then ix (os.getD k 0) 8 else 7
def lyS (ls : List Int) (k : Nat) : Prop := ((k : Nat) : Int) ∈ ls
theorem parO_ground {os : List Int} {k : Nat} (h : os.getD k 0 = -1) : parO os k = 7 := by
  unfold parO; split
  · rw [h]; rfl
  · rfl
theorem parO_row {os : List Int} {k : Nat} (hk : k < os.length) (h : 0 ≤ os.getD k 0) : parO os k = (os.getD k 0).toNat := by
  unfold parO ix
  rw [if_pos hk, if_neg (by omega)]
theorem Pos.lies {os ls : List Int} (P : Pos os ls) : Lies (parO os) (lyS ls) := by
  have hl := P.len
  refine ⟨fun k hk => ?_, fun k hk => ?_, fun k hk => ?_⟩
  · by_cases h : k < os.length
    · rcases P.own k h with e | e
      · exact .inl (parO_ground e)
      · right; rw [parO_row h e.1]; omega
    · left; unfold parO; rw [if_neg h]
  · have := P.mem _ hk; omega
  · have hm := P.mem _ hk
    have hk' : k < os.length := by omega
    have e : ((k : Nat) : Int).toNat = k := by omega
    have hu := P.up _ hk
    rw [e] at hu
    rcases P.own k hk' with q | q
    · exact .inl (parO_ground q)
    · right
      rw [parO_row hk' q.1]
      rcases hu with u | u
      · omega
      · unfold lyS
        rw [show (((os.getD k 0).toNat : Nat) : Int) = os.getD k 0 by omega]
        exact u
open Classical in
noncomputable def Wn (os ls : List Int) : Nat → Nat → Nat
  | 0, _ => 0
  | i + 1, q => if lyS ls (6 - i) ∧ parO os (6 - i) = q then Wn os ls i q ^^^ (Wn os ls i (6 - i) + 1) else Wn os ls i q
theorem getD_rm (f : Nat → Int) (n q : Nat) (h : q < n) : ((List.range n).map f).getD q 0 = f q := by
  rw [List.getD_eq_getElem?_getD, List.getElem?_map]; simp [h]
theorem set_rm (f : Nat → Int) (n j : Nat) (x : Int) : ((List.range n).map f).set j x = (List.range n).map fun q => if q = j then x else f q := by
  apply List.ext_getElem
  · simp
  · intro i h1 h2
    rw [List.getElem_set]
    simp only [List.getElem_map, List.getElem_range]
    by_cases e : j = i
    · rw [if_pos e, if_pos e.symm]
    · rw [if_neg e, if_neg (fun q => e q.symm)]
theorem worthsN_eq {os ls : List Int} (P : Pos os ls) : ∀ i, i ≤ 7 → worthsN ls os i = (List.range 8).map fun q => ((Wn os ls i q : Nat) : Int)
  | 0, _ => rfl
  | i + 1, hi => by
    rw [worthsN_succ, worthsN_eq P i (by omega), worthStep]
    have e6 : (6 : Int) - (i : Int) = ((6 - i : Nat) : Int) := by omega
    have e7 : (((6 - i : Nat) : Nat) : Int).toNat = 6 - i := by omega
    rw [e6, e7]
    by_cases hm : ls.any (· == ((6 - i : Nat) : Int)) = true
    · have hS : lyS ls (6 - i) := by
        obtain ⟨k, hk, e⟩ := List.any_eq_true.mp hm
        rw [eq_of_beq e] at hk; exact hk
      have hlt : 6 - i < os.length := by have := P.mem _ hS; omega
      have hpar : ix (os.getD (6 - i) 0) ((List.range 8).map fun q => ((Wn os ls i q : Nat) : Int)).length = parO os (6 - i) := by
        unfold parO; rw [if_pos hlt]; simp
      have hp7 : parO os (6 - i) < 8 := by rcases P.lies.top (6 - i) (by omega) with e | e <;> omega
      rw [if_pos hm, hpar, getD_rm _ _ _ hp7, getD_rm _ _ _ (by omega), set_rm]
      refine List.map_congr_left fun q _ => ?_
      rw [Wn]
      by_cases e : q = parO os (6 - i)
      · rw [if_pos e, if_pos ⟨hS, e.symm⟩]
        have := bx (Wn os ls i (parO os (6 - i))) (Wn os ls i (6 - i) + 1)
        rw [e]
        rw [← this]; rfl
      · rw [if_neg e, if_neg (fun x => e x.2.symm)]
    · rw [if_neg hm]
      refine List.map_congr_left fun q _ => ?_
      rw [Wn, if_neg]
      rintro ⟨h, _⟩
      exact hm (List.any_eq_true.mpr ⟨_, h, by simp⟩)
theorem Wn_keep {os ls : List Int} (P : Pos os ls) (j : Nat) : ∀ i, j ≤ i → i ≤ 7 → j ≤ 6 → Wn os ls i (6 - j) = Wn os ls j (6 - j)
  | 0, h, _, _ => by rw [show j = 0 by omega]
  | i + 1, h, hi, hj => by
    by_cases e : j = i + 1
    · rw [e]
    · rw [Wn, if_neg, Wn_keep P j i (by omega) (by omega) hj]
      rintro ⟨_, q⟩
      rcases P.lies.top (6 - i) (by omega) with x | x <;> omega
open Classical in
theorem Wn_xf {os ls : List Int} (P : Pos os ls) (q : Nat) : ∀ i, i ≤ 7 → Wn os ls i q = xf (fun j => if lyS ls (6 - j) ∧ parO os (6 - j) = q then Wn os ls 7 (6 - j) + 1 else 0) i
  | 0, _ => rfl
  | i + 1, hi => by
    rw [Wn, xf, ← Wn_xf P q i (by omega), Wn_keep P i 7 (by omega) (by omega) (by omega)]
    by_cases h : lyS ls (6 - i) ∧ parO os (6 - i) = q
    · rw [if_pos h, if_pos h]
    · rw [if_neg h, if_neg h, Nat.xor_zero]
theorem xf_rev (F : Nat → Nat) : xf (fun j => F (6 - j)) 7 = xf F 7 := by
  simp only [xf, Nat.zero_xor, Nat.sub_zero, Nat.reduceSub]
  generalize F 0 = a0
  generalize F 1 = a1
  generalize F 2 = a2
  generalize F 3 = a3
  generalize F 4 = a4
  generalize F 5 = a5
  generalize F 6 = a6
  apply Nat.eq_of_testBit_eq
  intro i
  simp only [Nat.testBit_xor]
  generalize a0.testBit i = b0
  generalize a1.testBit i = b1
  generalize a2.testBit i = b2
  generalize a3.testBit i = b3
  generalize a4.testBit i = b4
  generalize a5.testBit i = b5
  generalize a6.testBit i = b6
  revert b0 b1 b2 b3 b4 b5 b6
  decide
open Classical in
theorem Pos.isW {os ls : List Int} (P : Pos os ls) : IsW (parO os) (lyS ls) (Wn os ls 7) := by
  intro q _
  rw [Wn_xf P q 7 (Nat.le_refl _)]
  generalize Wn os ls 7 = W
  exact xf_rev (fun k => if lyS ls k ∧ parO os k = q then W k + 1 else 0)
theorem Pos.get {os ls : List Int} (P : Pos os ls) {q : Nat} (hq : q ≤ 7) : (worthsN ls os 7).getD q 0 = ((Wn os ls 7 q : Nat) : Int) := by
  rw [worthsN_eq P 7 (Nat.le_refl _), getD_rm _ _ _ (by omega)]
theorem Pos.gnd {os ls : List Int} (P : Pos os ls) : gnd os ls = ((Wn os ls 7 7 : Nat) : Int) := P.get (Nat.le_refl _)
/-! ## taking a row with all that hangs on it -/
theorem sorted_take {ls : List Int} (hs : ls.Pairwise (· < ·)) {n : Nat} (hn : n < ls.length) {y : Int} (hy : y ∈ ls) (hl : y < ls[n]) : y ∈ ls.take n := by
  obtain ⟨j, hj, e⟩ := List.getElem_of_mem hy
  have hjn : j < n := by
    rcases Nat.lt_trichotomy j n with h | h | h
    · exact h
    · subst h; omega
    · have := (List.pairwise_iff_getElem.mp hs) n j hn hj h
      omega
  rw [← e]
  exact List.mem_take_iff_getElem.mpr ⟨j, by omega, rfl⟩
theorem gone_iff {os ls : List Int} (P : Pos os ls) {p : Nat} (hp : lyS ls p) : ∀ n, n ≤ ls.length → ∀ x : Int, x ∈ (ls.take n).foldl (goneStep os) [(p : Int)] ↔ x = (p : Int) ∨ (x ∈ ls.take n ∧ Anc (parO os) p x.toNat)
  | 0, _, x => by simp
  | n + 1, hn, x => by
    have hn' : n < ls.length := by omega
    have et : ls.take (n + 1) = ls.take n ++ [ls[n]] := by rw [List.take_add_one, List.getElem?_eq_getElem hn']; rfl
    have ih := gone_iff P hp n (by omega)
    have hk : ls[n] ∈ ls := List.getElem_mem hn'
    have hkb := P.mem _ hk
    have hp7 : p < 7 := P.lies.lt p hp
    rw [et, List.foldl_append]
    show x ∈ goneStep os ((ls.take n).foldl (goneStep os) [(p : Int)]) ls[n] ↔ _
    generalize hgs : (ls.take n).foldl (goneStep os) [(p : Int)] = gs at ih ⊢
    generalize hkk : ls[n] = k at *
    have hos : os.getD k.toNat 0 ∈ gs ↔ Anc (parO os) p (parO os k.toNat) := by
      have hlt : k.toNat < os.length := by omega
      rw [ih]
      rcases P.own k.toNat hlt with h | h
      · rw [parO_ground h, h]
        constructor
        · rintro (e | ⟨e, _⟩)
          · omega
          · have := P.mem _ (List.mem_of_mem_take e); omega
        · intro a
          cases a with
          | refl => omega
          | step h7 _ => omega
      · rw [parO_row hlt h.1]
        constructor
        · rintro (e | ⟨_, a⟩)
          · rw [show (os.getD k.toNat 0).toNat = p by omega]; exact .refl
          · exact a
        · intro a
          right
          refine ⟨?_, a⟩
          rcases P.up k hk with u | u
          · omega
          · exact sorted_take P.sorted hn' u (by rw [hkk]; omega)
    have hanc : Anc (parO os) p k.toNat ↔ k = (p : Int) ∨ os.getD k.toNat 0 ∈ gs := by
      rw [hos]
      constructor
      · intro a
        by_cases e : k = (p : Int)
        · exact .inl e
        · right
          generalize hq : k.toNat = q at a
          cases a with
          | refl => omega
          | step _ a => exact a
      · rintro (e | a)
        · rw [show k.toNat = p by omega]; exact .refl
        · exact .step (by have := P.len; omega) a
    unfold goneStep
    by_cases hg : gs.any (· == os.getD k.toNat 0) = true
    · rw [if_pos hg]
      have hm : os.getD k.toNat 0 ∈ gs := by
        obtain ⟨y, hy, e⟩ := List.any_eq_true.mp hg
        rw [eq_of_beq e] at hy; exact hy
      rw [List.mem_append, ih, List.mem_append, List.mem_singleton]
      constructor
      · rintro ((e | ⟨e, a⟩) | e)
        · exact .inl e
        · exact .inr ⟨.inl e, a⟩
        · exact .inr ⟨.inr e, by rw [e]; exact hanc.mpr (.inr hm)⟩
      · rintro (e | ⟨e | e, a⟩)
        · exact .inl (.inl e)
        · exact .inl (.inr ⟨e, a⟩)
        · exact .inr e
    · rw [if_neg hg]
      have hm : os.getD k.toNat 0 ∉ gs := fun h => hg (List.any_eq_true.mpr ⟨_, h, by simp⟩)
      rw [ih, List.mem_append, List.mem_singleton]
      constructor
      · rintro (e | ⟨e, a⟩)
        · exact .inl e
        · exact .inr ⟨.inl e, a⟩
      · rintro (e | ⟨e | e, a⟩)
        · exact .inl e
        · exact .inr ⟨e, a⟩
        · left
          rw [e] at a ⊢
          rcases hanc.mp a with h | h
          · exact h
          · exact absurd h hm
theorem without_iff {os ls : List Int} (P : Pos os ls) {p : Nat} (hp : lyS ls p) (x : Int) : x ∈ withoutF os (p : Int) ls ↔ x ∈ ls ∧ ¬ Anc (parO os) p x.toNat := by
  have h := gone_iff P hp ls.length (Nat.le_refl _) x
  rw [List.take_length] at h
  unfold withoutF goneF
  rw [List.mem_filter]
  constructor
  · rintro ⟨a, b⟩
    refine ⟨a, fun c => ?_⟩
    have : (ls.foldl (goneStep os) [(p : Int)]).any (· == x) = true := List.any_eq_true.mpr ⟨x, h.mpr (.inr ⟨a, c⟩), by simp⟩
    rw [this] at b; cases b
  · rintro ⟨a, b⟩
    refine ⟨a, ?_⟩
    cases e : (ls.foldl (goneStep os) [(p : Int)]).any (· == x) with
    | false => rfl
    | true =>
      obtain ⟨y, hy, e2⟩ := List.any_eq_true.mp e
      rw [eq_of_beq e2] at hy
      rcases h.mp hy with q | q
      · exact absurd (by rw [q]; exact .refl) b
      · exact absurd q.2 b
theorem Pos.nat {os ls : List Int} (P : Pos os ls) {r : Int} (hr : r ∈ ls) : ∃ p : Nat, r = (p : Int) ∧ lyS ls p := by
  have := P.mem _ hr
  refine ⟨r.toNat, by omega, ?_⟩
  unfold lyS
  rw [show ((r.toNat : Nat) : Int) = r by omega]
  exact hr
theorem Pos.without {os ls : List Int} (P : Pos os ls) {r : Int} (hr : r ∈ ls) : Pos os (withoutF os r ls) ∧ (withoutF os r ls).length < ls.length := by
  obtain ⟨p, rfl, hp⟩ := P.nat hr
  refine ⟨⟨P.len, P.own, without_mem P.mem, P.sorted.filter _, fun k hk => ?_⟩, ?_⟩
  · obtain ⟨h1, h2⟩ := (without_iff P hp k).mp hk
    rcases P.up k h1 with u | u
    · exact .inl u
    · right
      have hkb := P.mem _ h1
      have hub := P.mem _ u
      have hlt : k.toNat < os.length := by omega
      refine (without_iff P hp _).mpr ⟨u, fun a => h2 (.step (by have := P.len; omega) ?_)⟩
      rw [parO_row hlt hub.1]; exact a
  · unfold withoutF
    rw [List.length_filter_lt_length_iff_exists]
    refine ⟨(p : Int), hr, fun b => ?_⟩
    have : (p : Int) ∈ withoutF os (p : Int) ls := List.mem_filter.mpr ⟨hr, b⟩
    exact ((without_iff P hp _).mp this).2 (by rw [show ((p : Nat) : Int).toNat = p by omega]; exact .refl)
theorem Pos.lyW {os ls : List Int} (P : Pos os ls) {p : Nat} (hp : lyS ls p) (k : Nat) : lyS (withoutF os (p : Int) ls) k ↔ lyS ls k ∧ ¬ Anc (parO os) p k := by
  unfold lyS
  rw [without_iff P hp]
  rw [show ((k : Nat) : Int).toNat = k by omega]
theorem gnd_other {os ls : List Int} (P : Pos os ls) (h : gnd os ls = 0) {r : Int} (hr : r ∈ ls) : gnd os (withoutF os r ls) ≠ 0 := by
  obtain ⟨P', _⟩ := P.without hr
  obtain ⟨p, rfl, hp⟩ := P.nat hr
  have hp7 := P.lies.lt p hp
  have := differs P.lies (P.lyW hp) P.isW P'.isW hp 9 7 (by omega) (Nat.le_refl _) (anc_ground P.lies.top 8 p (by unfold rk; split <;> omega) (by omega)) (by omega)
  rw [P.gnd] at h
  rw [P'.gnd]
  omega
/-! ## the colon rule -/
def plc (q : Nat) : Int := if q = 7 then -1 else (q : Int)
theorem bits_nat {c : Nat} (h : c ≠ 0) : bitOf ((c : Nat) : Int) = ((2 ^ c.log2 : Nat) : Int) := by
  have e : Builtin.Int.intBits ((c : Nat) : Int) = c.log2 + 1 := by
    unfold Builtin.Int.intBits
    rw [if_neg (by simp; omega)]
    rfl
  rw [bitOf, e]
  rw [show (((c.log2 + 1 : Nat) : Int) - 1).toNat = c.log2 by omega]
  exact (Int.natCast_pow 2 _).symm
theorem bit_nat (a n : Nat) : ((((((a : Nat) : Int) + 1).fdiv ((2 ^ n : Nat) : Int)).fmod 2) == 1) = (a + 1).testBit n := by
  have e1 : ((a : Int) + 1).fdiv ((2 ^ n : Nat) : Int) = (((a + 1) / 2 ^ n : Nat) : Int) := by
    rw [Int.fdiv_eq_ediv_of_nonneg _ (Int.natCast_nonneg _)]
    rfl
  have e2 : ((((a + 1) / 2 ^ n : Nat) : Int)).fmod 2 = ((((a + 1) / 2 ^ n) % 2 : Nat) : Int) := by
    rw [Int.fmod_eq_emod_of_nonneg _ (by decide)]
    rfl
  rw [e1, e2, Nat.testBit_eq_decide_div_mod_eq, Bool.eq_iff_iff]
  simp only [beq_iff_eq, decide_eq_true_eq]
  omega
theorem pick_iff {os ls : List Int} (P : Pos os ls) {q c : Nat} (hq : q ≤ 7) (hc : c ≠ 0) (x : Int) :
    x ∈ rowPick ls os (worthsN ls os 7) (plc q) (bitOf ((c : Nat) : Int)) ↔ x ∈ ls ∧ parO os x.toNat = q ∧ (Wn os ls 7 x.toNat + 1).testBit c.log2 = true := by
  unfold rowPick
  rw [List.mem_filter, Bool.and_eq_true, beq_iff_eq]
  refine and_congr_right fun hx => ?_
  have hb := P.mem _ hx
  have hl := P.len
  have hlt : x.toNat < os.length := by omega
  rw [P.get (by omega), bits_nat hc, bit_nat]
  refine and_congr_left fun _ => ?_
  unfold plc
  rcases P.own x.toNat hlt with h | h
  · rw [parO_ground h, h]; constructor
    · intro e; split at e <;> omega
    · intro e; rw [if_pos e.symm]
  · rw [parO_row hlt h.1]; constructor
    · intro e; split at e <;> omega
    · intro e; rw [if_neg (by omega)]; omega
theorem play {os ls : List Int} (P : Pos os ls) : ∀ f q c, q ≤ 7 → 7 - rk q ≤ f → c ≠ 0 → c < 1024 → (Wn os ls 7 q).testBit c.log2 = true →
    ∃ p : Nat, ownRowF ls os (worthsN ls os 7) f (plc q) ((c : Nat) : Int) = some (p : Int) ∧ lyS ls p ∧ Anc (parO os) q p ∧ q ≠ p ∧ ∀ W' : Nat → Nat, IsW (parO os) (lyS (withoutF os (p : Int) ls)) W' → Wn os ls 7 q ^^^ W' q = c := by
  intro f
  have hW := P.isW
  have hL := P.lies
  have hsome : ∀ q c, q ≤ 7 → (Wn os ls 7 q).testBit c = true → ∃ k, k < 7 ∧ lyS ls k ∧ parO os k = q ∧ (Wn os ls 7 k + 1).testBit c = true := by
    intro q c hq hb
    rw [hW q hq] at hb
    obtain ⟨k, hk, hb⟩ := xf_bit 7 hb
    by_cases e : lyS ls k ∧ parO os k = q
    · rw [if_pos e] at hb
      exact ⟨k, hk, e.1, e.2, hb⟩
    · rw [if_neg e, Nat.zero_testBit] at hb; cases hb
  induction f with
  | zero =>
    intro q c hq hf hc hc2 hb
    obtain ⟨k, hk, _, e, _⟩ := hsome q _ hq hb
    have := rk_par (hL.top k hk) hk
    rw [e] at this
    have : rk k ≤ 7 := by unfold rk; split <;> omega
    omega
  | succ f ih =>
    intro q c hq hf hc hc2 hb
    obtain ⟨k₀, hk₀, hs₀, e₀, hb₀⟩ := hsome q _ hq hb
    have hin : ((k₀ : Nat) : Int) ∈ rowPick ls os (worthsN ls os 7) (plc q) (bitOf ((c : Nat) : Int)) := (pick_iff P hq hc _).mpr ⟨hs₀, by rw [show ((k₀ : Nat) : Int).toNat = k₀ by omega]; exact ⟨e₀, hb₀⟩⟩
    rw [ownRowF, if_pos (by omega)]
    cases hp : rowPick ls os (worthsN ls os 7) (plc q) (bitOf ((c : Nat) : Int)) with
    | nil => rw [hp] at hin; cases hin
    | cons x rest =>
      dsimp only
      obtain ⟨hx, ex, bxk⟩ := (pick_iff P hq hc x).mp (by rw [hp]; exact List.mem_cons_self)
      obtain ⟨k, rfl, hs⟩ := P.nat hx
      have ek : ((k : Nat) : Int).toNat = k := by omega
      rw [ek] at ex bxk ⊢
      have hk7 := hL.lt k hs
      have hqk : q ≠ k := by
        have := rk_par (hL.top k hk7) hk7
        rw [ex] at this
        rintro rfl; omega
      have hanc : Anc (parO os) q k := .step hk7 (by rw [ex]; exact .refl)
      have hrk := rk_par (hL.top k hk7) hk7
      rw [ex] at hrk
      rw [P.get (by omega)]
      rw [show ((Wn os ls 7 k : Nat) : Int) + 1 = ((Wn os ls 7 k + 1 : Nat) : Int) by omega, bx]
      by_cases hz : (Wn os ls 7 k + 1) ^^^ c = 0
      · rw [if_pos (by rw [hz]; rfl)]
        refine ⟨k, rfl, hs, hanc, hqk, fun W' hW' => ?_⟩
        rw [change_w hL (P.lyW hs) hW hW' hq hk7 .refl ex hs, if_pos rfl, Nat.xor_zero]
        exact Decidable.byContradiction fun h => xor_ne h hz
      · rw [if_neg (by omega)]
        generalize hw : (Wn os ls 7 k + 1) ^^^ c = wanted at hz
        have hlt : wanted < Wn os ls 7 k + 1 := by rw [← hw]; exact xor_less hc bxk
        have e1 : ((wanted : Nat) : Int) - 1 = ((wanted - 1 : Nat) : Int) := by omega
        rw [e1, bx]
        have hc' : Wn os ls 7 k ^^^ (wanted - 1) ≠ 0 := xor_ne (by omega)
        have hb' : (Wn os ls 7 k).testBit (Wn os ls 7 k ^^^ (wanted - 1)).log2 = true := bit_of_less hc' (by rw [xor_back]; omega)
        have hwl := w_lt hL hW 9 k (by omega) (by omega)
        have hw10 : Wn os ls 7 k < 2 ^ 10 := Nat.lt_of_lt_of_le hwl (Nat.pow_le_pow_right (by decide) (by omega))
        have hlt' : Wn os ls 7 k ^^^ (wanted - 1) < 2 ^ 10 := Nat.xor_lt_two_pow hw10 (by omega)
        obtain ⟨p, h1, h2, h3, h4, h5⟩ := ih k _ (by omega) (by omega) hc' hlt' hb'
        have hpk : plc k = ((k : Nat) : Int) := by unfold plc; rw [if_neg (by omega)]
        rw [hpk] at h1
        refine ⟨p, h1, h2, ?_, ?_, fun W' hW' => ?_⟩
        · have := anc_par h3 hk7; rw [ex] at this; exact this
        · rintro rfl
          have := anc_lt hL.top h3
          rcases this with e | e <;> omega
        · rw [change_w hL (P.lyW h2) hW hW' hq hk7 h3 ex hs, if_neg h4]
          have e2 : W' k = wanted - 1 := by
            have h6 := h5 W' hW'
            have h7 : Wn os ls 7 k ^^^ (Wn os ls 7 k ^^^ W' k) = Wn os ls 7 k ^^^ (Wn os ls 7 k ^^^ (wanted - 1)) := by rw [h6]
            rw [xor_back, xor_back] at h7
            exact h7
          rw [e2, show wanted - 1 + 1 = wanted by omega, ← hw, xor_back]
theorem gnd_own {os ls : List Int} (P : Pos os ls) (h : gnd os ls ≠ 0) : ∃ r, ownRowF ls os (worthsN ls os 7) 7 (-1) ((worthsN ls os 7).getD 7 0) = some r ∧ r ∈ ls ∧ gnd os (withoutF os r ls) = 0 := by
  have hg := P.gnd
  have h0 : Wn os ls 7 7 ≠ 0 := by omega
  have hwl := w_lt P.lies P.isW 9 7 (by omega) (by omega)
  have hw10 : Wn os ls 7 7 < 2 ^ 10 := Nat.lt_of_lt_of_le hwl (Nat.pow_le_pow_right (by decide) (by omega))
  obtain ⟨p, h1, h2, _, _, h5⟩ := play P 7 7 _ (Nat.le_refl _) (by omega) h0 hw10 (Nat.testBit_log2 h0)
  have P' := (P.without h2).1
  refine ⟨p, ?_, h2, ?_⟩
  · rw [P.get (Nat.le_refl _)]; exact h1
  · rw [P'.gnd]
    have h6 := h5 _ P'.isW
    have h7 : Wn os ls 7 7 ^^^ (Wn os ls 7 7 ^^^ Wn os (withoutF os (p : Int) ls) 7 7) = Wn os ls 7 7 ^^^ Wn os ls 7 7 := by rw [h6]
    rw [xor_back, Nat.xor_self] at h7
    rw [h7]; rfl

theorem item_gnd {prog : Program} {w : World} {A : Around} {E Q : Value → Shared → Prop} {s : Shared} {h₀ : Heap} {L D : Addr} {value slice : PySem.Expr} {vs : List Value} {os ls : List Int} {u : Tok} {n : Nat} {news : List (Addr × Obj)} (N : News h₀ L s.heap news) (hm : (D, W.listOf vs.toArray n) ∈ news) (hi : IntsAre vs (worthsN ls os 7))
    (h : ∀ tk, Q (.int (gnd os ls) tk) s)
    (hs : subscripted slice false (.ref D) (.int (-1) u) = operate [.ref D, .int (-1) u] (getItem (.ref D) (.int (-1) u)) := by with_unfolding_all rfl) : wpAny (model prog w) A (subscriptTail value slice (.ref D) (.int (-1) u)) Q E s := by
  have hl := worthsN_len ls os 7
  refine item_newsN N hm hi (by omega) (by omega) (by omega) (fun tk => ?_) hs
  have e : ix (-1) (worthsN ls os 7).length = 7 := by rw [hl]; rfl
  rw [e]; exact h tk
theorem fm_lt (a : Int) {b : Int} (h : 0 < b) : 0 ≤ a.fmod b ∧ a.fmod b < b := ⟨Int.fmod_nonneg_of_pos _ h, Int.fmod_lt_of_pos _ h⟩
theorem no2 {a b c d : Addr} {v1 v2 v3 : Array Value} {n1 n2 n3 : Nat} {o : Obj} {v : Option Value} (h : o.data = .cell v) : ∀ p ∈ [(a, W.listOf v1 n1), (b, W.listOf v2 n2), (c, W.listOf v3 n3), (d, o)], notIter p.2 = true := by
  intro p hp
  simp only [List.mem_cons, List.not_mem_nil, or_false] at hp
  rcases hp with e | e | e | e <;> rw [e]
  · rfl
  · rfl
  · rfl
  · exact notIter_cell h
theorem News.turn {h₀ h : Heap} {L : Addr} {a b c i d e f g : Addr × Obj} (N : News h₀ L h [a, b, c, i, d, e, f, g]) : News h₀ L h (i :: ([] ++ [a, b, f, g])) := fun p hp => N p (by
  simp only [List.nil_append, List.mem_cons, List.not_mem_nil, or_false] at hp ⊢
  rcases hp with h | h | h | h | h <;> simp [h])
theorem pick_mem {ls : List Int} (a : Int) (h : 0 < ls.length) : ls.getD (a.fmod (ls.length : Int)).toNat 0 ∈ ls := by
  have := fm_lt a (b := (ls.length : Int)) (by omega)
  have hlt : (a.fmod (ls.length : Int)).toNat < ls.length := by omega
  rw [List.getD_eq_getElem?_getD, List.getElem?_eq_getElem hlt]
  exact List.getElem_mem hlt
theorem len_step {a b i : Nat} (h : a < b) (hz : b ≤ 7 - i) : a ≤ 7 - (i + 1) := by omega
theorem same_of {x y : Bool} (h : (x != y) = false) : x = y := by cases x <;> cases y <;> first | rfl | cases h
theorem bad_true {os ls : List Int} (h : ((!false) != decide (0 ≤ ((Builtin.Int.intBits (gnd os ls) : Nat) : Int) - 1)) = true) (hne : gnd os ls ≠ 0) : False := by
  have e := ownB_eq os ls
  unfold ownB at e
  rw [e, decide_eq_true hne] at h
  cases h
theorem bad_false {os ls : List Int} (h : ((!true) != decide (0 ≤ ((Builtin.Int.intBits (gnd os ls) : Nat) : Int) - 1)) = true) (hne : gnd os ls = 0) : False := by
  have e := ownB_eq os ls
  unfold ownB at e
  rw [e, decide_eq_false (fun q => q hne)] at h
  cases h
/-- what is shown of the law's body -/
def LawP (w : World) (qual : Str) (body : List Stmt) (scope : Scope) : Prop :=
  ∀ (dp un : Nat) (gd : Option (List Code)) (fr : Option (List Env)) (s : Shared) (Q : Value → Shared → Prop) (f : Addr) (cdv : Value) (L : Addr) (h' : Heap) (tk : Nat) (cells : List (Addr × Obj)) (l : Addr) (us : List Value) (ns : List Int),
    Ok w s.heap → dp + 20 < recursionLimit → un + 1000 < cLine → s.heap.IsList l us.toArray → IntsAre us ns → ns.length ≤ 63 →
    Fr s.heap L h' (bindL (envOfC qual scope L f cdv).kindOf [(Str.ofString "script", .ref l)] fun _ => none) → News s.heap L h' cells →
    CellsAre (bindC (envOfC qual scope L f cdv).kindOf [(Str.ofString "script", .ref l)] fun _ => none) (cellsFrom (L + 1) scope.names []) cells →
    (∀ h2 tk2 m, Fr s.heap L h2 m → Q (.bool true) { s with heap := h2, toks := tk2 }) →
    wpAny (model PG w) ((Ar dp un fr gd).deeper (envOfC qual scope L f cdv)) (execs body (envOfC qual scope L f cdv)) (fun fl s' => Q (match fl with | .ret v => v | _ => .none) s') (fun _ _ => False) { s with heap := h', toks := tk }
theorem with_lit {K : Frag} {f : Addr} {P : Str → List Stmt → Scope → Prop} {name qual : Str} {params : Arguments} {body : List Stmt} {scope : Scope} {dV kV doc pm cdv ct oc : Value} {an od : Option Addr} {osl : Array (Option Value)}
    (h0 : K.lookup f = some ⟨oc, od, .func (fnOf name qual params body scope dV kV doc pm an cdv ct), osl⟩) (hP : P qual body scope) :
    ∀ {name qual : Str} {params : Arguments} {body : List Stmt} {scope : Scope} {dV kV doc pm cdv ct oc : Value} {an od : Option Addr} {osl : Array (Option Value)},
      K.lookup f = some ⟨oc, od, .func (fnOf name qual params body scope dV kV doc pm an cdv ct), osl⟩ → P qual body scope := by
  intro name' qual' params' body' scope' dV' kV' doc' pm' cdv' ct' oc' an' od' osl' h
  have e := Option.some.inj (h0.symm.trans h)
  cases e
  exact hP

theorem fillC10 : True := by
  w_top off
  trivial
local macro_rules | `(tactic| walk_at "eval Name") => `(tactic| ((with_reducible show wpAny _ _ (eval (Expr.Name _ _) (compEnvC _ _ _ _)) _ _ _); first | (with_unfolding_all (refine' name_celN ?k1 ?k2 ?k3 ?k4 ?_ ?k5 ?k6 ?k7; (case k1 => k_asm); (case k2 => rfl); (case k3 => k_mem); (case k4 => assumption); (case k5 => rfl); (case k6 => rfl); (case k7 => rfl))) | (refine' name_blt ?k1 ?k2 ?k3 ?k4 ?k9 ?k10 ?_ ?k5 ?k6 ?k7 ?k11 ?k8; (case k1 => k_asm); (case k2 => assumption); (case k3 => assumption); (case k4 => k_is); (case k9 => first | exact boot_sum | exact boot_max | exact boot_range); (case k10 => decide); (case k5 => with_unfolding_all rfl); (case k6 => with_unfolding_all rfl); (case k7 => with_unfolding_all rfl); (case k11 => with_unfolding_all rfl); (case k8 => with_unfolding_all rfl)) | (refine' name_glob ?k1 ?k2 ?k3 ?k4 ?_ ?k5 ?k6 ?k7 ?k8; (case k1 => k_asm); (case k2 => assumption); (case k3 => assumption); (case k4 => k_is); (case k5 => with_unfolding_all rfl); (case k6 => with_unfolding_all rfl); (case k7 => with_unfolding_all rfl); (case k8 => with_unfolding_all rfl))))
local macro_rules | `(tactic| k_all) => `(tactic| with_reducible assumption)
local macro_rules | `(tactic| walk_at "subscriptTail") => `(tactic| ((with_reducible show wpAny _ _ (subscriptTail _ _ (Value.ref _) (Value.int (-1) _)) _ _ _); refine' item_gnd ?k1 ?k2 ?k3 ?_ ?k7; (case k1 => k_asm); (case k2 => k_mem); (case k3 => with_reducible assumption); (case k7 => with_unfolding_all rfl); intro tk9))
set_option maxHeartbeats 8000000 in
theorem law_body {w : World} : ∀ {name qual : Str} {params : Arguments} {body : List Stmt} {scope : Scope} {dV kV doc pm cdv ct oc : Value} {an od : Option Addr} {osl : Array (Option Value)},
    (Mine.hd.heap_39 w.params).lookup 135 = some ⟨oc, od, .func (fnOf name qual params body scope dV kV doc pm an cdv ct), osl⟩ → LawP w qual body scope := by
  refine with_lit (P := LawP w) (by k_is) ?_
  intro dp un gd fr s Q f cdv L h' tk cells l us ns O hd hu hl hli hz F' N' Y' ret
  obtain ⟨X, mean, mg, mb, T⟩ := id O
  k_cells Y'; (try simp only [List.cons_append, List.nil_append] at N')
  (try dsimp only); (try k_fold)
  k_steps
  refine comp_assign (by with_unfolding_all rfl) (by with_unfolding_all rfl) (by rfl) (by decide) (by rfl) (by rfl) ?_ (by intro _; rfl)
  k_steps
  rename News _ _ _ _ => N3
  rename Fr _ _ _ _ => F3
  have hR : 6 ≤ 7 - (ns.sum.fdiv 36).fmod 2 ∧ 7 - (ns.sum.fdiv 36).fmod 2 ≤ 7 := by
    have h1 := Int.fmod_nonneg_of_pos (ns.sum.fdiv 36) (b := 2) (by decide)
    have h2 := Int.fmod_lt_of_pos (ns.sum.fdiv 36) (b := 2) (by decide)
    omega
  have c1 : Heap.IsCell _ (L + 1) (some (.ref l)) := cell_of_news N3 (.tail _ (.tail _ (.tail _ (.tail _ (.head _))))) (by assumption)
  have c2 := cell_of_news N3 (.tail _ (.tail _ (.tail _ (.head _)))) (by assumption)
  have hl3 := F3.lst hl
  have X3 := X.keeps F3.keep
  have T3 := T.keeps F3.keep
  have hst := News.isList N3 (.head _)
  refine ⟨_, _, fun _ => true, fun _ y fr => fr = [] ∧ ∃ j t, j < 36 ∧ y = .str (tx j) t, _, SrcOk.range rfl (by assumption) (by omega), by rw [sizeLine_eq]; omega, TgOk.locW (by rfl) (by rfl) (fun _ => rfl) (fun _ => rfl) ?_ ?_, F3.ns, ?_⟩
  · intro C g own i' v' h4 tk4 m4 E4 hi' hP hx F4 hm N4
    exact tests_nil ⟨rfl, _, _, _, rfl, F4, hm, N4⟩
  · intro C g own i' v' h4 tk4 m4 E4 hi' hP hq hx F4 hm N4
    obtain ⟨t4, rfl⟩ := hP
    rw [Int.zero_add] at hm
    have c1 := IsCell.ext hx c1
    have c2 := IsCell.ext hx c2
    have hl3 := IsList.ext hx hl3
    have hst := IsList.ext hx hst
    have X3 := X3.keeps hx
    have T3 := T3.keeps hx
    have O3 : Ok w g := ⟨X3, _, _, _, T3⟩
    obtain ⟨xs, ms, e5, hms⟩ := ints_slice hli (some (i' : Int)) none (some 7)
    k_steps
    rw [e5] at *
    k_steps
    with_unfolding_all (refine text_ct (Ok.ext O3 (Fr.keep (by k_asm))) (by ktr_room) ?_)
    rintro t9 s9 ⟨h9, tk9, e9, k9⟩; subst e9; have F9 := Ext.fr k9 (by k_asm); have N9 := Ext.news k9 (by k_asm); (try dsimp only)
    k_steps
    refine ⟨_, _, _, [], rfl, by assumption, fun p hp => ?_, News.nil, rfl, _, _, ?_, rfl⟩
    · rename News _ _ _ _ => N9
      exact N9 p (.tail _ hp)
    · omega
  · intro D ys h4 tk4 hk4 hD hPl hPd hns4
    obtain ⟨n4, F4, N4⟩ := asg_next F3 N3 hk4 hD hPl hns4
    obtain ⟨js, hjs, hjl⟩ := tx_of_paired hPd
    rw [filt_true, List.length_range] at hjl
    have d3 : @Ne Nat D (L + 1 + 1 + 1) := fresh_ne hD (N3 _ (.tail _ (.tail _ (.head _)))).1
    have d4 : @Ne Nat D (L + 1 + 1 + 1 + 1) := fresh_ne hD (N3 _ (.tail _ (.head _))).1
    clear hk4 hPl hns4 hPd hD F3 N3 X3 T3 hst hl3 c1 c2
    obtain ⟨ys⟩ := ys
    k_steps
    refine wpAny_Assign_Name ?_ (by with_unfolding_all rfl)
    refine comp_eval (by with_unfolding_all rfl) (by rfl) (by decide) ?_ (by intro _; rfl)
    k_steps
    have F3 := F4; have N3 := N4; clear F4 N4
    have X3 := X.keeps F3.keep
    have T3 := T.keeps F3.keep
    have hyl : ys.length = js.length := hjs.1
    refine ⟨_, _, fun _ => true, fun i y fr => WsJ fr y (js.getD i 0), SrcOk.list (vs := ys) rfl (News.isList N3 (.head _)), by rw [sizeLine_eq]; omega, TgOk.locW (by rfl) (by rfl) (fun _ => rfl) (fun _ => rfl) ?_ ?_, ?_⟩
    · intro C g own i' v' h4 tk4 m4 E4 hi' hP hx F4 hm N4
      exact tests_nil ⟨rfl, _, _, _, rfl, F4, hm, N4⟩
    · intro C g own i' v' h4 tk4 m4 E4 hi' hP hq hx F4 hm N4
      obtain ⟨hj36, tj, hyj⟩ := hjs.2 i' (by omega)
      rw [hyj] at hP
      cases hP
      have X3 := X3.keeps hx
      have T3 := T3.keeps hx
      have O3 : Ok w g := ⟨X3, _, _, _, T3⟩
      have z1 := tx_len' (js.getD i' 0)
      have z2 := x_len
      k_steps
      with_unfolding_all (refine make_ct (Ok.ext O3 (Fr.keep (by k_asm))) (by ktr_room) (tx_x _) (tx_sp _) (tx_len _) ?_)
      rintro y9 fr9 s9 ⟨h9, tk9, e9, k9⟩ hfr9 hws9; subst e9; have F9 := Ext.fr k9 (by k_asm); have N9 := Ext.news k9 (by k_asm); have M9 := asg_more (by k_asm) hfr9; (try dsimp only)
      k_steps
      rename WsFrag _ _ _ _ _ _ _ => hws9
      refine ⟨_, _, _, _, rfl, by assumption, by assumption, ?_, hws9⟩
      assumption
    · intro D2 ys2 h4 tk4 hk4 hD hPl hPd
      obtain ⟨n5, F4, N4⟩ := ev_next F3 N3 hk4 hD hPl
      obtain ⟨ys2⟩ := ys2
      obtain ⟨all, rs, hall, rfl, hrl, hws⟩ := leads_of hPd
      have N5 := News.app N4 (asg_more F3 hall)
      simp only [List.cons_append, List.nil_append] at N5
      have q3 : @Ne Nat D2 (L + 1 + 1 + 1) := fresh_ne hD (N3 _ (.tail _ (.tail _ (.tail _ (.head _))))).1
      have q4 : @Ne Nat D2 (L + 1 + 1 + 1 + 1) := fresh_ne hD (N3 _ (.tail _ (.tail _ (.head _)))).1
      have a3 : ∀ p ∈ all, p.1 ≠ L + 1 + 1 + 1 := fun p hp => fresh_ne (hall p hp).1 (N3 _ (.tail _ (.tail _ (.tail _ (.head _))))).1
      clear hk4 hPl hPd hD F3 N3 X3 T3 N4
      k_steps
      refine comp_assign (by with_unfolding_all rfl) (by with_unfolding_all rfl) (by rfl) (by decide) (by rfl) (by rfl) ?_ (by intro _; rfl)
      k_steps

      rename News _ _ _ _ => N3
      rename Fr _ _ _ _ => F3
      have c3 : Heap.IsCell _ (L + 1 + 1 + 1) (some (.ref D2)) := cell_of_news N3 (.tail _ (.tail _ (.tail _ (.tail _ (.head _))))) (by assumption)
      have hl3 := News.isList N3 (.head _)
      have hws3 := hws _ fun q hq => (N3 q (.tail _ (.tail _ (.tail _ (.tail _ (.tail _ (.tail _ (.tail _ hq)))))))).1
      have X3 := X.keeps F3.keep
      have T3 := T.keeps F3.keep
      have hrn : rs.length = js.length := by rw [hrl, hyl]
      refine ⟨_, _, fun _ => true, fun i y fr => fr = [] ∧ ∃ t, y = .int (ownL js i) t, _, SrcOk.range rfl (by assumption) (by omega), by rw [sizeLine_eq]; omega, TgOk.celW (by rfl) (fun _ _ => rfl) (fun _ => rfl) (fun _ => rfl) rfl (fun _ => rfl) ?_, F3.ns, ?_⟩
      · intro C g own oc i' v' h4 tk4 m4 E4 hi' hP hx F4 hoc N4
        obtain ⟨t4, rfl⟩ := hP
        rw [Int.zero_add] at hoc
        have c3 := IsCell.ext hx c3
        have hl3 := IsList.ext hx hl3
        have hws4 := fun i hi => WsIs.ext (hws3 i hi) hx
        have X3 := X3.keeps hx
        have T3 := T3.keeps hx
        k_steps
        refine comp_eval (by with_unfolding_all rfl) (by rfl) (by decide) ?_ (by intro _; rfl)
        k_steps
        rename News _ _ _ _ => N5
        rename Fr _ _ _ _ => F5
        have c4 := IsCell.ext F5.keep c3
        have ck : Heap.IsCell _ (C + 1) (some (.int (i' : Int) t4)) := cell_of_news N5 (.tail _ (.head _)) hoc
        have hl4 := IsList.ext F5.keep hl3
        have hws5 := fun i hi => WsIs.ext (hws4 i hi) F5.keep
        have X4 := X3.keeps F5.keep
        have T4 := T3.keeps F5.keep
        have O4 : Ok w _ := ⟨X4, _, _, _, T4⟩
        refine ⟨_, _, fun j => lessJ (js.getD j 0) (js.getD i' 0), fun i y fr => fr = [] ∧ ∃ t, y = .int ((i : Nat) : Int) t, SrcOk.range rfl (by assumption) (by omega), by rw [sizeLine_eq]; omega, TgOk.loc (by rfl) (by rfl) (fun _ => rfl) (fun _ => rfl) ?_ ?_, ?_⟩
        · intro C2 j v2 h5 tk5 m5 E5 hj hP F6 hm N6
          obtain ⟨t5, rfl⟩ := hP
          rw [Int.zero_add] at hm
          have W1 := hws5 j (by omega)
          have W2 := hws5 i' (by omega)
          have a1 := (hjs.2 j (by omega)).1
          have a2 := (hjs.2 i' (by omega)).1
          have ejn : ((j : Nat) : Int).toNat = j := by omega
          have ein : ((i' : Nat) : Int).toNat = i' := by omega
          obtain ⟨dx, tn, tc, raw, us', hr, hn, hnt, hno, his, r0, r1, r2, r3, r4, r5, r6, r7, tb, hI, h1', h2', h3'⟩ := id W1
          k_steps
          with_unfolding_all (refine less_ctJ (Ok.ext O4 (Fr.keep (by k_asm))) (by ktr_room) (WsIs.ext W1 (Fr.keep (by k_asm))) (WsIs.ext W2 (Fr.keep (by k_asm))) a1 a2 ?_)
          rintro s9 ⟨h9, tk9, e9, k9⟩; subst e9; have F9 := Ext.fr k9 (by k_asm); have N9 := Ext.news k9 (by k_asm); (try dsimp only)
          k_steps
          exact ⟨_, _, rfl, by assumption⟩
        · intro C2 j v2 h5 tk5 m5 E5 hj hP hq2 F6 hm N6
          obtain ⟨t5, rfl⟩ := hP
          rw [Int.zero_add] at hm
          exact name_loc F6 hm ⟨⟨[], (fun q hq => nomatch hq), rfl, _, rfl⟩, _, _, rfl, fun _ _ e => e⟩ (by rfl) (by rfl) (by rfl)
        · intro D3 ys3 h5 tk5 hE hD3 hL3 hPd3
          obtain ⟨ys3⟩ := ys3
          have hI : IntsAre ys3 _ := ints_of_paired hPd3
          obtain ⟨n6, F6, N6⟩ := ev_next F5 N5 hE hD3 hL3
          have z6 : ((List.range ((i' : Int) - 0).toNat).filter fun j => lessJ (js.getD j 0) (js.getD i' 0)).length ≤ 7 := Nat.le_trans (List.length_filter_le _ _) (by rw [List.length_range]; omega)
          refine kmk_add_ints (ns := [-1]) F6 N6 (News.isList N6 (.tail _ (.head _))) (News.isList N6 (.head _)) (.cons _ _ .nil) hI ?_ (by rw [sizeLine_eq, List.length_map]; simp only [List.length_cons, List.length_nil]; omega)
          intro D4 us4 h6 F7 N7 l7 hI7
          k_steps
          rename_i hh MM tt kk FF NN aa bb
          have e0 : ((i' : Int) - 0).toNat = i' := by omega
          rw [e0] at aa bb
          have hM := own_max _ _ _ aa bb
          rw [hM]
          exact ⟨_, _, _, [], rfl, FF, (fun p hp => NN p (.tail _ (.tail _ (.tail _ hp)))), News.nil, rfl, rfl, _, rfl⟩
      · intro D4 ys4 h4 tk4 hk4 hD hPl hPd hns4
        obtain ⟨ys4⟩ := ys4
        have hI4 : IntsAre ys4 _ := ints_of_paired hPd
        rw [filt_true, ← hjl] at hI4
        have d44 : @Ne Nat D4 (L + 1 + 1 + 1 + 1) := fresh_ne hD (N3 _ (.tail _ (.tail _ (.tail _ (.head _))))).1
        obtain ⟨n6, F4, N4'⟩ := asg_next F3 N3 hk4 hD hPl hns4
        have N4 := News.subN N4' [_, _, _, _, _, _] (by intro p hp; simp only [List.mem_cons, List.not_mem_nil, or_false] at hp ⊢; rcases hp with h | h | h | h | h | h; exact .inl h; exact .inr (.inr (.inl h)); exact .inr (.inr (.inr (.inr (.inl h)))); exact .inr (.inr (.inr (.inr (.inr (.inl h))))); exact .inr (.inr (.inr (.inr (.inr (.inr (.inl h)))))); exact .inr (.inr (.inr (.inr (.inr (.inr (.inr (.inl h))))))))
        clear hk4 hPl hns4 hPd hD F3 N3 N4' X3 T3 c3 hl3 hws3
        k_steps
        refine wpAny_Assign_Name ?_ (by with_unfolding_all rfl)
        refine comp_eval (by with_unfolding_all rfl) (by rfl) (by decide) ?_ (by intro _; rfl)
        k_steps
        have F3 := F4; have N3 := N4; clear F4 N4
        have X3 := X.keeps F3.keep
        have T3 := T.keeps F3.keep
        refine ⟨_, _, fun _ => true, fun i y fr => ColsFr fr y (js.getD i 0), SrcOk.list (vs := ys) rfl (News.isList N3 (.tail _ (.head _))), by rw [sizeLine_eq]; omega, TgOk.locW (by rfl) (by rfl) (fun _ => rfl) (fun _ => rfl) ?_ ?_, ?_⟩
        · intro C g own i' v' h4 tk4 m4 E4 hi' hP hx F4 hm N4
          exact tests_nil ⟨rfl, _, _, _, rfl, F4, hm, N4⟩
        · intro C g own i' v' h4 tk4 m4 E4 hi' hP hq hx F4 hm N4
          obtain ⟨hj36, tj, hyj⟩ := hjs.2 i' (by omega)
          rw [hyj] at hP
          cases hP
          have X3 := X3.keeps hx
          have T3 := T3.keeps hx
          have O3 : Ok w g := ⟨X3, _, _, _, T3⟩
          k_steps
          with_unfolding_all (refine columns_ct (Ok.ext O3 (Fr.keep (by k_asm))) (by ktr_room) ?_)
          rintro l9 v9 s9 ⟨h9, tk9, e9, k9⟩ f9 p9 i9; subst e9; obtain ⟨n9, F9, N9⟩ := ev_next (by k_asm) (by k_asm) k9 f9 p9; (try dsimp only)
          k_steps
          exact ⟨_, _, _, [_], rfl, by assumption, (fun p hp => N9 p (.tail _ hp)), (fun p hp => N9 p (List.mem_cons.mpr (.inl (List.mem_singleton.mp hp)))), _, _, _, rfl, rfl, by assumption⟩
        · intro D5 ys5 h4 tk4 hk4 hD hPl hPd
          obtain ⟨n7, F4, N4⟩ := ev_next F3 N3 hk4 hD hPl
          obtain ⟨ys5⟩ := ys5
          obtain ⟨all5, rs5, hall5, rfl, hrl5, hcs5⟩ := cols_of hPd
          have N5 := News.app N4 (asg_more F3 hall5)
          simp only [List.cons_append, List.nil_append] at N5
          have q4 : @Ne Nat D5 (L + 1 + 1 + 1 + 1) := fresh_ne hD (N3 _ (.tail _ (.tail _ (.head _)))).1
          have a4 : ∀ p ∈ all5, p.1 ≠ L + 1 + 1 + 1 + 1 := fun p hp => fresh_ne (hall5 p hp).1 (N3 _ (.tail _ (.tail _ (.head _)))).1
          clear hk4 hPl hPd hD F3 N3 X3 T3 N4
          k_steps
          refine comp_eval (by with_unfolding_all rfl) (by rfl) (by decide) ?_ (by intro _; rfl)
          k_steps
          rename News _ _ _ _ => N6
          rename Fr _ _ _ _ => F6
          have X6 := X.keeps F6.keep
          have T6 := T.keeps F6.keep
          have O6 : Ok w _ := ⟨X6, _, _, _, T6⟩
          have c6 : Heap.IsCell _ (L + 1 + 1 + 1 + 1) (some (.ref D5)) := cell_of_news N6 (.tail _ (.tail _ (.tail _ (.head _)))) (by assumption)
          have hl6 := News.isList N6 (.head _)
          have hcs6 := hcs5 _ fun q hq => (N6 q (.tail _ (.tail _ (.tail _ (.tail _ (.tail _ (.tail _ (.tail _ hq)))))))).1
          have hLA := lists_at hl6 (by rw [hrl5, hyl]) (fun i hi => hcs6 i (by omega))
          have b0 : (js.map colsJ).length = js.length := List.length_map ..
          have b1 : (js.map colsJ).length ≤ 7 := by omega
          have b2 : ∀ i, i < (js.map colsJ).length → ((js.map colsJ).getD i []).length = 6 := fun i hi => by rw [getD_map_cols js i (by omega)]; exact colsJ_len _
          refine ⟨_, _, fun _ => true, fun i y fr => fr = [] ∧ ∃ t, y = .int (ownerN (js.map colsJ) i i) t, SrcOk.range rfl (by assumption) (by omega), by rw [sizeLine_eq]; omega, TgOk.loc (by rfl) (by rfl) (fun _ => rfl) (fun _ => rfl) ?_ ?_, ?_⟩
          · intro C i' v' h4 tk4 m4 E4 hi' hP F4 hm N4
            exact tests_nil ⟨rfl, _, _, rfl, fun _ _ e => e⟩
          · intro C i' v' h4 tk4 m4 E4 hi' hP hq F4 hm N4
            obtain ⟨t4, rfl⟩ := hP
            rw [Int.zero_add] at hm
            have b3 : i' < (js.map colsJ).length := by omega
            k_steps
            with_unfolding_all (refine owner_ct (Ok.ext O6 (Fr.keep (by k_asm))) (by ktr_room) (by ktr_units) (ListsAt.ext hLA (Fr.keep (by k_asm))) b1 b2 b3 ?_)
            rintro t9 s9 ⟨h9, tk9, e9, k9⟩; subst e9; have F9 := Ext.fr k9 (by k_asm); have N9 := Ext.news k9 (by k_asm); (try dsimp only)
            k_steps
            · exact ⟨[], (fun q hq => nomatch hq), rfl, _, rfl⟩
            · exact ⟨_, _, rfl, by assumption⟩
          · intro D6 ys6 h5 tk5 hE hD hL hPd
            obtain ⟨ys6⟩ := ys6
            have hI6 : IntsAre ys6 _ := ints_of_paired hPd
            rw [filt_true, ← hjl] at hI6
            obtain ⟨n8, F7, N7⟩ := ev_next F6 N6 hE hD hL
            have hcmp : List.map (ownL js) (List.range js.length) = List.map (fun i => ownerN (js.map colsJ) i i) (List.range js.length) := owns_eq fun i hi => (hjs.2 i hi).1
            refine ne_intsK (News.isList N7 (.tail _ (.tail _ (.head _)))) hI4 (News.isList N7 (.head _)) hI6 (by ktr_units) ?_
            rw [show (!decide (List.map (ownL js) (List.range js.length) = List.map (fun i => ownerN (js.map colsJ) i i) (List.range js.length))) = false by rw [decide_eq_true hcmp]; rfl]
            have N8 := News.subN N7 [_, _] (by intro p hp; simp only [List.mem_cons, List.not_mem_nil, or_false] at hp ⊢; rcases hp with h | h; exact .inr (.inr (.inl h)); exact .inr (.inr (.inr (.inr (.inr (.inr (.inr (.inl h))))))))
            obtain ⟨o4, d4, N8⟩ : ∃ o4 : Obj, o4.data = Data.cell (some (.ref l)) ∧ News s.heap L h5 [(D4, W.listOf (List.toArray ys4) n6), (L + 1, o4)] := ⟨_, by assumption, N8⟩
            clear N7 hE hD hL hPd N6 F6 X6 T6 O6 c6 hl6 hcs6 hLA hI6 hcs5 hall5 a4
            k_steps
            refine comp_assign (by with_unfolding_all rfl) (by with_unfolding_all rfl) (by rfl) (by decide) (by rfl) (by rfl) ?_ (by intro _; rfl)
            k_steps
            rename News _ _ _ _ => N3
            rename Fr _ _ _ _ => F3
            refine ⟨_, _, fun _ => true, fun i y fr => fr = [] ∧ ∃ t, y = .int ((i : Nat) : Int) t, _, SrcOk.range rfl (by assumption) (by omega), by rw [sizeLine_eq]; omega, TgOk.loc (by rfl) (by rfl) (fun _ => rfl) (fun _ => rfl) ?_ ?_, F3.ns, ?_⟩
            · intro C i' v' h4 tk4 m4 E4 hi' hP F4 hm N4
              exact tests_nil ⟨rfl, _, _, rfl, fun _ _ e => e⟩
            · intro C i' v' h4 tk4 m4 E4 hi' hP hq F4 hm N4
              obtain ⟨t4, rfl⟩ := hP
              rw [Int.zero_add] at hm
              exact name_loc F4 hm ⟨⟨[], (fun q hq => nomatch hq), rfl, _, rfl⟩, _, _, rfl, fun _ _ e => e⟩ (by rfl) (by rfl) (by rfl)
            · intro D7 ys7 h6 tk6 hk6 hD hPl hPd hns6
              obtain ⟨ys7⟩ := ys7
              have hI7 : IntsAre ys7 _ := ints_of_paired hPd
              rw [filt_true, ← hjl] at hI7
              obtain ⟨n9, F8, N9⟩ := asg_next F3 N3 hk6 hD hPl hns6
              clear hk6 hPl hns6 hPd hD F3 N3
              have hos : IntsAre ys4 (ownsJ js) := hI4
              have ho7 : (ownsJ js).length ≤ 7 := by rw [ownsJ_len]; omega
              have hob := ownsJ_mem js (by omega)
              have hlb : ∀ k ∈ (List.range js.length).map (fun i => ((i : Nat) : Int)), 0 ≤ k ∧ k < ((ownsJ js).length : Int) := by
                intro k hk
                obtain ⟨i, hi, rfl⟩ := List.mem_map.mp hk
                have := List.mem_range.mp hi
                rw [ownsJ_len]; omega
              clear hI4
              have hwl := worthsN_len ((List.range js.length).map (fun i => ((i : Nat) : Int))) (ownsJ js) 7
              k_steps
              with_unfolding_all (refine' worths_ct (Ok.ext O (Fr.keep (by k_asm))) (by ktr_room) ?k1 hI7 ?k3 hos ho7 hlb hob ?_; (case k1 => exact News.isList (by k_asm) (by k_mem)); (case k3 => exact News.isList (by k_asm) (by k_mem)))
              rintro l9 v9 s9 ⟨h9, tk9, e9, k9⟩ f9 p9 i9; subst e9; obtain ⟨n9, F9, N9⟩ := ev_next (by k_asm) (by k_asm) k9 f9 p9; (try dsimp only)
              k_steps
              with_unfolding_all (refine hb_ct (Ok.ext O (Fr.keep (by k_asm))) (by ktr_room) ?_)
              rintro t9 s9 ⟨h9, tk9, e9, k9⟩; subst e9; have F9 := Ext.fr k9 (by k_asm); have N9 := Ext.news k9 (by k_asm); (try dsimp only)
              k_steps
              rename News _ _ _ _ => N3
              rename Fr _ _ _ _ => F3
              have PS := Pos.start (js := js) (by omega)
              have hlen0 : ((List.range js.length).map (fun i => ((i : Nat) : Int))).length = js.length := by rw [List.length_map, List.length_range]
              refine iter_up [] (fun i m₁ news₁ => ∃ ls la xs na r ws nr b, m₁ (Str.ofString "left") = some (.ref la) ∧ m₁ (Str.ofString "worths") = some (.ref r) ∧ m₁ (Str.ofString "owners") = some (.ref D4) ∧ m₁ (Str.ofString "own") = some (.bool b) ∧
                  news₁ = [(r, W.listOf (List.toArray ws) nr), (la, W.listOf (List.toArray xs) na), (D4, W.listOf (List.toArray ys4) n6), (L + 1, o4)] ∧ IntsAre xs ls ∧ IntsAre ws (worthsN ls (ownsJ js) 7) ∧ Pos (ownsJ js) ls ∧ ls.length ≤ 7 - i ∧ b = ownB (ownsJ js) ls)
                rfl (by assumption) (by omega) (by assumption) N3 (no2 d4) ⟨_, _, _, _, _, _, _, _, rfl, rfl, rfl, rfl, rfl, hI7, by assumption, PS, by rw [List.length_map, List.length_range]; omega, rfl⟩ ?_ ?_
              · rintro i tk₀ m₁ news₁ h tk I oI hi ⟨ls, la, xs, na, r, ws, nr, b, e1, e2, e3, e4, rfl, hxs, hws, P, hlz, hb⟩ hnI hoff F N
                rw [← upd_self e1, ← upd_self e2, ← upd_self e3, ← upd_self e4] at F
                simp only [List.nil_append] at N
                have hl7 := P.len7
                have hm := P.mem
                have hwl := worthsN_len ls (ownsJ js) 7
                clear hcmp hlb hI7 PS hlen0
                by_cases hnil : ls = []
                · subst hnil
                  have hbf : b = false := by rw [hb, ownB_eq, gnd_nil]; rfl
                  clear hb
                  subst hbf
                  k_steps
                  show wpAny _ _ _ _ _ _
                  k_steps
                  exact ret _ _ _ (by assumption)
                · have hpos : 0 < ls.length := List.length_pos_iff.mpr hnil
                  rw [ownB_eq] at hb
                  by_cases hg : gnd (ownsJ js) ls = 0
                  · have hbf : b = false := by rw [hb]; exact decide_eq_false (fun q => q hg)
                    clear hb
                    subst hbf
                    have hoth := fun r (hr : r ∈ ls) => gnd_other P hg hr
                    k_steps
                    all_goals (
                      with_unfolding_all (refine' without_ct (Ok.ext O (Fr.keep (by k_asm))) (by ktr_room) ?k1 hxs ?k3 hos ho7 hm hl7 ?_; (case k1 => exact News.isList (by k_asm) (by k_mem)); (case k3 => exact News.isList (by k_asm) (by k_mem)))
                      rintro l8 v8 s8 ⟨h8, tk8, e8, k8⟩ f8 p8 i8; subst e8; obtain ⟨m8, F8, N8⟩ := ev_next (by k_asm) (by k_asm) k8 f8 p8; (try dsimp only)
                      k_steps
                      with_unfolding_all (refine' worths_ct (Ok.ext O (Fr.keep (by k_asm))) (by ktr_room) ?k1 i8 ?k3 hos ho7 (without_mem hm) hob ?_; (case k1 => exact News.isList (by k_asm) (by k_mem)); (case k3 => exact News.isList (by k_asm) (by k_mem)))
                      rintro l9 v9 s9 ⟨h9, tk9, e9, k9⟩ f9 p9 i9; subst e9; obtain ⟨n9, F9, N9⟩ := ev_next (by k_asm) (by k_asm) k9 f9 p9; (try dsimp only)
                      k_steps
                      with_unfolding_all (refine hb_ct (Ok.ext O (Fr.keep (by k_asm))) (by ktr_room) ?_)
                      rintro t9 s9 ⟨h9, tk9, e9, k9⟩; subst e9; have F9 := Ext.fr k9 (by k_asm); have N9 := Ext.news k9 (by k_asm); (try dsimp only)
                      k_steps)
                    all_goals first
                      | (rename _ = true => hbad; exact (bad_true hbad (hoth _ (pick_mem _ hpos))).elim)
                      | (refine ⟨_, _, _, _, rfl, by assumption, News.turn (by assumption), no2 d4, _, _, _, _, _, _, _, _, rfl, rfl, rfl, rfl, rfl, by assumption, by assumption, ?_, ?_, ?_⟩
                         · exact (P.without (pick_mem _ hpos)).1
                         · exact len_step (P.without (pick_mem _ hpos)).2 hlz
                         · exact same_of (by assumption))
                  · have hbf : b = true := by rw [hb]; exact decide_eq_true hg
                    clear hb
                    subst hbf
                    obtain ⟨pl, hr, hrm, hgz⟩ := gnd_own P hg
                    k_steps
                    with_unfolding_all (refine' own_row_ct (Ok.ext O (Fr.keep (by k_asm))) (by ktr_room) ?k1 hxs ?k3 hos ?k5 hws ho7 hl7 hwl hm hr ?_; (case k1 => exact News.isList (by k_asm) (by k_mem)); (case k3 => exact News.isList (by k_asm) (by k_mem)); (case k5 => exact News.isList (by k_asm) (by k_mem)))
                    rintro t9 s9 ⟨h9, tk9, e9, k9⟩; subst e9; have F9 := Ext.fr k9 (by k_asm); have N9 := Ext.news k9 (by k_asm); (try dsimp only)
                    k_steps
                    all_goals (
                      with_unfolding_all (refine' without_ct (Ok.ext O (Fr.keep (by k_asm))) (by ktr_room) ?k1 hxs ?k3 hos ho7 hm hl7 ?_; (case k1 => exact News.isList (by k_asm) (by k_mem)); (case k3 => exact News.isList (by k_asm) (by k_mem)))
                      rintro l8 v8 s8 ⟨h8, tk8, e8, k8⟩ f8 p8 i8; subst e8; obtain ⟨m8, F8, N8⟩ := ev_next (by k_asm) (by k_asm) k8 f8 p8; (try dsimp only)
                      k_steps
                      with_unfolding_all (refine' worths_ct (Ok.ext O (Fr.keep (by k_asm))) (by ktr_room) ?k1 i8 ?k3 hos ho7 (without_mem hm) hob ?_; (case k1 => exact News.isList (by k_asm) (by k_mem)); (case k3 => exact News.isList (by k_asm) (by k_mem)))
                      rintro l9 v9 s9 ⟨h9, tk9, e9, k9⟩ f9 p9 i9; subst e9; obtain ⟨n9, F9, N9⟩ := ev_next (by k_asm) (by k_asm) k9 f9 p9; (try dsimp only)
                      k_steps
                      with_unfolding_all (refine hb_ct (Ok.ext O (Fr.keep (by k_asm))) (by ktr_room) ?_)
                      rintro t9 s9 ⟨h9, tk9, e9, k9⟩; subst e9; have F9 := Ext.fr k9 (by k_asm); have N9 := Ext.news k9 (by k_asm); (try dsimp only)
                      k_steps)
                    all_goals first
                      | (rename _ = true => hbad; exact (bad_false hbad hgz).elim)
                      | (refine ⟨_, _, _, _, rfl, by assumption, News.turn (by assumption), no2 d4, _, _, _, _, _, _, _, _, rfl, rfl, rfl, rfl, rfl, by assumption, by assumption, ?_, ?_, ?_⟩
                         · exact (P.without hrm).1
                         · exact len_step (P.without hrm).2 hlz
                         · exact same_of (by assumption))
              · rintro m₁ news₁ h tk ⟨ls, la, xs, na, r, ws, nr, b, e1, e2, e3, e4, rfl, hxs, hws, P, hlz, hb⟩ F N
                rw [← upd_self e1, ← upd_self e2, ← upd_self e3, ← upd_self e4] at F
                simp only [List.nil_append] at N
                clear hcmp hlb hI7 PS hlen0
                have hnil : ls = [] := List.eq_nil_of_length_eq_zero (by omega)
                subst hnil
                have hbf : b = false := by rw [hb, ownB_eq, gnd_nil]; rfl
                clear hb
                subst hbf
                k_steps
                exact ret _ _ _ (by assumption)

end Mine
set_option maxHeartbeats 8000000 in
theorem PySem.Challenge.cw_re0066_01_holds : PySem.Challenge.rw_re0066_01.Holds := by
  refine Mine.hd (by
    k_go0
    (try dsimp only)
    rename Frag.In _ _ => KX
    rename Top _ _ _ _ _ _ => TT
    rename IntsAre _ _ => hII
    rename Heap.IsList _ _ _ => hLL
    rename Fr _ _ _ _ => FF
    rename News _ _ _ _ => NN
    rename CellsAre _ _ _ => CC
    refine wpAny_mono (Mine.law_body (by k_is) _ _ _ _ _ (fun v s' => GoodW _ _ _ _ _ (.ok (.ret v)) s') _ _ _ _ _ _ _ _ _ ⟨KX, _, _, _, TT⟩ ?h1 ?h2 hLL hII ?h3 ?h4 NN ?h6 ?h7) (fun _ _ q => q) (fun _ _ e => e.elim)
    case h1 => decide +kernel
    case h2 => decide +kernel
    case h3 => omega
    case h4 => with_unfolding_all exact FF
    case h6 => with_unfolding_all exact CC
    case h7 =>
      intro h2 tk2 m F2
      exact goodW_bool F2 (by assumption) (fun _ => rfl) (by first | wrow_post | kc_post))
