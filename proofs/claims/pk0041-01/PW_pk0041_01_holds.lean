import PyProof.Rows.All
import Wide.All
import OpenK.AllK
import Wide.FinOn
import PyProof.ExcStrCall
import PyProof.ExcStrAll.TypeError
import PySem.Challenge.RW_pk0041_01
set_option Elab.async false
set_option maxRecDepth 100000
set_option maxHeartbeats 40000000

section
open PySem PySem.W PyProof.Rows
namespace Mine
open_top hd for PySem.Challenge.rw_pk0041_01
end Mine
end

theorem Mine.topOff : True := by
  w_top off
  exact trivial

section
open PySem PySem.W PyProof.Rows PySem.Calls PySem.Spec
namespace Mine

theorem off_if {α : Type} {z x : Str} {st : List Str} {a b : α} (h3 : st.contains z = false) (hx : st.contains x = true) : (if z = x then a else b) = b := if_neg (by rintro rfl; rw [h3] at hx; cases hx)
/- goals at which the walk is to stop -/
theorem s1 {M A E s a b c d e Q} (h : wpAny M A (eval (Expr.ListComp a b c d) e) Q E s) : wpAny M A (eval (Expr.ListComp a b c d) e) Q E s := h
theorem s2 {M A E s a b c d e f Q} (h : wpAny M A (exec (Stmt.For a b c d e) f) Q E s) : wpAny M A (exec (Stmt.For a b c d e) f) Q E s := h
theorem s3 {M A E s a b c d e f g Q} (h : wpAny M A (exec (Stmt.Assign a (Expr.ListComp b c d e) f) g) Q E s) : wpAny M A (exec (Stmt.Assign a (Expr.ListComp b c d e) f) g) Q E s := h
theorem s4 {M A E s a b c Q} (h : wpAny M A (call (Value.ref a) b c) Q E s) : wpAny M A (call (Value.ref a) b c) Q E s := h
theorem s5 {M A E s a b Q} (h : wpAny M A (call (Value.builtin "str.split") a b) Q E s) : wpAny M A (call (Value.builtin "str.split") a b) Q E s := h
theorem s6 {M A E s a Q} (h : wpAny M A (pyIter (Value.ref a)) Q E s) : wpAny M A (pyIter (Value.ref a)) Q E s := h
theorem s7 {M A E s a b c Q} (h : wpAny M A (compareOp a (Value.ref b) (Value.ref c)) Q E s) : wpAny M A (compareOp a (Value.ref b) (Value.ref c)) Q E s := h
theorem s8 {M A E s a b c Q} (h : wpAny M A (call (Value.type a) [Value.ref b] c) Q E s) : wpAny M A (call (Value.type a) [Value.ref b] c) Q E s := h
theorem s9 {M A E s a b c d e f g Q} (h : wpAny M A (subscriptTail a (Expr.Slice b c d e) (Value.ref f) g) Q E s) : wpAny M A (subscriptTail a (Expr.Slice b c d e) (Value.ref f) g) Q E s := h
theorem con_tail {a z : Str} {l : List Str} (h : (a :: l).contains z = false) : ¬ (l.contains z = true) := fun e => by
  rw [List.contains_cons, e, Bool.or_true] at h; cases h
abbrev frs (envs : List Env) : List Addr := envs.filterMap (·.frame)

structure Ext (fs : List Addr) (h h' : Heap) : Prop where
  other : ∀ b o, h.get? b = some o → b ∉ fs → h'.get? b = some o
  frame : ∀ b o, h.get? b = some o → b ∈ fs → ∃ sl, h'.get? b = some { o with slots := sl }

theorem Ext.ofStays {fs : List Addr} {h h' : Heap} (k : h.StaysIn h') : Ext fs h h' := ⟨fun b o e _ => k b o e, fun b o e _ => ⟨o.slots, k b o e⟩⟩

abbrev AA (dp un : Nat) (gd : Option (List Code)) (envs : List Env) : Around := { handled := none, depth := dp, frames := some envs, guards := gd, units := un }

/-- the strict contract: all that stood stands as it was -/
noncomputable def Ctr (w : World) (base : Heap) (f : Addr) (args : List Value) (d u : Nat) (Pre : Heap → Prop) (Post : Heap → Heap → Value → Prop) : Prop :=
  ∀ (dp un : Nat) (gd : Option (List Code)) (envs : List Env) (s : Shared) (R : Result → Shared → Prop),
    Below (AA dp un gd envs) base envs s.heap → dp + d < recursionLimit → un + u < cLine → Pre s.heap →
    (∀ v h' tk', s.heap.StaysIn h' → Post s.heap h' v → R (.ok (.ret v)) { s with heap := h', toks := tk' }) →
    codeAny (model PySem.Challenge.rw_pk0041_01.row.prog w) (AA dp un gd envs) (.call (.ref f) ⟨args, []⟩) R s

abbrev mp (ps : List (Str × Value)) : Str → Option Value := kstB (fun _ => none) ps
theorem lookup_mp : ∀ ps : List (Str × Value), (fun y => ps.lookup y) = mp ps
  | [] => rfl
  | (a, v) :: r => by
    funext y
    have ih := congrFun (lookup_mp r) y
    show List.lookup y ((a, v) :: r) = if y = a then some v else mp r y
    rw [List.lookup_cons]
    by_cases h : y = a
    · subst h; simp
    · rw [if_neg h, show (y == a) = false by simpa using h]; exact ih

/-- the loose contract: the frames below may have their marks turned -/
noncomputable def CtrX (w : World) (base : Heap) (f : Addr) (args : List Value) (d u : Nat) (Pre : Heap → Prop) (Post : Heap → Heap → Value → Prop) : Prop :=
  ∀ (dp un : Nat) (gd : Option (List Code)) (envs : List Env) (s : Shared) (R : Result → Shared → Prop),
    Below (AA dp un gd envs) base envs s.heap → KtsDicts (frs envs) s.heap → dp + d < recursionLimit → un + u < cLine → Pre s.heap →
    (∀ v h' tk', Ext (frs envs) s.heap h' → Post s.heap h' v → R (.ok (.ret v)) { s with heap := h', toks := tk' }) →
    codeAny (model PySem.Challenge.rw_pk0041_01.row.prog w) (AA dp un gd envs) (.call (.ref f) ⟨args, []⟩) R s

section
variable {w : World} {base : Heap} {mean : ExcName → Option Value} {mg mb : Str → Option Value}
  {A : Around} {envs : List Env} {s : Shared} {R : Result → Shared → Prop}
  {name qual : Str} {params : Arguments} {body : List Stmt} {scope : Scope} {dV kV doc pm cdv ct oc : Value} {an od : Option Addr} {osl : Array (Option Value)} {f : Addr} {args : Args} {binds : List (Str × Value)}

theorem enterP (B : Below A base envs s.heap) (XB : (Mine.hd.heap_39 w.params).In base) (TB : Top Mine.hd.view_39 (looseW Mine.hd.view_39 []) mean mg mb base)
    (ho : (Mine.hd.heap_39 w.params).lookup f = some ⟨oc, od, .func (fnOf name qual params body scope dV kV doc pm an cdv ct), osl⟩) (hcd : codeIn (Mine.hd.heap_39 w.params) cdv qual = true) (hroom : A.depth < recursionLimit)
    (hbind : BindsTo s (fnOf name qual params body scope dV kV doc pm an cdv ct) args binds) (hloc : ∀ y ∈ binds, scope.names.lookup y.1 = some .local)
    (h : ∀ L h₁, L = s.heap.objs.size → Fr s.heap L h₁ (mp binds.reverse) → News s.heap L h₁ [] → (Mine.hd.heap_39 w.params).In s.heap → Top Mine.hd.view_39 (looseW Mine.hd.view_39 []) mean mg mb s.heap →
      wpAny (model PySem.Challenge.rw_pk0041_01.row.prog w) (A.deeper (envOf qual scope L f cdv)) (execs body (envOf qual scope L f cdv))
        (fun fl s' => R (.ok (.ret (match fl with | .ret v => v | _ => .none))) s')
        (fun e s' => wpAny (model PySem.Challenge.rw_pk0041_01.row.prog w) (A.deeper (envOf qual scope L f cdv)) (leaving (envOf qual scope L f cdv) e) (fun _ s'' => R (.error e) s'') (fun e' s'' => R (.error e') s'') s')
        { s with heap := h₁, toks := s.toks + binds.length })
    (hco : scope.isCoroutine = false) (hgen : scope.isGenerator = false) (hk : scope.kind = .function)
    (hcell : ∀ x ∈ scope.names, x.2 ≠ .cell) : codeAny (model PySem.Challenge.rw_pk0041_01.row.prog w) A (.call (.ref f) args) R s := by
  have X : (Mine.hd.heap_39 w.params).In s.heap := XB.keeps B.stays
  have T := TB.keeps B.stays
  refine codeAny_call_def (fd := fnOf name qual params body scope dV kV doc pm an cdv ct) (body := body) (binds := binds) hroom (X _ _ ho) rfl T.nolimit (codeRec_of X hcd) rfl hbind hcell hloc (fun h₁ hns hk₁ => ?_) hco hgen hk
  rw [lookup_mp] at hns
  exact h _ h₁ rfl ⟨hns, hk₁, Nat.le_refl _⟩ News.nil X T


theorem enterC (B : Below A base envs s.heap) (XB : (Mine.hd.heap_39 w.params).In base) (TB : Top Mine.hd.view_39 (looseW Mine.hd.view_39 []) mean mg mb base)
    (ho : (Mine.hd.heap_39 w.params).lookup f = some ⟨oc, od, .func (fnOf name qual params body scope dV kV doc pm an cdv ct), osl⟩) (hcd : codeIn (Mine.hd.heap_39 w.params) cdv qual = true) (hroom : A.depth < recursionLimit)
    (hbind : BindsTo s (fnOf name qual params body scope dV kV doc pm an cdv ct) args binds) (hkind : (binds.all fun y => scope.names.lookup y.1 == some .local || scope.names.lookup y.1 == some .cell) = true)
    (hnd : ((cellsFrom 0 scope.names []).map (·.1)).Nodup)
    (h : ∀ L h₁ tk cells, L = s.heap.objs.size → Fr s.heap L h₁ (bindL (envOfC qual scope L f cdv).kindOf binds fun _ => none) → News s.heap L h₁ cells → CellsAre (bindC (envOfC qual scope L f cdv).kindOf binds fun _ => none) (cellsFrom (L + 1) scope.names []) cells → (Mine.hd.heap_39 w.params).In s.heap → Top Mine.hd.view_39 (looseW Mine.hd.view_39 []) mean mg mb s.heap →
      wpAny (model PySem.Challenge.rw_pk0041_01.row.prog w) (A.deeper (envOfC qual scope L f cdv)) (execs body (envOfC qual scope L f cdv))
        (fun fl s' => R (.ok (.ret (match fl with | .ret v => v | _ => .none))) s')
        (fun e s' => wpAny (model PySem.Challenge.rw_pk0041_01.row.prog w) (A.deeper (envOfC qual scope L f cdv)) (leaving (envOfC qual scope L f cdv) e) (fun _ s'' => R (.error e) s'') (fun e' s'' => R (.error e') s'') s')
        { s with heap := h₁, toks := tk })
    (hco : scope.isCoroutine = false) (hgen : scope.isGenerator = false) (hk : scope.kind = .function) : codeAny (model PySem.Challenge.rw_pk0041_01.row.prog w) A (.call (.ref f) args) R s := by
  have X : (Mine.hd.heap_39 w.params).In s.heap := XB.keeps B.stays
  have T := TB.keeps B.stays
  refine codeAny_call_function hroom (X _ _ ho) rfl hco hgen rfl (codeRec_of X hcd) (hbind _ _ _ _ ?_)
  refine wpAny_newFunctionEnv_cells hk (kindsX hkind _) fun env' he s' x => ?_
  subst he
  refine ⟨T.nolimit.keeps x.toInCall.keep, codeAny_func ?_⟩
  obtain ⟨h₁, tk, rfl, _⟩ := x.done
  obtain ⟨cells, NC, Y⟩ := Cl.news (h₀ := s.heap) (Nat.le_refl _) fun n c hm => ⟨x.cell n c (lookup_of_mem_nodup (cellsFrom_names scope.names 0 (s.heap.objs.size + 1) [] [] rfl ▸ hnd) hm), x.above n c hm⟩
  exact h _ h₁ tk cells rfl ⟨x.toInCall.ns, x.toInCall.keep, Nat.le_refl _⟩ NC Y X T

end
theorem use_ctr {w : World} {base g : Heap} {f : Addr} {args : List Value} {d u : Nat} {Pre : Heap → Prop} {Post : Heap → Heap → Value → Prop} {dp un : Nat} {gd : Option (List Code)} {envs : List Env} {env : Env} {L : Addr} {m : Str → Option Value} {news : List (Addr × Obj)} {s : Shared} {Q E : Value → Shared → Prop}
    (C : Ctr w base f args d u Pre Post) (B : Below (AA dp un gd envs) base envs g) (F : Fr g L s.heap m) (N : News g L s.heap news) (hf : env.frame = some L) (hk : env.scope.kind = .function) (hd : dp + 1 + d < recursionLimit) (hu : un + 3 + u < cLine) (hp : Pre s.heap)
    (h : ∀ v h' tk', s.heap.StaysIn h' → Fr g L h' m → News g L h' news → Post s.heap h' v → Q v { s with heap := h', toks := tk' }) :
    wpAny (model PySem.Challenge.rw_pk0041_01.row.prog w) ((AA dp un gd envs).deeper env) (call (.ref f) args) Q E s := by
  refine wpAny_call (C (dp + 1) (un + 3) gd (env :: envs) s _ (pushX B F hf hk) hd hu hp fun v h' tk' k p => ?_)
  exact h v h' tk' k (F.keeps k) (N.grown k) p

theorem rest_of {prog : Program} {w : World} {A : Around} {h₀ : Heap} {L : Addr} {m : Str → Option Value} {env : Env} {elt : Expr} {x : Str} {scope : Scope} {cl : List (Str × Addr)} {s : Shared} {S : List (Addr × Obj) → Prop} {P : Nat → Value → Prop} {Fin : List Value → List (Addr × Obj) → Prop} {news : List (Addr × Obj)} {n : Nat}
    (J : Nat → List Value → List (Addr × Obj) → Prop) (h0 : J 0 [] news)
    (step : ∀ i ys news v I oI C oC D m₂ h tk (E' : Value → Shared → Prop), i < n → J i ys news → P i v → LCg.NsObj oC m₂ → m₂ x = some v → Fr h₀ L h m → News h₀ L h ((I, oI) :: (C, oC) :: (D, LCg.lst ys) :: news) → LCg.Off3 I C D news → ((@Ne Nat I C) ∧ (@Ne Nat I D) ∧ (@Ne Nat C D)) →
      wpAny (model prog w) A (eval elt (compEnvC scope cl C env)) (LCg.CompEnd h₀ L m { s with heap := h, toks := tk } I oI C oC D (LCg.lst ys) S (fun y news' => J (i + 1) (ys ++ [y]) news')) E' { s with heap := h, toks := tk })
    (fin : ∀ ys news', J n ys news' → Fin ys news') : LCg.CompRest prog w A h₀ L m env elt x scope cl s S P Fin n 0 [] news := by
  have key : ∀ (j i : Nat) (ys : List Value) (news : List (Addr × Obj)), i + j = n → J i ys news → LCg.CompRest prog w A h₀ L m env elt x scope cl s S P Fin j i ys news := by
    intro j
    induction j with
    | zero =>
      intro i ys news hi hj
      have e : i = n := by omega
      subst e
      exact LCg.CompRest.zero (fin ys news hj)
    | succ j ih =>
      intro i ys news hi hj
      refine LCg.CompRest.succ ?_
      intro v I oI C oC D m₂ h tk E' hv hC hx F N off ne
      refine wpAny_mono (step i ys news v I oI C oC D m₂ h tk E' (by omega) hj hv hC hx F N off ne) (fun y s₂ hq => ?_) fun _ _ e => e
      obtain ⟨h', tk', nw, e, F', N', off', hS, hn⟩ := hq
      exact ⟨h', tk', nw, e, F', N', off', hS, ih (i + 1) _ _ (by omega) hn⟩
  exact key n 0 [] news (by omega) h0

theorem rest_fix {prog : Program} {w : World} {A : Around} {h₀ : Heap} {L : Addr} {m : Str → Option Value} {env : Env} {elt : Expr} {x : Str} {scope : Scope} {cl : List (Str × Addr)} {s : Shared} {S : List (Addr × Obj) → Prop} {P : Nat → Value → Prop} {Fin : List Value → List (Addr × Obj) → Prop} {news : List (Addr × Obj)} {n : Nat}
    (J : Nat → List Value → Prop) (h0 : J 0 [])
    (step : ∀ i ys v I oI C oC D m₂ h tk (E' : Value → Shared → Prop), i < n → J i ys → P i v → LCg.NsObj oC m₂ → m₂ x = some v → Fr h₀ L h m → News h₀ L h ((I, oI) :: (C, oC) :: (D, LCg.lst ys) :: news) → LCg.Off3 I C D news → ((@Ne Nat I C) ∧ (@Ne Nat I D) ∧ (@Ne Nat C D)) →
      wpAny (model prog w) A (eval elt (compEnvC scope cl C env)) (LCg.CompEnd h₀ L m { s with heap := h, toks := tk } I oI C oC D (LCg.lst ys) S (fun y news' => news' = news ∧ J (i + 1) (ys ++ [y]))) E' { s with heap := h, toks := tk })
    (fin : ∀ ys, J n ys → Fin ys news) : LCg.CompRest prog w A h₀ L m env elt x scope cl s S P Fin n 0 [] news :=
  rest_of (fun i ys nw => nw = news ∧ J i ys) ⟨rfl, h0⟩
    (fun i ys nw v I oI C oC D m₂ h tk E' hi hj hv hC hx F N off ne => by
      obtain ⟨rfl, hy⟩ := hj
      exact step i ys v I oI C oC D m₂ h tk E' hi hy hv hC hx F N off ne)
    (fun ys nw hj => by
      obtain ⟨rfl, hy⟩ := hj
      exact fin ys hy)

end Mine
end

section
open PySem PySem.W PyProof.Rows PySem.Calls PySem.Spec PyProof.V
local macro_rules | `(tactic| walk_at "go") => `(tactic| repeat (first | ((with_reducible show ite _ _ _); walk1) | ((with_reducible show wpAny _ _ _ _ _ _); (fail_if_success (with_reducible first | refine Mine.s1 ?_ | refine Mine.s2 ?_ | refine Mine.s3 ?_ | refine Mine.s4 ?_ | refine Mine.s5 ?_ | refine Mine.s6 ?_ | refine Mine.s7 ?_ | refine Mine.s8 ?_ | refine Mine.s9 ?_)); walk1)))

section
open PySem PySem.W PyProof.Rows PySem.Calls PySem.Spec
namespace Mine

noncomputable def KstV {σ : Type} (Led : σ → List (Addr × Obj)) (ps : σ → List (Str × Value)) (Facts : σ → Prop) (x : Str) (stored : List Str) (m₀ : Str → Option Value) (P : σ → Prop) (m : Str → Option Value) (nx : List (Addr × Obj)) : Prop :=
  ∃ c : σ, nx = Led c ∧ Facts c ∧ (∀ p ∈ ps c, m p.1 = some p.2) ∧ (∀ z, z ≠ x → (∀ p ∈ ps c, z ≠ p.1) → stored.contains z = false → m z = m₀ z) ∧ P c

section
variable {prog : Program} {w : World} {A : Around} {E : Value → Shared → Prop} {s : Shared} {env : Env} {h₀ : Heap} {x : Str} {body : List Stmt} {Q : Flow → Shared → Prop}

/-- a loop over a list of the base, whatever its items -/
theorem kstv_base {σ : Type} {l : Addr} {vs : List Value} {m₀ : Str → Option Value} (Led : σ → List (Addr × Obj)) (ps : σ → List (Str × Value)) (Facts : σ → Prop) (stored : List Str) (P : Nat → σ → Prop) (c₀ : σ)
    (hh : A.handled = none) (hl : h₀.IsList l vs.toArray) (F : Fr h₀ env.locals s.heap m₀) (N : News h₀ env.locals s.heap (Led c₀)) (hf : Facts c₀) (hk : ∀ p ∈ ps c₀, m₀ p.1 = some p.2) (hp : P 0 c₀)
    (turn : ∀ (c : σ) i v (u : Str → Option Value) h tk own, i < vs.length → vs[i]? = some v → OwnOff own ((Led c₀).map (·.1)) → Facts c → P i c →
      Fr h₀ env.locals h (fun y => if y = x then some v else kstB (fun z => if stored.contains z then u z else m₀ z) (ps c) y) → News h₀ env.locals h (Led c ++ own) →
      wpAny (model prog w) A (execs body env) (InvPostN h₀ env.locals (KstV Led ps Facts x stored m₀ (P (i + 1))) own ((Led c₀).map (·.1)) { s with heap := h, toks := tk } Q) E { s with heap := h, toks := tk })
    (done : ∀ (c : σ) (u : Str → Option Value) h tk, Facts c → P vs.length c → Fr h₀ env.locals h (fun y => if y = x then u y else kstB (fun z => if stored.contains z then u z else m₀ z) (ps c) y) → News h₀ env.locals h (Led c) → Q .next { s with heap := h, toks := tk }) :
    wpAny (model prog w) A (pyIter (.ref l)) (fun it s₂ => LoopAtV prog w A h₀ env x body Q E it s₂) E s := by
  have hls : s.heap.IsList l vs.toArray := hl.at fun o e => F.keep l o e
  obtain ⟨ol, hol, _⟩ := id hl
  have hlt : l < h₀.objs.size := Heap.lt_size hol
  have hne : l ≠ s.heap.objs.size := Nat.ne_of_lt (Nat.lt_trans (Nat.lt_of_lt_of_le hlt F.above) F.ns.lt)
  refine wpAny_pyIter_list hls ?_
  have W := Walks.list (prog := prog) (w := w) hh s.heap.objs.size l hne vs.toArray
  rw [List.size_toArray] at W
  refine loop_invN (fun i m nx => KstV Led ps Facts x stored m₀ (P i) m nx) W ?_ ?_ ?_ ?_ ⟨⟨_, Heap.get?_push_size _ rfl, rfl, rfl⟩, hls.at fun o e => Heap.get?_push_of_some _ e⟩ (F.push _) (fun p hp => ⟨Heap.get?_push_of_some _ (N p hp).1, (N p hp).2⟩) ⟨c₀, rfl, hf, hk, fun _ _ _ _ => rfl, hp⟩ ?_ ?_
  · intro hm
    rcases List.mem_cons.mp hm with e | hm
    · exact absurd F.ns.lt (e ▸ Nat.lt_irrefl _)
    · exact absurd (Nat.lt_of_lt_of_le hlt F.above) ((List.mem_singleton.mp hm) ▸ Nat.lt_irrefl _)
  · intro b hb
    rw [List.mem_singleton.mp hb]
    exact next_is_new F
  · intro p hp hI
    exact absurd (Heap.lt_size (N p hp).1) ((List.mem_singleton.mp hI) ▸ Nat.lt_irrefl _)
  · intro p hp hI
    rcases List.mem_cons.mp hI with e | hI
    · exact absurd (Heap.lt_size (N p hp).1) (e ▸ Nat.lt_irrefl _)
    · have h3 := (N p hp).2.2
      rw [List.mem_singleton.mp hI, hol] at h3
      cases h3
  · rintro i v m₁ nx h tk own hi hv _ hoff ⟨c, rfl, hf', h1, h2, hp'⟩ F₁ N₁
    exact turn c i v m₁ h tk own hi (by simpa using hv) hoff hf' hp' (kst_fr h1 h2 F₁) N₁
  · rintro m₁ nx h tk ⟨c, rfl, hf', h1, h2, hp'⟩ F₁ N₁
    exact done c m₁ h tk hf' hp' (kst_frOut h1 h2 F₁) N₁

theorem kstv_end {σ : Type} {Led : σ → List (Addr × Obj)} {ps : σ → List (Str × Value)} {Facts : σ → Prop} {stored : List Str} {m₀ : Str → Option Value} {P : σ → Prop} (c : σ) {L : Addr} {m' : Str → Option Value} {own news' : List (Addr × Obj)} {adr : List Addr} {s₁ : Shared} {h' : Heap} {tk : Nat}
    (F : Fr h₀ L h' m') (N : News h₀ L h' news') (hn : ∀ p ∈ Led c, p ∈ news') (ho : ∀ p ∈ own, p ∈ news') (ha : (Led c).map (·.1) = adr) (hf : Facts c) (hk : ∀ p ∈ ps c, m' p.1 = some p.2) (hr : ∀ z, z ≠ x → (∀ p ∈ ps c, z ≠ p.1) → stored.contains z = false → m' z = m₀ z) (hp : P c) :
    InvEndN h₀ L (KstV Led ps Facts x stored m₀ P) own adr s₁ { s₁ with heap := h', toks := tk } :=
  InvEndN.intro F N ⟨c, rfl, hf, hk, hr, hp⟩ ha hn ho

/-- what holds between the turns of a loop over a ledger's list, its target a tuple of names (they stand among the stored) -/
noncomputable def KstT {σ : Type} (Led : σ → List (Addr × Obj)) (ps : σ → List (Str × Value)) (Facts : σ → Prop) (stored : List Str) (m₀ : Str → Option Value) (P : σ → Prop) (m : Str → Option Value) (nx : List (Addr × Obj)) : Prop :=
  ∃ c : σ, nx = Led c ∧ Facts c ∧ (∀ p ∈ ps c, m p.1 = some p.2) ∧ (∀ z, (∀ p ∈ ps c, z ≠ p.1) → stored.contains z = false → m z = m₀ z) ∧ P c

theorem kstt_map {ps : List (Str × Value)} {stored : List Str} {m₀ m₁ : Str → Option Value} (h1 : ∀ p ∈ ps, m₁ p.1 = some p.2) (h2 : ∀ z, (∀ p ∈ ps, z ≠ p.1) → stored.contains z = false → m₁ z = m₀ z) :
    kstB (fun z => if stored.contains z then m₁ z else m₀ z) ps = m₁ := by
  funext y
  refine kstB_eq h1 fun hn => ?_
  show (if stored.contains y = true then m₁ y else m₀ y) = m₁ y
  cases h3 : stored.contains y with
  | true => simp
  | false => simp only [Bool.false_eq_true, if_false]; exact (h2 y hn h3).symm

theorem kstt_ledger {σ : Type} {target : Expr} {l : Addr} {lo : Obj} {vs : List Value} {n : Nat} {m₀ : Str → Option Value} (Led : σ → List (Addr × Obj)) (ps : σ → List (Str × Value)) (Facts : σ → Prop) (stored : List Str) (P : Nat → σ → Prop) (c₀ : σ)
    (hh : A.handled = none) (hm : ∀ c, (l, lo) ∈ Led c) (hc : lo.cls = .type "list") (hd : lo.data = .seq vs.toArray n) (F : Fr h₀ env.locals s.heap m₀) (N : News h₀ env.locals s.heap (Led c₀)) (hf : Facts c₀) (hk : ∀ p ∈ ps c₀, m₀ p.1 = some p.2) (hp : P 0 c₀)
    (turn : ∀ (c : σ) i v (u : Str → Option Value) h tk own, i < vs.length → vs[i]? = some v → OwnOff own ((Led c₀).map (·.1)) → Facts c → P i c →
      Fr h₀ env.locals h (kstB (fun z => if stored.contains z then u z else m₀ z) (ps c)) → News h₀ env.locals h (Led c ++ own) →
      wpAny (model prog w) A (assign target env v) (fun _ s₃ => wpAny (model prog w) A (execs body env) (InvPostN h₀ env.locals (KstT Led ps Facts stored m₀ (P (i + 1))) own ((Led c₀).map (·.1)) { s with heap := h, toks := tk } Q) E s₃) E { s with heap := h, toks := tk })
    (done : ∀ (c : σ) (u : Str → Option Value) h tk, Facts c → P vs.length c → Fr h₀ env.locals h (kstB (fun z => if stored.contains z then u z else m₀ z) (ps c)) → News h₀ env.locals h (Led c) → Q .next { s with heap := h, toks := tk }) :
    wpAny (model prog w) A (pyIter (.ref l)) (fun it s₂ => TurnsAt prog w A h₀ env target body Q E it s₂) E s := by
  have hax := N _ (hm c₀)
  have hl : s.heap.IsList l vs.toArray := ⟨lo, hax.1, hc, n, hd⟩
  have hlt : l < s.heap.objs.size := Heap.lt_size hax.1
  have hne : l ≠ s.heap.objs.size := Nat.ne_of_lt hlt
  refine wpAny_pyIter_list hl ?_
  have W := KTurns.ofWalks (target := target) (Walks.list (prog := prog) (w := w) hh s.heap.objs.size l hne vs.toArray) fun i v s Q E st q => letGo_listiter st.1 q
  rw [List.size_toArray] at W
  refine ⟨_, _, _, vs.length, _, _, _, m₀, Led c₀, fun i m nx => KstT Led ps Facts stored m₀ (P i) m nx, rfl, W, ?_, ?_, ?_, ⟨⟨_, Heap.get?_push_size _ rfl, rfl, rfl⟩, hl.at fun o e => Heap.get?_push_of_some _ e⟩, F.push _, (fun p hp => ⟨Heap.get?_push_of_some _ (N p hp).1, (N p hp).2⟩), ⟨c₀, rfl, hf, hk, fun _ _ _ => rfl, hp⟩, ?_, ?_⟩
  · intro hI
    rcases List.mem_cons.mp hI with e | hI
    · exact absurd F.ns.lt (e ▸ Nat.lt_irrefl _)
    · exact hax.2.1 (List.mem_singleton.mp hI).symm
  · intro b hb
    rw [List.mem_singleton.mp hb]
    exact next_is_new F
  · intro p hp hI
    exact absurd (Heap.lt_size (N p hp).1) ((List.mem_singleton.mp hI) ▸ Nat.lt_irrefl _)
  · rintro i v m₁ nx h₁ tk₁ own hi hv ⟨c, rfl, hf', h1, h2, hp'⟩ hoff hown hin hall st F₁ N₁
    have hme : kstB (fun z => if stored.contains z then m₁ z else m₀ z) (ps c) = m₁ := kstt_map h1 h2
    have hlo : h₁.get? l = some lo := (N₁ (l, lo) (List.mem_append_right _ (hm c))).1
    have hv' : vs[i]? = some v := by
      have : vs.toArray[i]? = some v := hv
      simpa using this
    have N₂ : News h₀ env.locals h₁ (Led c ++ own.filter (fun p => decide (p.1 = s.heap.objs.size))) := fun p hp => N₁ p (by
      rcases List.mem_append.mp hp with hp | hp
      · exact List.mem_append_right _ hp
      · exact List.mem_append_left _ (List.mem_filter.mp hp).1)
    have hsep : OwnOff (own.filter (fun p => decide (p.1 = s.heap.objs.size))) ((Led c₀).map (·.1)) := by
      intro p hp b hb e
      obtain ⟨q, hq, rfl⟩ := List.mem_map.mp hb
      have e1 : p.1 = s.heap.objs.size := of_decide_eq_true (List.mem_filter.mp hp).2
      exact absurd (Heap.lt_size (N q hq).1) (by rw [← e, e1]; exact Nat.lt_irrefl _)
    refine wpAny_mono (turn c i v m₁ h₁ tk₁ _ hi hv' hsep hf' hp' (by rw [hme]; exact F₁) N₂) (fun _ s₂ h₂ => wpAny_mono h₂ (fun f s₃ p => ?_) fun _ _ e => e) fun _ _ e => e
    have fin : InvEndN h₀ env.locals (KstT Led ps Facts stored m₀ (P (i + 1))) (own.filter (fun p => decide (p.1 = s.heap.objs.size))) ((Led c₀).map (·.1)) { s with heap := h₁, toks := tk₁ } s₃ →
        LoopStepU h₀ env.locals [s.heap.objs.size] own (fun m nx => KstT Led ps Facts stored m₀ (P (i + 1)) m nx) { s with heap := h₁, toks := tk₁ } .next s₃ := by
      rintro ⟨h', tk, m', news', nx', e, F', N', hn, ho, ha, hS⟩
      refine ⟨rfl, h', tk, m', nx', e, F', fun p hp => ?_, fun p hp hq => ?_, hS⟩
      · rcases List.mem_append.mp hp with hp | hp
        · rcases List.mem_cons.mp (hown p hp) with e1 | e1
          · exact N' p (ho p (List.mem_filter.mpr ⟨hp, decide_eq_true e1⟩))
          · have e2 := List.mem_singleton.mp e1
            have e3 := hin p hp
            obtain ⟨c', rfl, _⟩ := hS
            have e4 : p = (l, lo) := by
              rw [e2, hlo] at e3
              obtain ⟨p1, p2⟩ := p
              simp only at e2 e3
              rw [e2, Option.some.inj e3]
            rw [e4]
            exact N' _ (hn _ (hm c'))
        · exact N' p (hn p hp)
      · have h3 : p.1 ∈ nx'.map (·.1) := List.mem_map.mpr ⟨p, hp, rfl⟩
        rw [ha] at h3
        obtain ⟨q, hq1, hq2⟩ := List.mem_map.mp h3
        exact absurd (Heap.lt_size (N q hq1).1) (by rw [hq2, List.mem_singleton.mp hq]; exact Nat.lt_irrefl _)
    cases f with
    | ret v => exact .ret p
    | brk => exact .brk p
    | next => exact .next (fin p)
    | cont => exact .cont (fin p)
  · rintro h' tk m' news' F' N' _ ⟨c, rfl, hf', h1, h2, hp'⟩
    refine done c m' h' tk hf' hp' ?_ N'
    rw [kstt_map h1 h2]; exact F'

theorem kstt_end {σ : Type} {Led : σ → List (Addr × Obj)} {ps : σ → List (Str × Value)} {Facts : σ → Prop} {stored : List Str} {m₀ : Str → Option Value} {P : σ → Prop} (c : σ) {L : Addr} {m' : Str → Option Value} {own news' : List (Addr × Obj)} {adr : List Addr} {s₁ : Shared} {h' : Heap} {tk : Nat}
    (F : Fr h₀ L h' m') (N : News h₀ L h' news') (hn : ∀ p ∈ Led c, p ∈ news') (ho : ∀ p ∈ own, p ∈ news') (ha : (Led c).map (·.1) = adr) (hf : Facts c) (hk : ∀ p ∈ ps c, m' p.1 = some p.2) (hr : ∀ z, (∀ p ∈ ps c, z ≠ p.1) → stored.contains z = false → m' z = m₀ z) (hp : P c) :
    InvEndN h₀ L (KstT Led ps Facts stored m₀ P) own adr s₁ { s₁ with heap := h', toks := tk } :=
  InvEndN.intro F N ⟨c, rfl, hf, hk, hr, hp⟩ ha hn ho
end
end Mine
end

section
open PySem PySem.W PyProof.Rows PySem.Calls PySem.Spec
open Builtin Builtin.Str
namespace Mine

theorem eq_text : Str.ofString "=" = (⟨#[61]⟩ : Str) := by decide +kernel

theorem kind_one (x : Str) (c : Nat) (hc : c < 256) : decide (Builtin.Str.strKind x < Builtin.Str.strKind ⟨#[c]⟩) = false := by
  have h1 : Builtin.Str.strKind ⟨#[c]⟩ = 1 := by
    unfold Builtin.Str.strKind
    rw [if_pos (by simp [hc])]
  have h2 : 1 ≤ Builtin.Str.strKind x := by
    unfold Builtin.Str.strKind
    split
    · exact Nat.le_refl _
    · split <;> omega
  rw [h1]; simp; omega

theorem split_one (k v : Str) (h : 61 ∉ k.cps) : Txt.splitMax (k ++ Str.ofString "=" ++ v) (Str.ofString "=") 1 = [k, v] := by
  rw [eq_text]
  have hl : (k ++ ⟨#[61]⟩ ++ v : Str).length = k.length + 1 + v.length := by rw [Str.length_append, Str.length_append]; rfl
  have hlist : (k ++ ⟨#[61]⟩ ++ v : Str).cps.toList = k.cps.toList ++ 61 :: v.cps.toList := by
    rw [Str.cps_append, Str.cps_append]; simp
  have hkl : k.cps.toList.length = k.length := by simp [Str.length]
  have hocc : occurrences (k ++ ⟨#[61]⟩ ++ v) ⟨#[61]⟩ 0 (k ++ ⟨#[61]⟩ ++ v : Str).length 1 = [k.length] := by
    have hle := StrLaws.occ_length_le (k ++ ⟨#[61]⟩ ++ v) ⟨#[61]⟩ 0 (k ++ ⟨#[61]⟩ ++ v : Str).length 1
    have hat : StrLaws.At (k ++ ⟨#[61]⟩ ++ v) ⟨#[61]⟩ (k ++ ⟨#[61]⟩ ++ v : Str).length k.length := by
      refine (StrLaws.subAt_one _ _ _).mpr ?_
      rw [hlist, List.getElem?_append_right (by omega)]
      simp [hkl]
    rcases StrLaws.occ_head (k ++ ⟨#[61]⟩ ++ v) ⟨#[61]⟩ 1 (Nat.le_refl _) with ⟨_, hn⟩ | ⟨i, r, e, ha, hn⟩
    · exact absurd hat (hn _)
    · have hi : i = k.length := by
        rcases Nat.lt_trichotomy i k.length with q | q | q
        · exfalso
          have ha' := (StrLaws.subAt_one _ _ _).mp ha
          rw [hlist, List.getElem?_append_left (by omega)] at ha'
          exact h (by have := List.mem_of_getElem? ha'; simpa using this)
        · exact q
        · exact absurd hat (hn _ q)
      rw [e] at hle ⊢
      have : r = [] := by
        cases r with
        | nil => rfl
        | cons a b => simp at hle
      rw [this, hi]
  unfold Txt.splitMax
  have hlim : limitOf (k ++ ⟨#[61]⟩ ++ v) 1 = 1 := rfl
  rw [hlim, hocc]
  rw [if_neg, if_neg]
  · show [strSub _ 0 k.length, strSub _ (k.length + 1) (k ++ ⟨#[61]⟩ ++ v : Str).length] = [k, v]
    have e1 : strSub (k ++ ⟨#[61]⟩ ++ v) 0 k.length = k := by
      refine Str.ext' (Array.toList_inj.mp ?_)
      rw [StrLaws.strSub_toList, hlist]
      simp [hkl]
    have e2 : strSub (k ++ ⟨#[61]⟩ ++ v) (k.length + 1) (k ++ ⟨#[61]⟩ ++ v : Str).length = v := by
      refine Str.ext' (Array.toList_inj.mp ?_)
      rw [StrLaws.strSub_toList, hlist, hl]
      have : (k.cps.toList ++ 61 :: v.cps.toList).drop (k.length + 1) = v.cps.toList := by
        rw [show k.cps.toList ++ 61 :: v.cps.toList = (k.cps.toList ++ [61]) ++ v.cps.toList by simp]
        exact List.drop_left' (by simp [hkl])
      rw [this]
      refine List.take_of_length_le ?_
      simp [Str.length]
    rw [e1, e2]
  · simp
  · rw [kind_one _ 61 (by decide)]
    simp [hl]
    show 1 ≤ _
    omega

theorem split_none (k : Str) (h : 61 ∉ k.cps) : Txt.splitMax k (Str.ofString "=") 1 = [k] := by
  rw [eq_text]
  unfold Txt.splitMax
  split
  · rfl
  · have hocc : occurrences k ⟨#[61]⟩ 0 k.length (limitOf k 1) = [] := by
      rcases StrLaws.occ_head k ⟨#[61]⟩ 1 (Nat.le_refl _) with ⟨e, _⟩ | ⟨i, r, e, ha, _⟩
      · exact e
      · exfalso
        have ha' := (StrLaws.subAt_one _ _ _).mp ha
        exact h (by have := List.mem_of_getElem? ha'; simpa using this)
    rw [hocc]; rfl
end Mine
end

section
open PySem PySem.W PyProof.Rows PySem.Calls PySem.Spec
namespace Mine

noncomputable def hstep (st : List Str × Str × Bool × Bool) (n : Int) : List Str × Str × Bool × Bool :=
  if st.2.2.1 then (st.1, st.2.1 ++ ⟨#[n.toNat]⟩, false, st.2.2.2)
  else if st.2.2.2 then
    if n = 92 then (st.1, st.2.1, true, st.2.2.2)
    else (st.1, st.2.1 ++ ⟨#[n.toNat]⟩, false, decide (n ≠ 34))
  else if n = 44 then (st.1 ++ [st.2.1], Str.ofString "", false, false)
  else (st.1, st.2.1 ++ ⟨#[n.toNat]⟩, false, decide (n = 34))

noncomputable def hInv (pre : List Int) (res : List Str) (part : Str) (esc quo : Bool) : Prop :=
  (res, part, esc, quo) = pre.foldl hstep ([], Str.ofString "", false, false) ∧ part.length ≤ pre.length ∧ res.length ≤ pre.length ∧ ∀ r ∈ res, r.length ≤ pre.length

theorem hInv_snoc {pre : List Int} {res res' : List Str} {part part' : Str} {esc esc' quo quo' : Bool} {n : Nat} (h1 : (res, part, esc, quo) = pre.foldl hstep ([], Str.ofString "", false, false)) (h2 : part.length ≤ pre.length) (h3 : res.length ≤ pre.length) (h4 : ∀ r ∈ res, r.length ≤ pre.length)
    (e : (res', part', esc', quo') = hstep (res, part, esc, quo) (n : Int)) (l1 : part'.length ≤ part.length + 1) (l2 : res' = res ∨ res' = res ++ [part]) : hInv (pre ++ [(n : Int)]) res' part' esc' quo' := by
  refine ⟨?_, ?_, ?_, ?_⟩
  · rw [List.foldl_append, ← h1]; exact e
  · simp only [List.length_append, List.length_cons, List.length_nil]; omega
  · rcases l2 with rfl | rfl <;> simp only [List.length_append, List.length_cons, List.length_nil] <;> omega
  · simp only [List.length_append, List.length_cons, List.length_nil]
    rcases l2 with rfl | rfl
    · intro r hr; have := h4 r hr; omega
    · intro r hr
      rcases List.mem_append.mp hr with hr | hr
      · have := h4 r hr; omega
      · rw [List.mem_singleton.mp hr]; omega
theorem one_eq (n c : Nat) (y : Str) (hy : y = ⟨#[c]⟩) : ((⟨#[n]⟩ : Str) == y) = decide (n = c) := by
  subst hy
  by_cases h : n = c
  · subst h; simp
  · simp [h]
theorem comma_eq (n : Nat) : ((⟨#[n]⟩ : Str) == Str.ofString ",") = decide (n = 44) := one_eq n 44 _ (by decide +kernel)
theorem quot_eq (n : Nat) : ((⟨#[n]⟩ : Str) == Str.ofString "\"") = decide (n = 34) := one_eq n 34 _ (by decide +kernel)
theorem back_eq (n : Nat) : ((⟨#[n]⟩ : Str) == Str.ofString "\\") = decide (n = 92) := one_eq n 92 _ (by decide +kernel)
theorem len_snoc (p : Str) (n : Nat) : (p ++ (⟨#[n]⟩ : Str)).length = p.length + 1 := by rw [Str.length_append]; rfl

noncomputable def hend (st : List Str × Str × Bool × Bool) : List Str := if st.2.1.length = 0 then st.1 else st.1 ++ [st.2.1]
noncomputable def hparse (x : Str) : List Str := (hend ((KStt.codes x).foldl hstep ([], Str.ofString "", false, false))).map Txt.strip

structure HC where
  us : List Value
  n : Nat
  res : List Str
  part : Str
  tp : Tok
  esc : Bool
  quo : Bool




theorem http_ctr {w : World} {base : Heap} {mean : ExcName → Option Value} {mg mb : Str → Option Value} (XB : (Mine.hd.heap_39 w.params).In base) (TB : Top Mine.hd.view_39 (looseW Mine.hd.view_39 []) mean mg mb base)
  (x : Str) (t : Tok) (hx : x.length ≤ 100000) : Ctr w base 40 [.str x t] 1 100 (fun _ => True) (fun h h' v => ∃ D us n, v = .ref D ∧ h.get? D = none ∧ h'.get? D = some (W.listOf us.toArray n) ∧ StrsAre us (hparse x)) := by
  unfold Ctr
  revert XB
  k_fill
  intro XB dp un gd envs s R B hd hu hpre hret
  refine' enterP (binds := [(Str.ofString "s", .str x t)]) B XB TB ?k6 ?k7 ?k8 ?k9 ?kB ?_ ?c2 ?c3 ?c4 ?c5
  case k6 => k_is
  case k7 => k_is
  case k8 => exact Nat.lt_of_le_of_lt (Nat.le_add_right _ _) hd
  case k9 => exact BindsTo.of_eq rfl
  case kB => exact locs rfl
  case c2 => exact rfl
  case c3 => exact rfl
  case c4 => exact rfl
  case c5 => decide
  intro L h₁ hL F N X T
  refine wpAny_noRaise ?_
  iterate 20 walk1
  rename Fr _ _ _ _ => F1
  rename News _ _ _ _ => N1
  refine For_invVF F1 rfl rfl ?_
  walk1
  obtain ⟨tp, l, F1, N1⟩ : ∃ tp l, Fr s.heap L _ (mp [(Str.ofString "quote", .bool false), (Str.ofString "escape", .bool false), (Str.ofString "part", .str (Str.ofString "") tp), (Str.ofString "res", .ref l), (Str.ofString "s", .str x t)]) ∧ News s.heap L _ [(l, W.listOf #[] 0)] := ⟨_, _, F1, N1⟩
  refine' KStt.kst_text (σ := HC) (fun c => [(l, W.listOf c.us.toArray c.n)]) (fun c => [(Str.ofString "part", .str c.part c.tp), (Str.ofString "escape", .bool c.esc), (Str.ofString "quote", .bool c.quo)]) (fun c => StrsAre c.us c.res) [] (fun pre c => hInv pre c.res c.part c.esc c.quo) ⟨[], 0, [], Str.ofString "", tp, false, false⟩ rfl F1 N1 .nil ?hk ?hp ?turn ?done
  case hk => exact List.forall_mem_cons.mpr ⟨rfl, List.forall_mem_cons.mpr ⟨rfl, List.forall_mem_cons.mpr ⟨rfl, List.forall_mem_nil _⟩⟩⟩
  case hp => exact ⟨rfl, show (Str.ofString "").length ≤ 0 by decide, Nat.le_refl _, fun _ h => nomatch h⟩
  case turn =>
    rintro ⟨us, n0, res, part, tp1, esc, quo⟩ pre post n t1 u h tk own hc hoff hf hp F2 N2
    dsimp only [envOf] at F2 N2 hf hp
    clear F1 N1
    obtain ⟨hp1, hp2, hp3, hp4⟩ := hp
    have hlen : pre.length + 1 ≤ x.length := by rw [← KStt.codes_length, hc]; simp
    have hpl : part.length ≤ 100000 := by omega
    have hsn := @hInv_snoc pre res
    have l0 := Nat.le_of_eq (len_snoc part n)
    cases esc with
    | true =>
      walk_at "go"
      refine' kst_end ⟨us, n0, res, part ++ ⟨#[n]⟩, _, false, quo⟩ (by assumption) (by assumption) ?_ ?_ rfl hf ?_ ?_ (hsn hp1 hp2 hp3 hp4 (by simp [hstep]) l0 (.inl rfl)) <;> (first
            | exact fun p hp => List.mem_append_left _ hp
            | exact fun p hp => List.mem_append_right _ hp
            | (rw [← List.push_toArray]; exact List.forall_mem_cons.mpr ⟨List.mem_cons_self, List.forall_mem_nil _⟩)
            | exact fun p hp => List.mem_cons_of_mem _ hp
            | ((repeat (first | exact List.forall_mem_nil _ | refine List.forall_mem_cons.mpr ⟨by with_unfolding_all rfl, ?_⟩)); done)
            | (intro z h1 h2 _; (have q1 := h2 _ (List.Mem.head _)); (have q2 := h2 _ (List.Mem.tail _ (List.Mem.head _))); (have q3 := h2 _ (List.Mem.tail _ (List.Mem.tail _ (List.Mem.head _)))); (repeat (first | exact (if_neg Bool.false_ne_true : (if ([] : List Str).contains z = true then u z else _) = _) | refine (if_neg h1).trans ?_ | refine (if_neg q1).trans ?_ | refine (if_neg q2).trans ?_ | refine (if_neg q3).trans ?_)); done))
    | false =>
      cases quo with
      | true =>
        by_cases c1 : n = 92
        · have e1 : ((⟨#[n]⟩ : Str) == Str.ofString "\\") = true := by rw [back_eq]; simp [c1]
          walk_at "go"
          refine' kst_end ⟨us, n0, res, part, _, true, true⟩ (by assumption) (by assumption) ?_ ?_ rfl hf ?_ ?_ (hsn hp1 hp2 hp3 hp4 (by simp [hstep, c1]) (Nat.le_succ _) (.inl rfl)) <;> (first
            | exact fun p hp => List.mem_append_left _ hp
            | exact fun p hp => List.mem_append_right _ hp
            | (rw [← List.push_toArray]; exact List.forall_mem_cons.mpr ⟨List.mem_cons_self, List.forall_mem_nil _⟩)
            | exact fun p hp => List.mem_cons_of_mem _ hp
            | ((repeat (first | exact List.forall_mem_nil _ | refine List.forall_mem_cons.mpr ⟨by with_unfolding_all rfl, ?_⟩)); done)
            | (intro z h1 h2 _; (have q1 := h2 _ (List.Mem.head _)); (have q2 := h2 _ (List.Mem.tail _ (List.Mem.head _))); (have q3 := h2 _ (List.Mem.tail _ (List.Mem.tail _ (List.Mem.head _)))); (repeat (first | exact (if_neg Bool.false_ne_true : (if ([] : List Str).contains z = true then u z else _) = _) | refine (if_neg h1).trans ?_ | refine (if_neg q1).trans ?_ | refine (if_neg q2).trans ?_ | refine (if_neg q3).trans ?_)); done))
        · have e1 : ((⟨#[n]⟩ : Str) == Str.ofString "\\") = false := by rw [back_eq]; simp [c1]
          have c1' : (n : Int) ≠ 92 := by omega
          by_cases c2 : n = 34
          · have e2 : ((⟨#[n]⟩ : Str) == Str.ofString "\"") = true := by rw [quot_eq]; simp [c2]
            walk_at "go"
            refine' kst_end ⟨us, n0, res, part ++ ⟨#[n]⟩, _, false, false⟩ (by assumption) (by assumption) ?_ ?_ rfl hf ?_ ?_ (hsn hp1 hp2 hp3 hp4 (by simp [hstep, c2]) l0 (.inl rfl)) <;> (first
            | exact fun p hp => List.mem_append_left _ hp
            | exact fun p hp => List.mem_append_right _ hp
            | (rw [← List.push_toArray]; exact List.forall_mem_cons.mpr ⟨List.mem_cons_self, List.forall_mem_nil _⟩)
            | exact fun p hp => List.mem_cons_of_mem _ hp
            | ((repeat (first | exact List.forall_mem_nil _ | refine List.forall_mem_cons.mpr ⟨by with_unfolding_all rfl, ?_⟩)); done)
            | (intro z h1 h2 _; (have q1 := h2 _ (List.Mem.head _)); (have q2 := h2 _ (List.Mem.tail _ (List.Mem.head _))); (have q3 := h2 _ (List.Mem.tail _ (List.Mem.tail _ (List.Mem.head _)))); (repeat (first | exact (if_neg Bool.false_ne_true : (if ([] : List Str).contains z = true then u z else _) = _) | refine (if_neg h1).trans ?_ | refine (if_neg q1).trans ?_ | refine (if_neg q2).trans ?_ | refine (if_neg q3).trans ?_)); done))
          · have e2 : ((⟨#[n]⟩ : Str) == Str.ofString "\"") = false := by rw [quot_eq]; simp [c2]
            have c2'' : (n : Int) ≠ 34 := by omega
            walk_at "go"
            refine' kst_end ⟨us, n0, res, part ++ ⟨#[n]⟩, _, false, true⟩ (by assumption) (by assumption) ?_ ?_ rfl hf ?_ ?_ (hsn hp1 hp2 hp3 hp4 (by simp [hstep, c1', c2'']) l0 (.inl rfl)) <;> (first
            | exact fun p hp => List.mem_append_left _ hp
            | exact fun p hp => List.mem_append_right _ hp
            | (rw [← List.push_toArray]; exact List.forall_mem_cons.mpr ⟨List.mem_cons_self, List.forall_mem_nil _⟩)
            | exact fun p hp => List.mem_cons_of_mem _ hp
            | ((repeat (first | exact List.forall_mem_nil _ | refine List.forall_mem_cons.mpr ⟨by with_unfolding_all rfl, ?_⟩)); done)
            | (intro z h1 h2 _; (have q1 := h2 _ (List.Mem.head _)); (have q2 := h2 _ (List.Mem.tail _ (List.Mem.head _))); (have q3 := h2 _ (List.Mem.tail _ (List.Mem.tail _ (List.Mem.head _)))); (repeat (first | exact (if_neg Bool.false_ne_true : (if ([] : List Str).contains z = true then u z else _) = _) | refine (if_neg h1).trans ?_ | refine (if_neg q1).trans ?_ | refine (if_neg q2).trans ?_ | refine (if_neg q3).trans ?_)); done))
      | false =>
        by_cases c1 : n = 44
        · have e1 : ((⟨#[n]⟩ : Str) == Str.ofString ",") = true := by rw [comma_eq]; simp [c1]
          walk_at "go"
          refine' kst_end ⟨us ++ [.str part tp1], n0 + 1, res ++ [part], Str.ofString "", _, false, false⟩ (by assumption) (by assumption) ?_ ?_ rfl (KStt.strs_snoc hf) ?_ ?_ (hsn hp1 hp2 hp3 hp4 (by simp [hstep, c1]) (Nat.zero_le _) (.inr rfl)) <;> (first
            | exact fun p hp => List.mem_append_left _ hp
            | exact fun p hp => List.mem_append_right _ hp
            | (rw [← List.push_toArray]; exact List.forall_mem_cons.mpr ⟨List.mem_cons_self, List.forall_mem_nil _⟩)
            | exact fun p hp => List.mem_cons_of_mem _ hp
            | ((repeat (first | exact List.forall_mem_nil _ | refine List.forall_mem_cons.mpr ⟨by with_unfolding_all rfl, ?_⟩)); done)
            | (intro z h1 h2 _; (have q1 := h2 _ (List.Mem.head _)); (have q2 := h2 _ (List.Mem.tail _ (List.Mem.head _))); (have q3 := h2 _ (List.Mem.tail _ (List.Mem.tail _ (List.Mem.head _)))); (repeat (first | exact (if_neg Bool.false_ne_true : (if ([] : List Str).contains z = true then u z else _) = _) | refine (if_neg h1).trans ?_ | refine (if_neg q1).trans ?_ | refine (if_neg q2).trans ?_ | refine (if_neg q3).trans ?_)); done))
        · have e1 : ((⟨#[n]⟩ : Str) == Str.ofString ",") = false := by rw [comma_eq]; simp [c1]
          have c1' : (n : Int) ≠ 44 := by omega
          by_cases c2 : n = 34
          · have e2 : ((⟨#[n]⟩ : Str) == Str.ofString "\"") = true := by rw [quot_eq]; simp [c2]
            walk_at "go"
            refine' kst_end ⟨us, n0, res, part ++ ⟨#[n]⟩, _, false, true⟩ (by assumption) (by assumption) ?_ ?_ rfl hf ?_ ?_ (hsn hp1 hp2 hp3 hp4 (by simp [hstep, c2]) l0 (.inl rfl)) <;> (first
            | exact fun p hp => List.mem_append_left _ hp
            | exact fun p hp => List.mem_append_right _ hp
            | (rw [← List.push_toArray]; exact List.forall_mem_cons.mpr ⟨List.mem_cons_self, List.forall_mem_nil _⟩)
            | exact fun p hp => List.mem_cons_of_mem _ hp
            | ((repeat (first | exact List.forall_mem_nil _ | refine List.forall_mem_cons.mpr ⟨by with_unfolding_all rfl, ?_⟩)); done)
            | (intro z h1 h2 _; (have q1 := h2 _ (List.Mem.head _)); (have q2 := h2 _ (List.Mem.tail _ (List.Mem.head _))); (have q3 := h2 _ (List.Mem.tail _ (List.Mem.tail _ (List.Mem.head _)))); (repeat (first | exact (if_neg Bool.false_ne_true : (if ([] : List Str).contains z = true then u z else _) = _) | refine (if_neg h1).trans ?_ | refine (if_neg q1).trans ?_ | refine (if_neg q2).trans ?_ | refine (if_neg q3).trans ?_)); done))
          · have e2 : ((⟨#[n]⟩ : Str) == Str.ofString "\"") = false := by rw [quot_eq]; simp [c2]
            have c2' : (n : Int) ≠ 34 := by omega
            walk_at "go"
            refine' kst_end ⟨us, n0, res, part ++ ⟨#[n]⟩, _, false, false⟩ (by assumption) (by assumption) ?_ ?_ rfl hf ?_ ?_ (hsn hp1 hp2 hp3 hp4 (by simp [hstep, c1', c2']) l0 (.inl rfl)) <;> (first
            | exact fun p hp => List.mem_append_left _ hp
            | exact fun p hp => List.mem_append_right _ hp
            | (rw [← List.push_toArray]; exact List.forall_mem_cons.mpr ⟨List.mem_cons_self, List.forall_mem_nil _⟩)
            | exact fun p hp => List.mem_cons_of_mem _ hp
            | ((repeat (first | exact List.forall_mem_nil _ | refine List.forall_mem_cons.mpr ⟨by with_unfolding_all rfl, ?_⟩)); done)
            | (intro z h1 h2 _; (have q1 := h2 _ (List.Mem.head _)); (have q2 := h2 _ (List.Mem.tail _ (List.Mem.head _))); (have q3 := h2 _ (List.Mem.tail _ (List.Mem.tail _ (List.Mem.head _)))); (repeat (first | exact (if_neg Bool.false_ne_true : (if ([] : List Str).contains z = true then u z else _) = _) | refine (if_neg h1).trans ?_ | refine (if_neg q1).trans ?_ | refine (if_neg q2).trans ?_ | refine (if_neg q3).trans ?_)); done))
  case done =>
    rintro ⟨us, n0, res, part, tp1, esc, quo⟩ u h tk hf hp F2 N2
    dsimp only [envOf] at F2 N2 hf hp
    clear F1 N1
    obtain ⟨hp1, hp2, hp3, hp4⟩ := hp
    rw [KStt.codes_length] at hp2 hp3 hp4
    refine wpAny_execs_cons (wpAny_mono (Q := fun f s' => f = .next ∧ ∃ h' tk' us' n' res' m', s' = { s with heap := h', toks := tk' } ∧ Fr s.heap L h' m' ∧ m' (Str.ofString "res") = some (.ref l) ∧ News s.heap L h' [(l, W.listOf us'.toArray n')] ∧ StrsAre us' res' ∧ res' = hend (res, part, esc, quo)) ?_ ?_ (fun _ _ e => e))
    · walk_at "go"
      · refine ⟨rfl, _, _, us, n0, res, _, rfl, by assumption, by with_unfolding_all rfl, by assumption, hf, ?_⟩
        have : part.length = 0 := by omega
        simp [hend, this]
      · refine ⟨rfl, _, _, us ++ [.str part tp1], n0 + 1, res ++ [part], _, rfl, by assumption, by with_unfolding_all rfl, by rw [← List.push_toArray]; assumption, KStt.strs_snoc hf, ?_⟩
        have : part.length ≠ 0 := by omega
        simp [hend, this]
    · rintro f s' ⟨rfl, h3, tk3, us3, n3, res3, m3, rfl, F3, hm3, N3, hf3, e3⟩
      have hl3 : us3.length ≤ 100001 := by rw [hf3.length, e3]; unfold hend; split <;> simp <;> omega
      iterate 2 walk1
      refine LCg.ListComp_U (F₀ := F3) (by with_unfolding_all rfl) (by decide) (by rfl) (by decide) (by rfl) ?_
      refine ld F3 hm3 ?_
      refine LCg.CompSrc.ledger rfl F3 N3 (List.mem_singleton.mpr rfl) (by rw [List.size_toArray, sizeLine_eq]; omega) fun g => ?_
      refine rest_fix (fun i ys => StrsAre ys ((res3.take i).map Txt.strip)) .nil ?_ ?_
      · clear F2 N2
        rintro i ys v I oI C oC D m₂ h tk E' hi hy hv hC hx4 F4 N4 off ne
        obtain ⟨y, ty, rfl, hy2⟩ := hf3.item i v (by simpa using hv)
        have hyl : y.length ≤ 100000 := by
          have := List.mem_of_getElem? hy2
          rw [e3] at this
          unfold hend at this
          split at this
          · exact Nat.le_trans (hp4 y this) hx
          · rcases List.mem_append.mp this with q | q
            · exact Nat.le_trans (hp4 y q) hx
            · rw [List.mem_singleton.mp q]; exact Nat.le_trans hp2 hx
        iterate 6 walk1
        refine LCg.CompEnd.intro F4 N4 _ (fun _ hp => hp) off (.inr ⟨_, List.mem_singleton.mpr rfl, rfl, n3, rfl⟩) ⟨rfl, ?_⟩
        rw [List.take_add_one, hy2, List.map_append]
        exact KStt.strs_snoc hy
      · rintro ys hy D h tk F5 N5 hD
        refine hret _ _ _ F5.keep ⟨D, ys, _, rfl, (N5 _ List.mem_cons_self).2.2, (N5 _ List.mem_cons_self).1, ?_⟩
        have e4 : us3.toArray.size = res3.length := by rw [List.size_toArray]; exact hf3.length
        rw [e4, List.take_length, e3, hp1] at hy
        exact hy
end Mine
end

section
open PySem PySem.W PyProof.Rows PySem.Calls PySem.Spec PyProof.V
namespace Mine

noncomputable def dput (D : List (Str × Str)) (p : Str × Str) : List (Str × Str) :=
  if D.any (fun q => q.1 = p.1) then D.map (fun q => if q.1 = p.1 then (q.1, p.2) else q) else D ++ [p]
noncomputable def denc (D : List (Str × Str)) : List (PyData × PyData) := D.map fun p => (.str p.1, .str p.2)
noncomputable def unq (v : Str) : Str := if (Txt.item v 0 == Str.ofString "\"") && (Txt.item v (-1) == Str.ofString "\"") then Txt.slice v (some 1) (some (-1)) else v
noncomputable def dall (ws : List (Str × Str)) : List (Str × Str) := (ws.map fun p => (p.1, unq p.2)).foldl dput []
noncomputable def kv (p : Str × Str) : Str := p.1 ++ Str.ofString "=" ++ p.2

theorem put_enc (D : List (Str × Str)) (a b : Str) : putD (.str a) (.str b) (denc D) = denc (dput D (a, b)) := by
  unfold putD dput denc
  have e : ∀ q : Str × Str, same (PyData.str q.1) (PyData.str a) = decide (q.1 = a) := fun q => PyProof.V.same_str _ _
  rw [List.any_map]
  simp only [Function.comp_def, e]
  split
  · rw [List.map_map, List.map_map]
    refine List.map_congr_left fun q _ => ?_
    simp only [Function.comp_def, e]
    by_cases h : q.1 = a <;> simp [h]
  · rw [List.map_append]; rfl
theorem dput_length (D : List (Str × Str)) (p : Str × Str) : (dput D p).length ≤ D.length + 1 := by
  unfold dput; split <;> simp
theorem dall_snoc (ws : List (Str × Str)) (p : Str × Str) : dall (ws ++ [p]) = dput (dall ws) (p.1, unq p.2) := by
  unfold dall; rw [List.map_append, List.foldl_append]; rfl
theorem foldl_dput_length (ws : List (Str × Str)) : ∀ D : List (Str × Str), (ws.foldl dput D).length ≤ D.length + ws.length := by
  induction ws with
  | nil => intro D; simp
  | cons p r ih => intro D; have h1 := ih (dput D p); have h2 := dput_length D p; simp only [List.foldl_cons, List.length_cons]; omega
theorem dall_length (ws : List (Str × Str)) : (dall ws).length ≤ ws.length := by
  unfold dall; have := foldl_dput_length (ws.map fun p => (p.1, unq p.2)) []; simpa using this

structure KC where
  o : Obj
  kvs : List (Str × Value)
  D : List (Str × Str)


theorem keqv_ctr {w : World} {base : Heap} {mean : ExcName → Option Value} {mg mb : Str → Option Value} (XB : (Mine.hd.heap_39 w.params).In base) (TB : Top Mine.hd.view_39 (looseW Mine.hd.view_39 []) mean mg mb base)
  (l : Addr) (us : List Value) (ws : List (Str × Str)) (hus : StrsAre us (ws.map kv)) (hws : ∀ p ∈ ws, 61 ∉ p.1.cps ∧ 1 ≤ p.2.length ∧ p.1.length ≤ 1000 ∧ p.2.length ≤ 1000) (hwl : ws.length ≤ 1000) :
  Ctr w base 35 [.ref l] 1 100 (fun h => h.IsList l us.toArray) (fun h h' v => ∃ D o kvs, v = .ref D ∧ (D == sysModules) = false ∧ h.get? D = none ∧ h'.get? D = some o ∧ o.IsDictOf (PySem.strKind PySem.Challenge.rw_pk0041_01.row.prog w) kvs ∧ FlatPairs PyData.str kvs (denc (dall ws))) := by
  unfold Ctr
  revert XB
  k_fill
  intro XB dp un gd envs s R B hd hu hpre hret
  refine' enterP (binds := [(Str.ofString "l", .ref l)]) B XB TB ?k6 ?k7 ?k8 ?k9 ?kB ?_ ?c2 ?c3 ?c4 ?c5
  case k6 => k_is
  case k7 => k_is
  case k8 => exact Nat.lt_of_le_of_lt (Nat.le_add_right _ _) hd
  case k9 => exact BindsTo.of_eq rfl
  case kB => exact locs rfl
  case c2 => exact rfl
  case c3 => exact rfl
  case c4 => exact rfl
  case c5 => decide
  intro L h₁ hL F N X T
  refine wpAny_noRaise ?_
  walk_at "go"
  rename Fr _ _ _ _ => F1
  rename News _ _ _ _ => N1
  rename Obj.IsDictOf (PySem.strKind _ _) _ _ => hs1
  rename (_ == sysModules) = false => lo1
  refine For_invVF F1 rfl rfl ?_
  walk1
  obtain ⟨d, o, F1, N1, hs1, lo1⟩ : ∃ d o, Fr s.heap L _ (mp [(Str.ofString "parsed", .ref d), (Str.ofString "l", .ref l)]) ∧ News s.heap L _ [(d, o)] ∧ Obj.IsDictOf (PySem.strKind PySem.Challenge.rw_pk0041_01.row.prog w) o [] ∧ (d == sysModules) = false := ⟨_, _, F1, N1, hs1, lo1⟩
  refine' kstv_base (σ := KC) (fun c => [(d, c.o)]) (fun c => []) (fun c => c.o.IsDictOf (PySem.strKind PySem.Challenge.rw_pk0041_01.row.prog w) c.kvs ∧ FlatPairs PyData.str c.kvs (denc c.D)) [Str.ofString "k", Str.ofString "v"] (fun i c => c.D = dall (ws.take i)) ⟨o, [], []⟩ rfl hpre F1 N1 ⟨hs1, .nil⟩ (List.forall_mem_nil _) rfl ?turn ?done
  case turn =>
    rintro ⟨o, kvs, D⟩ i v u h tk own hi hv hoff ⟨hf1, hf2⟩ hp F2 N2
    dsimp only [envOf] at F2 N2 hf1 hf2 hp
    clear F1 N1 hs1
    obtain ⟨y, ty, rfl, hy⟩ := hus.item i v hv
    rw [List.getElem?_map] at hy
    obtain ⟨p, hp1, rfl⟩ : ∃ p, ws[i]? = some p ∧ kv p = y := by
      cases e : ws[i]? with
      | none => rw [e] at hy; cases hy
      | some p => rw [e] at hy; exact ⟨p, rfl, Option.some.inj hy⟩
    obtain ⟨q1, q2, q3, q4⟩ := hws p (List.mem_of_getElem? hp1)
    have hkvl : (kv p).length ≤ 2001 := by unfold kv; rw [Str.length_append, Str.length_append]; have : (Str.ofString "=").length = 1 := by decide +kernel
                                           omega
    walk_at "go"
    have hdlt : d < h.objs.size := Heap.lt_size (N2 (d, o) List.mem_cons_self).1
    have hoff2 : ∀ q ∈ own, q.1 ≠ d := fun q hq => hoff q hq d List.mem_cons_self
    refine splitN2A F2 N2 (by decide) (by decide) (fun lst h' tk' e1 z1 z2 z3 F3 N3 => ?_) (by rw [sizeLine_eq]; omega)
    clear z1 z2 z3
    rw [show Txt.splitMax (kv p) (Str.ofString "=") 1 = [p.1, p.2] from split_one _ _ q1] at e1
    obtain ⟨t1, r1, rfl, e2⟩ := KSpl.cons_of e1
    obtain ⟨t2, r2, rfl, e3⟩ := KSpl.cons_of e2
    obtain rfl := KSpl.nil_of e3
    clear e1 e2 e3
    simp only [strValues, List.map_cons, List.map_nil] at N3
    have hD : (denc D).length ≤ sizeLine := by
      unfold denc
      have := dall_length (ws.take i)
      rw [List.length_map, sizeLine_eq, hp]
      rw [List.length_take] at this
      omega
    have hnext : ∀ v, v = unq p.2 → dput D (p.1, v) = dall (ws.take (i + 1)) := by
      rintro v rfl
      rw [List.take_add_one, hp1, hp]
      exact (dall_snoc _ _).symm
    walk_at "go"
    all_goals (try walk_at "go")
    all_goals (
      refine setItem_K PyProof.V.same_str (strKind_is _ _ _ _) (Flat.str _ _) (by assumption) (by assumption) (UpdF.tail (Nat.ne_of_gt hdlt) (UpdF.head hoff2)) hf1 hf2 (fun h9 o9 F9 N9 hd9 hf9 => ?_) hD
      rw [put_enc] at hf9
      walk1)
    · have hn : dput D (p.1, p.2) = dall (ws.take (i + 1)) := hnext p.2 (by unfold unq; rw [show (Txt.item p.2 0 == Str.ofString "\"") = false by assumption]; rfl)
      refine' kstv_end (σ := KC) ⟨o9, _, dput D (p.1, p.2)⟩ F9 N9 ?_ ?_ rfl (And.intro hd9 hf9) (List.forall_mem_nil _) ?_ hn <;> (first
        | exact List.forall_mem_cons.mpr ⟨List.mem_cons_of_mem _ List.mem_cons_self, List.forall_mem_nil _⟩
        | exact fun p hp => List.mem_cons_of_mem _ (List.mem_cons_of_mem _ hp)
        | (intro z h1 h2 h3; (repeat (first | refine (off_if h3 (by decide)).trans ?_ | refine (if_neg h1).trans ?_ | exact if_neg (by rw [h3]; exact Bool.false_ne_true))); done))
    · have hn : dput D (p.1, p.2) = dall (ws.take (i + 1)) := hnext p.2 (by unfold unq; rw [show (Txt.item p.2 (-1) == Str.ofString "\"") = false by assumption, Bool.and_false]; rfl)
      refine' kstv_end (σ := KC) ⟨o9, _, dput D (p.1, p.2)⟩ F9 N9 ?_ ?_ rfl (And.intro hd9 hf9) (List.forall_mem_nil _) ?_ hn <;> (first
        | exact List.forall_mem_cons.mpr ⟨List.mem_cons_of_mem _ List.mem_cons_self, List.forall_mem_nil _⟩
        | exact fun p hp => List.mem_cons_of_mem _ (List.mem_cons_of_mem _ hp)
        | (intro z h1 h2 h3; (repeat (first | refine (off_if h3 (by decide)).trans ?_ | refine (if_neg h1).trans ?_ | exact if_neg (by rw [h3]; exact Bool.false_ne_true))); done))
    · have hn : dput D (p.1, Txt.slice p.2 (some 1) (some (-1))) = dall (ws.take (i + 1)) := hnext _ (by unfold unq; rw [show (Txt.item p.2 0 == Str.ofString "\"") = true by assumption, show (Txt.item p.2 (-1) == Str.ofString "\"") = true by assumption]; rfl)
      refine' kstv_end (σ := KC) ⟨o9, _, dput D (p.1, Txt.slice p.2 (some 1) (some (-1)))⟩ F9 N9 ?_ ?_ rfl (And.intro hd9 hf9) (List.forall_mem_nil _) ?_ hn <;> (first
        | exact List.forall_mem_cons.mpr ⟨List.mem_cons_of_mem _ List.mem_cons_self, List.forall_mem_nil _⟩
        | exact fun p hp => List.mem_cons_of_mem _ (List.mem_cons_of_mem _ hp)
        | (intro z h1 h2 h3; (repeat (first | refine (off_if h3 (by decide)).trans ?_ | refine (if_neg h1).trans ?_ | exact if_neg (by rw [h3]; exact Bool.false_ne_true))); done))
  case done =>
    rintro ⟨o, kvs, D⟩ u h tk ⟨hf1, hf2⟩ hp F2 N2
    dsimp only [envOf] at F2 N2 hf1 hf2 hp
    clear F1 N1 hs1
    walk_at "go"
    have hl2 : us.length = ws.length := by rw [hus.length, List.length_map]
    rw [hl2, List.take_length] at hp
    subst hp
    exact hret _ _ _ F2.keep ⟨d, o, kvs, rfl, lo1, (N2 _ List.mem_cons_self).2.2, (N2 _ List.mem_cons_self).1, hf1, hf2⟩
end Mine
end

section
open PySem PySem.W PyProof.Rows PySem.Calls PySem.Spec PyProof.V
namespace Mine

noncomputable def coll (a b : Str) : Int := b2i (decide (b.cps.toList < a.cps.toList)) - b2i (decide (a.cps.toList < b.cps.toList))

theorem coll_ctr {w : World} {base : Heap} {mean : ExcName → Option Value} {mg mb : Str → Option Value} (XB : (Mine.hd.heap_39 w.params).In base) (TB : Top Mine.hd.view_39 (looseW Mine.hd.view_39 []) mean mg mb base)
  (a b : Str) (t u : Tok) : Ctr w base 21 [.str a t, .str b u] 1 20 (fun _ => True) (fun h h' v => ∃ t, v = .int (coll a b) t) := by
  unfold Ctr
  revert XB
  k_fill
  intro XB dp un gd envs s R B hd hu hpre hret
  refine' enterP (binds := [(Str.ofString "a", .str a t), (Str.ofString "b", .str b u)]) B XB TB ?k6 ?k7 ?k8 ?k9 ?kB ?_ ?c2 ?c3 ?c4 ?c5
  case k6 => k_is
  case k7 => k_is
  case k8 => exact Nat.lt_of_le_of_lt (Nat.le_add_right _ _) hd
  case k9 => exact BindsTo.of_eq rfl
  case kB => exact locs rfl
  case c2 => exact rfl
  case c3 => exact rfl
  case c4 => exact rfl
  case c5 => decide
  intro L h₁ hL F N X T
  refine wpAny_noRaise ?_
  walk_at "go"
  exact hret _ _ _ F.keep ⟨_, rfl⟩
end Mine
end

section
open PySem PySem.W PyProof.Rows PySem.Calls PySem.Spec PyProof.V
namespace Mine

/-- a fact that omega is not to see -/
def Hid (p : Prop) : Prop := p
theorem lt_tri (a b : List Nat) : (a < b ∧ ¬ b < a ∧ a ≠ b) ∨ (b < a ∧ ¬ a < b ∧ a ≠ b) ∨ (a = b ∧ ¬ a < b ∧ ¬ b < a) := by
  by_cases h : a = b
  · subst h; exact .inr (.inr ⟨rfl, List.lt_irrefl _, List.lt_irrefl _⟩)
  · by_cases h1 : a < b
    · exact .inl ⟨h1, fun h2 => List.lt_irrefl _ (List.lt_trans h1 h2), h⟩
    · have h2 : b ≤ a := List.not_lt.mp h1
      rcases List.le_iff_lt_or_eq.mp h2 with h3 | h3
      · exact .inr (.inl ⟨h3, h1, h⟩)
      · exact absurd h3.symm h
theorem coll_tri (a b : Str) : (coll a b = -1 ∧ coll b a = 1 ∧ a ≠ b) ∨ (coll a b = 1 ∧ coll b a = -1 ∧ a ≠ b) ∨ (coll a b = 0 ∧ coll b a = 0 ∧ a = b) := by
  unfold coll
  rcases lt_tri a.cps.toList b.cps.toList with ⟨h1, h2, h3⟩ | ⟨h1, h2, h3⟩ | ⟨h1, h2, h3⟩
  · refine .inl ⟨by simp [h1, h2, b2i], by simp [h1, h2, b2i], fun e => h3 (by rw [e])⟩
  · refine .inr (.inl ⟨by simp [h1, h2, b2i], by simp [h1, h2, b2i], fun e => h3 (by rw [e])⟩)
  · refine .inr (.inr ⟨by simp [h2, h3], by simp [h2, h3], Str.ext' (Array.toList_inj.mp h1)⟩)

noncomputable def sg (xs : List Str) (i j : Nat) : Str := if coll (xs.getD j Str.empty) (xs.getD i Str.empty) = 1 then Str.ofString "\"" else Str.ofString "n"
noncomputable def sgRow (xs : List Str) (i : Nat) (k : Nat) (a : Str) : Str := (List.range k).foldl (fun a j => a ++ sg xs i j) a
noncomputable def sgAll (xs : List Str) (n : Nat) : Str := (List.range n).foldl (fun a i => sgRow xs i i a) (Str.ofString "")

theorem sgRow_succ (xs : List Str) (i k : Nat) (a : Str) : sgRow xs i (k + 1) a = sgRow xs i k a ++ sg xs i k := by
  unfold sgRow; rw [List.range_succ, List.foldl_append]; rfl
theorem sgAll_succ (xs : List Str) (n : Nat) : sgAll xs (n + 1) = sgRow xs n n (sgAll xs n) := by
  unfold sgAll; rw [List.range_succ, List.foldl_append]; rfl
theorem sg_row_next {xs : List Str} {i j : Nat} {a b c : Str} (h : b = sgRow xs i (min j i) a) (hlt : j < i) (e : sg xs i j = c) : b ++ c = sgRow xs i (min (j + 1) i) a := by
  have h1 : min j i = j := by omega
  have h2 : min (j + 1) i = j + 1 := by omega
  rw [h2, sgRow_succ, h, h1, e]
theorem nodup_getD {xs : List Str} (h : xs.Nodup) {i j : Nat} (hi : i < xs.length) (hj : j < xs.length) (e : xs.getD i Str.empty = xs.getD j Str.empty) : i = j := by
  rw [List.getD_eq_getElem?_getD, List.getD_eq_getElem?_getD, List.getElem?_eq_getElem hi, List.getElem?_eq_getElem hj] at e
  exact (List.getElem_inj h).mp (by simpa using e)


theorem signs_ctr {w : World} {base : Heap} {mean : ExcName → Option Value} {mg mb : Str → Option Value} (XB : (Mine.hd.heap_39 w.params).In base) (TB : Top Mine.hd.view_39 (looseW Mine.hd.view_39 []) mean mg mb base)
  (l : Addr) (us : List Value) (xs : List Str) (hus : StrsAre us xs) (hnd : xs.Nodup) (hl : xs.length ≤ 100) :
  Ctr w base 64 [.ref l] 2 100 (fun h => h.IsList l us.toArray) (fun h h' v => ∃ t, v = .str (sgAll xs xs.length) t) := by
  unfold Ctr
  revert XB
  k_fill
  intro XB dp un gd envs s R B hd hu hpre hret
  refine' enterP (binds := [(Str.ofString "values", .ref l)]) B XB TB ?k6 ?k7 ?k8 ?k9 ?kB ?_ ?c2 ?c3 ?c4 ?c5
  case k6 => k_is
  case k7 => k_is
  case k8 => exact Nat.lt_of_le_of_lt (Nat.le_add_right _ _) hd
  case k9 => exact BindsTo.of_eq rfl
  case kB => exact locs rfl
  case c2 => exact rfl
  case c3 => exact rfl
  case c4 => exact rfl
  case c5 => decide
  intro L h₁ hL F N X T
  refine wpAny_noRaise ?_
  walk_at "go"
  rename Fr _ _ _ _ => F1
  rename News _ _ _ _ => N1
  refine For_invVF F1 rfl rfl ?_
  have hul : us.length ≤ 100 := by rw [hus.length]; exact hl
  walk_at "go"
  rename Fr _ _ _ _ => F2
  rename News _ _ _ _ => N2
  rename IsRange _ _ _ _ _ _ _ _ => R2
  obtain ⟨tp, F2⟩ : ∃ tp, Fr s.heap L _ (mp [(Str.ofString "signs", .str (Str.ofString "") tp), (Str.ofString "values", .ref l)]) := ⟨_, F2⟩
  refine kst_range (σ := Str × Tok) (n := xs.length) (fun _ => []) (fun c => [(Str.ofString "signs", .str c.1 c.2)]) (fun c => c.1.length ≤ 10000) [Str.ofString "other", Str.ofString "order"] (fun pre c => c.1 = sgAll xs pre.length ∧ c.1.length ≤ 100 * pre.length) (Str.ofString "", tp) rfl R2 (small_one (by omega) (by omega) (by omega) (by omega)) ?_ F2 N2 (Nat.zero_le _) (List.forall_mem_cons.mpr ⟨rfl, List.forall_mem_nil _⟩) ⟨rfl, Nat.zero_le _⟩ ?_ ?_
  · exact (rangeSize_nat 0 (xs.length : Int)).trans (by omega)
  · rintro ⟨sn, tn⟩ pre k tk1 u h tk own hk hpl hoff hf hp F3 N3
    dsimp only [envOf] at F3 N3 hf hp
    clear F2 N2 R2
    walk_at "go"
    refine For_invVF F3 rfl rfl ?_
    walk_at "go"
    rename Fr _ _ _ _ => F4
    rename News _ _ _ _ => N4
    rename IsRange _ _ _ _ _ _ _ _ => R4
    obtain ⟨hp1, hp2⟩ := hp
    refine kst_range (σ := Str × Tok) (n := pre.length + 1) (fun _ => own) (fun c => [(Str.ofString "signs", .str c.1 c.2)]) (fun c => c.1.length ≤ 10000) [Str.ofString "order"] (fun pre2 c => c.1 = sgRow xs pre.length (min pre2.length pre.length) sn ∧ c.1.length ≤ 100 * pre.length + pre2.length) (sn, tn) rfl R4 (small_one (by omega) (by omega) (by omega) (by omega)) ?_ F4 N4 (by dsimp only; omega) (List.forall_mem_cons.mpr ⟨rfl, List.forall_mem_nil _⟩) ⟨by simp [sgRow], by dsimp only; omega⟩ ?_ ?_
    · exact (rangeSize_nat 0 _).trans (by omega)
    · rintro ⟨sn2, tn2⟩ pre2 j tk2 u2 h2 tk2' own2 hj hpl2 hoff2 hf2 hp2 F5 N5
      dsimp only [envOf] at F5 N5 hf2 hp2
      clear F4 N4 R4
      walk_at "go"
      refine ⟨X.keeps F5.keep, use_ctr (coll_ctr XB TB _ _ _ _) B F5 N5 rfl rfl (by omega) (by omega) trivial (fun v6 h6 tk6 k6 F6 N6 p6 => ?_)⟩
      obtain ⟨t6, rfl⟩ := p6
      have hjn : Hid (j.toNat = pre2.length) := by show j.toNat = pre2.length; omega
      have hkn : Hid (k.toNat = pre.length) := by show k.toNat = pre.length; omega
      obtain ⟨hq1, hq2⟩ := hp2
      have hn1 : (Str.ofString "n").length = 1 := by decide +kernel
      have hn2 : (Str.ofString "\"").length = 1 := by decide +kernel
      rcases coll_tri (xs.getD j.toNat Str.empty) (xs.getD k.toNat Str.empty) with ⟨c1, c2, c3⟩ | ⟨c1, c2, c3⟩ | ⟨c1, c2, c3⟩
      · have hne : j ≠ k := fun e => c3 (by rw [e])
        have e1 : (((-1 : Int) == 0) != (j == k)) = false := by simp [hne]
        have hlt : j < k := by omega
        have hsg : sg xs pre.length pre2.length = Str.ofString "n" := by unfold sg; rw [← show j.toNat = pre2.length from hjn, ← show k.toNat = pre.length from hkn, c1]; rfl
        rw [c1]
        walk_at "go"
        rename Fr _ _ _ _ => F7
        rename News _ _ _ _ => N7
        refine ⟨X.keeps F7.keep, use_ctr (coll_ctr XB TB _ _ _ _) B F7 N7 rfl rfl (by omega) (by omega) trivial (fun v8 h8 tk8 k8 F8 N8 p8 => ?_)⟩
        obtain ⟨t8, rfl⟩ := p8
        rw [c2]
        walk_at "go"
        have hfin : (sn2 ++ Str.ofString "n") = sgRow xs pre.length (min (pre2 ++ [j]).length pre.length) sn ∧ (sn2 ++ Str.ofString "n").length ≤ 100 * pre.length + (pre2 ++ [j]).length := by
          rw [List.length_append, List.length_singleton]
          exact ⟨sg_row_next hq1 (by omega) hsg, by rw [Str.length_append]; omega⟩
        have hfc : (sn2 ++ Str.ofString "n").length ≤ 10000 := by rw [Str.length_append]; omega
        refine' kst_end (σ := Str × Tok) (sn2 ++ Str.ofString "n", _) (by assumption) (by assumption) ?_ ?_ rfl hfc ?_ ?_ hfin
        all_goals (try (first
          | exact List.forall_mem_nil _
          | exact fun p hp => List.mem_cons_of_mem _ (List.mem_append_left _ hp)
          | exact fun p hp => List.mem_cons_of_mem _ (List.mem_append_right _ hp)
          | exact fun p hp => hp
          | exact List.forall_mem_cons.mpr ⟨by with_unfolding_all rfl, List.forall_mem_nil _⟩
          | (intro z h1 h2 h3; (have q := h2 _ List.mem_cons_self); (repeat (first | refine (off_if h3 (by decide)).trans ?_ | refine (if_neg h1).trans ?_ | refine (if_neg q).trans ?_ | refine (if_neg (con_tail h3)).trans ?_ | exact if_neg (by rw [h3]; exact Bool.false_ne_true))); done)))
      · have hne : j ≠ k := fun e => c3 (by rw [e])
        have e1 : (((1 : Int) == 0) != (j == k)) = false := by simp [hne]
        have hlt : j < k := by omega
        have hsg : sg xs pre.length pre2.length = Str.ofString "\"" := by unfold sg; rw [← show j.toNat = pre2.length from hjn, ← show k.toNat = pre.length from hkn, c1]; rfl
        rw [c1]
        walk_at "go"
        rename Fr _ _ _ _ => F7
        rename News _ _ _ _ => N7
        refine ⟨X.keeps F7.keep, use_ctr (coll_ctr XB TB _ _ _ _) B F7 N7 rfl rfl (by omega) (by omega) trivial (fun v8 h8 tk8 k8 F8 N8 p8 => ?_)⟩
        obtain ⟨t8, rfl⟩ := p8
        rw [c2]
        walk_at "go"
        have hfin : (sn2 ++ Str.ofString "\"") = sgRow xs pre.length (min (pre2 ++ [j]).length pre.length) sn ∧ (sn2 ++ Str.ofString "\"").length ≤ 100 * pre.length + (pre2 ++ [j]).length := by
          rw [List.length_append, List.length_singleton]
          exact ⟨sg_row_next hq1 (by omega) hsg, by rw [Str.length_append]; omega⟩
        have hfc : (sn2 ++ Str.ofString "\"").length ≤ 10000 := by rw [Str.length_append]; omega
        refine' kst_end (σ := Str × Tok) (sn2 ++ Str.ofString "\"", _) (by assumption) (by assumption) ?_ ?_ rfl hfc ?_ ?_ hfin
        all_goals (try (first
          | exact List.forall_mem_nil _
          | exact fun p hp => List.mem_cons_of_mem _ (List.mem_append_left _ hp)
          | exact fun p hp => List.mem_cons_of_mem _ (List.mem_append_right _ hp)
          | exact fun p hp => hp
          | exact List.forall_mem_cons.mpr ⟨by with_unfolding_all rfl, List.forall_mem_nil _⟩
          | (intro z h1 h2 h3; (have q := h2 _ List.mem_cons_self); (repeat (first | refine (off_if h3 (by decide)).trans ?_ | refine (if_neg h1).trans ?_ | refine (if_neg q).trans ?_ | refine (if_neg (con_tail h3)).trans ?_ | exact if_neg (by rw [h3]; exact Bool.false_ne_true))); done)))
      · have hij := nodup_getD hnd (by omega) (by omega) c3
        have he : j = k := by omega
        clear hij
        have e1 : (((0 : Int) == 0) != (j == k)) = false := by simp [he]
        rw [c1]
        walk_at "go"
        rename Fr _ _ _ _ => F7
        rename News _ _ _ _ => N7
        refine ⟨X.keeps F7.keep, use_ctr (coll_ctr XB TB _ _ _ _) B F7 N7 rfl rfl (by omega) (by omega) trivial (fun v8 h8 tk8 k8 F8 N8 p8 => ?_)⟩
        obtain ⟨t8, rfl⟩ := p8
        rw [c2]
        walk_at "go"
        have hfin : sn2 = sgRow xs pre.length (min (pre2 ++ [j]).length pre.length) sn ∧ sn2.length ≤ 100 * pre.length + (pre2 ++ [j]).length := by
          rw [List.length_append, List.length_singleton]
          refine ⟨?_, by omega⟩
          rw [hq1]; congr 1; omega
        refine' kst_end (σ := Str × Tok) (sn2, _) (by assumption) (by assumption) ?_ ?_ rfl hf2 ?_ ?_ hfin
        all_goals (try (first
          | exact List.forall_mem_nil _
          | exact fun p hp => List.mem_cons_of_mem _ (List.mem_append_left _ hp)
          | exact fun p hp => List.mem_cons_of_mem _ (List.mem_append_right _ hp)
          | exact fun p hp => hp
          | exact List.forall_mem_cons.mpr ⟨by with_unfolding_all rfl, List.forall_mem_nil _⟩
          | (intro z h1 h2 h3; (have q := h2 _ List.mem_cons_self); (repeat (first | refine (off_if h3 (by decide)).trans ?_ | refine (if_neg h1).trans ?_ | refine (if_neg q).trans ?_ | refine (if_neg (con_tail h3)).trans ?_ | exact if_neg (by rw [h3]; exact Bool.false_ne_true))); done)))
    · rintro ⟨sn2, tn2⟩ u2 h2 tk2' hf2 hp3 F5 N5
      dsimp only [envOf] at F5 N5 hf2 hp3
      clear F4 N4 R4
      rw [rangeKs_length] at hp3
      obtain ⟨hq1, hq2⟩ := hp3
      have hfin : sn2 = sgAll xs (pre ++ [k]).length ∧ sn2.length ≤ 100 * (pre ++ [k]).length := by
        rw [List.length_append, List.length_singleton, sgAll_succ, ← hp1]
        refine ⟨?_, by omega⟩
        rw [hq1]; congr 1; omega
      walk_at "go"
      refine' kst_end (σ := Str × Tok) (sn2, _) F5 N5 ?_ ?_ rfl hf2 ?_ ?_ hfin
      all_goals (try (first
          | exact List.forall_mem_nil _
          | exact fun p hp => List.mem_cons_of_mem _ (List.mem_append_left _ hp)
          | exact fun p hp => List.mem_cons_of_mem _ (List.mem_append_right _ hp)
          | exact fun p hp => hp
          | exact List.forall_mem_cons.mpr ⟨by with_unfolding_all rfl, List.forall_mem_nil _⟩
          | (intro z h1 h2 h3; (have q := h2 _ List.mem_cons_self); (repeat (first | refine (off_if h3 (by decide)).trans ?_ | refine (if_neg h1).trans ?_ | refine (if_neg q).trans ?_ | refine (if_neg (con_tail h3)).trans ?_ | exact if_neg (by rw [h3]; exact Bool.false_ne_true))); done)))
  · rintro ⟨sn2, tn2⟩ u2 h2 tk2' hf2 hp3 F5 N5
    dsimp only [envOf] at F5 N5 hf2 hp3
    clear F2 N2 R2
    rw [rangeKs_length] at hp3
    walk_at "go"
    obtain ⟨rfl, _⟩ := hp3
    exact hret _ _ _ F5.keep ⟨_, rfl⟩
end Mine
end

section
open PySem PySem.W PyProof.Rows PySem.Calls PySem.Spec
namespace Mine
abbrev tup (a : Str) (t : Tok) (b : Str) (u : Tok) : Obj := { cls := .type "tuple", data := .seq #[.str a t, .str b u] }
inductive PairsIn (nw : List (Addr × Obj)) : List Value → List (Str × Str) → Prop where
  | nil : PairsIn nw [] []
  | cons {a : Addr} {x y : Str} {t u : Tok} {vs : List Value} {ps : List (Str × Str)} : (a, tup x t y u) ∈ nw → PairsIn nw vs ps → PairsIn nw (.ref a :: vs) ((x, y) :: ps)
theorem PairsIn.mono {nw nw' : List (Addr × Obj)} {vs : List Value} {ps : List (Str × Str)} (h : PairsIn nw vs ps) (hs : ∀ p ∈ nw, p ∈ nw') : PairsIn nw' vs ps := by
  induction h with
  | nil => exact .nil
  | cons hm _ ih => exact .cons (hs _ hm) ih
theorem PairsIn.snoc {nw : List (Addr × Obj)} {vs : List Value} {ps : List (Str × Str)} {a : Addr} {x y : Str} {t u : Tok} (h : PairsIn nw vs ps) (hm : (a, tup x t y u) ∈ nw) : PairsIn nw (vs ++ [.ref a]) (ps ++ [(x, y)]) := by
  induction h with
  | nil => exact .cons hm .nil
  | cons h1 _ ih => exact .cons h1 ih
theorem PairsIn.length {nw : List (Addr × Obj)} {vs : List Value} {ps : List (Str × Str)} (h : PairsIn nw vs ps) : vs.length = ps.length := by
  induction h with
  | nil => rfl
  | cons _ _ ih => simp [ih]
theorem PairsIn.item {nw : List (Addr × Obj)} {vs : List Value} {ps : List (Str × Str)} (h : PairsIn nw vs ps) : ∀ (i : Nat) (v : Value), vs[i]? = some v → ∃ a x y t u, v = .ref a ∧ ps[i]? = some (x, y) ∧ (a, tup x t y u) ∈ nw := by
  induction h with
  | nil => intro i v hv; simp at hv
  | cons hm _ ih =>
    intro i v hv
    cases i with
    | zero => simp at hv; exact ⟨_, _, _, _, _, hv.symm, by simp, hm⟩
    | succ i => simp at hv; obtain ⟨a, x, y, t, u, e1, e2, e3⟩ := ih i v hv; exact ⟨a, x, y, t, u, e1, by simpa using e2, e3⟩
theorem mp_shadow (a : Str) (v v' : Value) (r : List (Str × Value)) : mp ((a, v) :: (a, v') :: r) = mp ((a, v) :: r) := by
  funext y
  show (if y = a then some v else if y = a then some v' else mp r y) = if y = a then some v else mp r y
  by_cases h : y = a <;> simp [h]
theorem nm1 {h₀ h : Heap} {L a : Addr} {o : Obj} {r : List (Addr × Obj)} (_ : News h₀ L h ((a, o) :: r)) : ∃ x : Addr, x = a := ⟨a, rfl⟩
theorem nm2 {h₀ h : Heap} {L a : Addr} {q : Addr × Obj} {o : Obj} {r : List (Addr × Obj)} (_ : News h₀ L h (q :: (a, o) :: r)) : ∃ x : Addr, x = a := ⟨a, rfl⟩
theorem nmT1 {h₀ h : Heap} {L a : Addr} {x y : Str} {t u : Tok} {r : List (Addr × Obj)} (_ : News h₀ L h ((a, tup x t y u) :: r)) : ∃ x1 x2 : Tok, x1 = t ∧ x2 = u := ⟨t, u, rfl, rfl⟩
theorem nmT2 {h₀ h : Heap} {L a : Addr} {q : Addr × Obj} {x y : Str} {t u : Tok} {r : List (Addr × Obj)} (_ : News h₀ L h (q :: (a, tup x t y u) :: r)) : ∃ x1 x2 : Tok, x1 = t ∧ x2 = u := ⟨t, u, rfl, rfl⟩
theorem nmO {o : Obj} {v : Option Value} (_ : o.data = .cell v) : ∃ o' : Obj, o' = o := ⟨o, rfl⟩
theorem nmF {h₀ h : Heap} {L : Addr} {m : Str → Option Value} (_ : Fr h₀ L h m) : ∃ x : Heap, x = h := ⟨h, rfl⟩

end Mine
end

section
open PySem PySem.W PyProof.Rows PySem.Calls PySem.Spec
namespace Mine
/-- a comprehension over the signs of an ascii text -/
theorem ListComp_S {prog : Program} {w : World} {A : Around} {E : Value → Shared → Prop} {s : Shared} {h₀ : Heap} {L : Addr} {m : Str → Option Value} {env : Env} {elt iter : Expr} {x : Str} {px : Pos} {scope : Scope} {cl : List (Str × Addr)} {pos : Pos} {Q : Value → Shared → Prop} {hx₀ : Heap} (_ : Fr h₀ L hx₀ m)
    (hh : A.handled = none) (hclos : closureFor scope env = pure cl) (hcell : ∀ y ∈ scope.names, y.2 ≠ .cell) (hkind : scope.kind = .function)
    (hnames : ∀ y ∈ scope.names, y.2 = .local → scope.names.lookup y.1 = some .local) (hx : scope.names.lookup x = some .local)
    (h : wpAny (model prog w) A (eval iter env) (fun xv s₁ => ∃ xt tx news, xv = .str xt tx ∧ xt.cps.all (· < 128) = true ∧ xt.cps.size ≤ sizeLine ∧ Fr h₀ L s₁.heap m ∧ News h₀ L s₁.heap news ∧
      ∀ g, LCg.CompRest prog w A h₀ L m env elt x scope cl { s₁ with heap := g } (fun _ => True) (SignAt xt) (LCg.FinE h₀ L m { s₁ with heap := g } Q) xt.cps.size 0 [] news) E s)
    (hs : ∀ x, foldedSetIterable iter env x = pure x := by intro _; rfl) :
    wpAny (model prog w) A (eval (.ListComp elt [⟨.Name x px, iter, [], 0⟩] scope pos) env) Q E s := by
  rw [eval_ListComp]
  refine wpAny_comprehension_free (use := none) rfl hs hclos hkind hnames (wpAny_mono h (fun xv s₁ h₁ => ?_) fun _ _ e => e)
  obtain ⟨xt, tx, news, rfl, ha, hsz, F, N, R⟩ := h₁
  refine wpAny_pyIter_ascii ha ?_
  refine LCg.block_U (S := fun _ => True) (Walks.strAscii hh s₁.heap.objs.size xt tx) hsz (fun i h st => by obtain ⟨o, e, _⟩ := st; exact ⟨o, e⟩) (fun i h h' o nw st e e' _ _ _ => by obtain ⟨o', q, r⟩ := st; rw [e] at q; cases q; exact ⟨o, e', r⟩) hcell hkind hx ⟨_, Heap.get?_push_size _ rfl, rfl, rfl⟩ (fun b hb => ?_)
    (F.keeps fun _ _ e => Heap.get?_push_of_some _ e) (N.grown fun _ _ e => Heap.get?_push_of_some _ e) (Nat.ne_of_lt F.ns.lt) (next_is_new F) (fun p hp => Nat.ne_of_lt (Heap.lt_size (N p hp).1)) trivial (R _) ?_
  · rw [List.mem_singleton.mp hb]
    show s₁.heap.objs.size < (s₁.heap.push _).objs.size
    rw [Heap.size_push]; exact Nat.lt_succ_self _
  · intro D C h tk m' ys news' F' N' o1 hn hC₀ hD₀ hCL hDL hCD offC fin
    refine ⟨m', hn, fun h'' hs'' => fin D h'' tk (F'.change hs'' hCL hC₀) (fun p hp => ?_) o1⟩
    refine ⟨hs''.extBut _ _ ?_ (N' p hp).1, (N' p hp).2⟩
    rcases List.mem_cons.mp hp with rfl | hp
    · exact Ne.symm hCD
    · exact offC p hp
theorem sub6 {α : Type} {a b c d e f : α} {tl own : List α} : ∀ p ∈ a :: b :: c :: d :: e :: f :: tl, p ∈ a :: b :: c :: d :: e :: f :: (tl ++ own) := by
  intro p hp
  simp only [List.mem_cons, List.mem_append] at hp ⊢
  rcases hp with h | h | h | h | h | h | h <;> simp [h]
theorem sub6o {α : Type} {a b c d e f : α} {tl own : List α} : ∀ p ∈ own, p ∈ a :: b :: c :: d :: e :: f :: (tl ++ own) := by
  intro p hp
  simp only [List.mem_cons, List.mem_append]
  simp [hp]
end Mine
end

section
open PySem PySem.W PyProof.Rows PySem.Calls PySem.Spec PyProof.V
namespace Mine
noncomputable def tpair (ns : List Str) (im : List Int) (draw : Int) (i : Nat) : Str × Str :=
  (ns.getD ((draw + i).fmod im.length).toNat Str.empty, ns.getD (im.getD ((draw + i).fmod im.length).toNat 0).toNat Str.empty)

noncomputable def toldOf (ns : List Str) (im : List Int) (draw : Int) : List (Str × Str) :=
  (ns.getD 0 Str.empty, ns.getD (im.length - 1) Str.empty) :: (List.range im.length).map (tpair ns im draw)

noncomputable def okName (x : Str) : Prop := x.length ≤ 10 ∧ ∀ c ∈ x.cps.toList, c < 128 ∧ c ≠ 34 ∧ c ≠ 44 ∧ c ≠ 61 ∧ c ≠ 92 ∧ Unicode.isSpace c = false
theorem okName_empty : okName Str.empty := ⟨by decide, fun _ h => by simp [Str.empty] at h⟩
theorem okName_getD {ns : List Str} (h : ∀ x ∈ ns, okName x) (i : Nat) : okName (ns.getD i Str.empty) := by
  rw [List.getD_eq_getElem?_getD]
  cases e : ns[i]? with
  | none => exact okName_empty
  | some x => exact h x (List.mem_of_getElem? e)
theorem okName_ascii {x : Str} (h : okName x) : x.cps.all (· < 128) = true := by
  rw [Array.all_eq_true_iff_forall_mem]
  intro c hc
  exact decide_eq_true (h.2 c (by simpa using hc)).1
theorem told_ok {ns : List Str} {im : List Int} {draw : Int} (h : ∀ x ∈ ns, okName x) {i : Nat} {x y : Str} (e : (toldOf ns im draw)[i]? = some (x, y)) : okName x ∧ okName y := by
  have hm := List.mem_of_getElem? e
  unfold toldOf at hm
  rcases List.mem_cons.mp hm with e | hm
  · cases e; exact ⟨okName_getD h _, okName_getD h _⟩
  · obtain ⟨j, _, e⟩ := List.mem_map.mp hm
    unfold tpair at e
    cases e; exact ⟨okName_getD h _, okName_getD h _⟩

noncomputable def esc (v : Str) : Str := ⟨(v.cps.toList.flatMap fun c => [92, c]).toArray⟩
noncomputable def wrap (d : Int) (v : Str) : Str := if d = 1 then Str.ofString "\"" ++ esc v ++ Str.ofString "\"" else if d = 2 ∧ v.length ≠ 0 then v else Str.ofString "\"" ++ v ++ Str.ofString "\""
noncomputable def lead (d : Int) : Str := if d = 0 then Str.ofString " " else if d = 1 then Str.ofString "\t" else Str.ofString ""
noncomputable def trail (d : Int) : Str := if d = 0 then Str.ofString "" else if d = 1 then Str.ofString " " else Str.ofString "  "
noncomputable def piece (d : Int) (p : Str × Str) : Str := lead d ++ p.1 ++ Str.ofString "=" ++ wrap d p.2 ++ trail d

noncomputable def piecesOf (told : List (Str × Str)) (draw : Int) (i : Nat) : List Str := (List.range i).map fun (j : Nat) => piece ((draw + (j : Int)).fmod 3) (told.getD j (Str.empty, Str.empty))
theorem piecesOf_succ (told : List (Str × Str)) (draw : Int) (i : Nat) : piecesOf told draw (i + 1) = piecesOf told draw i ++ [piece ((draw + (i : Int)).fmod 3) (told.getD i (Str.empty, Str.empty))] := by
  unfold piecesOf; rw [List.range_succ, List.map_append]; rfl
theorem piecesOf_next {told : List (Str × Str)} {draw d : Int} {i : Nat} {x y t : Str} {ps : List Str} (h : ps = piecesOf told draw i) (e : told[i]? = some (x, y)) (hd : (draw + (i : Int)).fmod 3 = d) (ht : t = piece d (x, y)) : ps ++ [t] = piecesOf told draw (i + 1) := by
  rw [piecesOf_succ, hd, List.getD_eq_getElem?_getD, e, h, ht]; rfl
theorem piecesOf_length (told : List (Str × Str)) (draw : Int) (i : Nat) : (piecesOf told draw i).length = i := by simp [piecesOf]

noncomputable def escs (y : Str) (i : Nat) : List Str := (y.cps.toList.take i).map fun c => Str.ofString "\\" ++ ⟨#[c]⟩
theorem escs_succ {y : Str} {i : Nat} {c : Nat} (h : y.cps[i]? = some c) : escs y (i + 1) = escs y i ++ [Str.ofString "\\" ++ ⟨#[c]⟩] := by
  have h' : y.cps.toList[i]? = some c := by simpa using h
  unfold escs
  rw [List.take_add_one, h', List.map_append]; rfl
theorem str_toList (a b : Str) : (a ++ b).cps.toList = a.cps.toList ++ b.cps.toList := by
  show (a.cps ++ b.cps).toList = _
  simp
theorem str_ext {a b : Str} (h : a.cps.toList = b.cps.toList) : a = b := by
  cases a; cases b; congr 1; exact Array.toList_inj.mp h
theorem join_nil_sep : ∀ l : List Str, (Str.join (Str.ofString "") l).cps.toList = l.flatMap fun x => x.cps.toList
  | [] => rfl
  | [x] => by show x.cps.toList = _; simp
  | x :: y :: r => by
    show (x ++ Str.ofString "" ++ Str.join (Str.ofString "") (y :: r)).cps.toList = _
    rw [str_toList, str_toList, join_nil_sep (y :: r), show (Str.ofString "").cps.toList = [] from rfl, List.append_nil]; rfl
theorem join_escs (y : Str) : Str.join (Str.ofString "") (escs y y.length) = esc y := by
  apply str_ext
  rw [join_nil_sep]
  unfold escs esc
  rw [show y.length = y.cps.toList.length from rfl, List.take_length, List.flatMap_map]
  rfl
theorem escs_length (y : Str) (i : Nat) (h : i ≤ y.length) : (escs y i).length = i := by
  unfold escs; rw [List.length_map, List.length_take]; exact Nat.min_eq_left (show i ≤ y.cps.toList.length by rw [Array.length_toList]; exact h)

structure RC where
  us : List Value
  n : Nat
  ps : List Str


abbrev dLed (lp lt L : Addr) (us : List Value) (n : Nat) (o1 oz o3 o4 : Obj) (tl : List (Addr × Obj)) : RC → List (Addr × Obj) :=
  fun c => (lp, W.listOf c.us.toArray c.n) :: (lt, W.listOf us.toArray n) :: (L + 1 + 1 + 1 + 1, o1) :: (L + 1 + 1 + 1, oz) :: (L + 1 + 1, o3) :: (L + 1, o4) :: tl
abbrev dSt : List Str := [Str.ofString "key", Str.ofString "value", Str.ofString "dress", Str.ofString "inner", Str.ofString "written"]

theorem piece_end {h₀ h' : Heap} {lp lt L : Addr} {us : List Value} {n : Nat} {o1 oz o3 o4 : Obj} {tl own : List (Addr × Obj)} {told : List (Str × Str)} {draw d : Int} {i : Nat} {m₀ m' : Str → Option Value} {us5 : List Value} {n5 : Nat} {ps5 : List Str} {x y t : Str} {tok : Tok} {s₁ : Shared} {tk : Nat} {adr : List Addr}
    (F : Fr h₀ L h' m') (N : News h₀ L h' ((lp, W.listOf (us5 ++ [Value.str t tok]).toArray (n5 + 1)) :: (lt, W.listOf us.toArray n) :: (L + 1 + 1 + 1 + 1, o1) :: (L + 1 + 1 + 1, oz) :: (L + 1 + 1, o3) :: (L + 1, o4) :: (tl ++ own)))
    (hf : StrsAre us5 ps5) (hpI : ps5 = piecesOf told draw i) (hxy : told[i]? = some (x, y)) (hd : (draw + (i : Int)).fmod 3 = d) (ht : t = piece d (x, y))
    (ha : adr = (dLed lp lt L us n o1 oz o3 o4 tl ⟨[], 0, []⟩).map (·.1))
    (hr : ∀ z, (dSt).contains z = false → m' z = m₀ z) :
    InvEndN h₀ L (KstT (dLed lp lt L us n o1 oz o3 o4 tl) (fun _ => []) (fun c => StrsAre c.us c.ps) dSt m₀ (fun c => c.ps = piecesOf told draw (i + 1))) own adr s₁ { s₁ with heap := h', toks := tk } := by
  refine kstt_end (σ := RC) ⟨us5 ++ [.str t tok], n5 + 1, ps5 ++ [t]⟩ F N sub6 sub6o ha.symm (KStt.strs_snoc hf) (List.forall_mem_nil _) (fun z _ h => hr z h) (piecesOf_next hpI hxy hd ht)

theorem frTokI {h₀ h : Heap} {L : Addr} {a : Str} {d : Int} {t : Tok} {m : Str → Option Value} (F : Fr h₀ L h (fun y => if y = a then some (.int d t) else m y)) : ∃ t', Fr h₀ L h (fun y => if y = a then some (.int d t') else m y) := ⟨t, F⟩
theorem esc_length (y : Str) (h : y.length ≤ 10) : (esc y).length ≤ 20 := by
  have h1 : ∀ l : List Nat, (l.flatMap fun c => [92, c]).length = 2 * l.length := by
    intro l
    induction l with
    | nil => rfl
    | cons c r ih => simp only [List.flatMap_cons, List.length_append, ih, List.length_cons, List.length_nil]; omega
  have h3 : y.cps.toList.length ≤ 10 := h
  show ((y.cps.toList.flatMap fun c => [92, c]).toArray).size ≤ 20
  rw [List.size_toArray, h1]
  omega
theorem escs_weight (y : Str) (h : y.length ≤ 10) : ((escs y y.cps.size).map (·.length)).sum + (escs y y.cps.size).length ≤ 1048576 := by
  have h1 : ∀ l : List Nat, ((l.map fun c => Str.ofString "\\" ++ (⟨#[c]⟩ : Str)).map (·.length)).sum = 2 * l.length := by
    intro l
    induction l with
    | nil => rfl
    | cons c r ih => rw [List.map_cons, List.map_cons, List.sum_cons, ih, List.length_cons]; show 2 + _ = _; omega
  have h2 := escs_length y y.cps.size (Nat.le_refl _)
  rw [h2]
  unfold escs
  rw [h1, List.length_take]
  have h3 : y.cps.size ≤ 10 := h
  omega
end Mine
end

section
open PySem PySem.W PyProof.Rows PySem.Calls PySem.Spec PyProof.V
namespace Mine

/-- the raising contract -/
noncomputable def CtrE (w : World) (base : Heap) (f : Addr) (args : List Value) (d u : Nat) (Pre : Heap → Prop) (cls : String) : Prop :=
  ∀ (dp un : Nat) (gd : Option (List Code)) (envs : List Env) (s : Shared) (R : Result → Shared → Prop),
    Below (AA dp un gd envs) base envs s.heap → KtsDicts (frs envs) s.heap → dp + d < recursionLimit → un + u < cLine → Pre s.heap →
    (∀ e h' tk', RaisedSN base s.heap envs e (.type cls) [] h' → s.heap.UpToSlots h' → R (.error (.ref e)) { s with heap := h', toks := tk' }) →
    codeAny (model PySem.Challenge.rw_pk0041_01.row.prog w) (AA dp un gd envs) (.call (.ref f) ⟨args, []⟩) R s
theorem RaisedSN.drop {base G : Heap} {l : List Env} {e : Addr} {cls : Value} {news : List (Addr × Obj)} {h : Heap} (R : RaisedSN base G l e cls news h) : RaisedSN base G l e cls [] h := by
  obtain ⟨B, a0, hB, h1, _, hfl⟩ := R
  exact ⟨B, a0, hB, h1, fun _ q => absurd q List.not_mem_nil, hfl⟩

section
variable {targets : List (Bool × (Value → Sem Unit))} {prog : Program} {w : World} {A : Around} {E : Value → Shared → Prop} {s : Shared} {env : Env} {h₀ : Heap} {L : Addr} {m : Str → Option Value} {news : List (Addr × Obj)} {elts : List Expr} {k : Nat} {pos : Pos} {Q : Unit → Shared → Prop}

theorem draw_two (it : Value) : draw it 2 = (do
    match ← pyNext it with
    | none => pure []
    | some v => return v :: (← holding [v] (draw it 1))) := rfl
theorem draw_one (it : Value) : draw it 1 = (do
    match ← pyNext it with
    | none => pure []
    | some v => return v :: (← holding [v] (draw it 0))) := rfl
theorem few_listU {l : Addr} {x : Value} (F : Fr h₀ L s.heap m) (N : News h₀ L s.heap news) (hl : s.heap.IsList l #[x]) (hh : A.handled = none) (hn : targets.length = 2) (hstar : targets.findIdx? (·.1) = none)
    (hE : ∀ h₂ h' tk e, Fr h₀ L h₂ m → News h₀ L h₂ news → Heap.NewExc h₂ h' e "ValueError" → E (.ref e) { s with heap := h', toks := tk }) :
    wpAny (model prog w) A (unpack (.ref l) targets) Q E s := by
  unfold unpack
  rw [hn, hstar]
  refine wpAny_bind (wpAny_holding ?_)
  have hlt : l ≠ s.heap.objs.size := by obtain ⟨o, ho, _⟩ := hl; exact Nat.ne_of_lt (Heap.lt_size ho)
  unfold unpackItems
  refine wpAny_bind ?_
  unfold notIterableAtAll
  refine wpAny_bind (wpAny_specialOf hl.typeIs slot_list_iter.lookup ?_)
  refine wpAny_pure ?_
  simp only [Bool.false_eq_true, if_false]
  refine wpAny_bind (wpAny_holding (wpAny_pyIter_list hl ?_))
  refine wpAny_bind (wpAny_holding ?_)
  rw [draw_two]
  refine wpAny_bind (wpAny_pyNext_list_item (i := 0) ⟨_, Heap.get?_push_size _ rfl, rfl, rfl⟩ (hl.push _) (x := x) (by simp) fun h₁ hit₁ hs₁ => ?_)
  have hl₁ : h₁.IsList l #[x] := (hl.push _).extBut hs₁.extBut hlt
  refine wpAny_bind (wpAny_holding ?_)
  rw [draw_one]
  refine wpAny_bind (wpAny_pyNext_list_end hh hit₁ hl₁ (by simp) fun h₂ he₂ => ?_)
  refine wpAny_pure (wpAny_pure ?_)
  rw [if_pos (by simp)]
  refine wpAny_bind (wpAny_rule ?_)
  have ext : Heap.ExtBut s.heap.objs.size s.heap h₂ := fun b o hb e => he₂ b o hb (hs₁.extBut b o hb (Heap.get?_push_of_some _ e))
  refine wpAny_bind ?_
  simp only [List.length_cons, List.length_nil]
  refine wpAny_raiseErrorMade plainExc_ValueError hh ?_ ?_
  · exact fun h' tk e hx => hE h₂ h' tk e (F.extBut ext (Nat.le_refl _)) (N.extBut ext (Nat.le_refl _)) hx
  · decide +kernel

theorem few_tupU {t : Addr} {x : Value} (F : Fr h₀ L s.heap m) (N : News h₀ L s.heap news) (ht : IsTup s.heap t #[x]) (hh : A.handled = none) (hn : targets.length = 2) (hstar : targets.findIdx? (·.1) = none)
    (hE : ∀ h₂ h' tk e, Fr h₀ L h₂ m → News h₀ L h₂ news → Heap.NewExc h₂ h' e "ValueError" → E (.ref e) { s with heap := h', toks := tk }) :
    wpAny (model prog w) A (unpack (.ref t) targets) Q E s := by
  unfold unpack
  rw [hn, hstar]
  refine wpAny_bind (wpAny_holding ?_)
  have hlt : t ≠ s.heap.objs.size := by obtain ⟨o, ho, _⟩ := ht; exact Nat.ne_of_lt (Heap.lt_size ho)
  unfold unpackItems
  refine wpAny_bind ?_
  unfold notIterableAtAll
  refine wpAny_bind (wpAny_specialOf ht.typeIs slot_tuple_iter.lookup ?_)
  refine wpAny_pure ?_
  simp only [Bool.false_eq_true, if_false]
  refine wpAny_bind (wpAny_holding (iter_tuple ht ?_))
  refine wpAny_bind (wpAny_holding ?_)
  rw [draw_two]
  refine wpAny_bind (next_tuple_item (i := 0) ⟨_, Heap.get?_push_size _ rfl, rfl, rfl⟩ (ht.push _) (x := x) (by simp) fun h₁ hit₁ hs₁ => ?_)
  have ht₁ : IsTup h₁ t #[x] := (ht.push _).extBut hs₁.extBut hlt
  refine wpAny_bind (wpAny_holding ?_)
  rw [draw_one]
  refine wpAny_bind (next_tuple_end hh hit₁ ht₁ (by simp) fun h₂ he₂ => ?_)
  refine wpAny_pure (wpAny_pure ?_)
  rw [if_pos (by simp)]
  refine wpAny_bind (wpAny_rule ?_)
  have ext : Heap.ExtBut s.heap.objs.size s.heap h₂ := fun b o hb e => he₂ b o hb (hs₁.extBut b o hb (Heap.get?_push_of_some _ e))
  refine wpAny_bind ?_
  simp only [List.length_cons, List.length_nil]
  refine wpAny_raiseErrorMade plainExc_ValueError hh ?_ ?_
  · exact fun h' tk e hx => hE h₂ h' tk e (F.extBut ext (Nat.le_refl _)) (N.extBut ext (Nat.le_refl _)) hx
  · decide +kernel

theorem many_tupU {t : Addr} {x y z : Value} (F : Fr h₀ L s.heap m) (N : News h₀ L s.heap news) (ht : IsTup s.heap t #[x, y, z]) (hh : A.handled = none) (hn : targets.length = 2) (hstar : targets.findIdx? (·.1) = none)
    (hE : ∀ h₂ h' tk e, Fr h₀ L h₂ m → News h₀ L h₂ news → Heap.NewExc h₂ h' e "ValueError" → E (.ref e) { s with heap := h', toks := tk }) :
    wpAny (model prog w) A (unpack (.ref t) targets) Q E s := by
  unfold unpack
  rw [hn, hstar]
  refine wpAny_bind (wpAny_holding ?_)
  have hlt : t ≠ s.heap.objs.size := by obtain ⟨o, ho, _⟩ := ht; exact Nat.ne_of_lt (Heap.lt_size ho)
  unfold unpackItems
  refine wpAny_bind ?_
  unfold notIterableAtAll
  refine wpAny_bind (wpAny_specialOf ht.typeIs slot_tuple_iter.lookup ?_)
  refine wpAny_pure ?_
  simp only [Bool.false_eq_true, if_false]
  refine wpAny_bind (wpAny_holding (iter_tuple ht ?_))
  refine wpAny_bind (wpAny_holding (draw_tuple hlt 2 0 _ _ ⟨_, Heap.get?_push_size _ rfl, rfl, rfl⟩ (ht.push _) (Nat.le_succ 2) fun h₁ hit₁ hs₁ => ?_))
  have ht₁ : IsTup h₁ t #[x, y, z] := (ht.push _).extBut hs₁.extBut hlt
  rw [if_neg (by simp)]
  refine wpAny_bind (wpAny_holding (next_tuple_item hit₁ ht₁ (x := z) (by simp) fun h₂ hit₂ hs₂ => ?_))
  rw [if_pos (by simp)]
  refine wpAny_bind (wpAny_rule ?_)
  have ext : Heap.ExtBut s.heap.objs.size s.heap h₂ := fun b o hb e => hs₂.extBut b o hb (hs₁.extBut b o hb (Heap.get?_push_of_some _ e))
  refine wpAny_bind ?_
  simp only [List.length_cons, List.length_nil]
  refine wpAny_raiseErrorMade plainExc_ValueError hh ?_ ?_
  · exact fun h' tk e hx => hE h₂ h' tk e (F.extBut ext (Nat.le_refl _)) (N.extBut ext (Nat.le_refl _)) hx
  · decide +kernel

theorem none_iter : typeLookup (.type "NoneType") (Str.ofString "__iter__") = pure none := by rw [typeLookup_type, builtinLookup_eq_fast]; kernel_rfl
theorem none_getitem : typeLookup (.type "NoneType") (Str.ofString "__getitem__") = pure none := by rw [typeLookup_type, builtinLookup_eq_fast]; kernel_rfl
theorem tno_none {M : Model} {Q : String → Shared → Prop} (h : Q "NoneType" s) : wpAny M A (PySem.typeNameOf .none) Q E s := by
  unfold PySem.typeNameOf shownTypeOf
  refine wpAny_bind (wpAny_bind (wpAny_typeOf (T := "NoneType") (typeIs_none s) ?_))
  simp only [show (Value.type "NoneType" == Value.type "builtin_function_or_method") = false by decide, Bool.false_eq_true, if_false]
  refine wpAny_pure ?_
  rw [show PySem.typeName (.type "NoneType") = pure "NoneType" by unfold PySem.typeName; rw [find?_eq_fast]; kernel_rfl]
  exact wpAny_pure h
theorem none_tupU (F : Fr h₀ L s.heap m) (N : News h₀ L s.heap news) (hh : A.handled = none) (hn : targets.length = 2) (hstar : targets.findIdx? (·.1) = none)
    (hE : ∀ h₂ h' tk e, Fr h₀ L h₂ m → News h₀ L h₂ news → Heap.NewExc h₂ h' e "TypeError" → E (.ref e) { s with heap := h', toks := tk }) :
    wpAny (model prog w) A (unpack .none targets) Q E s := by
  unfold unpack
  rw [hn, hstar]
  refine wpAny_bind (wpAny_holding ?_)
  unfold unpackItems
  refine wpAny_bind ?_
  unfold notIterableAtAll
  refine wpAny_bind (wpAny_specialOf_val (T := "NoneType") rfl none_iter ?_)
  refine wpAny_bind (wpAny_specialOf_val (T := "NoneType") rfl none_getitem ?_)
  refine wpAny_pure ?_
  rw [if_pos rfl]
  refine wpAny_bind (wpAny_rule ?_)
  refine wpAny_bind (tno_none ?_)
  refine wpAny_bind (wpAny_raiseErrorMade plainExc_TypeError hh ?_ ?_)
  · exact fun h' tk e hx => hE _ h' tk e F N hx
  · decide +kernel
theorem few_list {l : Addr} {x : Value} (F : Fr h₀ L s.heap m) (N : News h₀ L s.heap news) (hl : s.heap.IsList l #[x]) (hh : A.handled = none) (hn : (assignEach elts env).length = 2) (hstar : (assignEach elts env).findIdx? (·.1) = none)
    (hE : ∀ h₂ h' tk e, Fr h₀ L h₂ m → News h₀ L h₂ news → Heap.NewExc h₂ h' e "ValueError" → E (.ref e) { s with heap := h', toks := tk }) :
    wpAny (model prog w) A (assign (.Tuple elts k pos) env (.ref l)) Q E s := by
  rw [assign_Tuple]
  exact wpAny_bind (wpAny_standAt (few_listU F N hl hh hn hstar hE))
theorem few_tup {t : Addr} {x : Value} (F : Fr h₀ L s.heap m) (N : News h₀ L s.heap news) (ht : IsTup s.heap t #[x]) (hh : A.handled = none) (hn : (assignEach elts env).length = 2) (hstar : (assignEach elts env).findIdx? (·.1) = none)
    (hE : ∀ h₂ h' tk e, Fr h₀ L h₂ m → News h₀ L h₂ news → Heap.NewExc h₂ h' e "ValueError" → E (.ref e) { s with heap := h', toks := tk }) :
    wpAny (model prog w) A (assign (.Tuple elts k pos) env (.ref t)) Q E s := by
  rw [assign_Tuple]
  exact wpAny_bind (wpAny_standAt (few_tupU F N ht hh hn hstar hE))
theorem many_tup {t : Addr} {x y z : Value} (F : Fr h₀ L s.heap m) (N : News h₀ L s.heap news) (ht : IsTup s.heap t #[x, y, z]) (hh : A.handled = none) (hn : (assignEach elts env).length = 2) (hstar : (assignEach elts env).findIdx? (·.1) = none)
    (hE : ∀ h₂ h' tk e, Fr h₀ L h₂ m → News h₀ L h₂ news → Heap.NewExc h₂ h' e "ValueError" → E (.ref e) { s with heap := h', toks := tk }) :
    wpAny (model prog w) A (assign (.Tuple elts k pos) env (.ref t)) Q E s := by
  rw [assign_Tuple]
  exact wpAny_bind (wpAny_standAt (many_tupU F N ht hh hn hstar hE))
theorem none_tup  (F : Fr h₀ L s.heap m) (N : News h₀ L s.heap news)  (hh : A.handled = none) (hn : (assignEach elts env).length = 2) (hstar : (assignEach elts env).findIdx? (·.1) = none)
    (hE : ∀ h₂ h' tk e, Fr h₀ L h₂ m → News h₀ L h₂ news → Heap.NewExc h₂ h' e "TypeError" → E (.ref e) { s with heap := h', toks := tk }) :
    wpAny (model prog w) A (assign (.Tuple elts k pos) env (.none)) Q E s := by
  rw [assign_Tuple]
  exact wpAny_bind (wpAny_standAt (none_tupU F N  hh hn hstar hE))
end
end Mine
end

section
open PySem PySem.W PyProof.Rows PySem.Calls PySem.Spec PyProof.V
namespace Mine



theorem keqv_err {w : World} {base : Heap} {mean : ExcName → Option Value} {mg mb : Str → Option Value} (XB : (Mine.hd.heap_39 w.params).In base) (TB : Top Mine.hd.view_39 (looseW Mine.hd.view_39 []) mean mg mb base)
  (l : Addr) (us : List Value) (ws : List (Str × Str)) (bb : Bool) (bk : Str) (rest : List Str) (hus : StrsAre us (ws.map kv ++ (if bb then bk ++ Str.ofString "=" else bk) :: rest)) (hbk : 61 ∉ bk.cps ∧ bk.length ≤ 1000) (hws : ∀ p ∈ ws, 61 ∉ p.1.cps ∧ 1 ≤ p.2.length ∧ p.1.length ≤ 1000 ∧ p.2.length ≤ 1000) (hwl : ws.length ≤ 1000) :
  CtrE w base 35 [.ref l] 1 100 (fun h => h.IsList l us.toArray) (if bb then "IndexError" else "ValueError") := by
  unfold CtrE
  revert XB
  k_fill
  intro XB dp un gd envs s R B KD hd hu hpre hret
  refine' enterP (binds := [(Str.ofString "l", .ref l)]) B XB TB ?k6 ?k7 ?k8 ?k9 ?kB ?_ ?c2 ?c3 ?c4 ?c5
  case k6 => k_is
  case k7 => k_is
  case k8 => exact Nat.lt_of_le_of_lt (Nat.le_add_right _ _) hd
  case k9 => exact BindsTo.of_eq rfl
  case kB => exact locs rfl
  case c2 => exact rfl
  case c3 => exact rfl
  case c4 => exact rfl
  case c5 => decide
  intro L h₁ hL F N X T
  walk_at "go"
  rename Fr _ _ _ _ => F1
  rename News _ _ _ _ => N1
  rename Obj.IsDictOf (PySem.strKind _ _) _ _ => hs1
  rename (_ == sysModules) = false => lo1
  refine For_invVF F1 rfl rfl ?_
  walk1
  obtain ⟨d, o, F1, N1, hs1, lo1⟩ : ∃ d o, Fr s.heap L _ (mp [(Str.ofString "parsed", .ref d), (Str.ofString "l", .ref l)]) ∧ News s.heap L _ [(d, o)] ∧ Obj.IsDictOf (PySem.strKind PySem.Challenge.rw_pk0041_01.row.prog w) o [] ∧ (d == sysModules) = false := ⟨_, _, F1, N1, hs1, lo1⟩
  refine' kstv_base (σ := KC) (fun c => [(d, c.o)]) (fun c => []) (fun c => c.o.IsDictOf (PySem.strKind PySem.Challenge.rw_pk0041_01.row.prog w) c.kvs ∧ FlatPairs PyData.str c.kvs (denc c.D)) [Str.ofString "k", Str.ofString "v"] (fun i c => i ≤ ws.length ∧ c.D = dall (ws.take i)) ⟨o, [], []⟩ rfl hpre F1 N1 ⟨hs1, .nil⟩ (List.forall_mem_nil _) ⟨Nat.zero_le _, rfl⟩ ?turn ?done
  case turn =>
    rintro ⟨o, kvs, D⟩ i v u h tk own hi hv hoff ⟨hf1, hf2⟩ hp F2 N2
    dsimp only [envOf] at F2 N2 hf1 hf2 hp
    clear F1 N1 hs1
    obtain ⟨hpi, hp⟩ := hp
    obtain ⟨y, ty, rfl, hy⟩ := hus.item i v hv
    by_cases hij : i = ws.length
    · subst hij
      rw [List.getElem?_append_right (by rw [List.length_map]; exact Nat.le_refl _), List.length_map, Nat.sub_self] at hy
      have hy : (if bb then bk ++ Str.ofString "=" else bk) = y := Option.some.inj hy
      have heq : (Str.ofString "=").length = 1 := by decide +kernel
      have hyl : y.length ≤ 1001 := by rw [← hy]; split <;> (try rw [Str.length_append]) <;> omega
      walk_at "go"
      refine splitN2A F2 N2 (by decide) (by decide) (fun lst h' tk' e1 z1 z2 z3 F3 N3 => ?_) (by rw [sizeLine_eq]; omega)
      clear z1 z2 z3
      cases bb with
      | true =>
        have hy : bk ++ Str.ofString "=" ++ Str.empty = y := by
          rw [← hy]; refine Str.ext' ?_; rw [Str.cps_append]; exact Array.append_empty
        rw [← hy, split_one _ _ hbk.1] at e1
        obtain ⟨t1, r1, rfl, e2⟩ := KSpl.cons_of e1
        obtain ⟨t2, r2, rfl, e3⟩ := KSpl.cons_of e2
        obtain rfl := KSpl.nil_of e3
        clear e1 e2 e3
        simp only [strValues, List.map_cons, List.map_nil] at N3
        walk_at "go"
        refine item_str_or rfl rfl ?_ (fun h1 h2 => absurd h2 (by decide)) (by with_unfolding_all rfl) (by intro _; with_unfolding_all rfl)
        intro _ h9 tk9 e9 hx
        rename Fr _ _ _ _ => F9
        rename News _ _ _ _ => N9
        refine leave_newS B hx F9 N9 (fun h8 R8 _ U8 => ?_)
        exact hret _ _ _ (RaisedSN.drop R8) U8
      | false =>
        have hy : bk = y := hy
        rw [← hy, split_none _ hbk.1] at e1
        obtain ⟨t1, r1, rfl, e2⟩ := KSpl.cons_of e1
        obtain rfl := KSpl.nil_of e2
        clear e1 e2
        simp only [strValues, List.map_cons, List.map_nil] at N3
        refine few_list F3 N3 ⟨_, (N3 _ List.mem_cons_self).1, rfl, _, rfl⟩ rfl rfl rfl ?_
        intro h8 h9 tk9 e9 F9 N9 hx
        refine leave_newS B hx F9 N9 (fun h8 R8 _ U8 => ?_)
        exact hret _ _ _ (RaisedSN.drop R8) U8
    have hlt : i < ws.length := by omega
    rw [List.getElem?_append_left (by rw [List.length_map]; exact hlt), List.getElem?_map] at hy
    obtain ⟨p, hp1, rfl⟩ : ∃ p, ws[i]? = some p ∧ kv p = y := by
      cases e : ws[i]? with
      | none => rw [e] at hy; cases hy
      | some p => rw [e] at hy; exact ⟨p, rfl, Option.some.inj hy⟩
    obtain ⟨q1, q2, q3, q4⟩ := hws p (List.mem_of_getElem? hp1)
    have hkvl : (kv p).length ≤ 2001 := by unfold kv; rw [Str.length_append, Str.length_append]; have : (Str.ofString "=").length = 1 := by decide +kernel
                                           omega
    walk_at "go"
    have hdlt : d < h.objs.size := Heap.lt_size (N2 (d, o) List.mem_cons_self).1
    have hoff2 : ∀ q ∈ own, q.1 ≠ d := fun q hq => hoff q hq d List.mem_cons_self
    refine splitN2A F2 N2 (by decide) (by decide) (fun lst h' tk' e1 z1 z2 z3 F3 N3 => ?_) (by rw [sizeLine_eq]; omega)
    clear z1 z2 z3
    rw [show Txt.splitMax (kv p) (Str.ofString "=") 1 = [p.1, p.2] from split_one _ _ q1] at e1
    obtain ⟨t1, r1, rfl, e2⟩ := KSpl.cons_of e1
    obtain ⟨t2, r2, rfl, e3⟩ := KSpl.cons_of e2
    obtain rfl := KSpl.nil_of e3
    clear e1 e2 e3
    simp only [strValues, List.map_cons, List.map_nil] at N3
    have hD : (denc D).length ≤ sizeLine := by
      unfold denc
      have := dall_length (ws.take i)
      rw [List.length_map, sizeLine_eq, hp]
      rw [List.length_take] at this
      omega
    have hnext : ∀ v, v = unq p.2 → dput D (p.1, v) = dall (ws.take (i + 1)) := by
      rintro v rfl
      rw [List.take_add_one, hp1, hp]
      exact (dall_snoc _ _).symm
    walk_at "go"
    all_goals (try walk_at "go")
    all_goals (
      refine setItem_K PyProof.V.same_str (strKind_is _ _ _ _) (Flat.str _ _) (by assumption) (by assumption) (UpdF.tail (Nat.ne_of_gt hdlt) (UpdF.head hoff2)) hf1 hf2 (fun h9 o9 F9 N9 hd9 hf9 => ?_) hD
      rw [put_enc] at hf9
      walk1)
    · have hn : dput D (p.1, p.2) = dall (ws.take (i + 1)) := hnext p.2 (by unfold unq; rw [show (Txt.item p.2 0 == Str.ofString "\"") = false by assumption]; rfl)
      refine' kstv_end (σ := KC) ⟨o9, _, dput D (p.1, p.2)⟩ F9 N9 ?_ ?_ rfl (And.intro hd9 hf9) (List.forall_mem_nil _) ?_ ⟨hlt, hn⟩ <;> (first
        | exact List.forall_mem_cons.mpr ⟨List.mem_cons_of_mem _ List.mem_cons_self, List.forall_mem_nil _⟩
        | exact fun p hp => List.mem_cons_of_mem _ (List.mem_cons_of_mem _ hp)
        | (intro z h1 h2 h3; (repeat (first | refine (off_if h3 (by decide)).trans ?_ | refine (if_neg h1).trans ?_ | exact if_neg (by rw [h3]; exact Bool.false_ne_true))); done))
    · have hn : dput D (p.1, p.2) = dall (ws.take (i + 1)) := hnext p.2 (by unfold unq; rw [show (Txt.item p.2 (-1) == Str.ofString "\"") = false by assumption, Bool.and_false]; rfl)
      refine' kstv_end (σ := KC) ⟨o9, _, dput D (p.1, p.2)⟩ F9 N9 ?_ ?_ rfl (And.intro hd9 hf9) (List.forall_mem_nil _) ?_ ⟨hlt, hn⟩ <;> (first
        | exact List.forall_mem_cons.mpr ⟨List.mem_cons_of_mem _ List.mem_cons_self, List.forall_mem_nil _⟩
        | exact fun p hp => List.mem_cons_of_mem _ (List.mem_cons_of_mem _ hp)
        | (intro z h1 h2 h3; (repeat (first | refine (off_if h3 (by decide)).trans ?_ | refine (if_neg h1).trans ?_ | exact if_neg (by rw [h3]; exact Bool.false_ne_true))); done))
    · have hn : dput D (p.1, Txt.slice p.2 (some 1) (some (-1))) = dall (ws.take (i + 1)) := hnext _ (by unfold unq; rw [show (Txt.item p.2 0 == Str.ofString "\"") = true by assumption, show (Txt.item p.2 (-1) == Str.ofString "\"") = true by assumption]; rfl)
      refine' kstv_end (σ := KC) ⟨o9, _, dput D (p.1, Txt.slice p.2 (some 1) (some (-1)))⟩ F9 N9 ?_ ?_ rfl (And.intro hd9 hf9) (List.forall_mem_nil _) ?_ ⟨hlt, hn⟩ <;> (first
        | exact List.forall_mem_cons.mpr ⟨List.mem_cons_of_mem _ List.mem_cons_self, List.forall_mem_nil _⟩
        | exact fun p hp => List.mem_cons_of_mem _ (List.mem_cons_of_mem _ hp)
        | (intro z h1 h2 h3; (repeat (first | refine (off_if h3 (by decide)).trans ?_ | refine (if_neg h1).trans ?_ | exact if_neg (by rw [h3]; exact Bool.false_ne_true))); done))
  case done =>
    rintro ⟨o, kvs, D⟩ u h tk ⟨hf1, hf2⟩ ⟨hpi, hp⟩ F2 N2
    have hl2 : us.length = ws.length + (rest.length + 1) := by rw [hus.length, List.length_append, List.length_map]; rfl
    exact absurd hpi (by omega)
end Mine
end

section
open PySem PySem.W PyProof.Rows PySem.Calls PySem.Spec PyProof.V
namespace Mine

theorem Ext.ofTurn {fs : List Addr} {g g' h : Heap} (T : KtsTurn fs g g') (k : ∀ b o, g'.get? b = some o → h.get? b = some o) : Ext fs g h :=
  ⟨fun b o e m => k b o (T.other b o e m), fun b o e m => by obtain ⟨sl, hs⟩ := T.frame b o e m; exact ⟨sl, k b _ hs⟩⟩

theorem kd_push {h₀ h : Heap} {L : Addr} {m : Str → Option Value} {envs : List Env} {env : Env} (D : KtsDicts (frs envs) h₀) (F : Fr h₀ L h m) (hf : env.frame = some L) : KtsDicts (frs (env :: envs)) h := by
  intro b hb
  obtain ⟨e, he, hf'⟩ := List.mem_filterMap.mp hb
  rcases List.mem_cons.mp he with rfl | he
  · obtain ⟨o, es, ep, ho, hd, _⟩ := F.ns
    rw [hf] at hf'
    obtain rfl := Option.some.inj hf'
    exact ⟨o, es, ep, ho, hd⟩
  · obtain ⟨o, es, n, ho, hd⟩ := D b (List.mem_filterMap.mpr ⟨e, he, hf'⟩)
    exact ⟨o, es, n, F.keep b o ho, hd⟩

theorem use_err {w : World} {base g : Heap} {f : Addr} {args : List Value} {d u : Nat} {Pre : Heap → Prop} {cls : String} {dp un : Nat} {gd : Option (List Code)} {envs : List Env} {env : Env} {L : Addr} {m : Str → Option Value} {s : Shared} {Q E : Value → Shared → Prop}
    (C : CtrE w base f args d u Pre cls) (B : Below (AA dp un gd envs) base envs g) (D : KtsDicts (frs envs) g) (F : Fr g L s.heap m) (hf : env.frame = some L) (hk : env.scope.kind = .function) (hd : dp + 1 + d < recursionLimit) (hu : un + 3 + u < cLine) (hp : Pre s.heap)
    (h : ∀ e h' tk', RaisedSN base s.heap (env :: envs) e (.type cls) [] h' → s.heap.UpToSlots h' → E (.ref e) { s with heap := h', toks := tk' }) :
    wpAny (model PySem.Challenge.rw_pk0041_01.row.prog w) ((AA dp un gd envs).deeper env) (call (.ref f) args) Q E s := by
  refine wpAny_call (C (dp + 1) (un + 3) gd (env :: envs) s _ (pushX B F hf hk) (kd_push D F hf) hd hu hp fun e h' tk' r1 r2 => ?_)
  exact h e h' tk' r1 r2

theorem refused_ctr {w : World} {base : Heap} {mean : ExcName → Option Value} {mg mb : Str → Option Value} (XB : (Mine.hd.heap_39 w.params).In base) (TB : Top Mine.hd.view_39 (looseW Mine.hd.view_39 []) mean mg mb base)
  (l : Addr) (us : List Value) (ws : List (Str × Str)) (bb : Bool) (bk : Str) (rest : List Str) (hus : StrsAre us (ws.map kv ++ (if bb then bk ++ Str.ofString "=" else bk) :: rest)) (hbk : 61 ∉ bk.cps ∧ bk.length ≤ 1000) (hws : ∀ p ∈ ws, 61 ∉ p.1.cps ∧ 1 ≤ p.2.length ∧ p.1.length ≤ 1000 ∧ p.2.length ≤ 1000) (hwl : ws.length ≤ 1000) :
  CtrX w base 52 [.ref l] 3 300 (fun h => h.IsList l us.toArray) (fun h h' v => ∃ t, v = .int (if bb then 1 else 0) t) := by
  unfold CtrX
  revert XB
  k_fill
  intro XB dp un gd envs s R B KD hd hu hpre hret
  refine' enterP (binds := [(Str.ofString "items", .ref l)]) B XB TB ?k6 ?k7 ?k8 ?k9 ?kB ?_ ?c2 ?c3 ?c4 ?c5
  case k6 => k_is
  case k7 => k_is
  case k8 => exact Nat.lt_of_le_of_lt (Nat.le_add_right _ _) hd
  case k9 => exact BindsTo.of_eq rfl
  case kB => exact locs rfl
  case c2 => exact rfl
  case c3 => exact rfl
  case c4 => exact rfl
  case c5 => decide
  intro L h₁ hL F N X T
  refine wpAny_noRaise ?_
  walk_at "go"
  rename Fr _ _ _ _ => F2
  refine ⟨X.keeps F2.keep, ?_⟩
  refine use_err (keqv_err XB TB l us ws bb bk rest hus hbk hws hwl) B KD F2 rfl rfl (by omega) (by omega) (by exact hpre.at fun o e => F2.keep l o e) (fun e h7 tk7 R7 U7 => ?_)
  cases bb with
  | true =>
    replace R7 : RaisedSN base _ _ e (.type "IndexError") [] h7 := R7
    walk_at "go"
    rename KtsTurn _ _ _ => T9
    rename Fr _ _ _ _ => F9
    exact hret _ _ _ (Ext.ofTurn T9 F9.keep) ⟨_, rfl⟩
  | false =>
    replace R7 : RaisedSN base _ _ e (.type "ValueError") [] h7 := R7
    walk_at "go"
    rename KtsTurn _ _ _ => T9
    rename Fr _ _ _ _ => F9
    exact hret _ _ _ (Ext.ofTurn T9 F9.keep) ⟨_, rfl⟩
end Mine
end

section
open PySem PySem.W PyProof.Rows PySem.Calls PySem.Spec PyProof.V
namespace Mine
theorem Ext.up {fs : List Addr} {h h' : Heap} (x : Ext fs h h') : h.UpToSlots h' := by
  intro b o e _
  by_cases m : b ∈ fs
  · exact x.frame b o e m
  · exact ⟨o.slots, x.other b o e m⟩
theorem use_ctrX {w : World} {base g : Heap} {f : Addr} {args : List Value} {d u : Nat} {Pre : Heap → Prop} {Post : Heap → Heap → Value → Prop} {dp un : Nat} {gd : Option (List Code)} {envs : List Env} {env : Env} {L : Addr} {m : Str → Option Value} {news : List (Addr × Obj)} {s : Shared} {Q E : Value → Shared → Prop}
    (C : CtrX w base f args d u Pre Post) (B : Below (AA dp un gd envs) base envs g) (D : KtsDicts (frs envs) g) (F : Fr g L s.heap m) (N : News g L s.heap news) (hf : env.frame = some L) (hk : env.scope.kind = .function) (hd : dp + 1 + d < recursionLimit) (hu : un + 3 + u < cLine) (hp : Pre s.heap)
    (h : ∀ v h' tk' g', KtsTurn (frs envs) g g' → Fr g' L h' m → News g' L h' news → Below (AA dp un gd envs) base envs g' → KtsDicts (frs envs) g' → Post s.heap h' v → Q v { s with heap := h', toks := tk' }) :
    wpAny (model PySem.Challenge.rw_pk0041_01.row.prog w) ((AA dp un gd envs).deeper env) (call (.ref f) args) Q E s := by
  refine wpAny_call (C (dp + 1) (un + 3) gd (env :: envs) s _ (pushX B F hf hk) (kd_push D F hf) hd hu hp fun v h' tk' x p => ?_)
  have hmem : ∀ b, b ∈ frs envs → b ∈ frs (env :: envs) := by
    intro b hb
    obtain ⟨e, he, hf'⟩ := List.mem_filterMap.mp hb
    exact List.mem_filterMap.mpr ⟨e, List.mem_cons_of_mem _ he, hf'⟩
  have hcase : ∀ b, b ∈ frs (env :: envs) → b = L ∨ b ∈ frs envs := by
    intro b hb
    obtain ⟨e, he, hf'⟩ := List.mem_filterMap.mp hb
    rcases List.mem_cons.mp he with rfl | he
    · rw [hf] at hf'; exact .inl (Option.some.inj hf').symm
    · exact .inr (List.mem_filterMap.mpr ⟨e, he, hf'⟩)
  obtain ⟨T, S⟩ := kts_turn_at (h := h') (fs := frs envs) (g := g)
    (fun b hb => by obtain ⟨o, es, n, ho, _⟩ := D b hb; exact ⟨o, ho⟩)
    (fun b o e nm => x.other b o (F.keep b o e) (fun q => by
      rcases hcase b q with z | z
      · rw [z, kts_self F] at e; cases e
      · exact nm z))
    (fun b o e hm => x.frame b o (F.keep b o e) (hmem b hm))
  refine h v h' tk' _ T ⟨x.up.ns F.ns, S, by rw [T.size]; exact F.above⟩ (fun q hq => ?_) ⟨B.stack, fun b o e => T.other b o (B.stays b o e) (fun hm => by
    rw [(B.frames.mem hm).1] at e; cases e), B.frames.of_keeps fun b o e _ => by
      obtain ⟨sl, hs⟩ := T.up e
      exact ⟨_, hs, rfl⟩⟩ (D.turn T) p
  obtain ⟨q1, q2, q3⟩ := N q hq
  refine ⟨x.other _ _ q1 (fun hm => ?_), q2, T.none_ _ q3⟩
  rcases hcase _ hm with z | z
  · exact q2 z
  · obtain ⟨o, es, n, ho, _⟩ := D _ z
    rw [q3] at ho; cases ho
theorem turn_list {fs : List Addr} {g g' : Heap} (T : KtsTurn fs g g') (D : KtsDicts fs g) {l : Addr} {its : Array Value} (hl : g.IsList l its) : g'.IsList l its := by
  obtain ⟨o, ho, hc, n, hd⟩ := hl
  refine ⟨o, T.other l o ho (fun hm => ?_), hc, n, hd⟩
  obtain ⟨o', es, k, ho', hd'⟩ := D l hm
  rw [ho] at ho'; cases ho'
  rw [hd] at hd'; cases hd'
end Mine
end

section
open PySem PySem.W PyProof.Rows PySem.Calls PySem.Spec PyProof.V
namespace Mine
theorem list_keys_none : typeLookup (.type "list") (Str.ofString "keys") = pure none := by rw [typeLookup_type, builtinLookup_eq_fast]; kernel_rfl
theorem keys_miss {prog : Program} {w : World} {A : Around} {E : Value → Shared → Prop} {s : Shared} {a : Addr} {o : Obj} {xs : Array Value} {k : Nat} {Q : Option Value → Shared → Prop}
    (hx : s.heap.get? a = some o) (hc : o.cls = .type "list") (hdat : o.data = .seq xs k) (hd : o.dict = none) (hA : A.handled = none)
    (h : ∀ h' tk, s.heap.StaysIn h' → Q none { s with heap := h', toks := tk }) :
    wpAny (model prog w) A (getAttr? (.ref a) "keys") Q E s := by
  obtain ⟨c, dct, dat, sl⟩ := o
  simp only at hc hdat hd
  subst hc hdat hd
  obtain ⟨hp, g, d, tk, os⟩ := s
  have hT : ∀ tk', (⟨hp, g, d, tk', os⟩ : Shared).TypeIs (.ref a) "list" := fun _ => ⟨_, hx, rfl⟩
  have f1 := sub_AttributeError
  have f3 := F.slot_list_getattribute.lookup
  have f4 := F.slot_list_getattribute.bind (.ref a)
  have f5 := am_list_getattr_none
  unfold getAttr? getAttrBy? getAttrBy
  repeat (any_goals (first | assumption | exact hT _ | ((with_reducible show wpAny _ _ (call (Value.builtin "list.__getattribute__") _ _) _ _ _); refine call_meets F.slot_list_getattribute (hT _) am_entry_list_getattribute (F.args_list_getattribute_2 _ _) (meets_getattribute_miss_list a xs k sl (Str.ofString "keys") _ list_keys_none (by decide) (by decide +kernel)) ⟨hx, hA, fun h' tk' e hx' => ?_⟩) | wp_step))
  obtain ⟨t', u', he⟩ := hx'.there
  show wpAny _ _ (getattributeRaised _ _ _ _ _ _ _) _ _ _
  unfold getattributeRaised
  repeat (any_goals (first | assumption | wp_step))
  exact h _ _ (fun b o e => hx'.keeps b o e)

theorem plain_upd : plainId "dict.update.loop" = true := by decide +kernel
theorem entry_upd : entryFor table "dict.update.loop" = some Builtin.«dict.update.loop» := entryFor_of_fast (by kernel_rfl)

section
variable {prog : Program} {w : World} {A : Around} {E : Value → Shared → Prop} {s : Shared}
theorem dict_loop {d it src : Addr} {vs : List Value} {ps : List (Str × Str)} {g : Heap} {res : Value} {R : Result → Shared → Prop} (hh : A.handled = none)
    (hsrc : g.IsList src vs.toArray) (hs1 : src ≠ it) (hs2 : src ≠ d) (hdi : d ≠ it) (hsz : ps.length ≤ 1000) (hvl : vs.length = ps.length)
    (htup : ∀ (j : Nat) (v : Value), vs[j]? = some v → ∃ (a : Addr) (x y : Str) (t u : Tok), v = Value.ref a ∧ a ≠ it ∧ a ≠ d ∧ ps[j]? = some (x, y) ∧ IsTup g a #[.str x t, .str y u])
    (hR : ∀ h' tk kvs', (∀ b o, b ≠ it → b ≠ d → g.get? b = some o → h'.get? b = some o) → h'.DictOf (PySem.strKind prog w) d kvs' → FlatPairs PyData.str kvs' (denc (ps.foldl dput [])) → R (.ok (.ret res)) { s with heap := h', toks := tk }) :
    ∀ (n i : Nat) (h : Heap) (tk : Nat) (kvs : List (Str × Value)) (D : List (Str × Str)), i + n = ps.length → h.IsListIter it src i → (∀ b o, b ≠ it → b ≠ d → g.get? b = some o → h.get? b = some o) → h.DictOf (PySem.strKind prog w) d kvs → FlatPairs PyData.str kvs (denc D) → D = (ps.take i).foldl dput [] →
      codeAny (model prog w) A (.builtin "dict.update.loop" ⟨[.ref d, .ref it, rawInt i, res], []⟩) R { s with heap := h, toks := tk } := by
  intro n
  induction n with
  | zero =>
    intro i h tk kvs D hi hit hk hd hf hD
    have hl : h.IsList src vs.toArray := hsrc.at fun o e => hk src o hs1 hs2 e
    refine codeAny_builtin entry_upd ?_
    show wpAny _ _ (do let some item ← pyNext (.ref it) | Builtin.Dict.addKeywords d []; ret res
                       _) _ _ _
    refine wpAny_bind (wpAny_pyNext_list_end (A := A.under _) hh hit hl (by simp; omega) fun h₂ he => ?_)
    show wpAny _ _ (Builtin.Dict.addKeywords d [] >>= _) _ _ _
    refine wpAny_bind (wpAny_pure (wpAny_pure ?_))
    rw [List.take_of_length_le (by omega)] at hD
    subst hD
    exact hR h₂ _ kvs (fun b o h1 h2 e => he b o h1 (hk b o h1 h2 e)) (hd.extBut he hdi) hf
  | succ n ih =>
    intro i h tk kvs D hi hit hk hd hf hD
    have hl : h.IsList src vs.toArray := hsrc.at fun o e => hk src o hs1 hs2 e
    have hiv : i < vs.length := by omega
    obtain ⟨a, x, y, t, u, hv, ha1, ha2, hpi, hta⟩ := htup i _ (List.getElem?_eq_getElem hiv)
    refine codeAny_builtin entry_upd ?_
    show wpAny _ _ (do let some item ← pyNext (.ref it) | Builtin.Dict.addKeywords d []; ret res
                       _) _ _ _
    refine wpAny_bind (wpAny_pyNext_list_item hit hl (x := .ref a) (by simp [hiv, hv]) fun h₂ hit₂ hs₂ => ?_)
    refine wpAny_bind (wpAny_holding ?_)
    have hta₂ : IsTup h₂ a #[.str x t, .str y u] := by
      obtain ⟨o, ho, hc, nn, hdd⟩ := hta
      exact ⟨o, hs₂.extBut _ _ ha1 (hk a o ha1 ha2 ho), hc, nn, hdd⟩
    refine wpAny_bind (wpAny_tryCatch ?_)
    unfold Builtin.Dict.pairItems
    refine wpAny_bind (wpAny_typeOf hta₂.typeIs ?_)
    rw [if_pos (by decide)]
    obtain ⟨ot, hot, _, nt, hdt⟩ := id hta₂
    refine wpAny_bind (wpAny_seqItems hot hdt (wpAny_pure ?_))
    show wpAny _ _ (holding [Value.str x t, Value.str y u] (dictSet d (Value.str x t) (Value.str y u))) _ _ _
    have hd₂ : h₂.DictOf (PySem.strKind prog w) d kvs := hd.extBut hs₂.extBut hdi
    have hkl : kvs.length ≤ sizeLine := by
      have e1 := hf.length
      unfold denc at e1
      have e2 := foldl_dput_length (ps.take i) []
      rw [List.length_map, hD] at e1
      rw [List.length_take] at e2
      rw [sizeLine_eq]; simp at e2; omega
    refine wpAny_holding (wpAny_dictSet_pairs (k := x) (strKind_is _ _ _ _) hd₂ (fun h₃ hd₃ hs₃ => ?_) hkl)
    refine wpAny_pure ⟨plainId_quiet plain_upd _, ?_⟩
    have hf₃ := FlatPairs.stored PyProof.V.same_str hf x (Flat.str y u)
    rw [put_enc] at hf₃
    refine ih (i + 1) h₃ _ _ (dput D (x, y)) (by omega) (hit₂.extBut hs₃.extBut (Ne.symm hdi)) (fun b o h1 h2 e => hs₃.extBut b o h2 (hs₂.extBut b o h1 (hk b o h1 h2 e))) hd₃ hf₃ ?_
    rw [List.take_add_one, hpi, List.foldl_append, ← hD]; rfl

theorem call_pairs {src : Addr} {vs : List Value} {ps : List (Str × Str)} {o : Obj} {n : Nat} {Q : Value → Shared → Prop} (hh : A.handled = none)
    (ho : s.heap.get? src = some o) (hc : o.cls = .type "list") (hdat : o.data = .seq vs.toArray n) (hd : o.dict = none) (hsz : ps.length ≤ 1000) (hvl : vs.length = ps.length)
    (htup : ∀ (j : Nat) (v : Value), vs[j]? = some v → ∃ (a : Addr) (x y : Str) (t u : Tok), v = Value.ref a ∧ ps[j]? = some (x, y) ∧ IsTup s.heap a #[.str x t, .str y u])
    (h : ∀ h' tk kvs', s.heap.StaysIn h' → h'.DictOf (PySem.strKind prog w) s.heap.objs.size kvs' → FlatPairs PyData.str kvs' (denc (ps.foldl dput [])) → Q (.ref s.heap.objs.size) { s with heap := h', toks := tk }) :
    wpAny (model prog w) A (call (.type "dict") [.ref src]) Q E s := by
  refine callType_codes (Q₁ := fun obj s₁ => obj = .ref s.heap.objs.size ∧ s₁ = { s with heap := s.heap.push { cls := .type "dict", data := .dict #[] } }) F.kt_called_dict (F.kt_typeCall_dict_1 _) F.entry_dict_init (kt_code_dict_new _ ⟨rfl, rfl⟩) ?_
  rintro obj s₁ ⟨rfl, rfl⟩
  have hnew : (s.heap.push { cls := .type "dict", data := .dict #[] }).DictOf (PySem.strKind prog w) s.heap.objs.size [] := Heap.DictOf.new s.heap
  have ho' : (s.heap.push { cls := .type "dict", data := .dict #[] }).get? src = some o := Heap.get?_push_of_some _ ho
  have hT : ∀ tk, ({ s with heap := s.heap.push { cls := .type "dict", data := .dict #[] }, toks := tk } : Shared).TypeIs (.ref src) "list" := fun _ => ⟨o, ho', hc⟩
  have hlt : src < s.heap.objs.size := Heap.lt_size ho
  refine ⟨hnew.typeIs, F.args_dict_init_2 _ _, ?_⟩
  unfold Builtin.«dict.__init__»
  refine wpAny_bind ?_
  unfold Builtin.Dict.selfAndRest
  refine wpAny_bind (wpAny_notOrdered_dict hnew.typeIs ?_)
  show wpAny _ _ (pure (s.heap.objs.size, [Value.ref src])) _ _ _
  refine wpAny_pure ?_
  show wpAny _ _ (Builtin.Dict.updateFrom "dict.__init__" s.heap.objs.size (.ref src) [] .none) _ _ _
  unfold Builtin.Dict.updateFrom
  refine wpAny_bind (wpAny_typeOf (hT _) ?_)
  rw [if_pos (by decide)]
  refine wpAny_bind (keys_miss ho' hc hdat hd hh fun h₁ tk₁ hk₁ => ?_)
  rw [if_pos (by rfl)]
  refine wpAny_bind (wpAny_rule ?_)
  have hl₁ : h₁.IsList src vs.toArray := ⟨o, hk₁ _ _ ho', hc, n, hdat⟩
  refine wpAny_bind (wpAny_pyIter_list hl₁ ?_)
  refine wpAny_pure ⟨plainId_quiet plain_upd _, ?_⟩
  have hz : s.heap.objs.size < h₁.objs.size := Heap.lt_size (hk₁ _ _ (Heap.get?_push_size s.heap rfl))
  have kp : ∀ b ob, s.heap.get? b = some ob → (h₁.push { cls := .type "list_iterator", data := .fields #[.ref src, .int 0 0] }).get? b = some ob := fun b ob e => Heap.get?_push_of_some _ (hk₁ b ob (Heap.get?_push_of_some _ e))
  refine dict_loop (A := A.in1) (ps := ps) (g := s.heap) (vs := vs) hh ⟨o, ho, hc, n, hdat⟩ (Nat.ne_of_lt (Nat.lt_trans hlt hz)) (Nat.ne_of_lt hlt) (Nat.ne_of_lt hz) hsz hvl ?_ ?_ ps.length 0 _ _ [] [] (by omega) ⟨_, Heap.get?_push_size _ rfl, rfl, rfl⟩ (fun b ob _ _ e => kp b ob e) (((hnew.keep hk₁)).push _) .nil rfl
  · intro j v e
    obtain ⟨a, x, y, t, u, e1, e2, e3⟩ := htup j v e
    have ha : a < s.heap.objs.size := by obtain ⟨ot, hot, _⟩ := e3; exact Heap.lt_size hot
    exact ⟨a, x, y, t, u, e1, Nat.ne_of_lt (Nat.lt_trans ha hz), Nat.ne_of_lt ha, e2, e3⟩
  · intro h' tk kvs' hk hd' hf'
    exact ⟨rfl, h h' tk kvs' (fun b ob e => hk b ob (Nat.ne_of_lt (Nat.lt_trans (Heap.lt_size e) hz)) (Nat.ne_of_lt (Heap.lt_size e)) e) hd' hf'⟩

theorem dict_pairs {h₀ : Heap} {L : Addr} {m : Str → Option Value} {news : List (Addr × Obj)} {src : Addr} {vs : List Value} {ps : List (Str × Str)} {n : Nat} {Q : Value → Shared → Prop} (F : Fr h₀ L s.heap m) (N : News h₀ L s.heap news) (hbig : sysModules < h₀.objs.size) (hh : A.handled = none)
    (hm : (src, W.listOf vs.toArray n) ∈ news) (hp : PairsIn news vs ps) (hsz : ps.length ≤ 1000)
    (k : ∀ h' tk o kvs, Fr h₀ L h' m → News h₀ L h' ((s.heap.objs.size, o) :: news) → (s.heap.objs.size == sysModules) = false → o.IsDictOf (PySem.strKind prog w) kvs → FlatPairs PyData.str kvs (denc (ps.foldl dput [])) → (∀ p ∈ news, @LT.lt Nat _ p.1 s.heap.objs.size) → Q (.ref s.heap.objs.size) { s with heap := h', toks := tk }) :
    wpAny (model prog w) A (call (.type "dict") [.ref src]) Q E s := by
  refine call_pairs hh (N _ hm).1 rfl rfl rfl hsz hp.length ?_ fun h' tk kvs' hk hd hf => ?_
  · intro j v e
    obtain ⟨a, x, y, t, u, e1, e2, e3⟩ := hp.item j v e
    exact ⟨a, x, y, t, u, e1, e2, News.isTup N e3⟩
  · obtain ⟨o', ho', hd'⟩ := Heap.dictOf_iff.mp hd
    refine k h' tk o' kvs' (F.keeps hk) ?_ (F.notModules hbig) hd' hf (fun p hp => Heap.lt_size (N p hp).1)
    intro p hp
    rcases List.mem_cons.mp hp with rfl | hp
    · refine ⟨ho', ?_, ?_⟩
      · exact Nat.ne_of_gt F.ns.lt
      · exact Heap.get?_none_of_le (Nat.le_trans F.above (Nat.le_of_lt F.ns.lt))
    · exact N.grown hk p hp
end
end Mine
end

section
open PySem PySem.W PyProof.Rows PySem.Calls PySem.Spec PyProof.V
namespace Mine
section
variable {prog : Program} {w : World} {A : Around} {E : Value → Shared → Prop} {s : Shared} {h₀ : Heap} {L v d : Addr} {m : Str → Option Value} {news : List (Addr × Obj)} {od : Obj} {kvs : List (Str × Value)} {Q : Value → Shared → Prop}

theorem pairs_of_addrs {h : Heap} {ps : List (Str × Str)} : ∀ (D : List (Str × Str)) (as : List Addr), as.length = D.length → (∀ (j : Nat) (p : Str × Str), D[j]? = some p → ∃ a t u, as[j]? = some a ∧ h.get? a = some (tup p.1 t p.2 u)) →
    ∃ tups : List (Addr × Obj), PairsIn tups (as.map Value.ref) D ∧ ∀ q ∈ tups, q.1 ∈ as ∧ h.get? q.1 = some q.2
  | [], [], _, _ => ⟨[], .nil, fun _ h => absurd h List.not_mem_nil⟩
  | [], _ :: _, hl, _ => by simp at hl
  | _ :: _, [], hl, _ => by simp at hl
  | p :: D, a :: as, hl, hp => by
    obtain ⟨a', t, u, e1, e2⟩ := hp 0 p rfl
    have e1' : a = a' := by simpa using e1
    subst e1'
    obtain ⟨tups, h1, h2⟩ := pairs_of_addrs (ps := ps) D as (by simpa using hl) (fun j p' hj => hp (j + 1) p' (by simpa using hj))
    refine ⟨(a, tup p.1 t p.2 u) :: tups, .cons List.mem_cons_self (h1.mono fun q hq => List.mem_cons_of_mem _ hq), fun q hq => ?_⟩
    rcases List.mem_cons.mp hq with rfl | hq
    · exact ⟨List.mem_cons_self, e2⟩
    · exact ⟨List.mem_cons_of_mem _ (h2 q hq).1, (h2 q hq).2⟩

theorem flat_str_inv {v : Value} {y : Str} (h : Flat v (PyData.str y)) : ∃ t, v = .str y t := by
  have := h {}
  cases this; exact ⟨_, rfl⟩

theorem items_list {D : List (Str × Str)} (hh : A.handled = none) (F : Fr h₀ L s.heap m) (N : News h₀ L s.heap news) (hvw : (v, ({ cls := .type "dict_items", data := .fields #[.ref d] } : Obj)) ∈ news) (hmd : (d, od) ∈ news) (hod : od.IsDictOf (PySem.strKind prog w) kvs) (hf : FlatPairs PyData.str kvs (denc D)) (hn : D.length ≤ 1000)
    (h : ∀ B tups vs c h' tk, Fr h₀ L h' m → News h₀ L h' ((B, W.listOf vs.toArray c) :: (news ++ tups)) → PairsIn tups vs D → s.heap.StaysIn h' → (∀ q ∈ news, @LT.lt Nat _ q.1 B) → (∀ q ∈ tups, @LT.lt Nat _ B q.1) → Q (.ref B) { s with heap := h', toks := tk }) :
    wpAny (model prog w) A (call (.type "list") [.ref v]) Q E s := by
  obtain ⟨ep, hat⟩ := KdkAt.of hod
  have hkl : kvs.length = D.length := by have := hf.length; unfold denc at this; rw [List.length_map] at this; exact this.symm
  refine kdx_call (knd := PySem.strKind prog w) (kvs := kvs) (ep := ep) hh ⟨_, (N _ hvw).1, rfl, rfl⟩ (hat.dictAt (N _ hmd).1) (kdl_size (by omega)) fun h' tk acc c as hk hS hl hG hacc => ?_
  have hG' := hG
  obtain ⟨tups, t1, t2⟩ := pairs_of_addrs (ps := D) (h := h') D as (by rw [hl, hkl]) (fun j p hj => by
    have hjl : j < as.length := by
      have := (List.getElem?_eq_some_iff.mp hj).1
      omega
    obtain ⟨key, k, x, e1, e2, e3⟩ := hG.pairs j as[j] (List.getElem?_eq_getElem hjl)
    obtain ⟨dv, e4, e5⟩ := FlatPairs.at hf e1
    unfold denc at e4
    rw [List.getElem?_map, hj] at e4
    have e6 : (PyData.str p.1, PyData.str p.2) = (PyData.str k, dv) := Option.some.inj e4
    injection e6 with e7 e8
    injection e7 with e7
    subst e8
    obtain ⟨u, rfl⟩ := flat_str_inv e5
    obtain ⟨t, rfl⟩ := flat_str_inv (kdl_flat_str e2)
    subst e7
    exact ⟨as[j], t, u, List.getElem?_eq_getElem hjl, e3⟩)
  have ea : acc = (as.map Value.ref).toArray := by rw [← hacc, Array.toArray_toList]
  refine h s.heap.objs.size tups (as.map Value.ref) c h' tk (F.keeps hk) (fun q hq => ?_) t1 hk (fun q hq => Heap.lt_size (N q hq).1) (fun q hq => hG.above _ (t2 q hq).1)
  rcases List.mem_cons.mp hq with rfl | hq
  · exact ⟨by rw [← ea]; exact hS, kdx_fresh F (Nat.le_refl _)⟩
  rcases List.mem_append.mp hq with hq | hq
  · exact ⟨hk _ _ (N q hq).1, (N q hq).2⟩
  · exact ⟨(t2 q hq).2, kdx_fresh F (Nat.le_of_lt (hG.above _ (t2 q hq).1))⟩
end

theorem strsDat {nw : List (Addr × Obj)} {us : List Value} {xs : List Str} (h : StrsAre us xs) : DatAll nw us (xs.map Dat.str) := by
  induction h with
  | nil => exact .nil
  | cons => rename_i ih; exact .cons (.str _ _) ih
noncomputable def pdat (p : Str × Str) : Dat := .tuple [.str p.1, .str p.2]
theorem pairsDat {nw : List (Addr × Obj)} {vs : List Value} {ps : List (Str × Str)} (h : PairsIn nw vs ps) : DatAll nw vs (ps.map pdat) := by
  induction h with
  | nil => exact .nil
  | cons hm _ ih => exact .cons (.tuple (vs := [_, _]) hm (.cons (.str _ _) (.cons (.str _ _) .nil))) ih

theorem ne_same {prog : Program} {w : World} {A : Around} {E : Value → Shared → Prop} {s : Shared} {h₀ : Heap} {L a b : Addr} {news n₁ n₂ : List (Addr × Obj)} {oa ob : Obj} {xs ys : List Value} {ka kb : Nat} {ds : List Dat} {Q : Value → Shared → Prop}
    (N : News h₀ L s.heap news) (ma : (a, oa) ∈ news) (ca : oa.cls = .type "list") (da : oa.data = .seq xs.toArray ka) (Da : DatAll n₁ xs ds) (sa : ∀ p ∈ n₁, p ∈ news)
    (mb : (b, ob) ∈ news) (cb : ob.cls = .type "list") (db : ob.data = .seq ys.toArray kb) (Db : DatAll n₂ ys ds) (sb : ∀ p ∈ n₂, p ∈ news)
    (ha : ∀ d ∈ ds, kqdOk 8 d = true) (hu : A.units + 64 < cLine) (h : Q (.bool false) s) : wpAny (model prog w) A (compareOp .NotEq (.ref a) (.ref b)) Q E s :=
  kqd_ne N ma ca da Da sa mb cb db Db sb ha ha hu (by simpa using h)

theorem slice_take (us : List Value) {y : Int} (h : 0 ≤ y) : slicePick us.toArray none (some y) none = (us.take y.toNat).toArray := by
  rw [kms_pick_eq]
  have e1 : kms_lo none us.toArray.toList.length = 0 := rfl
  have e2 : kms_hi (some y) us.toArray.toList.length = min y.toNat us.length := by unfold kms_hi; simp only [if_neg (show ¬ y < 0 by omega)]
  unfold kms_pick
  rw [e1, e2]
  congr 1
  simp only [List.drop_zero, Nat.sub_zero]
  by_cases h1 : y.toNat ≤ us.length
  · rw [Nat.min_eq_left h1]
  · rw [Nat.min_eq_right (by omega), List.take_of_length_le (Nat.le_refl _), List.take_of_length_le (by omega)]
theorem slice_drop (us : List Value) {y : Int} (h : 0 ≤ y) : slicePick us.toArray (some y) none none = (us.drop y.toNat).toArray := by
  rw [kms_pick_eq]
  have e1 : kms_hi none us.toArray.toList.length = us.length := rfl
  have e2 : kms_lo (some y) us.toArray.toList.length = min y.toNat us.length := by unfold kms_lo; simp only [if_neg (show ¬ y < 0 by omega)]
  unfold kms_pick
  rw [e1, e2]
  congr 1
  by_cases h1 : y.toNat ≤ us.length
  · rw [Nat.min_eq_left h1]; exact List.take_of_length_le (by simp)
  · rw [Nat.min_eq_right (by omega), List.drop_of_length_le (Nat.le_refl _), List.drop_of_length_le (by omega)]; simp
theorem strs_take {us : List Value} {xs : List Str} (h : StrsAre us xs) (n : Nat) : StrsAre (us.take n) (xs.take n) := by
  induction h generalizing n with
  | nil => simp; exact .nil
  | cons => rename_i ih; cases n with
    | zero => exact .nil
    | succ n => exact .cons _ _ (ih n)
theorem strs_drop {us : List Value} {xs : List Str} (h : StrsAre us xs) (n : Nat) : StrsAre (us.drop n) (xs.drop n) := by
  induction h generalizing n with
  | nil => simp; exact .nil
  | cons => rename_i h1 ih; cases n with
    | zero => exact .cons _ _ h1
    | succ n => exact ih n
theorem strs_append {us us' : List Value} {xs xs' : List Str} (h : StrsAre us xs) (h' : StrsAre us' xs') : StrsAre (us ++ us') (xs ++ xs') := by
  induction h with
  | nil => exact h'
  | cons => rename_i ih; exact .cons _ _ ih
end Mine
end

section
open PySem PySem.W PyProof.Rows PySem.Calls PySem.Spec PyProof.V
namespace Mine

noncomputable def osv (x : Option Str) (t : Tok) : Value := match x with | none => .none | some y => .str y t
noncomputable def loc (x y : Option Str) : Str := match y with | none => x.getD (Str.ofString "C") | some e => x.getD (Str.ofString "C") ++ Str.ofString "." ++ e

theorem loc_ctr {w : World} {base : Heap} {mean : ExcName → Option Value} {mg mb : Str → Option Value} (XB : (Mine.hd.heap_39 w.params).In base) (TB : Top Mine.hd.view_39 (looseW Mine.hd.view_39 []) mean mg mb base)
  (l : Addr) (x y : Option Str) (t u : Tok) (hx : ∀ z, x = some z → z.length ≤ 100) (hy : ∀ z, y = some z → z.length ≤ 100) :
  Ctr w base 28 [.ref l] 1 100 (fun h => h.IsList l #[osv x t, osv y u]) (fun h h' v => ∃ t, v = .str (loc x y) t) := by
  unfold Ctr
  revert XB
  k_fill
  intro XB dp un gd envs s R B hd hu hpre hret
  refine' enterP (binds := [(Str.ofString "localetuple", .ref l)]) B XB TB ?k6 ?k7 ?k8 ?k9 ?kB ?_ ?c2 ?c3 ?c4 ?c5
  case k6 => k_is
  case k7 => k_is
  case k8 => exact Nat.lt_of_le_of_lt (Nat.le_add_right _ _) hd
  case k9 => exact BindsTo.of_eq rfl
  case kB => exact locs rfl
  case c2 => exact rfl
  case c3 => exact rfl
  case c4 => exact rfl
  case c5 => decide
  intro L h₁ hL F N X T
  refine wpAny_noRaise ?_
  walk_at "go"
  cases x with
  | none =>
    cases y with
    | none =>
      replace hpre : s.heap.IsList l #[.none, .none] := hpre
      refine kun_list F N (hpre.at fun o e => F.keep l o e) rfl rfl rfl (fun h2 F2 N2 => ?_)
      walk_at "go"
      rename Fr _ _ _ _ => F9
      exact hret _ _ _ F9.keep ⟨_, rfl⟩
    | some y =>
      have hyl := hy y rfl
      replace hpre : s.heap.IsList l #[.none, .str y u] := hpre
      refine kun_list F N (hpre.at fun o e => F.keep l o e) rfl rfl rfl (fun h2 F2 N2 => ?_)
      walk_at "go"
      rename Fr _ _ _ _ => F9
      exact hret _ _ _ F9.keep ⟨_, rfl⟩
  | some x =>
    have hxl := hx x rfl
    cases y with
    | none =>
      replace hpre : s.heap.IsList l #[.str x t, .none] := hpre
      refine kun_list F N (hpre.at fun o e => F.keep l o e) rfl rfl rfl (fun h2 F2 N2 => ?_)
      walk_at "go"
      rename Fr _ _ _ _ => F9
      exact hret _ _ _ F9.keep ⟨_, rfl⟩
    | some y =>
      have hyl := hy y rfl
      replace hpre : s.heap.IsList l #[.str x t, .str y u] := hpre
      refine kun_list F N (hpre.at fun o e => F.keep l o e) rfl rfl rfl (fun h2 F2 N2 => ?_)
      walk_at "go"
      rename Fr _ _ _ _ => F9
      exact hret _ _ _ F9.keep ⟨_, rfl⟩
theorem loc7_ctr {w : World} {base : Heap} {mean : ExcName → Option Value} {mg mb : Str → Option Value} (XB : (Mine.hd.heap_39 w.params).In base) (TB : Top Mine.hd.view_39 (looseW Mine.hd.view_39 []) mean mg mb base)
  (l : Addr) (t : Tok) :
  Ctr w base 28 [.ref l] 1 100 (fun h => IsTup h l #[.int 7 t, .none]) (fun h h' v => ∃ t, v = .int 7 t) := by
  unfold Ctr
  revert XB
  k_fill
  intro XB dp un gd envs s R B hd hu hpre hret
  refine' enterP (binds := [(Str.ofString "localetuple", .ref l)]) B XB TB ?k6 ?k7 ?k8 ?k9 ?kB ?_ ?c2 ?c3 ?c4 ?c5
  case k6 => k_is
  case k7 => k_is
  case k8 => exact Nat.lt_of_le_of_lt (Nat.le_add_right _ _) hd
  case k9 => exact BindsTo.of_eq rfl
  case kB => exact locs rfl
  case c2 => exact rfl
  case c3 => exact rfl
  case c4 => exact rfl
  case c5 => decide
  intro L h₁ hL F N X T
  refine wpAny_noRaise ?_
  walk_at "go"
  rename Fr _ _ _ _ => F9
  exact hret _ _ _ F9.keep ⟨_, rfl⟩
end Mine
end

section
open PySem PySem.W PyProof.Rows PySem.Calls PySem.Spec PyProof.V
namespace Mine
section
variable {prog : Program} {w : World} {A₀ : Around} {E : Value → Shared → Prop} {s' : Shared} {base g h : Heap} {outer : List Env} {L a e : Addr} {m : Str → Option Value} {name : Str} {scope : Scope} {cd : Value} {Q : Flow → Shared → Prop} {hs : List ExceptHandler}
end
end Mine
end

section
open PySem PySem.W PyProof.Rows PySem.Calls PySem.Spec PyProof.V
namespace Mine
/-- the exception has no context yet -/
noncomputable def Ctx0 (h : Heap) (e : Addr) : Prop := ∃ oe ws, h.get? e = some oe ∧ oe.data = .fields ws ∧ ws[2]? = some Value.none
theorem Ctx0.keeps {h h' : Heap} {e : Addr} (x : Ctx0 h e) (k : ∀ b o, h.get? b = some o → h'.get? b = some o) : Ctx0 h' e := by
  obtain ⟨oe, ws, h1, h2⟩ := x
  exact ⟨oe, ws, k _ _ h1, h2⟩

section
variable {M : Model} {A : Around} {E : Value → Shared → Prop} {s : Shared}

/-- a landing leaves the context as it is -/
theorem land_ctx {B : Heap} {l : List Env} {e : Addr} {cls a0 fl : Value} {Q : Unit → Shared → Prop} (hkb : B.StaysIn s.heap) (hen : B.get? e = none) (hl : s.heap.FunFrames B l) (ht : s.heap.TracedAtW B e cls a0 fl) (hc : Ctx0 s.heap e)
    (hQ : ∀ h', Heap.FlyingW B l e cls a0 h' → s.heap.UpToSlots h' → Ctx0 h' e → Q () { s with heap := h' }) : wpAny M A (setFlight (.ref e) none) Q E s := by
  obtain ⟨oe, vs, T, oT, ts, he, hcls, hd, h1, hnT, hTe, hT, hdT, h3⟩ := ht
  have lt3 : 3 < ts.size := (Array.getElem?_eq_some_iff.mp h3).1
  unfold setFlight
  refine wpAny_bind (wpAny_field he hd h1 ?_)
  rw [if_pos (by simp)]
  refine wpAny_setField hT hdT lt3 ?_
  have off : ∀ b, b ≠ T → (s.heap.update T (Obj.mapFields (·.setIfInBounds 3 ((none : Option Addr).elim Value.none fun f => rawInt f)))).get? b = s.heap.get? b := fun b hb => Heap.get?_update_other _ _ (Ne.symm hb)
  have norec : ∀ b o, s.heap.get? b = some o → (∀ vs, o.data ≠ .fields vs) → b ≠ T := by
    rintro b o hb hn rfl
    rw [hT] at hb
    cases hb
    exact hn ts hdT
  refine hQ _ ⟨fun b o hb => ?_, hen, hl.of_keeps fun b o hb hn => ⟨o, (off b (norec b o hb hn)).trans hb, rfl⟩, ?_⟩ (fun b o hb hn => ⟨o.slots, (off b (norec b o hb hn)).trans hb⟩) ?_
  · refine (off b ?_).trans (hkb b o hb)
    rintro rfl
    rw [hnT] at hb; cases hb
  · exact ⟨oe, vs, T, _, _, (off e (Ne.symm hTe)).trans he, hcls, hd, h1, hnT, hTe, Heap.get?_update_self _ hT (Obj.isFreed_of_fields (Obj.data_mapFields hdT _)), Obj.data_mapFields hdT _, by simp [lt3]⟩
  · obtain ⟨o2, ws, g1, g2⟩ := hc
    exact ⟨o2, ws, (off e (Ne.symm hTe)).trans g1, g2⟩

/-- the first note of a new exception leaves its context empty -/
theorem note_ctx {B : Heap} {env : Env} {outer : List Env} {L e : Addr} {oe : Obj} {tp : Value} {Q : Unit → Shared → Prop}
    (hfr : A.frames = some (env :: outer)) (hl : s.heap.FunFrames B (env :: outer)) (hf : env.frame = some L) (he : s.heap.get? e = some oe) (hkb : B.StaysIn s.heap) (hen : B.get? e = none)
    (hd : oe.data = .fields #[tp, .none, .none, .none, .bool false, .none])
    (h : ∀ h', Heap.HeldW B (env :: outer) e oe.cls tp L h' → s.heap.UpToSlots h' → Ctx0 h' e → Q () { s with heap := h' }) : wpAny M A (noteFrame (.ref e) env) Q E s := by
  have hene : e ∉ (env :: outer).filterMap (·.frame) := by
    intro hm
    obtain ⟨_, o, ho, hnf⟩ := hl.mem hm
    rw [he] at ho; cases ho
    exact hnf _ hd
  unfold noteFrame
  simp only [hf]
  refine wpAny_bind (wpAny_field he hd (x := .none) rfl ?_)
  rw [if_neg (by decide)]
  refine wpAny_bind (wpAny_frameOf_fun hfr hl hf fun h₁ hs₁ => ?_)
  refine wpAny_bind (wpAny_entryPlaceOf fun pl hpl => ?_)
  unfold EntryCells.newEntry newFields
  refine wpAny_bind (wpAny_newObj_type ?_ (hpl.sizeOk5 _ _ _ _ _))
  have he₁ : h₁.get? e = some oe := (hs₁.2.1 e hene).trans he
  have kb₁ : B.StaysIn h₁ := fun b o hbo => (hs₁.2.1 b fun hm => by rw [(hl.mem hm).1] at hbo; cases hbo).trans (hkb b o hbo)
  generalize hto : ({ cls := .type "traceback", dict := none, data := .fields ([Value.none, .ref L, .none, rawInt L, .none] ++ (if pl.isEmpty then List.replicate 6 Value.none else pl)).toArray } : Obj) = to
  have he₂ := Heap.get?_push_of_some (h := h₁) to he₁
  have hTe : h₁.objs.size ≠ e := Nat.ne_of_gt (Heap.lt_size he₁)
  refine wpAny_setField he₂ hd (by show 1 < 6; decide) ?_
  have hd₃ := Obj.data_mapFields hd (·.setIfInBounds 1 (Value.ref h₁.objs.size))
  have he₃ := Heap.get?_update_self (Obj.mapFields (·.setIfInBounds 1 (Value.ref h₁.objs.size))) he₂ (Obj.isFreed_of_fields hd₃)
  have off : ∀ b o, b ≠ e → h₁.get? b = some o → ((h₁.push to).update e (Obj.mapFields (·.setIfInBounds 1 (Value.ref h₁.objs.size)))).get? b = some o := by
    intro b o hb ho
    rw [Heap.get?_update_other _ _ (Ne.symm hb)]
    exact Heap.get?_push_of_some _ ho
  have norec : ∀ b o, s.heap.get? b = some o → (∀ vs, o.data ≠ .fields vs) → b ≠ e := by
    rintro b o hb hn rfl
    rw [he] at hb; cases hb
    exact hn _ hd
  have hT₃ : ((h₁.push to).update e (Obj.mapFields (·.setIfInBounds 1 (Value.ref h₁.objs.size)))).get? h₁.objs.size = some to := by
    rw [Heap.get?_update_other _ _ (Ne.symm hTe)]
    exact Heap.get?_push_size h₁ (by rw [← hto]; rfl)
  refine h _ ⟨fun b o hb => off b o (fun q => by rw [q, hen] at hb; cases hb) (kb₁ b o hb), hen, hl.of_keeps fun b o hb hn => ?_, ?_⟩ (fun b o hb hn => ?_) ?_
  · obtain ⟨sl, hs⟩ := hs₁.2.2 b o hb
    exact ⟨_, off b _ (norec b o hb hn) hs, rfl⟩
  · refine ⟨_, _, h₁.objs.size, to, _, he₃, ⟨Obj.cls_mapFields _ _, rfl⟩, hd₃, rfl, kb₁.fresh, hTe, hT₃, by rw [← hto], ?_⟩
    first | (simp; done) | (rcases hpl with rfl | ⟨_, _, _, _, _, _, _, rfl⟩ <;> simp)
  · obtain ⟨sl, hs⟩ := hs₁.2.2 b o hb
    exact ⟨sl, off b _ (norec b o hb hn) hs⟩
  · exact ⟨_, _, he₃, hd₃, rfl⟩
end

section
variable {prog : Program} {w : World} {A₀ : Around} {E : Value → Shared → Prop} {s' : Shared} {base g g₀ h : Heap} {outer : List Env} {L a e : Addr} {m : Str → Option Value} {name : Str} {scope : Scope} {cd : Value} {Q : Flow → Shared → Prop}
  {b₀ : Stmt} {suite : List Stmt} {pos : Pos} {rest : List ExceptHandler} {KF : Frag} {tt : Expr} {p : Program} {loose : List Str} {mean : ExcName → Option Value} {mg mb : Str → Option Value}
theorem catch_new {cls : String} (K : Below A₀ base outer g) (hx : Heap.NewExc h s'.heap e cls) (F : Fr g L h m) (XB : KF.In base) (TB : Top p loose mean mg mb base)
    (D : KtsDicts (outer.filterMap (·.frame)) g) (T : KtsTest prog w KF p loose mg mb name scope L a cd (.type cls) tt true)
    (k : ∀ h' g', KtsTurn (outer.filterMap (·.frame)) g g' → Fr g' L h' m → Below A₀ base outer g' → KF.In g' → Top p loose mean mg mb g' → KtsDicts (outer.filterMap (·.frame)) g' → Ctx0 h' e →
      wpAny (model prog w) ((A₀.deeper (envOf name scope L a cd)).mark (some (.ref e))) (execs (b₀ :: suite) (envOf name scope L a cd)) Q E { s' with heap := h' })
    (hk : scope.kind = .function)
    (hE : PassesOwnAt (model prog w) ((A₀.deeper (envOf name scope L a cd)).mark (some (.ref e))) (A₀.deeper (envOf name scope L a cd)) (envOf name scope L a cd) E) :
    wpAny (model prog w) (A₀.deeper (envOf name scope L a cd)) (noteFrame (.ref e) (envOf name scope L a cd))
      (fun _ s₂ => wpAny (model prog w) (A₀.deeper (envOf name scope L a cd)) (setFlight (.ref e) none) (fun _ s₃ =>
        wpAny (model prog w) (A₀.deeper (envOf name scope L a cd)) (handleBy (.ref e) (envOf name scope L a cd) (.ExceptHandler (some tt) none (b₀ :: suite) pos :: rest)) Q E s₃) E s₂) E s' := by
  have K' := K.push (name := name) (a := a) (cd := cd) F hk
  have hin : ∀ env ∈ (envOf name scope L a cd :: outer), ∀ b, env.frame = some b → b ∈ (envOf name scope L a cd :: outer).filterMap (·.frame) := fun env he b hb => List.mem_filterMap.mpr ⟨env, he, hb⟩
  have st : base.StaysIn (hideAll h ((envOf name scope L a cd :: outer).filterMap (·.frame))) := fun b o q => hideAll_get _ (K'.stays b o q) fun hm => by
    rw [(K'.frames.mem hm).1] at q; cases q
  have sg : ∀ b o, h.get? b = some o → b ∉ (envOf name scope L a cd :: outer).filterMap (·.frame) → (hideAll h ((envOf name scope L a cd :: outer).filterMap (·.frame))).get? b = some o := fun b o q nm => hideAll_get _ q nm
  obtain ⟨ob, tp, he, hcls, hd⟩ := hx.there
  have hen : (hideAll h ((envOf name scope L a cd :: outer).filterMap (·.frame))).get? e = none := by
    cases q : (hideAll h ((envOf name scope L a cd :: outer).filterMap (·.frame))).get? e with
    | none => rfl
    | some o => have := of_hideAll _ q; rw [hx.new] at this; cases this
  have hff : s'.heap.FunFrames (hideAll h ((envOf name scope L a cd :: outer).filterMap (·.frame))) (envOf name scope L a cd :: outer) := (funFrames_hide K'.frames hin).of_keeps fun b o hb _ => ⟨o, hx.keeps b o hb, rfl⟩
  have hkb : (hideAll h ((envOf name scope L a cd :: outer).filterMap (·.frame))).StaysIn s'.heap := fun b o hb => hx.keeps b o (of_hideAll _ hb)
  generalize hideAll h ((envOf name scope L a cd :: outer).filterMap (·.frame)) = B at st sg hen hff hkb
  refine note_ctx (Around.frames_deeper K.stack) hff rfl he hkb hen hd fun h₄ hh₄ hs₄ hc₄ => ?_
  obtain ⟨f1, f2, f3, f4⟩ := hh₄
  refine land_ctx f1 f2 f3 f4 hc₄ fun h₅ hf₅ hs₅ hc₅ => ?_
  rw [hcls] at hf₅
  have R₅ : RaisedSN base h (envOf name scope L a cd :: outer) e (.type cls) [] h₅ := ⟨B, tp, st, sg, fun _ q => absurd q List.not_mem_nil, hf₅⟩
  have U₅ : h.UpToSlots h₅ := (Heap.UpToSlots.of_keeps hx.keeps).trans (hs₄.trans hs₅)
  obtain ⟨g₅, T₅, F₅, K₅⟩ := kts_ground K F sg hf₅.1 U₅
  refine wpAny_handleBy_cons (codeAny_handlers_test (T _ _ _ _ g₅ e m F₅ (XB.keeps K₅.stays) (topRead_of (TB.keeps K₅.stays)) R₅.ty fun h₆ kp => ?_)) (by intro q; cases q)
  refine codeAny_handlers_suite ?_
  obtain ⟨v1, v2, v3, v4⟩ := flying_keeps hf₅ kp
  refine land_ctx v1 v2 v3 v4.at (hc₅.keeps kp) fun h₇ hf₇ hs₇ hc₇ => ?_
  obtain ⟨g₇, T₇, F₇, K₇⟩ := kts_ground K F sg hf₇.1 ((U₅.trans (Heap.UpToSlots.of_keeps kp)).trans hs₇)
  exact wpAny_passesOwnAt hE (k h₇ g₇ T₇ F₇ K₇ (XB.keeps K₇.stays) (TB.keeps K₇.stays) (D.turn T₇) hc₇)
end
end Mine
end

section
open PySem PySem.W PyProof.Rows PySem.Calls PySem.Spec PyProof.V
namespace Mine
/-- an exception raised anew, whatever its context -/
structure Exc3 (h h' : Heap) (e t : Addr) (cls : Value) (vs : List Value) : Prop where
  keeps : ∀ b o, h.get? b = some o → h'.get? b = some o
  new : h.get? e = none
  there : ∃ ob ws, h'.get? e = some ob ∧ ob.cls = cls ∧ ob.data = .fields ws ∧ ws[0]? = some (.ref t) ∧ ws[1]? = some Value.none
  tnew : h.get? t = none
  tup : h'.get? t = some { cls := .type "tuple", data := .seq vs.toArray }

theorem plain_unchain : plainId "proto.unchain" = true := by decide +kernel
theorem entry_unchain : entryFor table "proto.unchain" = some Builtin.«proto.unchain» := entryFor_of_fast (by kernel_rfl)

section
variable {prog : Program} {w : World} {A : Around} {E : Value → Shared → Prop} {s : Shared} {env : Env}
theorem raise_in {e e0 : Addr} {α : Type} {Q : α → Shared → Prop} {ob : Obj} {ws : Array Value} (hA : A.handled = some (.ref e0)) (hc : Ctx0 s.heap e0) (hne : e0 ≠ e) (he : s.heap.get? e = some ob) (hd : ob.data = .fields ws) (hz : 2 < ws.size)
    (h : E (.ref e) { s with heap := s.heap.update e (Obj.mapFields (·.setIfInBounds 2 (.ref e0))) }) :
    wpAny (model prog w) A (raiseNew (.ref e) : Sem α) Q E s := by
  unfold raiseNew
  refine wpAny_bind (wpAny_handled ?_)
  rw [hA]
  dsimp only
  rw [if_pos (by simp [hne])]
  obtain ⟨oe, vs, g1, g2, g3⟩ := hc
  refine wpAny_bind (wpAny_holding (wpAny_runValue (codeAny_builtin entry_unchain ?_)))
  show wpAny _ _ (field (.ref e0) 2 >>= _) _ _ s
  refine wpAny_bind (wpAny_field g1 g2 g3 ?_)
  rw [if_pos (by rfl)]
  refine wpAny_pure ?_
  show wpAny _ _ (setField (.ref e) 2 (.ref e0) >>= fun _ => throw _) _ _ s
  exact wpAny_bind (wpAny_setField he hd hz (wpAny_throw h))

theorem raise_none {cls newId initId : String} (FC : ExcCallFacts cls newId initId) (G : ExcRaiseFacts cls) {e0 : Addr} {x : Str} {np cpos pos kp : Pos} {kk : Nat} {e₀ : Expr} {Q : Flow → Shared → Prop} {word : Str}
    (hA : A.handled = some (.ref e0)) (hc : Ctx0 s.heap e0)
    (hx : ∀ (Q' : Value → Shared → Prop), Q' (.type cls) s → wpAny (model prog w) A (eval (.Name x np) env) Q' E s)
    (hw : ∀ (s' : Shared) (Q' : Value → Shared → Prop), (∀ u tk, Q' (.str word u) { s' with toks := tk }) → wpAny (model prog w) A (eval e₀ env) Q' E s')
    (h : ∀ h' e t tk u, Exc3 s.heap h' e t (.type cls) [.str word u] → E (.ref e) { s with heap := h', toks := tk })
    (he : starEach [e₀] env = [(false, eval e₀ env)]) :
    wpAny (model prog w) A (exec (.Raise (some (.Call (.Name x np) [e₀] [] cpos)) (some (.Constant .none kk kp)) pos) env) Q E s := by
  rw [arm_exec_Raise]
  refine wpAny_bind (wpAny_standAt ?_)
  unfold raiseStmt

  refine wpAny_bind (wpAny_bind (wpAny_Call_ofName (hx _ ?_)))
  refine callWith_excType (by rw [he]; rfl) ?_
  rw [he]
  refine Calls.evalArgs_plain ?_
  simp only [Bool.false_eq_true, if_false, List.map_nil]
  refine Calls.spliced_cons (hw _ _ fun u tk => Calls.spliced_nil ?_)
  refine wpAny_call_exc FC (fun h₁ e hm => ?_) (by show 1 ≤ sizeLine; rw [sizeLine_eq]; decide)
  obtain ⟨t, ht, htn, htt⟩ := hm.there
  refine wpAny_bind (wpAny_standAt (wpAny_pure ?_))
  refine wpAny_bind (wpAny_holding ?_)
  refine wpAny_bind ?_
  refine wpAny_Constant_none ?_
  refine wpAny_bind (wpAny_standAt (wpAny_pure ?_))
  refine wpAny_bind (wpAny_pure ?_)
  refine wpAny_bind (wpAny_holding ?_)
  have hsub := G.isExc
  have hmeta := G.plainMeta
  have hne : e0 ≠ e := by
    obtain ⟨oe, ws, g1, _⟩ := hc
    rintro rfl
    rw [hm.new] at g1; cases g1
  unfold excFromValue
  repeat (first | refine wpAny_loadPart ht ?_ | wp_step)
  have g3 := Heap.get?_update_self (Obj.mapFields (fun x => x.setIfInBounds 3 Value.none)) ht rfl
  have g4 := Heap.get?_update_self (Obj.mapFields (fun x => x.setIfInBounds 4 (Value.bool true))) g3 rfl
  have g5 := Heap.get?_update_self (Obj.mapFields (fun x => x.setIfInBounds 2 (Value.ref e0))) g4 rfl
  have hte : t ≠ e := by
    rintro rfl
    rw [ht] at htt
    cases htt
  have off : ∀ b o, b ≠ e → h₁.get? b = some o → (((h₁.update e (Obj.mapFields fun x => x.setIfInBounds 3 Value.none)).update e (Obj.mapFields fun x => x.setIfInBounds 4 (Value.bool true))).update e (Obj.mapFields (·.setIfInBounds 2 (.ref e0)))).get? b = some o := by
    intro b o hb ho
    rw [Heap.get?_update_other _ _ (Ne.symm hb), Heap.get?_update_other _ _ (Ne.symm hb), Heap.get?_update_other _ _ (Ne.symm hb)]
    exact ho
  have hoff : ∀ b o, s.heap.get? b = some o → b ≠ e := by
    rintro b o ho rfl
    rw [hm.new] at ho; cases ho
  refine raise_in hA ?_ hne g4 rfl (by show 2 < 6; decide) ?_
  · obtain ⟨oe, ws, q1, q2⟩ := hc
    refine ⟨oe, ws, ?_, q2⟩
    rw [Heap.get?_update_other _ _ (Ne.symm hne), Heap.get?_update_other _ _ (Ne.symm hne)]
    exact hm.keeps _ _ q1
  · exact h _ e t tk u ⟨fun b o ho => off b o (hoff b o ho) (hm.keeps b o ho), hm.new, ⟨_, _, g5, rfl, rfl, rfl, rfl⟩, htn, off t _ hte htt⟩

theorem leave3 {A : Around} {E : Value → Shared → Prop} {s' : Shared} {base g h : Heap} {outer : List Env} {L a e t : Addr} {m : Str → Option Value} {name : Str} {scope : Scope} {cd cls : Value} {vs : List Value} {Q : Unit → Shared → Prop}
    (K : Below A base outer g) (hx : Exc3 h s'.heap e t cls vs) (F : Fr g L h m)
    (hQ : ∀ h', RaisedS base g outer e cls t vs [] h' → g.UpToSlots h' → Q () { s' with heap := h' }) (hk : scope.kind = .function) :
    wpAny (model prog w) (A.deeper (envOf name scope L a cd)) (leaving (envOf name scope L a cd) (.ref e)) Q E s' := by
  have K' := K.push (name := name) (a := a) (cd := cd) F hk
  have hin : ∀ env ∈ (envOf name scope L a cd :: outer), ∀ b, env.frame = some b → b ∈ (envOf name scope L a cd :: outer).filterMap (·.frame) := fun env he b hb => List.mem_filterMap.mpr ⟨env, he, hb⟩
  have st : base.StaysIn (hideAll h ((envOf name scope L a cd :: outer).filterMap (·.frame))) := fun b o q => hideAll_get _ (K'.stays b o q) fun hm => by
    rw [(K'.frames.mem hm).1] at q; cases q
  have sg : ∀ b o, g.get? b = some o → b ∉ outer.filterMap (·.frame) → (hideAll h ((envOf name scope L a cd :: outer).filterMap (·.frame))).get? b = some o := fun b o q nm => hideAll_get _ (F.keep b o q) fun hm => by
    rcases kts_mem hm with z | z
    · rw [z, kts_self F] at q
      cases q
    · exact nm z
  have hff : s'.heap.FunFrames (hideAll h ((envOf name scope L a cd :: outer).filterMap (·.frame))) (envOf name scope L a cd :: outer) := (funFrames_hide K'.frames hin).of_keeps fun b o hb _ => ⟨o, hx.keeps b o hb, rfl⟩
  have hkb : (hideAll h ((envOf name scope L a cd :: outer).filterMap (·.frame))).StaysIn s'.heap := fun b o hb => hx.keeps b o (of_hideAll _ hb)
  have hnone : ∀ b, h.get? b = none → (hideAll h ((envOf name scope L a cd :: outer).filterMap (·.frame))).get? b = none := by
    intro b hb
    cases q : (hideAll h ((envOf name scope L a cd :: outer).filterMap (·.frame))).get? b with
    | none => rfl
    | some o => have := of_hideAll _ q; rw [hb] at this; cases this
  have hen := hnone e hx.new
  have htn := hnone t hx.tnew
  generalize hideAll h ((envOf name scope L a cd :: outer).filterMap (·.frame)) = B at st sg hff hkb hen htn
  obtain ⟨ob, ws, he, hc, hd, h0, h1⟩ := hx.there
  refine wpAny_leaving_firstW K'.stack hff rfl he hkb hen hd h1 h0 fun h' hL => ?_
  obtain ⟨k1, ⟨_, _, k2⟩, k3, k4⟩ := hL
  rw [hc] at k3
  have U : g.UpToSlots h' := ((Heap.UpToSlots.of_keeps F.keep).trans (Heap.UpToSlots.of_keeps hx.keeps)).trans k4
  exact hQ h' ⟨⟨B, st, sg, fun _ q => absurd q List.not_mem_nil, ⟨k1, hen, k2, k3⟩, htn⟩, Heap.TupAt.of_slots ⟨_, _, hx.tup, rfl, rfl⟩ k4⟩ U
end
end Mine
end

section
open PySem PySem.W PyProof.Rows PySem.Calls PySem.Spec PyProof.V
namespace Mine


noncomputable def CtrS (w : World) (base : Heap) (f : Addr) (args : List Value) (d u : Nat) (Pre : Heap → Prop) (cls : String) (words : Str) : Prop :=
  ∀ (dp un : Nat) (gd : Option (List Code)) (envs : List Env) (s : Shared) (R : Result → Shared → Prop),
    Below (AA dp un gd envs) base envs s.heap → KtsDicts (frs envs) s.heap → dp + d < recursionLimit → un + u < cLine → Pre s.heap →
    (∀ e t u h' tk', RaisedS base s.heap envs e (.type cls) t [.str words u] [] h' → s.heap.UpToSlots h' → R (.error (.ref e)) { s with heap := h', toks := tk' }) →
    codeAny (model PySem.Challenge.rw_pk0041_01.row.prog w) (AA dp un gd envs) (.call (.ref f) ⟨args, []⟩) R s
noncomputable def due : Str := Str.ofString "Locale must be None, a string, or an iterable of two strings -- language code, encoding."
theorem RaisedS.turn {base g g' h : Heap} {l : List Env} {e t : Addr} {cls : Value} {vs : List Value} (T : KtsTurn (l.filterMap (·.frame)) g g') (R : RaisedS base g' l e cls t vs [] h) : RaisedS base g l e cls t vs [] h := by
  obtain ⟨⟨B, hB, h1, _, h3⟩, h4⟩ := R
  exact ⟨⟨B, hB, fun b o e m => h1 b o (T.other b o e m) m, fun _ q => absurd q List.not_mem_nil, h3⟩, h4⟩
theorem Heap.UpToSlots.ofTurn {fs : List Addr} {g g' : Heap} (T : KtsTurn fs g g') : g.UpToSlots g' := fun _ _ e _ => T.up e

theorem odd0 {w : World} {base : Heap} {mean : ExcName → Option Value} {mg mb : Str → Option Value} (XB : (Mine.hd.heap_39 w.params).In base) (TB : Top Mine.hd.view_39 (looseW Mine.hd.view_39 []) mean mg mb base)
  (l : Addr) (x : Value) :
  CtrS w base 28 [.ref l] 1 100 (fun h => IsTup h l #[x]) "TypeError" due := by
  unfold CtrS
  revert XB
  k_fill
  intro XB dp un gd envs s R B KD hd hu hpre hret
  refine' enterP (binds := [(Str.ofString "localetuple", .ref l)]) B XB TB ?k6 ?k7 ?k8 ?k9 ?kB ?_ ?c2 ?c3 ?c4 ?c5
  case k6 => k_is
  case k7 => k_is
  case k8 => exact Nat.lt_of_le_of_lt (Nat.le_add_right _ _) hd
  case k9 => exact BindsTo.of_eq rfl
  case kB => exact locs rfl
  case c2 => exact rfl
  case c3 => exact rfl
  case c4 => exact rfl
  case c5 => decide
  intro L h₁ hL F N X T
  walk_at "go"
  replace hpre : IsTup s.heap l #[x] := hpre
  refine few_tup F N (by obtain ⟨o, ho, r⟩ := hpre; exact ⟨o, F.keep l o ho, r⟩) rfl rfl rfl (fun h2 h3 tk3 e F2 N2 hx => ?_)
  walk_at "go"
  refine catch_new B hx F2 XB TB KD ?kt (fun h4 g4 T4 F4 K4 X4 P4 D4 C4 => ?_) rfl (by passes_own)
  case kt => kts_test
  walk_at "go"
  refine raise_none PySem.F.excCall_TypeError PySem.F.excRaise_TypeError (word := due) rfl C4 ?_ ?_ ?_ rfl
  · intro Q' hq
    exact name_B F4 X4 (topRead_of P4) (by k_is) PyProof.Rows.Boot.«TypeError» (by decide) hq
  · intro s5 Q' hq
    exact wpAny_Constant_str (hq _ _)
  · intro h6 e6 t6 tk6 u6 x6
    refine leave3 K4 x6 F4 (fun h7 R7 U7 => ?_) rfl
    exact hret _ _ _ _ _ (RaisedS.turn T4 R7) ((Heap.UpToSlots.ofTurn T4).trans U7)
theorem odd1 {w : World} {base : Heap} {mean : ExcName → Option Value} {mg mb : Str → Option Value} (XB : (Mine.hd.heap_39 w.params).In base) (TB : Top Mine.hd.view_39 (looseW Mine.hd.view_39 []) mean mg mb base)
  (l : Addr) (x y z : Value) :
  CtrS w base 28 [.ref l] 1 100 (fun h => IsTup h l #[x, y, z]) "TypeError" due := by
  unfold CtrS
  revert XB
  k_fill
  intro XB dp un gd envs s R B KD hd hu hpre hret
  refine' enterP (binds := [(Str.ofString "localetuple", .ref l)]) B XB TB ?k6 ?k7 ?k8 ?k9 ?kB ?_ ?c2 ?c3 ?c4 ?c5
  case k6 => k_is
  case k7 => k_is
  case k8 => exact Nat.lt_of_le_of_lt (Nat.le_add_right _ _) hd
  case k9 => exact BindsTo.of_eq rfl
  case kB => exact locs rfl
  case c2 => exact rfl
  case c3 => exact rfl
  case c4 => exact rfl
  case c5 => decide
  intro L h₁ hL F N X T
  walk_at "go"
  replace hpre : IsTup s.heap l #[x, y, z] := hpre
  refine many_tup F N (by obtain ⟨o, ho, r⟩ := hpre; exact ⟨o, F.keep l o ho, r⟩) rfl rfl rfl (fun h2 h3 tk3 e F2 N2 hx => ?_)
  walk_at "go"
  refine catch_new B hx F2 XB TB KD ?kt (fun h4 g4 T4 F4 K4 X4 P4 D4 C4 => ?_) rfl (by passes_own)
  case kt => kts_test
  walk_at "go"
  refine raise_none PySem.F.excCall_TypeError PySem.F.excRaise_TypeError (word := due) rfl C4 ?_ ?_ ?_ rfl
  · intro Q' hq
    exact name_B F4 X4 (topRead_of P4) (by k_is) PyProof.Rows.Boot.«TypeError» (by decide) hq
  · intro s5 Q' hq
    exact wpAny_Constant_str (hq _ _)
  · intro h6 e6 t6 tk6 u6 x6
    refine leave3 K4 x6 F4 (fun h7 R7 U7 => ?_) rfl
    exact hret _ _ _ _ _ (RaisedS.turn T4 R7) ((Heap.UpToSlots.ofTurn T4).trans U7)
theorem odd2 {w : World} {base : Heap} {mean : ExcName → Option Value} {mg mb : Str → Option Value} (XB : (Mine.hd.heap_39 w.params).In base) (TB : Top Mine.hd.view_39 (looseW Mine.hd.view_39 []) mean mg mb base)
   :
  CtrS w base 28 [.none] 1 100 (fun _ => True) "TypeError" due := by
  unfold CtrS
  revert XB
  k_fill
  intro XB dp un gd envs s R B KD hd hu hpre hret
  refine' enterP (binds := [(Str.ofString "localetuple", .none)]) B XB TB ?k6 ?k7 ?k8 ?k9 ?kB ?_ ?c2 ?c3 ?c4 ?c5
  case k6 => k_is
  case k7 => k_is
  case k8 => exact Nat.lt_of_le_of_lt (Nat.le_add_right _ _) hd
  case k9 => exact BindsTo.of_eq rfl
  case kB => exact locs rfl
  case c2 => exact rfl
  case c3 => exact rfl
  case c4 => exact rfl
  case c5 => decide
  intro L h₁ hL F N X T
  walk_at "go"
  refine none_tup F N rfl rfl rfl (fun h2 h3 tk3 e F2 N2 hx => ?_)
  walk_at "go"
  refine catch_new B hx F2 XB TB KD ?kt (fun h4 g4 T4 F4 K4 X4 P4 D4 C4 => ?_) rfl (by passes_own)
  case kt => kts_test
  walk_at "go"
  refine raise_none PySem.F.excCall_TypeError PySem.F.excRaise_TypeError (word := due) rfl C4 ?_ ?_ ?_ rfl
  · intro Q' hq
    exact name_B F4 X4 (topRead_of P4) (by k_is) PyProof.Rows.Boot.«TypeError» (by decide) hq
  · intro s5 Q' hq
    exact wpAny_Constant_str (hq _ _)
  · intro h6 e6 t6 tk6 u6 x6
    refine leave3 K4 x6 F4 (fun h7 R7 U7 => ?_) rfl
    exact hret _ _ _ _ _ (RaisedS.turn T4 R7) ((Heap.UpToSlots.ofTurn T4).trans U7)
end Mine
end

section
open PySem PySem.W PyProof.Rows PySem.Calls PySem.Spec PyProof.V
namespace Mine
section
variable {prog : Program} {w : World} {A : Around} {E : Value → Shared → Prop} {s : Shared}
theorem nm_int : (Manifest.find? "int").elim "int" (fun x => x.tpName) = "int" := by rw [find?_eq_fast]; kernel_rfl
theorem nm_list : (Manifest.find? "list").elim "list" (fun x => x.tpName) = "list" := by rw [find?_eq_fast]; kernel_rfl
theorem tno_str {M : Model} {x : Str} {t : Tok} {Q : String → Shared → Prop} (h : Q "str" s) : wpAny M A (PySem.typeNameOf (.str x t)) Q E s := by
  unfold PySem.typeNameOf shownTypeOf
  refine wpAny_bind (wpAny_bind (wpAny_typeOf (T := "str") (typeIs_str s x t) ?_))
  simp only [show (Value.type "str" == Value.type "builtin_function_or_method") = false by decide, Bool.false_eq_true, if_false]
  refine wpAny_pure ?_
  rw [show PySem.typeName (.type "str") = pure "str" by unfold PySem.typeName; rw [find?_eq_fast]; kernel_rfl]
  exact wpAny_pure h
theorem strAdd_int (x : Str) (t : Tok) (n : Int) (u : Tok) : Meets (Builtin.«str.__add__» ⟨[.str x t, .int n u], []⟩) (raisesNew "TypeError") :=
  Meets.of_wp fun prog w A R s hs => by
    obtain ⟨hp, g, d, tk, os⟩ := s
    unfold Builtin.«str.__add__»
    repeat (any_goals (first | assumption | wp_step))
    rw [nm_int]
    exact wpAny_raiseErrorMade plainExc_TypeError hs.1 (fun h' tk e hx => hs.2 h' tk e hx) (by decide +kernel)
theorem strAdd_ref (x : Str) (t : Tok) (a : Addr) (dct : Option Addr) (xs : Array Value) (k : Nat) (sl : Array (Option Value)) : Meets (Builtin.«str.__add__» ⟨[.str x t, .ref a], []⟩) (fun A R s => s.heap.get? a = some { cls := .type "list", dict := dct, data := .seq xs k, slots := sl } ∧ raisesNew "TypeError" A R s) :=
  Meets.of_wp fun prog w A R s hs => by
    obtain ⟨hp, g, d, tk, os⟩ := s
    obtain ⟨hx, hs⟩ := hs
    have hT : (⟨hp, g, d, tk, os⟩ : Shared).TypeIs (.ref a) "list" := ⟨_, hx, rfl⟩
    unfold Builtin.«str.__add__»
    repeat (any_goals (first | assumption | wp_step))
    rw [nm_list]
    exact wpAny_raiseErrorMade plainExc_TypeError hs.1 (fun h' tk e hx => hs.2 h' tk e hx) (by decide +kernel)


theorem intRadd_str (x : Str) (t : Tok) (n : Int) (u : Tok) : Meets (Builtin.«int.__radd__» ⟨[.int n u, .str x t], []⟩) (fun A R s => R (.ok (.ret .notImplemented)) s) :=
  Meets.of_wp fun prog w A R s hs => by
    obtain ⟨hp, g, d, tk, os⟩ := s
    unfold Builtin.«int.__radd__»
    repeat (any_goals (first | assumption | wp_step))
    exact ⟨_, rfl, hs⟩
theorem intAdd_str (x : Str) (t : Tok) (n : Int) (u : Tok) : Meets (Builtin.«int.__add__» ⟨[.int n u, .str x t], []⟩) (fun A R s => R (.ok (.ret .notImplemented)) s) :=
  Meets.of_wp fun prog w A R s hs => by
    obtain ⟨hp, g, d, tk, os⟩ := s
    unfold Builtin.«int.__add__»
    repeat (any_goals (first | assumption | wp_step))
    exact ⟨_, rfl, hs⟩
theorem seqInt : seqSlot? (.type "int") "__add__" = pure none := by
  have hf : typeLookup (.type "int") (Str.ofString "__add__") = pure (some (.builtin "int.__add__")) := F.slot_int_add.lookup
  have hs : isSeqSlot (some (.builtin "int.__add__")) = false := by decide +kernel
  simp only [seqSlot?, hf, pure_bind, hs]
  rfl
theorem add_si {x : Str} {t : Tok} {n : Int} {u : Tok} {Q : Value → Shared → Prop} (hA : A.handled = none) (hE : ∀ h' tk e, Heap.NewExc s.heap h' e "TypeError" → E (.ref e) { s with heap := h', toks := tk }) :
    wpAny (model prog w) A (binaryOp .Add (.str x t) (.int n u)) Q E s := by
  unfold binaryOp
  refine wpAny_holding ?_
  refine wpAny_bind ?_
  show wpAny _ _ (binaryOp1 "add" _ _) _ _ _
  unfold binaryOp1
  refine wpAny_bind (wpAny_typeOf (typeIs_str s x t) (wpAny_bind (wpAny_typeOf (typeIs_int s n u) (wpAny_bind (wpAny_of_eq PySem.noFill_str_add ?_)))))
  rw [if_neg (by decide)]
  refine wpAny_bind (wpAny_of_eq fills_int_add ?_)
  refine wpAny_bind (wpAny_pure ?_)
  refine wpAny_bind ?_
  have hTi : s.TypeIs (.int n u) "int" := typeIs_int s n u
  have hsl := F.slot_int_radd
  with_reducible refine wpAny_tryMethod_declines hTi hsl ?_
  refine call_meets F.slot_int_radd (typeIs_int s n u) F.entry_int_radd (F.args_int_radd_2 _ _) (intRadd_str x t n u) ?_
  refine And.intro rfl ?_
  refine wpAny_pure ?_
  dsimp only
  refine wpAny_bind (wpAny_typeOf (typeIs_str s x t) (wpAny_bind (wpAny_of_eq PySem.seq_str_add ?_)))
  refine wpAny_bind (wpAny_rule ?_)
  exact call_meets F.slot_str_add (typeIs_str s x t) F.entry_str_add (F.args_str_add_2 _ _) (strAdd_int x t n u) ⟨hA, fun h' tk e hx => hE h' tk e hx⟩

theorem add_is {x : Str} {t : Tok} {n : Int} {u : Tok} {Q : Value → Shared → Prop} (hA : A.handled = none) (hE : ∀ h' tk e, Heap.NewExc s.heap h' e "TypeError" → E (.ref e) { s with heap := h', toks := tk }) :
    wpAny (model prog w) A (binaryOp .Add (.int n u) (.str x t)) Q E s := by
  unfold binaryOp
  refine wpAny_holding ?_
  refine wpAny_bind ?_
  show wpAny _ _ (binaryOp1 "add" _ _) _ _ _
  unfold binaryOp1
  refine wpAny_bind (wpAny_typeOf (typeIs_int s n u) (wpAny_bind (wpAny_typeOf (typeIs_str s x t) (wpAny_bind (wpAny_of_eq fills_int_add ?_)))))
  rw [if_neg (by decide)]
  refine wpAny_bind (wpAny_of_eq PySem.noFill_str_add ?_)
  refine wpAny_bind (wpAny_pure ?_)
  refine wpAny_bind ?_
  have hTi : s.TypeIs (.int n u) "int" := typeIs_int s n u
  have hsl := F.slot_int_add
  with_reducible refine wpAny_tryMethod_declines hTi hsl ?_
  refine call_meets F.slot_int_add (typeIs_int s n u) F.entry_int_add (F.args_int_add_2 _ _) (intAdd_str x t n u) ?_
  refine And.intro rfl ?_
  refine wpAny_pure ?_
  dsimp only
  refine wpAny_bind (wpAny_typeOf (typeIs_int s n u) (wpAny_bind (wpAny_of_eq (show seqSlot? (.type "int") "__add__" = pure none from seqInt) ?_)))
  dsimp only
  unfold binopTypeError
  refine wpAny_bind (wpAny_rule ?_)
  refine wpAny_bind (wpAny_typeNameOf_int ?_)
  refine wpAny_bind (tno_str ?_)
  exact wpAny_raiseErrorMade plainExc_TypeError hA (fun h' tk e hx => hE h' tk e hx) (by decide +kernel)

theorem add_sl {x : Str} {t : Tok} {a : Addr} {dct : Option Addr} {xs : Array Value} {k : Nat} {sl : Array (Option Value)} {Q : Value → Shared → Prop} (hx : s.heap.get? a = some { cls := .type "list", dict := dct, data := .seq xs k, slots := sl }) (hA : A.handled = none) (hE : ∀ h' tk e, Heap.NewExc s.heap h' e "TypeError" → E (.ref e) { s with heap := h', toks := tk }) :
    wpAny (model prog w) A (binaryOp .Add (.str x t) (.ref a)) Q E s := by
  have hT : s.TypeIs (.ref a) "list" := ⟨_, hx, rfl⟩
  unfold binaryOp
  refine wpAny_holding ?_
  refine wpAny_bind ?_
  show wpAny _ _ (binaryOp1 "add" _ _) _ _ _
  unfold binaryOp1
  refine wpAny_bind (wpAny_typeOf (typeIs_str s x t) (wpAny_bind (wpAny_typeOf hT (wpAny_bind (wpAny_of_eq PySem.noFill_str_add ?_)))))
  rw [if_neg (by decide)]
  refine wpAny_bind (wpAny_of_eq PySem.noFill_list_add ?_)
  refine wpAny_bind (wpAny_pure ?_)
  refine wpAny_pure ?_
  dsimp only
  refine wpAny_bind (wpAny_typeOf (typeIs_str s x t) (wpAny_bind (wpAny_of_eq PySem.seq_str_add ?_)))
  refine wpAny_bind (wpAny_rule ?_)
  exact call_meets F.slot_str_add (typeIs_str s x t) F.entry_str_add (F.args_str_add_2 _ _) (strAdd_ref x t a dct xs k sl) ⟨hx, hA, fun h' tk e hx => hE h' tk e hx⟩
end
end Mine
end

section
open PySem PySem.W PyProof.Rows PySem.Calls PySem.Spec PyProof.V
namespace Mine


theorem odd3 {w : World} {base : Heap} {mean : ExcName → Option Value} {mg mb : Str → Option Value} (XB : (Mine.hd.heap_39 w.params).In base) (TB : Top Mine.hd.view_39 (looseW Mine.hd.view_39 []) mean mg mb base)
  (l : Addr) (t u : Tok) :
  CtrS w base 28 [.ref l] 1 100 (fun h => IsTup h l #[.str (Str.ofString "a") t, .int 7 u]) "TypeError" due := by
  unfold CtrS
  revert XB
  k_fill
  intro XB dp un gd envs s R B KD hd hu hpre hret
  refine' enterP (binds := [(Str.ofString "localetuple", .ref l)]) B XB TB ?k6 ?k7 ?k8 ?k9 ?kB ?_ ?c2 ?c3 ?c4 ?c5
  case k6 => k_is
  case k7 => k_is
  case k8 => exact Nat.lt_of_le_of_lt (Nat.le_add_right _ _) hd
  case k9 => exact BindsTo.of_eq rfl
  case kB => exact locs rfl
  case c2 => exact rfl
  case c3 => exact rfl
  case c4 => exact rfl
  case c5 => decide
  intro L h₁ hL F N X T
  walk_at "go"
  replace hpre : IsTup s.heap l #[.str (Str.ofString "a") t, .int 7 u] := hpre
  rename Fr _ _ _ _ => F2
  refine add_si rfl (fun h3 tk3 e hx => ?_)
  walk_at "go"
  refine catch_new B hx F2 XB TB KD ?kt (fun h4 g4 T4 F4 K4 X4 P4 D4 C4 => ?_) rfl (by passes_own)
  case kt => kts_test
  walk_at "go"
  refine raise_none PySem.F.excCall_TypeError PySem.F.excRaise_TypeError (word := due) rfl C4 ?_ ?_ ?_ rfl
  · intro Q' hq
    exact name_B F4 X4 (topRead_of P4) (by k_is) PyProof.Rows.Boot.«TypeError» (by decide) hq
  · intro s5 Q' hq
    exact wpAny_Constant_str (hq _ _)
  · intro h6 e6 t6 tk6 u6 x6
    refine leave3 K4 x6 F4 (fun h7 R7 U7 => ?_) rfl
    exact hret _ _ _ _ _ (RaisedS.turn T4 R7) ((Heap.UpToSlots.ofTurn T4).trans U7)
theorem odd4 {w : World} {base : Heap} {mean : ExcName → Option Value} {mg mb : Str → Option Value} (XB : (Mine.hd.heap_39 w.params).In base) (TB : Top Mine.hd.view_39 (looseW Mine.hd.view_39 []) mean mg mb base)
  (l : Addr) (t u : Tok) :
  CtrS w base 28 [.ref l] 1 100 (fun h => IsTup h l #[.int 7 t, .str (Str.ofString "b") u]) "TypeError" due := by
  unfold CtrS
  revert XB
  k_fill
  intro XB dp un gd envs s R B KD hd hu hpre hret
  refine' enterP (binds := [(Str.ofString "localetuple", .ref l)]) B XB TB ?k6 ?k7 ?k8 ?k9 ?kB ?_ ?c2 ?c3 ?c4 ?c5
  case k6 => k_is
  case k7 => k_is
  case k8 => exact Nat.lt_of_le_of_lt (Nat.le_add_right _ _) hd
  case k9 => exact BindsTo.of_eq rfl
  case kB => exact locs rfl
  case c2 => exact rfl
  case c3 => exact rfl
  case c4 => exact rfl
  case c5 => decide
  intro L h₁ hL F N X T
  walk_at "go"
  replace hpre : IsTup s.heap l #[.int 7 t, .str (Str.ofString "b") u] := hpre
  rename Fr _ _ _ _ => F2
  refine add_is rfl (fun h3 tk3 e hx => ?_)
  walk_at "go"
  refine catch_new B hx F2 XB TB KD ?kt (fun h4 g4 T4 F4 K4 X4 P4 D4 C4 => ?_) rfl (by passes_own)
  case kt => kts_test
  walk_at "go"
  refine raise_none PySem.F.excCall_TypeError PySem.F.excRaise_TypeError (word := due) rfl C4 ?_ ?_ ?_ rfl
  · intro Q' hq
    exact name_B F4 X4 (topRead_of P4) (by k_is) PyProof.Rows.Boot.«TypeError» (by decide) hq
  · intro s5 Q' hq
    exact wpAny_Constant_str (hq _ _)
  · intro h6 e6 t6 tk6 u6 x6
    refine leave3 K4 x6 F4 (fun h7 R7 U7 => ?_) rfl
    exact hret _ _ _ _ _ (RaisedS.turn T4 R7) ((Heap.UpToSlots.ofTurn T4).trans U7)
theorem odd5 {w : World} {base : Heap} {mean : ExcName → Option Value} {mg mb : Str → Option Value} (XB : (Mine.hd.heap_39 w.params).In base) (TB : Top Mine.hd.view_39 (looseW Mine.hd.view_39 []) mean mg mb base)
  (l la : Addr) (t u : Tok) :
  CtrS w base 28 [.ref l] 1 100 (fun h => IsTup h l #[.str (Str.ofString "a") t, .ref la] ∧ h.IsList la #[.str (Str.ofString "b") u]) "TypeError" due := by
  unfold CtrS
  revert XB
  k_fill
  intro XB dp un gd envs s R B KD hd hu hpre hret
  refine' enterP (binds := [(Str.ofString "localetuple", .ref l)]) B XB TB ?k6 ?k7 ?k8 ?k9 ?kB ?_ ?c2 ?c3 ?c4 ?c5
  case k6 => k_is
  case k7 => k_is
  case k8 => exact Nat.lt_of_le_of_lt (Nat.le_add_right _ _) hd
  case k9 => exact BindsTo.of_eq rfl
  case kB => exact locs rfl
  case c2 => exact rfl
  case c3 => exact rfl
  case c4 => exact rfl
  case c5 => decide
  intro L h₁ hL F N X T
  walk_at "go"
  replace hpre : IsTup s.heap l #[.str (Str.ofString "a") t, .ref la] ∧ s.heap.IsList la #[.str (Str.ofString "b") u] := hpre
  obtain ⟨hp1, hp2⟩ := hpre
  obtain ⟨ol, hol, hoc, no, hod⟩ := hp2
  obtain ⟨oc, odt, odd, osl⟩ := ol
  simp only at hoc hod
  subst hoc hod
  refine unpackN_ F N (by obtain ⟨o, ho, r⟩ := hp1; exact ⟨o, F.keep l o ho, r⟩) rfl rfl rfl (fun h1 F1 N1 => ?_)
  walk_at "go"
  rename Fr _ _ _ _ => F2
  refine add_sl (F2.keep _ _ hol) rfl (fun h3 tk3 e hx => ?_)
  walk_at "go"
  refine catch_new B hx F2 XB TB KD ?kt (fun h4 g4 T4 F4 K4 X4 P4 D4 C4 => ?_) rfl (by passes_own)
  case kt => kts_test
  walk_at "go"
  refine raise_none PySem.F.excCall_TypeError PySem.F.excRaise_TypeError (word := due) rfl C4 ?_ ?_ ?_ rfl
  · intro Q' hq
    exact name_B F4 X4 (topRead_of P4) (by k_is) PyProof.Rows.Boot.«TypeError» (by decide) hq
  · intro s5 Q' hq
    exact wpAny_Constant_str (hq _ _)
  · intro h6 e6 t6 tk6 u6 x6
    refine leave3 K4 x6 F4 (fun h7 R7 U7 => ?_) rfl
    exact hret _ _ _ _ _ (RaisedS.turn T4 R7) ((Heap.UpToSlots.ofTurn T4).trans U7)
end Mine
end

section
open PySem PySem.W PyProof.Rows PySem.Calls PySem.Spec PyProof.V
namespace Mine
inductive OS : List Value → List (Option Str) → Prop
  | nil : OS [] []
  | cons (o : Option Str) (t : Tok) {vs : List Value} {xs : List (Option Str)} : OS vs xs → OS (osv o t :: vs) (o :: xs)
theorem OS.length {vs : List Value} {xs : List (Option Str)} (h : OS vs xs) : vs.length = xs.length := by
  induction h with
  | nil => rfl
  | cons => simp [*]
theorem OS.item {vs : List Value} {xs : List (Option Str)} (h : OS vs xs) : ∀ (i : Nat), i < xs.length → ∃ o t, xs[i]? = some o ∧ vs[i]? = some (osv o t) := by
  induction h with
  | nil => intro i hi; simp at hi
  | cons o t _ ih =>
    intro i hi
    cases i with
    | zero => exact ⟨o, t, rfl, rfl⟩
    | succ i => simpa using ih i (by simpa using hi)

abbrev two (elt it1 it2 : Expr) (x1 x2 : Str) (p1 p2 : Pos) (scope : Scope) (pos : Pos) : Expr := .ListComp elt [⟨.Name x1 p1, it1, [], 0⟩, ⟨.Name x2 p2, it2, [], 0⟩] scope pos

theorem turn_in (elt it1 it2 : Expr) (x1 x2 : Str) (p1 p2 : Pos) (scope : Scope) (pos : Pos) (it acc : Value) (env : Env) :
    compTurn (two elt it1 it2 x1 x2 p1 p2 scope pos) 1 it acc env = (standAt it2.pos >>= fun _ => pyNext it >>= fun r => match r with
      | none => pure (.done .next)
      | some v => letOwnedTupleGo (.Name x2 p2) it v >>= fun _ => assign (.Name x2 p2) env v >>= fun _ =>
        (eval elt env >>= fun x => call (.builtin "list.append") [acc, x] >>= fun _ => pure ()) >>= fun _ =>
          again (.compLoop (two elt it1 it2 x1 x2 p1 p2 scope pos) 1 it acc env)) := by rfl
theorem turn_out (elt it1 it2 : Expr) (x1 x2 : Str) (p1 p2 : Pos) (scope : Scope) (pos : Pos) (it acc : Value) (env : Env) :
    compTurn (two elt it1 it2 x1 x2 p1 p2 scope pos) 0 it acc env = (standAt it1.pos >>= fun _ => pyNext it >>= fun r => match r with
      | none => pure (.done .next)
      | some v => letOwnedTupleGo (.Name x1 p1) it v >>= fun _ => assign (.Name x1 p1) env v >>= fun _ =>
        (eval it2 env >>= fun x => standAt it2.pos >>= fun _ => foldedSetIterable it2 env x >>= fun x => holding [x] (pyIter x) >>= fun i => runOwn (.compStart (two elt it1 it2 x1 x2 p1 p2 scope pos) 1 i acc env) env >>= fun _ =>
          again (.compLoop (two elt it1 it2 x1 x2 p1 p2 scope pos) 0 it acc env))) := by rfl

section
variable {prog : Program} {w : World} {A : Around} {s : Shared} {env : Env} {elt it1 it2 : Expr} {x1 x2 : Str} {p1 p2 : Pos} {scope : Scope} {pos : Pos} {cl : List (Str × Addr)} {C D : Addr} {f : Option Str → Option Str → Str}

noncomputable def EltOk (prog : Program) (w : World) (A : Around) (s : Shared) (env : Env) (elt : Expr) (x1 x2 : Str) (scope : Scope) (cl : List (Str × Addr)) (C : Addr) (f : Option Str → Option Str → Str) (xs1 xs2 : List (Option Str)) : Prop :=
  ∀ (h : Heap) (tk : Nat) (o1 o2 : Option Str) (t1 t2 : Tok) (m : Str → Option Value) (E' : Value → Shared → Prop), s.heap.get? C = none → s.heap.StaysIn h → h.Ns C m → m x1 = some (osv o1 t1) → m x2 = some (osv o2 t2) → o1 ∈ xs1 → o2 ∈ xs2 →
    wpAny (model prog w) A (eval elt (compEnvC scope cl C env)) (fun y s₂ => ∃ h' tk' t, s₂ = { s with heap := h', toks := tk' } ∧ h.StaysIn h' ∧ y = .str (f o1 o2) t) E' { s with heap := h, toks := tk }

theorem two_in {xs1 xs2 : List (Option Str)} {its2 : List Value} {a2 I2 : Addr} {o1 : Option Str} {t1 : Tok} {R : Result → Shared → Prop} (hh : A.handled = none) (H : EltOk prog w A s env elt x1 x2 scope cl C f xs1 xs2) (hkind : scope.kind = .function) (hx2 : scope.names.lookup x2 = some .local) (hne : x1 ≠ x2)
    (ho1 : o1 ∈ xs1) (hos : OS its2 xs2) (hsz : xs2.length ≤ 1000) (n1 : I2 ≠ D) (n2 : I2 ≠ C) (n3 : D ≠ C) (n4 : a2 ≠ I2) (n5 : a2 ≠ D) (n6 : a2 ≠ C) (z1 : s.heap.get? I2 = none) (z2 : s.heap.get? D = none) (z3 : s.heap.get? C = none) :
    ∀ (n j : Nat) (h : Heap) (tk c : Nat) (us : List Value) (ys : List Str) (m : Str → Option Value), j + n = xs2.length → h.IsListIter I2 a2 j → h.IsList a2 its2.toArray → h.get? D = some (W.listOf us.toArray c) → us.length + n ≤ 100000 → h.Ns C m → m x1 = some (osv o1 t1) → s.heap.StaysIn h → StrsAre us ys →
      (∀ h' tk' c' us' m', (∀ b o, b ≠ I2 → b ≠ D → b ≠ C → h.get? b = some o → h'.get? b = some o) → h'.get? D = some (W.listOf us'.toArray c') → us'.length ≤ us.length + n → h'.Ns C m' → s.heap.StaysIn h' → StrsAre us' (ys ++ (xs2.drop j).map (f o1)) → R (.ok .next) { s with heap := h', toks := tk' }) →
      codeAny (model prog w) A (.compLoop (two elt it1 it2 x1 x2 p1 p2 scope pos) 1 (.ref I2) (.ref D) (compEnvC scope cl C env)) R { s with heap := h, toks := tk } := by
  intro n
  induction n with
  | zero =>
    intro j h tk c us ys m hj hit hl hD hul hn hm hst hy hR
    refine codeAny_of_tree ?_
    show wpAny _ A ((compTurn (two elt it1 it2 x1 x2 p1 p2 scope pos) 1 (.ref I2) (.ref D) (compEnvC scope cl C env)).onRaise (fun x => do noteFrame x (compEnvC scope cl C env); theTreesLotGoes x)) _ _ _
    refine wpAny_noted ?_
    rw [turn_in]
    refine wpAny_bind (wpAny_standAt (wpAny_bind ?_))
    refine wpAny_pyNext_list_end hh hit hl (by simp [hos.length]; omega) fun h₂ he => ?_
    refine wpAny_pure ?_
    refine hR h₂ _ c us m (fun b o q1 _ _ e => he b o q1 e) (he D _ (Ne.symm n1) hD) (Nat.le_refl _) (hn.at' fun o e => he C o (Ne.symm n2) e) (fun b o e => he b o (fun q => by rw [q, z1] at e; cases e) (hst b o e)) ?_
    rw [List.drop_of_length_le (by omega)]
    simpa using hy
  | succ n ih =>
    intro j h tk c us ys m hj hit hl hD hul hn hm hst hy hR
    obtain ⟨o2, t2, e1, e2⟩ := hos.item j (by omega)
    refine codeAny_of_tree ?_
    show wpAny _ A ((compTurn (two elt it1 it2 x1 x2 p1 p2 scope pos) 1 (.ref I2) (.ref D) (compEnvC scope cl C env)).onRaise (fun x => do noteFrame x (compEnvC scope cl C env); theTreesLotGoes x)) _ _ _
    refine wpAny_noted ?_
    rw [turn_in]
    refine wpAny_bind (wpAny_standAt (wpAny_bind ?_))
    refine wpAny_pyNext_list_item hit hl (x := osv o2 t2) (by simpa using e2) fun h₁ hit₁ hs₁ => ?_
    refine wpAny_bind (wpAny_pure ?_)
    have hn₁ : h₁.Ns C m := hn.at' fun o e => hs₁.extBut C o (Ne.symm n2) e
    refine wpAny_bind (wpAny_assign_Name (wpAny_storeName_local (lookup_relabel_local hx2) hn₁ (fun h₂ hn₂ hs₂ => ?_) (by simp [compEnvC, relabel, hkind])))
    have st₂ : s.heap.StaysIn h₂ := fun b o e => hs₂.extBut b o (fun q => by have q' : b = C := q; rw [q', z3] at e; cases e) (hs₁.extBut b o (fun q => by rw [q, z1] at e; cases e) (hst b o e))
    refine wpAny_bind (wpAny_bind (wpAny_mono (H h₂ _ o1 o2 t1 t2 _ _ z3 st₂ hn₂ (by simp [hne, hm]) (by simp) ho1 (List.mem_of_getElem? e1)) (fun y s₃ hy₃ => ?_) fun _ _ e => e))
    obtain ⟨h₃, tk₃, t₃, rfl, k₃, rfl⟩ := hy₃
    have hD₃ : h₃.get? D = some (W.listOf us.toArray c) := k₃ D _ (hs₂.extBut D _ n3 (hs₁.extBut D _ (Ne.symm n1) hD))
    refine wpAny_bind (append_at (hsz := by rw [List.size_toArray, sizeLine_eq]; omega) hD₃ fun h₄ hs₄ hD₄ => ?_)
    refine wpAny_pure (wpAny_pure ⟨rfl, ?_⟩)
    have up : ∀ b o, b ≠ I2 → b ≠ D → b ≠ C → h.get? b = some o → h₄.get? b = some o := fun b o q1 q2 q3 e => hs₄.extBut b o q2 (k₃ b o (hs₂.extBut b o q3 (hs₁.extBut b o q1 e)))
    refine ih (j + 1) h₄ _ (c + 1) (us ++ [.str (f o1 o2) t₃]) (ys ++ [f o1 o2]) (fun z => if z = x2 then some (osv o2 t2) else m z) (by omega) ?_ ?_ ?_ ?_ ?_ ?_ ?_ ?_ ?_
    · exact ((hit₁.extBut hs₂.extBut n2).at fun o e => k₃ I2 o e).extBut hs₄.extBut n1
    · exact hl.at fun o e => up a2 o n4 n5 n6 e
    · rw [← List.push_toArray]; exact hD₄
    · rw [List.length_append]; simp; omega
    · exact (hn₂.at' fun o e => k₃ C o e).sameBut hs₄ (Ne.symm n3)
    · simp [hne, hm]
    · exact fun b o e => hs₄.extBut b o (fun q => by rw [q, z2] at e; cases e) (k₃ b o (st₂ b o e))
    · exact KStt.strs_snoc hy
    · intro h' tk' c' us' m' k1 k2 k3 k4 k5 k6
      refine hR h' tk' c' us' m' (fun b o q1 q2 q3 e => k1 b o q1 q2 q3 (up b o q1 q2 q3 e)) k2 (by rw [List.length_append] at k3; simp at k3; omega) k4 k5 ?_
      have : (xs2.drop j).map (f o1) = f o1 o2 :: (xs2.drop (j + 1)).map (f o1) := by
        rw [List.drop_eq_getElem_cons (by omega), List.map_cons]
        have : xs2[j] = o2 := by
          have := List.getElem?_eq_getElem (l := xs2) (i := j) (by omega)
          rw [e1] at this; exact (Option.some.inj this).symm
        rw [this]
      rw [this]
      simpa using k6

theorem start_in {it acc : Value} {cenv : Env} {R : Result → Shared → Prop}
    (h0 : codeAny (model prog w) A (.compLoop (two elt it1 it2 x1 x2 p1 p2 scope pos) 1 it acc cenv) R s)
    (h : wpAny (model prog w) A (pyIter it) (fun it' s' => codeAny (model prog w) A (.compLoop (two elt it1 it2 x1 x2 p1 p2 scope pos) 1 it' acc cenv) R s') (notedBy (model prog w) A cenv fun x s' => R (.error x) s') s) :
    codeAny (model prog w) A (.compStart (two elt it1 it2 x1 x2 p1 p2 scope pos) 1 it acc cenv) R s := by
  refine codeAny_of_tree ?_
  show wpAny _ A ((compStart (two elt it1 it2 x1 x2 p1 p2 scope pos) 1 it acc cenv).onRaise (fun x => do noteFrame x cenv; standAt theWindowsPlace)) _ _ s
  refine wpAny_notedAt ?_
  unfold compStart
  show wpAny _ _ (ask >>= _) _ _ s
  refine wpAny_bind (wpAny_askSetting (wpAny_ite ?_))
  split
  · first
      | exact wpAny_bind (wpAny_pure (wpAny_pure (And.intro rfl h0)))
      | exact wpAny_pure (And.intro rfl h0)
  · refine wpAny_bind (wpAny_rule ?_)
    show wpAny _ _ (standAt it2.pos >>= _) _ _ s
    exact wpAny_bind (wpAny_standAt (wpAny_bind (wpAny_mono h (fun it' s' h' => wpAny_pure (And.intro rfl h')) fun _ _ x => x)))

noncomputable def SrcOk (prog : Program) (w : World) (A : Around) (s : Shared) (env : Env) (it2 : Expr) (scope : Scope) (cl : List (Str × Addr)) (C : Addr) (xs2 : List (Option Str)) : Prop :=
  ∀ (h : Heap) (tk : Nat) (E' : Value → Shared → Prop), s.heap.StaysIn h →
    wpAny (model prog w) A (eval it2 (compEnvC scope cl C env)) (fun x s₂ => ∃ h' tk' a2 its2, s₂ = { s with heap := h', toks := tk' } ∧ h.StaysIn h' ∧ x = .ref a2 ∧ h.get? a2 = none ∧ h'.IsList a2 its2.toArray ∧ OS its2 xs2) E' { s with heap := h, toks := tk }

theorem two_out {xs1 xs2 : List (Option Str)} {its1 : List Value} {a1 I1 : Addr} {R : Result → Shared → Prop} (hh : A.handled = none) (H : EltOk prog w A s env elt x1 x2 scope cl C f xs1 xs2) (HS : SrcOk prog w A s env it2 scope cl C xs2) (hkind : scope.kind = .function) (hx1 : scope.names.lookup x1 = some .local) (hx2 : scope.names.lookup x2 = some .local) (hne : x1 ≠ x2)
    (hos : OS its1 xs1) (hsz : xs1.length ≤ 100) (hsz2 : xs2.length ≤ 100) (n1 : I1 ≠ D) (n2 : I1 ≠ C) (n3 : D ≠ C) (n4 : a1 ≠ I1) (n5 : a1 ≠ D) (n6 : a1 ≠ C) (z1 : s.heap.get? I1 = none) (z2 : s.heap.get? D = none) (z3 : s.heap.get? C = none)
    (hfold : ∀ x, foldedSetIterable it2 (compEnvC scope cl C env) x = pure x) :
    ∀ (n i : Nat) (h : Heap) (tk c : Nat) (us : List Value) (ys : List Str) (m : Str → Option Value), i + n = xs1.length → h.IsListIter I1 a1 i → h.IsList a1 its1.toArray → h.get? D = some (W.listOf us.toArray c) → us.length + n * 100 ≤ 100000 → h.Ns C m → s.heap.StaysIn h → StrsAre us ys →
      (∀ h' tk' c' us' m', h'.get? D = some (W.listOf us'.toArray c') → h'.Ns C m' → s.heap.StaysIn h' → StrsAre us' (ys ++ (xs1.drop i).flatMap fun o1 => xs2.map (f o1)) → R (.ok .next) { s with heap := h', toks := tk' }) →
      codeAny (model prog w) A (.compLoop (two elt it1 it2 x1 x2 p1 p2 scope pos) 0 (.ref I1) (.ref D) (compEnvC scope cl C env)) R { s with heap := h, toks := tk } := by
  intro n
  induction n with
  | zero =>
    intro i h tk c us ys m hi hit hl hD hul hn hst hy hR
    refine codeAny_of_tree ?_
    show wpAny _ A ((compTurn (two elt it1 it2 x1 x2 p1 p2 scope pos) 0 (.ref I1) (.ref D) (compEnvC scope cl C env)).onRaise (fun x => do noteFrame x (compEnvC scope cl C env); theTreesLotGoes x)) _ _ _
    refine wpAny_noted ?_
    rw [turn_out]
    refine wpAny_bind (wpAny_standAt (wpAny_bind ?_))
    refine wpAny_pyNext_list_end hh hit hl (by simp [hos.length]; omega) fun h₂ he => ?_
    refine wpAny_pure ?_
    refine hR h₂ _ c us m (he D _ (Ne.symm n1) hD) (hn.at' fun o e => he C o (Ne.symm n2) e) (fun b o e => he b o (fun q => by rw [q, z1] at e; cases e) (hst b o e)) ?_
    rw [List.drop_of_length_le (by omega)]
    simpa using hy
  | succ n ih =>
    intro i h tk c us ys m hi hit hl hD hul hn hst hy hR
    obtain ⟨o1, t1, e1, e2⟩ := hos.item i (by omega)
    refine codeAny_of_tree ?_
    show wpAny _ A ((compTurn (two elt it1 it2 x1 x2 p1 p2 scope pos) 0 (.ref I1) (.ref D) (compEnvC scope cl C env)).onRaise (fun x => do noteFrame x (compEnvC scope cl C env); theTreesLotGoes x)) _ _ _
    refine wpAny_noted ?_
    rw [turn_out]
    refine wpAny_bind (wpAny_standAt (wpAny_bind ?_))
    refine wpAny_pyNext_list_item hit hl (x := osv o1 t1) (by simpa using e2) fun h₁ hit₁ hs₁ => ?_
    refine wpAny_bind (wpAny_pure ?_)
    have hn₁ : h₁.Ns C m := hn.at' fun o e => hs₁.extBut C o (Ne.symm n2) e
    refine wpAny_bind (wpAny_assign_Name (wpAny_storeName_local (lookup_relabel_local hx1) hn₁ (fun h₂ hn₂ hs₂ => ?_) (by simp [compEnvC, relabel, hkind])))
    have st₂ : s.heap.StaysIn h₂ := fun b o e => hs₂.extBut b o (fun q => by have q' : b = C := q; rw [q', z3] at e; cases e) (hs₁.extBut b o (fun q => by rw [q, z1] at e; cases e) (hst b o e))
    have hD₂ : h₂.get? D = some (W.listOf us.toArray c) := hs₂.extBut D _ n3 (hs₁.extBut D _ (Ne.symm n1) hD)
    have hit₂ : h₂.IsListIter I1 a1 (i + 1) := hit₁.extBut hs₂.extBut n2
    have hl₂ : h₂.IsList a1 its1.toArray := hl.at fun o e => hs₂.extBut a1 o n6 (hs₁.extBut a1 o n4 e)
    refine wpAny_bind (wpAny_mono (HS h₂ _ _ st₂) (fun x s₃ hx => ?_) fun _ _ e => e)
    obtain ⟨h₃, tk₃, a2, its2, rfl, k₃, rfl, f2, hl₃, hos2⟩ := hx
    refine wpAny_bind (wpAny_standAt (wpAny_bind (wpAny_of_eq (hfold _) (wpAny_bind (wpAny_holding (wpAny_pyIter_list hl₃ ?_))))))
    have hI1 : I1 < h₃.objs.size := by obtain ⟨o, ho, _⟩ := hit₂; exact Heap.lt_size (k₃ _ _ ho)
    have hDl : D < h₃.objs.size := Heap.lt_size (k₃ _ _ hD₂)
    have hCl : C < h₃.objs.size := by obtain ⟨o, es, ep, ho, _⟩ := hn₂; exact Heap.lt_size (k₃ _ _ ho)
    have ha2 : a2 < h₃.objs.size := by obtain ⟨o, ho, _⟩ := hl₃; exact Heap.lt_size ho
    have a2D : a2 ≠ D := by rintro rfl; rw [f2] at hD₂; cases hD₂
    have a2C : a2 ≠ C := by
      rintro rfl
      obtain ⟨o, es, ep, ho, _⟩ := hn₂
      have ho : h₂.get? a2 = some o := ho
      rw [f2] at ho; cases ho
    have up₃ : ∀ b o, h₂.get? b = some o → (h₃.push { cls := .type "list_iterator", data := .fields #[.ref a2, .int 0 0] }).get? b = some o := fun b o e => Heap.get?_push_of_some _ (k₃ b o e)
    have zI : s.heap.get? h₃.objs.size = none := by
      cases q : s.heap.get? h₃.objs.size with
      | none => rfl
      | some o => exact absurd (Heap.lt_size (k₃ _ _ (st₂ _ o q))) (Nat.lt_irrefl _)
    refine wpAny_bind (wpAny_runOwn ?_)
    have key : codeAny (model prog w) A (.compLoop (two elt it1 it2 x1 x2 p1 p2 scope pos) 1 (.ref h₃.objs.size) (.ref D) (compEnvC scope cl C env))
        (fun r s' => match r with | .ok fl => wpAny (model prog w) A (again (.compLoop (two elt it1 it2 x1 x2 p1 p2 scope pos) 0 (.ref I1) (.ref D) (compEnvC scope cl C env))) (fun fin s' => match fin with | .done f => R (.ok f) s' | .again c' => c'.quiet = true ∧ codeAny (model prog w) A c' R s') (notedBy (model prog w) A (compEnvC scope cl C env) fun x s' => R (.error x) s') s' | .error e => cameBackBy (model prog w) A (compEnvC scope cl C env) (notedBy (model prog w) A (compEnvC scope cl C env) fun x s' => R (.error x) s') e s')
        { s with heap := h₃.push { cls := .type "list_iterator", data := .fields #[.ref a2, .int 0 0] }, toks := tk₃ } := by
      refine two_in (t1 := t1) hh H hkind hx2 hne (List.mem_of_getElem? e1) hos2 (by omega) (Nat.ne_of_gt hDl) (Nat.ne_of_gt hCl) n3 (Nat.ne_of_lt ha2) a2D a2C zI z2 z3 xs2.length 0 _ _ c us ys (fun z => if z = x1 then some (osv o1 t1) else m z) (by omega) ⟨_, Heap.get?_push_size _ rfl, rfl, rfl⟩ (hl₃.push _) (up₃ _ _ hD₂) (by omega) (hn₂.at' fun o e => up₃ _ _ e) (by simp) (fun b o e => up₃ _ _ (st₂ b o e)) hy ?_
      intro h' tk' c' us' m' q1 q2 q3 q4 q5 q6
      refine wpAny_pure ⟨rfl, ?_⟩
      rw [List.drop_zero] at q6
      have upI : ∀ b o, b ≠ h₃.objs.size → b ≠ D → b ≠ C → h₂.get? b = some o → h'.get? b = some o := fun b o r1 r2 r3 e => q1 b o r1 r2 r3 (up₃ b o e)
      have ha1 : a1 ≠ h₃.objs.size := by
        obtain ⟨o, ho, _⟩ := hl₂
        exact Nat.ne_of_lt (Heap.lt_size (k₃ _ _ ho))
      refine ih (i + 1) h' tk' c' us' (ys ++ xs2.map (f o1)) m' (by omega) (hit₂.at fun o e => upI _ o (Nat.ne_of_lt hI1) n1 n2 e) (hl₂.at fun o e => upI _ o ha1 n5 n6 e) q2 (by omega) q4 q5 q6 ?_
      intro h'' tk'' c'' us'' m'' r1 r2 r3 r4
      refine hR h'' tk'' c'' us'' m'' r1 r2 r3 ?_
      have : (xs1.drop i).flatMap (fun o1 => xs2.map (f o1)) = xs2.map (f o1) ++ (xs1.drop (i + 1)).flatMap fun o1 => xs2.map (f o1) := by
        rw [List.drop_eq_getElem_cons (by omega), List.flatMap_cons]
        have : xs1[i] = o1 := by
          have := List.getElem?_eq_getElem (l := xs1) (i := i) (by omega)
          rw [e1] at this; exact (Option.some.inj this).symm
        rw [this]
      rw [this]
      simpa using r4
    refine start_in key ?_
    exact wpAny_pyIter_listiter ⟨_, Heap.get?_push_size _ rfl, rfl, rfl⟩ key

theorem two_core {E : Value → Shared → Prop} {RR : Value → Addr → Result → Shared → Prop} {xs1 xs2 : List (Option Str)} (hh : A.handled = none) (hcell : ∀ y ∈ scope.names, y.2 ≠ .cell) (hkind : scope.kind = .function) (hx1 : scope.names.lookup x1 = some .local) (hx2 : scope.names.lookup x2 = some .local) (hne : x1 ≠ x2)
    (hfold : ∀ C x, foldedSetIterable it2 (compEnvC scope cl C env) x = pure x) (hsz : xs1.length ≤ 100) (hsz2 : xs2.length ≤ 100)
    (H : ∀ C, EltOk prog w A s env elt x1 x2 scope cl C f xs1 xs2) (HS : ∀ C, SrcOk prog w A s env it2 scope cl C xs2)
    (h1 : wpAny (model prog w) A (eval it1 env) (fun x s₁ => ∃ h' tk' a1 its1, s₁ = { s with heap := h', toks := tk' } ∧ s.heap.StaysIn h' ∧ x = .ref a1 ∧ h'.IsList a1 its1.toArray ∧ OS its1 xs1) E s)
    (fin : ∀ D C h' tk' c us m', s.heap.StaysIn h' → s.heap.get? D = none → s.heap.get? C = none → D ≠ C → h'.get? D = some (W.listOf us.toArray c) → h'.Ns C m' → StrsAre us (xs1.flatMap fun o1 => xs2.map (f o1)) → RR (.ref D) C (.ok .next) { s with heap := h', toks := tk' }) :
    wpAny (model prog w) A (eval it1 env) (fun x s₁ => wpAny (model prog w) A (pyIter x) (fun it s₂ => wpAny (model prog w) A (newList []) (fun acc s₃ =>
      wpAny (model prog w) A (newFunctionEnv scope env.globals cl [] env.qual none .none (some env)) (fun cenv s₄ =>
        codeAny (model prog w) A (.compStart (two elt it1 it2 x1 x2 p1 p2 scope pos) 0 it acc { cenv with scope := relabel scope env }) (RR acc cenv.locals) s₄) E s₃) E s₂) E s₁) E s := by
  refine wpAny_mono h1 (fun xv s₁ hx => ?_) fun _ _ e => e
  obtain ⟨h₁, tk₁, a1, its1, rfl, k₁, rfl, hl₁, hos⟩ := hx
  refine wpAny_pyIter_list hl₁ ?_
  refine wpAny_newObj_type (wpAny_newFunctionEnv hcell (by intro y hy; simp at hy) (fun h₂ hns₂ hsb₂ => ?_) hkind)
  dsimp only at hns₂ hsb₂ ⊢
  generalize hG : h₁.push { cls := .type "list_iterator", data := .fields #[.ref a1, .int 0 0] } = G at hns₂ hsb₂ ⊢
  have gI : G.get? h₁.objs.size = some { cls := .type "list_iterator", data := .fields #[.ref a1, .int 0 0] } := by rw [← hG]; exact Heap.get?_push_size _ rfl
  have gk : ∀ b o, h₁.get? b = some o → G.get? b = some o := fun b o e => by rw [← hG]; exact Heap.get?_push_of_some _ e
  have gz : G.objs.size = h₁.objs.size + 1 := by rw [← hG, Heap.size_push]
  generalize hK : G.push { cls := .type "list", dict := none, data := .seq ([] : List Value).toArray } = K at hns₂ hsb₂ ⊢
  have kD : K.get? G.objs.size = some (W.listOf ([] : List Value).toArray 0) := by rw [← hK]; exact Heap.get?_push_size _ rfl
  have kk : ∀ b o, G.get? b = some o → K.get? b = some o := fun b o e => by rw [← hK]; exact Heap.get?_push_of_some _ e
  have kz : K.objs.size = G.objs.size + 1 := by rw [← hK, Heap.size_push]
  have oldC : ∀ b o, K.get? b = some o → h₂.get? b = some o := fun b o e => hsb₂.extBut b o (Nat.ne_of_lt (Heap.lt_size e)) (Heap.get?_push_of_some _ e)
  have new : ∀ b, h₁.objs.size ≤ b → s.heap.get? b = none := fun b hb => by
    cases q : s.heap.get? b with
    | none => rfl
    | some o => exact absurd (Heap.lt_size (k₁ b o q)) (Nat.not_lt.mpr hb)
  have ha1 : a1 < h₁.objs.size := by obtain ⟨o, ho, _⟩ := hl₁; exact Heap.lt_size ho
  have ha1n : @LT.lt Nat _ a1 h₁.objs.size := ha1
  have loop : ∀ tk, codeAny (model prog w) A (.compLoop (two elt it1 it2 x1 x2 p1 p2 scope pos) 0 (.ref h₁.objs.size) (.ref G.objs.size) (compEnvC scope cl K.objs.size env)) (RR (.ref G.objs.size) K.objs.size) { s with heap := h₂, toks := tk } := by
    intro tk
    refine two_out hh (H _) (HS _) hkind hx1 hx2 hne hos hsz hsz2 (Nat.ne_of_lt (by omega)) (Nat.ne_of_lt (by omega)) (Nat.ne_of_lt (by omega)) (Nat.ne_of_lt ha1) (Nat.ne_of_lt (by omega)) (Nat.ne_of_lt (by omega)) (new _ (Nat.le_refl _)) (new _ (by omega)) (new _ (by omega)) (hfold _)
      xs1.length 0 h₂ tk 0 [] [] _ (by omega) ⟨_, oldC _ _ (kk _ _ gI), rfl, rfl⟩ (hl₁.at fun o e => oldC _ _ (kk _ _ (gk _ _ e))) (oldC _ _ kD) (by simp; omega) hns₂ (fun b o e => oldC _ _ (kk _ _ (gk _ _ (k₁ b o e)))) .nil ?_
    intro h' tk' c' us' m' q1 q2 q3 q4
    have zC : s.heap.get? K.objs.size = none := new _ (by omega)
    have nDC : G.objs.size ≠ K.objs.size := Nat.ne_of_lt (by omega)
    exact fin _ _ h' tk' c' us' m' q3 (new _ (by omega)) zC nDC q1 q2 (by simpa using q4)
  exact codeAny_compStart_list (loop _) (wpAny_pyIter_listiter ⟨_, oldC _ _ (kk _ _ gI), rfl, rfl⟩ (loop _))

theorem two_Assign {E : Value → Shared → Prop} {Q : Flow → Shared → Prop} {h₀ : Heap} {m : Str → Option Value} {y : Str} {py spos : Pos} {xs1 xs2 : List (Option Str)} (F₀ : Fr h₀ env.locals s.heap m) (hh : A.handled = none)
    (hsw : swapsWith (two elt it1 it2 x1 x2 p1 p2 scope pos) (some (.Name y py)) spos.line env = pure true)
    (hclos : closureFor scope env = pure cl) (hcell : ∀ y ∈ scope.names, y.2 ≠ .cell) (hkind : scope.kind = .function)
    (hnames : ∀ y ∈ scope.names, y.2 = .local → scope.names.lookup y.1 = some .local) (hx1 : scope.names.lookup x1 = some .local) (hx2 : scope.names.lookup x2 = some .local) (hne : x1 ≠ x2)
    (hy : env.kindOf y = some .local) (hp : (env.scope.kind == .class || (env.scope.kind == .module && env.locals != env.globals)) = false)
    (hs : ∀ x, foldedSetIterable it1 env x = pure x) (hfold : ∀ C x, foldedSetIterable it2 (compEnvC scope cl C env) x = pure x) (hsz : xs1.length ≤ 100) (hsz2 : xs2.length ≤ 100)
    (H : ∀ (s : Shared), Fr h₀ env.locals s.heap m → ∀ C, EltOk prog w A s env elt x1 x2 scope cl C f xs1 xs2) (HS : ∀ (s : Shared), Fr h₀ env.locals s.heap m → ∀ C, SrcOk prog w A s env it2 scope cl C xs2)
    (h1 : ∀ s : Shared, Fr h₀ env.locals s.heap m → wpAny (model prog w) A (eval it1 env) (fun x s₁ => ∃ h' tk' a1 its1, s₁ = { s with heap := h', toks := tk' } ∧ s.heap.StaysIn h' ∧ x = .ref a1 ∧ h'.IsList a1 its1.toArray ∧ OS its1 xs1) E s)
    (fin : ∀ D h' tk' c us, Fr h₀ env.locals h' (fun z => if z = y then some (.ref D) else m z) → News h₀ env.locals h' [(D, W.listOf us.toArray c)] → StrsAre us (xs1.flatMap fun o1 => xs2.map (f o1)) → Q .next { s with heap := h', toks := tk' }) :
    wpAny (model prog w) A (exec (.Assign [.Name y py] (two elt it1 it2 x1 x2 p1 p2 scope pos) spos) env) Q E s := by
  rw [exec_Assign_Name_used _ _ _ _ hsw]
  refine wpAny_bind (wpAny_standAt (wpAny_bind ?_))
  show wpAny _ A (do let _ ← comprehension (two elt it1 it2 x1 x2 p1 p2 scope pos) scope env _ (newList []) false (eval it1 env) (some (assign (.Name y py) env))) _ _ s
  refine wpAny_bind (wpAny_mono (wpAny_comprehension_free (use := some (assign (.Name y py) env)) (Q := fun _ s' => Q .next s') rfl hs hclos hkind hnames ?_) (fun _ s' hq => wpAny_pure (wpAny_pure hq)) fun _ _ e => e)
  refine two_core (RR := compPost (model prog w) A E (some (assign (.Name y py) env)) (fun _ s' => Q .next s')) hh hcell hkind hx1 hx2 hne hfold hsz hsz2 (H _ F₀) (HS _ F₀) (h1 _ F₀) ?_
  intro D C h' tk' c us m' k' hD₀ hC₀ hDC hD hC hus
  have F' : Fr h₀ env.locals h' m := F₀.keeps k'
  have hL₀ : h₀.get? env.locals = none := Heap.get?_none_of_le F'.above
  have hLs : ∃ o, s.heap.get? env.locals = some o := by obtain ⟨o, _, _, ho, _⟩ := F₀.ns; exact ⟨o, ho⟩
  have hCL : C ≠ env.locals := by
    rintro rfl
    obtain ⟨o, ho⟩ := hLs
    rw [hC₀] at ho; cases ho
  have hDL : D ≠ env.locals := by
    rintro rfl
    obtain ⟨o, ho⟩ := hLs
    rw [hD₀] at ho; cases ho
  have hC₀' : h₀.get? C = none := kts_none F₀.keep hC₀
  show wpAny _ A (assign (.Name y py) env (.ref D)) _ _ _
  refine wpAny_assign_Name (wpAny_storeName_local hy F'.ns (fun h₂ hn₂ hs₂ => ?_) hp)
  have F₂ : Fr h₀ env.locals h₂ (fun z => if z = y then some (.ref D) else m z) := ⟨hn₂, fun b o e => hs₂.extBut b o (fun q => by rw [q, hL₀] at e; cases e) (F'.keep b o e), F'.above⟩
  refine ⟨m', hC.sameBut hs₂ hCL, fun h'' hs'' => fin D h'' _ c us (F₂.change hs'' hCL hC₀') (fun p hp => ?_) hus⟩
  rw [List.mem_singleton.mp hp]
  exact ⟨hs''.extBut _ _ hDC (hs₂.extBut _ _ hDL hD), hDL, kts_none F₀.keep hD₀⟩
end

theorem nameNs {M : Model} {A : Around} {E : Value → Shared → Prop} {s : Shared} {C : Addr} {scope : Scope} {cl : List (Str × Addr)} {env : Env} {x : Str} {pos : Pos} {v : Value} {m : Str → Option Value} {Q : Value → Shared → Prop}
    (hC : s.heap.Ns C m) (hv : m x = some v) (h : Q v s)
    (hk : (compEnvC scope cl C env).scope.kind = .function ∧ (compEnvC scope cl C env).kindOf x = some .local ∧ (x == ("__debug__" : Str)) = false) :
    wpAny M A (eval (.Name x pos) (compEnvC scope cl C env)) Q E s := wpAny_Name (wpAny_loadName_local hk.1 hk.2.1 hC hv h) hk.2.2
end Mine
end

section
open PySem PySem.W PyProof.Rows PySem.Calls PySem.Spec PyProof.V
namespace Mine
theorem ints_snoc2 {us : List Value} {xs : List Int} (h : IntsAre us xs) {n : Int} {t : Tok} : IntsAre (us ++ [.int n t]) (xs ++ [n]) := by
  induction h with
  | nil => exact .cons n t .nil
  | cons a b _ ih => exact .cons a b ih
theorem ints_at {vs : List Value} {xs : List Int} (h : IntsAre vs xs) : ∀ (i : Nat), i < xs.length → ∃ n t, xs[i]? = some n ∧ vs[i]? = some (.int n t) := by
  induction h with
  | nil => intro i hi; simp at hi
  | cons n t _ ih =>
    intro i hi
    cases i with
    | zero => exact ⟨n, t, rfl, rfl⟩
    | succ i => simpa using ih i (by simpa using hi)
noncomputable def tailOf (f : Nat → Int → Int) : List Int → Nat → List Int
  | [], _ => []
  | x :: r, i => f i x :: tailOf f r (i + 1)
abbrev one (elt it1 : Expr) (x1 x2 : Str) (p1 p2 tp : Pos) (k : Nat) (scope : Scope) (pos : Pos) : Expr := .ListComp elt [⟨.Tuple [.Name x1 p1, .Name x2 p2] k tp, it1, [], 0⟩] scope pos

theorem turn_one (elt it1 : Expr) (x1 x2 : Str) (p1 p2 tp : Pos) (k : Nat) (scope : Scope) (pos : Pos) (it acc : Value) (env : Env) :
    compTurn (one elt it1 x1 x2 p1 p2 tp k scope pos) 0 it acc env = (standAt it1.pos >>= fun _ => pyNext it >>= fun r => match r with
      | none => pure (.done .next)
      | some v => letOwnedTupleGo (.Tuple [.Name x1 p1, .Name x2 p2] k tp) it v >>= fun _ => assign (.Tuple [.Name x1 p1, .Name x2 p2] k tp) env v >>= fun _ =>
        (eval elt env >>= fun x => call (.builtin "list.append") [acc, x] >>= fun _ => pure ()) >>= fun _ =>
          again (.compLoop (one elt it1 x1 x2 p1 p2 tp k scope pos) 0 it acc env)) := by rfl

section
variable {prog : Program} {w : World} {A : Around} {s : Shared} {env : Env} {elt it1 : Expr} {x1 x2 : Str} {p1 p2 tp : Pos} {k : Nat} {scope : Scope} {pos : Pos} {cl : List (Str × Addr)} {C D : Addr} {f : Nat → Int → Int} {h₀ : Heap} {L : Addr} {mL : Str → Option Value} {news : List (Addr × Obj)}

noncomputable def EltI (prog : Program) (w : World) (A : Around) (s : Shared) (h₀ : Heap) (L : Addr) (mL : Str → Option Value) (news : List (Addr × Obj)) (env : Env) (elt : Expr) (x1 x2 : Str) (scope : Scope) (cl : List (Str × Addr)) (C : Addr) (f : Nat → Int → Int) (xs : List Int) : Prop :=
  ∀ (h : Heap) (tk : Nat) (i : Nat) (x : Int) (t1 t2 : Tok) (m : Str → Option Value) (oC : Obj) (ext : List (Addr × Obj)) (E' : Value → Shared → Prop), LCg.NsObj oC m → m x1 = some (.int i t1) → m x2 = some (.int x t2) → xs[i]? = some x → Fr h₀ L h mL → News h₀ L h ((C, oC) :: (news ++ ext)) →
    wpAny (model prog w) A (eval elt (compEnvC scope cl C env)) (fun y s₂ => ∃ h' tk' t, s₂ = { s with heap := h', toks := tk' } ∧ Fr h₀ L h' mL ∧ News h₀ L h' ((C, oC) :: (news ++ ext)) ∧ y = .int (f i x) t) E' { s with heap := h, toks := tk }

theorem fr_off {h h' : Heap} (F : Fr h₀ L h mL) (up : ∀ b o, h₀.get? b = some o ∨ b = L → h.get? b = some o → h'.get? b = some o) : Fr h₀ L h' mL :=
  ⟨F.ns.at' fun o q => up L o (.inr rfl) q, fun b o e => up b o (.inl e) (F.keep b o e), F.above⟩

theorem one_loop {xs : List Int} {its : List Value} {e it l : Addr} {R : Result → Shared → Prop} (hh : A.handled = none) (H : EltI prog w A s h₀ L mL news env elt x1 x2 scope cl C f xs) (hkind : scope.kind = .function) (hx1 : scope.names.lookup x1 = some .local) (hx2 : scope.names.lookup x2 = some .local) (hne : x1 ≠ x2)
    (hos : IntsAre its xs) (hsz : xs.length ≤ 1000) (hei : e ≠ it) (hle : l ≠ e) (hli : l ≠ it) (ne1 : e ≠ D) (ne2 : e ≠ C) (ni1 : it ≠ D) (ni2 : it ≠ C) (nl1 : l ≠ D) (nl2 : l ≠ C) (n3 : D ≠ C)
    (z1 : h₀.get? e = none ∧ e ≠ L) (z4 : h₀.get? it = none ∧ it ≠ L) (z2 : h₀.get? D = none ∧ D ≠ L) (z3 : h₀.get? C = none ∧ C ≠ L) (z5 : h₀.get? l = none ∧ l ≠ L) (off : ∀ p ∈ news, p.1 ≠ e ∧ p.1 ≠ it ∧ p.1 ≠ D ∧ p.1 ≠ C) :
    ∀ (n j : Nat) (h : Heap) (tk c : Nat) (us : List Value) (ys : List Int) (m : Str → Option Value), j + n = xs.length → ((∃ old, IsEnum h e it j old) ∧ h.IsListIter it l j ∧ h.IsList l its.toArray) → h.get? D = some (W.listOf us.toArray c) → us.length + n ≤ 100000 → h.Ns C m → Fr h₀ L h mL → News h₀ L h news → IntsAre us ys →
      (∀ h' tk' c' us' m', h'.get? D = some (W.listOf us'.toArray c') → h'.Ns C m' → Fr h₀ L h' mL → News h₀ L h' news → IntsAre us' (ys ++ tailOf f (xs.drop j) j) → R (.ok .next) { s with heap := h', toks := tk' }) →
      codeAny (model prog w) A (.compLoop (one elt it1 x1 x2 p1 p2 tp k scope pos) 0 (.ref e) (.ref D) (compEnvC scope cl C env)) R { s with heap := h, toks := tk } := by
  have WE := WalksT.enumerate (prog := prog) (w := w) hh e it l hei hle hli its.toArray
  have hsz' : its.toArray.size = xs.length := by
    have : ∀ {a : List Value} {b : List Int}, IntsAre a b → a.length = b.length := by
      intro a b h
      induction h with
      | nil => rfl
      | cons => simp [*]
    rw [List.size_toArray]; exact this hos
  have offm : ∀ {b : Addr}, b ≠ e → b ≠ it → b ∉ [e, it] := by
    intro b q1 q2 hm
    rcases List.mem_cons.mp hm with q | q
    · exact q1 q
    · exact q2 (List.mem_singleton.mp q)
  have off0 : ∀ {b : Addr} {o : Obj}, (h₀.get? b = some o ∨ b = L) → b ≠ e ∧ b ≠ it ∧ b ≠ D ∧ b ≠ C := by
    intro b o q
    rcases q with q | q
    · refine ⟨?_, ?_, ?_, ?_⟩
      · rintro rfl; rw [z1.1] at q; cases q
      · rintro rfl; rw [z4.1] at q; cases q
      · rintro rfl; rw [z2.1] at q; cases q
      · rintro rfl; rw [z3.1] at q; cases q
    · subst q; exact ⟨Ne.symm z1.2, Ne.symm z4.2, Ne.symm z2.2, Ne.symm z3.2⟩
  intro n
  induction n with
  | zero =>
    intro j h tk c us ys m hj hst hD hul hn F N hy hR
    refine codeAny_of_tree ?_
    show wpAny _ A ((compTurn (one elt it1 x1 x2 p1 p2 tp k scope pos) 0 (.ref e) (.ref D) (compEnvC scope cl C env)).onRaise (fun x => do noteFrame x (compEnvC scope cl C env); theTreesLotGoes x)) _ _ _
    refine wpAny_noted ?_
    rw [turn_one]
    refine wpAny_bind (wpAny_standAt (wpAny_bind ?_))
    have hjn : j = its.toArray.size := by omega
    refine WE.done _ _ _ (by rw [← hjn]; exact hst) fun h₂ tk₂ he => ?_
    refine wpAny_pure ?_
    refine hR h₂ tk₂ c us m (he D _ (offm (Ne.symm ne1) (Ne.symm ni1)) hD) (hn.at' fun o q => he C o (offm (Ne.symm ne2) (Ne.symm ni2)) q) (fr_off F fun b o q r => he b o (offm (off0 q).1 (off0 q).2.1) r) (fun p hp => ⟨he _ _ (offm (off p hp).1 (off p hp).2.1) (N p hp).1, (N p hp).2⟩) ?_
    rw [List.drop_of_length_le (by omega)]
    simpa [tailOf] using hy
  | succ n ih =>
    intro j h tk c us ys m hj hst hD hul hn F N hy hR
    obtain ⟨x, t2, e1, e2⟩ := ints_at hos j (by omega)
    refine codeAny_of_tree ?_
    show wpAny _ A ((compTurn (one elt it1 x1 x2 p1 p2 tp k scope pos) 0 (.ref e) (.ref D) (compEnvC scope cl C env)).onRaise (fun x => do noteFrame x (compEnvC scope cl C env); theTreesLotGoes x)) _ _ _
    refine wpAny_noted ?_
    rw [turn_one]
    refine wpAny_bind (wpAny_standAt (wpAny_bind ?_))
    refine WE.item j _ _ _ (by omega) hst fun T vals h₁ tk₁ hP hle' hT hM k₁ => ?_
    obtain ⟨t1, x', hx', rfl⟩ := hP
    have hxx : x' = .int x t2 := by
      have : its[j]? = some x' := by simpa using hx'
      rw [e2] at this; exact (Option.some.inj this).symm
    subst hxx
    have hTap := WE.apart _ _ _ hM
    refine wpAny_bind (WE.go _ _ _ j T _ _ _ hM fun h₂ hst₂ k₂ => ?_)
    have hT₂ : IsTup h₂ T #[.int j t1, .int x t2] := by
      obtain ⟨o, ho, hc, nn, hd⟩ := hT
      exact ⟨o, k₂ T o hTap ho, hc, nn, hd⟩
    refine wpAny_bind (assign_Tuple_tuple hh hT₂ rfl rfl fun h₃ x₃ => ?_)
    have k₃ : ∀ b o, h₂.get? b = some o → h₃.get? b = some o := fun b o q => x₃ b o (Nat.ne_of_lt (Heap.lt_size q)) q
    have upC : ∀ o, h.get? C = some o → h₃.get? C = some o := fun o q => k₃ C o (k₂ C o (offm (Ne.symm ne2) (Ne.symm ni2)) (k₁ C o (offm (Ne.symm ne2) (Ne.symm ni2)) q))
    refine assignInOrder_cons (wpAny_assign_Name (wpAny_storeName_local (lookup_relabel_local hx1) (hn.at' upC) (fun h₄ hn₄ hs₄ => ?_) (by simp [compEnvC, relabel, hkind])))
    refine assignInOrder_cons (wpAny_assign_Name (wpAny_storeName_local (lookup_relabel_local hx2) hn₄ (fun h₅ hn₅ hs₅ => ?_) (by simp [compEnvC, relabel, hkind])))
    refine assignInOrder_nil ?_
    have up5 : ∀ b o, b ≠ C → h₂.get? b = some o → h₅.get? b = some o := fun b o q r => hs₅.extBut b o q (hs₄.extBut b o q (k₃ b o r))
    have up : ∀ b o, b ≠ e → b ≠ it → b ≠ C → h.get? b = some o → h₅.get? b = some o := fun b o q1 q2 q3 r => up5 b o q3 (k₂ b o (offm q1 q2) (k₁ b o (offm q1 q2) r))
    have hst₅ := WE.frame _ _ h₅ hst₂ fun b hb o r => up5 b o (by
      simp only [List.mem_cons, List.not_mem_nil, or_false] at hb
      rcases hb with rfl | rfl | rfl
      · exact ne2
      · exact ni2
      · exact nl2) r
    obtain ⟨⟨old₅, he₅⟩, ⟨oi, hi₅, ci₅⟩, ⟨ol, hl₅, cl₅⟩⟩ := hst₅
    obtain ⟨oC, heC, hoC⟩ := LCg.ns_obj hn₅
    obtain ⟨oe, hoe, hIs⟩ : ∃ oe, h₅.get? e = some oe ∧ ∀ g : Heap, g.get? e = some oe → IsEnum g e it ((j + 1 : Nat) : Int) old₅ := ⟨_, he₅, fun _ r => r⟩
    have F₅ : Fr h₀ L h₅ mL := fr_off F fun b o q r => up b o (off0 q).1 (off0 q).2.1 (off0 q).2.2.2 r
    have N₅ : News h₀ L h₅ ((C, oC) :: (news ++ [(D, W.listOf us.toArray c), (e, oe), (it, oi), (l, ol)])) := by
      intro p hp
      rcases List.mem_cons.mp hp with rfl | hp
      · exact ⟨heC, z3.2, z3.1⟩
      rcases List.mem_append.mp hp with hp | hp
      · exact ⟨up _ _ (off p hp).1 (off p hp).2.1 (off p hp).2.2.2 (N p hp).1, (N p hp).2⟩
      rcases List.mem_cons.mp hp with rfl | hp
      · exact ⟨up D _ (Ne.symm ne1) (Ne.symm ni1) n3 hD, z2.2, z2.1⟩
      rcases List.mem_cons.mp hp with rfl | hp
      · exact ⟨hoe, z1.2, z1.1⟩
      rcases List.mem_cons.mp hp with rfl | hp
      · exact ⟨hi₅, z4.2, z4.1⟩
      · rw [List.mem_singleton.mp hp]
        exact ⟨hl₅, z5.2, z5.1⟩
    refine wpAny_bind (wpAny_bind (wpAny_mono (H h₅ _ j x t1 t2 _ oC _ _ hoC (by simp [hne]) (by simp) e1 F₅ N₅) (fun y s₃ hy₃ => ?_) fun _ _ q => q))
    obtain ⟨h₆, tk₆, t₆, rfl, F₆, N₆, rfl⟩ := hy₃
    have tail : ∀ {p : Addr × Obj}, p ∈ [(D, W.listOf us.toArray c), (e, oe), (it, oi), (l, ol)] → h₆.get? p.1 = some p.2 := fun hp => (N₆ _ (List.mem_cons_of_mem _ (List.mem_append_right _ hp))).1
    have hD₆ : h₆.get? D = some (W.listOf us.toArray c) := tail (p := (D, _)) (by simp)
    have he₆ : h₆.get? e = some oe := tail (p := (e, _)) (by simp)
    have hi₆ : h₆.get? it = some oi := tail (p := (it, _)) (by simp)
    have hl₆ : h₆.get? l = some ol := tail (p := (l, _)) (by simp)
    refine wpAny_bind (append_at (hsz := by rw [List.size_toArray, sizeLine_eq]; omega) hD₆ fun h₇ hs₇ hD₇ => ?_)
    refine wpAny_pure (wpAny_pure ⟨rfl, ?_⟩)
    have up7 : ∀ b o, b ≠ D → h₆.get? b = some o → h₇.get? b = some o := fun b o q r => hs₇.extBut b o q r
    refine ih (j + 1) h₇ _ (c + 1) (us ++ [.int (f j x) t₆]) (ys ++ [f j x]) (fun z => if z = x2 then some (.int x t2) else if z = x1 then some (.int j t1) else m z) (by omega) ⟨⟨old₅, hIs _ (up7 _ _ ne1 he₆)⟩, ⟨oi, up7 _ _ ni1 hi₆, ci₅⟩, ⟨ol, up7 _ _ nl1 hl₆, cl₅⟩⟩ ?_ ?_ ?_ ?_ ?_ ?_ ?_
    · rw [← List.push_toArray]; exact hD₇
    · rw [List.length_append]; simp; omega
    · exact (hoC.ns (N₆ _ List.mem_cons_self).1).sameBut hs₇ (Ne.symm n3)
    · exact fr_off F₆ fun b o q r => up7 b o (off0 q).2.2.1 r
    · exact fun p hp => ⟨up7 _ _ (off p hp).2.2.1 (N₆ p (List.mem_cons_of_mem _ (List.mem_append_left _ hp))).1, (N p hp).2⟩
    · exact ints_snoc2 hy
    · intro h' tk' c' us' m' q1 q2 q3 q4 q5
      refine hR h' tk' c' us' m' q1 q2 q3 q4 ?_
      have : tailOf f (xs.drop j) j = f j x :: tailOf f (xs.drop (j + 1)) (j + 1) := by
        rw [List.drop_eq_getElem_cons (by omega)]
        have : xs[j] = x := by
          have := List.getElem?_eq_getElem (l := xs) (i := j) (by omega)
          rw [e1] at this; exact (Option.some.inj this).symm
        rw [this]; rfl
      rw [this]
      simpa using q5

noncomputable def SrcE (s : Shared) (h₀ : Heap) (L : Addr) (mL : Str → Option Value) (news : List (Addr × Obj)) (xs : List Int) (x : Value) (s₁ : Shared) : Prop :=
  ∃ h' tk' e it l items, s₁ = { s with heap := h', toks := tk' } ∧ Fr h₀ L h' mL ∧ News h₀ L h' news ∧ x = .ref e ∧ IsEnum h' e it 0 .none ∧ h'.IsListIter it l 0 ∧ h'.IsList l items.toArray ∧ IntsAre items xs ∧ e ≠ it ∧ l ≠ e ∧ l ≠ it ∧ (h₀.get? e = none ∧ e ≠ L) ∧ (h₀.get? it = none ∧ it ≠ L) ∧ (h₀.get? l = none ∧ l ≠ L) ∧ ∀ p ∈ news, p.1 ≠ e ∧ p.1 ≠ it

theorem one_core {E : Value → Shared → Prop} {RR : Value → Addr → Result → Shared → Prop} {xs : List Int} (hh : A.handled = none) (hcell : ∀ y ∈ scope.names, y.2 ≠ .cell) (hkind : scope.kind = .function) (hx1 : scope.names.lookup x1 = some .local) (hx2 : scope.names.lookup x2 = some .local) (hne : x1 ≠ x2)
    (hsz : xs.length ≤ 1000)
    (H : ∀ C, EltI prog w A s h₀ L mL news env elt x1 x2 scope cl C f xs)
    (h1 : wpAny (model prog w) A (eval it1 env) (SrcE s h₀ L mL news xs) E s)
    (fin : ∀ D C h' tk' c us m', Fr h₀ L h' mL → News h₀ L h' news → (∀ p ∈ news, p.1 ≠ D ∧ p.1 ≠ C) → h₀.get? D = none ∧ D ≠ L → h₀.get? C = none ∧ C ≠ L → D ≠ C → h'.get? D = some (W.listOf us.toArray c) → h'.Ns C m' → IntsAre us (tailOf f xs 0) → RR (.ref D) C (.ok .next) { s with heap := h', toks := tk' }) :
    wpAny (model prog w) A (eval it1 env) (fun x s₁ => wpAny (model prog w) A (pyIter x) (fun it s₂ => wpAny (model prog w) A (newList []) (fun acc s₃ =>
      wpAny (model prog w) A (newFunctionEnv scope env.globals cl [] env.qual none .none (some env)) (fun cenv s₄ =>
        codeAny (model prog w) A (.compStart (one elt it1 x1 x2 p1 p2 tp k scope pos) 0 it acc { cenv with scope := relabel scope env }) (RR acc cenv.locals) s₄) E s₃) E s₂) E s₁) E s := by
  refine wpAny_mono h1 (fun xv s₁ hx => ?_) fun _ _ e => e
  obtain ⟨G, tk₁, e, it, l, items, rfl, F, N, rfl, he, hit, hl, hos, q1, q2, q3, q4, q5, q6, q7⟩ := hx
  refine wpAny_pyIter_enum he ?_
  refine wpAny_newObj_type (wpAny_newFunctionEnv hcell (by intro y hy; simp at hy) (fun h₂ hns₂ hsb₂ => ?_) hkind)
  dsimp only at hns₂ hsb₂ ⊢
  generalize hK : G.push { cls := .type "list", dict := none, data := .seq ([] : List Value).toArray } = K at hns₂ hsb₂ ⊢
  have kD : K.get? G.objs.size = some (W.listOf ([] : List Value).toArray 0) := by rw [← hK]; exact Heap.get?_push_size _ rfl
  have kk : ∀ b o, G.get? b = some o → K.get? b = some o := fun b o e => by rw [← hK]; exact Heap.get?_push_of_some _ e
  have kz : K.objs.size = G.objs.size + 1 := by rw [← hK, Heap.size_push]
  have oldC : ∀ b o, K.get? b = some o → h₂.get? b = some o := fun b o e => hsb₂.extBut b o (Nat.ne_of_lt (Heap.lt_size e)) (Heap.get?_push_of_some _ e)
  have hLlt : @LT.lt Nat _ L G.objs.size := F.ns.lt
  have new : ∀ b, @LE.le Nat _ G.objs.size b → h₀.get? b = none ∧ b ≠ L := fun b hb => by
    refine ⟨?_, Nat.ne_of_gt (Nat.lt_of_lt_of_le hLlt hb)⟩
    cases q : h₀.get? b with
    | none => rfl
    | some o => exact absurd (Heap.lt_size (F.keep b o q)) (Nat.not_lt.mpr hb)
  have le : @LT.lt Nat _ e G.objs.size := Heap.lt_size he
  have lit : @LT.lt Nat _ it G.objs.size := by obtain ⟨o, ho, _⟩ := hit; exact Heap.lt_size ho
  have ll : @LT.lt Nat _ l G.objs.size := by obtain ⟨o, ho, _⟩ := hl; exact Heap.lt_size ho
  have ln : ∀ p ∈ news, @LT.lt Nat _ p.1 G.objs.size := fun p hp => Heap.lt_size (N p hp).1
  have upp : ∀ b o, G.get? b = some o → h₂.get? b = some o := fun b o r => oldC _ _ (kk _ _ r)
  have hst : (∃ old, IsEnum h₂ e it ((0 : Nat) : Int) old) ∧ h₂.IsListIter it l 0 ∧ h₂.IsList l items.toArray := ⟨⟨_, upp _ _ he⟩, hit.at fun o r => upp _ o r, hl.at fun o r => upp _ o r⟩
  have offn : ∀ p ∈ news, p.1 ≠ G.objs.size ∧ p.1 ≠ K.objs.size := fun p hp => ⟨Nat.ne_of_lt (ln p hp), Nat.ne_of_lt (by have := ln p hp; omega)⟩
  have loop : ∀ tk, codeAny (model prog w) A (.compLoop (one elt it1 x1 x2 p1 p2 tp k scope pos) 0 (.ref e) (.ref G.objs.size) (compEnvC scope cl K.objs.size env)) (RR (.ref G.objs.size) K.objs.size) { s with heap := h₂, toks := tk } := by
    intro tk
    refine one_loop hh (H _) hkind hx1 hx2 hne hos hsz q1 q2 q3 (Nat.ne_of_lt le) (Nat.ne_of_lt (by omega)) (Nat.ne_of_lt lit) (Nat.ne_of_lt (by omega)) (Nat.ne_of_lt ll) (Nat.ne_of_lt (by omega)) (Nat.ne_of_lt (by omega)) q4 q5 (new _ (Nat.le_refl _)) (new _ (by omega)) q6 (fun p hp => ⟨(q7 p hp).1, (q7 p hp).2, offn p hp⟩)
      xs.length 0 h₂ tk 0 [] [] _ (by omega) hst (oldC _ _ kD) (by simp; omega) hns₂ (F.keeps upp) (N.grown upp) .nil ?_
    intro h' tk' c' us' m' r1 r2 r3 r4 r5
    have zC := new K.objs.size (by omega)
    have nDC : G.objs.size ≠ K.objs.size := Nat.ne_of_lt (by omega)
    exact fin _ _ h' tk' c' us' m' r3 r4 offn (new _ (Nat.le_refl _)) zC nDC r1 r2 (by simpa using r5)
  exact codeAny_compStart_list (loop _) (wpAny_pyIter_enum (upp _ _ he) (loop _))

theorem one_Assign {E : Value → Shared → Prop} {Q : Flow → Shared → Prop} {y : Str} {py spos : Pos} {xs : List Int} (hLe : env.locals = L) (F₀ : Fr h₀ L s.heap mL) (N₀ : News h₀ L s.heap news) (hh : A.handled = none)
    (hsw : swapsWith (one elt it1 x1 x2 p1 p2 tp k scope pos) (some (.Name y py)) spos.line env = pure true)
    (hclos : closureFor scope env = pure cl) (hcell : ∀ y ∈ scope.names, y.2 ≠ .cell) (hkind : scope.kind = .function)
    (hnames : ∀ y ∈ scope.names, y.2 = .local → scope.names.lookup y.1 = some .local) (hx1 : scope.names.lookup x1 = some .local) (hx2 : scope.names.lookup x2 = some .local) (hne : x1 ≠ x2)
    (hy : env.kindOf y = some .local) (hp : (env.scope.kind == .class || (env.scope.kind == .module && env.locals != env.globals)) = false)
    (hs : ∀ x, foldedSetIterable it1 env x = pure x) (hsz : xs.length ≤ 1000)
    (H : ∀ (s : Shared) C, EltI prog w A s h₀ L mL news env elt x1 x2 scope cl C f xs)
    (h1 : ∀ s : Shared, Fr h₀ L s.heap mL → News h₀ L s.heap news → wpAny (model prog w) A (eval it1 env) (SrcE s h₀ L mL news xs) E s)
    (fin : ∀ D h' tk' c us, Fr h₀ L h' (fun z => if z = y then some (.ref D) else mL z) → News h₀ L h' ((D, W.listOf us.toArray c) :: news) → (∀ p ∈ news, @Ne Nat p.1 D) → IntsAre us (tailOf f xs 0) → Q .next { s with heap := h', toks := tk' }) :
    wpAny (model prog w) A (exec (.Assign [.Name y py] (one elt it1 x1 x2 p1 p2 tp k scope pos) spos) env) Q E s := by
  subst hLe
  rw [exec_Assign_Name_used _ _ _ _ hsw]
  refine wpAny_bind (wpAny_standAt (wpAny_bind ?_))
  show wpAny _ A (do let _ ← comprehension (one elt it1 x1 x2 p1 p2 tp k scope pos) scope env _ (newList []) false (eval it1 env) (some (assign (.Name y py) env))) _ _ s
  refine wpAny_bind (wpAny_mono (wpAny_comprehension_free (use := some (assign (.Name y py) env)) (Q := fun _ s' => Q .next s') rfl hs hclos hkind hnames ?_) (fun _ s' hq => wpAny_pure (wpAny_pure hq)) fun _ _ e => e)
  refine one_core (RR := compPost (model prog w) A E (some (assign (.Name y py) env)) (fun _ s' => Q .next s')) hh hcell hkind hx1 hx2 hne hsz (H _) (h1 _ F₀ N₀) ?_
  intro D C h' tk' c us m' F' N' off hD₀ hC₀ hDC hD hC hus
  have hL₀ : h₀.get? env.locals = none := Heap.get?_none_of_le F'.above
  show wpAny _ A (assign (.Name y py) env (.ref D)) _ _ _
  refine wpAny_assign_Name (wpAny_storeName_local hy F'.ns (fun h₂ hn₂ hs₂ => ?_) hp)
  have F₂ : Fr h₀ env.locals h₂ (fun z => if z = y then some (.ref D) else mL z) := ⟨hn₂, fun b o e => hs₂.extBut b o (fun q => by rw [q, hL₀] at e; cases e) (F'.keep b o e), F'.above⟩
  refine ⟨m', hC.sameBut hs₂ hC₀.2, fun h'' hs'' => fin D h'' _ c us (F₂.change hs'' hC₀.2 hC₀.1) (fun p hp => ?_) (fun p hp => (off p hp).1) hus⟩
  rcases List.mem_cons.mp hp with rfl | hp
  · exact ⟨hs''.extBut _ _ hDC (hs₂.extBut _ _ hD₀.2 hD), hD₀.2, hD₀.1⟩
  · obtain ⟨r1, r2, r3⟩ := N' p hp
    exact ⟨hs''.extBut _ _ (off p hp).2 (hs₂.extBut _ _ r2 r1), r2, r3⟩
end
end Mine
end

section
local macro_rules | `(tactic| walk_at "eval Name") => `(tactic| (with_reducible refine' Mine.nameNs ?n ?v ?_ ?k; (case k => with_unfolding_all exact ⟨rfl, rfl, rfl⟩); (case n => assumption); (case v => assumption)))

section
open PySem PySem.W PyProof.Rows PySem.Calls PySem.Spec PyProof.V
namespace Mine



abbrev twelve : List Str := [Str.ofString "", Str.ofString ".", Str.ofString ".b-1", Str.ofString ".b-15", Str.ofString "C", Str.ofString "C.", Str.ofString "C.b-1", Str.ofString "C.b-15", Str.ofString "ab", Str.ofString "ab.", Str.ofString "ab.b-1", Str.ofString "ab.b-15"]
theorem twelve_eq : List.flatMap (fun o1 => List.map (loc o1) [none, some (Str.ofString ""), some (Str.ofString "b-1"), some (Str.ofString "b-15")]) [some (Str.ofString ""), none, some (Str.ofString "ab")] = twelve := by decide +kernel
theorem twelve_ok : ∀ d ∈ twelve.map Dat.str, kqdOk 8 d = true := by
  intro d hd
  obtain ⟨x, hx, rfl⟩ := List.mem_map.mp hd
  have key : ∀ x ∈ twelve, PyData.strOk x = true := by decide +kernel
  exact key x hx
theorem ints_take {us : List Value} {xs : List Int} (h : IntsAre us xs) (n : Nat) : IntsAre (us.take n) (xs.take n) := by
  induction h generalizing n with
  | nil => simp; exact .nil
  | cons => rename_i ih; cases n with
    | zero => exact .nil
    | succ n => exact .cons _ _ (ih n)
theorem ints_item {us : List Value} {xs : List Int} (h : IntsAre us xs) : ∀ {i : Nat} {v : Value}, us[i]? = some v → ∃ c t, v = Value.int c t ∧ c ∈ xs := by
  induction h with
  | nil => intro i v e; simp at e
  | cons => 
    rename_i ih
    intro i v e
    cases i with
    | zero => simp at e; exact ⟨_, _, e.symm, List.mem_cons_self⟩
    | succ i => simp at e; obtain ⟨c, t, e1, e2⟩ := ih e; exact ⟨c, t, e1, List.mem_cons_of_mem _ e2⟩
theorem seq_some (k n : Nat) (h : k < n) : seqIndex? (k : Int) n = some k := by
  unfold seqIndex?
  have h0 : ¬ ((k : Int) < 0) := by omega
  simp only [h0, if_false]
  have h1 : (decide (0 ≤ (k : Int)) && decide ((k : Int) < (n : Int))) = true := by simp; omega
  rw [if_pos h1]; simp
theorem cut_some : ∀ (l : List Value) (k : Nat) (h : k < l.length), kl_cut l k = some (l.take k, l[k], l.drop (k + 1))
  | [], k, h => by simp at h
  | x :: r, 0, _ => rfl
  | x :: r, k + 1, h => by
    have ih := cut_some r k (by simpa using h)
    simp [kl_cut, ih]

structure PC where
  us : List Value
  n : Nat
  xs : List Str

inductive OddIs (h : Heap) : Value → Prop
  | c0 {a : Addr} {x : Value} : IsTup h a #[x] → OddIs h (.ref a)
  | c1 {a : Addr} {x y z : Value} : IsTup h a #[x, y, z] → OddIs h (.ref a)
  | c2 : OddIs h .none
  | c3 {a : Addr} {t u : Tok} : IsTup h a #[.str (Str.ofString "a") t, .int 7 u] → OddIs h (.ref a)
  | c4 {a : Addr} {t u : Tok} : IsTup h a #[.int 7 t, .str (Str.ofString "b") u] → OddIs h (.ref a)
  | c5 {a la : Addr} {t u : Tok} : IsTup h a #[.str (Str.ofString "a") t, .ref la] → h.IsList la #[.str (Str.ofString "b") u] → OddIs h (.ref a)

theorem cut {α : Type} {M : Model} {A : Around} {m : Sem α} {Q Q' : α → Shared → Prop} {E : Value → Shared → Prop} {s : Shared} (h : wpAny M A m Q E s) (hQ : ∀ a s', Q a s' → Q' a s') : wpAny M A m Q' E s := wpAny_mono h hQ (fun _ _ e => e)
theorem odd_ctr {w : World} {base : Heap} {mean : ExcName → Option Value} {mg mb : Str → Option Value} (XB : (Mine.hd.heap_39 w.params).In base) (TB : Top Mine.hd.view_39 (looseW Mine.hd.view_39 []) mean mg mb base) (v : Value) :
    CtrS w base 28 [v] 1 100 (fun h => OddIs h v) "TypeError" due := by
  intro dp un gd envs s R B KD hd hu hpre hret
  have hpre : OddIs s.heap v := hpre
  cases hpre with
  | c0 h => exact odd0 XB TB _ _ dp un gd envs s R B KD hd hu h hret
  | c1 h => exact odd1 XB TB _ _ _ _ dp un gd envs s R B KD hd hu h hret
  | c2 => exact odd2 XB TB dp un gd envs s R B KD hd hu trivial hret
  | c3 h => exact odd3 XB TB _ _ _ dp un gd envs s R B KD hd hu h hret
  | c4 h => exact odd4 XB TB _ _ _ dp un gd envs s R B KD hd hu h hret
  | c5 h h' => exact odd5 XB TB _ _ _ _ dp un gd envs s R B KD hd hu ⟨h, h'⟩ hret

theorem got_exc {h₀ h : Heap} {L e t : Addr} {X : String} {vs : List Value} {n : List (Addr × Obj)} (N : News h₀ L h n) (G : Got n e t (.type X) vs) : h.ExcAt e X (.ref t) ∧ h.TupAt t vs := by
  obtain ⟨oe, ot, ws, nt, m1, m2, c1, d1, f1, c2, d2⟩ := G
  exact ⟨⟨oe, ws, (N _ m1).1, c1, d1, f1⟩, ⟨ot, nt, (N _ m2).1, c2, d2⟩⟩
theorem use_errS {w : World} {base g : Heap} {f : Addr} {args : List Value} {d u : Nat} {Pre : Heap → Prop} {cls : String} {words : Str} {dp un : Nat} {gd : Option (List Code)} {envs : List Env} {env : Env} {L : Addr} {m : Str → Option Value} {s : Shared} {Q E : Value → Shared → Prop}
    (C : CtrS w base f args d u Pre cls words) (B : Below (AA dp un gd envs) base envs g) (D : KtsDicts (frs envs) g) (F : Fr g L s.heap m) (hf : env.frame = some L) (hk : env.scope.kind = .function) (hd : dp + 1 + d < recursionLimit) (hu : un + 3 + u < cLine) (hp : Pre s.heap)
    (h : ∀ e t u h' tk', RaisedS base s.heap (env :: envs) e (.type cls) t [.str words u] [] h' → s.heap.UpToSlots h' → E (.ref e) { s with heap := h', toks := tk' }) :
    wpAny (model PySem.Challenge.rw_pk0041_01.row.prog w) ((AA dp un gd envs).deeper env) (call (.ref f) args) Q E s := by
  refine wpAny_call (C (dp + 1) (un + 3) gd (env :: envs) s _ (pushX B F hf hk) (kd_push D F hf) hd hu hp fun e t u h' tk' r1 r2 => ?_)
  exact h e t u h' tk' r1 r2


theorem names_ctr {w : World} {base : Heap} {mean : ExcName → Option Value} {mg mb : Str → Option Value} (XB : (Mine.hd.heap_39 w.params).In base) (TB : Top Mine.hd.view_39 (looseW Mine.hd.view_39 []) mean mg mb base)
  (lc : Addr) (uc : List Value) (cs : List Int) (huc : IntsAre uc cs) (hcl : cs.length = 10) (hc0 : ∀ c ∈ cs, 0 ≤ c) (size : Int) (ts : Tok) (hs : size = 3 ∨ size = 5 ∨ size = 7) :
  CtrX w base 45 [.ref lc, .int size ts] 5 600 (fun h => h.IsList lc uc.toArray) (fun h h' v => ∃ D us n ns, v = .ref D ∧ h.get? D = none ∧ h'.get? D = some (W.listOf us.toArray n) ∧ StrsAre us ns ∧ ns.Sublist twelve ∧ (ns.length : Int) = size) := by
  unfold CtrX
  revert XB
  k_fill
  intro XB dp un gd envs s R B KD hd hu hpre hret
  refine' enterP (binds := [(Str.ofString "cells", .ref lc), (Str.ofString "size", .int size ts)]) B XB TB ?k6 ?k7 ?k8 ?k9 ?kB ?_ ?c2 ?c3 ?c4 ?c5
  case k6 => k_is
  case k7 => k_is
  case k8 => exact Nat.lt_of_le_of_lt (Nat.le_add_right _ _) hd
  case k9 => exact BindsTo.of_eq rfl
  case kB => exact locs rfl
  case c2 => exact rfl
  case c3 => exact rfl
  case c4 => exact rfl
  case c5 => decide
  intro L h₁ hL F N X T
  refine wpAny_noRaise ?_
  replace hpre : s.heap.IsList lc uc.toArray := hpre
  refine wpAny_execs_cons ?_
  refine (cut (Q := fun f s' => f = .next ∧ ∃ h' tk' v, s' = { s with heap := h', toks := tk' } ∧ Fr s.heap L h' (fun y => if y = Str.ofString "odd" then some v else mp [(Str.ofString "cells", .ref lc), (Str.ofString "size", .int size ts)].reverse y) ∧ OddIs h' v) ?first ?_)
  case first =>
    walk_at "go"
    all_goals (rename Fr _ _ _ _ => F2)
    all_goals (rename News _ _ _ _ => N2)
    · exact ⟨trivial, _, _, _, rfl, F2, .c5 (News.isTup N2 (by k_mem)) (News.isList N2 (by k_mem))⟩
    · exact ⟨trivial, _, _, _, rfl, F2, .c4 (News.isTup N2 (by k_mem))⟩
    · exact ⟨trivial, _, _, _, rfl, F2, .c3 (News.isTup N2 (by k_mem))⟩
    · exact ⟨trivial, _, _, _, rfl, F2, .c2⟩
    · exact ⟨trivial, _, _, _, rfl, F2, .c1 (News.isTup N2 (by k_mem))⟩
    · exact ⟨trivial, _, _, _, rfl, F2, .c0 (News.isTup N2 (by k_mem))⟩
  rintro f s' ⟨rfl, h2, tk2, ov, rfl, F2, hov⟩
  clear F N
  walk_at "go"
  refine ⟨X.keeps F2.keep, ?_⟩
  refine use_errS (odd_ctr XB TB ov) B KD F2 rfl rfl (by omega) (by omega) hov (fun e t u h7 tk7 R7 U7 => ?_)
  walk_at "go"
  rename Got _ _ _ _ _ => G8
  rename News _ _ _ _ => N8
  rename News _ _ _ _ => N9
  obtain ⟨ge, gt⟩ := got_exc (by assumption) G8
  refine PySem.P.str_of_exc_one PySem.F.excStr_TypeError (show un + 3 + 2 < cLine by omega) ge gt ?_
  walk_at "go"
  rename Fr _ _ _ _ => F10
  rename News _ _ _ _ => N10
  rename KtsTurn _ _ _ => T10
  rename Below _ _ _ _ => B10
  rename KtsDicts _ _ => D10
  rename Frag.In _ _ => X10
  refine two_Assign (cl := []) (xs1 := [some (Str.ofString ""), none, some (Str.ofString "ab")]) (xs2 := [none, some (Str.ofString ""), some (Str.ofString "b-1"), some (Str.ofString "b-15")]) (f := loc) F10 rfl ?sw ?clos ?hcell ?hkind ?hnames ?hx1 ?hx2 ?hne ?hy ?hp ?hs ?hfold ?hsz ?hsz2 ?H ?HS ?h1 ?fin
  case sw => with_unfolding_all rfl
  case clos => with_unfolding_all rfl
  case hcell => decide
  case hkind => rfl
  case hnames => decide
  case hx1 => rfl
  case hx2 => rfl
  case hne => decide
  case hy => rfl
  case hp => rfl
  case hs => intro _; rfl
  case hfold => intro _ _; rfl
  case hsz => decide
  case hsz2 => decide
  case H =>
    intro s3 F3 C h tk o1 o2 t1 t2 m E' hCn st hC h1 h2 ho1 ho2
    have F4 := F3.keeps st
    have z1 : ∀ z, o1 = some z → z.length ≤ 100 := by
      intro z hz; subst hz
      simp only [List.mem_cons, Option.some.injEq, reduceCtorEq, false_or, List.not_mem_nil, or_false] at ho1
      rcases ho1 with rfl | rfl <;> decide +kernel
    have z2 : ∀ z, o2 = some z → z.length ≤ 100 := by
      intro z hz; subst hz
      simp only [List.mem_cons, Option.some.injEq, reduceCtorEq, false_or, List.not_mem_nil, or_false] at ho2
      rcases ho2 with rfl | rfl | rfl <;> decide +kernel
    walk_at "go"
    refine wpAny_newList ?_ (by show 2 ≤ sizeLine; rw [sizeLine_eq]; decide)
    have F5 : Fr _ _ _ _ := F4.push { cls := .type "list", data := .seq [osv o1 t1, osv o2 t2].toArray }
    walk_at "go"
    refine ⟨X10.keeps F5.keep, use_ctr (loc_ctr XB TB _ o1 o2 t1 t2 z1 z2) B10 F5 News.nil rfl rfl (by omega) (by omega) ⟨_, Heap.get?_push_size _ rfl, rfl, _, rfl⟩ (fun v6 h6 tk6 k6 F6 N6 p6 => ?_)⟩
    obtain ⟨t6, rfl⟩ := p6
    have hup : h.StaysIn h6 := fun b o e => k6 b o (Heap.get?_push_of_some _ e)
    exact ⟨h6, tk6, t6, rfl, hup, rfl⟩
  case HS =>
    intro s3 F3 C h tk E' st
    have F4 := F3.keeps st
    walk_at "go"
    refine wpAny_newList ?_ (by show 4 ≤ sizeLine; rw [sizeLine_eq]; decide)
    exact ⟨_, _, _, _, rfl, fun b o e => Heap.get?_push_of_some _ e, rfl, Heap.get?_none_of_le (Nat.le_refl _), ⟨_, Heap.get?_push_size _ rfl, rfl, _, rfl⟩, .cons none 0 (.cons (some (Str.ofString "")) _ (.cons (some (Str.ofString "b-1")) _ (.cons (some (Str.ofString "b-15")) _ .nil)))⟩
  case h1 =>
    intro s3 F3
    walk_at "go"
    refine wpAny_newList ?_ (by show 3 ≤ sizeLine; rw [sizeLine_eq]; decide)
    exact ⟨_, _, _, _, rfl, fun b o e => Heap.get?_push_of_some _ e, rfl, ⟨_, Heap.get?_push_size _ rfl, rfl, _, rfl⟩, .cons (some (Str.ofString "")) _ (.cons none 0 (.cons (some (Str.ofString "ab")) _ .nil))⟩
  case fin =>
    intro D h11 tk11 c11 us11 F11 N11 hus11
    rw [twelve_eq] at hus11
    walk_at "go"
    rename Fr _ _ _ _ => F12
    rename News _ _ _ _ => N12
    refine ne_same (n₁ := []) (n₂ := []) (ds := twelve.map Dat.str) N12 (List.mem_cons_of_mem _ List.mem_cons_self) rfl rfl (strsDat hus11) (fun _ h => absurd h List.not_mem_nil) List.mem_cons_self rfl rfl
      (strsDat (.cons _ _ (.cons _ _ (.cons _ _ (.cons _ _ (.cons _ _ (.cons _ _ (.cons _ _ (.cons _ _ (.cons _ _ (.cons _ _ (.cons _ _ (.cons _ _ .nil))))))))))))) (fun _ h => absurd h List.not_mem_nil) twelve_ok (show un + 3 + 64 < cLine by omega) ?_
    walk_at "go"
    rename Fr _ _ _ _ => F13
    rename News _ _ _ _ => N13
    refine For_turns F13 ?_
    walk_at "go"
    rename Fr _ _ _ _ => F14
    rename News _ _ _ _ => N14
    have lc14 := turn_list T10 KD hpre
    have hucl : uc.length = 10 := by rw [huc.length]; exact hcl
    refine kmk_slice F14 N14 (its := uc.toArray) (lc14.at fun o e => F14.keep lc o e) .none (.int _ _) (fun D15 h15 F15 N15 l15 => ?_) (by with_unfolding_all rfl) (by intro _; with_unfolding_all rfl) (by rw [List.size_toArray, sizeLine_eq, hucl]; decide)
    rw [slice_take uc (show 0 ≤ 12 - size by omega)] at N15
    walk_at "go"
    have hDD : @LT.lt Nat _ D D15 := l15 (D, W.listOf us11.toArray c11) (by simp)
    have N16 : News _ _ _ ((D15, W.listOf (uc.take (12 - size).toNat).toArray 0) :: [(D, W.listOf us11.toArray c11)]) := cb_drop N15 (by ((repeat (refine List.forall_mem_cons.mpr ⟨?_, ?_⟩; focus (first | ((repeat (with_reducible first | exact List.mem_cons_self | refine List.mem_cons_of_mem _ ?_ | refine List.mem_append_right _ ?_)); done) | k_mem))); first | exact List.forall_mem_nil _ | (intro p hp; repeat (with_reducible first | exact hp | exact List.mem_append_left _ hp | exact List.mem_append_left _ (List.mem_append_left _ hp) | exact List.mem_append_left _ (List.mem_append_right _ hp) | refine List.mem_cons_of_mem _ ?_ | refine List.mem_append_right _ ?_))))
    obtain ⟨k16, hk16⟩ : ∃ k : Nat, k = (12 - size).toNat := ⟨_, rfl⟩
    have hk9 : k16 ≤ 9 ∧ (k16 : Int) = 12 - size := by omega
    rw [← hk16] at N16
    have hta : IntsAre (uc.take k16) (cs.take k16) := ints_take huc k16
    refine' kstt_ledger (σ := PC) (n := 0) (lo := W.listOf (uc.take k16).toArray 0) (vs := uc.take k16) (fun c => (D15, W.listOf (uc.take k16).toArray 0) :: [(D, W.listOf c.us.toArray c.n)]) (fun _ => []) (fun c => StrsAre c.us c.xs ∧ c.xs.Sublist twelve) [Str.ofString "cell"] (fun i c => c.xs.length + i = 12) ⟨us11, c11, twelve⟩ rfl (fun _ => List.mem_cons_self) rfl rfl F15 N16 ⟨hus11, List.Sublist.refl _⟩ (List.forall_mem_nil _) rfl ?turn ?done
    case turn =>
      rintro ⟨us5, n5, xs5⟩ i v u h tk5 own hi hv hoff ⟨hf1, hf2⟩ hp F5 N5
      dsimp only [envOf] at F5 N5 hf1 hf2 hp
      dsimp only [List.cons_append, List.nil_append] at N5
      have hi9 : i < 9 := by rw [List.length_take] at hi; omega
      obtain ⟨c, tc, rfl, hci⟩ : ∃ c t, v = Value.int c t ∧ c ∈ cs := by
        obtain ⟨c, t, e, hm⟩ := ints_item hta hv
        exact ⟨c, t, e, List.mem_of_mem_take hm⟩
      have hc1 := hc0 c hci
      have hul : us5.length = xs5.length := hf1.length
      have hlp : 0 < (us5.length : Int) := by omega
      have hm1 : 0 ≤ c.fmod us5.length := Int.fmod_nonneg_of_pos _ hlp
      have hm2 : c.fmod us5.length < us5.length := Int.fmod_lt_of_pos _ hlp
      walk_at "go"
      rename Fr _ _ _ _ => F6
      rename News _ _ _ _ => N6
      replace hf1 : StrsAre us5 xs5 := by assumption
      have hm3 : 0 ≤ c.fmod xs5.length := Int.fmod_nonneg_of_pos _ (by omega)
      have hm4 : c.fmod xs5.length < xs5.length := Int.fmod_lt_of_pos _ (by omega)
      obtain ⟨kk, hkk⟩ : ∃ k : Nat, (k : Int) = c.fmod xs5.length := ⟨(c.fmod xs5.length).toNat, by omega⟩
      have hkl : kk < us5.length := by omega
      refine kl_popAt (k := kk) (p := us5.take kk) (q := us5.drop (kk + 1)) (y := us5[kk]) (its := us5.toArray) F6 N6 ?_ ?_ ?_ (.tail ?_ (.head ?_)) ?_ (fun h7 F7 N7 => ?_)
      · exact fitsIndex_both (by omega) (by omega)
      · rw [← hkk]
        exact seq_some kk _ (by rw [List.size_toArray]; exact hkl)
      · exact cut_some us5 kk hkl
      · exact Nat.ne_of_gt hDD
      · exact fun p hp => hoff p hp D (by simp)
      · show us5.length ≤ sizeLine
        rw [sizeLine_eq]; omega
      walk_at "go"
      have hfin : StrsAre (us5.take kk ++ us5.drop (kk + 1)) (xs5.take kk ++ xs5.drop (kk + 1)) ∧ (xs5.take kk ++ xs5.drop (kk + 1)).Sublist twelve := by
        refine ⟨strs_append (strs_take hf1 _) (strs_drop hf1 _), ?_⟩
        rw [← List.eraseIdx_eq_take_drop_succ]
        exact (List.eraseIdx_sublist ..).trans hf2
      have hlen : (xs5.take kk ++ xs5.drop (kk + 1)).length + (i + 1) = 12 := by
        rw [List.length_append, List.length_take, List.length_drop]; omega
      rename Fr _ _ _ _ => F8
      rename News _ _ _ _ => N8
      refine' kstt_end (σ := PC) ⟨us5.take kk ++ us5.drop (kk + 1), n5 + 1, xs5.take kk ++ xs5.drop (kk + 1)⟩ F8 N8 ?_ ?_ rfl hfin (List.forall_mem_nil _) ?_ hlen
      · intro p hp
        simp only [List.mem_cons, List.not_mem_nil, or_false] at hp ⊢
        rcases hp with h | h <;> simp [h]
      · intro p hp
        simp only [List.mem_cons]
        simp [hp]
      · intro z h1 h2
        simp only [List.contains_cons, List.contains_nil, Bool.or_false, beq_eq_false_iff_ne, ne_eq] at h2
        simp only [kstB, h2, if_false, List.contains_cons, List.contains_nil, Bool.or_false, beq_iff_eq]
    case done =>
      rintro ⟨us5, n5, xs5⟩ u h tk5 ⟨hf1, hf2⟩ hp F5 N5
      dsimp only [envOf] at F5 N5 hf1 hf2 hp
      walk_at "go"
      rename Fr _ _ _ _ => F6
      rename News _ _ _ _ => N6
      refine ⟨X10.keeps F6.keep, use_ctr (loc7_ctr XB TB _ _) B10 F6 N6 rfl rfl (by omega) (by omega) (News.isTup N6 (by k_mem)) (fun v7 h7 tk7 k7 F7 N7 p7 => ?_)⟩
      obtain ⟨t7, rfl⟩ := p7
      walk_at "go"
      rename Fr _ _ _ _ => F8
      rename News _ _ _ _ => N8
      have hD8 := N8 (D, W.listOf us5.toArray n5) (by simp)
      refine hret _ _ _ (Ext.ofTurn T10 F8.keep) ⟨D, us5, n5, xs5, rfl, ?_, hD8.1, hf1, hf2, ?_⟩
      · cases q : s.heap.get? D with
        | none => rfl
        | some o =>
          obtain ⟨sl, hsl⟩ := T10.up q
          rw [hD8.2.2] at hsl; cases hsl
      · rw [List.length_take] at hp; omega
end Mine
end

section
open PySem PySem.W PyProof.Rows PySem.Calls PySem.Spec PyProof.V
namespace Mine
noncomputable def wrt (d : Int) (v : Str) : Str := if d = 2 ∧ v.length ≠ 0 then v else Str.ofString "\"" ++ v ++ Str.ofString "\""
theorem os_nil : Str.ofString "" = ⟨#[]⟩ := by rfl
theorem os_sp : Str.ofString " " = ⟨#[32]⟩ := by rfl
theorem os_sp2 : Str.ofString "  " = ⟨#[32, 32]⟩ := by rfl
theorem os_tab : Str.ofString "\t" = ⟨#[9]⟩ := by rfl
theorem os_q : Str.ofString "\"" = ⟨#[34]⟩ := by rfl
theorem os_eq : Str.ofString "=" = ⟨#[61]⟩ := by rfl
theorem os_co : Str.ofString "," = ⟨#[44]⟩ := by rfl
noncomputable def twelveC : List Str := [⟨#[]⟩, ⟨#[46]⟩, ⟨#[46, 98, 45, 49]⟩, ⟨#[46, 98, 45, 49, 53]⟩, ⟨#[67]⟩, ⟨#[67, 46]⟩, ⟨#[67, 46, 98, 45, 49]⟩, ⟨#[67, 46, 98, 45, 49, 53]⟩, ⟨#[97, 98]⟩, ⟨#[97, 98, 46]⟩, ⟨#[97, 98, 46, 98, 45, 49]⟩, ⟨#[97, 98, 46, 98, 45, 49, 53]⟩]
theorem twelve_C : twelve = twelveC := by rfl
noncomputable def leadC (d : Int) : Str := if d = 0 then ⟨#[32]⟩ else if d = 1 then ⟨#[9]⟩ else ⟨#[]⟩
noncomputable def trailC (d : Int) : Str := if d = 0 then ⟨#[]⟩ else if d = 1 then ⟨#[32]⟩ else ⟨#[32, 32]⟩
noncomputable def wrapC (d : Int) (v : Str) : Str := if d = 1 then ⟨#[34]⟩ ++ esc v ++ ⟨#[34]⟩ else if d = 2 ∧ v.length ≠ 0 then v else ⟨#[34]⟩ ++ v ++ ⟨#[34]⟩
noncomputable def wrtC (d : Int) (v : Str) : Str := if d = 2 ∧ v.length ≠ 0 then v else ⟨#[34]⟩ ++ v ++ ⟨#[34]⟩
noncomputable def kvC (p : Str × Str) : Str := p.1 ++ ⟨#[61]⟩ ++ p.2
noncomputable def pieceC (d : Int) (p : Str × Str) : Str := leadC d ++ p.1 ++ ⟨#[61]⟩ ++ wrapC d p.2 ++ trailC d
theorem lead_C (d : Int) : lead d = leadC d := by unfold lead leadC; rw [os_sp, os_tab, os_nil]
theorem trail_C (d : Int) : trail d = trailC d := by unfold trail trailC; rw [os_sp, os_sp2, os_nil]
theorem wrap_C (d : Int) (v : Str) : wrap d v = wrapC d v := by unfold wrap wrapC; rw [os_q]
theorem wrt_C (d : Int) (v : Str) : wrt d v = wrtC d v := by unfold wrt wrtC; rw [os_q]
theorem kv_C (p : Str × Str) : kv p = kvC p := by unfold kv kvC; rw [os_eq]
theorem piece_C (d : Int) (p : Str × Str) : piece d p = pieceC d p := by unfold piece pieceC; rw [os_eq, lead_C, wrap_C, trail_C]
theorem codes_append (a b : Str) : KStt.codes (a ++ b) = KStt.codes a ++ KStt.codes b := by
  unfold KStt.codes; rw [Str.cps_append]; simp
theorem res_grows : ∀ (c : List Int) (st : List Str × Str × Bool × Bool), ∃ l, (c.foldl hstep st).1 = st.1 ++ l
  | [], st => ⟨[], (List.append_nil _).symm⟩
  | n :: c, st => by
    obtain ⟨l, hl⟩ := res_grows c (hstep st n)
    obtain ⟨r, p, e, q⟩ := st
    have h1 : ∃ k, (hstep (r, p, e, q) n).1 = r ++ k := by
      unfold hstep
      dsimp only
      split
      · exact ⟨[], (List.append_nil _).symm⟩
      split
      · split <;> exact ⟨[], (List.append_nil _).symm⟩
      split
      · exact ⟨[p], rfl⟩
      · exact ⟨[], (List.append_nil _).symm⟩
    obtain ⟨k, hk⟩ := h1
    exact ⟨k ++ l, by rw [List.foldl_cons, hl, hk, List.append_assoc]⟩
theorem hshift (p : Str) : ∀ (c : List Int) (P0 P : Str) (e q e' q' : Bool), c.foldl hstep ([], P0, e, q) = ([], P, e', q') → c.foldl hstep ([], p ++ P0, e, q) = ([], p ++ P, e', q')
  | [], P0, P, e, q, e', q', h => by cases h; rfl
  | n :: c, P0, P, e, q, e', q', h => by
    rw [List.foldl_cons] at h ⊢
    have hh := hshift p c
    unfold hstep at h ⊢
    dsimp only at h ⊢
    by_cases e1 : e = true
    · rw [if_pos e1] at h ⊢
      rw [Str.append_assoc]
      exact hh _ _ _ _ _ _ h
    · rw [if_neg e1] at h ⊢
      by_cases q1 : q = true
      · rw [if_pos q1] at h ⊢
        by_cases n1 : n = 92
        · rw [if_pos n1] at h ⊢
          exact hh _ _ _ _ _ _ h
        · rw [if_neg n1] at h ⊢
          rw [Str.append_assoc]
          exact hh _ _ _ _ _ _ h
      · rw [if_neg q1] at h ⊢
        by_cases n1 : n = 44
        · rw [if_pos n1] at h
          obtain ⟨l, hl⟩ := res_grows c ([] ++ [P0], Str.ofString "", false, false)
          rw [show c.foldl hstep ([] ++ [P0], Str.ofString "", false, false) = ([], P, e', q') from h] at hl
          exact absurd hl (by simp)
        · rw [if_neg n1] at h ⊢
          rw [Str.append_assoc]
          exact hh _ _ _ _ _ _ h
theorem strip_mid {a m b : Str} (ha : ∀ c ∈ a.cps.toList, Unicode.isSpace c = true) (hb : ∀ c ∈ b.cps.toList, Unicode.isSpace c = true) (hm : ∀ c ∈ m.cps.toList, Unicode.isSpace c = false) (hn : m.cps.toList ≠ []) : Txt.strip (a ++ m ++ b) = m := by
  have hl : (a ++ m ++ b).cps.toList = a.cps.toList ++ (m.cps.toList ++ b.cps.toList) := by
    rw [Str.cps_append, Str.cps_append, Array.toList_append, Array.toList_append, List.append_assoc]
  have tw : ∀ (l r : List Nat), l ≠ [] → (∀ c ∈ l, Unicode.isSpace c = false) → (l ++ r).takeWhile Unicode.isSpace = [] := by
    intro l r h1 h2
    cases l with
    | nil => exact absurd rfl h1
    | cons c l => rw [List.cons_append, List.takeWhile_cons, h2 c List.mem_cons_self]; rfl
  have lo : stripLo Unicode.isSpace true (a ++ m ++ b) = a.cps.toList.length := by
    simp only [stripLo, if_true]
    rw [hl, List.takeWhile_append_of_pos ha, tw _ _ hn hm, List.append_nil]
  have len : (a ++ m ++ b).length = a.cps.toList.length + m.cps.toList.length + b.cps.toList.length := by
    rw [Str.length_append, Str.length_append]; rfl
  have hi : stripHi Unicode.isSpace true (a ++ m ++ b) a.cps.toList.length = a.cps.toList.length + m.cps.toList.length := by
    simp only [stripHi, if_true]
    rw [hl, List.drop_left, List.reverse_append, List.takeWhile_append_of_pos (fun c hc => hb c (List.mem_reverse.mp hc))]
    have := tw m.cps.toList.reverse [] (by simpa using hn) (fun c hc => hm c (List.mem_reverse.mp hc))
    rw [List.append_nil] at this
    rw [this, List.append_nil, List.length_reverse, len, Nat.add_sub_cancel]
  show Txt.stripBy Unicode.isSpace true true _ = _
  rw [PyProof.Rows.stripBy_eq, lo, hi]
  refine Str.ext' (Array.toList_inj.mp ?_)
  show ((a ++ m ++ b).cps.extract _ _).toList = _
  rw [Array.toList_extract, hl, List.extract_eq_take_drop, List.drop_left, Nat.add_sub_cancel_left, List.take_left]
theorem dcase {d : Int} (h : d ∈ [(0 : Int), 1, 2]) : d = 0 ∨ d = 1 ∨ d = 2 := by simpa using h
theorem not_tt {b : Bool} (h : (!b) = true) : b = false := by cases b; rfl; cases h
theorem app_nil (x : Str) : x ++ (⟨#[]⟩ : Str) = x := Str.ext' (by rw [Str.cps_append]; exact Array.append_empty)
theorem runP {d : Int} (hd : d ∈ [(0 : Int), 1, 2]) : (twelveC.all fun x => decide ((KStt.codes (leadC d ++ x ++ ⟨#[61]⟩)).foldl hstep ([], ⟨#[]⟩, false, false) = ([], leadC d ++ x ++ ⟨#[61]⟩, false, false))) = true := by
  rcases dcase hd with rfl | rfl | rfl <;> decide +kernel
theorem runW {d : Int} (hd : d ∈ [(0 : Int), 1, 2]) : (twelveC.all fun y => decide ((KStt.codes (wrapC d y ++ trailC d)).foldl hstep ([], ⟨#[]⟩, false, false) = ([], wrtC d y ++ trailC d, false, false))) = true := by
  rcases dcase hd with rfl | rfl | rfl <;> decide +kernel
theorem runC {x y : Str} {d : Int} (hx : x ∈ twelveC) (hy : y ∈ twelveC) (hd : d ∈ [(0 : Int), 1, 2]) : (KStt.codes (pieceC d (x, y))).foldl hstep ([], ⟨#[]⟩, false, false) = ([], leadC d ++ kvC (x, wrtC d y) ++ trailC d, false, false) := by
  have e : pieceC d (x, y) = (leadC d ++ x ++ ⟨#[61]⟩) ++ (wrapC d y ++ trailC d) := by unfold pieceC; rw [Str.append_assoc (leadC d ++ x ++ ⟨#[61]⟩)]
  have h1 := of_decide_eq_true (List.all_eq_true.mp (runP hd) x hx)
  have h2 := hshift (leadC d ++ x ++ ⟨#[61]⟩) _ _ _ _ _ _ _ (of_decide_eq_true (List.all_eq_true.mp (runW hd) y hy))
  rw [app_nil] at h2
  rw [e, codes_append, List.foldl_append, h1, h2]
  unfold kvC
  simp only [Str.append_assoc]
theorem leadS {d : Int} (hd : d ∈ [(0 : Int), 1, 2]) : ((leadC d).cps.toList.all fun c => Unicode.isSpace c) = true := by
  rcases dcase hd with rfl | rfl | rfl <;> decide +kernel
theorem trailS {d : Int} (hd : d ∈ [(0 : Int), 1, 2]) : ((trailC d).cps.toList.all fun c => Unicode.isSpace c) = true := by
  rcases dcase hd with rfl | rfl | rfl <;> decide +kernel
theorem keyS : (twelveC.all fun x => x.cps.toList.all fun c => !Unicode.isSpace c) = true := by decide +kernel
theorem wrtS {d : Int} (hd : d ∈ [(0 : Int), 1, 2]) : (twelveC.all fun y => (wrtC d y).cps.toList.all fun c => !Unicode.isSpace c) = true := by
  rcases dcase hd with rfl | rfl | rfl <;> decide +kernel
theorem eqS : Unicode.isSpace 61 = false := by decide +kernel
theorem stripC {x y : Str} {d : Int} (hx : x ∈ twelveC) (hy : y ∈ twelveC) (hd : d ∈ [(0 : Int), 1, 2]) : Txt.strip (leadC d ++ kvC (x, wrtC d y) ++ trailC d) = kvC (x, wrtC d y) := by
  have hl : (kvC (x, wrtC d y)).cps.toList = x.cps.toList ++ (61 :: (wrtC d y).cps.toList) := by
    unfold kvC
    rw [Str.cps_append, Str.cps_append, Array.toList_append, Array.toList_append, List.append_assoc]; rfl
  refine strip_mid (fun c hc => List.all_eq_true.mp (leadS hd) c hc) (fun c hc => List.all_eq_true.mp (trailS hd) c hc) (fun c hc => ?_) ?_
  · rw [hl] at hc
    rcases List.mem_append.mp hc with hc | hc
    · exact not_tt (List.all_eq_true.mp (List.all_eq_true.mp keyS x hx) c hc)
    · rcases List.mem_cons.mp hc with rfl | hc
      · exact eqS
      · exact not_tt (List.all_eq_true.mp (List.all_eq_true.mp (wrtS hd) y hy) c hc)
  · rw [hl]; simp
noncomputable def unqC (v : Str) : Str := if (Txt.item v 0 == ⟨#[34]⟩) && (Txt.item v (-1) == ⟨#[34]⟩) then Txt.slice v (some 1) (some (-1)) else v
theorem unq_C (v : Str) : unq v = unqC v := by unfold unq unqC; rw [os_q]
theorem uB0 : (twelveC.all fun y => decide (unqC (wrtC 0 y) = y)) = true := by decide +kernel
theorem uB1 : (twelveC.all fun y => decide (unqC (wrtC 1 y) = y)) = true := by decide +kernel
theorem uB2 : (twelveC.all fun y => decide (unqC (wrtC 2 y) = y)) = true := by decide +kernel
theorem uC {y : Str} {d : Int} (hy : y ∈ twelveC) (hd : d ∈ [(0 : Int), 1, 2]) : unqC (wrtC d y) = y := by
  rcases dcase hd with rfl | rfl | rfl
  · exact of_decide_eq_true (List.all_eq_true.mp uB0 y hy)
  · exact of_decide_eq_true (List.all_eq_true.mp uB1 y hy)
  · exact of_decide_eq_true (List.all_eq_true.mp uB2 y hy)
theorem piece_run {x y : Str} {d : Int} (hx : x ∈ twelve) (hy : y ∈ twelve) (hd : d ∈ [(0 : Int), 1, 2]) : (KStt.codes (piece d (x, y))).foldl hstep ([], Str.ofString "", false, false) = ([], lead d ++ kv (x, wrt d y) ++ trail d, false, false) := by
  rw [twelve_C] at hx hy
  rw [piece_C, os_nil, lead_C, trail_C, kv_C, wrt_C]
  exact runC hx hy hd
theorem piece_strip {x y : Str} {d : Int} (hx : x ∈ twelve) (hy : y ∈ twelve) (hd : d ∈ [(0 : Int), 1, 2]) : Txt.strip (lead d ++ kv (x, wrt d y) ++ trail d) = kv (x, wrt d y) := by
  rw [twelve_C] at hx hy
  rw [lead_C, trail_C, kv_C, wrt_C]
  exact stripC hx hy hd
theorem unq_wrt {y : Str} {d : Int} (hy : y ∈ twelve) (hd : d ∈ [(0 : Int), 1, 2]) : unq (wrt d y) = y := by
  rw [twelve_C] at hy
  rw [unq_C, wrt_C]
  exact uC hy hd
end Mine
end

section
open PySem PySem.W PyProof.Rows PySem.Calls PySem.Spec PyProof.V
namespace Mine
theorem step_shift (res r0 : List Str) (p : Str) (e q : Bool) (n : Int) : hstep (res ++ r0, p, e, q) n = (res ++ (hstep (r0, p, e, q) n).1, (hstep (r0, p, e, q) n).2) := by
  unfold hstep
  dsimp only
  split
  · rfl
  split
  · split <;> rfl
  split
  · simp
  · rfl
theorem run_shift (res : List Str) : ∀ (l : List Int) (r0 : List Str) (p : Str) (e q : Bool), l.foldl hstep (res ++ r0, p, e, q) = (res ++ (l.foldl hstep (r0, p, e, q)).1, (l.foldl hstep (r0, p, e, q)).2)
  | [], r0, p, e, q => rfl
  | n :: l, r0, p, e, q => by
    rw [List.foldl_cons, List.foldl_cons, step_shift]
    obtain ⟨r1, p1, e1, q1⟩ := hstep (r0, p, e, q) n
    exact run_shift res l r1 p1 e1 q1
theorem run_one {p b : Str} (h : (KStt.codes p).foldl hstep ([], Str.ofString "", false, false) = ([], b, false, false)) (res : List Str) : (KStt.codes p).foldl hstep (res, Str.ofString "", false, false) = (res, b, false, false) := by
  have := run_shift res (KStt.codes p) [] (Str.ofString "") false false
  rw [h] at this
  simpa using this
theorem run_join (f g : Nat → Str) (h : ∀ i, (KStt.codes (f i)).foldl hstep ([], Str.ofString "", false, false) = ([], g i, false, false) ∧ (g i).length ≠ 0) :
    ∀ (l : List Nat) (res : List Str), l ≠ [] → hend ((KStt.codes (Str.join (Str.ofString ",") (l.map f))).foldl hstep (res, Str.ofString "", false, false)) = res ++ l.map g
  | [], _, hne => absurd rfl hne
  | [i], res, _ => by
    show hend ((KStt.codes (f i)).foldl hstep (res, Str.ofString "", false, false)) = _
    rw [run_one (h i).1]
    unfold hend
    rw [if_neg (h i).2]
    rfl
  | i :: j :: l, res, _ => by
    show hend ((KStt.codes (f i ++ Str.ofString "," ++ Str.join (Str.ofString ",") ((j :: l).map f))).foldl hstep (res, Str.ofString "", false, false)) = _
    rw [codes_append, codes_append, List.foldl_append, List.foldl_append, run_one (h i).1]
    have e : (KStt.codes (Str.ofString ",")).foldl hstep (res, g i, false, false) = (res ++ [g i], Str.ofString "", false, false) := by
      rw [os_co]; rfl
    rw [e, run_join f g h (j :: l) (res ++ [g i]) (by simp)]
    simp
theorem hparse_join (f g k : Nat → Str) (h : ∀ i, (KStt.codes (f i)).foldl hstep ([], Str.ofString "", false, false) = ([], g i, false, false) ∧ (g i).length ≠ 0) (hk : ∀ i, Txt.strip (g i) = k i) (l : List Nat) (hl : l ≠ []) :
    hparse (Str.join (Str.ofString ",") (l.map f)) = l.map k := by
  unfold hparse
  rw [run_join f g h l [] hl, List.nil_append, List.map_map]
  exact List.map_congr_left fun i _ => hk i

theorem tw_nil : Str.empty ∈ twelve := by rw [twelve_C]; exact List.mem_cons_self
theorem tw_getD {ns : List Str} (h : ∀ x ∈ ns, x ∈ twelve) (i : Nat) : ns.getD i Str.empty ∈ twelve := by
  rw [List.getD_eq_getElem?_getD]
  cases e : ns[i]? with
  | none => exact tw_nil
  | some x => exact h x (List.mem_of_getElem? e)
theorem told_tw {ns : List Str} {im : List Int} {draw : Int} (h : ∀ x ∈ ns, x ∈ twelve) (i : Nat) : ((toldOf ns im draw).getD i (Str.empty, Str.empty)).1 ∈ twelve ∧ ((toldOf ns im draw).getD i (Str.empty, Str.empty)).2 ∈ twelve := by
  rw [List.getD_eq_getElem?_getD]
  cases e : (toldOf ns im draw)[i]? with
  | none => exact ⟨tw_nil, tw_nil⟩
  | some p =>
    have hm := List.mem_of_getElem? e
    unfold toldOf at hm
    rcases List.mem_cons.mp hm with e | hm
    · subst e; exact ⟨tw_getD h _, tw_getD h _⟩
    · obtain ⟨j, _, e⟩ := List.mem_map.mp hm
      subst e
      exact ⟨tw_getD h _, tw_getD h _⟩
theorem mod3 (d : Int) : d.fmod 3 ∈ [(0 : Int), 1, 2] := by
  have q1 := Int.fmod_nonneg_of_pos d (show (0 : Int) < 3 by omega)
  have q2 := Int.fmod_lt_of_pos d (show (0 : Int) < 3 by omega)
  have : d.fmod 3 = 0 ∨ d.fmod 3 = 1 ∨ d.fmod 3 = 2 := by omega
  simpa using this
noncomputable def wsOf (ns : List Str) (im : List Int) (draw : Int) (i : Nat) : Str × Str := (((toldOf ns im draw).getD i (Str.empty, Str.empty)).1, wrt ((draw + (i : Int)).fmod 3) ((toldOf ns im draw).getD i (Str.empty, Str.empty)).2)
theorem kv_pos (p : Str × Str) : 1 ≤ (kv p).length := by
  unfold kv
  rw [Str.length_append, Str.length_append]
  have : (Str.ofString "=").length = 1 := by decide +kernel
  omega
theorem hparse_pieces {ns : List Str} {im : List Int} {draw : Int} (h : ∀ x ∈ ns, x ∈ twelve) (n : Nat) (hn : n ≠ 0) :
    hparse (Str.join (Str.ofString ",") (piecesOf (toldOf ns im draw) draw n)) = (List.range n).map fun i => kv (wsOf ns im draw i) := by
  unfold piecesOf
  refine hparse_join _ (fun i => lead ((draw + (i : Int)).fmod 3) ++ kv (wsOf ns im draw i) ++ trail ((draw + (i : Int)).fmod 3)) _ (fun i => ?_) (fun i => ?_) _ (by simpa using hn)
  · obtain ⟨hx, hy⟩ := told_tw (im := im) (draw := draw) h i
    refine ⟨piece_run hx hy (mod3 _), ?_⟩
    rw [Str.length_append, Str.length_append]
    have := kv_pos (wsOf ns im draw i)
    omega
  · obtain ⟨hx, hy⟩ := told_tw (im := im) (draw := draw) h i
    exact piece_strip hx hy (mod3 _)
end Mine
end

section
open PySem PySem.W PyProof.Rows PySem.Calls PySem.Spec PyProof.V
namespace Mine
theorem okB : (twelveC.all fun x => decide (x.cps.size ≤ 10) && x.cps.toList.all fun c => decide (c < 128) && (decide (c ≠ 34) && (decide (c ≠ 44) && (decide (c ≠ 61) && (decide (c ≠ 92) && decide (Unicode.isSpace c = false)))))) = true := by decide +kernel
theorem tw_ok {x : Str} (h : x ∈ twelve) : okName x := by
  rw [twelve_C] at h
  have := List.all_eq_true.mp okB x h
  simp only [Bool.and_eq_true, decide_eq_true_eq, List.all_eq_true] at this
  exact this
theorem tw_oks {ns : List Str} (h : ∀ x ∈ ns, x ∈ twelve) : ∀ x ∈ ns, okName x := fun x hx => tw_ok (h x hx)
theorem lead_len (d : Int) : (lead d).length ≤ 2 := by
  unfold lead
  split
  · decide +kernel
  split <;> decide +kernel
theorem trail_len (d : Int) : (trail d).length ≤ 2 := by
  unfold trail
  split
  · decide +kernel
  split <;> decide +kernel
theorem q_len : (Str.ofString "\"").length = 1 := by decide +kernel
theorem eq_len : (Str.ofString "=").length = 1 := by decide +kernel
theorem co_len : (Str.ofString ",").length = 1 := by decide +kernel
theorem wrap_len (d : Int) {y : Str} (h : y.length ≤ 10) : (wrap d y).length ≤ 22 := by
  unfold wrap
  split
  · rw [Str.length_append, Str.length_append, q_len]; have := esc_length y h; omega
  split
  · omega
  · rw [Str.length_append, Str.length_append, q_len]; omega
theorem wrt_len (d : Int) {y : Str} (h : y.length ≤ 10) : 1 ≤ (wrt d y).length ∧ (wrt d y).length ≤ 22 := by
  unfold wrt
  split
  · next h1 => omega
  · rw [Str.length_append, Str.length_append, q_len]; omega
theorem piece_len (d : Int) {x y : Str} (hx : x.length ≤ 10) (hy : y.length ≤ 10) : (piece d (x, y)).length ≤ 40 := by
  unfold piece
  rw [Str.length_append, Str.length_append, Str.length_append, Str.length_append, eq_len]
  have h1 := lead_len d
  have h2 := trail_len d
  have h3 := wrap_len d hy
  dsimp only
  omega
theorem sum_le {l : List Str} {n : Nat} (h : ∀ x ∈ l, x.length ≤ n) : (l.map (·.length)).sum ≤ n * l.length := by
  induction l with
  | nil => simp
  | cons a r ih =>
    have h1 := h a List.mem_cons_self
    have h2 := ih fun x hx => h x (List.mem_cons_of_mem _ hx)
    rw [List.map_cons, List.sum_cons, List.length_cons, Nat.mul_add]
    omega
theorem join_len (sep : Str) : ∀ l : List Str, (Str.join sep l).length ≤ (l.map (·.length)).sum + sep.length * l.length
  | [] => by show 0 ≤ _; omega
  | [x] => by show x.length ≤ x.length + 0 + _; omega
  | x :: y :: r => by
    show (x ++ sep ++ Str.join sep (y :: r)).length ≤ _
    rw [Str.length_append, Str.length_append]
    have := join_len sep (y :: r)
    simp only [List.map_cons, List.sum_cons, List.length_cons, Nat.mul_add] at this ⊢
    omega
theorem pieces_len {ns : List Str} {im : List Int} {draw : Int} (h : ∀ x ∈ ns, x ∈ twelve) (n : Nat) : ∀ p ∈ piecesOf (toldOf ns im draw) draw n, p.length ≤ 40 := by
  intro p hp
  unfold piecesOf at hp
  obtain ⟨i, _, rfl⟩ := List.mem_map.mp hp
  obtain ⟨hx, hy⟩ := told_tw (im := im) (draw := draw) h i
  exact piece_len _ (tw_ok hx).1 (tw_ok hy).1
theorem pieces_weight {ns : List Str} {im : List Int} {draw : Int} (h : ∀ x ∈ ns, x ∈ twelve) {n : Nat} (hn : n ≤ 100) : ((piecesOf (toldOf ns im draw) draw n).map (·.length)).sum + (piecesOf (toldOf ns im draw) draw n).length ≤ 1048576 := by
  have := sum_le (pieces_len (im := im) (draw := draw) h n)
  rw [piecesOf_length] at this ⊢
  omega
theorem pieces_join {ns : List Str} {im : List Int} {draw : Int} (h : ∀ x ∈ ns, x ∈ twelve) {n : Nat} (hn : n ≤ 100) : (Txt.join (Str.ofString ",") (piecesOf (toldOf ns im draw) draw n)).length ≤ 100000 := by
  have := sum_le (pieces_len (im := im) (draw := draw) h n)
  have h2 := join_len (Str.ofString ",") (piecesOf (toldOf ns im draw) draw n)
  rw [piecesOf_length] at this h2
  rw [show Txt.join (Str.ofString ",") (piecesOf (toldOf ns im draw) draw n) = Str.join (Str.ofString ",") (piecesOf (toldOf ns im draw) draw n) from PySem.StrLaws.glued_eq_join _ _]
  rw [co_len] at h2
  omega
theorem pieces_items {ns : List Str} {im : List Int} {draw : Int} (h : ∀ x ∈ ns, x ∈ twelve) {n : Nat} (hn : n ≠ 0) : hparse (Txt.join (Str.ofString ",") (piecesOf (toldOf ns im draw) draw n)) = (List.range n).map fun i => kv (wsOf ns im draw i) := by
  rw [show Txt.join (Str.ofString ",") (piecesOf (toldOf ns im draw) draw n) = Str.join (Str.ofString ",") (piecesOf (toldOf ns im draw) draw n) from PySem.StrLaws.glued_eq_join _ _]
  exact hparse_pieces h n hn
theorem ok_no61 {x : Str} (h : okName x) : 61 ∉ x.cps := by
  intro hm
  exact (h.2 61 (by simpa using hm)).2.2.2.1 rfl
theorem ws_ok {ns : List Str} {im : List Int} {draw : Int} (h : ∀ x ∈ ns, x ∈ twelve) (n : Nat) : ∀ p ∈ (List.range n).map (wsOf ns im draw), 61 ∉ p.1.cps ∧ 1 ≤ p.2.length ∧ p.1.length ≤ 1000 ∧ p.2.length ≤ 1000 := by
  intro p hp
  obtain ⟨i, _, rfl⟩ := List.mem_map.mp hp
  obtain ⟨hx, hy⟩ := told_tw (im := im) (draw := draw) h i
  unfold wsOf
  have h1 := (tw_ok hx).1
  have h2 := wrt_len ((draw + (i : Int)).fmod 3) (tw_ok hy).1
  exact ⟨ok_no61 (tw_ok hx), h2.1, Nat.le_trans h1 (by decide), Nat.le_trans h2.2 (by decide)⟩
theorem range_getD {α : Type} (d : α) (l : List α) : (List.range l.length).map (fun i => l.getD i d) = l := by
  apply List.ext_getElem
  · simp
  · intro i h1 h2
    rw [List.getElem_map, List.getElem_range, List.getD_eq_getElem?_getD, List.getElem?_eq_getElem h2]
    rfl
theorem told_length (ns : List Str) (im : List Int) (draw : Int) : (toldOf ns im draw).length = im.length + 1 := by simp [toldOf]
theorem ws_dall {ns : List Str} {im : List Int} {draw : Int} (h : ∀ x ∈ ns, x ∈ twelve) : dall ((List.range (im.length + 1)).map (wsOf ns im draw)) = (toldOf ns im draw).foldl dput [] := by
  unfold dall
  rw [List.map_map]
  have e : (List.range (im.length + 1)).map ((fun p : Str × Str => (p.1, unq p.2)) ∘ wsOf ns im draw) = toldOf ns im draw := by
    rw [← told_length ns im draw]
    refine Eq.trans (List.map_congr_left fun i _ => ?_) (range_getD (Str.empty, Str.empty) _)
    obtain ⟨hx, hy⟩ := told_tw (im := im) (draw := draw) h i
    show ((wsOf ns im draw i).1, unq (wsOf ns im draw i).2) = _
    unfold wsOf
    rw [unq_wrt hy (mod3 _)]
  rw [e]
theorem strOk_of {x : Str} (h : x.cps.all (· < 128) = true) : PyData.strOk x = true := by
  unfold PyData.strOk
  rw [Array.all_eq_true_iff_forall_mem] at h ⊢
  intro c hc
  have := h c hc
  simp only [decide_eq_true_eq] at this ⊢
  omega
theorem ascii_app {a b : Str} (ha : a.cps.all (· < 128) = true) (hb : b.cps.all (· < 128) = true) : (a ++ b).cps.all (· < 128) = true := by
  rw [Str.cps_append, Array.all_append, ha, hb]; rfl
theorem wrt_ascii (d : Int) {y : Str} (h : y.cps.all (· < 128) = true) : (wrt d y).cps.all (· < 128) = true := by
  unfold wrt
  split
  · exact h
  · exact ascii_app (ascii_app (by decide +kernel) h) (by decide +kernel)
theorem ws_so {ns : List Str} {im : List Int} {draw : Int} (h : ∀ x ∈ ns, x ∈ twelve) (n : Nat) : ∀ d ∈ (((List.range n).map (wsOf ns im draw)).map kv).map Dat.str, kqdOk 8 d = true := by
  intro d hd
  obtain ⟨t, ht, rfl⟩ := List.mem_map.mp hd
  obtain ⟨p, hp, rfl⟩ := List.mem_map.mp ht
  obtain ⟨i, _, rfl⟩ := List.mem_map.mp hp
  obtain ⟨hx, hy⟩ := told_tw (im := im) (draw := draw) h i
  show PyData.strOk _ = true
  apply strOk_of
  unfold kv wsOf
  exact ascii_app (ascii_app (okName_ascii (tw_ok hx)) (by decide +kernel)) (wrt_ascii _ (okName_ascii (tw_ok hy)))
theorem dput_mem {D : List (Str × Str)} {p : Str × Str} {P : Str → Prop} (hD : ∀ q ∈ D, P q.1 ∧ P q.2) (hp : P p.1 ∧ P p.2) : ∀ q ∈ dput D p, P q.1 ∧ P q.2 := by
  intro q hq
  unfold dput at hq
  split at hq
  · obtain ⟨r, hr, rfl⟩ := List.mem_map.mp hq
    split
    · exact ⟨(hD r hr).1, hp.2⟩
    · exact hD r hr
  · rcases List.mem_append.mp hq with hq | hq
    · exact hD q hq
    · rw [List.mem_singleton.mp hq]; exact hp
theorem dputs_mem {P : Str → Prop} : ∀ (l D : List (Str × Str)), (∀ q ∈ D, P q.1 ∧ P q.2) → (∀ q ∈ l, P q.1 ∧ P q.2) → ∀ q ∈ l.foldl dput D, P q.1 ∧ P q.2
  | [], D, hD, _ => hD
  | p :: l, D, hD, hl => dputs_mem l (dput D p) (dput_mem hD (hl p List.mem_cons_self)) fun q hq => hl q (List.mem_cons_of_mem _ hq)
theorem told_mem {ns : List Str} {im : List Int} {draw : Int} (h : ∀ x ∈ ns, x ∈ twelve) : ∀ q ∈ toldOf ns im draw, q.1 ∈ twelve ∧ q.2 ∈ twelve := by
  intro q hq
  obtain ⟨i, hi, rfl⟩ := List.getElem_of_mem hq
  have := told_tw (im := im) (draw := draw) h i
  rw [List.getD_eq_getElem?_getD, List.getElem?_eq_getElem hi] at this
  exact this
theorem ps_so {ns : List Str} {im : List Int} {draw : Int} (h : ∀ x ∈ ns, x ∈ twelve) : ∀ d ∈ ((toldOf ns im draw).foldl dput []).map pdat, kqdOk 8 d = true := by
  intro d hd
  obtain ⟨p, hp, rfl⟩ := List.mem_map.mp hd
  have := dputs_mem (P := (· ∈ twelve)) _ [] (by simp) (told_mem (im := im) (draw := draw) h) p hp
  have h1 := strOk_of (okName_ascii (tw_ok this.1))
  have h2 := strOk_of (okName_ascii (tw_ok this.2))
  simp [pdat, kqdOk, h1, h2]
theorem dl_le {ns : List Str} {im : List Int} {draw : Int} (h : im.length ≤ 100) : ((toldOf ns im draw).foldl dput []).length ≤ 1000 := by
  have := foldl_dput_length (toldOf ns im draw) []
  rw [told_length, List.length_nil] at this
  omega
theorem mul_len (d : Int) : (Txt.mul (Str.ofString "=") (d.fmod 2)).length ≤ 1 := by
  have q1 := Int.fmod_nonneg_of_pos d (show (0 : Int) < 2 by omega)
  have q2 := Int.fmod_lt_of_pos d (show (0 : Int) < 2 by omega)
  have : d.fmod 2 = 0 ∨ d.fmod 2 = 1 := by omega
  rcases this with h | h <;> rw [h] <;> decide +kernel

noncomputable def dget : List (Str × Str) → Str → Option Str
  | [], _ => none
  | q :: r, k => if q.1 = k then some q.2 else dget r k
theorem lookup_dget (k : Str) : ∀ D : List (Str × Str), PySem.Spec.lookup (.str k) (denc D) = (dget D k).map PyData.str
  | [] => rfl
  | q :: r => by
    show (if same (PyData.str q.1) (PyData.str k) then some (PyData.str q.2) else PySem.Spec.lookup (.str k) (denc r)) = (if q.1 = k then some q.2 else dget r k).map PyData.str
    rw [lookup_dget k r, PyProof.V.same_str]
    by_cases h : q.1 = k <;> simp [h]
theorem dget_upd {p : Str × Str} {k : Str} (h : k ≠ p.1) : ∀ D : List (Str × Str), dget (D.map fun q => if q.1 = p.1 then (q.1, p.2) else q) k = dget D k
  | [] => rfl
  | q :: r => by
    rw [List.map_cons]
    unfold dget
    rw [dget_upd h r]
    by_cases h1 : q.1 = p.1
    · rw [if_pos h1]
      have : q.1 ≠ k := by rw [h1]; exact Ne.symm h
      rw [if_neg this, if_neg this]
    · rw [if_neg h1]
theorem dget_new {p : Str × Str} : ∀ D : List (Str × Str), D.any (fun q => q.1 = p.1) = true → dget (D.map fun q => if q.1 = p.1 then (q.1, p.2) else q) p.1 = some p.2
  | [], h => by simp at h
  | q :: r, h => by
    rw [List.map_cons]
    unfold dget
    by_cases h1 : q.1 = p.1
    · rw [if_pos h1, if_pos h1]
    · rw [if_neg h1, if_neg h1]
      refine dget_new r ?_
      simpa [h1] using h
theorem dget_app {p : Str × Str} {k : Str} (h : k ≠ p.1) : ∀ D : List (Str × Str), dget (D ++ [p]) k = dget D k
  | [] => by
    show (if p.1 = k then some p.2 else none) = none
    rw [if_neg (Ne.symm h)]
  | q :: r => by
    show (if q.1 = k then some q.2 else dget (r ++ [p]) k) = (if q.1 = k then some q.2 else dget r k)
    rw [dget_app h r]
theorem dget_last {p : Str × Str} : ∀ D : List (Str × Str), D.any (fun q => q.1 = p.1) = false → dget (D ++ [p]) p.1 = some p.2
  | [], _ => by
    show (if p.1 = p.1 then some p.2 else none) = _
    rw [if_pos rfl]
  | q :: r, h => by
    have h1 : q.1 ≠ p.1 ∧ r.any (fun q => q.1 = p.1) = false := by simpa using h
    show (if q.1 = p.1 then some q.2 else dget (r ++ [p]) p.1) = _
    rw [if_neg h1.1]
    exact dget_last r h1.2
theorem dget_dput (D : List (Str × Str)) (p : Str × Str) (k : Str) : dget (dput D p) k = if k = p.1 then some p.2 else dget D k := by
  unfold dput
  by_cases h : k = p.1
  · subst h
    rw [if_pos rfl]
    split
    · next h => exact dget_new D h
    · next h => exact dget_last D (Bool.eq_false_iff.mpr h)
  · rw [if_neg h]
    split
    · exact dget_upd h D
    · exact dget_app h D
theorem dget_all {k v : Str} : ∀ (l D : List (Str × Str)), (∀ p ∈ l, p.1 = k → p.2 = v) → ((∃ p ∈ l, p.1 = k) ∨ dget D k = some v) → dget (l.foldl dput D) k = some v
  | [], D, _, h => by
    rcases h with ⟨p, hp, _⟩ | h
    · exact absurd hp List.not_mem_nil
    · exact h
  | p :: l, D, ha, h => by
    rw [List.foldl_cons]
    refine dget_all l (dput D p) (fun q hq => ha q (List.mem_cons_of_mem _ hq)) ?_
    rw [dget_dput]
    by_cases e : k = p.1
    · right; rw [if_pos e, ha p List.mem_cons_self e.symm]
    · rw [if_neg e]
      rcases h with ⟨q, hq, hk⟩ | h
      · rcases List.mem_cons.mp hq with rfl | hq
        · exact absurd hk.symm e
        · exact .inl ⟨q, hq, hk⟩
      · exact .inr h
theorem fmod_hit (d : Int) {k i : Int} (h0 : 0 ≤ i) (h1 : i < k) : (d + (i - d).fmod k).fmod k = i := by
  rw [Int.fmod_eq_emod_of_nonneg _ (by omega), Int.fmod_eq_emod_of_nonneg _ (by omega)]
  have := Int.mul_ediv_add_emod (i - d) k
  have e : d + (i - d) % k = i + k * (-((i - d) / k)) := by rw [Int.mul_neg]; omega
  rw [e, Int.add_mul_emod_self_left]
  exact Int.emod_eq_of_lt h0 h1
theorem getD_inj {ns : List Str} (h : ns.Nodup) {i j : Nat} (hi : i < ns.length) (hj : j < ns.length) (e : ns.getD i Str.empty = ns.getD j Str.empty) : i = j := by
  rw [List.getD_eq_getElem?_getD, List.getD_eq_getElem?_getD, List.getElem?_eq_getElem hi, List.getElem?_eq_getElem hj] at e
  exact (List.getElem_inj h).mp e
theorem told_lookup {ns : List Str} {im : List Int} {draw : Int} (hnd : ns.Nodup) (hl : im.length ≤ ns.length) {i : Nat} (hi : i < im.length) : PySem.Spec.lookup (.str (ns.getD i Str.empty)) (denc ((toldOf ns im draw).foldl dput [])) = some (.str (ns.getD (im.getD i 0).toNat Str.empty)) := by
  rw [lookup_dget]
  unfold toldOf
  rw [List.foldl_cons, dget_all (v := ns.getD (im.getD i 0).toNat Str.empty)]
  · rfl
  · intro p hp e
    obtain ⟨j, _, rfl⟩ := List.mem_map.mp hp
    unfold tpair at e ⊢
    dsimp only at e ⊢
    have q1 := Int.fmod_nonneg_of_pos (draw + (j : Int)) (show (0 : Int) < im.length by omega)
    have q2 := Int.fmod_lt_of_pos (draw + (j : Int)) (show (0 : Int) < im.length by omega)
    rw [getD_inj hnd (by omega) (by omega) e]
  · left
    have q1 := Int.fmod_nonneg_of_pos ((i : Int) - draw) (show (0 : Int) < im.length by omega)
    have q2 := Int.fmod_lt_of_pos ((i : Int) - draw) (show (0 : Int) < im.length by omega)
    refine ⟨_, List.mem_map.mpr ⟨(((i : Int) - draw).fmod im.length).toNat, List.mem_range.mpr (by omega), rfl⟩, ?_⟩
    unfold tpair
    dsimp only
    rw [Int.toNat_of_nonneg q1, fmod_hit draw (by omega) (by omega)]
    rfl
end Mine
end

section
open PySem PySem.W PyProof.Rows PySem.Calls PySem.Spec PyProof.V
namespace Mine






theorem appC {M : Model} {A : Around} {E : Value → Shared → Prop} {s : Shared} {env : Env} {pos : Pos} {a : Addr} {e : Expr} {rest : List Expr} {Q : Value → Shared → Prop}
    (h : wpAny M A (spliced (backTo pos (starEach (e :: rest) env))) (fun vs s₁ => wpAny M A (call (.builtin "list.append") ([Value.ref a] ++ vs)) Q E s₁) E s)
    (he : starEach (e :: rest) env = (false, eval e env) :: starEach rest env ∧ (backTo pos (starEach rest env)).any (·.1) = false) :
    wpAny M A (callWith pos (Value.builtin "list.append", [Value.ref a]).1 (Value.builtin "list.append", [Value.ref a]).2 (backTo pos (starEach (e :: rest) env)) []) Q E s := callWith_method1 h he.1 he.2
local macro_rules | `(tactic| walk_at "callWith") => `(tactic| (with_reducible refine' Mine.appC ?_ ?k; (case k => with_unfolding_all exact ⟨rfl, rfl⟩)))
theorem at_state {α : Type} {M : Model} {A : Around} {t : Sem α} {E : Value → Shared → Prop} {Q : α → Shared → Prop} {h₀ h : Heap} {L : Addr} {m : Str → Option Value} {s S : Shared} (_ : Fr h₀ L h m) (e1 : S.heap = h) (e2 : S.gens = s.gens) (e3 : S.drawn = s.drawn) (e4 : S.os = s.os) (H : ∀ tk, wpAny M A t Q E { s with heap := h, toks := tk }) : wpAny M A t Q E S := by
  have : S = { s with heap := h, toks := S.toks } := by
    cases S; cases s; subst e1; simp at e2 e3 e4; subst e2 e3 e4; rfl
  rw [this]; exact H _

theorem piece2 {x y : Str} (h : y ≠ Str.ofString "") : Str.ofString "" ++ x ++ Str.ofString "=" ++ y ++ Str.ofString "  " = piece 2 (x, y) := by
  have : y.length ≠ 0 := by
    intro e
    exact h (str_ext (by
      have : y.cps.toList.length = 0 := by rw [Array.length_toList]; exact e
      rw [List.length_eq_zero_iff.mp this]; rfl))
  unfold piece wrap
  rw [if_neg (by decide), if_pos ⟨rfl, this⟩]
  rfl
theorem spoil {ui : List Value} {W : List (Str × Str)} (h : StrsAre ui (W.map kv)) (k : Nat) (b : Str) (t : Tok) :
    StrsAre (((ui.take k).toArray.toList ++ #[Value.str b t].toList).toArray.toList ++ (ui.drop k).toArray.toList) ((W.take k).map kv ++ b :: (W.map kv).drop k) := by
  have q := strs_append (strs_append (strs_take h k) (StrsAre.cons b t .nil)) (strs_drop h k)
  have e : (W.take k).map kv ++ b :: (W.map kv).drop k = ((W.map kv).take k ++ [b]) ++ (W.map kv).drop k := by rw [List.map_take, List.append_assoc]; rfl
  rw [e]
  exact q
theorem bad_eq (x : Str) {d : Int} (h : d = 0 ∨ d = 1) : x ++ Txt.mul (Str.ofString "=") d = if decide (d = 1) then x ++ Str.ofString "=" else x := by
  rcases h with rfl | rfl
  · have e : Txt.mul (Str.ofString "=") 0 = Str.empty := by decide +kernel
    rw [e]
    exact Str.ext' (by rw [Str.cps_append]; exact Array.append_empty)
  · have e : Txt.mul (Str.ofString "=") 1 = Str.ofString "=" := by decide +kernel
    rw [e]; rfl
noncomputable def imgs (ns : List Str) (im : List Int) : List Str := (List.range im.length).map fun i => ns.getD (im.getD i 0).toNat Str.empty
theorem imgs_take {ns : List Str} {im : List Int} {i : Nat} (hi : i < im.length) : (imgs ns im).take (i + 1) = (imgs ns im).take i ++ [ns.getD (im.getD i 0).toNat Str.empty] := by
  rw [List.take_add_one]
  have : (imgs ns im)[i]? = some (ns.getD (im.getD i 0).toNat Str.empty) := by
    unfold imgs; rw [List.getElem?_map, List.getElem?_range hi]; rfl
  rw [this]; rfl
theorem ne_new {h₀ h : Heap} {L a : Addr} {news : List (Addr × Obj)} (N : News h₀ L h news) (h0 : h.get? a = none) : ∀ p ∈ news, @Ne Nat p.1 a := by
  intro p hp e
  have := (N p hp).1
  rw [show p.1 = a from e, h0] at this
  cases this
theorem news_new {h₀ h h' : Heap} {L a : Addr} {m : Str → Option Value} {o : Obj} {news : List (Addr × Obj)} (F : Fr h₀ L h m) (N : News h₀ L h' news) (h0 : h.get? a = none) (ha : h'.get? a = some o) : News h₀ L h' ((a, o) :: news) := by
  intro p hp
  rcases List.mem_cons.mp hp with rfl | hp
  · refine ⟨ha, ?_, kts_none F.keep h0⟩
    rintro rfl
    obtain ⟨o', _, _, ho, _⟩ := F.ns
    rw [h0] at ho; cases ho
  · exact N p hp
theorem read_ctr {w : World} {base : Heap} {mean : ExcName → Option Value} {mg mb : Str → Option Value} (XB : (Mine.hd.heap_39 w.params).In base) (TB : Top Mine.hd.view_39 (looseW Mine.hd.view_39 []) mean mg mb base)
  (ln li : Addr) (vn : List Value) (ns : List Str) (ui : List Value) (im : List Int) (draw : Int) (td : Tok)
  (hun : StrsAre vn ns) (hui : IntsAre ui im) (him : ∀ x ∈ im, 0 ≤ x ∧ x < im.length) (h1 : 1 ≤ im.length) (h2 : im.length ≤ ns.length) (h3 : ns.length ≤ 7) (hdr : 0 ≤ draw ∧ draw ≤ 1000000) (htw : ∀ x ∈ ns, x ∈ twelve) (hnd : ns.Nodup) :
  CtrX w base 57 [.ref ln, .ref li, .int draw td] 10 500 (fun h => h.IsList ln vn.toArray ∧ h.IsList li ui.toArray) (fun h h' v => ∃ D us n, v = .ref D ∧ h.get? D = none ∧ h'.get? D = some (W.listOf us.toArray n) ∧ StrsAre us (imgs ns im)) := by
  have hgood : ∀ x ∈ ns, okName x := tw_oks htw
  unfold CtrX
  revert XB
  k_fill
  intro XB dp un gd envs s R B KD hd hu hpre hret
  refine' enterC (binds := [(Str.ofString "names", .ref ln), (Str.ofString "images", .ref li), (Str.ofString "draw", .int draw td)]) B XB TB ?k6 ?k7 ?k8 ?k9 ?kB ?kD ?_ ?c2 ?c3 ?c4
  case k6 => k_is
  case k7 => k_is
  case k8 => exact Nat.lt_of_le_of_lt (Nat.le_add_right _ _) hd
  case k9 => exact BindsTo.of_eq rfl
  case kB => exact rfl
  case kD => decide +kernel
  case c2 => exact rfl
  case c3 => exact rfl
  case c4 => exact rfl
  intro L h₁ tk cells hL F N Y X T
  refine wpAny_noRaise ?_
  obtain ⟨o1, o2, o3, o4, rfl, d1, d2, d3, d4⟩ := CellsAre.four Y
  obtain ⟨p1, p2⟩ := hpre
  have e1 : o1.data = .cell none := d1
  have e2 : o2.data = .cell none := d2
  have e3 : o3.data = .cell (some (.ref li)) := d3
  have e4 : o4.data = .cell (some (.ref ln)) := d4
  clear d1 d2 d3 d4 Y
  have hb0 : Fr s.heap L h₁ (mp [(Str.ofString "draw", .int draw td)]) := F
  clear F
  repeat (first | ((with_reducible show ite _ _ _); walk1) | ((with_reducible show wpAny _ _ _ _ _ _); (fail_if_success (with_reducible first | refine Mine.s1 ?_ | refine Mine.s2 ?_ | refine Mine.s3 ?_ | refine Mine.s4 ?_ | refine Mine.s6 ?_ | show wpAny _ _ (execs (Stmt.Assign _ (Expr.BinOp _ _ (Expr.ListComp _ _ _ _) _) _ :: _) _) _ _ _)); walk1))
  rename Fr _ _ _ _ => F1
  rename News _ _ _ _ => N1
  rename Obj.data _ = Data.cell (some (Value.int _ _)) => ez
  obtain ⟨lt, e⟩ := nm1 N1; subst e
  obtain ⟨tt, e⟩ := nm2 N1; subst e
  obtain ⟨t1, t2, e, e'⟩ := nmT2 N1; subst e; subst e'
  obtain ⟨oz, e⟩ := nmO ez; subst e
  have F1 : Fr s.heap L _ (mp [(Str.ofString "told", .ref lt), (Str.ofString "draw", .int draw td)]) := F1
  have N1 : News s.heap L _ [(lt, W.listOf #[.ref tt] 0), (tt, tup (ns.getD (Int.toNat 0) Str.empty) t1 (ns.getD ((im.length : Int) - 1).toNat Str.empty) t2), (L + 1 + 1 + 1 + 1, o1), (L + 1 + 1 + 1, oz), (L + 1 + 1, o3), (L + 1, o4)] := N1
  have lo : (@LT.lt Nat _ (L + 4) tt) ∧ (@LT.lt Nat _ tt lt) := by omega
  refine wpAny_execs_cons (wpAny_mono (Q := fun f s' => f = .next ∧ ∃ h' tk' lt us n tl, s' = { s with heap := h', toks := tk' } ∧ Fr s.heap L h' (mp [(Str.ofString "told", .ref lt), (Str.ofString "draw", .int draw td)]) ∧
      News s.heap L h' ((lt, W.listOf us.toArray n) :: (L + 1 + 1 + 1 + 1, o1) :: (L + 1 + 1 + 1, oz) :: (L + 1 + 1, o3) :: (L + 1, o4) :: tl) ∧ PairsIn tl us (toldOf ns im draw) ∧ (∀ p ∈ tl, (@LT.lt Nat _ (L + 4) p.1)) ∧ (@LT.lt Nat _ (L + 4) lt)) ?first ?_ (fun _ _ e => e))
  case first =>
    walk_at "go"
    rename Fr _ _ _ _ => F1
    rename News _ _ _ _ => N1
    refine LCg.ListComp_U (F₀ := F1) (by with_unfolding_all rfl) (by decide) (by rfl) (by decide) (by rfl) ?_
    walk_at "go"
    rename Fr _ _ _ _ => F2
    rename News _ _ _ _ => N2
    rename IsRange _ _ _ _ _ _ _ _ => R2
    refine LCg.CompSrc.range (n := im.length) rfl F2 N2 R2 (small_one (by omega) (by omega) (by omega) (by omega)) ((rangeSize_nat _ _).trans (by omega)) (by rw [sizeLine_eq]; omega) fun g => ?_
    refine rest_of (fun i ys nw => ∃ tl, nw = (lt, W.listOf #[.ref tt] 0) :: (tt, tup (ns.getD (Int.toNat 0) Str.empty) t1 (ns.getD ((im.length : Int) - 1).toNat Str.empty) t2) :: (L + 1 + 1 + 1 + 1, o1) :: (L + 1 + 1 + 1, oz) :: (L + 1 + 1, o3) :: (L + 1, o4) :: tl ∧ PairsIn tl ys ((List.range i).map (tpair ns im draw)) ∧ ∀ p ∈ tl, (@LT.lt Nat _ (L + 4) p.1)) ⟨[], rfl, .nil, fun _ h => nomatch h⟩ ?_ ?_
    · clear F2 N2 R2
      rintro i ys nw v I oI C oC D m₂ h tk2 E' hi ⟨tl, rfl, hy, htl⟩ hv hC hx4 F4 N4 off ne
      obtain ⟨tv, rfl⟩ := hv
      have hm1 : 0 ≤ (draw + (i : Int)).fmod im.length := Int.fmod_nonneg_of_pos _ (by omega)
      have hm2 : (draw + (i : Int)).fmod im.length < im.length := Int.fmod_lt_of_pos _ (by omega)
      have hm3 : 0 ≤ im.getD ((draw + (i : Int)).fmod im.length).toNat 0 ∧ im.getD ((draw + (i : Int)).fmod im.length).toNat 0 < im.length := by
        refine him _ ?_
        rw [List.getD_eq_getElem?_getD, List.getElem?_eq_getElem (by omega)]
        exact List.getElem_mem _
      walk_at "go"
      rename Fr _ _ _ _ => F5
      rename News _ _ _ _ => N5
      obtain ⟨DD, e⟩ := nm1 N5; subst e
      obtain ⟨t3, t4, e, e'⟩ := nmT1 N5; subst e; subst e'
      have l5 : (@Ne Nat DD I) ∧ (@Ne Nat DD C) ∧ (@Ne Nat DD D) := by omega
      have l6 : @LT.lt Nat _ (L + 4) DD := by omega
      refine LCg.CompEnd.intro F5 N5 ((lt, W.listOf #[.ref tt] 0) :: (tt, tup (ns.getD (Int.toNat 0) Str.empty) t1 (ns.getD ((im.length : Int) - 1).toNat Str.empty) t2) :: (L + 1 + 1 + 1 + 1, o1) :: (L + 1 + 1 + 1, oz) :: (L + 1 + 1, o3) :: (L + 1, o4) :: (DD, tup (ns.getD ((draw + (i : Int)).fmod im.length).toNat Str.empty) t3 (ns.getD (im.getD ((draw + (i : Int)).fmod im.length).toNat 0).toNat Str.empty) t4) :: tl) ?_ ?_ trivial ⟨_, rfl, ?_, ?_⟩
      · ((repeat (refine List.forall_mem_cons.mpr ⟨?_, ?_⟩; focus (first | ((repeat (with_reducible first | exact List.mem_cons_self | refine List.mem_cons_of_mem _ ?_ | refine List.mem_append_right _ ?_)); done) | k_mem))); first | exact List.forall_mem_nil _ | (intro p hp; repeat (with_reducible first | exact hp | exact List.mem_append_left _ hp | exact List.mem_append_left _ (List.mem_append_left _ hp) | exact List.mem_append_left _ (List.mem_append_right _ hp) | refine List.mem_cons_of_mem _ ?_ | refine List.mem_append_right _ ?_)))
      · obtain ⟨q1, q2, q3, q4, q5, q6, q7⟩ := off
        exact ⟨q1, q2, q3, q4, q5, q6, l5, q7⟩
      · rw [List.range_succ, List.map_append]
        exact PairsIn.snoc (hy.mono fun p hp => List.mem_cons_of_mem _ hp) List.mem_cons_self
      · exact List.forall_mem_cons.mpr ⟨l6, htl⟩
    · rintro ys nw ⟨tl, rfl, hy, htl⟩ D h tk5 F5 N5 hD
      have hyl : ys.length = im.length := by rw [hy.length]; simp
      refine add_arrays F5 N5 ⟨_, (N5 _ (List.mem_cons_of_mem _ List.mem_cons_self)).1, rfl, _, rfl⟩ ⟨_, (N5 _ List.mem_cons_self).1, rfl, _, rfl⟩ (fun h6 F6 N6 => ?_) (by rw [List.size_toArray, List.size_toArray, sizeLine_eq, hyl]; show 1 + _ ≤ _; omega)
      have hlt6 : @LT.lt Nat _ lt h.objs.size := Heap.lt_size (N5 _ (List.mem_cons_of_mem _ List.mem_cons_self)).1
      walk_at "go"
      rename Fr _ _ _ _ => F7
      rename News _ _ _ _ => N7
      have F7 : Fr s.heap L _ (mp [(Str.ofString "told", .ref h.objs.size), (Str.ofString "told", .ref lt), (Str.ofString "draw", .int draw td)]) := F7
      rw [mp_shadow] at F7
      refine ⟨trivial, _, _, h.objs.size, .ref tt :: ys, 0, (tt, tup (ns.getD (Int.toNat 0) Str.empty) t1 (ns.getD ((im.length : Int) - 1).toNat Str.empty) t2) :: tl, rfl, F7, ?_, ?_, List.forall_mem_cons.mpr ⟨lo.1, htl⟩, by omega⟩
      · exact cb_drop N7 (by ((repeat (refine List.forall_mem_cons.mpr ⟨?_, ?_⟩; focus (first | ((repeat (with_reducible first | exact List.mem_cons_self | refine List.mem_cons_of_mem _ ?_ | refine List.mem_append_right _ ?_)); done) | k_mem))); first | exact List.forall_mem_nil _ | (intro p hp; repeat (with_reducible first | exact hp | exact List.mem_append_left _ hp | exact List.mem_append_left _ (List.mem_append_left _ hp) | exact List.mem_append_left _ (List.mem_append_right _ hp) | refine List.mem_cons_of_mem _ ?_ | refine List.mem_append_right _ ?_))))
      · rw [show ((im.length : Int) - 1).toNat = im.length - 1 by omega]
        exact .cons List.mem_cons_self (hy.mono fun p hp => List.mem_cons_of_mem _ hp)
  rintro f s' ⟨rfl, h3, tk3, lt, us, n, tl, rfl, F3, N3, hp3, htl, hlt⟩
  clear F1 N1 lo
  walk_at "go"
  rename Fr _ _ _ _ => F4
  rename News _ _ _ _ => N4
  rename (_ < _ ∧ _ < _ ∧ _ < _ ∧ _ < _ ∧ _ < _ ∧ AllLt _ _) => hlp
  obtain ⟨lp, e⟩ := nm1 N4; subst e
  have F4 : Fr s.heap L _ (mp [(Str.ofString "pieces", .ref lp), (Str.ofString "told", .ref lt), (Str.ofString "draw", .int draw td)]) := F4
  refine For_turns F4 ?_
  walk_at "go"
  have N4 : News s.heap L _ ((lp, W.listOf ([] : List Value).toArray 0) :: (lt, W.listOf us.toArray n) :: (L + 1 + 1 + 1 + 1, o1) :: (L + 1 + 1 + 1, oz) :: (L + 1 + 1, o3) :: (L + 1, o4) :: tl) := N4
  refine' kstt_ledger (σ := RC) (dLed lp lt L us n o1 oz o3 o4 tl) (fun _ => []) (fun c => StrsAre c.us c.ps) dSt (fun i c => c.ps = piecesOf (toldOf ns im draw) draw i) ⟨[], 0, []⟩ rfl (fun _ => List.mem_cons_of_mem _ List.mem_cons_self) rfl rfl F4 N4 .nil (List.forall_mem_nil _) rfl ?turn ?done
  case turn =>
    rintro ⟨us5, n5, ps5⟩ i v u h tk5 own hi hv hoff hf hp F5 N5
    dsimp only [envOfC] at F5 N5 hf hp
    have hpI := hp
    replace hp : ps5.length = i := by rw [hpI]; exact piecesOf_length _ _ _
    have hneq : ∀ p ∈ (lt, W.listOf us.toArray n) :: (L + 1 + 1 + 1 + 1, o1) :: (L + 1 + 1 + 1, oz) :: (L + 1 + 1, o3) :: (L + 1, o4) :: (tl ++ own), p.1 ≠ lp := by
      have l0 : (@LT.lt Nat _ lt lp) ∧ (@LT.lt Nat _ (L + 1 + 1 + 1 + 1) lp) ∧ AllLt lp tl := ⟨hlp.1, hlp.2.1, hlp.2.2.2.2.2⟩
      refine List.forall_mem_cons.mpr ⟨Nat.ne_of_lt l0.1, List.forall_mem_cons.mpr ⟨Nat.ne_of_lt l0.2.1, List.forall_mem_cons.mpr ⟨Nat.ne_of_lt (show @LT.lt Nat _ (L + 1 + 1 + 1) lp by omega), List.forall_mem_cons.mpr ⟨Nat.ne_of_lt (show @LT.lt Nat _ (L + 1 + 1) lp by omega), List.forall_mem_cons.mpr ⟨Nat.ne_of_lt (show @LT.lt Nat _ (L + 1) lp by omega), ?_⟩⟩⟩⟩⟩
      intro p hp
      rcases List.mem_append.mp hp with hp | hp
      · exact Nat.ne_of_lt (ktn_ltOf l0.2.2 p hp)
      · exact hoff p hp lp List.mem_cons_self
    dsimp only [List.cons_append] at N5
    clear F4 N4
    obtain ⟨a, x, y, ta, tb, rfl, hxy, hta⟩ := hp3.item i v hv
    refine unpackN_ F5 N5 (News.isTup N5 (List.mem_cons_of_mem _ (List.mem_cons_of_mem _ (List.mem_cons_of_mem _ (List.mem_cons_of_mem _ (List.mem_cons_of_mem _ (List.mem_cons_of_mem _ (List.mem_append_left _ hta)))))))) rfl rfl rfl ?_
    intro h6 F6 N6
    have hul : us5.length = i := by rw [hf.length, hp]
    have hil : i < 9 := by
      have : us.length = im.length + 1 := by rw [hp3.length]; simp [toldOf]
      omega
    have hd3 : (draw + (i : Int)).fmod 3 = 0 ∨ (draw + (i : Int)).fmod 3 = 1 ∨ (draw + (i : Int)).fmod 3 = 2 := by
      simpa only [List.mem_cons, List.not_mem_nil, or_false] using mod3 (draw + (i : Int))
    obtain ⟨hox, hoy⟩ := told_ok hgood hxy
    have hxl := hox.1
    have hyl := hoy.1
    repeat (first | ((with_reducible show ite _ _ _); walk1) | ((with_reducible show wpAny _ _ _ _ _ _); (fail_if_success (with_reducible first | refine Mine.s1 ?_ | refine Mine.s2 ?_ | refine Mine.s3 ?_ | refine Mine.s4 ?_ | refine Mine.s6 ?_ | show wpAny _ _ (execs (Stmt.Assign _ (Expr.IfExp _ _ _ _) _ :: _) _) _ _ _)); walk1))
    rename Fr _ _ _ _ => F7
    rename News _ _ _ _ => N7
    rw [hp] at F7
    obtain ⟨t7, F7⟩ := frTokI F7
    obtain ⟨h7, e⟩ := nmF F7; subst e
    refine at_state (s := s) F7 rfl rfl rfl rfl fun tk7 => ?_
    rcases hd3 with hd3 | hd3 | hd3
    · rw [hd3] at F7
      walk_at "go"
      rename Fr _ _ _ _ => F8
      rename News _ _ _ _ => N8
      replace hf : StrsAre us5 ps5 := by assumption
      have N8 : News s.heap L _ ((lp, W.listOf us5.toArray n5) :: (lt, W.listOf us.toArray n) :: (L + 1 + 1 + 1 + 1, o1) :: (L + 1 + 1 + 1, oz) :: (L + 1 + 1, o3) :: (L + 1, o4) :: (tl ++ own)) := cb_drop N8 (fun p hp => List.mem_cons_of_mem _ (List.mem_cons_of_mem _ hp))
      refine append_K F8 N8 (Upd.head hneq) (fun h9 F9 N9 => ?_) (by rw [List.size_toArray, sizeLine_eq, hul]; omega)
      rw [List.push_toArray] at N9
      walk_at "go"
      exact piece_end F9 N9 hf hpI hxy hd3 rfl rfl (by (intro z h3; (repeat (refine (off_if h3 (by decide)).trans ?_)); exact if_neg (by rw [h3]; exact Bool.false_ne_true)))
    · rw [hd3] at F7
      walk_at "go"
      rename Fr _ _ _ _ => F8
      rename News _ _ _ _ => N8
      refine ListComp_S F8 rfl (by with_unfolding_all rfl) (by decide) (by rfl) (by decide) (by rfl) ?_
      walk_at "go"
      rename Fr _ _ _ _ => F9
      rename News _ _ _ _ => N9
      refine ⟨y, _, _, rfl, okName_ascii hoy, by rw [sizeLine_eq]; exact Nat.le_trans hyl (by decide), F9, N9, fun g => ?_⟩
      refine rest_fix (fun i ys => StrsAre ys (escs y i)) .nil ?_ ?_
      · clear F9 N9
        rintro j ys v I oI C oC D m₂ h10 tk10 E' hj hy hv hC hx10 F10 N10 off ne
        obtain ⟨c, tv, hc, rfl⟩ := hv
        walk_at "go"
        rename Fr _ _ _ _ => F11
        rename News _ _ _ _ => N11
        exact LCg.CompEnd.intro F11 N11 ((lp, W.listOf us5.toArray n5) :: (lt, W.listOf us.toArray n) :: (L + 1 + 1 + 1 + 1, o1) :: (L + 1 + 1 + 1, oz) :: (L + 1 + 1, o3) :: (L + 1, o4) :: (tl ++ own)) (fun p hp => hp) off trivial ⟨rfl, by rw [escs_succ hc]; exact KStt.strs_snoc hy⟩
      · rintro ys hy D h tk10 F10 N10 hD
        walk_at "go"
        have hlj : h.IsList D ys.toArray := ⟨_, (N10 _ List.mem_cons_self).1, rfl, _, rfl⟩
        refine join_listW (D := D) (items := ys.toArray) (x := Str.ofString "") (ys := escs y y.cps.size) hlj hy (by decide) (escs_weight y hyl) ?_
        intro t11 k11
        rw [show Txt.join (Str.ofString "") (escs y y.cps.size) = esc y from (PySem.StrLaws.glued_eq_join _ _).trans (join_escs y)]
        have hel := esc_length y hyl
        generalize hey : esc y = ey at hel
        walk_at "go"
        rename Fr _ _ _ _ => F8
        rename News _ _ _ _ => N8
        replace hf : StrsAre us5 ps5 := by assumption
        have N8 : News s.heap L _ ((lp, W.listOf us5.toArray n5) :: (lt, W.listOf us.toArray n) :: (L + 1 + 1 + 1 + 1, o1) :: (L + 1 + 1 + 1, oz) :: (L + 1 + 1, o3) :: (L + 1, o4) :: (tl ++ own)) := cb_drop N8 (fun p hp => List.mem_cons_of_mem _ (List.mem_cons_of_mem _ (List.mem_cons_of_mem _ hp)))
        refine append_K F8 N8 (Upd.head hneq) (fun h9 F9 N9 => ?_) (by rw [List.size_toArray, sizeLine_eq, hul]; omega)
        rw [List.push_toArray] at N9
        walk_at "go"
        exact piece_end F9 N9 hf hpI hxy hd3 (by rw [← hey]; rfl) rfl (by (intro z h3; (repeat (refine (off_if h3 (by decide)).trans ?_)); exact if_neg (by rw [h3]; exact Bool.false_ne_true)))
    · rw [hd3] at F7
      walk_at "go"
      · rename Fr _ _ _ _ => F8
        rename News _ _ _ _ => N8
        replace hf : StrsAre us5 ps5 := by assumption
        have hyz : y = Str.ofString "" := by simpa using (show (y != Str.ofString "") = false by assumption)
        have N8 : News s.heap L _ ((lp, W.listOf us5.toArray n5) :: (lt, W.listOf us.toArray n) :: (L + 1 + 1 + 1 + 1, o1) :: (L + 1 + 1 + 1, oz) :: (L + 1 + 1, o3) :: (L + 1, o4) :: (tl ++ own)) := cb_drop N8 (fun p hp => List.mem_cons_of_mem _ (List.mem_cons_of_mem _ hp))
        refine append_K F8 N8 (Upd.head hneq) (fun h9 F9 N9 => ?_) (by rw [List.size_toArray, sizeLine_eq, hul]; omega)
        rw [List.push_toArray] at N9
        walk_at "go"
        exact piece_end F9 N9 hf hpI hxy hd3 (by rw [hyz]; rfl) rfl (by (intro z h3; (repeat (refine (off_if h3 (by decide)).trans ?_)); exact if_neg (by rw [h3]; exact Bool.false_ne_true)))
      · walk_at "go"
        rename Fr _ _ _ _ => F8
        rename News _ _ _ _ => N8
        replace hf : StrsAre us5 ps5 := by assumption
        have hyz : y ≠ Str.ofString "" := by simpa using (show (y != Str.ofString "") = true by assumption)
        have N8 : News s.heap L _ ((lp, W.listOf us5.toArray n5) :: (lt, W.listOf us.toArray n) :: (L + 1 + 1 + 1 + 1, o1) :: (L + 1 + 1 + 1, oz) :: (L + 1 + 1, o3) :: (L + 1, o4) :: (tl ++ own)) := cb_drop N8 (fun p hp => List.mem_cons_of_mem _ (List.mem_cons_of_mem _ hp))
        refine append_K F8 N8 (Upd.head hneq) (fun h9 F9 N9 => ?_) (by rw [List.size_toArray, sizeLine_eq, hul]; omega)
        rw [List.push_toArray] at N9
        walk_at "go"
        exact piece_end F9 N9 hf hpI hxy hd3 (piece2 hyz) rfl (by (intro z h3; (repeat (refine (off_if h3 (by decide)).trans ?_)); exact if_neg (by rw [h3]; exact Bool.false_ne_true)))
  case done =>
    rintro ⟨us5, n5, ps5⟩ u h tk5 hf hp F5 N5
    dsimp only [envOfC] at F5 N5 hf hp
    clear F4 N4
    walk_at "go"
    have hpl : us5.length = ps5.length := hf.length
    have hul5 : Hid (us.length = im.length + 1) := by show us.length = im.length + 1; rw [hp3.length]; simp [toldOf]
    refine join_listW (D := lp) (items := us5.toArray) (x := Str.ofString ",") (ys := ps5) ⟨_, (N5 _ List.mem_cons_self).1, rfl, _, rfl⟩ hf (by decide) (by rw [hp]; exact pieces_weight htw (by have q : us.length = im.length + 1 := hul5; omega)) ?_
    intro t11 k11
    have hjoin : (Txt.join (Str.ofString ",") ps5).length ≤ 100000 := by rw [hp]; exact pieces_join htw (by have q : us.length = im.length + 1 := hul5; omega)
    have hitems : hparse (Txt.join (Str.ofString ",") ps5) = (List.range (im.length + 1)).map (fun i => kv (wsOf ns im draw i)) := by rw [hp, show us.length = im.length + 1 from hul5]; exact pieces_items htw (by omega)
    generalize Txt.join (Str.ofString ",") ps5 = jt at hjoin hitems
    walk_at "go"
    rename Fr _ _ _ _ => F6
    rename News _ _ _ _ => N6
    refine ⟨X.keeps F6.keep, use_ctr (http_ctr XB TB jt _ hjoin) B F6 N6 rfl rfl (by omega) (by omega) trivial (fun v7 h7 tk7 k7 F7 N7 p7 => ?_)⟩
    obtain ⟨li, ui, ni, rfl, hli0, hli, hui7⟩ := p7
    rw [hitems] at hui7
    have neli := ne_new N6 hli0
    have N7 := news_new F6 N7 hli0 hli
    walk_at "go"
    rename Fr _ _ _ _ => F8
    rename News _ _ _ _ => N8
    have hil : Hid (ui.length = im.length + 1) := by show ui.length = im.length + 1; rw [hui7.length]; simp
    refine list_copyK F8 N8 ⟨_, (N8 _ List.mem_cons_self).1, rfl, _, rfl⟩ (fun kp ck h9 F9 N9 l9 => ?_) (by rw [List.size_toArray, sizeLine_eq, show ui.length = im.length + 1 from hil]; omega)
    walk_at "go"
    rename Fr _ _ _ _ => F10
    rename News _ _ _ _ => N10
    have hui8 : StrsAre ui (((List.range (im.length + 1)).map (wsOf ns im draw)).map kv) := by rw [List.map_map]; exact hui7
    have hwsok : ∀ p ∈ (List.range (im.length + 1)).map (wsOf ns im draw), 61 ∉ p.1.cps ∧ 1 ≤ p.2.length ∧ p.1.length ≤ 1000 ∧ p.2.length ≤ 1000 := ws_ok htw _
    refine ⟨X.keeps F10.keep, use_ctr (keqv_ctr XB TB li ui _ hui8 hwsok (by simp; omega)) B F10 N10 rfl rfl (by omega) (by omega) ⟨_, (N10 _ (List.mem_cons_of_mem _ List.mem_cons_self)).1, rfl, _, rfl⟩ (fun v11 h11 tk11 k11 F11 N11 p11 => ?_)⟩
    obtain ⟨dt, ot, kvs, rfl, ldt, hdt0, hdt, hdk, hfk⟩ := p11
    have nedt := ne_new N10 hdt0
    have N12 := news_new F10 N11 hdt0 hdt
    have N12 : News s.heap L h11 ((dt, ot) :: (kp, W.listOf ui.toArray ck) :: (li, W.listOf ui.toArray ni) :: (lt, W.listOf us.toArray n) :: (L + 1 + 1 + 1 + 1, o1) :: (L + 1 + 1 + 1, oz) :: (L + 1 + 1, o3) :: (L + 1, o4) :: tl) := cb_drop N12 (by ((repeat (refine List.forall_mem_cons.mpr ⟨?_, ?_⟩; focus (first | ((repeat (with_reducible first | exact List.mem_cons_self | refine List.mem_cons_of_mem _ ?_ | refine List.mem_append_right _ ?_)); done) | k_mem))); first | exact List.forall_mem_nil _ | (intro p hp; repeat (with_reducible first | exact hp | exact List.mem_append_left _ hp | exact List.mem_append_left _ (List.mem_append_left _ hp) | exact List.mem_append_left _ (List.mem_append_right _ hp) | refine List.mem_cons_of_mem _ ?_ | refine List.mem_append_right _ ?_))))
    have q1 : @Ne Nat (L + 1 + 1 + 1 + 1) dt := nedt (L + 1 + 1 + 1 + 1, o1) (by k_mem)
    have q2 : @LT.lt Nat _ (L + 1 + 1 + 1 + 1) kp := l9 (L + 1 + 1 + 1 + 1, o1) (by k_mem)
    have q3 : @Ne Nat (L + 1 + 1 + 1 + 1) li := neli (L + 1 + 1 + 1 + 1, o1) (by k_mem)
    refine stCN (own := [(dt, ot), (kp, W.listOf ui.toArray ck), (li, W.listOf ui.toArray ni), (lt, W.listOf us.toArray n)]) (o := o1) (c := L + 1 + 1 + 1 + 1) F11 N12 (by with_unfolding_all rfl) e1 (List.forall_mem_cons.mpr ⟨Ne.symm q1, List.forall_mem_cons.mpr ⟨Nat.ne_of_gt q2, List.forall_mem_cons.mpr ⟨Ne.symm q3, List.forall_mem_cons.mpr ⟨Nat.ne_of_gt hlt, List.forall_mem_nil _⟩⟩⟩⟩) ?_ (fun h13 ob F13 N13 d13 => ?_)
    · refine List.forall_mem_cons.mpr ⟨Nat.ne_of_lt (show @LT.lt Nat _ (L + 1 + 1 + 1) (L + 1 + 1 + 1 + 1) by omega), List.forall_mem_cons.mpr ⟨Nat.ne_of_lt (show @LT.lt Nat _ (L + 1 + 1) (L + 1 + 1 + 1 + 1) by omega), List.forall_mem_cons.mpr ⟨Nat.ne_of_lt (show @LT.lt Nat _ (L + 1) (L + 1 + 1 + 1 + 1) by omega), fun p hp => Nat.ne_of_gt (htl p hp)⟩⟩⟩
    dsimp only [List.cons_append, List.nil_append] at N13
    have hks : FlatPairs PyData.str kvs (denc ((toldOf ns im draw).foldl dput [])) := by rw [← ws_dall htw]; exact hfk
    have hso : ∀ d ∈ (((List.range (im.length + 1)).map (wsOf ns im draw)).map kv).map Dat.str, kqdOk 8 d = true := ws_so htw _
    have hso2 : ∀ d ∈ ((toldOf ns im draw).foldl dput []).map pdat, kqdOk 8 d = true := ps_so htw
    have hdl : ((toldOf ns im draw).foldl dput []).length ≤ 1000 := dl_le (by omega)
    walk_at "go"
    refine ne_same (n₁ := []) (n₂ := []) N13 (List.mem_cons_of_mem _ (List.mem_cons_of_mem _ List.mem_cons_self)) rfl rfl (strsDat hui8) (fun _ h => absurd h List.not_mem_nil) (List.mem_cons_of_mem _ List.mem_cons_self) rfl rfl (strsDat hui8) (fun _ h => absurd h List.not_mem_nil) hso (show un + 3 + 64 < cLine by omega) ?_
    walk_at "go"
    rename Fr _ _ _ _ => F14
    rename News _ _ _ _ => N14
    obtain ⟨vw, e⟩ := nm1 N14; subst e
    refine items_list rfl F14 N14 List.mem_cons_self (List.mem_cons_of_mem _ List.mem_cons_self) hdk hks hdl (fun B15 tups vs15 c15 h15 tk15 F15 N15 p15 k15 l15 lt15 => ?_)
    dsimp only [List.cons_append] at N15
    walk_at "go"
    rename Fr _ _ _ _ => F16
    rename News _ _ _ _ => N16
    have hbig : sysModules < s.heap.objs.size := modules_low (Top.nolimit T)
    refine dict_pairs F16 N16 hbig rfl (src := lt) (vs := us) (n := n) (by (repeat (with_reducible first | exact List.mem_cons_self | refine List.mem_cons_of_mem _ ?_ | refine List.mem_append_right _ ?_))) (hp3.mono (by ((repeat (refine List.forall_mem_cons.mpr ⟨?_, ?_⟩; focus (first | ((repeat (with_reducible first | exact List.mem_cons_self | refine List.mem_cons_of_mem _ ?_ | refine List.mem_append_right _ ?_)); done) | k_mem))); first | exact List.forall_mem_nil _ | (intro p hp; repeat (with_reducible first | exact hp | exact List.mem_append_left _ hp | exact List.mem_append_left _ (List.mem_append_left _ hp) | exact List.mem_append_left _ (List.mem_append_right _ hp) | refine List.mem_cons_of_mem _ ?_ | refine List.mem_append_right _ ?_))))) (by rw [← hp3.length, show us.length = im.length + 1 from hul5]; omega) (fun h17 tk17 o17 kvs17 F17 N17 l17 d17 f17 lt17 => ?_)
    walk_at "go"
    rename Fr _ _ _ _ => F18
    rename News _ _ _ _ => N18
    obtain ⟨vw2, e⟩ := nm1 N18; subst e
    refine items_list rfl F18 N18 List.mem_cons_self (List.mem_cons_of_mem _ List.mem_cons_self) d17 f17 hdl (fun B19 tups2 vs19 c19 h19 tk19 F19 N19 p19 k19 l19 lt19 => ?_)
    dsimp only [List.cons_append] at N19
    walk_at "go"
    have hm1 : 0 ≤ draw.fmod im.length := Int.fmod_nonneg_of_pos _ (by omega)
    have hm2 : draw.fmod im.length < im.length := Int.fmod_lt_of_pos _ (by omega)
    refine ne_same (n₁ := tups) (n₂ := tups2) N19 (oa := W.listOf vs15.toArray c15) (ob := W.listOf vs19.toArray c19) (by (repeat (with_reducible first | exact List.mem_cons_self | refine List.mem_cons_of_mem _ ?_ | refine List.mem_append_right _ ?_))) rfl rfl (pairsDat p15) (by ((repeat (refine List.forall_mem_cons.mpr ⟨?_, ?_⟩; focus (first | ((repeat (with_reducible first | exact List.mem_cons_self | refine List.mem_cons_of_mem _ ?_ | refine List.mem_append_right _ ?_)); done) | k_mem))); first | exact List.forall_mem_nil _ | (intro p hp; repeat (with_reducible first | exact hp | exact List.mem_append_left _ hp | exact List.mem_append_left _ (List.mem_append_left _ hp) | exact List.mem_append_left _ (List.mem_append_right _ hp) | refine List.mem_cons_of_mem _ ?_ | refine List.mem_append_right _ ?_)))) (by (repeat (with_reducible first | exact List.mem_cons_self | refine List.mem_cons_of_mem _ ?_ | refine List.mem_append_right _ ?_))) rfl rfl (pairsDat p19) (by ((repeat (refine List.forall_mem_cons.mpr ⟨?_, ?_⟩; focus (first | ((repeat (with_reducible first | exact List.mem_cons_self | refine List.mem_cons_of_mem _ ?_ | refine List.mem_append_right _ ?_)); done) | k_mem))); first | exact List.forall_mem_nil _ | (intro p hp; repeat (with_reducible first | exact hp | exact List.mem_append_left _ hp | exact List.mem_append_left _ (List.mem_append_left _ hp) | exact List.mem_append_left _ (List.mem_append_right _ hp) | refine List.mem_cons_of_mem _ ?_ | refine List.mem_append_right _ ?_)))) hso2 (show un + 3 + 64 < cLine by omega) ?_
    walk_at "go"
    rename Fr _ _ _ _ => F20
    rename News _ _ _ _ => N20a
    have N20 : News s.heap L _ [(dt, ot), (li, W.listOf ui.toArray ni), (L + 1 + 1 + 1 + 1, ob), (L + 1 + 1 + 1, oz), (L + 1 + 1, o3), (L + 1, o4)] := cb_drop N20a (by ((repeat (refine List.forall_mem_cons.mpr ⟨?_, ?_⟩; focus (first | ((repeat (with_reducible first | exact List.mem_cons_self | refine List.mem_cons_of_mem _ ?_ | refine List.mem_append_right _ ?_)); done) | k_mem))); first | exact List.forall_mem_nil _ | (intro p hp; repeat (with_reducible first | exact hp | exact List.mem_append_left _ hp | exact List.mem_append_left _ (List.mem_append_left _ hp) | exact List.mem_append_left _ (List.mem_append_right _ hp) | refine List.mem_cons_of_mem _ ?_ | refine List.mem_append_right _ ?_))))
    clear N20a
    have hlisz : ui.toArray.size ≤ sizeLine := by rw [List.size_toArray, sizeLine_eq, show ui.length = im.length + 1 from hil]; omega
    refine kmk_slice F20 N20 (its := ui.toArray) ⟨W.listOf ui.toArray ni, (N20 (li, W.listOf ui.toArray ni) (by (repeat (with_reducible first | exact List.mem_cons_self | refine List.mem_cons_of_mem _ ?_ | refine List.mem_append_right _ ?_)))).1, rfl, _, rfl⟩ .none (.int _ _) (fun D21 h21 F21 N21 l21 => ?_) (by with_unfolding_all rfl) (by intro _; with_unfolding_all rfl) hlisz
    rw [slice_take ui hm1] at N21
    have hx0 : (ns.getD (Int.toNat 0) Str.empty).length ≤ 10 := (okName_getD hgood 0).1
    have hx1 : (Txt.mul (Str.ofString "=") (draw.fmod 2)).length ≤ 1 := mul_len draw
    walk_at "go"
    rename Fr _ _ _ _ => F22
    rename News _ _ _ _ => N22
    obtain ⟨l22, e⟩ := nm1 N22; subst e
    refine add_arrays F22 N22 ⟨_, (N22 _ (List.mem_cons_of_mem _ List.mem_cons_self)).1, rfl, _, rfl⟩ ⟨_, (N22 _ List.mem_cons_self).1, rfl, _, rfl⟩ (fun h23 F23 N23 => ?_) (by rw [List.size_toArray, sizeLine_eq, List.length_take]; show min _ _ + 1 ≤ _; omega)
    walk_at "go"
    rename Fr _ _ _ _ => F24
    rename News _ _ _ _ => N24
    refine kmk_slice F24 N24 (its := ui.toArray) ⟨W.listOf ui.toArray ni, (N24 (li, W.listOf ui.toArray ni) (by (repeat (with_reducible first | exact List.mem_cons_self | refine List.mem_cons_of_mem _ ?_ | refine List.mem_append_right _ ?_)))).1, rfl, _, rfl⟩ (.int _ _) .none (fun D25 h25 F25 N25 l25 => ?_) (by with_unfolding_all rfl) (by intro _; with_unfolding_all rfl) hlisz
    rw [slice_drop ui hm1] at N25
    walk_at "go"
    rename Fr _ _ _ _ => F26
    rename News _ _ _ _ => N26
    have hm4 : (W.listOf (ui.drop (draw.fmod im.length).toNat).toArray 0).cls = .type "list" := rfl
    have i26 := (N26 _ (List.mem_cons_of_mem _ List.mem_cons_self)).1
    have j26 := (N26 _ List.mem_cons_self).1
    refine add_arrays F26 N26 ⟨_, i26, rfl, _, rfl⟩ ⟨_, j26, rfl, _, rfl⟩ (fun h27 F27 N27 => ?_) ?sz
    case sz => have hil : ui.length = im.length + 1 := hil; simp only [List.size_toArray, List.length_append, Array.length_toList, List.length_take, List.length_drop, sizeLine_eq, List.length_cons, List.length_nil]; omega
    walk_at "go"
    rename Fr _ _ _ _ => F28
    rename News _ _ _ _ => N28
    have hd2 : draw.fmod 2 = 0 ∨ draw.fmod 2 = 1 := by
      have q1 := Int.fmod_nonneg_of_pos draw (show (0 : Int) < 2 by omega)
      have q2 := Int.fmod_lt_of_pos draw (show (0 : Int) < 2 by omega)
      omega
    have hbad := bad_eq (ns.getD (Int.toNat 0) Str.empty) hd2
    rw [hbad] at N28
    refine ⟨X.keeps F28.keep, use_ctrX (refused_ctr XB TB _ _ (((List.range (im.length + 1)).map (wsOf ns im draw)).take (draw.fmod im.length).toNat) (decide (draw.fmod 2 = 1)) (ns.getD (Int.toNat 0) Str.empty) ((((List.range (im.length + 1)).map (wsOf ns im draw)).map kv).drop (draw.fmod im.length).toNat) ?hus ?hbk ?hws ?hwl) B KD F28 N28 rfl rfl (by omega) (by omega) ⟨_, (N28 _ List.mem_cons_self).1, rfl, _, rfl⟩ (fun v30 h30 tk30 g30 T30 F30 N30 B30 D30 p30 => ?_)⟩
    case hus =>
      have hui8 : StrsAre ui (((List.range (im.length + 1)).map (wsOf ns im draw)).map kv) := by assumption
      exact spoil hui8 _ _ _
    case hbk => exact ⟨ok_no61 (okName_getD hgood 0), by omega⟩
    case hws => exact fun p hp => hwsok p (List.mem_of_mem_take hp)
    case hwl => rw [List.length_take, List.length_map, List.length_range]; omega
    obtain ⟨t30, rfl⟩ := p30
    have e30 : (if decide (draw.fmod 2 = 1) = true then (1 : Int) else 0) = draw.fmod 2 := by rcases hd2 with h | h <;> rw [h] <;> rfl
    rw [e30]
    have X30 := XB.keeps B30.stays
    have P30 := TB.keeps B30.stays
    have ln30 := turn_list T30 KD p1
    clear T X
    walk_at "go"
    · rename Fr _ _ _ _ => F31
      rename News _ _ _ _ => N31
      refine LCg.ListComp_U (F₀ := F31) (by with_unfolding_all rfl) (by decide) (by rfl) (by decide) (by rfl) ?_
      walk_at "go"
      rename Fr _ _ _ _ => F32
      rename News _ _ _ _ => N32
      have hvl : vn.length = ns.length := by replace hun : StrsAre vn ns := by assumption
                                             exact hun.length
      refine kmk_slice F32 N32 (its := vn.toArray) (ln30.at fun o e => F32.keep ln o e) .none (.int _ _) (fun D33 h33 F33 N33 l33 => ?_) (by with_unfolding_all rfl) (by intro _; with_unfolding_all rfl) (by rw [List.size_toArray, sizeLine_eq, hvl]; omega)
      rw [slice_take vn (show (0 : Int) ≤ im.length by omega)] at N33
      have N34 : News g30 L h33 [(D33, W.listOf (vn.take ((im.length : Int)).toNat).toArray 0), (dt, ot), (L + 1 + 1 + 1 + 1, ob)] := cb_drop N33 (by ((repeat (refine List.forall_mem_cons.mpr ⟨?_, ?_⟩; focus (first | ((repeat (with_reducible first | exact List.mem_cons_self | refine List.mem_cons_of_mem _ ?_ | refine List.mem_append_right _ ?_)); done) | k_mem))); first | exact List.forall_mem_nil _ | (intro p hp; repeat (with_reducible first | exact hp | exact List.mem_append_left _ hp | exact List.mem_append_left _ (List.mem_append_left _ hp) | exact List.mem_append_left _ (List.mem_append_right _ hp) | refine List.mem_cons_of_mem _ ?_ | refine List.mem_append_right _ ?_))))
      have ldt' : (dt == sysModules) = false := ldt
      have hdk' := hdk
      replace hun : StrsAre vn ns := by assumption
      have hvi : ∀ i v, i < im.length → (vn.take ((im.length : Int)).toNat)[i]? = some v → ∃ t, v = Value.str (ns.getD i Str.empty) t := by
        intro i v hi hv
        rw [List.getElem?_take_of_lt (by omega)] at hv
        obtain ⟨y, ty, rfl, hy⟩ := hun.item i v hv
        refine ⟨ty, ?_⟩
        rw [List.getD_eq_getElem?_getD, hy]; rfl
      have hsl : (vn.take ((im.length : Int)).toNat).toArray.size = im.length := by rw [List.size_toArray, List.length_take]; omega
      refine LCg.CompSrc.ledger rfl F33 N34 List.mem_cons_self (by rw [hsl, sizeLine_eq]; omega) fun g => ?_
      rw [hsl]
      refine rest_fix (fun i ys => StrsAre ys ((imgs ns im).take i)) .nil ?_ ?_
      · rintro i ys v I oI C oC D m₂ h tk2 E' hi hy hv hC hx4 F4 N4 off ne
        obtain ⟨tv, rfl⟩ := hvi i v hi (by simpa using hv)
        walk_at "go"
        refine getItem_tab PyProof.V.same_str (strKind_is _ _ _ _) (D := denc ((toldOf ns im draw).foldl dput [])) (dv := .str (ns.getD (im.getD i 0).toNat Str.empty)) ⟨ldt', kvs, Heap.dictOf_iff.mpr ⟨ot, (N4 (dt, ot) (by (repeat (with_reducible first | exact List.mem_cons_self | refine List.mem_cons_of_mem _ ?_ | refine List.mem_append_right _ ?_)))).1, hdk'⟩, hks⟩ (told_lookup hnd h2 hi) (fun v35 hv35 => ?_)
        obtain ⟨t35, rfl⟩ := flat_str_inv hv35
        refine LCg.CompEnd.intro F4 N4 _ (fun _ hp => hp) off (.inr ⟨_, List.mem_cons_self, rfl, _, rfl⟩) ⟨rfl, ?_⟩
        rw [imgs_take hi]
        exact KStt.strs_snoc hy
      · rintro ys hy D h tk5 F5 N5 hD
        walk_at "go"
        have hDD := N5 _ List.mem_cons_self
        refine hret _ _ _ (Ext.ofTurn T30 F5.keep) ⟨D, ys, _, rfl, ?_, hDD.1, ?_⟩
        · cases q : s.heap.get? D with
          | none => rfl
          | some o =>
            obtain ⟨sl, hsl⟩ := T30.up q
            rw [hDD.2.2] at hsl; cases hsl
        · have e : (imgs ns im).take im.length = imgs ns im := List.take_of_length_le (by simp [imgs])
          rw [← e]
          exact hy
    · exact absurd rfl (by assumption)
end Mine
end

section
open PySem PySem.W PyProof.Rows PySem.Calls PySem.Spec PyProof.V
namespace Mine
noncomputable def qI (im : List Int) (i j : Nat) : Str := if im.getD j 0 > im.getD i 0 then Str.ofString "\"" else Str.ofString "n"
noncomputable def qRow (im : List Int) (i : Nat) (k : Nat) (a : Str) : Str := (List.range k).foldl (fun a j => a ++ qI im i j) a
noncomputable def qAll (im : List Int) (n : Nat) : Str := (List.range n).foldl (fun a i => qRow im i i a) (Str.ofString "")
noncomputable def upTo : List Str → Bool
  | [] => true
  | a :: l => l.all (fun b => coll a b == -1) && upTo l
theorem pw_of : ∀ l : List Str, upTo l = true → l.Pairwise (fun a b => coll a b = -1)
  | [], _ => .nil
  | a :: l, h => by
    unfold upTo at h
    rw [Bool.and_eq_true, List.all_eq_true] at h
    exact .cons (fun b hb => by simpa using h.1 b hb) (pw_of l h.2)
theorem tw_pw : twelve.Pairwise (fun a b => coll a b = -1) := by
  rw [twelve_C]
  exact pw_of _ (by decide +kernel)
theorem up_at {ns : List Str} (h : ns.Sublist twelve) {i j : Nat} (hij : i < j) (hj : j < ns.length) : coll (ns.getD i Str.empty) (ns.getD j Str.empty) = -1 := by
  have := List.pairwise_iff_getElem.mp (tw_pw.sublist h) i j (by omega) hj hij
  rw [List.getD_eq_getElem?_getD, List.getD_eq_getElem?_getD, List.getElem?_eq_getElem hj, List.getElem?_eq_getElem (show i < ns.length by omega)]
  exact this
theorem imgs_len (ns : List Str) (im : List Int) : (imgs ns im).length = im.length := by unfold imgs; simp
theorem imgs_getD {ns : List Str} {im : List Int} {i : Nat} (hi : i < im.length) : (imgs ns im).getD i Str.empty = ns.getD (im.getD i 0).toNat Str.empty := by
  rw [List.getD_eq_getElem?_getD]
  unfold imgs
  rw [List.getElem?_map, List.getElem?_range hi]; rfl
theorem getD_in {im : List Int} {n : Nat} (him : ∀ x ∈ im, 0 ≤ x ∧ x < n) {i : Nat} (hi : i < im.length) : 0 ≤ im.getD i 0 ∧ im.getD i 0 < n := by
  rw [List.getD_eq_getElem?_getD, List.getElem?_eq_getElem hi]
  exact him _ (List.getElem_mem hi)
theorem sg_imgs {ns : List Str} {im : List Int} (hs : ns.Sublist twelve) (him : ∀ x ∈ im, 0 ≤ x ∧ x < ns.length) {i j : Nat} (hi : i < im.length) (hj : j < im.length) : sg (imgs ns im) i j = qI im i j := by
  unfold sg qI
  rw [imgs_getD hi, imgs_getD hj]
  have bi := getD_in him hi
  have bj := getD_in him hj
  generalize im.getD i 0 = x at *
  generalize im.getD j 0 = y at *
  have e : (coll (ns.getD y.toNat Str.empty) (ns.getD x.toNat Str.empty) = 1) ↔ y > x := by
    rcases Int.lt_trichotomy x y with h | h | h
    · have := up_at hs (i := x.toNat) (j := y.toNat) (by omega) (by omega)
      rcases coll_tri (ns.getD x.toNat Str.empty) (ns.getD y.toNat Str.empty) with ⟨h1, h2, h3⟩ | ⟨h1, h2, h3⟩ | ⟨h1, h2, h3⟩
      · exact ⟨fun _ => h, fun _ => h2⟩
      · omega
      · omega
    · subst h
      rcases coll_tri (ns.getD x.toNat Str.empty) (ns.getD x.toNat Str.empty) with ⟨h1, h2, h3⟩ | ⟨h1, h2, h3⟩ | ⟨h1, h2, h3⟩ <;> omega
    · have := up_at hs (i := y.toNat) (j := x.toNat) (by omega) (by omega)
      constructor
      · intro q; omega
      · intro q; omega
  by_cases h : y > x
  · rw [if_pos h, if_pos (e.mpr h)]
  · rw [if_neg h, if_neg fun q => h (e.mp q)]
theorem fold_same {α β : Type} {f g : β → α → β} : ∀ (l : List α) (b : β), (∀ b, ∀ x ∈ l, f b x = g b x) → l.foldl f b = l.foldl g b
  | [], _, _ => rfl
  | a :: l, b, h => by
    rw [List.foldl_cons, List.foldl_cons, h b a List.mem_cons_self]
    exact fold_same l _ fun b x hx => h b x (List.mem_cons_of_mem _ hx)
theorem sgAll_imgs {ns : List Str} {im : List Int} (hs : ns.Sublist twelve) (him : ∀ x ∈ im, 0 ≤ x ∧ x < ns.length) : sgAll (imgs ns im) (imgs ns im).length = qAll im im.length := by
  rw [imgs_len]
  unfold sgAll qAll
  refine fold_same _ _ fun b i hi => ?_
  have hi := List.mem_range.mp hi
  unfold sgRow qRow
  refine fold_same _ _ fun b j hj => ?_
  have hj := List.mem_range.mp hj
  rw [sg_imgs hs him hi (by omega)]
theorem imgs_nodup {ns : List Str} {im : List Int} (hs : ns.Sublist twelve) (him : ∀ x ∈ im, 0 ≤ x ∧ x < ns.length) (hn : im.Nodup) : (imgs ns im).Nodup := by
  rw [List.Nodup, List.pairwise_iff_getElem]
  intro i j hi hj hij e
  rw [imgs_len] at hi hj
  have hnd : ns.Nodup := hs.nodup (by rw [twelve_C]; decide +kernel)
  have e1 : (imgs ns im).getD i Str.empty = (imgs ns im).getD j Str.empty := by
    rw [List.getD_eq_getElem?_getD, List.getD_eq_getElem?_getD, List.getElem?_eq_getElem (by rw [imgs_len]; exact hi), List.getElem?_eq_getElem (by rw [imgs_len]; exact hj), e]
  rw [imgs_getD hi, imgs_getD hj] at e1
  have bi := getD_in him hi
  have bj := getD_in him hj
  have e2 := nodup_getD hnd (by omega) (by omega) e1
  have e3 : im.getD i 0 = im.getD j 0 := by omega
  rw [List.getD_eq_getElem?_getD, List.getD_eq_getElem?_getD, List.getElem?_eq_getElem hi, List.getElem?_eq_getElem hj] at e3
  have := (List.getElem_inj hn).mp (by simpa using e3)
  omega
/-- the pictures of a turn: h times each place, by k -/
noncomputable def pics (h k : Int) (n : Nat) : List Int := (List.range n).map fun (x : Nat) => (h * (x : Int)).fmod k
theorem pics_len (h k : Int) (n : Nat) : (pics h k n).length = n := by unfold pics; simp
theorem pics_succ (h k : Int) (n : Nat) : pics h k (n + 1) = pics h k n ++ [(h * (n : Int)).fmod k] := by
  unfold pics; rw [List.range_succ, List.map_append]; rfl
theorem pics_in {h k : Int} (hk : 0 < k) (n : Nat) : ∀ x ∈ pics h k n, 0 ≤ x ∧ x < k := by
  intro x hx
  unfold pics at hx
  obtain ⟨y, _, rfl⟩ := List.mem_map.mp hx
  exact ⟨Int.fmod_nonneg_of_pos _ hk, Int.fmod_lt_of_pos _ hk⟩
end Mine
end

section
open PySem PySem.W PyProof.Rows PySem.Calls PySem.Spec PyProof.V
namespace Mine
noncomputable def sqs (k : Int) (n : Nat) : List Int := (List.range n).map fun (i : Nat) => ((1 + (i : Int)) * (1 + (i : Int))).fmod k
theorem sqs_succ (k : Int) (n : Nat) : sqs k (n + 1) = sqs k n ++ [((1 + (n : Int)) * (1 + (n : Int))).fmod k] := by
  unfold sqs; rw [List.range_succ, List.map_append]; rfl
noncomputable def allPairsL : List (Int × Int) := [(3, 1), (3, 2), (5, 1), (5, 2), (5, 3), (5, 4), (7, 1), (7, 2), (7, 3), (7, 4), (7, 5), (7, 6)]
theorem allPairs {P : Int → Int → Prop} (hq : ∀ p ∈ allPairsL, P p.1 p.2) {k h : Int} (hk : k = 3 ∨ k = 5 ∨ k = 7) (hh : 1 ≤ h ∧ h ≤ k - 1) : P k h := by
  unfold allPairsL at hq
  rcases hk with rfl | rfl | rfl
  · have : h = 1 ∨ h = 2 := by omega
    rcases this with rfl | rfl
    · exact hq (3, 1) (by decide)
    · exact hq (3, 2) (by decide)
  · have : h = 1 ∨ h = 2 ∨ h = 3 ∨ h = 4 := by omega
    rcases this with rfl | rfl | rfl | rfl
    · exact hq (5, 1) (by decide)
    · exact hq (5, 2) (by decide)
    · exact hq (5, 3) (by decide)
    · exact hq (5, 4) (by decide)
  · have : h = 1 ∨ h = 2 ∨ h = 3 ∨ h = 4 ∨ h = 5 ∨ h = 6 := by omega
    rcases this with rfl | rfl | rfl | rfl | rfl | rfl
    · exact hq (7, 1) (by decide)
    · exact hq (7, 2) (by decide)
    · exact hq (7, 3) (by decide)
    · exact hq (7, 4) (by decide)
    · exact hq (7, 5) (by decide)
    · exact hq (7, 6) (by decide)
noncomputable def qC (im : List Int) (i j : Nat) : Str := if im.getD j 0 > im.getD i 0 then ⟨#[34]⟩ else ⟨#[110]⟩
noncomputable def qRowC (im : List Int) (i : Nat) (k : Nat) (a : Str) : Str := (List.range k).foldl (fun a j => a ++ qC im i j) a
noncomputable def qAllC (im : List Int) (n : Nat) : Str := (List.range n).foldl (fun a i => qRowC im i i a) ⟨#[]⟩
theorem qC_eq : qI = qC := by
  funext im i j; unfold qI qC
  rw [show Str.ofString "\"" = ⟨#[34]⟩ from rfl, show Str.ofString "n" = ⟨#[110]⟩ from rfl]
theorem qAll_C : qAll = qAllC := by
  funext im n; unfold qAll qAllC qRow qRowC
  rw [qC_eq]; rfl
structure TurnOk (k h : Int) (S1 S2 : Str) (a1 a2 : Int) : Prop where
  q1 : S1 ≠ ⟨#[63]⟩
  q2 : S2 ≠ ⟨#[63]⟩
  b1 : 0 ≤ a1 ∧ a1 ≤ 21
  b2 : 0 ≤ a2 ∧ a2 ≤ 21
  eq : 4 * (h * a1 + k * a2) = (h - 1) * (k - 1) * (h + k - 1)
  b3 : 0 ≤ h * a1 ∧ h * a1 ≤ 1000
  b4 : 0 ≤ k * a2 ∧ k * a2 ≤ 1000
  b5 : 0 ≤ (h - 1) * (k - 1) ∧ (h - 1) * (k - 1) ≤ 1000
  l1 : S1.length ≤ 100
  hp : hparse (S1 ++ ⟨#[44, 120]⟩) = if (sqs k (k - 1).toNat).any (fun x => x == h) = true then [S1, ⟨#[120]⟩] else [S1 ++ ⟨#[44, 120]⟩]
  k1 : kqdOk 8 (Dat.str S1) = true
  k2 : kqdOk 8 (Dat.str (S1 ++ ⟨#[44, 120]⟩)) = true
  n1 : (pics h k k.toNat).Nodup
  n2 : (pics k h h.toNat).Nodup
noncomputable def okNum (k h a1 a2 : Int) : Bool := decide (0 ≤ a1 ∧ a1 ≤ 21) && decide (0 ≤ a2 ∧ a2 ≤ 21) && decide (4 * (h * a1 + k * a2) = (h - 1) * (k - 1) * (h + k - 1)) && decide (0 ≤ h * a1 ∧ h * a1 ≤ 1000) && decide (0 ≤ k * a2 ∧ k * a2 ≤ 1000) && decide (0 ≤ (h - 1) * (k - 1) ∧ (h - 1) * (k - 1) ≤ 1000)
noncomputable def okTurn (k h : Int) (S1 S2 : Str) (a1 a2 : Int) : Bool :=
  decide (S1 ≠ ⟨#[63]⟩) && decide (S2 ≠ ⟨#[63]⟩) && okNum k h a1 a2 && decide (S1.length ≤ 100)
  && decide (hparse (S1 ++ ⟨#[44, 120]⟩) = if (sqs k (k - 1).toNat).any (fun x => x == h) = true then [S1, ⟨#[120]⟩] else [S1 ++ ⟨#[44, 120]⟩])
  && kqdOk 8 (Dat.str S1) && kqdOk 8 (Dat.str (S1 ++ ⟨#[44, 120]⟩)) && decide (pics h k k.toNat).Nodup && decide (pics k h h.toNat).Nodup
theorem okTurn_is {k h : Int} {S1 S2 : Str} {a1 a2 : Int} (e : okTurn k h S1 S2 a1 a2 = true) : TurnOk k h S1 S2 a1 a2 := by
  unfold okTurn okNum at e
  simp only [Bool.and_eq_true, decide_eq_true_eq] at e
  obtain ⟨⟨⟨⟨⟨⟨⟨⟨q1, q2⟩, ⟨⟨⟨⟨⟨b1, b2⟩, eq⟩, b3⟩, b4⟩, b5⟩⟩, l1⟩, hp⟩, k1⟩, k2⟩, n1⟩, n2⟩ := e
  exact ⟨q1, q2, b1, b2, eq, b3, b4, b5, l1, hp, k1, k2, n1, n2⟩
noncomputable def okPair (k h : Int) : Bool :=
  okTurn k h (qAllC (pics h k k.toNat) k.toNat) (qAllC (pics k h h.toNat) h.toNat) (Txt.count (qAllC (pics h k k.toNat) k.toNat) ⟨#[34]⟩) (Txt.count (qAllC (pics k h h.toNat) h.toNat) ⟨#[34]⟩)
theorem okAll : (allPairsL.all fun p => okPair p.1 p.2) = true := by decide +kernel
theorem turn_ok {k h : Int} (hk : k = 3 ∨ k = 5 ∨ k = 7) (hh : 1 ≤ h ∧ h ≤ k - 1) : TurnOk k h (qAll (pics h k k.toNat) k.toNat) (qAll (pics k h h.toNat) h.toNat) (Txt.count (qAll (pics h k k.toNat) k.toNat) (Str.ofString "\"")) (Txt.count (qAll (pics k h h.toNat) h.toNat) (Str.ofString "\"")) := by
  rw [qAll_C, show Str.ofString "\"" = ⟨#[34]⟩ from rfl]
  refine okTurn_is (allPairs (P := fun k h => okPair k h = true) ?_ hk hh)
  intro p hp
  exact List.all_eq_true.mp okAll p hp
end Mine
end

section
open PySem PySem.W PyProof.Rows PySem.Calls PySem.Spec PyProof.V
namespace Mine
noncomputable def drawnOf (script : List Int) : List Int := (script.take 60).map (·.fmod 5040)
theorem drawn_take {script : List Int} {i : Nat} {x : Int} (h : (script.take 60)[i]? = some x) : (drawnOf script).take (i + 1) = (drawnOf script).take i ++ [x.fmod 5040] := by
  rw [List.take_add_one]
  have : (drawnOf script)[i]? = some (x.fmod 5040) := by
    unfold drawnOf; rw [List.getElem?_map, h]; rfl
  rw [this]; rfl
theorem asg_cell {M : Model} {A : Around} {E : Value → Shared → Prop} {Q : Flow → Shared → Prop} {s : Shared} {env : Env} {x : Str} {pos' pos : Pos} {value : Expr} (hs : swapsWith value (some (.Name x pos')) pos.line env = pure false)
    (h : wpAny M A (eval value env) (fun v s' => wpAny M A (bindName env x v) (fun _ s'' => Q .next s'') E s') E s) : wpAny M A (exec (.Assign [.Name x pos'] value pos) env) Q E s := by
  rw [exec_Assign_Name (hs := hs)]
  refine wpAny_bind (wpAny_standAt (wpAny_bind ?_))
  exact wpAny_mono h (fun v s' h' => wpAny_bind (wpAny_standAt (wpAny_bind (wpAny_mono h' (fun _ _ q => wpAny_pure q) fun _ _ e => e)))) fun _ _ e => e
noncomputable def intOf : Value → Int
  | .int n _ => n
  | _ => 0
theorem ints_of : ∀ l : List Value, (∀ v ∈ l, ∃ n t, v = .int n t) → IntsAre l (l.map intOf)
  | [], _ => .nil
  | v :: l, h => by
    obtain ⟨n, t, rfl⟩ := h v List.mem_cons_self
    exact .cons n t (ints_of l fun v hv => h v (List.mem_cons_of_mem _ hv))
theorem pick_mem {a : Array Value} {lo hi st : Option Int} {v : Value} (h : v ∈ (slicePick a lo hi st).toList) : v ∈ a.toList := by
  unfold slicePick at h
  simp only [List.mem_filterMap] at h
  obtain ⟨i, _, e⟩ := h
  obtain ⟨hi, rfl⟩ := Array.getElem?_eq_some_iff.mp e
  simp
noncomputable def pickOf (ys : List Value) (i : Nat) : List Int := (slicePick ys.toArray (some (i : Int)) none (some 10)).toList.map intOf
theorem pick_ints {ys : List Value} {xs : List Int} (h : IntsAre ys xs) (i : Nat) : IntsAre (slicePick ys.toArray (some (i : Int)) none (some 10)).toList (pickOf ys i) := by
  refine ints_of _ fun v hv => ?_
  have := pick_mem hv
  obtain ⟨j, hj, e⟩ := List.getElem_of_mem this
  obtain ⟨c, t, e', _⟩ := ints_item h (i := j) (v := v) (by rw [← e, List.getElem?_eq_getElem])
  exact ⟨c, t, e'⟩
theorem ev_new {h₀ h : Heap} {L : Addr} {m : Str → Option Value} (F : Fr h₀ L h m) : ∀ b, @LE.le Nat _ h.objs.size b → h₀.get? b = none ∧ b ≠ L := fun b hb => by
  refine ⟨?_, Nat.ne_of_gt (Nat.lt_of_lt_of_le F.ns.lt hb)⟩
  cases q : h₀.get? b with
  | none => rfl
  | some o => exact absurd (Heap.lt_size (F.keep b o q)) (Nat.not_lt.mpr hb)
theorem nameZ {x : Int} (h : 0 ≤ x ∧ x ≤ 302340) (a : Int) (ha : 0 ≤ a ∧ a ≤ 5) : ∃ c, a + x = c ∧ 0 ≤ c ∧ c ≤ 400000 := ⟨_, rfl, by omega, by omega⟩
noncomputable def tokAt : List Value → Nat → Tok
  | [], _ => 0
  | .int _ t :: _, 0 => t
  | _ :: _, 0 => 0
  | _ :: vs, i + 1 => tokAt vs i
noncomputable def withToks (g : Nat → Tok) : List Int → Nat → List Value
  | [], _ => []
  | x :: xs, i => .int x (g i) :: withToks g xs (i + 1)
theorem ints_toks : ∀ {us : List Value} {xs : List Int}, IntsAre us xs → ∀ (g : Nat → Tok) (k : Nat), (∀ i, g (k + i) = tokAt us i) → us = withToks g xs k
  | _, _, .nil, _, _, _ => rfl
  | _, _, .cons n t h, g, k, hg => by
    show _ :: _ = _ :: _
    rw [show g k = t from hg 0, ← ints_toks h g (k + 1) fun i => by rw [Nat.add_assoc, Nat.add_comm 1 i]; exact hg (i + 1)]
theorem ten {us : List Value} {f : Nat → Int → Int} (h : IntsAre us (tailOf f [0, 1, 1, 2, 5, 5, 5, 3, 1, 1] 0)) : ∃ t0 t1 t2 t3 t4 t5 t6 t7 t8 t9, us = [.int (f 0 0) t0, .int (f 1 1) t1, .int (f 2 1) t2, .int (f 3 2) t3, .int (f 4 5) t4, .int (f 5 5) t5, .int (f 6 5) t6, .int (f 7 3) t7, .int (f 8 1) t8, .int (f 9 1) t9] :=
  ⟨tokAt us 0, tokAt us 1, tokAt us 2, tokAt us 3, tokAt us 4, tokAt us 5, tokAt us 6, tokAt us 7, tokAt us 8, tokAt us 9, ints_toks h (tokAt us) 0 fun i => by rw [Nat.zero_add]⟩
theorem drawn_mem (script : List Int) : ∀ x ∈ drawnOf script, 0 ≤ x ∧ x ≤ 5039 := by
  intro x hx
  unfold drawnOf at hx
  obtain ⟨y, _, rfl⟩ := List.mem_map.mp hx
  have q1 := Int.fmod_nonneg_of_pos y (show (0 : Int) < 5040 by omega)
  have q2 := Int.fmod_lt_of_pos y (show (0 : Int) < 5040 by omega)
  omega
theorem sum_bound : ∀ l : List Int, (∀ x ∈ l, 0 ≤ x ∧ x ≤ 5039) → 0 ≤ l.sum ∧ l.sum ≤ 5039 * l.length
  | [], _ => by simp
  | a :: l, h => by
    have h1 := h a List.mem_cons_self
    have h2 := sum_bound l fun x hx => h x (List.mem_cons_of_mem _ hx)
    rw [List.sum_cons, List.length_cons]
    omega
theorem pick_bound {ys : List Value} {xs : List Int} (h : IntsAre ys xs) (hm : ∀ x ∈ xs, 0 ≤ x ∧ x ≤ 5039) (hl : xs.length ≤ 60) (i : Nat) : 0 ≤ (pickOf ys i).sum ∧ (pickOf ys i).sum ≤ 302340 := by
  have h1 := sum_bound (pickOf ys i) (by
    intro x hx
    unfold pickOf at hx
    obtain ⟨v, hv, rfl⟩ := List.mem_map.mp hx
    have := pick_mem hv
    obtain ⟨j, hj, e⟩ := List.getElem_of_mem this
    obtain ⟨c, t, e', hc⟩ := ints_item h (i := j) (v := v) (by rw [← e, List.getElem?_eq_getElem])
    rw [e']; exact hm c hc)
  have h2 : (pickOf ys i).length ≤ 60 := by
    unfold pickOf
    rw [List.length_map, Array.length_toList]
    have q := slicePick_size_le ys.toArray (some (i : Int)) none (some 10)
    have q2 : ys.toArray.size = xs.length := by rw [List.size_toArray]; exact h.length
    omega
  omega
theorem news_newL {h₀ h h' : Heap} {L a : Addr} {m : Str → Option Value} {o : Obj} {news : List (Addr × Obj)} (F : Fr h₀ L h m) (N : News h₀ L h' news) (h0 : h.get? a = none) (ha : h'.get? a = some o) : News h₀ L h' ((a, o) :: news) := by
  intro p hp
  rcases List.mem_cons.mp hp with rfl | hp
  · refine ⟨ha, ?_, kts_none F.keep h0⟩
    rintro rfl
    obtain ⟨o', _, _, ho, _⟩ := F.ns
    rw [h0] at ho; cases ho
  · exact N p hp
theorem use_law {w : World} {base g : Heap} {f : Addr} {args : List Value} {d u : Nat} {Pre : Heap → Prop} {Post : Heap → Heap → Value → Prop} {env : Env} {L : Addr} {m : Str → Option Value} {news : List (Addr × Obj)} {s : Shared} {Q E : Value → Shared → Prop}
    (C : CtrX w base f args d u Pre Post) (B : Below callerA base [] g) (F : Fr g L s.heap m) (N : News g L s.heap news) (hf : env.frame = some L) (hk : env.scope.kind = .function) (hd : 1 + claimMargin + 1 + d < recursionLimit) (hu : 4 + 3 + u < cLine) (hp : Pre s.heap)
    (h : ∀ v h' tk', Fr g L h' m → News g L h' news → Post s.heap h' v → Q v { s with heap := h', toks := tk' }) :
    wpAny (model PySem.Challenge.rw_pk0041_01.row.prog w) (callerA.deeper env) (call (.ref f) args) Q E s := by
  have KD0 : KtsDicts (frs []) g := fun b hb => absurd hb List.not_mem_nil
  refine use_ctrX (dp := 1 + claimMargin) (un := 4) (gd := some []) (envs := []) C B KD0 F N hf hk hd hu hp (fun v h' tk' g' T F' N' _ _ p => ?_)
  have up : ∀ b o, g.get? b = some o → g'.get? b = some o := fun b o e => T.other b o e List.not_mem_nil
  refine h v h' tk' ⟨F'.ns, fun b o e => F'.keep b o (up b o e), F.above⟩ (fun q hq => ⟨(N' q hq).1, (N' q hq).2.1, ?_⟩) p
  exact (N q hq).2.2
theorem apart_of {c : Addr} : ∀ {l : List (Addr × Obj)}, (∀ p ∈ l, p.1 ≠ c) → ApartOr c l
  | [], _ => trivial
  | _ :: _, h => ⟨.inl (h _ List.mem_cons_self), apart_of fun p hp => h p (List.mem_cons_of_mem _ hp)⟩
theorem nmI {h : Heap} {l : Addr} {a : Array Value} (_ : h.IsList l a) : ∃ x, x = l := ⟨l, rfl⟩
theorem post_ok (script : List Int) : Challenge.rw_pk0041_01.row.claim.post [ofPy (PyData.list (List.map PyData.int script))] (WData.bool true) [ofPy (PyData.list (List.map PyData.int script))] = true := by
  kc_post
theorem use_lawS {w : World} {base g : Heap} {f : Addr} {args : List Value} {d u : Nat} {Pre : Heap → Prop} {Post : Heap → Heap → Value → Prop} {env : Env} {L : Addr} {m : Str → Option Value} {news : List (Addr × Obj)} {s : Shared} {Q E : Value → Shared → Prop}
    (C : Ctr w base f args d u Pre Post) (B : Below callerA base [] g) (F : Fr g L s.heap m) (N : News g L s.heap news) (hf : env.frame = some L) (hk : env.scope.kind = .function) (hd : 1 + claimMargin + 1 + d < recursionLimit) (hu : 4 + 3 + u < cLine) (hp : Pre s.heap)
    (h : ∀ v h' tk', Fr g L h' m → News g L h' news → Post s.heap h' v → Q v { s with heap := h', toks := tk' }) :
    wpAny (model PySem.Challenge.rw_pk0041_01.row.prog w) (callerA.deeper env) (call (.ref f) args) Q E s := by
  refine use_ctr (dp := 1 + claimMargin) (un := 4) (gd := some []) (envs := []) C B F N hf hk hd hu hp (fun v h' tk' _ F' N' p => ?_)
  exact h v h' tk' F' N' p
theorem use_listX {w : World} {base g : Heap} {f : Addr} {args : List Value} {d u : Nat} {Pre : Heap → Prop} {P : List Value → Prop} {env : Env} {L : Addr} {m : Str → Option Value} {news : List (Addr × Obj)} {s : Shared} {Q E : Value → Shared → Prop}
    (C : CtrX w base f args d u Pre (fun h h' v => ∃ D us n, v = .ref D ∧ h.get? D = none ∧ h'.get? D = some (W.listOf us.toArray n) ∧ P us)) (B : Below callerA base [] g) (F : Fr g L s.heap m) (N : News g L s.heap news) (hf : env.frame = some L) (hk : env.scope.kind = .function) (hd : 1 + claimMargin + 1 + d < recursionLimit) (hu : 4 + 3 + u < cLine) (hp : Pre s.heap)
    (keep : List (Addr × Obj)) (hs : ∀ p ∈ keep, p ∈ news)
    (h : ∀ D us n h' tk', Fr g L h' m → News g L h' ((D, W.listOf us.toArray n) :: keep) → P us → Q (.ref D) { s with heap := h', toks := tk' }) :
    wpAny (model PySem.Challenge.rw_pk0041_01.row.prog w) (callerA.deeper env) (call (.ref f) args) Q E s :=
  use_law C B F N hf hk hd hu hp fun v h' tk' F' N' p => by
    obtain ⟨D, us, n, rfl, h0, h1, hP⟩ := p
    exact h D us n h' tk' F' (news_newL F (cb_drop N' hs) h0 h1) hP
theorem use_names {w : World} {base g : Heap} {f : Addr} {args : List Value} {d u : Nat} {Pre : Heap → Prop} {size : Int} {env : Env} {L : Addr} {m : Str → Option Value} {news : List (Addr × Obj)} {s : Shared} {Q E : Value → Shared → Prop}
    (C : CtrX w base f args d u Pre (fun h h' v => ∃ D us n ns, v = .ref D ∧ h.get? D = none ∧ h'.get? D = some (W.listOf us.toArray n) ∧ StrsAre us ns ∧ ns.Sublist twelve ∧ (ns.length : Int) = size)) (B : Below callerA base [] g) (F : Fr g L s.heap m) (N : News g L s.heap news) (hf : env.frame = some L) (hk : env.scope.kind = .function) (hd : 1 + claimMargin + 1 + d < recursionLimit) (hu : 4 + 3 + u < cLine) (hp : Pre s.heap)
    (keep : List (Addr × Obj)) (hs : ∀ p ∈ keep, p ∈ news)
    (h : ∀ D us n ns h' tk', Fr g L h' m → News g L h' ((D, W.listOf us.toArray n) :: keep) → StrsAre us ns → ns.Sublist twelve → (ns.length : Int) = size → Q (.ref D) { s with heap := h', toks := tk' }) :
    wpAny (model PySem.Challenge.rw_pk0041_01.row.prog w) (callerA.deeper env) (call (.ref f) args) Q E s :=
  use_law C B F N hf hk hd hu hp fun v h' tk' F' N' p => by
    obtain ⟨D, us, n, ns, rfl, h0, h1, q1, q2, q3⟩ := p
    exact h D us n ns h' tk' F' (news_newL F (cb_drop N' hs) h0 h1) q1 q2 q3
theorem use_listS {w : World} {base g : Heap} {f : Addr} {args : List Value} {d u : Nat} {Pre : Heap → Prop} {P : List Value → Prop} {env : Env} {L : Addr} {m : Str → Option Value} {news : List (Addr × Obj)} {s : Shared} {Q E : Value → Shared → Prop}
    (C : Ctr w base f args d u Pre (fun h h' v => ∃ D us n, v = .ref D ∧ h.get? D = none ∧ h'.get? D = some (W.listOf us.toArray n) ∧ P us)) (B : Below callerA base [] g) (F : Fr g L s.heap m) (N : News g L s.heap news) (hf : env.frame = some L) (hk : env.scope.kind = .function) (hd : 1 + claimMargin + 1 + d < recursionLimit) (hu : 4 + 3 + u < cLine) (hp : Pre s.heap)
    (keep : List (Addr × Obj)) (hs : ∀ p ∈ keep, p ∈ news)
    (h : ∀ D us n h' tk', Fr g L h' m → News g L h' ((D, W.listOf us.toArray n) :: keep) → P us → Q (.ref D) { s with heap := h', toks := tk' }) :
    wpAny (model PySem.Challenge.rw_pk0041_01.row.prog w) (callerA.deeper env) (call (.ref f) args) Q E s :=
  use_lawS C B F N hf hk hd hu hp fun v h' tk' F' N' p => by
    obtain ⟨D, us, n, rfl, h0, h1, hP⟩ := p
    exact h D us n h' tk' F' (news_newL F (cb_drop N' hs) h0 h1) hP
theorem use_strS {w : World} {base g : Heap} {f : Addr} {args : List Value} {d u : Nat} {Pre : Heap → Prop} {x : Str} {env : Env} {L : Addr} {m : Str → Option Value} {news : List (Addr × Obj)} {s : Shared} {Q E : Value → Shared → Prop}
    (C : Ctr w base f args d u Pre (fun _ _ v => ∃ t, v = .str x t)) (B : Below callerA base [] g) (F : Fr g L s.heap m) (N : News g L s.heap news) (hf : env.frame = some L) (hk : env.scope.kind = .function) (hd : 1 + claimMargin + 1 + d < recursionLimit) (hu : 4 + 3 + u < cLine) (hp : Pre s.heap)
    (h : ∀ t h' tk', Fr g L h' m → News g L h' news → Q (.str x t) { s with heap := h', toks := tk' }) :
    wpAny (model PySem.Challenge.rw_pk0041_01.row.prog w) (callerA.deeper env) (call (.ref f) args) Q E s :=
  use_lawS C B F N hf hk hd hu hp fun v h' tk' F' N' p => by
    obtain ⟨t, rfl⟩ := p
    exact h t h' tk' F' N'
theorem imgs_tw {ns : List Str} (h : ∀ x ∈ ns, x ∈ twelve) (im : List Int) : ∀ d ∈ (imgs ns im).map Dat.str, kqdOk 8 d = true := by
  intro d hd
  obtain ⟨x, hx, rfl⟩ := List.mem_map.mp hd
  unfold imgs at hx
  obtain ⟨i, _, rfl⟩ := List.mem_map.mp hx
  exact strOk_of (okName_ascii (tw_ok (tw_getD h _)))
theorem neF {a b : Int} (h : a = b) : (a != b) = false := by subst h; simp
theorem truthy_f {M : Model} {A : Around} {E : Value → Shared → Prop} {s : Shared} {b : Bool} {Q : Bool → Shared → Prop} (hb : b = false) (h : wpAny M A (truthy (.bool false)) Q E s) : wpAny M A (truthy (.bool b)) Q E s := by rw [hb]; exact h

theorem law_holds : PySem.Challenge.rw_pk0041_01.Holds := Mine.hd (by
  k_go0
  rename_i K0 hDf h₁ tk₁ F o3 o2 o1 d3 d2 d1 N Y
  rename Shared => s
  rename World => w
  rename IntsAre _ _ => hI
  rename Frag.In (Mine.hd.heap_39 _) _ => XB
  rename Top _ _ _ _ _ _ => TB
  rename (¬ _ < _) => hlen
  rename Heap.IsList _ _ _ => hl
  rename List Int => script
  rename List Value => us
  replace d1 : o1.data = .cell none := d1
  replace d2 : o2.data = .cell none := d2
  replace d3 : o3.data = .cell none := d3
  have hsl : script.length ≤ 63 := by omega
  clear Y hDf
  obtain ⟨l, e⟩ := nmI hl; subst e
  replace F : Fr s.heap s.heap.objs.size h₁ (mp [(Str.ofString "script", .ref l)]) := F
  generalize hL : s.heap.objs.size = L at F N
  refine wpAny_noRaise ?_
  walk_at "go"
  refine asg_cell (by with_unfolding_all rfl) ?_
  refine LCg.ListComp_U (F₀ := F) (by with_unfolding_all rfl) (by decide) (by rfl) (by decide) (by rfl) ?_
  walk_at "go"
  have hul : us.length = script.length := hI.length
  refine kmk_slice F N (its := us.toArray) (hl.at fun o e => F.keep l o e) .none (.int _ _) (fun D1 h2 F2 N2 l2 => ?_) (by with_unfolding_all rfl) (by intro _; with_unfolding_all rfl) (by rw [List.size_toArray, sizeLine_eq, hul]; omega)
  rw [slice_take us (show (0 : Int) ≤ 60 by omega)] at N2
  have hI2 : IntsAre (us.take 60) (script.take 60) := ints_take hI 60
  have hs2 : (us.take 60).toArray.size = (script.take 60).length := by rw [List.size_toArray]; exact hI2.length
  refine LCg.CompSrc.ledger rfl F2 N2 List.mem_cons_self (by show (us.take 60).toArray.size ≤ _; rw [hs2, sizeLine_eq, List.length_take]; omega) fun g => ?_
  show LCg.CompRest _ _ _ _ _ _ _ _ _ _ _ _ _ _ _ (us.take 60).toArray.size _ _ _
  rw [hs2]
  refine rest_fix (fun i ys => IntsAre ys ((drawnOf script).take i)) .nil ?_ ?_
  · rintro i ys v I oI C oC D m₂ h tk2 E' hi hy hv hC hx4 F4 N4 off ne
    obtain ⟨x, tv, ex, ev⟩ := ints_at hI2 i hi
    obtain rfl : v = .int x tv := by
      have : (us.take 60)[i]? = some v := by simpa using hv
      rw [ev] at this; exact (Option.some.inj this).symm
    walk_at "go"
    refine LCg.CompEnd.intro F4 N4 _ (fun _ hp => hp) off (.inr ⟨_, List.mem_cons_self, rfl, _, rfl⟩) ⟨rfl, ?_⟩
    rw [drawn_take ex]
    exact ints_snoc2 hy
  · rintro ys hy D h tk5 F5 N5 hD
    have hdl : (drawnOf script).length = (script.take 60).length := by simp [drawnOf]
    rw [List.take_of_length_le (by omega)] at hy
    obtain ⟨r1, r2, r3, r4, _⟩ := hD
    have N6 : News s.heap L h ([(D, W.listOf ys.toArray ys.length), (L + 1 + 1 + 1, o3), (L + 1 + 1, o2)] ++ (L + 1, o1) :: []) := cb_drop N5 (by ((repeat (refine List.forall_mem_cons.mpr ⟨?_, ?_⟩; focus (first | ((repeat (with_reducible first | exact List.mem_cons_self | refine List.mem_cons_of_mem _ ?_ | refine List.mem_append_right _ ?_)); done) | k_mem))); first | exact List.forall_mem_nil _ | (intro p hp; repeat (with_reducible first | exact hp | exact List.mem_append_left _ hp | exact List.mem_append_left _ (List.mem_append_left _ hp) | exact List.mem_append_left _ (List.mem_append_right _ hp) | refine List.mem_cons_of_mem _ ?_ | refine List.mem_append_right _ ?_))))
    replace N5 := N6
    clear N6 N2 F2 N F l2
    walk_at "go"
    rename Fr _ _ _ _ => F7
    rename News _ _ _ _ => N7
    rename Obj.data _ = Data.cell (some (Value.ref _)) => dD
    obtain ⟨od, e⟩ := nmO dD; subst e
    refine one_Assign (L := L) (xs := [0, 1, 1, 2, 5, 5, 5, 3, 1, 1]) (f := fun i x => x + (pickOf ys i).sum) rfl F7 N7 rfl (by with_unfolding_all rfl) (by with_unfolding_all rfl) (by decide) (by rfl) (by decide) (by rfl) (by rfl) (by decide) (by with_unfolding_all rfl) (by with_unfolding_all rfl) (by intro _; with_unfolding_all rfl) (by decide) ?elt ?src ?fin
    case src =>
      intro s8 F8 N8
      clear F7 N7
      walk_at "go"
      rename Fr _ _ _ _ => F9
      rename News _ _ _ _ => N9
      obtain ⟨ll, e⟩ := nm1 N9; subst e
      have hll := (N9 _ List.mem_cons_self)
      have hlli := Heap.lt_size hll.1
      refine call_enumerate_list ⟨_, hll.1, rfl, _, rfl⟩ (fun h10 q1 q2 q3 q4 => ?_)
      have zz := ev_new F9
      refine ⟨h10, _, _, _, ll, _, rfl, F9.keeps q4, ?_, rfl, q1, q2, ⟨_, q4 _ _ hll.1, rfl, _, rfl⟩, ?_, ?_, ?_, ?_, zz _ (Nat.le_succ _), zz _ (Nat.le_refl _), ⟨hll.2.2, hll.2.1⟩, ?_⟩
      · exact cb_drop (N9.grown q4) (fun p hp => List.mem_cons_of_mem _ hp)
      · exact .cons _ _ (.cons _ _ (.cons _ _ (.cons _ _ (.cons _ _ (.cons _ _ (.cons _ _ (.cons _ _ (.cons _ _ (.cons _ _ .nil)))))))))
      · exact Nat.ne_of_gt (Nat.lt_succ_self _)
      · exact Nat.ne_of_lt (Nat.lt_succ_of_lt hlli)
      · exact Nat.ne_of_lt hlli
      · intro p hp
        have := Heap.lt_size (N9 p (List.mem_cons_of_mem _ hp)).1
        exact ⟨Nat.ne_of_lt (Nat.lt_succ_of_lt this), Nat.ne_of_lt this⟩
    case elt =>
      intro s8 C h8 tk8 i x t1 t2 m8 oC ext E' hoC hm1 hm2 hx F8 N8
      clear F7 N7
      dsimp only [List.cons_append, List.nil_append] at N8
      walk_at "go"
      rename Fr _ _ _ _ => F9
      rename News _ _ _ _ => N9
      have hysl : ys.length = (drawnOf script).length := hy.length
      refine slice_list3 F9 N9 (items := ys.toArray) ⟨_, (N9 (D, W.listOf ys.toArray ys.length) (by (repeat (with_reducible first | exact List.mem_cons_self | refine List.mem_cons_of_mem _ ?_ | refine List.mem_append_right _ ?_)))).1, rfl, _, rfl⟩ (.int _ _) .none (.int _ _) (by decide) (fun h10 F10 N10 => ?_) (by with_unfolding_all rfl) (by intro _; with_unfolding_all rfl) (by rw [List.size_toArray, sizeLine_eq, hysl, hdl, List.length_take]; omega)
      have hp := pick_ints hy i
      walk_at "go"
      rename Fr _ _ _ _ => F11
      rename News _ _ _ _ => N11
      refine ⟨_, _, _, rfl, F11, ?_, rfl⟩
      exact cb_drop N11 (by ((repeat (refine List.forall_mem_cons.mpr ⟨?_, ?_⟩; focus (first | ((repeat (with_reducible first | exact List.mem_cons_self | refine List.mem_cons_of_mem _ ?_ | refine List.mem_append_right _ ?_)); done) | k_mem))); first | exact List.forall_mem_nil _ | (intro p hp; repeat (with_reducible first | exact hp | exact List.mem_append_left _ hp | exact List.mem_append_left _ (List.mem_append_left _ hp) | exact List.mem_append_left _ (List.mem_append_right _ hp) | refine List.mem_cons_of_mem _ ?_ | refine List.mem_append_right _ ?_))))
    case fin =>
      intro Dc h9 tk9 cc uc F9 N9 nD hc
      clear F7 N7
      have hb := fun i => pick_bound hy (drawn_mem script) (show (drawnOf script).length ≤ 60 by rw [hdl, List.length_take]; omega) i
      obtain ⟨t0, t1, t2, t3, t4, t5, t6, t7, t8, t9, rfl⟩ := ten hc
      obtain ⟨c0, e0, b0⟩ := nameZ (hb 0) 0 (by decide)
      obtain ⟨c1, e1, b1⟩ := nameZ (hb 1) 1 (by decide)
      obtain ⟨c2, e2, b2⟩ := nameZ (hb 2) 1 (by decide)
      obtain ⟨c3, e3, b3⟩ := nameZ (hb 3) 2 (by decide)
      obtain ⟨c4, e4, b4⟩ := nameZ (hb 4) 5 (by decide)
      obtain ⟨c5, e5, b5⟩ := nameZ (hb 5) 5 (by decide)
      obtain ⟨c6, e6, b6⟩ := nameZ (hb 6) 5 (by decide)
      obtain ⟨c7, e7, b7⟩ := nameZ (hb 7) 3 (by decide)
      obtain ⟨c8, e8, b8⟩ := nameZ (hb 8) 1 (by decide)
      obtain ⟨c9, e9, b9⟩ := nameZ (hb 9) 1 (by decide)
      rw [e0, e1, e2, e3, e4, e5, e6, e7, e8, e9] at N9 hc
      clear hb hc
      have hm9 : 0 ≤ c9.fmod 3 ∧ c9.fmod 3 < 3 := ⟨Int.fmod_nonneg_of_pos _ (by omega), Int.fmod_lt_of_pos _ (by omega)⟩
      walk_at "go"
      rename Fr _ _ _ _ => F12
      rename News _ _ _ _ => N12
      have hk3 : (3 + 2 * c9.fmod 3 = 3 ∨ 3 + 2 * c9.fmod 3 = 5 ∨ 3 + 2 * c9.fmod 3 = 7) := by omega
      have hcs : IntsAre [Value.int c0 t0, Value.int c1 t1, Value.int c2 t2, Value.int c3 t3, Value.int c4 t4, Value.int c5 t5, Value.int c6 t6, Value.int c7 t7, Value.int c8 t8, Value.int c9 t9] [c0, c1, c2, c3, c4, c5, c6, c7, c8, c9] := .cons _ _ (.cons _ _ (.cons _ _ (.cons _ _ (.cons _ _ (.cons _ _ (.cons _ _ (.cons _ _ (.cons _ _ (.cons _ _ .nil)))))))))
      rename Obj.data _ = Data.cell (some (Value.int _ _)) => dK
      obtain ⟨ok, e⟩ := nmO dK; subst e
      refine ⟨XB.keeps F12.keep, use_names (names_ctr XB TB Dc _ _ hcs rfl (List.forall_mem_cons.mpr ⟨b0.1, List.forall_mem_cons.mpr ⟨b1.1, List.forall_mem_cons.mpr ⟨b2.1, List.forall_mem_cons.mpr ⟨b3.1, List.forall_mem_cons.mpr ⟨b4.1, List.forall_mem_cons.mpr ⟨b5.1, List.forall_mem_cons.mpr ⟨b6.1, List.forall_mem_cons.mpr ⟨b7.1, List.forall_mem_cons.mpr ⟨b8.1, List.forall_mem_cons.mpr ⟨b9.1, List.forall_mem_nil _⟩⟩⟩⟩⟩⟩⟩⟩⟩⟩) _ _ hk3) K0 F12 N12 rfl rfl (by decide +kernel) (by decide +kernel) ⟨_, (N12 _ List.mem_cons_self).1, rfl, _, rfl⟩ [(Dc, W.listOf #[Value.int c0 t0, Value.int c1 t1, Value.int c2 t2, Value.int c3 t3, Value.int c4 t4, Value.int c5 t5, Value.int c6 t6, Value.int c7 t7, Value.int c8 t8, Value.int c9 t9] cc), (L + 1 + 1 + 1, o3), (L + 1 + 1, ok), (L + 1, od)] (by ((repeat (refine List.forall_mem_cons.mpr ⟨?_, ?_⟩; focus (first | ((repeat (with_reducible first | exact List.mem_cons_self | refine List.mem_cons_of_mem _ ?_ | refine List.mem_append_right _ ?_)); done) | k_mem))); first | exact List.forall_mem_nil _ | (intro p hp; repeat (with_reducible first | exact hp | exact List.mem_append_left _ hp | exact List.mem_append_left _ (List.mem_append_left _ hp) | exact List.mem_append_left _ (List.mem_append_right _ hp) | refine List.mem_cons_of_mem _ ?_ | refine List.mem_append_right _ ?_)))) (fun ln un nn ns h13 tk13 F13 N13 hns hsub hnl => ?_)⟩
      clear F12 N12 e0 e1 e2 e3 e4 e5 e6 e7 e8 e9
      obtain ⟨kk, hkk⟩ : ∃ k : Int, k = 3 + 2 * c9.fmod 3 := ⟨_, rfl⟩
      obtain ⟨tkk, dK'⟩ : ∃ t, ok.data = .cell (some (.int kk t)) := ⟨_, by rw [hkk]; exact dK⟩
      clear dK
      replace hnl : (ns.length : Int) = 3 + 2 * c9.fmod 3 := hnl
      rw [← hkk] at hnl hk3
      replace N13 : News s.heap L h13 [(ln, W.listOf un.toArray nn), (Dc, W.listOf #[Value.int c0 t0, Value.int c1 t1, Value.int c2 t2, Value.int c3 t3, Value.int c4 t4, Value.int c5 t5, Value.int c6 t6, Value.int c7 t7, Value.int c8 t8, Value.int c9 t9] cc), (L + 1 + 1 + 1, o3), (L + 1 + 1, ok), (L + 1, od)] := N13
      have htw : ∀ x ∈ ns, x ∈ twelve := fun x hx => hsub.subset hx
      have hso : ∀ d ∈ ns.map Dat.str, kqdOk 8 d = true := by
        intro d hd
        obtain ⟨x, hx, rfl⟩ := List.mem_map.mp hd
        exact strOk_of (okName_ascii (tw_ok (htw x hx)))
      walk_at "go"
      rename Fr _ _ _ _ => F14
      rename News _ _ _ _ => N14
      obtain ⟨le, e⟩ := nm1 N14; subst e
      refine kqd_eq (n₁ := []) (n₂ := []) (ds := ns.map Dat.str) (es := []) N14 (List.mem_cons_of_mem _ List.mem_cons_self) rfl rfl (strsDat hns) (fun _ h => absurd h List.not_mem_nil) List.mem_cons_self rfl rfl (xs := un) (ys := []) .nil (fun _ h => absurd h List.not_mem_nil) hso (by simp) (show 4 + 3 + 64 < cLine by decide +kernel) ?_
      rw [decide_eq_false (show ¬ (ns.map Dat.str = []) by intro h; rw [List.map_eq_nil_iff] at h; rw [h] at hnl; simp at hnl; omega)]
      walk_at "go"
      rename Fr _ _ _ _ => F15
      rename News _ _ _ _ => N15
      refine at_state (s := s) F15 rfl rfl rfl rfl fun tk15 => ?_
      refine For_invVF F15 rfl rfl ?_
      walk_at "go"
      rename Fr _ _ _ _ => F16
      rename News _ _ _ _ => N16
      rename IsRange _ _ _ _ _ _ _ _ => R16
      refine at_state (s := s) F16 rfl rfl rfl rfl fun tk16 => ?_
      clear F15
      obtain ⟨nt, hnt⟩ : ∃ nt : Nat, (nt : Int) = if kk - 1 < 3 then kk - 1 else 3 := ⟨(if kk - 1 < 3 then kk - 1 else 3).toNat, by split <;> omega⟩
      have hnt3 : nt ≤ 3 := by split at hnt <;> omega
      replace R16 : IsRange _ _ 0 (if kk - 1 < 3 then kk - 1 else 3) 1 _ _ _ := R16
      rw [← hnt] at R16
      have N17 : News s.heap L _ [(ln, W.listOf un.toArray nn), (Dc, W.listOf #[Value.int c0 t0, Value.int c1 t1, Value.int c2 t2, Value.int c3 t3, Value.int c4 t4, Value.int c5 t5, Value.int c6 t6, Value.int c7 t7, Value.int c8 t8, Value.int c9 t9] cc), (L + 1 + 1 + 1, o3), (L + 1 + 1, ok), (L + 1, od)] := cb_drop N16 (by ((repeat (refine List.forall_mem_cons.mpr ⟨?_, ?_⟩; focus (first | ((repeat (with_reducible first | exact List.mem_cons_self | refine List.mem_cons_of_mem _ ?_ | refine List.mem_append_right _ ?_)); done) | k_mem))); first | exact List.forall_mem_nil _ | (intro p hp; repeat (with_reducible first | exact hp | exact List.mem_append_left _ hp | exact List.mem_append_left _ (List.mem_append_left _ hp) | exact List.mem_append_left _ (List.mem_append_right _ hp) | refine List.mem_cons_of_mem _ ?_ | refine List.mem_append_right _ ?_))))
      refine kst_range (σ := Obj) (n := nt) (fun c => [(ln, W.listOf un.toArray nn), (Dc, W.listOf #[Value.int c0 t0, Value.int c1 t1, Value.int c2 t2, Value.int c3 t3, Value.int c4 t4, Value.int c5 t5, Value.int c6 t6, Value.int c7 t7, Value.int c8 t8, Value.int c9 t9] cc), (L + 1 + 1 + 1, c), (L + 1 + 1, ok), (L + 1, od)]) (fun _ => []) (fun c => ∃ v, c.data = .cell v) [Str.ofString "values", Str.ofString "others", Str.ofString "signs", Str.ofString "others_signs", Str.ofString "turned", Str.ofString "others_turned", Str.ofString "square"] (fun _ _ => True) o3 rfl R16 (small_one (by omega) (by omega) (by omega) (by omega)) ?_ F16 N17 ⟨_, d3⟩ (List.forall_mem_nil _) trivial ?_ ?_
      · exact (rangeSize_nat 0 (nt : Int)).trans (by omega)
      · rintro oh pre tn tkn u h tk own htn hpl hoff ⟨vh, hoh⟩ _ F18 N18
        clear F16 N16 N17 R16
        dsimp only [List.cons_append, List.nil_append] at N18
        walk_at "go"
        rename Fr _ _ _ _ => F19
        rename News _ _ _ _ => N19
        refine' stCNk (own := [(ln, W.listOf un.toArray nn), (Dc, W.listOf #[Value.int c0 t0, Value.int c1 t1, Value.int c2 t2, Value.int c3 t3, Value.int c4 t4, Value.int c5 t5, Value.int c6 t6, Value.int c7 t7, Value.int c8 t8, Value.int c9 t9] cc)]) (o := oh) (c := L + 1 + 1 + 1) F19 N19 ?k1 hoh ?k2 ?k3 ?k4 ?k5 ?k6
        case k1 => with_unfolding_all rfl
        case k5 => with_unfolding_all rfl
        case k6 => with_unfolding_all rfl
        case k2 => cells_apart
        case k3 => exact ⟨.inl (Nat.ne_of_lt (by lt_chain)), ⟨.inl (Nat.ne_of_lt (by lt_chain)), apart_of fun p hp => hoff p hp _ (by simp)⟩⟩
        intro h20 oz F20 N20 dz
        dsimp only [List.cons_append, List.nil_append] at N20
        walk_at "go"
        clear N13 F19 N19 r1 r2 r3 r4 nD hy hdl hul
        replace K0 : Below callerA s.heap [] s.heap := K0
        have hm1 : 0 ≤ (c1 + tn).fmod (kk - 1) ∧ (c1 + tn).fmod (kk - 1) < kk - 1 := ⟨Int.fmod_nonneg_of_pos _ (by omega), Int.fmod_lt_of_pos _ (by omega)⟩
        obtain ⟨hh, hhe⟩ : ∃ h : Int, h = 1 + (c1 + tn).fmod (kk - 1) := ⟨_, rfl⟩
        obtain ⟨thh, dz'⟩ : ∃ t, oz.data = .cell (some (.int hh t)) := ⟨_, by rw [hhe]; exact dz⟩
        clear dz
        have hhb : 1 ≤ hh ∧ hh ≤ kk - 1 := by omega
        clear hm1
        have hkb : 3 ≤ kk ∧ kk ≤ 7 := by omega
        clear hkk hhe
        have htnb : 0 ≤ tn ∧ tn ≤ 2 := by omega
        replace F20 : Fr s.heap L h20 _ := F20
        replace N20 : News s.heap L h20 _ := N20
        refine LCg.ListComp_U (F₀ := F20) (by with_unfolding_all rfl) (by decide) (by rfl) (by decide) (by rfl) ?_
        walk_at "go"
        rename Fr _ _ _ _ => F21
        rename News _ _ _ _ => N21
        rename IsRange _ _ _ _ _ _ _ _ => R21
        obtain ⟨nk, hnk⟩ : ∃ n : Nat, (n : Int) = kk := ⟨kk.toNat, by omega⟩
        refine LCg.CompSrc.range (n := nk) rfl F21 N21 R21 (small_one (by omega) (by omega) (by omega) (by omega)) ((rangeSize_nat _ _).trans (by omega)) (by rw [sizeLine_eq]; omega) fun g => ?_
        refine rest_fix (fun i ys => IntsAre ys (pics hh kk i)) IntsAre.nil ?_ ?_
        · clear F21 R21
          rintro i ys v I oI C oC D m₂ h tk2 E' hi hy hv hC hx4 F4 N4 off ne
          obtain ⟨tv, rfl⟩ : ∃ t, v = .int (i : Int) t := by
            obtain ⟨t, rfl⟩ := hv
            exact ⟨t, by rw [Int.zero_add]⟩
          have hib : (i : Int) < kk := by omega
          walk_at "go"
          refine LCg.CompEnd.intro F4 N4 _ (fun _ hp => hp) off trivial ⟨rfl, ?_⟩
          rw [pics_succ]
          exact ints_snoc2 hy
        clear F21 N21 R21
        rintro vm hvm Dm h22 tk22 F22 N22 hDm
        walk_at "go"
        have hml : (pics hh kk nk).length = nk := pics_len _ _ _
        have hmi : ∀ x ∈ pics hh kk nk, 0 ≤ x ∧ x < ((pics hh kk nk).length : Int) := by rw [hml, hnk]; exact pics_in (by omega) _
        have hnd : ns.Nodup := hsub.nodup (by rw [twelve_C]; decide +kernel)
        refine ⟨XB.keeps F22.keep, use_listX (read_ctr XB TB ln Dm un ns vm (pics hh kk nk) (c2 + tn) _ hns hvm hmi (by omega) (by omega) (by omega) (by omega) htw hnd) K0 F22 N22 rfl rfl (by decide +kernel) (by decide +kernel) ⟨⟨_, (N22 _ (List.mem_cons_of_mem _ List.mem_cons_self)).1, rfl, _, rfl⟩, ⟨_, (N22 _ List.mem_cons_self).1, rfl, _, rfl⟩⟩ ((ln, W.listOf un.toArray nn) :: (Dc, W.listOf #[Value.int c0 t0, Value.int c1 t1, Value.int c2 t2, Value.int c3 t3, Value.int c4 t4, Value.int c5 t5, Value.int c6 t6, Value.int c7 t7, Value.int c8 t8, Value.int c9 t9] cc) :: (L + 1 + 1 + 1, oz) :: (L + 1 + 1, ok) :: (L + 1, od) :: own) (by ((repeat (refine List.forall_mem_cons.mpr ⟨?_, ?_⟩; focus (first | ((repeat (with_reducible first | exact List.mem_cons_self | refine List.mem_cons_of_mem _ ?_ | refine List.mem_append_right _ ?_)); done) | k_mem))); first | exact List.forall_mem_nil _ | (intro p hp; repeat (with_reducible first | exact hp | exact List.mem_append_left _ hp | exact List.mem_append_left _ (List.mem_append_left _ hp) | exact List.mem_append_left _ (List.mem_append_right _ hp) | refine List.mem_cons_of_mem _ ?_ | refine List.mem_append_right _ ?_)))) (fun la ua na h23 tk23 F23 N25 hua => ?_)⟩
        clear N22 F22 hDm
        walk_at "go"
        rename Fr _ _ _ _ => F26
        rename News _ _ _ _ => N26
        refine LCg.ListComp_U (F₀ := F26) (by with_unfolding_all rfl) (by decide) (by rfl) (by decide) (by rfl) ?_
        walk_at "go"
        rename Fr _ _ _ _ => F27
        rename News _ _ _ _ => N27
        rename IsRange _ _ _ _ _ _ _ _ => R27
        obtain ⟨nh, hnh⟩ : ∃ n : Nat, (n : Int) = hh := ⟨hh.toNat, by omega⟩
        refine LCg.CompSrc.range (n := nh) rfl F27 N27 R27 (small_one (by omega) (by omega) (by omega) (by omega)) ((rangeSize_nat _ _).trans (by omega)) (by rw [sizeLine_eq]; omega) fun g => ?_
        refine rest_fix (fun i ys => IntsAre ys (pics kk hh i)) IntsAre.nil ?_ ?_
        · clear F27 R27
          rintro i ys v I oI C oC D m₂ h tk2 E' hi hy hv hC hx4 F4 N4 off ne
          obtain ⟨tv, rfl⟩ : ∃ t, v = .int (i : Int) t := by
            obtain ⟨t, rfl⟩ := hv
            exact ⟨t, by rw [Int.zero_add]⟩
          have hib : (i : Int) < hh := by omega
          walk_at "go"
          refine LCg.CompEnd.intro F4 N4 _ (fun _ hp => hp) off trivial ⟨rfl, ?_⟩
          rw [pics_succ]
          exact ints_snoc2 hy
        clear F27 N27 R27
        rintro vo hvo Do h28 tk28 F28 N28 hDo
        walk_at "go"
        have hol : (pics kk hh nh).length = nh := pics_len _ _ _
        have hoi : ∀ x ∈ pics kk hh nh, 0 ≤ x ∧ x < ((pics kk hh nh).length : Int) := by rw [hol, hnh]; exact pics_in (by omega) _

        refine ⟨XB.keeps F28.keep, use_listX (read_ctr XB TB ln Do un ns vo (pics kk hh nh) (c3 + tn) _ hns hvo hoi (by omega) (by omega) (by omega) (by omega) htw hnd) K0 F28 N28 rfl rfl (by decide +kernel) (by decide +kernel) ⟨⟨_, (N28 _ (List.mem_cons_of_mem _ (List.mem_cons_of_mem _ List.mem_cons_self))).1, rfl, _, rfl⟩, ⟨_, (N28 _ List.mem_cons_self).1, rfl, _, rfl⟩⟩ ((la, W.listOf ua.toArray na) :: (ln, W.listOf un.toArray nn) :: (Dc, W.listOf #[Value.int c0 t0, Value.int c1 t1, Value.int c2 t2, Value.int c3 t3, Value.int c4 t4, Value.int c5 t5, Value.int c6 t6, Value.int c7 t7, Value.int c8 t8, Value.int c9 t9] cc) :: (L + 1 + 1 + 1, oz) :: (L + 1 + 1, ok) :: (L + 1, od) :: own) (by ((repeat (refine List.forall_mem_cons.mpr ⟨?_, ?_⟩; focus (first | ((repeat (with_reducible first | exact List.mem_cons_self | refine List.mem_cons_of_mem _ ?_ | refine List.mem_append_right _ ?_)); done) | k_mem))); first | exact List.forall_mem_nil _ | (intro p hp; repeat (with_reducible first | exact hp | exact List.mem_append_left _ hp | exact List.mem_append_left _ (List.mem_append_left _ hp) | exact List.mem_append_left _ (List.mem_append_right _ hp) | refine List.mem_cons_of_mem _ ?_ | refine List.mem_append_right _ ?_)))) (fun lb ub nb h29 tk29 F29 N31 hub => ?_)⟩
        clear N28 F28 hDo
        walk_at "go"
        rename Fr _ _ _ _ => F32
        rename News _ _ _ _ => N32
        have TK := turn_ok hk3 hhb
        rw [show kk.toNat = nk by omega, show hh.toNat = nh by omega] at TK
        have hnds := And.intro TK.n1 TK.n2
        rw [show kk.toNat = nk by omega, show hh.toNat = nh by omega] at hnds
        have hmj : ∀ x ∈ pics hh kk nk, 0 ≤ x ∧ x < (ns.length : Int) := by rw [hnl]; exact pics_in (by omega) _
        have hoj : ∀ x ∈ pics kk hh nh, 0 ≤ x ∧ x < (ns.length : Int) := fun x hx => by have := pics_in (k := hh) (by omega) nh x hx; omega
        refine ⟨XB.keeps F32.keep, use_strS (signs_ctr XB TB la ua (imgs ns (pics hh kk nk)) hua (imgs_nodup hsub hmj hnds.1) (by rw [imgs_len]; omega)) K0 F32 N32 rfl rfl (by decide +kernel) (by decide +kernel) ⟨_, (N32 _ (List.mem_cons_of_mem _ List.mem_cons_self)).1, rfl, _, rfl⟩ (fun ts h33 tk33 F33 N33 => ?_)⟩
        clear F32 N32
        walk_at "go"
        rename Fr _ _ _ _ => F34
        rename News _ _ _ _ => N34
        refine ⟨XB.keeps F34.keep, use_strS (signs_ctr XB TB lb ub (imgs ns (pics kk hh nh)) hub (imgs_nodup hsub hoj hnds.2) (by rw [imgs_len]; omega)) K0 F34 N34 rfl rfl (by decide +kernel) (by decide +kernel) ⟨_, (N34 _ List.mem_cons_self).1, rfl, _, rfl⟩ (fun to h35 tk35 F35 N35 => ?_)⟩
        clear F34 N34
        rw [sgAll_imgs hsub hmj, hml, sgAll_imgs hsub hoj, hol]
        have ne1 : ¬ ((imgs ns (pics hh kk nk)).map Dat.str = []) := by intro h; rw [List.map_eq_nil_iff] at h; have q := imgs_len ns (pics hh kk nk); rw [h] at q; simp at q; omega
        have ne2 : ¬ ((imgs ns (pics kk hh nh)).map Dat.str = []) := by intro h; rw [List.map_eq_nil_iff] at h; have q := imgs_len ns (pics kk hh nh); rw [h] at q; simp at q; omega
        clear hml hol hnk hnh hnl
        obtain ⟨S1, hS1⟩ : ∃ S, S = qAll (pics hh kk nk) nk := ⟨_, rfl⟩
        obtain ⟨S2, hS2⟩ : ∃ S, S = qAll (pics kk hh nh) nh := ⟨_, rfl⟩
        rw [← hS1, ← hS2] at TK
        rw [← hS1, ← hS2]
        walk_at "go"
        rename Fr _ _ _ _ => F36
        rename News _ _ _ _ => N36
        have hq1 : S1 ≠ Str.ofString "?" := TK.q1
        have hq2 : S2 ≠ Str.ofString "?" := TK.q2
        refine kqd_eq (n₁ := []) (n₂ := []) (ds := (imgs ns (pics hh kk nk)).map Dat.str) (es := []) N36 (List.mem_cons_of_mem _ (List.mem_cons_of_mem _ (List.mem_cons_of_mem _ List.mem_cons_self))) rfl rfl (strsDat hua) (fun _ h => absurd h List.not_mem_nil) List.mem_cons_self rfl rfl (xs := ua) (ys := []) .nil (fun _ h => absurd h List.not_mem_nil) (imgs_tw htw _) (by simp) (show 4 + 3 + 64 < cLine by decide +kernel) ?_
        rw [decide_eq_false ne1]
        have N37 := cb_drop N36 (fun p hp => List.mem_cons_of_mem _ (List.mem_cons_of_mem _ hp))
        clear N36
        walk_at "go"
        rename Fr _ _ _ _ => F38
        rename News _ _ _ _ => N38
        refine kqd_eq (n₁ := []) (n₂ := []) (ds := (imgs ns (pics kk hh nh)).map Dat.str) (es := []) N38 (List.mem_cons_of_mem _ List.mem_cons_self) rfl rfl (strsDat hub) (fun _ h => absurd h List.not_mem_nil) List.mem_cons_self rfl rfl (xs := ub) (ys := []) .nil (fun _ h => absurd h List.not_mem_nil) (imgs_tw htw _) (by simp) (show 4 + 3 + 64 < cLine by decide +kernel) ?_
        rw [decide_eq_false ne2]
        have N39 : News s.heap L _ ((L + 1 + 1 + 1, oz) :: (L + 1 + 1, ok) :: (L + 1, od) :: (ln, W.listOf un.toArray nn) :: (Dc, W.listOf #[Value.int c0 t0, Value.int c1 t1, Value.int c2 t2, Value.int c3 t3, Value.int c4 t4, Value.int c5 t5, Value.int c6 t6, Value.int c7 t7, Value.int c8 t8, Value.int c9 t9] cc) :: own) := cb_drop N38 (by ((repeat (refine List.forall_mem_cons.mpr ⟨?_, ?_⟩; focus (first | ((repeat (with_reducible first | exact List.mem_cons_self | refine List.mem_cons_of_mem _ ?_ | refine List.mem_append_right _ ?_)); done) | k_mem))); first | exact List.forall_mem_nil _ | (intro p hp; repeat (with_reducible first | exact hp | exact List.mem_append_left _ hp | exact List.mem_append_left _ (List.mem_append_left _ hp) | exact List.mem_append_left _ (List.mem_append_right _ hp) | refine List.mem_cons_of_mem _ ?_ | refine List.mem_append_right _ ?_))))
        clear N38
        rename Fr _ _ _ _ => F39
        refine at_state (s := s) F39 rfl rfl rfl rfl fun tk39 => ?_
        iterate 7 walk1
        rw [beq_eq_false_iff_ne.mpr hq1]
        iterate 7 walk1
        rw [beq_eq_false_iff_ne.mpr hq2]
        iterate 36 walk1
        rename Fr _ _ _ _ => F40
        rename News _ _ _ _ => N40
        obtain ⟨a1, ha1⟩ : ∃ a, a = Txt.count S1 (Str.ofString "\"") := ⟨_, rfl⟩
        obtain ⟨a2, ha2⟩ : ∃ a, a = Txt.count S2 (Str.ofString "\"") := ⟨_, rfl⟩
        rw [← ha1, ← ha2] at F40 N40
        rw [← ha1, ← ha2] at TK
        have hb1 : 0 ≤ a1 ∧ a1 ≤ 21 := TK.b1
        have hb2 : 0 ≤ a2 ∧ a2 ≤ 21 := TK.b2
        have heq : 4 * (hh * a1 + kk * a2) = (hh - 1) * (kk - 1) * (hh + kk - 1) := TK.eq
        have hb3 : 0 ≤ hh * a1 ∧ hh * a1 ≤ 1000 := TK.b3
        have hb4 : 0 ≤ kk * a2 ∧ kk * a2 ≤ 1000 := TK.b4
        have hb5 : 0 ≤ (hh - 1) * (kk - 1) ∧ (hh - 1) * (kk - 1) ≤ 1000 := TK.b5
        refine at_state (s := s) F40 rfl rfl rfl rfl fun tk40 => ?_
        iterate 37 walk1
        refine truthy_f (neF heq) ?_
        have N41 := cb_drop N40 (fun p hp => List.mem_cons_of_mem _ hp)
        clear N40
        refine at_state (s := s) F40 rfl rfl rfl rfl fun tk41 => ?_
        walk_at "go"
        rename Fr _ _ _ _ => F42
        rename News _ _ _ _ => N42
        refine LCg.ListComp_U (F₀ := F42) (by with_unfolding_all rfl) (by decide) (by rfl) (by decide) (by rfl) ?_
        walk_at "go"
        rename Fr _ _ _ _ => F43
        rename News _ _ _ _ => N43
        rename IsRange _ _ _ _ _ _ _ _ => R43
        obtain ⟨n1, hn1⟩ : ∃ n : Nat, (n : Int) = kk - 1 := ⟨(kk - 1).toNat, by omega⟩
        refine LCg.CompSrc.range (n := n1) rfl F43 N43 R43 (small_one (by omega) (by omega) (by omega) (by omega)) ((rangeSize_nat _ _).trans (by omega)) (by rw [sizeLine_eq]; omega) fun g => ?_
        refine rest_fix (fun i ys => IntsAre ys (sqs kk i)) IntsAre.nil ?_ ?_
        · clear F43 R43
          rintro i ys v I oI C oC D m₂ h tk2 E' hi hy hv hC hx4 F4 N4 off ne
          obtain ⟨tv, rfl⟩ := hv
          have hib : (i : Int) < kk := by omega
          walk_at "go"
          refine LCg.CompEnd.intro F4 N4 _ (fun _ hp => hp) off trivial ⟨rfl, ?_⟩
          rw [sqs_succ]
          exact ints_snoc2 hy
        clear F43 N43 R43
        rintro vq hvq Dq h44 tk44 F44 N44 hDq
        refine at_state (s := s) F44 rfl rfl rfl rfl fun tk45 => ?_
        refine in_list_ints (ns := sqs kk n1) (N44.isList List.mem_cons_self) hvq ?_
        obtain ⟨sq, hsq⟩ : ∃ b, b = (sqs kk n1).any (· == hh) := ⟨_, rfl⟩
        rw [← hsq]
        have N45 := cb_drop N44 (fun p hp => List.mem_cons_of_mem _ hp)
        clear N44 hDq
        have hsl1 : S1.length ≤ 100 := TK.l1
        walk_at "go"
        rename Fr _ _ _ _ => F46
        rename News _ _ _ _ => N46
        have hpl : hparse (S1 ++ Str.ofString ",x") = if sq = true then [S1, Str.ofString "x"] else [S1 ++ Str.ofString ",x"] := by
          rw [hsq, show n1 = (kk - 1).toNat by omega]
          exact TK.hp
        have hln : (S1 ++ Str.ofString ",x").length ≤ 100000 := by
          rw [Str.length_append, show (Str.ofString ",x").length = 2 by decide +kernel]; omega
        refine ⟨XB.keeps F46.keep, use_listS (http_ctr XB TB _ _ hln) K0 F46 N46 rfl rfl (by decide +kernel) (by decide +kernel) trivial ((ln, W.listOf un.toArray nn) :: (Dc, W.listOf #[Value.int c0 t0, Value.int c1 t1, Value.int c2 t2, Value.int c3 t3, Value.int c4 t4, Value.int c5 t5, Value.int c6 t6, Value.int c7 t7, Value.int c8 t8, Value.int c9 t9] cc) :: (L + 1 + 1 + 1, oz) :: (L + 1 + 1, ok) :: (L + 1, od) :: own) (by ((repeat (refine List.forall_mem_cons.mpr ⟨?_, ?_⟩; focus (first | ((repeat (with_reducible first | exact List.mem_cons_self | refine List.mem_cons_of_mem _ ?_ | refine List.mem_append_right _ ?_)); done) | k_mem))); first | exact List.forall_mem_nil _ | (intro p hp; repeat (with_reducible first | exact hp | exact List.mem_append_left _ hp | exact List.mem_append_left _ (List.mem_append_left _ hp) | exact List.mem_append_left _ (List.mem_append_right _ hp) | refine List.mem_cons_of_mem _ ?_ | refine List.mem_append_right _ ?_)))) (fun lp up np h47 tk47 F47 N48 hup => ?_)⟩
        clear F46 N46
        refine at_state (s := s) F47 rfl rfl rfl rfl fun tk48 => ?_
        have hk1 : kqdOk 8 (Dat.str S1) = true := TK.k1
        have hk2 : kqdOk 8 (Dat.str (S1 ++ Str.ofString ",x")) = true := TK.k2
        have hk3 : kqdOk 8 (Dat.str (Str.ofString "x")) = true := by decide +kernel
        cases sq with
        | true =>
          rw [if_pos rfl] at hpl
          rw [hpl] at hup
          walk_at "go"
          rename Fr _ _ _ _ => F49
          rename News _ _ _ _ => N49
          refine ne_same (n₁ := []) (n₂ := []) (ds := [S1, Str.ofString "x"].map Dat.str) N49 (List.mem_cons_of_mem _ List.mem_cons_self) rfl rfl (strsDat hup) (fun _ h => absurd h List.not_mem_nil) List.mem_cons_self rfl rfl (strsDat (xs := [S1, Str.ofString "x"]) (.cons _ _ (.cons _ _ .nil))) (fun _ h => absurd h List.not_mem_nil) (List.forall_mem_cons.mpr ⟨hk1, List.forall_mem_cons.mpr ⟨hk3, List.forall_mem_nil _⟩⟩) (show 4 + 3 + 64 < cLine by decide +kernel) ?_
          walk_at "go"
          rename Fr _ _ _ _ => F50
          rename News _ _ _ _ => N50
          refine' kst_end (σ := Obj) oz F50 N50 ?_ ?_ rfl ⟨_, dz'⟩ (List.forall_mem_nil _) ?_ trivial
          · ((repeat (refine List.forall_mem_cons.mpr ⟨?_, ?_⟩; focus (first | ((repeat (with_reducible first | exact List.mem_cons_self | refine List.mem_cons_of_mem _ ?_ | refine List.mem_append_right _ ?_)); done) | k_mem))); first | exact List.forall_mem_nil _ | (intro p hp; repeat (with_reducible first | exact hp | exact List.mem_append_left _ hp | exact List.mem_append_left _ (List.mem_append_left _ hp) | exact List.mem_append_left _ (List.mem_append_right _ hp) | refine List.mem_cons_of_mem _ ?_ | refine List.mem_append_right _ ?_)))
          · ((repeat (refine List.forall_mem_cons.mpr ⟨?_, ?_⟩; focus (first | ((repeat (with_reducible first | exact List.mem_cons_self | refine List.mem_cons_of_mem _ ?_ | refine List.mem_append_right _ ?_)); done) | k_mem))); first | exact List.forall_mem_nil _ | (intro p hp; repeat (with_reducible first | exact hp | exact List.mem_append_left _ hp | exact List.mem_append_left _ (List.mem_append_left _ hp) | exact List.mem_append_left _ (List.mem_append_right _ hp) | refine List.mem_cons_of_mem _ ?_ | refine List.mem_append_right _ ?_)))
          · intro z h1 _ h3
            iterate 7 refine (off_if h3 (by decide)).trans ?_
            refine (if_neg h1).trans ?_
            exact if_neg (by rw [h3]; exact Bool.false_ne_true)
        | false =>
          rw [if_neg (by simp)] at hpl
          rw [hpl] at hup
          walk_at "go"
          rename Fr _ _ _ _ => F49
          rename News _ _ _ _ => N49
          refine ne_same (n₁ := []) (n₂ := []) (ds := [S1 ++ Str.ofString ",x"].map Dat.str) N49 (List.mem_cons_of_mem _ List.mem_cons_self) rfl rfl (strsDat hup) (fun _ h => absurd h List.not_mem_nil) List.mem_cons_self rfl rfl (strsDat (xs := [S1 ++ Str.ofString ",x"]) (.cons _ _ .nil)) (fun _ h => absurd h List.not_mem_nil) (List.forall_mem_cons.mpr ⟨hk2, List.forall_mem_nil _⟩) (show 4 + 3 + 64 < cLine by decide +kernel) ?_
          walk_at "go"
          rename Fr _ _ _ _ => F50
          rename News _ _ _ _ => N50
          refine' kst_end (σ := Obj) oz F50 N50 ?_ ?_ rfl ⟨_, dz'⟩ (List.forall_mem_nil _) ?_ trivial
          · ((repeat (refine List.forall_mem_cons.mpr ⟨?_, ?_⟩; focus (first | ((repeat (with_reducible first | exact List.mem_cons_self | refine List.mem_cons_of_mem _ ?_ | refine List.mem_append_right _ ?_)); done) | k_mem))); first | exact List.forall_mem_nil _ | (intro p hp; repeat (with_reducible first | exact hp | exact List.mem_append_left _ hp | exact List.mem_append_left _ (List.mem_append_left _ hp) | exact List.mem_append_left _ (List.mem_append_right _ hp) | refine List.mem_cons_of_mem _ ?_ | refine List.mem_append_right _ ?_)))
          · ((repeat (refine List.forall_mem_cons.mpr ⟨?_, ?_⟩; focus (first | ((repeat (with_reducible first | exact List.mem_cons_self | refine List.mem_cons_of_mem _ ?_ | refine List.mem_append_right _ ?_)); done) | k_mem))); first | exact List.forall_mem_nil _ | (intro p hp; repeat (with_reducible first | exact hp | exact List.mem_append_left _ hp | exact List.mem_append_left _ (List.mem_append_left _ hp) | exact List.mem_append_left _ (List.mem_append_right _ hp) | refine List.mem_cons_of_mem _ ?_ | refine List.mem_append_right _ ?_)))
          · intro z h1 _ h3
            iterate 7 refine (off_if h3 (by decide)).trans ?_
            refine (if_neg h1).trans ?_
            exact if_neg (by rw [h3]; exact Bool.false_ne_true)
      · rintro oh u h tk ⟨vh, hoh⟩ _ F18 N18
        clear F16 N16 N17 R16
        walk_at "go"
        rename Fr _ _ _ _ => F19
        dsimp only
        refine goodW_bool F19 (by assumption) (raisesW_false ?_) ?_
        · wrow_none_raised
        · exact post_ok script)
end Mine
end

end
end

open PySem PySem.W PyProof.Rows
theorem PySem.Challenge.cw_pk0041_01_holds : PySem.Challenge.rw_pk0041_01.Holds :=
  Mine.law_holds
