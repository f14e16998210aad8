import PyProof.Rows.All
import Wide.All
import OpenK.AllK
import Wide.FinOn
import PySem.Challenge.RW_pm0032_01
open PySem PySem.W PyProof.Rows
set_option Elab.async false
set_option maxRecDepth 100000
namespace Mine
set_option maxHeartbeats 8000000 in
open_top hd for PySem.Challenge.rw_pm0032_01
theorem topOff0 : True := by w_top off; trivial
end Mine
open PySem.Calls PySem.Spec
namespace Mine
theorem topOff1 : True := by w_top off; trivial
/-- what stays the same through the whole call -/
structure Cx where
  w : World
  loose : List Str
  mean : ExcName → Option Value
  mg : Str → Option Value
  mb : Str → Option Value
/-- a place from which a call is made -/
structure Site (C : Cx) (A A₀ : Around) (env : Env) (outer : List Env) (base h₀ : Heap) (L : Addr) (m : Str → Option Value) (s : Shared) : Prop where
  B : Below A₀ base outer h₀
  F : Fr h₀ L s.heap m
  X : (hd.heap_39 C.w.params).In h₀
  T : Top topProg C.loose C.mean C.mg C.mb h₀
  hA : A.frames = some (env :: outer)
  hf : env.frame = some L
  hk : env.scope.kind = .function
  hh : A.handled = none
/-- a call of f that keeps every object that stood -/
def Pure (C : Cx) (d u : Nat) (h : Heap) (f : Value) (vs : List Value) (kw : List (Str × Value)) (Post : Heap → Heap → Value → Prop) : Prop :=
  ∀ (A A₀ : Around) (env : Env) (outer : List Env) (base h₀ : Heap) (L : Addr) (m : Str → Option Value) (s : Shared) (Q E : Value → Shared → Prop),
    Site C A A₀ env outer base h₀ L m s → h.StaysIn s.heap → A.depth + d < recursionLimit → A.units + u < cLine →
    (∀ r h' tk', s.heap.StaysIn h' → Post s.heap h' r → Q r { s with heap := h', toks := tk' }) →
    wpAny (model PySem.Challenge.rw_pm0032_01.row.prog C.w) A (call f vs kw) Q E s
/-- a frame's names, the newest first -/
noncomputable def mOf : List (Str × Value) → Str → Option Value
  | [], _ => none
  | (k, v) :: r, y => if y = k then some v else mOf r y
theorem mOf_lookup : ∀ (l : List (Str × Value)), (fun y => l.lookup y) = mOf l
  | [] => rfl
  | (k, v) :: r => by
    funext y
    have ih := congrFun (mOf_lookup r) y
    rw [List.lookup_cons]
    by_cases h : y = k
    · subst h; simp [mOf]
    · have h' : (y == k) = false := beq_eq_false_iff_ne.mpr h
      rw [h']
      simp only [mOf, if_neg h]
      exact ih
theorem mOf_store (k : Str) (v : Value) (l : List (Str × Value)) : (fun y => if y = k then some v else mOf l y) = mOf ((k, v) :: l) := by funext y; rfl
theorem mOf_app (k : Str) (v : Value) (l : List (Str × Value)) (y : Str) : (if y = k then some v else mOf l y) = mOf ((k, v) :: l) y := rfl
theorem mOf_none {y : Str} : ∀ {l : List (Str × Value)}, (∀ p ∈ l, y ≠ p.1) → mOf l y = none
  | [], _ => rfl
  | (k, v) :: r, h => by
    simp only [mOf]
    rw [if_neg (h _ (List.mem_cons_self ..))]
    exact mOf_none fun p hp => h p (List.mem_cons_of_mem _ hp)
theorem mOf_ext {l₁ l₂ : List (Str × Value)} (keys : List Str) (h₁ : ∀ p ∈ l₁, p.1 ∈ keys) (h₂ : ∀ p ∈ l₂, p.1 ∈ keys) (h : ∀ k ∈ keys, mOf l₁ k = mOf l₂ k) : mOf l₁ = mOf l₂ := by
  funext y
  by_cases hy : y ∈ keys
  · exact h y hy
  · rw [mOf_none fun p hp e => hy (by rw [e]; exact h₁ p hp), mOf_none fun p hp e => hy (by rw [e]; exact h₂ p hp)]
theorem enter {C : Cx} {A A₀ : Around} {env : Env} {outer : List Env} {base h₀ : Heap} {L : Addr} {m : Str → Option Value} {s : Shared} {Q E : Value → Shared → Prop}
    (S : Site C A A₀ env outer base h₀ L m s)
    {name qual : Str} {params : Arguments} {body : List Stmt} {scope : Scope} {dV kV doc pm cdv ct oc : Value} {an od : Option Addr} {osl : Array (Option Value)} {f : Addr} {vs : List Value} {kw : List (Str × Value)} (binds : List (Str × Value))
    (ho : (hd.heap_39 C.w.params).lookup f = some ⟨oc, od, .func (fnOf name qual params body scope dV kV doc pm an cdv ct), osl⟩)
    (hcd : codeIn (hd.heap_39 C.w.params) cdv qual = true) (hroom : A.depth < recursionLimit)
    (hbind : BindsTo s (fnOf name qual params body scope dV kV doc pm an cdv ct) ⟨vs, kw⟩ binds) (hloc : ∀ y ∈ binds, scope.names.lookup y.1 = some .local)
    (hcell : ∀ x ∈ scope.names, x.2 ≠ .cell) (hco : scope.isCoroutine = false) (hgen : scope.isGenerator = false) (hk : scope.kind = .function)
    (h : ∀ L' h₁, Site C (A.deeper (envOf qual scope L' f cdv)) A (envOf qual scope L' f cdv) (env :: outer) base s.heap L' (mOf binds.reverse) { s with heap := h₁, toks := s.toks + binds.length } →
      wpAny (model PySem.Challenge.rw_pm0032_01.row.prog C.w) (A.deeper (envOf qual scope L' f cdv)) (execs body (envOf qual scope L' f cdv))
        (fun fl s' => Q (match fl with | .ret v => v | _ => .none) s') (fun _ _ => False) { s with heap := h₁, toks := s.toks + binds.length }) :
    wpAny (model PySem.Challenge.rw_pm0032_01.row.prog C.w) A (call (.ref f) vs kw) Q E s := by
  obtain ⟨B, F, X, T, hA, hf, hke, hh⟩ := S
  have B₁ := pushX B F hf hke
  have st : h₀.StaysIn s.heap := fun b o e => F.keep b o e
  refine wpAny_call ?_
  refine codeAny_call_def (fd := fnOf name qual params body scope dV kV doc pm an cdv ct) (body := body) (binds := binds) hroom ((X.keeps F.keep) _ _ ho) rfl (T.nolimit.keeps F.keep) (codeRec_of (X.keeps F.keep) hcd) rfl hbind hcell hloc (fun h₁ hns hk₁ => ?_) hco hgen hk
  refine wpAny_mono (h s.heap.objs.size h₁ ⟨⟨hA, B₁.stays, B₁.frames⟩, ⟨mOf_lookup binds.reverse ▸ hns, hk₁, Nat.le_refl _⟩, X.keeps st, T.keeps st, Around.frames_deeper hA, rfl, hk, by first | exact hh | simp [Around.deeper, hh]⟩) (fun fl s' hq => hq) fun _ _ x => x.elim
theorem enterN {C : Cx} {A A₀ : Around} {env : Env} {outer : List Env} {base h₀ : Heap} {L : Addr} {m : Str → Option Value} {s : Shared} {Q E : Value → Shared → Prop} {news : List (Addr × Obj)}
    (S : Site C A A₀ env outer base h₀ L m s) (N : News h₀ L s.heap news)
    {name qual : Str} {params : Arguments} {body : List Stmt} {scope : Scope} {dV kV doc pm cdv ct oc : Value} {an od : Option Addr} {osl : Array (Option Value)} {f : Addr} {vs : List Value} {kw : List (Str × Value)} (binds : List (Str × Value))
    (ho : (hd.heap_39 C.w.params).lookup f = some ⟨oc, od, .func (fnOf name qual params body scope dV kV doc pm an cdv ct), osl⟩)
    (hcd : codeIn (hd.heap_39 C.w.params) cdv qual = true) (hroom : A.depth < recursionLimit)
    (hbind : BindsTo s (fnOf name qual params body scope dV kV doc pm an cdv ct) ⟨vs, kw⟩ binds) (hloc : ∀ y ∈ binds, scope.names.lookup y.1 = some .local)
    (hcell : ∀ x ∈ scope.names, x.2 ≠ .cell) (hco : scope.isCoroutine = false) (hgen : scope.isGenerator = false) (hk : scope.kind = .function)
    (h : ∀ g L' h₁, g = hideAll s.heap (news.map (·.1)) → Site C (A.deeper (envOf qual scope L' f cdv)) A (envOf qual scope L' f cdv) (env :: outer) base g L' (mOf binds.reverse) { s with heap := h₁, toks := s.toks + binds.length } → News g L' h₁ news →
      wpAny (model PySem.Challenge.rw_pm0032_01.row.prog C.w) (A.deeper (envOf qual scope L' f cdv)) (execs body (envOf qual scope L' f cdv))
        (fun fl s' => Q (match fl with | .ret v => v | _ => .none) s') (fun _ _ => False) { s with heap := h₁, toks := s.toks + binds.length }) :
    wpAny (model PySem.Challenge.rw_pm0032_01.row.prog C.w) A (call (.ref f) vs kw) Q E s := by
  obtain ⟨B, F, X, T, hA, hf, hke, hh⟩ := S
  obtain ⟨FG, BG, st, _⟩ := groundX (R := fun _ _ => True) B F N hA hf hke
  refine wpAny_call ?_
  refine codeAny_call_def (fd := fnOf name qual params body scope dV kV doc pm an cdv ct) (body := body) (binds := binds) hroom ((X.keeps F.keep) _ _ ho) rfl (T.nolimit.keeps F.keep) (codeRec_of (X.keeps F.keep) hcd) rfl hbind hcell hloc (fun h₁ hns hk₁ => ?_) hco hgen hk
  refine wpAny_mono (h _ s.heap.objs.size h₁ rfl ⟨BG, ⟨mOf_lookup binds.reverse ▸ hns, fun b o e => hk₁ b o (of_hideAll _ e), Nat.le_of_eq (hideAll_size _ _)⟩, X.keeps st, T.keeps st, Around.frames_deeper hA, rfl, hk, by first | exact hh | simp [Around.deeper, hh]⟩
    (fun p hp => ⟨hk₁ _ _ (N p hp).1, Nat.ne_of_lt (Heap.lt_size (N p hp).1), hideAll_none _ (List.mem_map_of_mem hp)⟩)) (fun fl s' hq => hq) fun _ _ x => x.elim
inductive Stop (P : Prop) : Prop where
  | mk (h : P) : Stop P
theorem Stop.out {P : Prop} : Stop P → P := fun ⟨h⟩ => h
theorem ite_on {c : Prop} [Decidable c] {a b : Prop} (h : a) (hc : c := by with_reducible assumption) : if c then a else b := ite_pos hc h
theorem ite_no {c : Prop} [Decidable c] {a b : Prop} (h : b) (hc : ¬ c := by with_reducible assumption) : if c then a else b := ite_neg hc h
theorem ite_off {c : Bool} {a b : Prop} (h : b) (hc : c = false := by with_reducible assumption) : if c = true then a else b := ite_neg (Bool.eq_false_iff.mp hc) h
structure FnAt (h : Heap) (fa : Addr) : Prop where
  ex : ∃ o fd, h.get? fa = some o ∧ o.data = .func fd
theorem FnAt.keeps {h h' : Heap} {fa : Addr} (x : FnAt h fa) (k : h.StaysIn h') : FnAt h' fa := let ⟨o, fd, e, d⟩ := x.ex; ⟨o, fd, k _ _ e, d⟩
theorem callWith_fn {M : Model} {A : Around} {E : Value → Shared → Prop} {s : Shared} {env : Env} {pos : Pos} {fa : Addr} {first : List Value} {Q : Value → Shared → Prop} {h₀ : Heap} {e : Expr} {rest : List Expr} (X : FnAt h₀ fa)
    (h : wpAny M A (spliced (backTo pos (starEach (e :: rest) env))) (fun vs s₁ => FnAt s₁.heap fa ∧ wpAny M A (call (.ref fa) (first ++ vs)) Q E s₁) E s)
    (he : starEach (e :: rest) env = (false, eval e env) :: starEach rest env := by rfl) (hplain : (backTo pos (starEach rest env)).any (·.1) = false := by rfl) :
    wpAny M A (callWith pos (.ref fa) first (backTo pos (starEach (e :: rest) env)) []) Q E s := by
  have _ := X
  rw [he] at h ⊢
  refine callWith_of (P := fun h => FnAt h fa) (by show ((false || (backTo pos (starEach rest env)).any (·.1)) || false) = false; rw [hplain]; rfl) (fun hp x => ?_) (evalArgs_plain h)
  obtain ⟨o, fd, ho, hd⟩ := x.ex
  refine ⟨.frame, .inl rfl, (Looks.ld (part := none) ho).andThen ?_⟩
  obtain ⟨oc, od, dd, sl⟩ := o
  cases hd
  exact .now
theorem Pure.use {C : Cx} {d u : Nat} {H : Heap} {f : Value} {vs : List Value} {kw : List (Str × Value)} {Post : Heap → Heap → Value → Prop} (P : Pure C d u H f vs kw Post)
    {A A₀ : Around} {env : Env} {outer : List Env} {base h₀ : Heap} {L : Addr} {m : Str → Option Value} {s : Shared} {Q E : Value → Shared → Prop} {news : List (Addr × Obj)}
    (B : Below A₀ base outer h₀) (F : Fr h₀ L s.heap m) (X : (hd.heap_39 C.w.params).In h₀) (T : Top topProg C.loose C.mean C.mg C.mb h₀) (hA : A.frames = some (env :: outer)) (hf : env.frame = some L)
    (hk : env.scope.kind = .function) (hh : A.handled = none) (N : News h₀ L s.heap news) (st : H.StaysIn s.heap) (hd : A.depth + d < recursionLimit) (hu : A.units + u < cLine)
    (k : ∀ r h' tk', Fr h₀ L h' m → News h₀ L h' news → s.heap.StaysIn h' → Post s.heap h' r → Q r { s with heap := h', toks := tk' }) :
    wpAny (model PySem.Challenge.rw_pm0032_01.row.prog C.w) A (call f vs kw) Q E s :=
  P A A₀ env outer base h₀ L m s Q E ⟨B, F, X, T, hA, hf, hk, hh⟩ st hd hu fun r h' tk' hs hp => k r h' tk' (F.keeps hs) (N.grown hs) hs hp
structure KeyOk (C : Cx) (d u : Nat) (H : Heap) (fa : Addr) (dom : Int → Prop) (Kf : Int → UInt64) : Prop where
  fn : FnAt H fa
  call : ∀ i t, dom i → Pure C d u H (.ref fa) [.int i t] [] (fun _ _ r => ∃ t', r = .float (Kf i) t')
theorem Pure.mono {C : Cx} {d u : Nat} {H H' : Heap} {f : Value} {vs : List Value} {kw : List (Str × Value)} {Post : Heap → Heap → Value → Prop} (P : Pure C d u H f vs kw Post) (k : H.StaysIn H') : Pure C d u H' f vs kw Post :=
  fun A A₀ env outer base h₀ L m s Q E S hst hd hu hq => P A A₀ env outer base h₀ L m s Q E S (fun b o e => hst b o (k b o e)) hd hu hq
theorem KeyOk.mono {C : Cx} {d u : Nat} {H H' : Heap} {fa : Addr} {dom : Int → Prop} {Kf : Int → UInt64} (x : KeyOk C d u H fa dom Kf) (k : H.StaysIn H') : KeyOk C d u H' fa dom Kf :=
  ⟨x.fn.keeps k, fun i t h => (x.call i t h).mono k⟩
end Mine
namespace Mine
theorem topOff2 : True := by w_top off; trivial
theorem all_cons {α : Type} {P : α → Prop} {a : α} {l : List α} (h : P a) (r : ∀ x ∈ l, P x) : ∀ x ∈ a :: l, P x := List.forall_mem_cons.mpr ⟨h, r⟩
theorem all_nil {α : Type} {P : α → Prop} : ∀ x ∈ ([] : List α), P x := fun _ h => nomatch h
theorem all_in {α : Type} {P : α → Prop} {news : List α} (H : ∀ p ∈ news, P p) {x : α} {l : List α} (hm : x ∈ news) (r : ∀ p ∈ l, P p) : ∀ p ∈ x :: l, P p := all_cons (H x hm) r
theorem all_out {α : Type} {P : α → Prop} {a : α} {l : List α} (H : ∀ x ∈ a :: l, P x) : ∀ x ∈ l, P x := fun x hx => H x (List.mem_cons_of_mem _ hx)
theorem newsC {g h : Heap} {L : Addr} {news : List (Addr × Obj)} (N : News g L h news) {x : Addr × Obj} {l : List (Addr × Obj)} (hm : x ∈ news) (r : News g L h l) : News g L h (x :: l) := all_cons (N x hm) r
theorem news_out {g h : Heap} {L : Addr} {x : Addr × Obj} {l : List (Addr × Obj)} (N : News g L h (x :: l)) : News g L h l := all_out N
theorem store_split {M : Model} {A : Around} {E : Value → Shared → Prop} {s : Shared} {name : Str} {scope : Scope} {L a : Addr} {cd : Value} {h₀ : Heap} {m : Str → Option Value} {pre post : List (Addr × Obj)}
    {x : Str} {c : Addr} {o : Obj} {v₀ : Option Value} {v : Value} {Q : Unit → Shared → Prop} (F : Fr h₀ L s.heap m) (N : News h₀ L s.heap (pre ++ (c, o) :: post)) (h1 : ∀ p ∈ pre, p.1 ≠ c) (h2 : ∀ p ∈ post, p.1 ≠ c)
    (hc : (cellsFrom (L + 1) scope.names []).lookup x = some c) (hd : o.data = .cell v₀)
    (h : ∀ h' o', Fr h₀ L h' m → News h₀ L h' (pre ++ (c, o') :: post) → o'.data = .cell (some v) → Q () { s with heap := h' })
    (hk : scope.kind = .function := by rfl) (hl : (envOfC name scope L a cd).kindOf x = some .cell := by rfl) :
    wpAny M A (storeName (envOfC name scope L a cd) x v) Q E s := by
  have hmem := N (c, o) (List.mem_append_right _ (List.mem_cons_self ..))
  refine wpAny_storeName_cell hk hl hc ⟨o, hmem.1, hd⟩ fun h' hv hs => ?_
  obtain ⟨o', ho', hd'⟩ := hv
  refine h h' o' ⟨F.ns.sameBut hs (Ne.symm hmem.2.1), fun b ob e => (hs.2 b (fun q => ?_)).trans (F.keep b ob e), F.above⟩ (fun p hp => ?_) hd'
  · rw [q, hmem.2.2] at e; cases e
  · rcases List.mem_append.mp hp with hp | hp
    · exact ⟨(hs.2 _ (h1 p hp)).trans (N p (List.mem_append_left _ hp)).1, (N p (List.mem_append_left _ hp)).2⟩
    · rcases List.mem_cons.mp hp with rfl | hp
      · exact ⟨ho', hmem.2⟩
      · have z := N p (List.mem_append_right _ (List.mem_cons_of_mem _ hp))
        exact ⟨(hs.2 _ (h2 p hp)).trans z.1, z.2⟩
theorem nameX_Fb {M : Model} {A : Around} {E : Value → Shared → Prop} {s : Shared} {h₀ : Heap} {L a : Addr} {m : Str → Option Value} {cn : Str} {cs : Scope} {ccd : Value} {cl : List (Str × Addr)} {x : Str} {pos : Pos} {v : Value} {Q : Value → Shared → Prop} {c : Addr} {o : Obj}
    (h : Q v s) (hk : cs.kind = .function := by rfl) (hx : (envX cn cs L a ccd cl).kindOf x = some .free := by rfl)
    (hc : cl.lookup x = some c := by rfl) (F : Fr h₀ L s.heap m := by k_asm) (ho : h₀.get? c = some o := by with_reducible assumption) (hd : o.data = .cell (some v) := by with_reducible assumption) (hb : (x == ("__debug__" : Str)) = false := by decide) (hn : (x == ("__classdict__" : Str)) = false := by decide) :
    wpAny M A (eval (.Name x pos) (envX cn cs L a ccd cl)) Q E s := wpAny_Name (wpAny_loadName_free hk hx hc ⟨o, F.keep _ _ ho, hd⟩ h hn) hb
/-- the seven cells of law -/
noncomputable abbrev lawCells (L : Addr) (c7 c6 c5 c4 c3 c2 c1 : Obj) : List (Addr × Obj) := [(L + 1 + 1 + 1 + 1 + 1 + 1 + 1, c7), (L + 1 + 1 + 1 + 1 + 1 + 1, c6), (L + 1 + 1 + 1 + 1 + 1, c5), (L + 1 + 1 + 1 + 1, c4), (L + 1 + 1 + 1, c3), (L + 1 + 1, c2), (L + 1, c1)]
theorem cell_ne {L i j : Nat} (h : i ≠ j) : L + i ≠ L + j := fun e => h (Nat.add_left_cancel e)
theorem far_ne {L a i : Nat} (h : L + 7 < a) (hi : i ≤ 7) : a ≠ L + i := Nat.ne_of_gt (Nat.lt_of_le_of_lt (Nat.add_le_add_left hi L) h)
theorem low_ne {L c i : Nat} (h : c < L) : c ≠ L + i := Nat.ne_of_lt (Nat.lt_of_lt_of_le h (Nat.le_add_right L i))
theorem cells_ne {L a : Addr} (h : @LT.lt Nat _ (L + 7) a) {c7 c6 c5 c4 c3 c2 c1 : Obj} {l : List (Addr × Obj)} (r : ∀ p ∈ l, p.1 ≠ a) : ∀ p ∈ lawCells L c7 c6 c5 c4 c3 c2 c1 ++ l, p.1 ≠ a :=
  all_cons ((far_ne (i := 7) h (by decide)).symm) (all_cons ((far_ne (i := 6) h (by decide)).symm) (all_cons ((far_ne (i := 5) h (by decide)).symm) (all_cons ((far_ne (i := 4) h (by decide)).symm) (all_cons ((far_ne (i := 3) h (by decide)).symm) (all_cons ((far_ne (i := 2) h (by decide)).symm) (all_cons ((far_ne (i := 1) h (by decide)).symm) (r)))))))
/-- names told by a check, no search -/
theorem mOf_extB {l₁ l₂ : List (Str × Value)} (keys : List Str) (h₁ : (l₁.all fun p => decide (p.1 ∈ keys)) = true) (h₂ : (l₂.all fun p => decide (p.1 ∈ keys)) = true) (h : ∀ k ∈ keys, mOf l₁ k = mOf l₂ k) : mOf l₁ = mOf l₂ :=
  mOf_ext keys (fun p hp => of_decide_eq_true (List.all_eq_true.mp h₁ p hp)) (fun p hp => of_decide_eq_true (List.all_eq_true.mp h₂ p hp)) h
theorem Site.go {C : Cx} {A A₀ : Around} {env : Env} {outer : List Env} {base h₀ : Heap} {L : Addr} {m m' : Str → Option Value} {s s' : Shared} (S : Site C A A₀ env outer base h₀ L m s) (F : Fr h₀ L s'.heap m') : Site C A A₀ env outer base h₀ L m' s' :=
  ⟨S.B, F, S.X, S.T, S.hA, S.hf, S.hk, S.hh⟩
theorem div_small {prog : Program} {w : World} {A : Around} {E : Value → Shared → Prop} {s : Shared} {Q : Value → Shared → Prop} {a b : Int} {t u : Tok} 
    (h : Q (.float (Float64.ofFrac false a.natAbs b.natAbs) s.toks) { s with toks := s.toks + 1 }) (hA : A.handled = none := by with_reducible assumption) (ha : 0 ≤ a ∧ a < 1000 := by constructor <;> omega) (hb : 0 < b := by decide) : wpAny (model prog w) A (binaryOp .Div (.int a t) (.int b u)) Q E s := by
  refine PySem.Flt.div_ii_fits hA (by omega) (fun e => absurd e (by omega)) fun _ _ => ?_
  have e : (decide (a < 0) != decide (b < 0)) = false := by
    rw [decide_eq_false (by omega), decide_eq_false (by omega)]; rfl
  rw [e]; exact h
noncomputable def wLaw (L : Addr) : List Addr := [L, 64, 85, L + 1 + 1 + 1 + 1 + 1 + 1 + 1, L + 1 + 1 + 1 + 1 + 1 + 1, L + 1 + 1 + 1 + 1 + 1, L + 1 + 1 + 1 + 1, L + 1 + 1 + 1, L + 1 + 1, L + 1]
/-- a walk with its end kept under a name -/
theorem abs_post {M : Model} {A : Around} {E : Value → Shared → Prop} {s : Shared} {env : Env} {t : Expr} {v : Value} {body : List Stmt} {P : Flow → Shared → Prop}
    (h : ∀ QQ : Flow → Shared → Prop, (∀ f s', P f s' → QQ f s') → wpAny M A (assign t env v) (fun _ s₃ => wpAny M A (execs body env) QQ E s₃) E s) :
    wpAny M A (assign t env v) (fun _ s₃ => wpAny M A (execs body env) P E s₃) E s := h P fun _ _ h => h
theorem abs_q {α : Type} {M : Model} {A : Around} {E : Value → Shared → Prop} {s : Shared} {t : Sem α} {P : α → Shared → Prop} (h : ∀ QQ : α → Shared → Prop, (∀ f s', P f s' → QQ f s') → wpAny M A t QQ E s) : wpAny M A t P E s := h P fun _ _ h => h
end Mine
section
open Mine
local macro_rules | `(tactic| walk_at "spliced") => `(tactic| dsimp only)
local macro_rules | `(tactic| walk_at "execs cons") => `(tactic| dsimp only)
local macro_rules | `(tactic| walk_at "storeName") => `(tactic| dsimp only)
local macro_rules | `(tactic| walk_at "eval BinOp") => `(tactic| dsimp only)
section
open Mine
local macro_rules | `(tactic| walk_at "ite") => `(tactic| first | refine Mine.ite_on ?_ | refine Mine.ite_no ?_ | refine Mine.ite_off ?_)
namespace Mine
theorem topOff3 : True := by w_top off; trivial
local macro_rules | `(tactic| walk_at "exec While Compare cons nil") => `(tactic| refine Stop.out ?_)
noncomputable abbrev mBis (a : Addr) (x : Value) (key : Value) (lo hi : Nat) (tl th : Tok) (tail : List (Str × Value)) : List (Str × Value) :=
  [(Str.ofString "hi", .int hi th), (Str.ofString "lo", .int lo tl), (Str.ofString "a", .ref a), (Str.ofString "x", x), (Str.ofString "key", key)] ++ tail
def midTail (tail : List (Str × Value)) : Prop := tail = [] ∨ ∃ v, tail = [(Str.ofString "mid", v)]
def bisJ (a : Addr) (x key : Value) (len lo0 : Nat) (P : Nat → Bool) (n : Nat) (m₁ : Str → Option Value) (news₁ : List (Addr × Obj)) : Prop :=
  ∃ lo hi : Nat, ∃ tl th tail, midTail tail ∧ lo0 ≤ lo ∧ lo ≤ hi ∧ hi ≤ len ∧ n = hi - lo ∧ (∀ i < lo, P i = false) ∧ (∀ i, hi ≤ i → i < len → P i = true) ∧ news₁ = [] ∧ m₁ = mOf (mBis a x key lo hi tl th tail)
noncomputable abbrev kBis : List Str := [Str.ofString "hi", Str.ofString "lo", Str.ofString "a", Str.ofString "x", Str.ofString "key", Str.ofString "mid"]
theorem func_same {K : Frag} {a : Addr} {oc oc' : Value} {od od' : Option Addr} {fd fd' : FuncData} {osl osl' : Array (Option Value)} (h1 : K.lookup a = some ⟨oc, od, .func fd, osl⟩) (h2 : K.lookup a = some ⟨oc', od', .func fd', osl'⟩) : fd = fd' := by
  have z := h1.symm.trans h2
  simp only [Option.some.injEq, Obj.mk.injEq, Data.func.injEq] at z
  exact z.2.2.1
set_option maxHeartbeats 4000000 in
theorem br_gen (C : Cx) (H : Heap) (a fa : Addr) (x : UInt64) (tx : Tok) (t0 : Tok) (vals : List Value) (ns : List Int) (ha : H.IsList a vals.toArray) (hns : IntsAre vals ns) (hlen : ns.length < 100)
    (d u : Nat) (dom : Int → Prop) (hdom : ∀ n ∈ ns, dom n) (Kf : Int → UInt64) (key : KeyOk C d u H fa dom Kf)
    (P : Nat → Bool) (hP : ∀ i (hi : i < ns.length), P i = (Float64.cmp x (Kf ns[i]) == some Ordering.lt)) (hmono : ∀ i j, i ≤ j → j < ns.length → P i = true → P j = true) {vs : List Value} {kw : List (Str × Value)} (hb : ∀ {s : Shared} {fd : FuncData} {oc : Value} {od : Option Addr} {osl : Array (Option Value)}, (hd.heap_39 C.w.params).In s.heap → (hd.heap_39 C.w.params).lookup 39 = some ⟨oc, od, .func fd, osl⟩ → BindsTo s fd ⟨vs, kw⟩ [(Str.ofString "a", .ref a), (Str.ofString "x", .float x tx), (Str.ofString "lo", .int 0 t0), (Str.ofString "hi", .none), (Str.ofString "key", .ref fa)]) :
    Pure C (d + 2) (u + 10) H (.ref 39) vs kw (fun _ _ r => ∃ p : Nat, ∃ t, r = .int p t ∧ p ≤ ns.length ∧ 0 ≤ p ∧ (∀ i < p, P i = false) ∧ ∀ i, p ≤ i → i < ns.length → P i = true) := by
  intro A A₀ env outer base h₀ L m s0 Q E S hst hd hu hq
  have X0 := S.X
  have X1 := S.X.keeps S.F.keep
  revert X0 X1; k_fill; intro X0 X1
  k_dflt (refine' enter S [(Str.ofString "a", .ref a), (Str.ofString "x", .float x tx), (Str.ofString "lo", .int 0 t0), (Str.ofString "hi", .none), (Str.ofString "key", .ref fa)] ?k6 ?k7 ?k8 ?k9 ?kB ?c5 ?c2 ?c3 ?c4 ?_; (case k6 => k_is); (case k7 => k_is); (case k8 => omega); (case k9 => exact hb X1 (by k_is)); (case c5 => decide); (case kB => exact locs rfl); (case c2 => exact rfl); (case c3 => exact rfl); (case c4 => exact rfl); k_whole)
  intro L' h₁ S'
  have ha' : s0.heap.IsList a vals.toArray := ha.at fun o e => hst _ o e
  have hfn : FnAt s0.heap fa := key.fn.keeps hst
  obtain ⟨B', F', X', T', hA', hf', hk', hh'⟩ := S'
  have N' : News s0.heap L' h₁ [] := News.nil
  clear X0 X1 S
  dsimp only at F'
  k_unmd
  k_fold
  k_steps
  refine Stop.mk ?_
  rename Fr _ _ _ _ => F9
  refine While_inv (bisJ a (.float x tx) (.ref fa) ns.length 0 P) (n₀ := ns.length - 0) F9 News.nil ?_ ?_ PassesOwn.never
  · refine' Exists.intro 0 ⟨ns.length, t0, _, [], .inl rfl, Nat.le_refl _, Nat.zero_le _, Nat.le_refl _, rfl, fun i h => absurd h (Nat.not_lt_zero _), fun i h1 h2 => absurd h2 (Nat.not_lt.mpr h1), rfl, _⟩
    rotate_left
    rw [mOf_store]
    refine mOf_extB kBis ?_ ?_ (all_cons ?_ (all_cons ?_ (all_cons ?_ (all_cons ?_ (all_cons ?_ (all_cons ?_ all_nil)))))) <;> rfl
  · rintro n m₁ news₁ h₂ tk₂ F2 N2 ⟨lo, hi, tl, th, tail, htail, h0, h1, h2, rfl, h4, h5, rfl, rfl⟩
    clear F9
    have hwr : ∀ (sW : Shared) (lo' hi' : Nat) (h' : Heap) (tk' : Nat) (m' : List (Str × Value)), Fr s0.heap L' h' (mOf m') → 0 ≤ lo' → lo' ≤ hi' → hi' ≤ ns.length → hi' - lo' < hi - lo → (∀ i < lo', P i = false) → (∀ i, hi' ≤ i → i < ns.length → P i = true) →
        (∃ tl th v, mOf m' = mOf (mBis a (.float x tx) (.ref fa) lo' hi' tl th [(Str.ofString "mid", v)])) →
        WhileStep s0.heap L' sW (bisJ a (.float x tx) (.ref fa) ns.length 0 P) (hi - lo) .next { sW with heap := h', toks := tk' } := by
      rintro sW lo' hi' h' tk' m' F a0 a1 a2 a3 a4 a5 ⟨tl, th, v, e⟩
      exact WhileStep.intro F News.nil a3 (Exists.intro lo' ⟨hi', tl, th, _, .inr ⟨v, rfl⟩, a0, a1, a2, rfl, a4, a5, rfl, e⟩)
    all_goals k_steps
    all_goals (try (refine hq _ _ _ (Fr.keep (by with_reducible assumption)) ⟨lo, _, rfl, by omega, by omega, h4, fun i h => h5 i (by omega)⟩; done))
    all_goals (
      refine callWith_fn hfn ?_
      have hmid : ((lo : Int) + (hi : Int)).fdiv 2 = (((lo + hi) / 2 : Nat) : Int) := by rw [Int.fdiv_eq_ediv_of_nonneg _ (by decide)]; omega
      have hlt : (lo + hi) / 2 < ns.length := by omega
      have hv : ns.getD (((lo : Int) + (hi : Int)).fdiv 2).toNat 0 = ns[(lo + hi) / 2] := by rw [hmid, Int.toNat_natCast]; simp only [List.getD, List.getElem?_eq_getElem hlt, Option.getD_some]
      have hPm := hP _ hlt
      k_steps)
    all_goals first
      | (rename Fr _ _ _ _ => F3; exact hfn.keeps F3.keep)
      | (rename Fr _ _ _ _ => F3
         rename News _ _ _ _ => N3
         rw [hv]
         refine Pure.use (key.call _ _ (hdom _ (List.getElem_mem _))) B' F3 X' T' hA' hf' hk' hh' N3 (fun b o e => F3.keep b o (hst b o e)) (by simp only [depth_deeper]; omega) (by simp only [units_deeper]; omega) ?_
         rintro r hp4 tk4 F4 N4 hs4 ⟨t4, rfl⟩
         clear F3 N3 hs4
         k_steps)
    all_goals (
      rename Fr _ _ _ _ => F5
      simp only [mOf_app, hmid] at F5
      (try rename ((Float64.cmp x (Kf ns[(lo + hi) / 2]) == some Ordering.lt) = true) => hlt9)
      (try rename ((Float64.cmp x (Kf ns[(lo + hi) / 2]) == some Ordering.lt) = false) => hge9))
    all_goals first
      | (rw [hlt9] at hPm
         refine hwr _ lo ((lo + hi) / 2) _ _ _ F5 (by omega) (by omega) (by omega) (by omega) h4 (fun i h h' => hmono _ _ h h' hPm) ?_
         rcases htail with rfl | ⟨_, rfl⟩ <;> exact ⟨_, _, _, mOf_extB kBis rfl rfl (all_cons rfl (all_cons rfl (all_cons rfl (all_cons rfl (all_cons rfl (all_cons rfl all_nil))))))⟩)
      | (rw [hge9] at hPm
         refine hwr _ ((lo + hi) / 2 + 1) hi _ _ _ F5 (by omega) (by omega) (by omega) (by omega) (fun i h => by
          cases hc : P i with
          | false => rfl
          | true => rw [hmono i _ (by omega) hlt hc] at hPm; cases hPm) h5 ?_
         rcases htail with rfl | ⟨_, rfl⟩ <;> exact ⟨_, _, _, mOf_extB kBis rfl rfl (all_cons rfl (all_cons rfl (all_cons rfl (all_cons rfl (all_cons rfl (all_cons rfl all_nil))))))⟩)
set_option maxHeartbeats 4000000 in
theorem bl_key (C : Cx) (H : Heap) (a fa : Addr) (x : UInt64) (tx : Tok) (vals : List Value) (ns : List Int) (ha : H.IsList a vals.toArray) (hns : IntsAre vals ns) (hlen : ns.length < 100)
    (d u : Nat) (dom : Int → Prop) (hdom : ∀ n ∈ ns, dom n) (Kf : Int → UInt64) (key : KeyOk C d u H fa dom Kf)
    (P : Nat → Bool) (hP : ∀ i (hi : i < ns.length), P i = !(Float64.cmp (Kf ns[i]) x == some Ordering.lt)) (hmono : ∀ i j, i ≤ j → j < ns.length → P i = true → P j = true) :
    Pure C (d + 2) (u + 10) H (.ref 48) [.ref a, .float x tx] [(Str.ofString "key", .ref fa)] (fun _ _ r => ∃ p : Nat, ∃ t, r = .int p t ∧ p ≤ ns.length ∧ 0 ≤ p ∧ (∀ i < p, P i = false) ∧ ∀ i, p ≤ i → i < ns.length → P i = true) := by
  intro A A₀ env outer base h₀ L m s0 Q E S hst hd hu hq
  have X0 := S.X
  have X1 := S.X.keeps S.F.keep
  revert X0 X1; k_fill; intro X0 X1
  k_dflt (refine' enter S [(Str.ofString "a", .ref a), (Str.ofString "x", .float x tx), (Str.ofString "lo", .int 0 229), (Str.ofString "hi", .none), (Str.ofString "key", .ref fa)] ?k6 ?k7 ?k8 ?k9 ?kB ?c5 ?c2 ?c3 ?c4 ?_; (case k6 => k_is); (case k7 => k_is); (case k8 => omega); (case k9 => exact kp_binds X1 (fun S => by rfl)); (case c5 => decide); (case kB => exact locs rfl); (case c2 => exact rfl); (case c3 => exact rfl); (case c4 => exact rfl); k_whole)
  intro L' h₁ S'
  have ha' : s0.heap.IsList a vals.toArray := ha.at fun o e => hst _ o e
  have hfn : FnAt s0.heap fa := key.fn.keeps hst
  obtain ⟨B', F', X', T', hA', hf', hk', hh'⟩ := S'
  have N' : News s0.heap L' h₁ [] := News.nil
  clear X0 X1 S
  dsimp only at F'
  k_unmd
  k_fold
  k_steps
  refine Stop.mk ?_
  rename Fr _ _ _ _ => F9
  refine While_inv (bisJ a (.float x tx) (.ref fa) ns.length 0 P) (n₀ := ns.length - 0) F9 News.nil ?_ ?_ PassesOwn.never
  · refine' Exists.intro 0 ⟨ns.length, 229, _, [], .inl rfl, Nat.le_refl _, Nat.zero_le _, Nat.le_refl _, rfl, fun i h => absurd h (Nat.not_lt_zero _), fun i h1 h2 => absurd h2 (Nat.not_lt.mpr h1), rfl, _⟩
    rotate_left
    rw [mOf_store]
    refine mOf_extB kBis ?_ ?_ (all_cons ?_ (all_cons ?_ (all_cons ?_ (all_cons ?_ (all_cons ?_ (all_cons ?_ all_nil)))))) <;> rfl
  · rintro n m₁ news₁ h₂ tk₂ F2 N2 ⟨lo, hi, tl, th, tail, htail, h0, h1, h2, rfl, h4, h5, rfl, rfl⟩
    clear F9
    have hwr : ∀ (sW : Shared) (lo' hi' : Nat) (h' : Heap) (tk' : Nat) (m' : List (Str × Value)), Fr s0.heap L' h' (mOf m') → 0 ≤ lo' → lo' ≤ hi' → hi' ≤ ns.length → hi' - lo' < hi - lo → (∀ i < lo', P i = false) → (∀ i, hi' ≤ i → i < ns.length → P i = true) →
        (∃ tl th v, mOf m' = mOf (mBis a (.float x tx) (.ref fa) lo' hi' tl th [(Str.ofString "mid", v)])) →
        WhileStep s0.heap L' sW (bisJ a (.float x tx) (.ref fa) ns.length 0 P) (hi - lo) .next { sW with heap := h', toks := tk' } := by
      rintro sW lo' hi' h' tk' m' F a0 a1 a2 a3 a4 a5 ⟨tl, th, v, e⟩
      exact WhileStep.intro F News.nil a3 (Exists.intro lo' ⟨hi', tl, th, _, .inr ⟨v, rfl⟩, a0, a1, a2, rfl, a4, a5, rfl, e⟩)
    all_goals k_steps
    all_goals (try (refine hq _ _ _ (Fr.keep (by with_reducible assumption)) ⟨lo, _, rfl, by omega, by omega, h4, fun i h => h5 i (by omega)⟩; done))
    all_goals (
      refine callWith_fn hfn ?_
      have hmid : ((lo : Int) + (hi : Int)).fdiv 2 = (((lo + hi) / 2 : Nat) : Int) := by rw [Int.fdiv_eq_ediv_of_nonneg _ (by decide)]; omega
      have hlt : (lo + hi) / 2 < ns.length := by omega
      have hv : ns.getD (((lo : Int) + (hi : Int)).fdiv 2).toNat 0 = ns[(lo + hi) / 2] := by rw [hmid, Int.toNat_natCast]; simp only [List.getD, List.getElem?_eq_getElem hlt, Option.getD_some]
      have hPm := hP _ hlt
      k_steps)
    all_goals first
      | (rename Fr _ _ _ _ => F3; exact hfn.keeps F3.keep)
      | (rename Fr _ _ _ _ => F3
         rename News _ _ _ _ => N3
         rw [hv]
         refine Pure.use (key.call _ _ (hdom _ (List.getElem_mem _))) B' F3 X' T' hA' hf' hk' hh' N3 (fun b o e => F3.keep b o (hst b o e)) (by simp only [depth_deeper]; omega) (by simp only [units_deeper]; omega) ?_
         rintro r hp4 tk4 F4 N4 hs4 ⟨t4, rfl⟩
         clear F3 N3 hs4
         k_steps)
    all_goals (
      rename Fr _ _ _ _ => F5
      simp only [mOf_app, hmid] at F5
      (try rename ((Float64.cmp (Kf ns[(lo + hi) / 2]) x == some Ordering.lt) = true) => hlt9)
      (try rename ((Float64.cmp (Kf ns[(lo + hi) / 2]) x == some Ordering.lt) = false) => hge9))
    all_goals first
      | (simp only [hge9, Bool.not_false] at hPm
         refine hwr _ lo ((lo + hi) / 2) _ _ _ F5 (by omega) (by omega) (by omega) (by omega) h4 (fun i h h' => hmono _ _ h h' hPm) ?_
         rcases htail with rfl | ⟨_, rfl⟩ <;> exact ⟨_, _, _, mOf_extB kBis rfl rfl (all_cons rfl (all_cons rfl (all_cons rfl (all_cons rfl (all_cons rfl (all_cons rfl all_nil))))))⟩)
      | (simp only [hlt9, Bool.not_true] at hPm
         refine hwr _ ((lo + hi) / 2 + 1) hi _ _ _ F5 (by omega) (by omega) (by omega) (by omega) (fun i h => by
          cases hc : P i with
          | false => rfl
          | true => rw [hmono i _ (by omega) hlt hc] at hPm; cases hPm) h5 ?_
         rcases htail with rfl | ⟨_, rfl⟩ <;> exact ⟨_, _, _, mOf_extB kBis rfl rfl (all_cons rfl (all_cons rfl (all_cons rfl (all_cons rfl (all_cons rfl (all_cons rfl all_nil))))))⟩)
set_option maxHeartbeats 4000000 in
theorem bl_gen (C : Cx) (H : Heap) (a : Addr) (x : Int) (tx : Tok) (t0 : Tok) (vals : List Value) (ns : List Int) (ha : H.IsList a vals.toArray) (hns : IntsAre vals ns) (hlen : ns.length < 100)
    
    (P : Nat → Bool) (hP : ∀ i (hi : i < ns.length), P i = decide (x ≤ ns[i])) (hmono : ∀ i j, i ≤ j → j < ns.length → P i = true → P j = true) (lo0 : Nat) (hlo0 : lo0 ≤ ns.length) (hlo1 : ∀ i < lo0, P i = false) {vs : List Value} {kw : List (Str × Value)} (hb : ∀ {s : Shared} {fd : FuncData} {oc : Value} {od : Option Addr} {osl : Array (Option Value)}, (hd.heap_39 C.w.params).In s.heap → (hd.heap_39 C.w.params).lookup 48 = some ⟨oc, od, .func fd, osl⟩ → BindsTo s fd ⟨vs, kw⟩ [(Str.ofString "a", .ref a), (Str.ofString "x", .int x tx), (Str.ofString "lo", .int (lo0 : Nat) t0), (Str.ofString "hi", .none), (Str.ofString "key", .none)]) :
    Pure C 2 10 H (.ref 48) vs kw (fun _ _ r => ∃ p : Nat, ∃ t, r = .int p t ∧ p ≤ ns.length ∧ lo0 ≤ p ∧ (∀ i < p, P i = false) ∧ ∀ i, p ≤ i → i < ns.length → P i = true) := by
  intro A A₀ env outer base h₀ L m s0 Q E S hst hd hu hq
  have X0 := S.X
  have X1 := S.X.keeps S.F.keep
  revert X0 X1; k_fill; intro X0 X1
  k_dflt (refine' enter S [(Str.ofString "a", .ref a), (Str.ofString "x", .int x tx), (Str.ofString "lo", .int (lo0 : Nat) t0), (Str.ofString "hi", .none), (Str.ofString "key", .none)] ?k6 ?k7 ?k8 ?k9 ?kB ?c5 ?c2 ?c3 ?c4 ?_; (case k6 => k_is); (case k7 => k_is); (case k8 => omega); (case k9 => exact hb X1 (by k_is)); (case c5 => decide); (case kB => exact locs rfl); (case c2 => exact rfl); (case c3 => exact rfl); (case c4 => exact rfl); k_whole)
  intro L' h₁ S'
  have ha' : s0.heap.IsList a vals.toArray := ha.at fun o e => hst _ o e
  have hneg : ¬ ((lo0 : Nat) : Int) < 0 := by omega
  obtain ⟨B', F', X', T', hA', hf', hk', hh'⟩ := S'
  have N' : News s0.heap L' h₁ [] := News.nil
  clear X0 X1 S
  dsimp only at F'
  k_unmd
  k_fold
  k_steps
  refine Stop.mk ?_
  rename Fr _ _ _ _ => F9
  refine While_inv (bisJ a (.int x tx) (.none) ns.length lo0 P) (n₀ := ns.length - lo0) F9 News.nil ?_ ?_ PassesOwn.never
  · refine' Exists.intro lo0 ⟨ns.length, t0, _, [], .inl rfl, Nat.le_refl _, hlo0, Nat.le_refl _, rfl, hlo1, fun i h1 h2 => absurd h2 (Nat.not_lt.mpr h1), rfl, _⟩
    rotate_left
    rw [mOf_store]
    refine mOf_extB kBis ?_ ?_ (all_cons ?_ (all_cons ?_ (all_cons ?_ (all_cons ?_ (all_cons ?_ (all_cons ?_ all_nil)))))) <;> rfl
  · rintro n m₁ news₁ h₂ tk₂ F2 N2 ⟨lo, hi, tl, th, tail, htail, h0, h1, h2, rfl, h4, h5, rfl, rfl⟩
    clear F9
    have hwr : ∀ (sW : Shared) (lo' hi' : Nat) (h' : Heap) (tk' : Nat) (m' : List (Str × Value)), Fr s0.heap L' h' (mOf m') → lo0 ≤ lo' → lo' ≤ hi' → hi' ≤ ns.length → hi' - lo' < hi - lo → (∀ i < lo', P i = false) → (∀ i, hi' ≤ i → i < ns.length → P i = true) →
        (∃ tl th v, mOf m' = mOf (mBis a (.int x tx) (.none) lo' hi' tl th [(Str.ofString "mid", v)])) →
        WhileStep s0.heap L' sW (bisJ a (.int x tx) (.none) ns.length lo0 P) (hi - lo) .next { sW with heap := h', toks := tk' } := by
      rintro sW lo' hi' h' tk' m' F a0 a1 a2 a3 a4 a5 ⟨tl, th, v, e⟩
      exact WhileStep.intro F News.nil a3 (Exists.intro lo' ⟨hi', tl, th, _, .inr ⟨v, rfl⟩, a0, a1, a2, rfl, a4, a5, rfl, e⟩)
    all_goals (
      have hmid : ((lo : Int) + (hi : Int)).fdiv 2 = (((lo + hi) / 2 : Nat) : Int) := by rw [Int.fdiv_eq_ediv_of_nonneg _ (by decide)]; omega
      have hv : lo < hi → ∃ hlt : (lo + hi) / 2 < ns.length, ns.getD (((lo : Int) + (hi : Int)).fdiv 2).toNat 0 = ns[(lo + hi) / 2] := fun h => by
        have hlt : (lo + hi) / 2 < ns.length := by omega
        refine ⟨hlt, ?_⟩
        rw [hmid, Int.toNat_natCast]; simp only [List.getD, List.getElem?_eq_getElem hlt, Option.getD_some]
      k_steps)
    all_goals (try (refine hq _ _ _ (Fr.keep (by with_reducible assumption)) ⟨lo, _, rfl, by omega, by omega, h4, fun i h => h5 i (by omega)⟩; done))
    all_goals (
      obtain ⟨hlt, hv⟩ := hv (by omega)
      have hPm := hP _ hlt)
    all_goals (
      rename Fr _ _ _ _ => F5
      simp only [mOf_app, hmid] at F5
      (try (rename (ns.getD (((lo : Int) + (hi : Int)).fdiv 2).toNat 0 < x) => hlt9; rw [hv] at hlt9))
      (try (rename (¬ ns.getD (((lo : Int) + (hi : Int)).fdiv 2).toNat 0 < x) => hge9; rw [hv] at hge9)))
    all_goals first
      | (rw [decide_eq_true (Int.not_lt.mp hge9)] at hPm
         refine hwr _ lo ((lo + hi) / 2) _ _ _ F5 (by omega) (by omega) (by omega) (by omega) h4 (fun i h h' => hmono _ _ h h' hPm) ?_
         rcases htail with rfl | ⟨_, rfl⟩ <;> exact ⟨_, _, _, mOf_extB kBis rfl rfl (all_cons rfl (all_cons rfl (all_cons rfl (all_cons rfl (all_cons rfl (all_cons rfl all_nil))))))⟩)
      | (rw [decide_eq_false (Int.not_le.mpr hlt9)] at hPm
         refine hwr _ ((lo + hi) / 2 + 1) hi _ _ _ F5 (by omega) (by omega) (by omega) (by omega) (fun i h => by
          cases hc : P i with
          | false => rfl
          | true => rw [hmono i _ (by omega) hlt hc] at hPm; cases hPm) h5 ?_
         rcases htail with rfl | ⟨_, rfl⟩ <;> exact ⟨_, _, _, mOf_extB kBis rfl rfl (all_cons rfl (all_cons rfl (all_cons rfl (all_cons rfl (all_cons rfl (all_cons rfl all_nil))))))⟩)
theorem br_b1 (C : Cx) {a fa : Addr} {x : UInt64} {tx : Tok} {s : Shared} {fd : FuncData} {oc : Value} {od : Option Addr} {osl : Array (Option Value)} (X1 : (hd.heap_39 C.w.params).In s.heap) (e : (hd.heap_39 C.w.params).lookup 39 = some ⟨oc, od, .func fd, osl⟩) :
    BindsTo s fd ⟨[.ref a, .float x tx], [(Str.ofString "key", .ref fa)]⟩ [(Str.ofString "a", .ref a), (Str.ofString "x", .float x tx), (Str.ofString "lo", .int 0 215), (Str.ofString "hi", .none), (Str.ofString "key", .ref fa)] := by
  have dm : PySem.Challenge.rw_pm0032_01 = PySem.Challenge.rw_pm0032_01 := rfl
  revert X1 dm; k_fill; intro X1 dm
  clear dm
  obtain rfl := func_same (fd' := fnOf _ _ _ _ _ _ _ _ _ _ _ _) e (by k_is)
  exact kp_binds X1 (fun S => by rfl)
theorem br_b2 (C : Cx) {a fa : Addr} {x : UInt64} {tx : Tok} {t0 : Tok} {s : Shared} {fd : FuncData} {oc : Value} {od : Option Addr} {osl : Array (Option Value)} (X1 : (hd.heap_39 C.w.params).In s.heap) (e : (hd.heap_39 C.w.params).lookup 39 = some ⟨oc, od, .func fd, osl⟩) :
    BindsTo s fd ⟨[.ref a, .float x tx, .int 0 t0, .none], [(Str.ofString "key", .ref fa)]⟩ [(Str.ofString "a", .ref a), (Str.ofString "x", .float x tx), (Str.ofString "lo", .int 0 t0), (Str.ofString "hi", .none), (Str.ofString "key", .ref fa)] := by
  have dm : PySem.Challenge.rw_pm0032_01 = PySem.Challenge.rw_pm0032_01 := rfl
  revert X1 dm; k_fill; intro X1 dm
  clear dm
  obtain rfl := func_same (fd' := fnOf _ _ _ _ _ _ _ _ _ _ _ _) e (by k_is)
  exact kp_binds X1 (fun S => by rfl)
theorem bl_b1 (C : Cx) {a : Addr} {x : Int} {tx : Tok} {s : Shared} {fd : FuncData} {oc : Value} {od : Option Addr} {osl : Array (Option Value)} (X1 : (hd.heap_39 C.w.params).In s.heap) (e : (hd.heap_39 C.w.params).lookup 48 = some ⟨oc, od, .func fd, osl⟩) :
    BindsTo s fd ⟨[.ref a, .int x tx], []⟩ [(Str.ofString "a", .ref a), (Str.ofString "x", .int x tx), (Str.ofString "lo", .int (0 : Nat) 229), (Str.ofString "hi", .none), (Str.ofString "key", .none)] := by
  have dm : PySem.Challenge.rw_pm0032_01 = PySem.Challenge.rw_pm0032_01 := rfl
  revert X1 dm; k_fill; intro X1 dm
  clear dm
  obtain rfl := func_same (fd' := fnOf _ _ _ _ _ _ _ _ _ _ _ _) e (by k_is)
  exact kp_binds X1 (fun S => by rfl)
theorem bl_b2 (C : Cx) {a : Addr} {x : Int} {tx : Tok} {t0 : Tok} {lo0 : Nat} {s : Shared} {fd : FuncData} {oc : Value} {od : Option Addr} {osl : Array (Option Value)} (X1 : (hd.heap_39 C.w.params).In s.heap) (e : (hd.heap_39 C.w.params).lookup 48 = some ⟨oc, od, .func fd, osl⟩) :
    BindsTo s fd ⟨[.ref a, .int x tx, .int (lo0 : Nat) t0], []⟩ [(Str.ofString "a", .ref a), (Str.ofString "x", .int x tx), (Str.ofString "lo", .int (lo0 : Nat) t0), (Str.ofString "hi", .none), (Str.ofString "key", .none)] := by
  have dm : PySem.Challenge.rw_pm0032_01 = PySem.Challenge.rw_pm0032_01 := rfl
  revert X1 dm; k_fill; intro X1 dm
  clear dm
  obtain rfl := func_same (fd' := fnOf _ _ _ _ _ _ _ _ _ _ _ _) e (by k_is)
  exact kp_binds X1 (fun S => by rfl)
theorem br_key (C : Cx) (H : Heap) (a fa : Addr) (x : UInt64) (tx : Tok) (vals : List Value) (ns : List Int) (ha : H.IsList a vals.toArray) (hns : IntsAre vals ns) (hlen : ns.length < 100)
    (d u : Nat) (dom : Int → Prop) (hdom : ∀ n ∈ ns, dom n) (Kf : Int → UInt64) (key : KeyOk C d u H fa dom Kf) (P : Nat → Bool) (hP : ∀ i (hi : i < ns.length), P i = (Float64.cmp x (Kf ns[i]) == some Ordering.lt)) (hmono : ∀ i j, i ≤ j → j < ns.length → P i = true → P j = true) :
    Pure C (d + 2) (u + 10) H (.ref 39) [.ref a, .float x tx] [(Str.ofString "key", .ref fa)] (fun _ _ r => ∃ p : Nat, ∃ t, r = .int p t ∧ p ≤ ns.length ∧ 0 ≤ p ∧ (∀ i < p, P i = false) ∧ ∀ i, p ≤ i → i < ns.length → P i = true) :=
  br_gen C H a fa x tx 215 vals ns ha hns hlen d u dom hdom Kf key P hP hmono fun X1 e => br_b1 C X1 e
theorem br_keyz (C : Cx) (H : Heap) (a fa : Addr) (x : UInt64) (tx : Tok) (t0 : Tok) (vals : List Value) (ns : List Int) (ha : H.IsList a vals.toArray) (hns : IntsAre vals ns) (hlen : ns.length < 100)
    (d u : Nat) (dom : Int → Prop) (hdom : ∀ n ∈ ns, dom n) (Kf : Int → UInt64) (key : KeyOk C d u H fa dom Kf) (P : Nat → Bool) (hP : ∀ i (hi : i < ns.length), P i = (Float64.cmp x (Kf ns[i]) == some Ordering.lt)) (hmono : ∀ i j, i ≤ j → j < ns.length → P i = true → P j = true) :
    Pure C (d + 2) (u + 10) H (.ref 39) [.ref a, .float x tx, .int 0 t0, .none] [(Str.ofString "key", .ref fa)] (fun _ _ r => ∃ p : Nat, ∃ t, r = .int p t ∧ p ≤ ns.length ∧ 0 ≤ p ∧ (∀ i < p, P i = false) ∧ ∀ i, p ≤ i → i < ns.length → P i = true) :=
  br_gen C H a fa x tx t0 vals ns ha hns hlen d u dom hdom Kf key P hP hmono fun X1 e => br_b2 C X1 e
theorem bl_int (C : Cx) (H : Heap) (a : Addr) (x : Int) (tx : Tok) (vals : List Value) (ns : List Int) (ha : H.IsList a vals.toArray) (hns : IntsAre vals ns) (hlen : ns.length < 100)
    (P : Nat → Bool) (hP : ∀ i (hi : i < ns.length), P i = decide (x ≤ ns[i])) (hmono : ∀ i j, i ≤ j → j < ns.length → P i = true → P j = true) :
    Pure C 2 10 H (.ref 48) [.ref a, .int x tx] [] (fun _ _ r => ∃ p : Nat, ∃ t, r = .int p t ∧ p ≤ ns.length ∧ 0 ≤ p ∧ (∀ i < p, P i = false) ∧ ∀ i, p ≤ i → i < ns.length → P i = true) :=
  bl_gen C H a x tx 229 vals ns ha hns hlen P hP hmono 0 (Nat.zero_le _) (fun i h => absurd h (Nat.not_lt_zero _)) fun X1 e => bl_b1 C X1 e
theorem bl_intg (C : Cx) (H : Heap) (a : Addr) (x : Int) (tx : Tok) (t0 : Tok) (vals : List Value) (ns : List Int) (ha : H.IsList a vals.toArray) (hns : IntsAre vals ns) (hlen : ns.length < 100)
    (P : Nat → Bool) (hP : ∀ i (hi : i < ns.length), P i = decide (x ≤ ns[i])) (hmono : ∀ i j, i ≤ j → j < ns.length → P i = true → P j = true) (lo0 : Nat) (hlo0 : lo0 ≤ ns.length) (hlo1 : ∀ i < lo0, P i = false) :
    Pure C 2 10 H (.ref 48) [.ref a, .int x tx, .int (lo0 : Nat) t0] [] (fun _ _ r => ∃ p : Nat, ∃ t, r = .int p t ∧ p ≤ ns.length ∧ lo0 ≤ p ∧ (∀ i < p, P i = false) ∧ ∀ i, p ≤ i → i < ns.length → P i = true) :=
  bl_gen C H a x tx t0 vals ns ha hns hlen P hP hmono lo0 hlo0 hlo1 fun X1 e => bl_b2 C X1 e
end Mine
namespace Mine
theorem topOff4 : True := by w_top off; trivial
noncomputable abbrev c1 : UInt64 := 4607182418800017408
noncomputable abbrev c6 : UInt64 := 4618441417868443648
noncomputable def hsvP (s v : UInt64) : UInt64 := Float64.mul v (Float64.sub c1 s)
noncomputable def hsvQ (f s v : UInt64) : UInt64 := Float64.mul v (Float64.sub c1 (Float64.mul s f))
noncomputable def hsvT (f s v : UInt64) : UInt64 := Float64.mul v (Float64.sub c1 (Float64.mul s (Float64.sub c1 f)))
noncomputable def hsvOut (c : Int) (f s v : UInt64) : UInt64 × UInt64 × UInt64 :=
  if c = 0 then (v, hsvT f s v, hsvP s v) else if c = 1 then (hsvQ f s v, v, hsvP s v) else if c = 2 then (hsvP s v, v, hsvT f s v)
  else if c = 3 then (hsvP s v, hsvQ f s v, v) else if c = 4 then (hsvT f s v, hsvP s v, v) else (v, hsvP s v, hsvQ f s v)
/-- a fresh tuple of three floats -/
def Tup3 (h0 h' : Heap) (r : Value) (x : UInt64 × UInt64 × UInt64) : Prop :=
  ∃ a t1 t2 t3, r = .ref a ∧ (t1 ≠ 0 ∧ t2 ≠ 0 ∧ t3 ≠ 0) ∧ h0.get? a = none ∧ h'.get? a = some { cls := .type "tuple", data := .seq [Value.float x.1 t1, .float x.2.1 t2, .float x.2.2 t3].toArray }
theorem Tup3.intro {h0 h' : Heap} {a : Addr} {x : UInt64 × UInt64 × UInt64} {y1 y2 y3 : UInt64} {t1 t2 t3 : Tok} (z1 : t1 ≠ 0) (z2 : t2 ≠ 0) (z3 : t3 ≠ 0) (hn : h0.get? a = none)
    (hg : h'.get? a = some { cls := .type "tuple", data := .seq [Value.float y1 t1, .float y2 t2, .float y3 t3].toArray }) (e : (y1, y2, y3) = x) : Tup3 h0 h' (.ref a) x := by
  subst e
  exact ⟨a, t1, t2, t3, rfl, ⟨z1, z2, z3⟩, hn, hg⟩
set_option maxHeartbeats 4000000 in
theorem hsv_spec (C : Cx) (H : Heap) (h s v : UInt64) (th ts tv : Tok) (hv0 : tv ≠ 0) (hs : (Float64.cmp s 0 == some Ordering.eq) = false) (sg : Bool) (mm : Nat) (ee : Int)
   (hdec : Float64.decode (Float64.mul h 4618441417868443648) = .fin sg mm ee) (hi0 : 0 ≤ Float64.truncOf sg mm ee) (hi1 : Float64.truncOf sg mm ee < 18) :
    Pure C 2 10 H (.ref 62) [.float h th, .float s ts, .float v tv] []
      (fun h0 h' r => Tup3 h0 h' r (hsvOut ((Float64.truncOf sg mm ee).fmod 6) (Float64.sub (Float64.mul h c6) (Float64.ofInt (Float64.truncOf sg mm ee))) s v)) := by
  intro A A₀ env outer base h₀ L m s0 Q E S hst hd hu hq
  have X0 := S.X
  revert X0; k_fill; intro X0
  k_dflt (refine' enter S [(Str.ofString "h", .float h th), (Str.ofString "s", .float s ts), (Str.ofString "v", .float v tv)] ?k6 ?k7 ?k8 ?k9 ?kB ?c5 ?c2 ?c3 ?c4 ?_; (case k6 => k_is); (case k7 => k_is); (case k8 => omega); (case k9 => exact BindsTo.of_eq rfl); (case c5 => decide); (case kB => exact locs rfl); (case c2 => exact rfl); (case c3 => exact rfl); (case c4 => exact rfl); k_whole)
  intro L' h₁ S'
  obtain ⟨B', F', X', T', hA', hf', hk', hh'⟩ := S'
  have N' : News s0.heap L' h₁ [] := News.nil
  clear X0 S
  have hm0 := fmod_lo (Float64.truncOf sg mm ee) (n := 6) (by decide)
  have hm1 := fmod_hi (Float64.truncOf sg mm ee) (n := 6) (by decide)
  dsimp only at F'
  k_unmd
  k_fold
  k_steps
  all_goals first
    | (exfalso; omega)
    | (rename News _ _ _ _ => N9
       have n9 := N9 _ (List.mem_cons_self ..)
       rename (Int.fmod _ 6 = _) => e9
       exact hq _ _ _ (Fr.keep (by with_reducible assumption)) (Tup3.intro (by first | with_reducible assumption | exact Nat.succ_ne_zero _) (by first | with_reducible assumption | exact Nat.succ_ne_zero _) (by first | with_reducible assumption | exact Nat.succ_ne_zero _) n9.2.2 n9.1 (by rw [e9]; rfl)))
end Mine
namespace Mine
theorem topOff5 : True := by w_top off; trivial
open PySem.Flt (NumV ltV cmpOf_gt cmpOf_lt)
noncomputable def fmx (a b : UInt64) : UInt64 := if (Float64.cmp a b == some Ordering.lt) = true then b else a
noncomputable def fmn (a b : UInt64) : UInt64 := if (Float64.cmp b a == some Ordering.lt) = true then b else a
theorem tok_of3 {a t u x : Tok} (h1 : t ≠ 0) (h2 : u ≠ 0) (h3 : x ≠ 0) (h : a = t ∨ a = u ∨ a = x) : a ≠ 0 := by rcases h with h | h | h <;> rw [h] <;> assumption
theorem best3 {bt : Nat → Nat → Bool} {f : UInt64 → UInt64 → Bool} {g : UInt64 → UInt64 → UInt64} {a b c : UInt64} {t u x : Tok} {v : Value} (hg : ∀ a b, g a b = if f a b = true then b else a)
    (h1 : bt 1 0 = f a b) (h2 : bt 2 0 = f a c) (h3 : bt 2 1 = f b c) (hv : #[Value.float a t, .float b u, .float c x][argBest bt 2]? = some v) : ∃ t', (t' = t ∨ t' = u ∨ t' = x) ∧ v = .float (g (g a b) c) t' := by
  rw [hg, hg]
  simp only [argBest, h1] at hv
  revert hv
  cases f a b
  · simp only [Bool.false_eq_true, if_false, h2]
    cases f a c <;> rintro ⟨⟩
    · exact ⟨t, .inl rfl, rfl⟩
    · exact ⟨x, .inr (.inr rfl), rfl⟩
  · simp only [if_true, h3]
    cases f b c <;> rintro ⟨⟩
    · exact ⟨u, .inr (.inl rfl), rfl⟩
    · exact ⟨x, .inr (.inr rfl), rfl⟩
section
variable {prog : Program} {w : World} {A : Around} {E : Value → Shared → Prop} {s : Shared} {h₀ : Heap} {L : Addr} {m : Str → Option Value} {news : List (Addr × Obj)}
theorem max3_floats {a b c : UInt64} {t u x : Tok} {Q : Value → Shared → Prop} 
    (h : ∀ h' tk t', t' ≠ 0 → Fr h₀ L h' m → News h₀ L h' news → Q (.float (fmx (fmx a b) c) t') { s with heap := h', toks := tk })
    (hh : A.handled = none := by with_reducible assumption) (F : Fr h₀ L s.heap m := by with_reducible assumption) (N : News h₀ L s.heap news := by with_reducible assumption)
    (k1 : t ≠ 0 := by with_reducible assumption) (k2 : u ≠ 0 := by with_reducible assumption) (k3 : x ≠ 0 := by with_reducible assumption) :
    wpAny (model prog w) A (call (.builtin "max") [.float a t, .float b u, .float c x]) Q E s := by
  have hT : (s.heap.push { cls := .type "tuple", data := .seq #[.float a t, .float b u, .float c x] }).IsTuple s.heap.objs.size #[.float a t, .float b u, .float c x] := ⟨_, Heap.get?_push_size _ rfl, rfl, 0, rfl⟩
  refine call_max_three (wpAny_pyIter_tuple hT ?_)
  have hsz : (s.heap.push { cls := .type "tuple", data := .seq #[.float a t, .float b u, .float c x] }).objs.size = s.heap.objs.size + 1 := Heap.size_push ..
  refine ⟨_, [_, s.heap.objs.size], [_], _, _, _, _, rfl, Walks.tuple (A := A.in1) hh _ s.heap.objs.size (by rw [hsz]; exact Nat.ne_of_lt (Nat.lt_succ_self _)) #[.float a t, .float b u, .float c x],
    ⟨⟨_, Heap.get?_push_size _ rfl, rfl, rfl⟩, hT.push _⟩, fun d hd => ?_, by simp, cmpOf_gt #[.float a t, .float b u, .float c x] (by simp; exact ⟨.float _ _, .float _ _, .float _ _⟩), fun v h' tk hP hk => ?_⟩
  · show d < ((s.heap.push _).push _).objs.size
    rw [Heap.size_push, hsz]
    rcases List.mem_cons.mp hd with rfl | hd
    · rw [hsz]; exact Nat.lt_succ_self _
    · rcases List.mem_cons.mp hd with rfl | hd
      · exact Nat.lt_succ_of_lt (Nat.lt_succ_self _)
      · cases hd
  · have hold : ∀ d o, s.heap.get? d = some o → h'.get? d = some o := fun d o e => by
      refine hk d o (fun hm => ?_) (Heap.get?_push_of_some _ (Heap.get?_push_of_some _ e))
      rcases List.mem_cons.mp hm with e1 | hm
      · have := Heap.lt_size e; rw [e1, hsz] at this; exact Nat.lt_irrefl _ (Nat.lt_of_succ_lt this)
      · cases hm
    have hv : ∃ t', (t' = t ∨ t' = u ∨ t' = x) ∧ v = .float (fmx (fmx a b) c) t' := best3 (f := fun a b => Float64.cmp a b == some Ordering.lt) (fun _ _ => rfl) rfl rfl rfl hP
    obtain ⟨t', ht', rfl⟩ := hv
    exact h h' tk t' (tok_of3 k1 k2 k3 ht') (F.keeps hold) (N.grown hold)
theorem min3_floats {a b c : UInt64} {t u x : Tok} {Q : Value → Shared → Prop} 
    (h : ∀ h' tk t', t' ≠ 0 → Fr h₀ L h' m → News h₀ L h' news → Q (.float (fmn (fmn a b) c) t') { s with heap := h', toks := tk })
    (hh : A.handled = none := by with_reducible assumption) (F : Fr h₀ L s.heap m := by with_reducible assumption) (N : News h₀ L s.heap news := by with_reducible assumption)
    (k1 : t ≠ 0 := by with_reducible assumption) (k2 : u ≠ 0 := by with_reducible assumption) (k3 : x ≠ 0 := by with_reducible assumption) :
    wpAny (model prog w) A (call (.builtin "min") [.float a t, .float b u, .float c x]) Q E s := by
  have hT : (s.heap.push { cls := .type "tuple", data := .seq #[.float a t, .float b u, .float c x] }).IsTuple s.heap.objs.size #[.float a t, .float b u, .float c x] := ⟨_, Heap.get?_push_size _ rfl, rfl, 0, rfl⟩
  refine call_min_three (wpAny_pyIter_tuple hT ?_)
  have hsz : (s.heap.push { cls := .type "tuple", data := .seq #[.float a t, .float b u, .float c x] }).objs.size = s.heap.objs.size + 1 := Heap.size_push ..
  refine ⟨_, [_, s.heap.objs.size], [_], _, _, _, _, rfl, Walks.tuple (A := A.in1) hh _ s.heap.objs.size (by rw [hsz]; exact Nat.ne_of_lt (Nat.lt_succ_self _)) #[.float a t, .float b u, .float c x],
    ⟨⟨_, Heap.get?_push_size _ rfl, rfl, rfl⟩, hT.push _⟩, fun d hd => ?_, by simp, cmpOf_lt #[.float a t, .float b u, .float c x] (by simp; exact ⟨.float _ _, .float _ _, .float _ _⟩), fun v h' tk hP hk => ?_⟩
  · show d < ((s.heap.push _).push _).objs.size
    rw [Heap.size_push, hsz]
    rcases List.mem_cons.mp hd with rfl | hd
    · rw [hsz]; exact Nat.lt_succ_self _
    · rcases List.mem_cons.mp hd with rfl | hd
      · exact Nat.lt_succ_of_lt (Nat.lt_succ_self _)
      · cases hd
  · have hold : ∀ d o, s.heap.get? d = some o → h'.get? d = some o := fun d o e => by
      refine hk d o (fun hm => ?_) (Heap.get?_push_of_some _ (Heap.get?_push_of_some _ e))
      rcases List.mem_cons.mp hm with e1 | hm
      · have := Heap.lt_size e; rw [e1, hsz] at this; exact Nat.lt_irrefl _ (Nat.lt_of_succ_lt this)
      · cases hm
    have hv : ∃ t', (t' = t ∨ t' = u ∨ t' = x) ∧ v = .float (fmn (fmn a b) c) t' := best3 (f := fun a b => Float64.cmp b a == some Ordering.lt) (fun _ _ => rfl) rfl rfl rfl hP
    obtain ⟨t', ht', rfl⟩ := hv
    exact h h' tk t' (tok_of3 k1 k2 k3 ht') (F.keeps hold) (N.grown hold)
end
end Mine
namespace Mine
theorem topOff6 : True := by w_top off; trivial
theorem div_ff {prog : Program} {w : World} {A : Around} {E : Value → Shared → Prop} {s : Shared} {Q : Value → Shared → Prop} {a b : UInt64} {t u : Tok}
    (h : Q (.float (Float64.div a b) s.toks) { s with toks := s.toks + 1 }) (hA : A.handled = none := by with_reducible assumption) (hb : ¬ Float64.isZero b = true := by first | with_reducible assumption | decide +kernel) :
    wpAny (model prog w) A (binaryOp .Div (.float a t) (.float b u)) Q E s := truediv_float_or hA (fun e => absurd e hb) fun _ => h
theorem rem_ff {prog : Program} {w : World} {A : Around} {E : Value → Shared → Prop} {s : Shared} {Q : Value → Shared → Prop} {a b : UInt64} {t u : Tok}
    (h : Q (.float (Float64.divmod a b).2 s.toks) { s with toks := s.toks + 1 }) (hA : A.handled = none := by with_reducible assumption) (hb : ¬ Float64.isZero b = true := by first | with_reducible assumption | decide +kernel) :
    wpAny (model prog w) A (binaryOp .Mod (.float a t) (.float b u)) Q E s := PySem.Flt.mod_ff hA (fun e => absurd e hb) fun _ => h
local macro_rules | `(tactic| walk_at "execs cons") => `(tactic| ((with_reducible refine wpAny_execs_cons ?_); try dsimp only))
local macro_rules | `(tactic| walk_at "execs nil") => `(tactic| ((with_reducible refine wpAny_execs_nil ?_); try dsimp only))
local macro_rules | `(tactic| walk_at "call builtin:max") => `(tactic| (refine max3_floats ?_; intros))
local macro_rules | `(tactic| walk_at "call builtin:min") => `(tactic| (refine min3_floats ?_; intros))
local macro_rules | `(tactic| walk_at "binaryOp Div float float") => `(tactic| refine div_ff ?_)
local macro_rules | `(tactic| walk_at "binaryOp Mod float float") => `(tactic| refine rem_ff ?_)
noncomputable abbrev c2 : UInt64 := 4611686018427387904
noncomputable abbrev c4 : UInt64 := 4616189618054758400
noncomputable def rgbH (r g b M R : UInt64) : UInt64 :=
  if (Float64.cmp r M == some Ordering.eq) = true then Float64.sub (Float64.div (Float64.sub M b) R) (Float64.div (Float64.sub M g) R)
  else if (Float64.cmp g M == some Ordering.eq) = true then Float64.sub (Float64.add c2 (Float64.div (Float64.sub M r) R)) (Float64.div (Float64.sub M b) R)
  else Float64.sub (Float64.add c4 (Float64.div (Float64.sub M g) R)) (Float64.div (Float64.sub M r) R)
noncomputable def rgbOut (r g b M R : UInt64) : UInt64 × UInt64 × UInt64 := ((Float64.divmod (Float64.div (rgbH r g b M R) c6) c1).2, Float64.div R M, M)
set_option maxHeartbeats 4000000 in
theorem rgb_spec (C : Cx) (H : Heap) (r g b : UInt64) (tr tg tb : Tok) (hr0 : tr ≠ 0) (hg0 : tg ≠ 0) (hb0 : tb ≠ 0)
    (hne : (Float64.cmp (fmn (fmn r g) b) (fmx (fmx r g) b) == some Ordering.eq) = false) (hz1 : ¬ Float64.isZero (fmx (fmx r g) b) = true) (hz2 : ¬ Float64.isZero (Float64.sub (fmx (fmx r g) b) (fmn (fmn r g) b)) = true) :
    Pure C 2 10 H (.ref 55) [.float r tr, .float g tg, .float b tb] []
      (fun h0 h' r' => Tup3 h0 h' r' (rgbOut r g b (fmx (fmx r g) b) (Float64.sub (fmx (fmx r g) b) (fmn (fmn r g) b)))) := by
  intro A A₀ env outer base h₀ L m s0 Q E S hst hd hu hq
  have X0 := S.X
  revert X0; k_fill; intro X0
  k_dflt (refine' enter S [(Str.ofString "r", .float r tr), (Str.ofString "g", .float g tg), (Str.ofString "b", .float b tb)] ?k6 ?k7 ?k8 ?k9 ?kB ?c5 ?c2 ?c3 ?c4 ?_; (case k6 => k_is); (case k7 => k_is); (case k8 => omega); (case k9 => exact BindsTo.of_eq rfl); (case c5 => decide); (case kB => exact locs rfl); (case c2 => exact rfl); (case c3 => exact rfl); (case c4 => exact rfl); k_whole)
  intro L' h₁ S'
  obtain ⟨B', F', X', T', hA', hf', hk', hh'⟩ := S'
  have N' : News s0.heap L' h₁ [] := News.nil
  clear X0 S
  dsimp only at F'
  k_unmd
  k_fold
  k_steps
  all_goals (
    rename News _ _ _ (_ :: _) => N9
    have n9 := N9 _ (List.mem_cons_self ..)
    refine hq _ _ _ (Fr.keep (by with_reducible assumption)) (Tup3.intro (by first | with_reducible assumption | exact Nat.succ_ne_zero _) (by first | with_reducible assumption | exact Nat.succ_ne_zero _) (by first | with_reducible assumption | exact Nat.succ_ne_zero _) n9.2.2 n9.1 ?_)
    simp only [rgbOut, rgbH])
  all_goals first
    | (rw [if_pos (by with_reducible assumption)]; done)
    | (rw [if_neg (Bool.eq_false_iff.mp (by with_reducible assumption)), if_pos (by with_reducible assumption)]; done)
    | (rw [if_neg (Bool.eq_false_iff.mp (by with_reducible assumption)), if_neg (Bool.eq_false_iff.mp (by with_reducible assumption))]; done)
    | skip
end Mine
namespace Mine
theorem topOff7 : True := by w_top off; trivial
def LstPost (h₀ : Heap) (L : Addr) (Q : Flow → Shared → Prop) (I : Addr) (io : Obj) (J : (Str → Option Value) → List (Addr × Obj) → Prop) (s₁ : Shared) (f : Flow) (s₄ : Shared) : Prop :=
  match f with
  | .ret v => Q (.ret v) s₄
  | .brk => Q .next s₄
  | _ => ∃ h' tk' m' news', s₄ = { s₁ with heap := h', toks := tk' } ∧ Fr h₀ L h' m' ∧ News h₀ L h' ((I, io) :: news') ∧ (∀ p ∈ news', p.1 ≠ I) ∧ J m' news'
def LstAt (prog : Program) (w : World) (A : Around) (h₀ : Heap) (env : Env) (target : Expr) (body : List Stmt) (Q : Flow → Shared → Prop) (E : Value → Shared → Prop) (it : Value) (s₂ : Shared) : Prop :=
  ∃ (I l : Addr) (vs : List Value) (m : Str → Option Value) (news : List (Addr × Obj)) (J : Nat → (Str → Option Value) → List (Addr × Obj) → Prop),
    it = .ref I ∧ l ≠ I ∧ s₂.heap.IsListIter I l 0 ∧ h₀.get? I = none ∧ env.locals ≠ I ∧ Fr h₀ env.locals s₂.heap m ∧ News h₀ env.locals s₂.heap news ∧ (∀ p ∈ news, p.1 ≠ I) ∧ J 0 m news ∧
    (∀ i m₁ news₁ h, J i m₁ news₁ → Fr h₀ env.locals h m₁ → News h₀ env.locals h news₁ → h.IsList l vs.toArray) ∧
    (∀ i v m₁ news₁ io h tk, vs[i]? = some v → J i m₁ news₁ → (∀ p ∈ news₁, p.1 ≠ I) → Fr h₀ env.locals h m₁ → News h₀ env.locals h ((I, io) :: news₁) → (∃ k : Nat, io.data = .fields #[.ref l, .int k 0]) →
      wpAny (model prog w) A (assign target env v) (fun _ s₃ => wpAny (model prog w) A (execs body env) (LstPost h₀ env.locals Q I io (J (i + 1)) { s₂ with heap := h, toks := tk }) E s₃) E { s₂ with heap := h, toks := tk }) ∧
    ∀ h tk m₁ news₁, J vs.length m₁ news₁ → Fr h₀ env.locals h m₁ → News h₀ env.locals h news₁ → Q .next { s₂ with heap := h, toks := tk }
theorem LstPost.intro {h₀ : Heap} {L : Addr} {Q : Flow → Shared → Prop} {I : Addr} {io : Obj} {J : (Str → Option Value) → List (Addr × Obj) → Prop} {s₁ : Shared} {h' : Heap} {tk' : Nat} {m' : Str → Option Value} {all : List (Addr × Obj)}
    (F : Fr h₀ L h' m') (N : News h₀ L h' all) (news' : List (Addr × Obj)) (hI : (I, io) ∈ all) (hsub : ∀ p ∈ news', p ∈ all) (off : ∀ p ∈ news', p.1 ≠ I) (hJ : J m' news') :
    LstPost h₀ L Q I io J s₁ .next { s₁ with heap := h', toks := tk' } :=
  ⟨h', tk', m', news', rfl, F, fun p hp => by rcases List.mem_cons.mp hp with rfl | hp; exact N _ hI; exact N _ (hsub p hp), off, hJ⟩
theorem add_ints_D {prog : Program} {w : World} {A : Around} {E : Value → Shared → Prop} {s : Shared} {h₀ : Heap} {L : Addr} {m : Str → Option Value} {news : List (Addr × Obj)} {l b : Addr} {vs ws : List Value} {ns ms : List Int} {Q : Value → Shared → Prop}
    (F : Fr h₀ L s.heap m) (N : News h₀ L s.heap news) (hl : s.heap.IsList l vs.toArray) (hb : s.heap.IsList b ws.toArray) (hi : IntsAre vs ns) (hj : IntsAre ws ms) (hsz : ns.length + ms.length ≤ sizeLine)
    (h : ∀ D h', Fr h₀ L h' m → News h₀ L h' ((D, W.listOf (vs ++ ws).toArray 0) :: news) → (∀ p ∈ news, p.1 < D) → IntsAre (vs ++ ws) (ns ++ ms) → Q (.ref D) { s with heap := h' }) :
    wpAny (model prog w) A (binaryOp .Add (.ref l) (.ref b)) Q E s :=
  add_lists_ints (hsz := hsz) F N hl hb hi hj fun h' F' N' hc => h _ h' F' N' (fun p hp => Heap.lt_size (N p hp).1) hc
theorem news_add {h₀ h h' : Heap} {L a : Addr} {o : Obj} {m : Str → Option Value} {news : List (Addr × Obj)} (F : Fr h₀ L h m) (N : News h₀ L h' news) (hn : h.get? a = none) (hg : h'.get? a = some o) : News h₀ L h' ((a, o) :: news) := by
  intro p hp
  rcases List.mem_cons.mp hp with rfl | hp
  · refine ⟨hg, fun e => ?_, ?_⟩
    · obtain ⟨oL, _, _, hL, _⟩ := F.ns
      rw [← e, hn] at hL; cases hL
    · cases q : h₀.get? a with
      | none => rfl
      | some o' => have := F.keep a o' q; rw [hn] at this; cases this
  · exact N p hp
section
variable {prog : Program} {w : World} {A : Around} {E : Value → Shared → Prop} {s : Shared} {h₀ : Heap} {L : Addr} {m : Str → Option Value}
theorem item_base {value slice : Expr} {l : Addr} {vs : List Value} {k : Int} {u : Tok} {v : Value} {Q : Value → Shared → Prop} (F : Fr h₀ L s.heap m) (hl : h₀.IsList l vs.toArray) (h0 : 0 ≤ k) (hhi : k < 2 ^ 63) (hx : vs[k.toNat]? = some v) (h : Q v s)
    (hs : subscripted slice false (.ref l) (.int k u) = operate [.ref l, .int k u] (getItem (.ref l) (.int k u)) := by with_unfolding_all rfl) (hg : ∀ r, letTemporaryGo value (.ref l) r = pure () := by intro _; with_unfolding_all rfl) :
    wpAny (model prog w) A (subscriptTail value slice (.ref l) (.int k u)) Q E s :=
  item_list (hl.at fun o e => F.keep _ o e) h0 hhi (by simpa using hx) h hs hg
theorem item_w {value slice : Expr} {l : Addr} {vs : List Value} {k : Int} {u : Tok} {v : Value} {Q : Value → Shared → Prop} (h : Q v s) (F : Fr h₀ L s.heap m := by k_asm) (hl : h₀.IsList l vs.toArray := by with_reducible assumption) (h0 : 0 ≤ k := by decide) (hhi : k < 2 ^ 63 := by decide) (hx : vs[k.toNat]? = some v := by rfl)
    (hs : subscripted slice false (.ref l) (.int k u) = operate [.ref l, .int k u] (getItem (.ref l) (.int k u)) := by with_unfolding_all rfl) (hg : ∀ r, letTemporaryGo value (.ref l) r = pure () := by intro _; with_unfolding_all rfl) :
    wpAny (model prog w) A (subscriptTail value slice (.ref l) (.int k u)) Q E s := item_base F hl h0 hhi hx h hs hg
theorem len_one {l : Addr} {x : Value} {Q : Value → Shared → Prop} (h : Q (.int 1 (s.toks + 1)) { s with toks := s.toks + 1 + 1 }) (F : Fr h₀ L s.heap m := by k_asm) (hl : h₀.IsList l [x].toArray := by with_reducible assumption) : wpAny (model prog w) A (call (.builtin "len") [.ref l]) Q E s :=
  call_len_list (hl.at fun o e => F.keep _ o e) (by simp) h
theorem len_three {l : Addr} {x y z : Value} {Q : Value → Shared → Prop} (h : Q (.int 3 (s.toks + 1)) { s with toks := s.toks + 1 + 1 }) (F : Fr h₀ L s.heap m := by k_asm) (hl : h₀.IsList l [x, y, z].toArray := by with_reducible assumption) : wpAny (model prog w) A (call (.builtin "len") [.ref l]) Q E s :=
  call_len_list (hl.at fun o e => F.keep _ o e) (by simp) h
end
section
variable {prog : Program} {w : World} {A : Around} {E : Value → Shared → Prop} {Q : Flow → Shared → Prop} {s : Shared} {env : Env} {h₀ : Heap}
theorem letGo_pick {P : Sem Unit → Prop} {target : Expr} {I : Addr} {v : Value} (h : P (pure ())) (t : ∀ a, P (letOwnedTupleGo (.Tuple [] 0 ⟨0, 0, 0, 0⟩) (.ref I) (.ref a))) : P (letOwnedTupleGo target (.ref I) v) := by
  have u : P (letOwnedTupleGo (.Tuple [] 0 ⟨0, 0, 0, 0⟩) (.ref I) v) := by cases v <;> first | exact h | exact t _
  clear t
  cases target <;> first | exact h | exact u
theorem letGo_lst {target : Expr} {I l : Addr} {i : Nat} {v : Value} {Q' : Unit → Shared → Prop} {s' : Shared} (hit : s'.heap.IsListIter I l i) (h : Q' () s') :
    wpAny (model prog w) A (letOwnedTupleGo target (.ref I) v) Q' E s' := by
  refine letGo_pick (P := fun x => wpAny (model prog w) A x Q' E s') (wpAny_pure h) fun a => ?_
  obtain ⟨o, ho, hc, hd⟩ := hit
  refine wpAny_bind (wpAny_load ho ?_)
  rw [hc, hd]
  exact (congrArg (fun x => wpAny (model prog w) A x Q' E s') (if_neg (by simp))).mpr (wpAny_pure h)
/-- between two turns -/
def LstInv (h₀ : Heap) (L I l : Addr) (len : Nat) (J : Nat → (Str → Option Value) → List (Addr × Obj) → Prop) (s₂ : Shared) (k : Nat) (s' : Shared) : Prop :=
  ∃ h' tk m' news' i, s' = { s₂ with heap := h', toks := tk } ∧ h'.IsListIter I l i ∧ Fr h₀ L h' m' ∧ News h₀ L h' news' ∧ (∀ p ∈ news', p.1 ≠ I) ∧ J i m' news' ∧ i ≤ len ∧ k = len + 1 - i
theorem For_lst {target iter : Expr} {pos : Pos} {body : List Stmt} (hh : A.handled = none)
    (h : wpAny (model prog w) A (eval iter env) (fun xv s₁ => wpAny (model prog w) A (pyIter xv) (fun it s₂ => LstAt prog w A h₀ env target body Q E it s₂) E s₁) E s)
    (hs : ∀ x, foldedSetIterable iter env x = pure x) (hE : PassesOwn (model prog w) A env E) :
    wpAny (model prog w) A (exec (.For target iter body [] pos) env) Q E s := by
  refine wpAny_For (wpAny_mono h (fun xv s₁ h₁ => wpAny_mono h₁ (fun it s₂ h₂ => ?_) fun _ _ e => e) fun _ _ e => e) hs
  obtain ⟨I, l, vs, m, news, J, rfl, hlI, hit, hI0, hLI, F, N, hoff, hJ, hlist, turn, done⟩ := h₂
  have W := Walks.list (prog := prog) (w := w) hh I l hlI vs.toArray
  refine codeAny_forLoop_any (LstInv h₀ env.locals I l vs.length J s₂) ?_ (vs.length + 1)
    (Exists.intro s₂.heap ⟨s₂.toks, m, news, 0, rfl, hit, F, N, hoff, hJ, Nat.zero_le _, rfl⟩)
  rintro k s' ⟨h', tk, m', news', i, rfl, hit', F', N', hoff', hJ', hi, rfl⟩
  have old : ∀ b o, h₀.get? b = some o → b ≠ I := fun b o e hb => by rw [hb, hI0] at e; cases e
  have next : ∀ h₁ : Heap, (∀ b o, b ∉ [I] → h'.get? b = some o → h₁.get? b = some o) → Fr h₀ env.locals h₁ m' ∧ News h₀ env.locals h₁ news' := fun h₁ hk₁ =>
    ⟨⟨F'.ns.at' fun o e => hk₁ _ o (by simpa using hLI) e, fun b o e => hk₁ b o (by simpa using old b o e) (F'.keep b o e), F'.above⟩, fun p hp => ⟨hk₁ _ _ (by simpa using hoff' p hp) (N' p hp).1, (N' p hp).2⟩⟩
  have hst : h'.IsListIter I l i ∧ h'.IsList l vs.toArray := ⟨hit', hlist i m' news' h' hJ' F' N'⟩
  have hsz : vs.toArray.size = vs.length := by simp
  by_cases hlt : i < vs.length
  · refine W.item i _ _ _ (by rw [hsz]; exact hlt) hst fun v h₁ tk₁ hP hst₁ hk₁ => ?_
    obtain ⟨F₁, N₁⟩ := next h₁ hk₁
    refine letGo_lst hst₁.1 ?_
    obtain ⟨io, hio, hic, hid⟩ := hst₁.1
    have NI : News h₀ env.locals h₁ ((I, io) :: news') := fun p hp => by
      rcases List.mem_cons.mp hp with rfl | hp
      · exact ⟨hio, hLI.symm, hI0⟩
      · exact N₁ p hp
    refine wpAny_mono (turn i v m' news' io h₁ tk₁ (by simpa using hP) hJ' hoff' F₁ NI ⟨_, hid⟩) (fun _ s₃ h₃ => wpAny_mono h₃ (fun f s₄ h₄ => ?_) hE) hE
    have fin : LstPost h₀ env.locals Q I io (J (i + 1)) { s₂ with heap := h₁, toks := tk₁ } .next s₄ → ∃ m_1, m_1 < vs.length + 1 - i ∧ LstInv h₀ env.locals I l vs.length J s₂ m_1 s₄ := by
      rintro ⟨h₄', tk₄, m₄, news₄, rfl, F₄, N₄, hoff₄, hJ₄⟩
      exact ⟨vs.length + 1 - (i + 1), by omega, Exists.intro h₄' ⟨tk₄, m₄, news₄, i + 1, rfl, ⟨io, (N₄ _ (List.mem_cons_self ..)).1, hic, hid⟩, F₄, fun p hp => N₄ p (List.mem_cons_of_mem _ hp), hoff₄, hJ₄, hlt, rfl⟩⟩
    cases f with
    | ret v => exact h₄
    | brk => exact h₄
    | next => exact fin h₄
    | cont => exact fin h₄
  · have hin : i = vs.length := by omega
    subst hin
    refine W.done _ _ _ (by rw [hsz]; exact hst) fun h₁ tk₁ hk₁ => wpAny_execs_nil ?_
    obtain ⟨F₁, N₁⟩ := next h₁ hk₁
    exact done h₁ tk₁ m' news' hJ' F₁ N₁
/-- the loop's list is l; it stays because the invariant says so -/
theorem iter_lst2 {target : Expr} {body : List Stmt} {l : Addr} {vs : List Value} {m : Str → Option Value} {news : List (Addr × Obj)} (J : Nat → (Str → Option Value) → List (Addr × Obj) → Prop)
    (hl : s.heap.IsList l vs.toArray) (F : Fr h₀ env.locals s.heap m) (N : News h₀ env.locals s.heap news) (hJ : J 0 m news)
    (hlist : ∀ i m₁ news₁ h, J i m₁ news₁ → Fr h₀ env.locals h m₁ → News h₀ env.locals h news₁ → h.IsList l vs.toArray)
    (turn : ∀ i v m₁ news₁ I io h tk, vs[i]? = some v → J i m₁ news₁ → (∀ p ∈ news, p.1 < I) → (∀ p ∈ news₁, p.1 ≠ I) → Fr h₀ env.locals h m₁ → News h₀ env.locals h ((I, io) :: news₁) → (∃ k : Nat, io.data = .fields #[.ref l, .int k 0]) →
      wpAny (model prog w) A (assign target env v) (fun _ s₃ => wpAny (model prog w) A (execs body env) (LstPost h₀ env.locals Q I io (J (i + 1)) { s with heap := h, toks := tk }) E s₃) E { s with heap := h, toks := tk })
    (done : ∀ h tk m₁ news₁, J vs.length m₁ news₁ → Fr h₀ env.locals h m₁ → News h₀ env.locals h news₁ → Q .next { s with heap := h, toks := tk }) :
    wpAny (model prog w) A (pyIter (.ref l)) (fun it s₂ => LstAt prog w A h₀ env target body Q E it s₂) E s := by
  refine wpAny_pyIter_list hl ?_
  obtain ⟨ol, hol, _⟩ := id hl
  have hlt : l < s.heap.objs.size := Heap.lt_size hol
  refine ⟨s.heap.objs.size, l, vs, m, news, J, rfl, Nat.ne_of_lt hlt, ⟨_, Heap.get?_push_size _ rfl, rfl, rfl⟩, next_is_new F, Nat.ne_of_lt F.ns.lt, F.push _, (fun p hp => ⟨Heap.get?_push_of_some _ (N p hp).1, (N p hp).2⟩),
    fun p hp => Nat.ne_of_lt (Heap.lt_size (N p hp).1), hJ, hlist, ?_, ?_⟩
  · intro i v m₁ news₁ io h tk hv hJ₁ ho F₁ N₁ hio
    exact turn i v m₁ news₁ _ io h tk hv hJ₁ (fun p hp => Heap.lt_size (N p hp).1) ho F₁ N₁ hio
  · exact done
/-- the loop's list is l; it stays because the invariant says so -/
theorem iter_lst {target : Expr} {body : List Stmt} {l : Addr} {vs : List Value} {m : Str → Option Value} {news : List (Addr × Obj)} (J : Nat → (Str → Option Value) → List (Addr × Obj) → Prop)
    (hl : s.heap.IsList l vs.toArray) (F : Fr h₀ env.locals s.heap m) (N : News h₀ env.locals s.heap news) (hJ : J 0 m news)
    (hlist : ∀ i m₁ news₁ h, J i m₁ news₁ → Fr h₀ env.locals h m₁ → News h₀ env.locals h news₁ → h.IsList l vs.toArray)
    (turn : ∀ i v m₁ news₁ I io h tk, vs[i]? = some v → J i m₁ news₁ → (∀ p ∈ news, p.1 < I) → (∀ p ∈ news₁, p.1 ≠ I) → Fr h₀ env.locals h m₁ → News h₀ env.locals h ((I, io) :: news₁) →
      wpAny (model prog w) A (assign target env v) (fun _ s₃ => wpAny (model prog w) A (execs body env) (LstPost h₀ env.locals Q I io (J (i + 1)) { s with heap := h, toks := tk }) E s₃) E { s with heap := h, toks := tk })
    (done : ∀ h tk m₁ news₁, J vs.length m₁ news₁ → Fr h₀ env.locals h m₁ → News h₀ env.locals h news₁ → Q .next { s with heap := h, toks := tk }) :
    wpAny (model prog w) A (pyIter (.ref l)) (fun it s₂ => LstAt prog w A h₀ env target body Q E it s₂) E s :=
  iter_lst2 J hl F N hJ hlist (fun i v m₁ news₁ I io h tk hv hJ₁ hlt ho F₁ N₁ _ => turn i v m₁ news₁ I io h tk hv hJ₁ hlt ho F₁ N₁) done
end
end Mine
namespace Mine
theorem topOff8 : True := by w_top off; trivial
local macro_rules | `(tactic| walk_at "exec For Name Name cons nil") => `(tactic| refine Stop.out ?_)
theorem append_w {prog : Program} {w : World} {A : Around} {E : Value → Shared → Prop} {s : Shared} {h₀ : Heap} {L D : Addr} {m : Str → Option Value} {news news' : List (Addr × Obj)} {its : Array Value} {n : Nat} {x : Value} {Q : Value → Shared → Prop}
    (h : ∀ h', Fr h₀ L h' m → News h₀ L h' news' → Q .none { s with heap := h' }) (F : Fr h₀ L s.heap m := by k_asm) (N : News h₀ L s.heap news := by k_asm) (U : Upd D (W.listOf its n) (W.listOf (its.push x) (n + 1)) news news' := by k_upd)
    (hsz : its.size ≤ sizeLine := by simp only [List.size_toArray]; rw [sizeLine_eq]; omega) : wpAny (model prog w) A (call (.builtin "list.append") [.ref D, x]) Q E s := append_K F N U h hsz
local macro_rules | `(tactic| walk_at "call builtin:list.append") => `(tactic| (k_dflt (refine append_w ?_); intros; (try k_sweep)))
local macro_rules | `(tactic| walk_at "pyIter ref") => `(tactic| refine Stop.out ?_)
noncomputable abbrev mSpl (l fa y n : Addr) (tail : List (Str × Value)) : List (Str × Value) :=
  [(Str.ofString "no", .ref n), (Str.ofString "yes", .ref y), (Str.ofString "s", .ref l), (Str.ofString "predicate", .ref fa)] ++ tail
noncomputable abbrev kSpl : List Str := [Str.ofString "no", Str.ofString "yes", Str.ofString "s", Str.ofString "predicate", Str.ofString "x"]
def xTail (tail : List (Str × Value)) : Prop := tail = [] ∨ ∃ v, tail = [(Str.ofString "x", v)]
def TruthIs (r : Value) (b : Bool) : Prop := r = .bool b ∨ ∃ k t, r = .int k t ∧ decide (k ≠ 0) = b
structure PredOk (C : Cx) (d u : Nat) (H : Heap) (fa : Addr) (dom : Int → Prop) (pz : Int → Bool) : Prop where
  fn : FnAt H fa
  call : ∀ i t, dom i → Pure C d u H (.ref fa) [.int i t] [] (fun _ _ r => TruthIs r (pz i))
/-- a fresh list of ints -/
def NewInts (h0 h' : Heap) (a : Addr) (ns : List Int) : Prop := h0.get? a = none ∧ ∃ vs n, IntsAre vs ns ∧ h'.get? a = some (W.listOf (List.toArray vs) n)
theorem intsAre_snoc {vs : List Value} {ns : List Int} (h : IntsAre vs ns) (x : Int) (t : Tok) : IntsAre (vs ++ [.int x t]) (ns ++ [x]) := h.append (.cons x t .nil)
/-- between two turns of _split_list's loop -/
def splJ (l fa y n : Addr) (pz : Int → Bool) (ns : List Int) (i : Nat) (m₁ : Str → Option Value) (nx : List (Addr × Obj)) : Prop :=
  ∃ vy ey vn en tail, xTail tail ∧ nx = [(n, W.listOf (List.toArray vn) en), (y, W.listOf (List.toArray vy) ey)] ∧ IntsAre vy ((ns.take i).filter pz) ∧ IntsAre vn ((ns.take i).filter (fun z => !pz z)) ∧ m₁ = mOf (mSpl l fa y n tail)
set_option maxHeartbeats 4000000 in
theorem split_spec (C : Cx) (H : Heap) (l fa : Addr) (vals : List Value) (ns : List Int) (hl : H.IsList l vals.toArray) (hns : IntsAre vals ns) (hlen : ns.length < 100) 
    (d u : Nat) (dom : Int → Prop) (hdom : ∀ n ∈ ns, dom n) (pz : Int → Bool) (key : PredOk C d u H fa dom pz) :
    Pure C (d + 2) (u + 10) H (.ref 21) [.ref l, .ref fa] []
      (fun h0 h' r' => ∃ a y n, r' = .ref a ∧ h0.get? a = none ∧ h'.get? a = some { cls := .type "tuple", data := .seq [Value.ref y, .ref n].toArray } ∧ NewInts h0 h' y (ns.filter pz) ∧ NewInts h0 h' n (ns.filter fun z => !pz z)) := by
  intro A A₀ env outer base h₀ L m s0 Q E S hst hd hu hq
  have X0 := S.X
  revert X0; k_fill; intro X0
  k_dflt (refine' enter S [(Str.ofString "s", .ref l), (Str.ofString "predicate", .ref fa)] ?k6 ?k7 ?k8 ?k9 ?kB ?c5 ?c2 ?c3 ?c4 ?_; (case k6 => k_is); (case k7 => k_is); (case k8 => omega); (case k9 => exact BindsTo.of_eq rfl); (case c5 => decide); (case kB => exact locs rfl); (case c2 => exact rfl); (case c3 => exact rfl); (case c4 => exact rfl); k_whole)
  intro L' h₁ S'
  have hl' : s0.heap.IsList l vals.toArray := hl.at fun o e => hst _ o e
  have hfn : FnAt s0.heap fa := key.fn.keeps hst
  obtain ⟨B', F', X', T', hA', hf', hk', hh'⟩ := S'
  have N' : News s0.heap L' h₁ [] := News.nil
  clear X0 S
  dsimp only at F'
  k_unmd
  k_fold
  k_steps
  refine Stop.mk ?_
  rename_i y h3 l0 h2 n h1 hyn hh9 F9 N9
  refine For_invVF F9 rfl rfl ?_ (hE := PassesOwn.never)
  k_steps
  refine Stop.mk ?_
  refine iter_invN (splJ l fa y n pz ns) hh' hl' hns F9 N9 ?_ ?_ ?_
  · refine Exists.intro [] ⟨0, [], 0, [], .inl rfl, rfl, .nil, .nil, ?_⟩
    simp only [mOf_app]
    refine mOf_extB kSpl ?_ ?_ (all_cons ?_ (all_cons ?_ (all_cons ?_ (all_cons ?_ (all_cons ?_ all_nil))))) <;> rfl
  · rintro i x t m₁ nx h9 tk9 own hix hadr hoff ⟨vy, ey, vn, en, tail, htail, rfl, hvy, hvn, rfl⟩ F8 N8
    clear F9 N9
    have e8 : (fun z => if z = Str.ofString "x" then some (Value.int x t) else mOf (mSpl l fa y n tail) z) = mOf (mSpl l fa y n [(Str.ofString "x", .int x t)]) := by
      rcases htail with rfl | ⟨v, rfl⟩ <;>
      · simp only [mOf_app]
        refine mOf_extB kSpl ?_ ?_ (all_cons ?_ (all_cons ?_ (all_cons ?_ (all_cons ?_ (all_cons ?_ all_nil))))) <;> rfl
    rw [e8] at F8
    change Fr s0.heap L' h9 _ at F8
    change News s0.heap L' h9 _ at N8
    simp only [List.cons_append, List.nil_append] at N8
    simp only [List.map_cons, List.map_nil] at hoff
    have hvyl := hvy.length
    have hvnl := hvn.length
    have hvy1 : ((ns.take i).filter pz).length ≤ ns.length := Nat.le_trans (List.length_filter_le _ _) (by rw [List.length_take]; omega)
    have hvn1 : ((ns.take i).filter (fun z => !pz z)).length ≤ ns.length := Nat.le_trans (List.length_filter_le _ _) (by rw [List.length_take]; omega)
    have htk : ns.take (i + 1) = ns.take i ++ [x] := by rw [List.take_add_one, hix]; rfl
    k_steps
    refine callWith_fn hfn ?_
    k_steps
    · exact hfn.keeps F8.keep
    refine Pure.use (key.call _ _ (hdom _ (List.mem_of_getElem? hix))) B' F8 X' T' hA' hf' hk' hh' N8 (fun b o e => F8.keep b o (hst b o e)) (by simp only [depth_deeper]; omega) (by simp only [units_deeper]; omega) ?_
    rintro r hp4 tk4 F4 N4 hs4 htr
    clear F8 N8 hs4
    cases hb : pz x <;> rw [hb] at htr <;> rcases htr with rfl | ⟨k, tt, rfl, hk⟩ 
    all_goals (try simp only [decide_eq_true_eq, decide_eq_false_iff_not, ne_eq, not_not] at hk)
    all_goals k_steps
    all_goals (
      rename Fr _ _ _ _ => F7
      rename News _ _ _ _ => N7
      simp only [List.push_toArray] at N7)
    all_goals first
      | (exact InvEndN.intro F7 N7 (Exists.intro vy ⟨ey, vn ++ [.int x t], en + 1, _, .inr ⟨_, rfl⟩, rfl, by rw [htk, List.filter_append]; simpa [hb] using hvy, by rw [htk, List.filter_append]; simpa [hb] using intsAre_snoc hvn x t, rfl⟩)
          rfl (fun p hp => by simp only [List.mem_cons, List.not_mem_nil, or_false] at hp; rcases hp with rfl | rfl <;> simp) (fun p hp => List.mem_cons_of_mem _ (List.mem_cons_of_mem _ hp)))
      | (exact InvEndN.intro F7 N7 (Exists.intro (vy ++ [.int x t]) ⟨ey + 1, vn, en, _, .inr ⟨_, rfl⟩, rfl, by rw [htk, List.filter_append]; simpa [hb] using intsAre_snoc hvy x t, by rw [htk, List.filter_append]; simpa [hb] using hvn, rfl⟩)
          rfl (fun p hp => by simp only [List.mem_cons, List.not_mem_nil, or_false] at hp; rcases hp with rfl | rfl <;> simp) (fun p hp => List.mem_cons_of_mem _ (List.mem_cons_of_mem _ hp)))
  · rintro m₁ nx h9 tk9 ⟨vy, ey, vn, en, tail, htail, rfl, hvy, hvn, rfl⟩ F8 N8
    clear F9 N9
    rw [List.take_length] at hvy hvn
    change Fr s0.heap L' h9 _ at F8
    change News s0.heap L' h9 _ at N8
    k_steps
    rename Fr _ _ _ _ => F7
    rename News _ _ _ _ => N7
    have n1 := N7 _ (List.mem_cons_self ..)
    have n2 := N7 _ (List.mem_cons_of_mem _ (List.mem_cons_self ..))
    have n3 := N7 _ (List.mem_cons_of_mem _ (List.mem_cons_of_mem _ (List.mem_cons_self ..)))
    exact hq _ _ _ F7.keep ⟨_, y, n, rfl, n1.2.2, n1.1, ⟨n3.2.2, vy, ey, hvy, n3.1⟩, ⟨n2.2.2, vn, en, hvn, n2.1⟩⟩
end Mine
section
open Mine
local macro_rules | `(tactic| walk_at "eval Name") => `(tactic| k_dflt (refine nameX_Fb ?_))
namespace Mine
theorem topOff9 : True := by w_top off; trivial
theorem enterLam {C : Cx} {A A₀ : Around} {env : Env} {outer : List Env} {base h₀ : Heap} {L : Addr} {m : Str → Option Value} {s : Shared} {Q E : Value → Shared → Prop}
    (S : Site C A A₀ env outer base h₀ L m s)
    {name qual : Str} {params : Arguments} {body : Expr} {scope : Scope} {cl : List (Str × Addr)} {pm ctv : Value} {c' f : Addr} {vs : List Value} (binds : List (Str × Value))
    (ho : s.heap.get? f = some (kla_obj name qual params body scope cl pm c' ctv)) (hcd : s.heap.CodeRec (.ref c') qual) (hroom : A.depth < recursionLimit)
    (hbind : bindArgs (kla_fn name qual params (body) scope cl pm (.ref c') ctv) ⟨vs, []⟩ = pure binds) (hloc : ∀ y ∈ binds, scope.names.lookup y.1 = some .local)
    (hcell : ∀ x ∈ scope.names, x.2 ≠ .cell) (hco : scope.isCoroutine = false) (hgen : scope.isGenerator = false) (hk : scope.kind = .function)
    (h : ∀ L' h₁, Site C (A.deeper (envX qual scope L' f (.ref c') cl)) A (envX qual scope L' f (.ref c') cl) (env :: outer) base s.heap L' (mOf binds.reverse) { s with heap := h₁, toks := s.toks + binds.length } →
      wpAny (model PySem.Challenge.rw_pm0032_01.row.prog C.w) (A.deeper (envX qual scope L' f (.ref c') cl)) (eval body (envX qual scope L' f (.ref c') cl)) Q (fun _ _ => False) { s with heap := h₁, toks := s.toks + binds.length }) :
    wpAny (model PySem.Challenge.rw_pm0032_01.row.prog C.w) A (call (.ref f) vs []) Q E s := by
  obtain ⟨B, F, X, T, hA, hf, hke, hh⟩ := S
  have B₁ := pushX B F hf hke
  have st : h₀.StaysIn s.heap := fun b o e => F.keep b o e
  refine wpAny_call ?_
  refine kla_callFunE hroom ho rfl hco hgen rfl hcd ?_
  rw [hbind]
  refine wpAny_pure (wpAny_newFunctionEnv hcell hloc (fun h₁ hns hsb => ⟨((T.nolimit).keeps F.keep).fresh _ hsb, ?_⟩) hk)
  show codeAny _ _ (.expr body (envX qual scope s.heap.objs.size f (.ref c') cl)) _ _
  have hk₁ : ∀ b o, s.heap.get? b = some o → h₁.get? b = some o := fun b o e => hsb.extBut b o (Nat.ne_of_lt (Heap.lt_size e)) (Heap.get?_push_of_some _ e)
  refine kla_codeExpr (wpAny_mono (h s.heap.objs.size h₁ ⟨⟨hA, B₁.stays, B₁.frames⟩, ⟨mOf_lookup binds.reverse ▸ hns, hk₁, Nat.le_refl _⟩, X.keeps st, T.keeps st, Around.frames_deeper hA, rfl, hk, by first | exact hh | simp [Around.deeper, hh]⟩) (fun v s' hq => hq) fun _ _ x => x.elim)
local macro_rules | `(tactic| walk_at "subscriptTail") => `(tactic| refine Stop.out ?_)
noncomputable abbrev Col := UInt64 × UInt64 × UInt64
def IsCol (h : Heap) (a : Addr) (x : Col) : Prop := ∃ t1 t2 t3, IsTup h a [Value.float x.1 t1, .float x.2.1 t2, .float x.2.2 t3].toArray
noncomputable def ColsAt (h : Heap) : List Value → List Col → Prop
  | [], [] => True
  | v :: vs, x :: xs => (∃ a, v = .ref a ∧ IsCol h a x) ∧ ColsAt h vs xs
  | _, _ => False
def ToldAt (h : Heap) (tl : Addr) (xs : List Col) : Prop := ∃ tv, h.IsList tl (List.toArray tv) ∧ ColsAt h tv xs
theorem IsCol.keeps {h h' : Heap} {a : Addr} {x : Col} (c : IsCol h a x) (k : h.StaysIn h') : IsCol h' a x := let ⟨t1, t2, t3, e⟩ := c; ⟨t1, t2, t3, e.keeps k⟩
theorem ColsAt.keeps {h h' : Heap} (k : h.StaysIn h') : ∀ {vs : List Value} {xs : List Col}, ColsAt h vs xs → ColsAt h' vs xs
  | [], [], _ => trivial
  | [], _ :: _, h => h.elim
  | _ :: _, [], h => h.elim
  | _ :: _, _ :: _, ⟨⟨a, e, hc⟩, hr⟩ => ⟨⟨a, e, hc.keeps k⟩, ColsAt.keeps k hr⟩
theorem ToldAt.keeps {h h' : Heap} {tl : Addr} {xs : List Col} (x : ToldAt h tl xs) (k : h.StaysIn h') : ToldAt h' tl xs := let ⟨tv, h1, h2⟩ := x; ⟨tv, h1.at fun o e => k _ o e, h2.keeps k⟩
theorem ColsAt.get {h : Heap} : ∀ {vs : List Value} {xs : List Col} {i : Nat} {x : Col}, ColsAt h vs xs → xs[i]? = some x → ∃ a, vs[i]? = some (.ref a) ∧ IsCol h a x
  | [], [], _, _, _, e => by simp at e
  | [], _ :: _, _, _, h, _ => h.elim
  | _ :: _, [], _, _, h, _ => h.elim
  | v :: vs, y :: ys, 0, x, h, e => by
    obtain ⟨⟨a, rfl, hc⟩, _⟩ := h
    cases e; exact ⟨a, rfl, hc⟩
  | v :: vs, y :: ys, i + 1, x, h, e => by simpa using ColsAt.get (i := i) h.2 (by simpa using e)
noncomputable abbrev lamOneArgs (p : Pos) : Arguments := { posonlyargs := [], args := [{ arg := Str.ofString "one", annotation := none, pos := p }], vararg := none, kwonlyargs := [], kw_defaults := [], kwarg := none, defaults := [] }
noncomputable abbrev toldBody (p1 p2 p3 p4 p5 : Pos) : Expr := ((((Expr.Name (Str.ofString "told") p1).Subscript (Expr.Name (Str.ofString "one") p2) p3).Subscript (Expr.Constant (Const.int 0) 0 p4) p5))
noncomputable abbrev toldScope : Scope := { kind := ScopeKind.function, names := [(Str.ofString "one", NameKind.local), (Str.ofString "told", NameKind.free)], isGenerator := false, isCoroutine := false }
set_option maxHeartbeats 2000000 in
theorem key_told (C : Cx) (H : Heap) (fa cell tl c' : Addr) (oc : Obj) (name qual : Str) (pm ctv : Value) (p p1 p2 p3 p4 p5 : Pos) (xs : List Col)
    (ho : H.get? fa = some (kla_obj name qual (lamOneArgs p) (toldBody p1 p2 p3 p4 p5) toldScope [(Str.ofString "told", cell)] pm c' ctv)) (hcd : H.CodeRec (.ref c') qual)
    (hcell : H.get? cell = some oc) (hoc : oc.data = .cell (some (.ref tl))) (htold : ToldAt H tl xs) :
    KeyOk C 2 10 H fa (fun i => 0 ≤ i ∧ i < xs.length ∧ i < 100) (fun i => (xs.getD i.toNat (0, 0, 0)).1) := by
  refine ⟨⟨_, _, ho, rfl⟩, ?_⟩
  intro i t ⟨hi0, hi1, hi2⟩ A A₀ env outer base h₀ L m s0 Q E S hst hd hu hq
  refine enterLam S [(Str.ofString "one", .int i t)] (hst _ _ ho) (hcd.keeps hst) (by omega) rfl (locs rfl) (by decide) rfl rfl rfl ?_
  intro L' h₁ S'
  have hcell' := hst _ _ hcell
  obtain ⟨tv, htl, hcs⟩ := htold.keeps hst
  have hx : xs[i.toNat]? = some (xs.getD i.toNat (0, 0, 0)) := by
    have : i.toNat < xs.length := by omega
    simp [List.getD, this]
  obtain ⟨ta, hta, t1, t2, t3, htu⟩ := hcs.get hx
  obtain ⟨B', F', X', T', hA', hf', hk', hh'⟩ := S'
  have N' : News s0.heap L' h₁ [] := News.nil
  clear S
  revert X'; k_fill; intro X'
  dsimp only at F'
  k_unmd
  k_steps
  refine Stop.mk ?_
  rename Fr _ _ _ _ => F6
  refine item_base F6 htl hi0 (by omega) hta ?_
  k_steps
  refine Stop.mk ?_
  rename Fr _ _ _ _ => F5
  refine item_tupleT (htu.keeps F5.keep) (by decide) (by decide) (by rfl) (by rfl) ?_
  k_steps
  exact hq _ _ _ F5.keep ⟨t1, rfl⟩
/-- a lambda is made: its code is made anew, or found in the table -/
theorem lam_make {M : Model} {A : Around} {E : Value → Shared → Prop} {s : Shared} {h₀ : Heap} {L a c P : Addr} {m mg mb : Str → Option Value} {cn : Str} {cs : Scope} {ccd : Value} {cl : List (Str × Addr)} {news : List (Addr × Obj)} {gU : Obj → List (Addr × Obj)}
    {p : Program} {loose : List Str} {mean : ExcName → Option Value} {name qual : Str} {params : Arguments} {body : Expr} {scope : Scope} {ps : Array Value} {pos : Pos} {firstLine : Nat} {clos : List (Str × Addr)} {Q : Value → Shared → Prop}
    (F : Fr h₀ L s.heap m) (N : News h₀ L s.heap news) (T : Top p loose mean mg mb h₀) (C : CodeHd h₀ c P) (hcd : ccd = .ref c) (U : UpdF P (tabObj ps) news gU) (ht : TriplesOk ps.toList)
    (hcase : codeAmong pos ps.toList = none ∨ ∃ c', codeAmong pos ps.toList = some (.ref c') ∧ ∀ h' m', Fr h₀ L h' m' → News h₀ L h' news → h'.CodeRec (.ref c') qual)
    (hcl : closureFor scope (envX cn cs L a ccd cl) = pure clos)
    (h : ∀ f c' ctv h' tk ps' nx, Fr h₀ L h' m → News h₀ L h' ((f, kla_obj name qual params body scope clos ((mg "__name__").getD .none) c' ctv) :: nx) → (∀ p ∈ gU (tabObj ps'), p ∈ nx) → h'.CodeRec (.ref c') qual → (∀ q ∈ news, q.1 < f) →
      ((ps' = ps ∧ codeAmong pos ps.toList = some (.ref c')) ∨ (codeAmong pos ps.toList = none ∧ ps' = ps ++ #[rawInt pos.line, rawInt pos.col, .ref c'] ∧ ∃ oc, (c', oc) ∈ nx ∧ ∃ vs t, oc.data = .fields vs ∧ vs[1]? = some (.str qual t))) → Q (.ref f) { s with heap := h', toks := tk }) :
    wpAny M A (makeFunction name qual params (.expr body) scope (envX cn cs L a ccd cl) [] [] [] pos firstLine) Q E s := by
  obtain ⟨own, rest, e0, hgr, h1, h2⟩ := U.split
  rcases hcase with hn | ⟨c', hf, hrec⟩
  · refine kla_nest F N T C hcd U ht hn hcl ?_
    intro f c' oc vs t ctv h' tk F' N' d1 d2 l1 l2
    refine h f c' ctv h' tk _ _ F' N' (fun p hp => List.mem_cons_of_mem _ hp) ⟨c', oc, vs, t, rfl, (N' _ (List.mem_cons_of_mem _ (List.mem_cons_self ..))).1, d1, d2⟩ (fun q hq => Nat.lt_trans (l1 q hq) l2) (.inr ⟨hn, rfl, oc, List.mem_cons_self .., vs, t, d1, d2⟩)
  · refine kla_hit F N T C hcd (by rw [e0]; exact List.mem_append_right _ (List.mem_cons_self ..)) ht hf hcl ?_
    intro f ctv h' tk F' N' l1
    have hnews : gU (tabObj ps) = news := by rw [hgr, e0]
    exact h f c' ctv h' tk ps news F' N' (fun p hp => hnews ▸ hp) (hrec h' m F' fun p hp => N' p (List.mem_cons_of_mem _ hp)) l1 (.inl ⟨rfl, hf⟩)
open PySem.Flt (FloatsAre)
noncomputable abbrev placeArgs (p : Pos) : Arguments := { posonlyargs := [], args := [{ arg := Str.ofString "place", annotation := none, pos := p }], vararg := none, kwonlyargs := [], kw_defaults := [], kwarg := none, defaults := [] }
noncomputable abbrev placeBody (p1 p2 p3 p4 p5 p6 p7 : Pos) : Expr :=
  ((((Expr.Name (Str.ofString "values") p1).Subscript (Expr.Name (Str.ofString "place") p2) p3).BinOp Operator.Mult (Expr.Constant (Const.int 8) 0 p4) p5).Compare [CmpOp.LtE] [Expr.Name (Str.ofString "middle") p6] p7)
noncomputable abbrev placeScope : Scope := { kind := ScopeKind.function, names := [(Str.ofString "place", NameKind.local), (Str.ofString "middle", NameKind.free), (Str.ofString "values", NameKind.free)], isGenerator := false, isCoroutine := false }
noncomputable def lePlace (f : UInt64) (mid : Int) : Bool := Float64.cmpInt (Float64.mul f (Float64.ofInt 8)) mid == some Ordering.lt || Float64.cmpInt (Float64.mul f (Float64.ofInt 8)) mid == some Ordering.eq
set_option maxHeartbeats 2000000 in
theorem pred_place (C : Cx) (H : Heap) (fa cm cv vl c' : Addr) (om ov : Obj) (name qual : Str) (pm ctv : Value) (p p1 p2 p3 p4 p5 p6 p7 : Pos) (fs : List UInt64) (vv : List Value) (mid : Int) (tm : Tok)
    (ho : H.get? fa = some (kla_obj name qual (placeArgs p) (placeBody p1 p2 p3 p4 p5 p6 p7) placeScope [(Str.ofString "values", cv), (Str.ofString "middle", cm)] pm c' ctv)) (hcd : H.CodeRec (.ref c') qual)
    (hcm : H.get? cm = some om) (hom : om.data = .cell (some (.int mid tm))) (hcv : H.get? cv = some ov) (hov : ov.data = .cell (some (.ref vl))) (hvl : H.IsList vl vv.toArray) (hfs : FloatsAre vv fs)
    (hmid : mid.natAbs < 100) :
    PredOk C 2 10 H fa (fun i => 0 ≤ i ∧ i < fs.length ∧ i < 100) (fun i => lePlace (fs.getD i.toNat 0) mid) := by
  refine ⟨⟨_, _, ho, rfl⟩, ?_⟩
  intro i t ⟨hi0, hi1, hi2⟩ A A₀ env outer base h₀ L m s0 Q E S hst hd hu hq
  refine enterLam S [(Str.ofString "place", .int i t)] (hst _ _ ho) (hcd.keeps hst) (by omega) rfl (locs rfl) (by decide) rfl rfl rfl ?_
  intro L' h₁ S'
  have hcm' := hst _ _ hcm
  have hcv' := hst _ _ hcv
  have hvl' : s0.heap.IsList vl vv.toArray := hvl.at fun o e => hst _ o e
  obtain ⟨tv, hx⟩ := PySem.Flt.floats_get hfs (j := i.toNat) (by omega)
  obtain ⟨B', F', X', T', hA', hf', hk', hh'⟩ := S'
  have N' : News s0.heap L' h₁ [] := News.nil
  clear S
  revert X'; k_fill; intro X'
  dsimp only at F'
  k_unmd
  k_steps
  refine Stop.mk ?_
  rename Fr _ _ _ _ => F6
  refine item_base F6 hvl' hi0 (by omega) hx ?_
  k_steps
  rename Fr _ _ _ _ => F5
  exact hq _ _ _ F5.keep (.inl rfl)
noncomputable abbrev numBody (p1 p2 p3 p4 p5 p6 p7 : Pos) : Expr :=
  ((((Expr.Name (Str.ofString "numbers") p1).Subscript (Expr.Name (Str.ofString "one") p2) p3).BinOp Operator.FloorDiv (Expr.Constant (Const.int 256) 0 p4) p5).BinOp Operator.Mod (Expr.Constant (Const.int 2) 0 p6) p7)
noncomputable abbrev numScope : Scope := { kind := ScopeKind.function, names := [(Str.ofString "one", NameKind.local), (Str.ofString "numbers", NameKind.free)], isGenerator := false, isCoroutine := false }
set_option maxHeartbeats 2000000 in
theorem pred_num (C : Cx) (H : Heap) (fa cn nl c' : Addr) (on : Obj) (name qual : Str) (pm ctv : Value) (p p1 p2 p3 p4 p5 p6 p7 : Pos) (xs : List Int) (nv : List Value)
    (ho : H.get? fa = some (kla_obj name qual (lamOneArgs p) (numBody p1 p2 p3 p4 p5 p6 p7) numScope [(Str.ofString "numbers", cn)] pm c' ctv)) (hcd : H.CodeRec (.ref c') qual)
    (hcn : H.get? cn = some on) (hon : on.data = .cell (some (.ref nl))) (hnl : H.IsList nl nv.toArray) (hxs : IntsAre nv xs) :
    PredOk C 2 10 H fa (fun i => 0 ≤ i ∧ i < xs.length ∧ i < 100) (fun i => decide (Int.fmod (Int.fdiv (xs.getD i.toNat 0) 256) 2 ≠ 0)) := by
  refine ⟨⟨_, _, ho, rfl⟩, ?_⟩
  intro i t ⟨hi0, hi1, hi2⟩ A A₀ env outer base h₀ L m s0 Q E S hst hd hu hq
  refine enterLam S [(Str.ofString "one", .int i t)] (hst _ _ ho) (hcd.keeps hst) (by omega) rfl (locs rfl) (by decide) rfl rfl rfl ?_
  intro L' h₁ S'
  have hcn' := hst _ _ hcn
  have hnl' : s0.heap.IsList nl nv.toArray := hnl.at fun o e => hst _ o e
  obtain ⟨B', F', X', T', hA', hf', hk', hh'⟩ := S'
  have N' : News s0.heap L' h₁ [] := News.nil
  clear S
  revert X'; k_fill; intro X'
  dsimp only at F'
  k_unmd
  k_steps
  rename Fr _ _ _ _ => F5
  exact hq _ _ _ F5.keep (.inr ⟨_, _, rfl, rfl⟩)
end Mine
namespace Mine
theorem topOff10 : True := by w_top off; trivial
def TabQ (own : List (Addr × Obj)) (q : Str) (ps : Array Value) : Prop :=
  TriplesOk ps.toList ∧ ∀ pos c, codeAmong pos ps.toList = some c → ∃ c' oc vs t, c = .ref c' ∧ (c', oc) ∈ own ∧ oc.data = .fields vs ∧ vs[1]? = some (.str q t)
theorem TabQ.nil {own : List (Addr × Obj)} {q : Str} : TabQ own q #[] := ⟨trivial, fun pos c h => by simp [codeAmong] at h⟩
theorem codeAmong_push {pos : Pos} {a b : Int} {x c : Value} : ∀ {l : List Value}, TriplesOk l → codeAmong pos (l ++ [rawInt a, rawInt b, x]) = some c → codeAmong pos l = some c ∨ c = x
  | [], _, e => by
    simp only [List.nil_append, rawInt, codeAmong] at e
    split at e
    · exact .inr (Option.some.inj e).symm
    · cases e
  | .int i _ :: .int j _ :: y :: rest, h, e => by
    simp only [List.cons_append, codeAmong] at e ⊢
    split at e
    · rename_i hc; rw [if_pos hc]; exact .inl e
    · rename_i hc; rw [if_neg hc]; exact codeAmong_push (l := rest) h e
theorem updF_at {P : Addr} {o : Obj} {rest : List (Addr × Obj)} (h2 : ∀ p ∈ rest, p.1 ≠ P) : ∀ {A : List (Addr × Obj)}, (∀ p ∈ A, p.1 ≠ P) → UpdF P o (A ++ (P, o) :: rest) (fun o' => A ++ (P, o') :: rest)
  | [], _ => .head h2
  | p :: A, h1 => .tail (h1 p (List.mem_cons_self ..)) (updF_at h2 fun q hq => h1 q (List.mem_cons_of_mem _ hq))
theorem lam_tab {M : Model} {A : Around} {E : Value → Shared → Prop} {s : Shared} {h₀ : Heap} {L a c P : Addr} {m mg mb : Str → Option Value} {cn : Str} {cs : Scope} {ccd : Value} {cl : List (Str × Addr)} {B own : List (Addr × Obj)}
    {p : Program} {loose : List Str} {mean : ExcName → Option Value} {name qual : Str} {params : Arguments} {body : Expr} {scope : Scope} {ps : Array Value} {pos : Pos} {firstLine : Nat} {clos : List (Str × Addr)} {Q : Value → Shared → Prop}
    (F : Fr h₀ L s.heap m) (N : News h₀ L s.heap (B ++ (P, tabObj ps) :: own)) (T : Top p loose mean mg mb h₀) (C : CodeHd h₀ c P) (hcd : ccd = .ref c) (h1 : ∀ p ∈ B, p.1 ≠ P) (h2 : ∀ p ∈ own, p.1 ≠ P) (hT : TabQ own qual ps)
    (hcl : closureFor scope (envX cn cs L a ccd cl) = pure clos)
    (h : ∀ f c' ctv h' tk ps' own', Fr h₀ L h' m → News h₀ L h' ((f, kla_obj name qual params body scope clos ((mg "__name__").getD .none) c' ctv) :: (B ++ (P, tabObj ps') :: own')) → (∀ p ∈ own, p ∈ own') →
      (∀ p ∈ own', p ∈ own ∨ ∀ q ∈ B ++ (P, tabObj ps) :: own, q.1 < p.1) → (∀ p ∈ own', p.1 ≠ P) → TabQ own' qual ps' → h'.CodeRec (.ref c') qual → (∃ oc, (c', oc) ∈ own' ∧ ∃ vs t, oc.data = .fields vs ∧ vs[1]? = some (.str qual t)) → (∀ q ∈ B ++ (P, tabObj ps) :: own, q.1 < f) → Q (.ref f) { s with heap := h', toks := tk }) :
    wpAny M A (makeFunction name qual params (.expr body) scope (envX cn cs L a ccd cl) [] [] [] pos firstLine) Q E s := by
  cases q : codeAmong pos ps.toList with
  | some cv =>
    obtain ⟨c', oc, vs, t, rfl, hm, hd1, hd2⟩ := hT.2 pos cv q
    refine kla_hit F N T C hcd (List.mem_append_right _ (List.mem_cons_self ..)) hT.1 q hcl ?_
    intro f ctv h' tk F' N' l1
    exact h f c' ctv h' tk ps own F' N' (fun _ hp => hp) (fun _ hp => .inl hp) h2 hT ⟨c', oc, vs, t, rfl, (N' (c', oc) (by simp [hm])).1, hd1, hd2⟩ ⟨oc, hm, vs, t, hd1, hd2⟩ l1
  | none =>
    refine kla_nest F N T C hcd (updF_at h2 h1) hT.1 q hcl ?_
    intro f c' oc vs t ctv h' tk F' N' hd1 hd2 l1 l2
    have hcP : c' ≠ P := fun e => absurd (l1 (P, tabObj ps) (by simp)) (by rw [e]; exact Nat.lt_irrefl _)
    refine h f c' ctv h' tk (ps ++ #[rawInt pos.line, rawInt pos.col, Value.ref c']) ((c', oc) :: own) F' (fun p hp => N' p ?_) (fun p hp => List.mem_cons_of_mem _ hp) (fun p hp => ?_) (fun p hp => ?_) ⟨?_, ?_⟩ ⟨c', oc, vs, t, rfl, (N' _ (List.mem_cons_of_mem _ (List.mem_cons_self ..))).1, hd1, hd2⟩ ⟨oc, List.mem_cons_self .., vs, t, hd1, hd2⟩ (fun q hq => Nat.lt_trans (l1 q hq) l2)
    · simp only [List.mem_cons, List.mem_append] at hp ⊢
      rcases hp with h | h | h | h | h <;> simp [h]
    · rcases List.mem_cons.mp hp with rfl | hp
      · exact .inr l1
      · exact .inl hp
    · rcases List.mem_cons.mp hp with rfl | hp
      · exact hcP
      · exact h2 p hp
    · have e : (ps ++ #[rawInt pos.line, rawInt pos.col, Value.ref c']).toList = ps.toList ++ [rawInt pos.line, rawInt pos.col, Value.ref c'] := by simp
      rw [e]; exact TriplesOk_snoc _ _ _ _ hT.1
    · intro pos' cv hcv
      have e : (ps ++ #[rawInt pos.line, rawInt pos.col, Value.ref c']).toList = ps.toList ++ [rawInt pos.line, rawInt pos.col, Value.ref c'] := by simp
      rw [e] at hcv
      rcases codeAmong_push hT.1 hcv with h3 | rfl
      · obtain ⟨c2, oc2, vs2, t2, a1, a2, a3⟩ := hT.2 pos' cv h3
        exact ⟨c2, oc2, vs2, t2, a1, List.mem_cons_of_mem _ a2, a3⟩
      · exact ⟨c', oc, vs, t, rfl, List.mem_cons_self .., hd1, hd2⟩
end Mine
namespace Mine
theorem topOff11 : True := by w_top off; trivial
/-- the sorting tree, its questions (all in range) answered by cmp, ends in Q -/
noncomputable def good (cmp : Nat → Nat → Bool) (n : Nat) {α : Type} : KasT α → (α → Prop) → Prop
  | .ret a, Q => Q a
  | .ask i j k, Q => i < n ∧ j < n ∧ good cmp n (k (cmp i j)) Q
theorem good_bind {cmp : Nat → Nat → Bool} {n : Nat} {α β : Type} {f : α → KasT β} {Q : β → Prop} : ∀ {t : KasT α}, good cmp n t (fun a => good cmp n (f a) Q) → good cmp n (t.bind f) Q
  | .ret _, h => h
  | .ask _ _ _, h => ⟨h.1, h.2.1, good_bind h.2.2⟩
theorem good_mono {cmp : Nat → Nat → Bool} {n : Nat} {α : Type} {Q Q' : α → Prop} (hq : ∀ a, Q a → Q' a) : ∀ {t : KasT α}, good cmp n t Q → good cmp n t Q'
  | .ret a, h => hq a h
  | .ask _ _ _, h => ⟨h.1, h.2.1, good_mono hq h.2.2⟩
theorem good_wp {cmp : Nat → Nat → Bool} {n : Nat} {α : Type} {Q : α → Prop} {ask : Nat → Nat → (Bool → Shared → Prop) → Shared → Prop} {s : Shared} {P : α → Shared → Prop} (ha : ∀ i j C, i < n → j < n → C (cmp i j) s → ask i j C s) (hq : ∀ a, Q a → P a s) :
    ∀ {t : KasT α}, good cmp n t Q → t.kasWp ask P s
  | .ret a, h => hq a h
  | .ask i j k, h => ha i j _ h.1 h.2.1 (good_wp ha hq h.2.2)
section
variable (key : Nat → Int) (n : Nat)
def kR (i j : Nat) : Prop := key i < key j ∨ key i = key j ∧ i < j
/-- the first m entries: sorted, and just the first m numbers; the rest as it was -/
structure SInv (m : Nat) (p : Array Nat) : Prop where
  size : p.size = n
  perm : p.Perm (List.toArray (List.range n))
  le : m ≤ n
  lt : ∀ a, a < m → p.getD a 0 < m
  rest : ∀ k, m ≤ k → k < n → p.getD k 0 = k
  sorted : ∀ a b, a < b → b < m → kR key (p.getD a 0) (p.getD b 0)
/-- the same, descending -/
structure EInv (m : Nat) (p : Array Nat) : Prop where
  size : p.size = n
  perm : p.Perm (List.toArray (List.range n))
  le : m ≤ n
  lt : ∀ a, a < m → p.getD a 0 < m
  rest : ∀ k, m ≤ k → k < n → p.getD k 0 = k
  desc : ∀ a b, a < b → b < m → kR key (p.getD b 0) (p.getD a 0)
/-- the same, descending, but the last q + 1, which are alike, ascending -/
structure DInv (m q : Nat) (p : Array Nat) : Prop where
  size : p.size = n
  perm : p.Perm (List.toArray (List.range n))
  le : m ≤ n
  lt : ∀ a, a < m → p.getD a 0 < m
  rest : ∀ k, m ≤ k → k < n → p.getD k 0 = k
  qm : q < m
  desc : ∀ a b, a < b → b + q + 1 < m → kR key (p.getD b 0) (p.getD a 0)
  strict : ∀ a b, a + q + 1 < m → m ≤ b + q + 1 → b < m → key (p.getD b 0) < key (p.getD a 0)
  same : ∀ a b, a < b → b < m → m ≤ a + q + 1 → key (p.getD a 0) = key (p.getD b 0) ∧ p.getD a 0 < p.getD b 0
end
theorem rev_getD {p : Array Nat} {i j : Nat} (hj : j ≤ p.size) (k : Nat) : (kas_rev p i j).getD k 0 = if i ≤ k ∧ k < j then p.getD (i + j - 1 - k) 0 else p.getD k 0 := by
  have h := getElem?_mirror_all (i := i) hj k
  simp only [kas_rev, Array.getD_eq_getD_getElem?]
  rw [h]
  split <;> rfl
theorem bubble_getD {p : Array Nat} {k l : Nat} (hk : k < p.size) (hl : l ≤ k) (i : Nat) : (bubble p k (k - l)).getD i 0 = if i = l then p.getD k 0 else if l < i ∧ i ≤ k then p.getD (i - 1) 0 else p.getD i 0 := by
  have h := getElem?_bubble hk (k - l) (by omega) i
  have e : k - (k - l) = l := by omega
  simp only [Array.getD_eq_getD_getElem?]
  rw [h, e]
  split
  · rfl
  · split <;> rfl
theorem lt_pred_or {a b : Nat} (h : a < b) : a < b - 1 ∨ a = b - 1 := by omega
theorem mir_lt {a b m : Nat} (h1 : a < b) (h2 : b < m) : 0 + m - 1 - b < 0 + m - 1 - a := by omega
theorem mir_in {a m : Nat} (h : a < m) : 0 + m - 1 - a < m := by omega
theorem lt_snoc {p : Array Nat} {m : Nat} (h : ∀ a, a < m → p.getD a 0 < m) (em : p.getD m 0 = m) : ∀ a, a < m + 1 → p.getD a 0 < m + 1 := fun a ha => by
  rcases Nat.lt_or_ge a m with q | q
  · exact Nat.lt_succ_of_lt (h a q)
  · have : a = m := by omega
    rw [this, em]; exact Nat.lt_succ_self m
theorem rev_lt {p : Array Nat} {i m : Nat} (hm : m ≤ p.size) (h : ∀ a, a < m → p.getD a 0 < m) : ∀ a, a < m → (kas_rev p i m).getD a 0 < m := fun a ha => by
  rw [rev_getD hm]; split
  · exact h _ (by omega)
  · exact h _ ha
theorem rev_rest {p : Array Nat} {i m n : Nat} (hm : m ≤ p.size) (h : ∀ k, m ≤ k → k < n → p.getD k 0 = k) : ∀ k, m ≤ k → k < n → (kas_rev p i m).getD k 0 = k := fun k h1 h2 => by
  rw [rev_getD hm, if_neg (fun x => absurd x.2 (Nat.not_lt.mpr h1))]; exact h k h1 h2
theorem rest_snoc {p : Array Nat} {m n : Nat} (h : ∀ k, m ≤ k → k < n → p.getD k 0 = k) : ∀ k, m + 1 ≤ k → k < n → p.getD k 0 = k := fun k h1 h2 => h k (Nat.le_of_succ_le h1) h2
theorem seg_in {p : Array Nat} {i q a : Nat} (hm : i + q + 1 ≤ p.size) (h1 : i ≤ a) (h2 : a < i + q + 1) (b : Nat) (hb : a + b = i + (i + q)) : (kas_rev p i (i + q + 1)).getD a 0 = p.getD b 0 := by
  rw [rev_getD hm, if_pos ⟨h1, h2⟩]
  have e : i + (i + q + 1) - 1 = i + (i + q) := rfl
  rw [e, ← hb, Nat.add_sub_cancel_left]
theorem seg_lo {p : Array Nat} {i q a : Nat} (hm : i + q + 1 ≤ p.size) (h : a < i) : (kas_rev p i (i + q + 1)).getD a 0 = p.getD a 0 := by
  rw [rev_getD hm, if_neg fun x => absurd x.1 (Nat.not_le.mpr h)]
theorem seg_hi {p : Array Nat} {i q a : Nat} (hm : i + q + 1 ≤ p.size) (h : i + q + 1 ≤ a) : (kas_rev p i (i + q + 1)).getD a 0 = p.getD a 0 := by
  rw [rev_getD hm, if_neg fun x => absurd x.2 (Nat.not_lt.mpr h)]
theorem sub_add (i q : Nat) : i + q + 1 - (q + 1) = i := Nat.add_sub_cancel (n := i) (m := q + 1)
section
variable {key : Nat → Int} {n : Nat}
noncomputable abbrev kCmp (key : Nat → Int) (i j : Nat) : Bool := decide (key i < key j)
theorem SInv.snoc {m : Nat} {p : Array Nat} (h : SInv key n m p) (hm : m < n) (h1 : 1 ≤ m) (hk : key (p.getD (m - 1) 0) ≤ key (p.getD m 0)) : SInv key n (m + 1) p := by
  have em := h.rest m (Nat.le_refl _) hm
  refine ⟨h.size, h.perm, hm, lt_snoc h.lt em, rest_snoc h.rest, fun a b hab hb => ?_⟩
  · rcases Nat.lt_or_ge b m with q | q
    · exact h.sorted a b hab q
    · have hbm : b = m := by omega
      subst hbm
      have l1 := h.lt a (by omega)
      rcases lt_pred_or (a := a) (b := b) (by omega) with q2 | q2
      · have := h.sorted a (b - 1) q2 (by omega)
        have l2 := h.lt (b - 1) (by omega)
        unfold kR at *; omega
      · subst q2
        unfold kR; omega
theorem asc_good {p : Array Nat} : ∀ (f m : Nat), SInv key n m p → 1 ≤ m → m + f ≤ n → good (kCmp key) n (kas_asc p f m) (fun r => m ≤ r ∧ r ≤ m + f ∧ SInv key n r p ∧ (r < m + f → key (p.getD r 0) < key (p.getD (r - 1) 0)))
  | 0, m, h, h1, h2 => ⟨Nat.le_refl _, by omega, h, fun x => by omega⟩
  | f + 1, m, h, h1, h2 => by
    have em := h.rest m (Nat.le_refl _) (by omega)
    have el := h.lt (m - 1) (by omega)
    refine ⟨by omega, by omega, ?_⟩
    by_cases c : key (p.getD m 0) < key (p.getD (m - 1) 0)
    · rw [show kCmp key (p.getD m 0) (p.getD (m - 1) 0) = true from decide_eq_true c]
      exact ⟨Nat.le_refl _, by omega, h, fun _ => c⟩
    · rw [show kCmp key (p.getD m 0) (p.getD (m - 1) 0) = false from decide_eq_false c]
      refine good_mono (fun r ⟨a1, a2, a3, a4⟩ => ⟨by omega, by omega, a3, fun x => a4 (by omega)⟩) (asc_good f (m + 1) (h.snoc (by omega) h1 (by omega)) (by omega) (by omega))
theorem DInv.zero {m : Nat} {p : Array Nat} (h : DInv key n m 0 p) : EInv key n m p := by
  refine ⟨h.size, h.perm, h.le, h.lt, h.rest, fun a b hab hb => ?_⟩
  rcases Nat.lt_or_ge (b + 1) m with q | q
  · exact h.desc a b hab (by omega)
  · exact .inl (h.strict a b (by omega) (by omega) hb)
theorem DInv.flush {m q : Nat} {p : Array Nat} (h : DInv key n m q p) : EInv key n m (kas_rev p (m - (q + 1)) m) := by
  have hm : m ≤ p.size := by rw [h.size]; exact h.le
  refine ⟨(kas_rev_size _ _).trans h.size, (mirror_perm _ _ _ _).trans h.perm, h.le, rev_lt hm h.lt, rev_rest hm h.rest, fun a b hab hb => ?_⟩
  obtain ⟨i, rfl⟩ : ∃ i, m = i + q + 1 := ⟨m - (q + 1), by have := h.qm; omega⟩
  rw [sub_add]
  rcases Nat.lt_or_ge a i with ha | ha
  · rw [seg_lo hm ha]
    rcases Nat.lt_or_ge b i with hbi | hbi
    · rw [seg_lo hm hbi]
      exact h.desc a b hab (Nat.add_lt_add_right (Nat.add_lt_add_right hbi q) 1)
    · obtain ⟨c, hc⟩ : ∃ c, b + c = i + (i + q) := ⟨i + (i + q) - b, by omega⟩
      rw [seg_in hm hbi hb c hc]
      exact .inl (h.strict a c (Nat.add_lt_add_right (Nat.add_lt_add_right ha q) 1) (by omega) (by omega))
  · obtain ⟨c, hc⟩ : ∃ c, b + c = i + (i + q) := ⟨i + (i + q) - b, by omega⟩
    obtain ⟨d, hd⟩ : ∃ d, a + d = i + (i + q) := ⟨i + (i + q) - a, by omega⟩
    rw [seg_in hm (Nat.le_trans ha (Nat.le_of_lt hab)) hb c hc, seg_in hm ha (Nat.lt_trans hab hb) d hd]
    have z := h.same c d (by omega) (by omega) (by omega)
    exact .inr z
theorem EInv.snoc {m : Nat} {p : Array Nat} (h : EInv key n m p) (hm : m < n) (h1 : 1 ≤ m) (hk : key (p.getD m 0) < key (p.getD (m - 1) 0)) : DInv key n (m + 1) 0 p := by
  have em := h.rest m (Nat.le_refl _) hm
  refine ⟨h.size, h.perm, hm, lt_snoc h.lt em, rest_snoc h.rest, by omega, fun a b hab hb => h.desc a b hab (by omega), fun a b ha hb hb2 => ?_, fun a b hab hb hx => by omega⟩
  · have hbm : b = m := by omega
    subst hbm
    rcases lt_pred_or (a := a) (b := b) (by omega) with q2 | q2
    · have := h.desc a (b - 1) q2 (by omega)
      unfold kR at *; omega
    · subst q2; exact hk
theorem DInv.more {m q : Nat} {p : Array Nat} (h : DInv key n m q p) (hm : m < n) (hk : key (p.getD m 0) = key (p.getD (m - 1) 0)) : DInv key n (m + 1) (q + 1) p := by
  have em := h.rest m (Nat.le_refl _) hm
  have qm := h.qm
  refine ⟨h.size, h.perm, hm, lt_snoc h.lt em, rest_snoc h.rest, by omega, fun a b hab hb => h.desc a b hab (by omega), fun a b ha hb hb2 => ?_, fun a b hab hb hx => ?_⟩
  · rcases Nat.lt_or_ge b m with q1 | q1
    · exact h.strict a b (by omega) (by omega) q1
    · have hbm : b = m := by omega
      subst hbm
      have := h.strict a (b - 1) (by omega) (by omega) (by omega)
      omega
  · rcases Nat.lt_or_ge b m with q1 | q1
    · exact h.same a b hab q1 (by omega)
    · have hbm : b = m := by omega
      subst hbm
      have l1 := h.lt a (by omega)
      rcases lt_pred_or (a := a) (b := b) (by omega) with q2 | q2
      · have := h.same a (b - 1) q2 (by omega) (by omega)
        omega
      · subst q2
        omega
theorem desc_good : ∀ (f : Nat) (p : Array Nat) (m q : Nat), DInv key n m q p → m + f ≤ n → good (kCmp key) n (kas_desc f p m q) (fun r => DInv key n r.2.1 r.2.2 r.1)
  | 0, p, m, q, h, h2 => h
  | f + 1, p, m, q, h, h2 => by
    have em := h.rest m (Nat.le_refl _) (by omega)
    have qm := h.qm
    have el := h.lt (m - 1) (by omega)
    refine ⟨by omega, by omega, ?_⟩
    by_cases c : key (p.getD m 0) < key (p.getD (m - 1) 0)
    · rw [show kCmp key (p.getD m 0) (p.getD (m - 1) 0) = true from decide_eq_true c]; dsimp only; rw [if_pos rfl]
      split
      · refine desc_good f _ _ _ (h.flush.snoc (by omega) (by omega) ?_) (by omega)
        have hm : m ≤ p.size := by rw [h.size]; exact h.le
        obtain ⟨i, rfl⟩ : ∃ i, m = i + q + 1 := ⟨m - (q + 1), by omega⟩
        rw [sub_add, seg_hi hm (Nat.le_refl _), Nat.add_sub_cancel, seg_in hm (Nat.le_add_right i q) (Nat.lt_succ_self _) i (Nat.add_comm _ _)]
        rw [Nat.add_sub_cancel] at c
        rcases Nat.eq_zero_or_pos q with hq | hq
        · subst hq; exact c
        · have := (h.same i (i + q) (Nat.lt_add_of_pos_right hq) (Nat.lt_succ_self _) (Nat.le_refl _)).1
          rw [this]; exact c
      · have : q = 0 := by omega
        subst this
        exact desc_good f _ _ _ (h.zero.snoc (by omega) (by omega) c) (by omega)
    · rw [show kCmp key (p.getD m 0) (p.getD (m - 1) 0) = false from decide_eq_false c]; dsimp only; rw [if_neg (by simp)]
      refine ⟨by omega, by omega, ?_⟩
      by_cases d : key (p.getD (m - 1) 0) < key (p.getD m 0)
      · rw [show kCmp key (p.getD (m - 1) 0) (p.getD m 0) = true from decide_eq_true d]; dsimp only; rw [if_pos rfl]
        exact h
      · rw [show kCmp key (p.getD (m - 1) 0) (p.getD m 0) = false from decide_eq_false d]; dsimp only; rw [if_neg (by simp)]
        exact desc_good f _ _ _ (h.more (by omega) (by omega)) (by omega)
theorem EInv.turn {m : Nat} {p : Array Nat} (h : EInv key n m p) : SInv key n m (kas_rev p 0 m) := by
  have hm : m ≤ p.size := by rw [h.size]; exact h.le
  have g := fun k => rev_getD (i := 0) hm k
  refine ⟨(kas_rev_size _ _).trans h.size, (mirror_perm _ _ _ _).trans h.perm, h.le, rev_lt hm h.lt, rev_rest hm h.rest, fun a b hab hb => ?_⟩
  · rw [g, g, if_pos ⟨Nat.zero_le _, Nat.lt_trans hab hb⟩, if_pos ⟨Nat.zero_le _, hb⟩]
    exact h.desc _ _ (mir_lt hab hb) (mir_in (Nat.lt_trans hab hb))
theorem tail3_good {m : Nat} {p : Array Nat} (h : EInv key n m p) (h1 : 1 ≤ m) : good (kCmp key) n (kas_tail3 m n p) (fun r => 1 ≤ r.1 ∧ SInv key n r.1 r.2) := by
  have := h.le
  refine good_bind (good_mono (fun r ⟨a1, a2, a3, a4⟩ => ?_) (asc_good (n - m) m h.turn h1 (by omega)))
  exact ⟨by omega, a3⟩
theorem descPart_good {m : Nat} {p : Array Nat} (h : EInv key n m p) (h1 : 1 ≤ m) (hm : m < n) (hk : key (p.getD m 0) < key (p.getD (m - 1) 0)) : good (kCmp key) n (kas_descPart m n p) (fun r => 1 ≤ r.1 ∧ SInv key n r.1 r.2) := by
  refine good_bind (good_mono (fun r hr => ?_) (desc_good (n - (m + 1)) p (m + 1) 0 (h.snoc hm h1 hk) (by omega)))
  have := hr.qm
  split
  · exact tail3_good hr.flush (by omega)
  · have e : r.2.2 = 0 := by omega
    rw [e] at hr
    exact tail3_good hr.zero (by omega)
theorem range_inv (hn : 1 ≤ n) : SInv key n 1 (List.toArray (List.range n)) := by
  have g : ∀ k, k < n → (List.toArray (List.range n)).getD k 0 = k := fun k hk => by
    simp [Array.getD_eq_getD_getElem?, hk]
  refine ⟨by simp, Array.Perm.refl _, hn, fun a ha => ?_, fun k _ hk => g k hk, fun a b hab hb => by omega⟩
  rw [g a (by omega)]; omega
theorem count_good (hn : 1 ≤ n) : good (kCmp key) n (kas_count n (List.toArray (List.range n))) (fun r => 1 ≤ r.1 ∧ SInv key n r.1 r.2) := by
  have h0 := range_inv (key := key) hn
  have hsz : (List.toArray (List.range n)).size = n := by simp
  unfold kas_count
  generalize hp0 : List.toArray (List.range n) = p at h0 hsz
  refine good_bind (good_mono (fun m ⟨a1, a2, h, a4⟩ => ?_) (asc_good (n - 1) 1 h0 (Nat.le_refl _) (by omega)))
  have hle := h.le
  split
  · exact ⟨a1, h⟩
  · rename_i hne
    have hne : m ≠ n := fun e => hne (by simp [e])
    have hk := a4 (by omega)
    have hm : m ≤ p.size := by omega
    split
    · have l0 := h.lt 0 (by omega)
      have l1 := h.lt (m - 1) (by omega)
      refine ⟨by omega, by omega, ?_⟩
      by_cases c : key (p.getD 0 0) < key (p.getD (m - 1) 0)
      · rw [show kCmp key (p.getD 0 0) (p.getD (m - 1) 0) = true from decide_eq_true c]; dsimp only; rw [if_pos rfl]
        exact ⟨a1, h⟩
      · rw [show kCmp key (p.getD 0 0) (p.getD (m - 1) 0) = false from decide_eq_false c]; dsimp only; rw [if_neg (by simp)]
        have g := fun k => rev_getD (i := 0) hm k
        have same : ∀ a, a < m → key (p.getD a 0) = key (p.getD 0 0) := fun a ha => by
          have z1 := fun (x : 0 < a) => h.sorted 0 a x ha
          have z2 := fun (x : a < m - 1) => h.sorted a (m - 1) x (by omega)
          rcases Nat.eq_zero_or_pos a with q | q
          · subst q; rfl
          · have z1 := z1 q
            rcases lt_pred_or (a := a) (b := m) (by omega) with q2 | q2
            · have z2 := z2 q2
              unfold kR at *; omega
            · subst q2
              unfold kR at *; omega
        refine descPart_good ⟨(kas_rev_size _ _).trans h.size, (mirror_perm _ _ _ _).trans h.perm, h.le, rev_lt hm h.lt, rev_rest hm h.rest, fun a b hab hb => ?_⟩ a1 (by omega) ?_
        · rw [g, g, if_pos ⟨Nat.zero_le _, hb⟩, if_pos ⟨Nat.zero_le _, Nat.lt_trans hab hb⟩]
          exact h.sorted _ _ (mir_lt hab hb) (mir_in (Nat.lt_trans hab hb))
        · rw [g, g, if_neg (by omega), if_pos (by omega), same (0 + m - 1 - (m - 1)) (by omega)]
          have := same (m - 1) (by omega)
          omega
    · have e1 : m = 1 := by omega
      subst e1
      exact descPart_good ⟨h.size, h.perm, h.le, h.lt, h.rest, fun a b hab hb => by omega⟩ a1 (by omega) hk
theorem place_good {p : Array Nat} {k : Nat} (h : SInv key n k p) (hk : k < n) : ∀ (f l r : Nat), l ≤ r → r ≤ k → r ≤ l + f → (∀ a, a < l → key (p.getD a 0) ≤ key (p.getD k 0)) → (∀ a, r ≤ a → a < k → key (p.getD k 0) < key (p.getD a 0)) →
    good (kCmp key) n (kas_place p k f l r) (fun l' => l' ≤ k ∧ (∀ a, a < l' → key (p.getD a 0) ≤ key (p.getD k 0)) ∧ (∀ a, l' ≤ a → a < k → key (p.getD k 0) < key (p.getD a 0)))
  | 0, l, r, h1, h2, h3, hl, hr => ⟨Nat.le_trans h1 h2, hl, fun a ha => hr a (Nat.le_trans h3 ha)⟩
  | f + 1, l, r, h1, h2, h3, hl, hr => by
    unfold kas_place
    split
    · rename_i hge
      exact ⟨Nat.le_trans h1 h2, hl, fun a ha => hr a (Nat.le_trans hge ha)⟩
    · rename_i hlt
      have m1 : l ≤ (l + r) / 2 := by omega
      have m2 : (l + r) / 2 < r := by omega
      generalize (l + r) / 2 = c at m1 m2
      have ck : c < k := Nat.lt_of_lt_of_le m2 h2
      have ek := h.rest k (Nat.le_refl _) hk
      have el := h.lt c ck
      have key_le : ∀ {a b}, a < b → b < k → key (p.getD a 0) ≤ key (p.getD b 0) := fun hab hb => by
        have := h.sorted _ _ hab hb
        clear h
        unfold kR at this; omega
      refine ⟨by rw [ek]; exact hk, Nat.lt_trans el hk, ?_⟩
      by_cases q : key (p.getD k 0) < key (p.getD c 0)
      · rw [show kCmp key (p.getD k 0) (p.getD c 0) = true from decide_eq_true q]; dsimp only; rw [if_pos rfl]
        refine place_good h hk f l _ m1 (Nat.le_of_lt ck) (Nat.le_of_lt_succ (Nat.lt_of_lt_of_le m2 h3)) hl fun a ha hak => ?_
        rcases Nat.lt_or_eq_of_le ha with z | z
        · exact Int.lt_of_lt_of_le q (key_le z hak)
        · rw [← z]; exact q
      · rw [show kCmp key (p.getD k 0) (p.getD c 0) = false from decide_eq_false q]; dsimp only; rw [if_neg (by simp)]
        refine place_good h hk f _ r m2 h2 (Nat.le_trans h3 (by rw [Nat.add_assoc, Nat.add_comm 1 f]; exact Nat.add_le_add_right m1 _)) (fun a ha => ?_) hr
        rcases Nat.lt_or_eq_of_le (Nat.le_of_lt_succ ha) with z | z
        · exact Int.le_trans (key_le z ck) (Int.not_lt.mp q)
        · rw [z]; exact Int.not_lt.mp q
section
variable {p : Array Nat} {k l : Nat} (hk : k < p.size) (hl : l ≤ k)
include hk hl
theorem put_lo {a : Nat} (h : a < l) : (bubble p k (k - l)).getD a 0 = p.getD a 0 := by
  rw [bubble_getD hk hl, if_neg (Nat.ne_of_lt h), if_neg (fun x => absurd x.1 (Nat.not_lt.mpr (Nat.le_of_lt h)))]
theorem put_eq : (bubble p k (k - l)).getD l 0 = p.getD k 0 := by rw [bubble_getD hk hl, if_pos rfl]
theorem put_mid {a : Nat} (h : l ≤ a) (h2 : a < k) : (bubble p k (k - l)).getD (a + 1) 0 = p.getD a 0 := by
  rw [bubble_getD hk hl, if_neg (Nat.ne_of_gt (Nat.lt_succ_of_le h)), if_pos ⟨Nat.lt_succ_of_le h, h2⟩]; rfl
theorem put_hi {a : Nat} (h : k < a) : (bubble p k (k - l)).getD a 0 = p.getD a 0 := by
  rw [bubble_getD hk hl, if_neg (Nat.ne_of_gt (Nat.lt_of_le_of_lt hl h)), if_neg (fun x => absurd x.2 (Nat.not_le.mpr h))]
end
theorem SInv.put {p : Array Nat} {k l : Nat} (h : SInv key n k p) (hk : k < n) (hl : l ≤ k) (h1 : ∀ a, a < l → key (p.getD a 0) ≤ key (p.getD k 0)) (h2 : ∀ a, l ≤ a → a < k → key (p.getD k 0) < key (p.getD a 0)) : SInv key n (k + 1) (bubble p k (k - l)) := by
  have ek := h.rest k (Nat.le_refl _) hk
  have hs : k < p.size := by rw [h.size]; exact hk
  have up : ∀ {a : Nat}, l < a → ∃ c, a = c + 1 ∧ l ≤ c := fun {a} ha => ⟨a - 1, by omega, by omega⟩
  refine ⟨(bubble_size _ _ _).trans h.size, (bubble_perm _ _ _).trans h.perm, hk, fun a ha => ?_, fun i hi1 hi2 => ?_, fun a b hab hb => ?_⟩
  · rcases Nat.lt_trichotomy a l with z | z | z
    · rw [put_lo hs hl z]; exact Nat.lt_succ_of_lt (h.lt a (Nat.lt_of_lt_of_le z hl))
    · rw [z, put_eq hs hl, ek]; exact Nat.lt_succ_self k
    · obtain ⟨c, rfl, hc⟩ := up z
      rw [put_mid hs hl hc (Nat.lt_of_succ_lt_succ ha)]; exact Nat.lt_succ_of_lt (h.lt c (Nat.lt_of_succ_lt_succ ha))
  · rw [put_hi hs hl hi1]; exact h.rest i (Nat.le_of_succ_le hi1) hi2
  · rcases Nat.lt_trichotomy b l with z | z | z
    · rw [put_lo hs hl (Nat.lt_trans hab z), put_lo hs hl z]; exact h.sorted a b hab (Nat.lt_of_lt_of_le z hl)
    · subst z
      rw [put_lo hs hl hab, put_eq hs hl]
      have q := h1 a hab
      rcases Int.lt_or_eq_of_le q with q | q
      · exact .inl q
      · exact .inr ⟨q, by rw [ek]; exact h.lt a (Nat.lt_of_lt_of_le hab hl)⟩
    · obtain ⟨c, rfl, hc⟩ := up z
      have ck := Nat.lt_of_succ_lt_succ hb
      rw [put_mid hs hl hc ck]
      rcases Nat.lt_trichotomy a l with w | w | w
      · rw [put_lo hs hl w]; exact h.sorted a c (Nat.lt_of_lt_of_le w hc) ck
      · subst w
        rw [put_eq hs hl]
        exact .inl (h2 c hc ck)
      · obtain ⟨d, rfl, hd⟩ := up w
        have dc := Nat.lt_of_succ_lt_succ hab
        rw [put_mid hs hl hd (Nat.lt_trans dc ck)]; exact h.sorted d c dc ck
theorem bin_good : ∀ (f : Nat) (p : Array Nat) (k : Nat), SInv key n k p → k + f = n → good (kCmp key) n (kas_bin f p k) (fun r => SInv key n n r)
  | 0, p, k, h, e => by
    have : k = n := by omega
    subst this; exact h
  | f + 1, p, k, h, e => by
    refine good_bind (good_mono (fun l ⟨a1, a2, a3⟩ => ?_) (place_good h (by omega) k 0 k (Nat.zero_le _) (Nat.le_refl _) (by omega) (fun a ha => absurd ha (Nat.not_lt_zero _)) (fun a h1 h2 => absurd h2 (Nat.not_lt.mpr h1))))
    exact bin_good f _ _ (h.put (by omega) a1 a2 a3) (by omega)
theorem sort_good (hn : 1 ≤ n) : good (kCmp key) n (kas_sort n) (fun r => SInv key n n r) := by
  unfold kas_sort
  refine good_bind (good_mono (fun r ⟨a1, h⟩ => ?_) (count_good hn))
  have hle := h.le
  have e : max r.1 1 = r.1 := by omega
  split
  · rw [e]; exact bin_good _ _ _ h (by omega)
  · have e : r.1 = n := by omega
    rw [e] at h; exact h
end
end Mine
namespace Mine
theorem topOff12 : True := by w_top off; trivial
noncomputable abbrev tupO (a b : Int) (t u : Tok) : Obj := { cls := .type "tuple", data := .seq [Value.int a t, .int b u].toArray }
noncomputable abbrev dueBody (p1 p2 p3 p4 p5 p6 p7 p8 p9 pa pb pc pd pe pf : Pos) : Expr :=
  Expr.Tuple [((((Expr.Name (Str.ofString "numbers") p1).Subscript (Expr.Name (Str.ofString "one") p2) p3).BinOp Operator.FloorDiv (Expr.Constant (Const.int 64) 0 p4) p5).BinOp Operator.Mod (Expr.Constant (Const.int 8) 0 p6) p7),
    ((((Expr.Name (Str.ofString "numbers") p8).Subscript (Expr.Name (Str.ofString "one") p9) pa).BinOp Operator.Sub (Expr.Name (Str.ofString "first") pb) pc).BinOp Operator.Mod (Expr.Constant (Const.int 16) 0 pd) pe)] 0 pf
noncomputable abbrev dueScope : Scope := { kind := ScopeKind.function, names := [(Str.ofString "one", NameKind.local), (Str.ofString "first", NameKind.free), (Str.ofString "numbers", NameKind.free)], isGenerator := false, isCoroutine := false }
noncomputable def kDue (xs : List Int) (fv : Int) (d : Int) : Int × Int := ((Int.fdiv (xs.getD d.toNat 0) 64).fmod 8, (xs.getD d.toNat 0 - fv).fmod 16)
set_option maxHeartbeats 2000000 in
theorem key_due (C : Cx) (H : Heap) (fa cn cf nl c' : Addr) (on of : Obj) (name qual : Str) (pm ctv : Value) (p p1 p2 p3 p4 p5 p6 p7 p8 p9 pa pb pc pd pe pf : Pos) (xs : List Int) (nv : List Value) (fv : Int) (ft : Tok)
    (ho : H.get? fa = some (kla_obj name qual (lamOneArgs p) (dueBody p1 p2 p3 p4 p5 p6 p7 p8 p9 pa pb pc pd pe pf) dueScope [(Str.ofString "numbers", cn), (Str.ofString "first", cf)] pm c' ctv)) (hcd : H.CodeRec (.ref c') qual)
    (hcn : H.get? cn = some on) (hon : on.data = .cell (some (.ref nl))) (hcf : H.get? cf = some of) (hof : of.data = .cell (some (.int fv ft))) (hnl : H.IsList nl nv.toArray) (hxs : IntsAre nv xs) (i : Int) (t : Tok) (hi : 0 ≤ i ∧ i < xs.length ∧ i < 100) :
    Pure C 2 10 H (.ref fa) [.int i t] [] (fun h0 h' r => ∃ a t1 t2, r = .ref a ∧ h0.get? a = none ∧ h'.get? a = some (tupO (kDue xs fv i).1 (kDue xs fv i).2 t1 t2)) := by
  obtain ⟨hi0, hi1, hi2⟩ := hi
  intro A A₀ env outer base h₀ L m s0 Q E S hst hd hu hq
  refine enterLam S [(Str.ofString "one", .int i t)] (hst _ _ ho) (hcd.keeps hst) (by omega) rfl (locs rfl) (by decide) rfl rfl rfl ?_
  intro L' h₁ S'
  have hcn' := hst _ _ hcn
  have hcf' := hst _ _ hcf
  have hnl' : s0.heap.IsList nl nv.toArray := hnl.at fun o e => hst _ o e
  obtain ⟨B', F', X', T', hA', hf', hk', hh'⟩ := S'
  have N' : News s0.heap L' h₁ [] := News.nil
  clear S
  revert X'; k_fill; intro X'
  dsimp only at F'
  k_unmd
  k_steps
  rename Fr _ _ _ _ => F6
  rename News _ _ _ _ => N6
  have n6 := N6 _ (List.mem_cons_self ..)
  exact hq _ _ _ F6.keep ⟨_, _, _, rfl, n6.2.2, n6.1⟩
/-- keys: addresses of pairs in the ledger -/
noncomputable def TupsIn (own : List (Addr × Obj)) : List Value → List (Int × Int) → Prop
  | [], [] => True
  | v :: vs, x :: xs => (∃ a t u, v = .ref a ∧ (a, tupO x.1 x.2 t u) ∈ own) ∧ TupsIn own vs xs
  | _, _ => False
theorem TupsIn.mono {own own' : List (Addr × Obj)} (h : ∀ p ∈ own, p ∈ own') : ∀ {vs : List Value} {xs : List (Int × Int)}, TupsIn own vs xs → TupsIn own' vs xs
  | [], [], _ => trivial
  | [], _ :: _, x => x.elim
  | _ :: _, [], x => x.elim
  | _ :: _, _ :: _, ⟨⟨a, t, u, e, hm⟩, r⟩ => ⟨⟨a, t, u, e, h _ hm⟩, TupsIn.mono h r⟩
theorem TupsIn.snoc {own : List (Addr × Obj)} {v : Value} {x : Int × Int} (hv : ∃ a t u, v = .ref a ∧ (a, tupO x.1 x.2 t u) ∈ own) : ∀ {vs : List Value} {xs : List (Int × Int)}, TupsIn own vs xs → TupsIn own (vs ++ [v]) (xs ++ [x])
  | [], [], _ => ⟨hv, trivial⟩
  | [], _ :: _, x => x.elim
  | _ :: _, [], x => x.elim
  | _ :: _, _ :: _, ⟨a, r⟩ => ⟨a, TupsIn.snoc hv r⟩
theorem TupsIn.length {own : List (Addr × Obj)} : ∀ {vs : List Value} {xs : List (Int × Int)}, TupsIn own vs xs → vs.length = xs.length
  | [], [], _ => rfl
  | [], _ :: _, x => x.elim
  | _ :: _, [], x => x.elim
  | _ :: _, _ :: _, ⟨_, r⟩ => by simp [TupsIn.length r]
theorem TupsIn.get {own : List (Addr × Obj)} : ∀ {vs : List Value} {xs : List (Int × Int)} {i : Nat}, TupsIn own vs xs → i < vs.length → ∃ a t u, vs.getD i .none = .ref a ∧ (a, tupO (xs.getD i (0, 0)).1 (xs.getD i (0, 0)).2 t u) ∈ own
  | [], [], _, _, h => by simp at h
  | [], _ :: _, _, x, _ => x.elim
  | _ :: _, [], _, x, _ => x.elim
  | _ :: _, _ :: _, 0, ⟨⟨a, t, u, e, hm⟩, _⟩, _ => ⟨a, t, u, by simpa using e, by simpa using hm⟩
  | _ :: vs, _ :: xs, i + 1, ⟨_, r⟩, h => by simpa using TupsIn.get (i := i) r (by simpa using h)
theorem TupsIn.tups {own : List (Addr × Obj)} {h : Heap} (hh : ∀ p ∈ own, h.get? p.1 = some p.2) : ∀ {vs : List Value} {xs : List (Int × Int)}, TupsIn own vs xs → ∃ fs : List Value, KatTups h vs fs ∧ fs.length = vs.length ∧ ∀ v ∈ fs, ∃ n t, v = .int n t
  | [], [], _ => ⟨[], trivial, rfl, fun _ h => nomatch h⟩
  | [], _ :: _, x => x.elim
  | _ :: _, [], x => x.elim
  | _ :: _, x :: _, ⟨⟨a, t, u, e, hm⟩, r⟩ => by
    obtain ⟨fs, h1, h2, h3⟩ := TupsIn.tups hh r
    refine ⟨.int x.1 t :: fs, ?_, by simp [h2], ?_⟩
    · rw [e]
      exact KatTups.cons (hh _ hm) rfl rfl rfl h1
    · intro v hv
      rcases List.mem_cons.mp hv with rfl | hv
      · exact ⟨_, _, rfl⟩
      · exact h3 v hv
section
variable {prog : Program} {w : World} {A : Around} {s : Shared}
theorem lex_ask {x y : Addr} {a1 a2 b1 b2 : Int} {t1 t2 u1 u2 : Tok} {Q : Bool → Shared → Prop} {E : Value → Shared → Prop} (hx : s.heap.get? x = some (tupO a1 a2 t1 t2)) (hy : s.heap.get? y = some (tupO b1 b2 u1 u2)) (h : Q (decide (a1 < b1 ∨ a1 = b1 ∧ a2 < b2)) s) :
    wpAny (model prog w) A (keyLt' (tuples' true) (.ref x) (.ref y)) Q E s := by
  refine kat_lt hx rfl hy rfl ?_
  show KatLex prog w A true false Q [(Value.int a1 t1, .int b1 u1), (.int a2 t2, .int b2 u2)] 0 s
  refine kat_cons (wpAny_eqBool_int ?_)
  by_cases e1 : a1 = b1
  · rw [beq_iff_eq.mpr e1]
    refine kat_yes (kat_cons (wpAny_eqBool_int ?_))
    by_cases e2 : a2 = b2
    · rw [beq_iff_eq.mpr e2]
      refine kat_yes (kat_nil ?_)
      rw [decide_eq_false (by omega)] at h
      exact h
    · rw [beq_eq_false_iff_ne.mpr e2]
      refine kat_no (kat_one _ _ (PyProof.Rows.lt_int ?_))
      have e : decide (a1 < b1 ∨ a1 = b1 ∧ a2 < b2) = decide (a2 < b2) := by
        by_cases q : a2 < b2
        · rw [decide_eq_true q, decide_eq_true (by omega)]
        · rw [decide_eq_false q, decide_eq_false (by omega)]
      rw [e] at h
      exact h
  · rw [beq_eq_false_iff_ne.mpr e1]
    refine kat_no (oneLt_int ?_)
    have e : decide (a1 < b1 ∨ a1 = b1 ∧ a2 < b2) = decide (a1 < b1) := by
      by_cases q : a1 < b1
      · rw [decide_eq_true q, decide_eq_true (by omega)]
      · rw [decide_eq_false q, decide_eq_false (by omega)]
    rw [e] at h
    exact h
end
end Mine
end
section
open Mine
local macro_rules | `(tactic| walk_at "call ref") => `(tactic| refine Stop.out ?_)
namespace Mine
theorem topOff13 : True := by w_top off; trivial
local macro_rules | `(tactic| walk_at "exec For Tuple Name cons nil") => `(tactic| refine Stop.out ?_)
local macro_rules | `(tactic| walk_at "pyIter ref") => `(tactic| refine Stop.out ?_)
noncomputable def PairsAt (H : Heap) : List Value → List (Nat × Nat) → Prop
  | [], [] => True
  | v :: vs, (a, b) :: sp => (∃ t ta tb, v = .ref t ∧ IsTup H t [Value.int a ta, .int b tb].toArray) ∧ PairsAt H vs sp
  | _, _ => False
def SpansAt (H : Heap) (sa : Addr) (sp : List (Nat × Nat)) : Prop := ∃ sv, H.IsList sa (List.toArray sv) ∧ PairsAt H sv sp
noncomputable def insideOf (ps : List Int) (sp : List (Nat × Nat)) : List Int := sp.flatMap fun ab => ps.filter fun p => decide ((ab.1 : Int) ≤ p) && decide (p < (ab.2 : Int))
theorem PairsAt.get {H : Heap} : ∀ {sv : List Value} {sp : List (Nat × Nat)} {i : Nat} {v : Value}, PairsAt H sv sp → sv[i]? = some v → ∃ a b t ta tb, sp[i]? = some (a, b) ∧ v = .ref t ∧ IsTup H t [Value.int (a : Nat) ta, .int (b : Nat) tb].toArray
  | [], [], _, _, _, h => by simp at h
  | [], _ :: _, _, _, h, _ => h.elim
  | _ :: _, [], _, _, h, _ => h.elim
  | v :: vs, (a, b) :: sp, 0, w, h, e => by
    obtain ⟨⟨t, ta, tb, rfl, ht⟩, _⟩ := h
    cases e
    exact ⟨a, b, t, ta, tb, rfl, rfl, ht⟩
  | v :: vs, (a, b) :: sp, i + 1, w, h, e => PairsAt.get (sp := sp) (i := i) h.2 (by simpa using e)
theorem PairsAt.length {H : Heap} : ∀ {sv : List Value} {sp : List (Nat × Nat)}, PairsAt H sv sp → sv.length = sp.length
  | [], [], _ => rfl
  | [], _ :: _, h => h.elim
  | _ :: _, [], h => h.elim
  | v :: vs, (a, b) :: sp, h => by simp [PairsAt.length h.2]
noncomputable abbrev mIns (pa sa ia : Addr) (tail : List (Str × Value)) : List (Str × Value) :=
  [(Str.ofString "inside", .ref ia), (Str.ofString "part", .ref pa), (Str.ofString "spans", .ref sa)] ++ tail
noncomputable abbrev kIns : List Str := [Str.ofString "inside", Str.ofString "part", Str.ofString "spans", Str.ofString "start", Str.ofString "stop", Str.ofString "ahead"]
def insTail (tail : List (Str × Value)) : Prop := tail = [] ∨ ∃ u v w, tail = [(Str.ofString "start", u), (Str.ofString "stop", v), (Str.ofString "ahead", w)]
noncomputable def geP (ps : List Int) (x : Int) (i : Nat) : Bool := match ps[i]? with | some p => decide (x ≤ p) | none => true
theorem geP_eq {ps : List Int} {x : Int} (i : Nat) (h : i < ps.length) : geP ps x i = decide (x ≤ ps[i]) := by simp [geP, h]
theorem geP_mono {ps : List Int} {x : Int} (hs : ps.Pairwise (· < ·)) (i j : Nat) (hij : i ≤ j) (hj : j < ps.length) (h : geP ps x i = true) : geP ps x j = true := by
  rw [geP_eq j hj]
  rw [geP_eq i (by omega)] at h
  rcases Nat.lt_or_ge i j with hlt | hge
  · have := List.pairwise_iff_getElem.mp hs i j (by omega) hj hlt
    simp only [decide_eq_true_eq] at h ⊢
    omega
  · have : i = j := by omega
    subst this; exact h
theorem geP_false {ps : List Int} {x y : Int} (h : x ≤ y) {i : Nat} (hp : geP ps x i = false) : geP ps y i = false := by
  unfold geP at hp ⊢
  split at hp
  · simp only [decide_eq_false_iff_not] at hp ⊢; omega
  · cases hp
theorem slice_filter {ps : List Int} {a b : Int} {p1 p2 : Nat} (hp2 : p2 ≤ ps.length) (h12 : p1 ≤ p2) (h1 : ∀ i < p1, geP ps a i = false) (h2 : ∀ i, p1 ≤ i → i < ps.length → geP ps a i = true)
    (h3 : ∀ i < p2, geP ps b i = false) (h4 : ∀ i, p2 ≤ i → i < ps.length → geP ps b i = true) :
    List.take (min p2 ps.length - p1) (List.drop p1 ps) = ps.filter fun p => decide (a ≤ p) && decide (p < b) := by
  rw [Nat.min_eq_left hp2]
  have e : ps = ps.take p1 ++ (List.take (p2 - p1) (List.drop p1 ps) ++ ps.drop p2) := by
    have e1 : List.drop p2 ps = List.drop (p2 - p1) (List.drop p1 ps) := by rw [List.drop_drop]; congr 1; omega
    rw [e1, List.take_append_drop, List.take_append_drop]
  have hA : (ps.take p1).filter (fun p => decide (a ≤ p) && decide (p < b)) = [] := by
    rw [List.filter_eq_nil_iff]
    intro x hx
    obtain ⟨i, hi, rfl⟩ := List.mem_iff_getElem.mp hx
    rw [List.length_take] at hi
    have := h1 i (by omega)
    rw [geP_eq i (by omega), decide_eq_false_iff_not] at this
    simp only [List.getElem_take, Bool.and_eq_true, decide_eq_true_eq, not_and]
    omega
  have hC : (ps.drop p2).filter (fun p => decide (a ≤ p) && decide (p < b)) = [] := by
    rw [List.filter_eq_nil_iff]
    intro x hx
    obtain ⟨i, hi, rfl⟩ := List.mem_iff_getElem.mp hx
    rw [List.length_drop] at hi
    have := h4 (p2 + i) (by omega) (by omega)
    rw [geP_eq _ (by omega), decide_eq_true_eq] at this
    simp only [List.getElem_drop, Bool.and_eq_true, decide_eq_true_eq, not_and]
    omega
  have hB : (List.take (p2 - p1) (List.drop p1 ps)).filter (fun p => decide (a ≤ p) && decide (p < b)) = List.take (p2 - p1) (List.drop p1 ps) := by
    rw [List.filter_eq_self]
    intro x hx
    obtain ⟨i, hi, rfl⟩ := List.mem_iff_getElem.mp hx
    rw [List.length_take, List.length_drop] at hi
    have q1 := h2 (p1 + i) (by omega) (by omega)
    have q2 := h3 (p1 + i) (by omega)
    rw [geP_eq _ (by omega), decide_eq_true_eq] at q1
    rw [geP_eq _ (by omega), decide_eq_false_iff_not] at q2
    simp only [List.getElem_take, List.getElem_drop, Bool.and_eq_true, decide_eq_true_eq]
    omega
  conv => rhs; rw [e, List.filter_append, List.filter_append, hA, hB, hC, List.nil_append, List.append_nil]
theorem insideOf_length (ps : List Int) : ∀ sp : List (Nat × Nat), (insideOf ps sp).length ≤ sp.length * ps.length
  | [] => by simp [insideOf]
  | ab :: sp => by
    have ih := insideOf_length ps sp
    have h1 := List.length_filter_le (fun p => decide ((ab.1 : Int) ≤ p) && decide (p < (ab.2 : Int))) ps
    simp only [insideOf, List.flatMap_cons, List.length_append, List.length_cons] at ih ⊢
    rw [Nat.add_mul]; omega
theorem insideOf_append (ps : List Int) (s t : List (Nat × Nat)) : insideOf ps (s ++ t) = insideOf ps s ++ insideOf ps t := by simp [insideOf]
/-- between two turns of _law_inside's loop -/
def insJ (pa sa : Addr) (ps : List Int) (sp : List (Nat × Nat)) (i : Nat) (m₁ : Str → Option Value) (nx : List (Addr × Obj)) : Prop :=
  ∃ ia vi ei tail, nx = [(ia, W.listOf (List.toArray vi) ei)] ∧ IntsAre vi (insideOf ps (sp.take i)) ∧ insTail tail ∧ m₁ = mOf (mIns pa sa ia tail)
set_option maxHeartbeats 4000000 in
theorem inside_spec (C : Cx) (H : Heap) (pa sa : Addr) (pv : List Value) (ps : List Int) (sp : List (Nat × Nat)) (hp : H.IsList pa pv.toArray) (hps : IntsAre pv ps) (hlen : ps.length < 20) (hsort : ps.Pairwise (· < ·))
    (hsp : SpansAt H sa sp) (hle : ∀ ab ∈ sp, ab.1 ≤ ab.2) (hsl : sp.length < 20) : 
    Pure C 4 20 H (.ref 76) [.ref pa, .ref sa] []
      (fun h0 h' r' => ∃ a, r' = .ref a ∧ NewInts h0 h' a (insideOf ps sp)) := by
  intro A A₀ env outer base h₀ L m s0 Q E S hst hd hu hq
  have X0 := S.X
  revert X0; k_fill; intro X0
  k_dflt (refine' enter S [(Str.ofString "part", .ref pa), (Str.ofString "spans", .ref sa)] ?k6 ?k7 ?k8 ?k9 ?kB ?c5 ?c2 ?c3 ?c4 ?_; (case k6 => k_is); (case k7 => k_is); (case k8 => omega); (case k9 => exact BindsTo.of_eq rfl); (case c5 => decide); (case kB => exact locs rfl); (case c2 => exact rfl); (case c3 => exact rfl); (case c4 => exact rfl); k_whole)
  intro L' h₁ S'
  have hp' : s0.heap.IsList pa pv.toArray := hp.at fun o e => hst _ o e
  obtain ⟨sv, hsv, hprs⟩ := hsp
  have hsv' : s0.heap.IsList sa sv.toArray := hsv.at fun o e => hst _ o e
  obtain ⟨B', F', X', T', hA', hf', hk', hh'⟩ := S'
  have N' : News s0.heap L' h₁ [] := News.nil
  clear X0 S
  dsimp only at F'
  k_unmd
  k_fold
  k_steps
  refine Stop.mk ?_
  rename_i ia h3 l0 hh9 F9 N9
  refine For_lst (h₀ := s0.heap) hh' ?_ (fun _ => rfl) PassesOwn.never
  k_steps
  refine Stop.mk ?_
  refine iter_lst (insJ pa sa ps sp) (hsv'.at fun o e => F9.keep _ o e) F9 N9 ?_ ?_ ?_ ?_
  · refine Exists.intro ia ⟨[], 0, [], rfl, .nil, .inl rfl, ?_⟩
    simp only [mOf_app]
    refine mOf_extB kIns ?_ ?_ (all_cons ?_ (all_cons ?_ (all_cons ?_ (all_cons ?_ (all_cons ?_ (all_cons ?_ all_nil)))))) <;> rfl
  · rintro i m₁ nx h9 - F8 -
    exact hsv'.at fun o e => F8.keep _ o e
  · rintro i v m₁ nx I io h9 tk9 hv ⟨ia', vi, ei, tail, rfl, hvi, htail, rfl⟩ hI1 hI2 F8 N8
    obtain ⟨a, b, t, ta, tb, hab, rfl, ht⟩ := hprs.get hv
    have ht' := ht.keeps hst
    clear F9 N9
    change Fr s0.heap L' h9 _ at F8
    change News s0.heap L' h9 _ at N8
    k_unmd
    refine unpackN_ F8 N8 (ht'.keeps F8.keep) hh' rfl rfl ?_
    intro h10 F7 N7
    clear F8 N8
    k_steps
    refine Stop.mk ?_
    rename Fr _ _ _ _ => F6
    rename News _ _ _ _ => N6
    refine Pure.use (bl_int C s0.heap pa a _ pv ps hp' hps (by omega) (geP ps a) geP_eq (geP_mono hsort)) B' F6 X' T' hA' hf' hk' hh' N6 F6.keep (by simp only [depth_deeper]; omega) (by simp only [units_deeper]; omega) ?_
    rintro r hp4 tk4 F4 N4 hs4 ⟨p1, t1, rfl, hp1, -, hlt1, hge1⟩
    clear F6 N6 hs4
    k_steps
    refine Stop.mk ?_
    rename Fr _ _ _ _ => F6
    rename News _ _ _ _ => N6
    have hab2 : a ≤ b := hle _ (List.mem_of_getElem? hab)
    refine Pure.use (bl_intg C s0.heap pa b _ _ pv ps hp' hps (by omega) (geP ps b) geP_eq (geP_mono hsort) p1 hp1 (fun i hi => geP_false (by omega) (hlt1 i hi))) B' F6 X' T' hA' hf' hk' hh' N6 F6.keep (by simp only [depth_deeper]; omega) (by simp only [units_deeper]; omega) ?_
    rintro r hp5 tk5 F5 N5 hs5 ⟨p2, t2, rfl, hp2, hp12, hlt2, hge2⟩
    clear F6 N6 hs5
    k_steps
    rename Fr _ _ _ _ => F6
    rename News _ _ _ _ => N6
    rename (IntsAre _ (List.take _ (List.drop _ ps))) => hws
    have hsl := slice_filter hp2 hp12 hlt1 hge1 hlt2 hge2
    simp only [Int.toNat_natCast] at hws
    rw [hsl] at hws
    have hb1 := insideOf_length ps (sp.take i)
    have hb2 := List.length_take_le i sp
    have hb3 := List.length_filter_le (fun p => decide ((a : Int) ≤ p) && decide (p < (b : Int))) ps
    have hb4 : (sp.take i).length * ps.length ≤ 20 * 20 := Nat.mul_le_mul (by rw [List.length_take]; omega) (by omega)
    refine add_ints_D F6 N6 (News.isList N6 (List.mem_cons_of_mem _ (List.mem_cons_of_mem _ (List.mem_cons_self ..)))) (News.isList N6 (List.mem_cons_self ..)) hvi hws (by rw [sizeLine_eq]; omega) ?_
    intro D h11 F5 N5 hlt5 hcat
    have hIlt : I < D := hlt5 (I, io) (List.mem_cons_of_mem _ (List.mem_cons_self ..))
    clear hlt5
    have htk : insideOf ps (sp.take (i + 1)) = insideOf ps (sp.take i) ++ ps.filter (fun p => decide ((a : Int) ≤ p) && decide (p < (b : Int))) := by
      rw [List.take_add_one, hab, insideOf_append]; simp [insideOf]
    clear F6 N6
    k_steps
    rename Fr _ _ _ _ => F7
    rename News _ _ _ _ => N7
    simp only [mOf_app] at F7
    refine LstPost.intro F7 N7 [(D, W.listOf (List.toArray (vi ++ _)) 0)] (List.mem_cons_of_mem _ (List.mem_cons_of_mem _ (List.mem_cons_self ..))) (fun p hp => ?_) (fun p hp => ?_) (Exists.intro D ⟨_, 0, [_, _, _], rfl, by rw [htk]; exact hcat, .inr ⟨.int a ta, .int b tb, .int p1 t1, rfl⟩, ?_⟩)
    · simp only [List.mem_cons, List.not_mem_nil, or_false] at hp
      subst hp
      exact List.mem_cons_self ..
    · simp only [List.mem_cons, List.not_mem_nil, or_false] at hp
      subst hp
      exact Nat.ne_of_gt hIlt
    · rcases htail with rfl | ⟨_, _, _, rfl⟩ <;>
      · refine mOf_extB kIns ?_ ?_ (all_cons ?_ (all_cons ?_ (all_cons ?_ (all_cons ?_ (all_cons ?_ (all_cons ?_ all_nil)))))) <;> rfl
  · rintro h9 tk9 m₁ nx ⟨ia', vi, ei, tail, rfl, hvi, htail, rfl⟩ F8 N8
    clear F9 N9
    rw [hprs.length, List.take_length] at hvi
    change Fr s0.heap L' h9 _ at F8
    change News s0.heap L' h9 _ at N8
    k_steps
    have n1 := N8 _ (List.mem_cons_self ..)
    exact hq _ _ _ F8.keep ⟨ia', rfl, n1.2.2, vi, ei, hvi, n1.1⟩
end Mine
namespace Mine
theorem topOff14 : True := by w_top off; trivial
local macro_rules | `(tactic| walk_at "exec While Compare cons nil") => `(tactic| refine Stop.out ?_)
local macro_rules | `(tactic| walk_at "subscriptTail") => `(tactic| refine item_w ?_)
local macro_rules | `(tactic| walk_at "call builtin:len") => `(tactic| first | refine len_one ?_ | refine len_three ?_)
inductive Tr where
  | leaf (ps : List Int)
  | node (ps : List Int) (l r : Tr)
noncomputable def Tr.part : Tr → List Int
  | .leaf ps => ps
  | .node ps _ _ => ps
noncomputable def Tr.size : Tr → Nat
  | .leaf _ => 0
  | .node _ l r => l.size + r.size + 1
def ListInts (H : Heap) (pa : Addr) (ps : List Int) : Prop := ∃ pv, H.IsList pa (List.toArray pv) ∧ IntsAre pv ps
noncomputable def TreeAt (H : Heap) : Tr → Addr → Prop
  | .leaf ps, a => ∃ pa, H.IsList a [Value.ref pa].toArray ∧ ListInts H pa ps
  | .node ps l r, a => ∃ pa la ra, H.IsList a [Value.ref pa, .ref la, .ref ra].toArray ∧ ListInts H pa ps ∧ TreeAt H l la ∧ TreeAt H r ra
def PartOk (ps : List Int) : Prop := ps.length < 20 ∧ ps.Pairwise (· < ·)
noncomputable def Tr.Good : Tr → Prop
  | .leaf ps => PartOk ps
  | .node ps l r => PartOk ps ∧ l.Good ∧ r.Good
noncomputable def pickOf (sp : List (Nat × Nat)) : Tr → Nat → Int
  | .leaf ps, w => (insideOf ps sp).getD w 0
  | .node _ l r, w => if w < (insideOf l.part sp).length then pickOf sp l w else pickOf sp r (w - (insideOf l.part sp).length)
noncomputable def PickOk (sp : List (Nat × Nat)) : Tr → Nat → Prop
  | .leaf ps, w => w < (insideOf ps sp).length
  | .node _ l r, w => if w < (insideOf l.part sp).length then PickOk sp l w else PickOk sp r (w - (insideOf l.part sp).length)
theorem ListInts.keeps {h h' : Heap} {a : Addr} {ps : List Int} (x : ListInts h a ps) (k : h.StaysIn h') : ListInts h' a ps := let ⟨pv, h1, h2⟩ := x; ⟨pv, h1.at fun o e => k _ o e, h2⟩
theorem TreeAt.keeps {h h' : Heap} (k : h.StaysIn h') : ∀ {t : Tr} {a : Addr}, TreeAt h t a → TreeAt h' t a
  | .leaf _, _, ⟨pa, h1, h2⟩ => ⟨pa, h1.at fun o e => k _ o e, h2.keeps k⟩
  | .node _ _ _, _, ⟨pa, la, ra, h1, h2, h3, h4⟩ => ⟨pa, la, ra, h1.at fun o e => k _ o e, h2.keeps k, TreeAt.keeps k h3, TreeAt.keeps k h4⟩
theorem Tr.Good.part {t : Tr} (h : t.Good) : PartOk t.part := by cases t; exact h; exact h.1
theorem SpansAt.keeps {h h' : Heap} {sa : Addr} {sp : List (Nat × Nat)} (x : SpansAt h sa sp) (k : h.StaysIn h') : SpansAt h' sa sp := by
  obtain ⟨sv, h1, h2⟩ := x
  refine ⟨sv, h1.at fun o e => k _ o e, ?_⟩
  clear h1
  induction sv generalizing sp with
  | nil => cases sp with
    | nil => trivial
    | cons ab sp => exact h2.elim
  | cons v vs ih => cases sp with
    | nil => exact h2.elim
    | cons ab sp =>
      obtain ⟨a, b⟩ := ab
      obtain ⟨⟨t, ta, tb, e, ht⟩, hr⟩ := h2
      exact ⟨⟨t, ta, tb, e, ht.keeps k⟩, ih hr⟩
theorem TreeAt.head {h : Heap} : ∀ {t : Tr} {a : Addr}, TreeAt h t a → ∃ pa tl, h.IsList a (Value.ref pa :: tl).toArray ∧ ListInts h pa t.part
  | .leaf _, _, ⟨pa, h1, h2⟩ => ⟨pa, _, h1, h2⟩
  | .node _ _ _, _, ⟨pa, _, _, h1, h2, _, _⟩ => ⟨pa, _, h1, h2⟩
noncomputable abbrev mPck (a sa : Addr) (w : Nat) (tw : Tok) (tail : List (Str × Value)) : List (Str × Value) :=
  [(Str.ofString "tree", .ref a), (Str.ofString "spans", .ref sa), (Str.ofString "wish", .int w tw)] ++ tail
noncomputable abbrev kPck : List Str := [Str.ofString "tree", Str.ofString "spans", Str.ofString "wish", Str.ofString "count"]
def pckTail (tail : List (Str × Value)) : Prop := tail = [] ∨ ∃ u, tail = [(Str.ofString "count", u)]
/-- between two turns of _law_pick's loop -/
def pckJ (h : Heap) (sa : Addr) (sp : List (Nat × Nat)) (t : Tr) (w : Nat) (n : Nat) (m₁ : Str → Option Value) (news₁ : List (Addr × Obj)) : Prop :=
  ∃ t' a' w' tw' tail, pckTail tail ∧ TreeAt h t' a' ∧ t'.Good ∧ PickOk sp t' w' ∧ pickOf sp t' w' = pickOf sp t w ∧ n = t'.size ∧ news₁ = [] ∧ m₁ = mOf (mPck a' sa w' tw' tail)
set_option maxHeartbeats 4000000 in
theorem pick_spec (C : Cx) (H : Heap) (a sa : Addr) (t : Tr) (w : Nat) (tw : Tok) (sp : List (Nat × Nat)) (ht : TreeAt H t a) (hg : t.Good) (hok : PickOk sp t w)
    (hsp : SpansAt H sa sp) (hle : ∀ ab ∈ sp, ab.1 ≤ ab.2) (hsl : sp.length < 20) :
    Pure C 6 40 H (.ref 83) [.ref a, .ref sa, .int w tw] []
      (fun _ _ r' => ∃ tk, r' = .int (pickOf sp t w) tk) := by
  intro A A₀ env outer base h₀ L m s0 Q E S hst hd hu hq
  have X0 := S.X
  revert X0; k_fill; intro X0
  k_dflt (refine' enter S [(Str.ofString "tree", .ref a), (Str.ofString "spans", .ref sa), (Str.ofString "wish", .int w tw)] ?k6 ?k7 ?k8 ?k9 ?kB ?c5 ?c2 ?c3 ?c4 ?_; (case k6 => k_is); (case k7 => k_is); (case k8 => omega); (case k9 => exact BindsTo.of_eq rfl); (case c5 => decide); (case kB => exact locs rfl); (case c2 => exact rfl); (case c3 => exact rfl); (case c4 => exact rfl); k_whole)
  intro L' h₁ S'
  have ht' : TreeAt s0.heap t a := ht.keeps hst
  have hsp' := hsp.keeps hst
  obtain ⟨B', F', X', T', hA', hf', hk', hh'⟩ := S'
  have N' : News s0.heap L' h₁ [] := News.nil
  clear X0 S
  dsimp only at F'
  k_unmd
  k_fold
  k_steps
  refine Stop.mk ?_
  rename Fr _ _ _ _ => F9
  refine While_inv (pckJ s0.heap sa sp t w) F9 News.nil (n₀ := t.size) ?_ ?_ PassesOwn.never
  · refine Exists.intro t ⟨a, w, tw, [], .inl rfl, ht', hg, hok, rfl, rfl, rfl, ?_⟩
    refine mOf_extB kPck ?_ ?_ (all_cons ?_ (all_cons ?_ (all_cons ?_ (all_cons ?_ all_nil)))) <;> rfl
  · rintro n m₁ news₁ h₂ tk₂ F2 N2 ⟨t', a', w', tw', tail, htail, htr, hgd, hpk, hpe, rfl, rfl, rfl⟩
    clear F9
    cases t' with
    | leaf ps =>
      obtain ⟨pa, hla, pv, hpv, hps⟩ := htr
      k_steps
      refine Stop.mk ?_
      rename Fr _ _ _ _ => F6
      rename News _ _ _ _ => N6
      refine Pure.use (inside_spec C s0.heap pa sa pv ps sp hpv hps hgd.1 hgd.2 hsp' hle hsl) B' F6 X' T' hA' hf' hk' hh' N6 F6.keep (by simp only [depth_deeper]; omega) (by simp only [units_deeper]; omega) ?_
      rintro r hp4 tk4 F4 N4 hs4 ⟨ra, rfl, hra, vi, ei, hvi, hri⟩
      have N4 := news_add F6 N4 hra hri
      clear F6 N6 hs4
      k_steps
      have hwk : w' < (insideOf ps sp).length := hpk
      have hbl := insideOf_length ps sp
      have hb4 : sp.length * ps.length ≤ 20 * 20 := Nat.mul_le_mul (by omega) (Nat.le_of_lt hgd.1)
      refine item_list_ints (News.isList N4 (List.mem_cons_self ..)) hvi (by omega) (by omega) (by omega) ?_
      intro t9
      refine hq _ _ _ F4.keep ⟨t9, ?_⟩
      rw [← hpe]
      rfl
    | node ps l r =>
      obtain ⟨pa, la, ra, hla, hpa, hl, hr⟩ := htr
      have hwr : ∀ (sW : Shared) (h' : Heap) (tk' : Nat) (m' : List (Str × Value)) (t' : Tr) (a1 : Addr) (w1 : Nat), Fr s0.heap L' h' (mOf m') → TreeAt s0.heap t' a1 → t'.Good → PickOk sp t' w1 → pickOf sp t' w1 = pickOf sp t w → t'.size < (Tr.node ps l r).size →
          (∃ tw' v, mOf m' = mOf (mPck a1 sa w1 tw' [(Str.ofString "count", v)])) →
          WhileStep s0.heap L' sW (pckJ s0.heap sa sp t w) (Tr.node ps l r).size .next { sW with heap := h', toks := tk' } := by
        rintro sW h' tk' m' t' a1 w1 F b1 b2 b3 b4 b5 ⟨tw', v, e⟩
        exact WhileStep.intro F News.nil b5 (Exists.intro t' ⟨a1, w1, tw', _, .inr ⟨v, rfl⟩, b1, b2, b3, b4, rfl, rfl, e⟩)
      obtain ⟨pl, tl, hll, plv, hplv, hpls⟩ := hl.head
      k_steps
      refine Stop.mk ?_
      rename Fr _ _ _ _ => F6
      rename News _ _ _ _ => N6
      refine Pure.use (inside_spec C s0.heap pl sa plv l.part sp hplv hpls hgd.2.1.part.1 hgd.2.1.part.2 hsp' hle hsl) B' F6 X' T' hA' hf' hk' hh' N6 F6.keep (by simp only [depth_deeper]; omega) (by simp only [units_deeper]; omega) ?_
      rintro r' hp4 tk4 F4 N4 hs4 ⟨rr, rfl, hra, vi, ei, hvi, hri⟩
      have N4 := news_add F6 N4 hra hri
      clear F6 N6 hs4
      k_steps
      have hbl := insideOf_length l.part sp
      have hb4 : sp.length * l.part.length ≤ 20 * 20 := Nat.mul_le_mul (by omega) (Nat.le_of_lt hgd.2.1.part.1)
      refine len_ints_fit (News.isList N4 (List.mem_cons_self ..)) hvi (by omega) ?_
      k_steps
      all_goals (
        rename Fr _ _ _ _ => F5
        simp only [mOf_app] at F5)
      · have hlt : w' < (insideOf l.part sp).length := by omega
        have hpk' : PickOk sp l w' := by simpa only [PickOk, if_pos hlt] using hpk
        have hpe' : pickOf sp l w' = pickOf sp t w := by simpa only [pickOf, if_pos hlt] using hpe
        refine hwr _ _ _ _ l la w' F5 hl hgd.2.1 hpk' hpe' (by simp only [Tr.size]; omega) ?_
        rcases htail with rfl | ⟨_, rfl⟩ <;>
        · exact ⟨_, _, mOf_extB kPck rfl rfl (all_cons rfl (all_cons rfl (all_cons rfl (all_cons rfl all_nil))))⟩
      · have hge : ¬ w' < (insideOf l.part sp).length := by omega
        have hpk' : PickOk sp r (w' - (insideOf l.part sp).length) := by simpa only [PickOk, if_neg hge] using hpk
        have hpe' : pickOf sp r (w' - (insideOf l.part sp).length) = pickOf sp t w := by simpa only [pickOf, if_neg hge] using hpe
        have hsub : (w' : Int) - ((insideOf l.part sp).length : Int) = ((w' - (insideOf l.part sp).length : Nat) : Int) := by omega
        rw [hsub] at F5
        refine hwr _ _ _ _ r ra _ F5 hr hgd.2.2 hpk' hpe' (by simp only [Tr.size]; omega) ?_
        rcases htail with rfl | ⟨_, rfl⟩ <;>
        · exact ⟨_, _, mOf_extB kPck rfl rfl (all_cons rfl (all_cons rfl (all_cons rfl (all_cons rfl all_nil))))⟩
end Mine
namespace Mine
theorem topOff15 : True := by w_top off; trivial
set_option maxHeartbeats 4000000 in
theorem insort_spec (C : Cx) {A A₀ : Around} {env : Env} {outer : List Env} {base h₀ : Heap} {L : Addr} {m : Str → Option Value} {s0 : Shared} {Q E : Value → Shared → Prop}
    (S : Site C A A₀ env outer base h₀ L m s0) (ra fa : Addr) (rv : List Value) (re : Nat) (hN : News h₀ L s0.heap [(ra, W.listOf rv.toArray re)]) (ns : List Int) (hns : IntsAre rv ns) (hlen : ns.length < 100)
    (x : Int) (tx : Tok) (d u : Nat) (dom : Int → Prop) (hdom : ∀ n ∈ ns, dom n) (hx : dom x) (Kf : Int → UInt64) (H : Heap) (key : KeyOk C d u H fa dom Kf) (hH : H.StaysIn (hideAll s0.heap [ra]))
    (P : Nat → Bool) (hP : ∀ i (hi : i < ns.length), P i = (Float64.cmp (Kf x) (Kf ns[i]) == some Ordering.lt)) (hmono : ∀ i j, i ≤ j → j < ns.length → P i = true → P j = true)
    (hd : A.depth + (d + 4) < recursionLimit) (hu : A.units + (u + 20) < cLine)
    (hq : ∀ h' tk' p re', (∀ b o, b ≠ ra → s0.heap.get? b = some o → h'.get? b = some o) → h'.get? ra = some (W.listOf (rv.take p ++ [Value.int x tx] ++ rv.drop p).toArray re') →
      p ≤ ns.length → (∀ i < p, P i = false) → (∀ i, p ≤ i → i < ns.length → P i = true) → Q .none { s0 with heap := h', toks := tk' }) :
    wpAny (model PySem.Challenge.rw_pm0032_01.row.prog C.w) A (call (.ref 30) [.ref ra, .int x tx] [(Str.ofString "key", .ref fa)]) Q E s0 := by
  have X0 := S.X
  have X1 := S.X.keeps S.F.keep
  revert X0 X1; k_fill; intro X0 X1
  k_dflt (refine' enterN S hN [(Str.ofString "a", .ref ra), (Str.ofString "x", .int x tx), (Str.ofString "lo", .int 0 202), (Str.ofString "hi", .none), (Str.ofString "key", .ref fa)] ?k6 ?k7 ?k8 ?k9 ?kB ?c5 ?c2 ?c3 ?c4 ?_; (case k6 => k_is); (case k7 => k_is); (case k8 => omega); (case k9 => exact kp_binds X1 (fun S => by rfl)); (case c5 => decide); (case kB => exact locs rfl); (case c2 => exact rfl); (case c3 => exact rfl); (case c4 => exact rfl); k_whole)
  intro g L' h₁ hg S' N'
  have hHg : H.StaysIn g := by rw [hg]; exact hH
  have hfn : FnAt g fa := key.fn.keeps hHg
  obtain ⟨B', F', X', T', hA', hf', hk', hh'⟩ := S'
  clear X0 X1 S
  dsimp only at F' N'
  k_unmd
  k_steps
  refine callWith_fn hfn ?_
  k_steps
  · rename Fr _ _ _ _ => F6
    exact hfn.keeps F6.keep
  refine Stop.mk ?_
  rename Fr _ _ _ _ => F6
  rename News _ _ _ _ => N6
  refine Pure.use (key.call _ _ hx) B' F6 X' T' hA' hf' hk' hh' N6 (fun b o e => F6.keep b o (hHg b o e)) (by simp only [depth_deeper]; omega) (by simp only [units_deeper]; omega) ?_
  rintro r hp4 tk4 F4 N4 hs4 ⟨t4, rfl⟩
  clear F6 N6 hs4
  k_steps
  refine Stop.mk ?_
  rename Fr _ _ _ _ => F6
  rename News _ _ _ _ => N6
  refine Pure.use (br_keyz C hp4 ra fa (Kf x) _ _ rv ns (News.isList N6 (List.mem_cons_self ..)) hns hlen d u dom hdom Kf (key.mono fun b o e => F6.keep b o (hHg b o e)) P hP hmono) B' F6 X' T' hA' hf' hk' hh' N6 (fun _ _ e => e) (by simp only [depth_deeper]; omega) (by simp only [units_deeper]; omega) ?_
  rintro r hp5 tk5 F5 N5 hs5 ⟨p, t5, rfl, hp, -, hlt, hge⟩
  clear F6 N6 hs5
  k_steps
  rename Fr _ _ _ _ => F6
  rename News _ _ _ _ => N6
  have hrl := hns.length
  have hins : kl_ins (rv.toArray).toList (p : Nat) (Value.int x tx) = rv.take p ++ [Value.int x tx] ++ rv.drop p := by
    have h0 : ¬ ((p : Nat) : Int) < 0 := by omega
    have hm : min ((p : Nat) : Int).toNat rv.toArray.toList.length = p := by simp; omega
    simp only [kl_ins]
    rw [if_neg h0, hm]
    simp
  refine kl_insert F6 N6 (by simp [Builtin.List.listFitsIndex]; omega) hins (Upd.head (fun q hq => nomatch hq)) (by simp; rw [sizeLine_eq]; omega) ?_
  intro h7 F7 N7
  clear F6 N6
  k_steps
  rename Fr _ _ _ _ => F5
  rename News _ _ _ _ => N5
  exact hq _ _ p _ (fun b o hb e => F5.keep b o (by rw [hg]; exact hideAll_get _ e (by simpa using hb))) (N5 _ (List.mem_cons_self ..)).1 hp hlt hge
end Mine
namespace Mine
theorem topOff16 : True := by w_top off; trivial
open PySem.Flt (FloatsAre)
theorem enterC {C : Cx} {A A₀ : Around} {env : Env} {outer : List Env} {base h₀ : Heap} {L : Addr} {m : Str → Option Value} {s : Shared} {Q E : Value → Shared → Prop} {news : List (Addr × Obj)}
    (S : Site C A A₀ env outer base h₀ L m s) (N : News h₀ L s.heap news)
    {name qual : Str} {params : Arguments} {body : List Stmt} {scope : Scope} {dV kV doc pm cdv ct oc : Value} {an od : Option Addr} {osl : Array (Option Value)} {f : Addr} {vs : List Value} {kw : List (Str × Value)} (binds : List (Str × Value))
    (ho : (hd.heap_39 C.w.params).lookup f = some ⟨oc, od, .func (fnOf name qual params body scope dV kV doc pm an cdv ct), osl⟩)
    (hcd : codeIn (hd.heap_39 C.w.params) cdv qual = true) (hroom : A.depth < recursionLimit)
    (hbind : BindsTo s (fnOf name qual params body scope dV kV doc pm an cdv ct) ⟨vs, kw⟩ binds)
    (hkind : (binds.all fun y => scope.names.lookup y.1 == some .local || scope.names.lookup y.1 == some .cell) = true) (hnd : ((cellsFrom 0 scope.names []).map (·.1)).Nodup)
    (hco : scope.isCoroutine = false) (hgen : scope.isGenerator = false) (hk : scope.kind = .function)
    (h : ∀ g L' h₁ tk cells, g = hideAll s.heap (news.map (·.1)) → Site C (A.deeper (envOfC qual scope L' f cdv)) A (envOfC qual scope L' f cdv) (env :: outer) base g L' (bindL (envOfC qual scope L' f cdv).kindOf binds fun _ => none) { s with heap := h₁, toks := tk } → News g L' h₁ (cells ++ news) →
      CellsAre (bindC (envOfC qual scope L' f cdv).kindOf binds fun _ => none) (cellsFrom (L' + 1) scope.names []) cells → (∀ p ∈ news, p.1 < L') →
      wpAny (model PySem.Challenge.rw_pm0032_01.row.prog C.w) (A.deeper (envOfC qual scope L' f cdv)) (execs body (envOfC qual scope L' f cdv))
        (fun fl s' => Q (match fl with | .ret v => v | _ => .none) s') (fun _ _ => False) { s with heap := h₁, toks := tk }) :
    wpAny (model PySem.Challenge.rw_pm0032_01.row.prog C.w) A (call (.ref f) vs kw) Q E s := by
  obtain ⟨B, F, X, T, hA, hf, hke, hh⟩ := S
  obtain ⟨FG, BG, st, _⟩ := groundX (R := fun _ _ => True) B F N hA hf hke
  refine wpAny_call ?_
  refine codeAny_call_function (fd := fnOf name qual params body scope dV kV doc pm an cdv ct) (body := body) hroom ((X.keeps F.keep) _ _ ho) rfl hco hgen rfl (codeRec_of (X.keeps F.keep) hcd) (hbind _ _ _ _ ?_)
  refine wpAny_newFunctionEnv_cells hk (kindsX hkind _) fun env' he s' x => ?_
  subst he
  refine ⟨(T.nolimit.keeps F.keep).keeps x.toInCall.keep, codeAny_func ?_⟩
  obtain ⟨h₁, tk, rfl, _⟩ := x.done
  have hk₁ := x.toInCall.keep
  obtain ⟨cells, NC, Y⟩ := Cl.news (h₀ := s.heap) (Nat.le_refl _) fun n c hm => ⟨x.cell n c (lookup_of_mem_nodup (cellsFrom_names scope.names 0 (s.heap.objs.size + 1) [] [] rfl ▸ hnd) hm), x.above n c hm⟩
  refine wpAny_mono (h _ s.heap.objs.size h₁ tk cells rfl ⟨BG, ⟨x.toInCall.ns, fun b o e => hk₁ b o (of_hideAll _ e), Nat.le_of_eq (hideAll_size _ _)⟩, X.keeps st, T.keeps st, Around.frames_deeper hA, rfl, hk, by first | exact hh | simp [Around.deeper, hh]⟩ (fun p hp => ?_) Y (fun p hp => Heap.lt_size (N p hp).1)) (fun fl s' hl => hl) fun _ _ y => y.elim
  rcases List.mem_append.mp hp with hp | hp
  · refine ⟨(NC p hp).1, (NC p hp).2.1, ?_⟩
    cases q : (hideAll s.heap (news.map (·.1))).get? p.1 with
    | none => rfl
    | some o => have := of_hideAll _ q; rw [(NC p hp).2.2] at this; cases this
  · exact ⟨hk₁ _ _ (N p hp).1, Nat.ne_of_lt (Heap.lt_size (N p hp).1), hideAll_none _ (List.mem_map_of_mem hp)⟩
noncomputable abbrev lamQ : Str := (Str.ofString "_law_tree" ++ ".<locals>.") ++ "<lambda>"
def TabSt (h : Heap) (ps : Array Value) : Prop := ps = #[] ∨ ∃ c', ps = #[rawInt 104, rawInt 36, .ref c'] ∧ h.CodeRec (.ref c') lamQ
noncomputable def mkTree (fs : List UInt64) : Nat → List Int → Int → Tr
  | 0, ps, _ => .leaf ps
  | n + 1, ps, lo => .node ps (mkTree fs n (ps.filter fun p => lePlace (fs.getD p.toNat 0) (lo + 2 ^ n)) lo) (mkTree fs n (ps.filter fun p => !lePlace (fs.getD p.toNat 0) (lo + 2 ^ n)) (lo + 2 ^ n))
def TreeClaim (C : Cx) (n : Nat) : Prop := ∀ {A A₀ : Around} {env : Env} {outer : List Env} {base h₀ : Heap} {L : Addr} {m : Str → Option Value} {s0 : Shared} {Q E : Value → Shared → Prop}
    (_S : Site C A A₀ env outer base h₀ L m s0) (ps64 : Array Value) (_hN : News h₀ L s0.heap [(64, tabObj ps64)]) (_hT : TabSt (hideAll s0.heap [64]) ps64) (_hCH : CodeHd h₀ 68 64)
    (pa vl : Addr) (ps : List Int) (fs : List UInt64) (vv : List Value) (lo hi : Int) (tlo thi : Tok) (_hhi : hi - lo = 2 ^ n) (_hlo : 0 ≤ lo) (_hh8 : hi ≤ 8)
    (_hpa : ListInts (hideAll s0.heap [64]) pa ps) (_hvl : (hideAll s0.heap [64]).IsList vl vv.toArray) (_hfs : FloatsAre vv fs) (_hdom : ∀ p ∈ ps, 0 ≤ p ∧ p < fs.length) (_hpl : ps.length < 20) (_hfl : fs.length < 100)
    (_hd : A.depth + (10 + n) < recursionLimit) (_hu : A.units + (40 + 10 * n) < cLine)
    (_hq : ∀ a h' tk' ps', (∀ b o, b ≠ 64 → s0.heap.get? b = some o → h'.get? b = some o) → h'.get? 64 = some (tabObj ps') → TabSt (hideAll h' [64]) ps' → s0.heap.get? a = none →
      TreeAt (hideAll h' [64]) (mkTree fs n ps lo) a → Q (.ref a) { s0 with heap := h', toks := tk' }),
    wpAny (model PySem.Challenge.rw_pm0032_01.row.prog C.w) A (call (.ref 69) [.ref pa, .ref vl, .int lo tlo, .int hi thi] []) Q E s0
theorem hide64 {h : Heap} {b : Addr} {o : Obj} (e : h.get? b = some o) (hb : b ≠ 64) : (hideAll h [64]).get? b = some o := hideAll_get _ e (by simpa using hb)
theorem hide64_stays {h h' : Heap} (k : ∀ b o, b ≠ 64 → h.get? b = some o → h'.get? b = some o) : (hideAll h [64]).StaysIn (hideAll h' [64]) := fun b o e => by
  have hb : b ≠ 64 := fun q => by have := hideAll_none [64] (h := h) (b := b) (by simpa using q); rw [this] at e; cases e
  exact hide64 (k b o hb (of_hideAll _ e)) hb
theorem TabSt.keeps {h h' : Heap} {ps : Array Value} (x : TabSt h ps) (k : h.StaysIn h') : TabSt h' ps := x.imp id fun ⟨c', e, r⟩ => ⟨c', e, r.keeps k⟩
theorem fr_but {g h h' : Heap} {L P : Addr} {m : Str → Option Value} (F : Fr g L h m) (k : ∀ b o, b ≠ P → h.get? b = some o → h'.get? b = some o) (h0 : g.get? P = none) (hL : L ≠ P) : Fr g L h' m :=
  ⟨F.ns.at' fun o e => k _ o hL e, fun b o e => k b o (fun q => by rw [q, h0] at e; cases e) (F.keep b o e), F.above⟩
theorem news_but {g h h' : Heap} {L P : Addr} {news : List (Addr × Obj)} (N : News g L h news) (k : ∀ b o, b ≠ P → h.get? b = some o → h'.get? b = some o) (ho : ∀ p ∈ news, p.1 ≠ P) : News g L h' news :=
  fun p hp => ⟨k _ _ (ho p hp) (N p hp).1, (N p hp).2⟩
theorem codeRec_hide {h : Heap} {c' : Addr} {q : Str} {a b : Int} {x : Value} (r : h.CodeRec (.ref c') q) (h64 : h.get? 64 = some (tabObj #[rawInt a, rawInt b, x])) : (hideAll h [64]).CodeRec (.ref c') q := by
  obtain ⟨c, o, vs, t, e, ho, hd, hv⟩ := r
  cases e
  have hne : c' ≠ 64 := by
    intro e
    rw [e, h64] at ho
    cases ho
    cases hd
    simp [rawInt] at hv
  exact ⟨c', o, vs, t, rfl, hide64 ho hne, hd, hv⟩
set_option maxHeartbeats 4000000 in
theorem tree_zero (C : Cx) : TreeClaim C 0 := by
  intro A A₀ env outer base h₀ L m s0 Q E S ps64 hN hT hCH pa vl ps fs vv lo hi tlo thi hhi hlo hh8 hpa hvl hfs hdom hpl hfl hd hu hq
  have h1 : hi - lo = 1 := hhi
  have X0 := S.X
  revert X0; k_fill; intro X0
  k_dflt (refine' enterC S hN [(Str.ofString "part", .ref pa), (Str.ofString "values", .ref vl), (Str.ofString "low", .int lo tlo), (Str.ofString "high", .int hi thi)] ?k6 ?k7 ?k8 ?k9 ?kB ?kD ?c2 ?c3 ?c4 ?_; (case k6 => k_is); (case k7 => k_is); (case k8 => omega); (case k9 => exact BindsTo.of_eq rfl); (case kB => exact rfl); (case kD => decide +kernel); (case c2 => exact rfl); (case c3 => exact rfl); (case c4 => exact rfl); k_whole)
  intro g L' h₁ tk cells hg S' N' Y' l1
  have l64 : @LT.lt Nat _ 64 L' := l1 (64, _) (List.mem_cons_self ..)
  have h64 : s0.heap.get? 64 = some (tabObj ps64) := (hN _ (List.mem_cons_self ..)).1
  obtain ⟨o1, o2, rfl, d1, d2⟩ := CellsAre.two Y'
  clear Y' l1
  obtain ⟨B', F', X', T', hA', hf', hk', hh'⟩ := S'
  clear X0 S
  simp only [List.cons_append, List.nil_append] at N'
  dsimp only at F' N'
  k_unmd
  k_steps
  all_goals (try (exfalso; omega))
  rename Fr _ _ _ _ => F7
  rename News _ _ _ (_ :: _ :: _ :: _ :: _) => N7
  have n1 := N7 _ (List.mem_cons_self ..)
  have n4 := N7 _ (List.mem_cons_of_mem _ (List.mem_cons_of_mem _ (List.mem_cons_of_mem _ (List.mem_cons_self ..))))
  have hkeep : ∀ b o, b ≠ 64 → s0.heap.get? b = some o → _ := fun b o hb e => F7.keep b o (by rw [hg]; exact hide64 e hb)
  have ha64 : ∀ {a : Addr} {its : Array Value} {n : Nat}, _ = some (W.listOf its n) → a ≠ 64 := fun {a its n} (e : Heap.get? _ a = _) q => by rw [q, n4.1] at e; cases e
  have hst := hide64_stays hkeep
  refine hq _ _ _ ps64 hkeep n4.1 (hT.keeps hst) ?_ ⟨pa, ⟨_, hide64 n1.1 (ha64 n1.1), rfl, _, rfl⟩, hpa.keeps hst⟩
  cases q : s0.heap.get? _ with
  | none => rfl
  | some o =>
    have t1 := hide64 q (ha64 n1.1)
    have hg' : g = hideAll s0.heap [64] := hg
    rw [← hg'] at t1
    exact absurd (t1.symm.trans n1.2.2) (by simp)
theorem newList_S {M : Model} {A : Around} {E : Value → Shared → Prop} {s : Shared} {h₀ : Heap} {L : Addr} {m : Str → Option Value} {news : List (Addr × Obj)} {vs : List Value} {Q : Value → Shared → Prop} (F : Fr h₀ L s.heap m) (N : News h₀ L s.heap news)
    (h : ∀ l h', Fr h₀ L h' m → News h₀ L h' ((l, W.listOf vs.toArray 0) :: news) → s.heap.get? l = none → s.heap.StaysIn h' → Q (.ref l) { s with heap := h' }) (hsz : vs.length ≤ sizeLine) : wpAny M A (newList vs) Q E s :=
  wpAny_newObj_type (h _ _ (F.push _) (N.push F _) (Heap.get?_none_of_le (Nat.le_refl _)) fun _ _ e => Heap.get?_push_of_some _ e) (by show vs.toArray.size ≤ sizeLine; rw [List.size_toArray]; exact hsz)
local macro_rules | `(tactic| walk_at "newList") => `(tactic| refine Stop.out ?_)
set_option maxHeartbeats 4000000 in
theorem tree_succ (C : Cx) (n : Nat) (IH : TreeClaim C n) : TreeClaim C (n + 1) := by
  intro A A₀ env outer base h₀ L m s0 Q E S ps64 hN hT hCH pa vl ps fs vv lo hi tlo thi hhi hlo hh8 hpa hvl hfs hdom hpl hfl hd hu hq
  have hp2 : (2 : Int) ^ (n + 1) = 2 * 2 ^ n := by rw [Int.pow_succ]; omega
  have hp1 : (1 : Int) ≤ 2 ^ n := Int.pow_pos (by decide)
  have hmid : (lo + hi).fdiv 2 = lo + 2 ^ n := by rw [Int.fdiv_eq_ediv_of_nonneg _ (by decide)]; omega
  have hne : ¬ hi - lo = 1 := by omega
  have X0 := S.X
  revert X0; k_fill; intro X0
  k_dflt (refine' enterC S hN [(Str.ofString "part", .ref pa), (Str.ofString "values", .ref vl), (Str.ofString "low", .int lo tlo), (Str.ofString "high", .int hi thi)] ?k6 ?k7 ?k8 ?k9 ?kB ?kD ?c2 ?c3 ?c4 ?_; (case k6 => k_is); (case k7 => k_is); (case k8 => omega); (case k9 => exact BindsTo.of_eq rfl); (case kB => exact rfl); (case kD => decide +kernel); (case c2 => exact rfl); (case c3 => exact rfl); (case c4 => exact rfl); k_whole)
  intro g L' h₁ tk cells hg S' N' Y' l1
  have hg' : g = hideAll s0.heap [64] := hg
  have l64 : @LT.lt Nat _ 64 L' := l1 (64, _) (List.mem_cons_self ..)
  have h64 : s0.heap.get? 64 = some (tabObj ps64) := (hN _ (List.mem_cons_self ..)).1
  have hCH' : CodeHd g 68 64 := by
    rw [hg]
    exact hCH.keeps fun b o e => hideAll_get _ (S.F.keep b o e) (fun hm => by simp at hm; subst hm; have := (hN _ (List.mem_cons_self ..)).2.2; rw [this] at e; cases e)
  obtain ⟨o1, o2, rfl, d1, d2⟩ := CellsAre.two Y'
  clear Y' l1
  have d2' : o2.data = .cell (some (.ref vl)) := d2
  have d1' : o1.data = .cell none := d1
  clear d1 d2
  obtain ⟨B', F', X', T', hA', hf', hk', hh'⟩ := S'
  clear X0 S
  simp only [List.cons_append, List.nil_append] at N'
  dsimp only at F' N'
  have F' : Fr g L' h₁ (mOf [(Str.ofString "high", .int hi thi), (Str.ofString "low", .int lo tlo), (Str.ofString "part", .ref pa)]) := by
    with_unfolding_all exact F'
  k_unmd
  k_steps
  · exfalso; omega
  rename (Obj.data _ = Data.cell (some (Value.int _ _))) => dm
  rw [hmid] at dm
  rename Obj => om
  rename Fr _ _ _ _ => F7
  rename News _ _ _ _ => N7
  have hTg : TabSt g ps64 := by rw [hg']; exact hT
  have k1 : @Ne Nat (L' + 1 + 1) 64 := by omega
  have k2 : @Ne Nat (L' + 1) 64 := by omega
  refine kla_eval rfl ?_
  refine lam_make F7 N7 T' hCH' rfl (UpdF.tail k1 (UpdF.tail k2 (UpdF.head (fun q hq => nomatch hq)))) (by rcases hTg with rfl | ⟨c', rfl, _⟩ <;> simp [TriplesOk, rawInt])
    (by
      rcases hTg with rfl | ⟨c', rfl, hr⟩
      · exact .inl rfl
      · exact .inr ⟨c', by rfl, fun h' m' F _ => hr.keeps F.keep⟩) rfl ?_
  intro f c' ctv h8 tk8 ps8 nx F8 N8 hsub hrec hlt8 hps8
  have hps : ps8 = #[rawInt 104, rawInt 36, .ref c'] := by
    rcases hTg with rfl | ⟨c0, rfl, hr⟩
    · rcases hps8 with ⟨_, e⟩ | ⟨_, e, _⟩
      · cases e
      · rw [e]; rfl
    · rcases hps8 with ⟨e, e2⟩ | ⟨e, _⟩
      · rw [e]
        have e3 : some (Value.ref c0) = some (Value.ref c') := e2
        cases e3; rfl
      · have e3 : some (Value.ref c0) = none := e
        cases e3
  subst hps
  have hfo := (N8 _ (List.mem_cons_self ..)).1
  dsimp only at hfo
  obtain ⟨own, hown64, hCR, N9⟩ : ∃ own, (∀ p ∈ own, p.1 ≠ 64) ∧ (∀ h' m', Fr g L' h' m' → News g L' h' own → h'.CodeRec (.ref c') lamQ) ∧
      News g L' h8 ((L' + 1 + 1, om) :: (L' + 1, o2) :: (64, tabObj #[rawInt 104, rawInt 36, .ref c']) :: own) := by
    have N9 : News g L' h8 [(L' + 1 + 1, om), (L' + 1, o2), (64, tabObj #[rawInt 104, rawInt 36, .ref c'])] := fun p hp => N8 p (List.mem_cons_of_mem _ (hsub p hp))
    rcases hps8 with ⟨_, hhit⟩ | ⟨_, _, oc, hoc, vs, t, hd1, hd2⟩
    · refine ⟨[], (fun p hp => nomatch hp), (fun h' m' F _ => ?_), N9⟩
      rcases hTg with e | ⟨c0, e, hr⟩
      · rw [e] at hhit; cases hhit
      · rw [e] at hhit
        have e3 : some (Value.ref c0) = some (Value.ref c') := hhit
        cases e3
        exact hr.keeps F.keep
    · refine ⟨[(c', oc)], (fun p hp => ?_), (fun h' m' _ N => ⟨c', oc, vs, t, rfl, (N _ (List.mem_cons_self ..)).1, hd1, hd2⟩), fun p hp => ?_⟩
      · rw [List.mem_singleton] at hp
        subst hp
        intro (e : c' = 64)
        have z := (N8 _ (List.mem_cons_of_mem _ hoc)).1
        have z2 := (N9 _ (List.mem_cons_of_mem _ (List.mem_cons_of_mem _ (List.mem_cons_self ..)))).1
        dsimp only at z z2
        rw [e, z2] at z
        cases z
        cases hd1
        simp [rawInt] at hd2
      · exact all_in N9 (by k_mem) (all_in N9 (by k_mem) (all_in N9 (by k_mem) (all_cons (N8 _ (List.mem_cons_of_mem _ hoc)) all_nil))) p hp
  clear N8 N7 F7 hsub hps8 hlt8
  k_steps
  refine Stop.mk ?_
  rename Fr _ _ _ _ => F7
  have hgl : ∀ {l : Addr} {its : Array Value}, (hideAll s0.heap [64]).IsList l its → g.IsList l its := fun x => by rw [hg']; exact x
  have hvl8 : h8.IsList vl vv.toArray := (hgl hvl).at fun o e => F7.keep _ o e
  obtain ⟨pv, hpv, hpi⟩ := hpa
  have hpv8 : h8.IsList pa pv.toArray := (hgl hpv).at fun o e => F7.keep _ o e
  have hPred := pred_place C h8 f _ _ vl c' _ o2 _ _ _ _ _ _ _ _ _ _ _ _ fs vv (lo + 2 ^ n) _ hfo hrec (N9 _ (List.mem_cons_self ..)).1 dm (N9 _ (List.mem_cons_of_mem _ (List.mem_cons_self ..))).1 d2' hvl8 hfs (by omega)
  refine Pure.use (split_spec C h8 pa f pv ps hpv8 hpi (by omega) 2 10 _ (fun x hx => ⟨(hdom x hx).1, (hdom x hx).2, by have := (hdom x hx).2; omega⟩) _ hPred) B' F7 X' T' hA' hf' hk' hh' N9 (fun _ _ e => e) (by simp only [depth_deeper]; omega) (by simp only [units_deeper]; omega) ?_
  rintro r h10 tk10 F10 N10 hs10 ⟨sa, sy, sn, rfl, hsa0, hsa, ⟨hsy0, vy, ey, hvy, hsy⟩, ⟨hsn0, vn, en, hvn, hsn⟩⟩
  have N10 := news_add F7 (news_add F7 (news_add F7 N10 hsn0 hsn) hsy0 hsy) hsa0 hsa
  have hy64 : sy ≠ 64 := fun e => by rw [e, (N9 _ (List.mem_cons_of_mem _ (List.mem_cons_of_mem _ (List.mem_cons_self ..)))).1] at hsy0; cases hsy0
  have hn64 : sn ≠ 64 := fun e => by rw [e, (N9 _ (List.mem_cons_of_mem _ (List.mem_cons_of_mem _ (List.mem_cons_self ..)))).1] at hsn0; cases hsn0
  clear N9 F7 hPred hvl8 hpv8 hrec hfo hs10
  refine unpackN_ F10 N10 (News.isTup N10 (List.mem_cons_self ..)) hh' rfl rfl ?_
  intro h11 F11 N11
  clear F10 N10
  k_steps
  refine Stop.mk ?_
  rename Fr _ _ _ _ => F12
  rename News _ _ _ _ => N12
  have g64 : g.get? 64 = none := by rw [hg']; exact hideAll_none _ (by simp)
  have hL64 : L' ≠ 64 := Nat.ne_of_gt l64
  have gst : ∀ {h : Heap} {m' : Str → Option Value}, Fr g L' h m' → g.StaysIn (hideAll h [64]) := fun F b o e => hide64 (F.keep b o e) (fun q => by rw [q, g64] at e; cases e)
  have hgv : g.IsList vl vv.toArray := by rw [hg']; exact hvl
  refine IH ⟨B', F12, X', T', hA', hf', hk', hh'⟩ _ (all_cons (N12 _ (by k_mem)) all_nil) (.inr ⟨c', rfl, codeRec_hide (hCR _ _ F12 fun p hp => N12 p (by repeat (first | exact hp | refine List.mem_cons_of_mem _ ?_))) (N12 (64, tabObj #[rawInt 104, rawInt 36, .ref c']) (by k_mem)).1⟩) hCH' sy vl _ fs vv lo (lo + 2 ^ n) _ _ (by omega) hlo (by omega)
    ⟨vy, ⟨_, hide64 (N12 (sy, W.listOf vy.toArray ey) (by k_mem)).1 hy64, rfl, _, rfl⟩, hvy⟩ (hgv.at fun o e => gst F12 _ o e) hfs (fun p hp => hdom p (List.mem_filter.mp hp).1) (Nat.lt_of_le_of_lt (List.length_filter_le _ _) hpl) hfl (by simp only [depth_deeper]; omega) (by simp only [units_deeper]; omega) ?_
  intro a1 h13 tk13 ps13 hk13 h1364 hT13 ha1 ht1
  have F13 := fr_but F12 hk13 g64 hL64
  have N13 : News g L' h13 ((sy, W.listOf vy.toArray ey) :: (sn, W.listOf vn.toArray en) :: (L' + 1 + 1, om) :: (L' + 1, o2) :: own) := news_but (newsC N12 (by k_mem) (newsC N12 (by k_mem) (newsC N12 (by k_mem) (newsC N12 (by k_mem) fun p hp => N12 p (by repeat (first | exact hp | refine List.mem_cons_of_mem _ ?_)))))) hk13 (all_cons hy64 (all_cons hn64 (all_cons k1 (all_cons k2 hown64))))
  clear F12 N12
  k_steps
  refine Stop.mk ?_
  rename Fr _ _ _ _ => F14
  rename News _ _ _ _ => N14
  refine IH ⟨B', F14, X', T', hA', hf', hk', hh'⟩ ps13 (fun p hp => by rw [List.mem_singleton] at hp; subst hp; exact ⟨h1364, hL64.symm, g64⟩) hT13 hCH' sn vl _ fs vv (lo + 2 ^ n) hi _ _ (by omega) (by omega) (by omega)
    ⟨vn, ⟨_, hide64 (N14 (sn, W.listOf vn.toArray en) (by k_mem)).1 hn64, rfl, _, rfl⟩, hvn⟩ (hgv.at fun o e => gst F14 _ o e) hfs (fun p hp => hdom p (List.mem_filter.mp hp).1) (Nat.lt_of_le_of_lt (List.length_filter_le _ _) hpl) hfl (by simp only [depth_deeper]; omega) (by simp only [units_deeper]; omega) ?_
  intro a2 h15 tk15 ps15 hk15 h1564 hT15 ha2 ht2
  have F15 := fr_but F14 hk15 g64 hL64
  have N15 : News g L' h15 [(L' + 1 + 1, om), (L' + 1, o2)] := news_but (newsC N14 (by k_mem) (newsC N14 (by k_mem) all_nil)) hk15 (all_cons k1 (all_cons k2 all_nil))
  clear F14 N14
  k_steps
  refine Stop.mk ?_
  refine newList_S F15 N15 ?_ (by rw [sizeLine_eq]; simp)
  intro l h16 F16 N16 hl16 hs16
  clear F15 N15
  k_steps
  have hst15 := hide64_stays hk15
  have hst16 : (hideAll h15 [64]).StaysIn (hideAll h16 [64]) := hide64_stays fun b o _ e => hs16 b o e
  have hl64 : l ≠ 64 := fun e => by
    have h9 : h15.get? l = none := hl16
    rw [e, h1564] at h9; cases h9
  have n1 := N16 _ (List.mem_cons_self ..)
  have hkeep : ∀ b o, b ≠ 64 → s0.heap.get? b = some o → h16.get? b = some o := fun b o hb e => F16.keep b o (by rw [hg']; exact hide64 e hb)
  refine hq l h16 _ ps15 hkeep (hs16 _ _ h1564) (hT15.keeps hst16) ?_ ⟨pa, a1, a2, ⟨_, hide64 n1.1 hl64, rfl, _, rfl⟩, ⟨pv, hpv.at fun o e => hide64_stays hkeep _ o e, hpi⟩, ht1.keeps (fun b o e => hst16 b o (hst15 b o e)), ht2.keeps hst16⟩
  cases q : s0.heap.get? l with
  | none => rfl
  | some o =>
    have t1 := hide64 q hl64
    rw [← hg'] at t1
    exact absurd (t1.symm.trans n1.2.2) (by simp)
theorem tree_spec (C : Cx) : ∀ n, TreeClaim C n
  | 0 => tree_zero C
  | n + 1 => tree_succ C n (tree_spec C n)
end Mine
end
end
namespace Mine
theorem topOff17 : True := by w_top off; trivial
noncomputable def hueF (k : Nat) : UInt64 := Float64.ofFrac false k 16
noncomputable def shrF (s : Nat) : UInt64 := Float64.ofFrac false (s + 1) 4
noncomputable def valF (v : Nat) : UInt64 := Float64.ofFrac false (v + 1) 8
noncomputable def hT (k t : Nat) : UInt64 := Float64.add (hueF k) (Float64.ofInt t)
noncomputable def trI (x : UInt64) : Int := match Float64.decode x with | .fin a b c => Float64.truncOf a b c | _ => -1
noncomputable def h6 (k : Nat) : UInt64 := Float64.mul (hueF k) c6
noncomputable def rgb0 (k s v : Nat) : UInt64 × UInt64 × UInt64 := hsvOut (trI (h6 k)) (Float64.sub (h6 k) (Float64.ofInt (trI (h6 k)))) (shrF s) (valF v)
noncomputable def okTurn (k t : Nat) : Bool := match Float64.decode (Float64.mul (hT k t) c6) with
  | .fin a b c => decide (0 ≤ Float64.truncOf a b c) && decide (Float64.truncOf a b c < 18) && decide ((Float64.truncOf a b c).fmod 6 = trI (h6 k)) && decide (Float64.sub (Float64.mul (hT k t) c6) (Float64.ofInt (Float64.truncOf a b c)) = Float64.sub (h6 k) (Float64.ofInt (trI (h6 k))))
  | _ => false
noncomputable def okCol (x y : UInt64 × UInt64 × UInt64) : Bool :=
  !(Float64.cmp (fmn (fmn x.1 x.2.1) x.2.2) (fmx (fmx x.1 x.2.1) x.2.2) == some Ordering.eq) && !Float64.isZero (fmx (fmx x.1 x.2.1) x.2.2) && !Float64.isZero (Float64.sub (fmx (fmx x.1 x.2.1) x.2.2) (fmn (fmn x.1 x.2.1) x.2.2)) && (rgbOut x.1 x.2.1 x.2.2 (fmx (fmx x.1 x.2.1) x.2.2) (Float64.sub (fmx (fmx x.1 x.2.1) x.2.2) (fmn (fmn x.1 x.2.1) x.2.2)) == y)
theorem all_lt {n : Nat} {p : Nat → Bool} (h : (List.range n).all p = true) {i : Nat} (hi : i < n) : p i = true := List.all_eq_true.mp h i (List.mem_range.mpr hi)
theorem okTurn_all : ((List.range 16).all fun k => (List.range 3).all fun t => okTurn k t) = true := by decide +kernel
theorem shr_ne : ((List.range 4).all fun s => !(Float64.cmp (shrF s) 0 == some Ordering.eq)) = true := by decide +kernel
noncomputable def okColK (k : Nat) : Bool := (List.range 4).all fun s => (List.range 8).all fun v => okCol (rgb0 k s v) (hueF k, shrF s, valF v)
theorem okC0 : okColK 0 = true := by decide +kernel
theorem okC1 : okColK 1 = true := by decide +kernel
theorem okC2 : okColK 2 = true := by decide +kernel
theorem okC3 : okColK 3 = true := by decide +kernel
theorem okC4 : okColK 4 = true := by decide +kernel
theorem okC5 : okColK 5 = true := by decide +kernel
theorem okC6 : okColK 6 = true := by decide +kernel
theorem okC7 : okColK 7 = true := by decide +kernel
theorem okC8 : okColK 8 = true := by decide +kernel
theorem okC9 : okColK 9 = true := by decide +kernel
theorem okC10 : okColK 10 = true := by decide +kernel
theorem okC11 : okColK 11 = true := by decide +kernel
theorem okC12 : okColK 12 = true := by decide +kernel
theorem okC13 : okColK 13 = true := by decide +kernel
theorem okC14 : okColK 14 = true := by decide +kernel
theorem okC15 : okColK 15 = true := by decide +kernel
theorem okColK_all : ∀ {k : Nat}, k < 16 → okColK k = true
  | 0, _ => okC0
  | 1, _ => okC1
  | 2, _ => okC2
  | 3, _ => okC3
  | 4, _ => okC4
  | 5, _ => okC5
  | 6, _ => okC6
  | 7, _ => okC7
  | 8, _ => okC8
  | 9, _ => okC9
  | 10, _ => okC10
  | 11, _ => okC11
  | 12, _ => okC12
  | 13, _ => okC13
  | 14, _ => okC14
  | 15, _ => okC15
  | _ + 16, h => absurd h (by omega)
theorem col_turn {k t : Nat} (hk : k < 16) (ht : t < 3) : ∃ a b c, Float64.decode (Float64.mul (hT k t) c6) = .fin a b c ∧ 0 ≤ Float64.truncOf a b c ∧ Float64.truncOf a b c < 18 ∧ (Float64.truncOf a b c).fmod 6 = trI (h6 k) ∧
    Float64.sub (Float64.mul (hT k t) c6) (Float64.ofInt (Float64.truncOf a b c)) = Float64.sub (h6 k) (Float64.ofInt (trI (h6 k))) := by
  have h := all_lt (all_lt okTurn_all hk) ht
  unfold okTurn at h
  split at h
  · next a b c e =>
    simp only [Bool.and_eq_true, decide_eq_true_eq] at h
    exact ⟨a, b, c, e, h.1.1.1, h.1.1.2, h.1.2, h.2⟩
  · cases h
theorem col_ok {k s v : Nat} (hk : k < 16) (hs : s < 4) (hv : v < 8) : okCol (rgb0 k s v) (hueF k, shrF s, valF v) = true := all_lt (all_lt (okColK_all hk) hs) hv
/-- hues and values in order -/
noncomputable def okHue (a b : Nat) : Bool := Float64.cmp (hueF a) (hueF b) == some (compare a b)
theorem okHue_all : ((List.range 16).all fun a => (List.range 16).all fun b => okHue a b) = true := by decide +kernel
theorem hue_cmp {a b : Nat} (ha : a < 16) (hb : b < 16) : Float64.cmp (hueF a) (hueF b) = some (compare a b) := by simpa [okHue] using all_lt (all_lt okHue_all ha) hb
theorem okVal_all : ((List.range 8).all fun v => (List.range 9).all fun m => lePlace (valF v) (m : Nat) == decide (v + 1 ≤ m)) = true := by decide +kernel
theorem val_le {v m : Nat} (hv : v < 8) (hm : m < 9) : lePlace (valF v) (m : Nat) = decide (v + 1 ≤ m) := by simpa using all_lt (all_lt okVal_all hv) hm
end Mine
namespace Mine
theorem topOff18 : True := by w_top off; trivial
open PySem.SeqAt
theorem noneBooked (C : Cx) {h : Heap} (X : (hd.heap_39 C.w.params).In h) (dm : model PySem.Challenge.rw_pm0032_01.row.prog C.w = model PySem.Challenge.rw_pm0032_01.row.prog C.w) : NoneBooked h := by
  revert X dm; k_fill; intro X dm
  have y : ∃ o, (hd.heap_39 C.w.params).lookup 2 = some o := ⟨_, by k_is⟩
  have e : h.get? cStatics = some _ := X 2 _ (by k_is)
  refine ⟨_, .of_isNs ?_, ?_⟩
  · unfold Heap.isNs; rw [e]; simp
  · unfold Heap.nsMap; rw [e]; rfl
theorem isSame_float {M : Model} {A : Around} {E : Value → Shared → Prop} {s : Shared} {y z : UInt64} {u v : Tok} {Q : Bool → Shared → Prop}
    (h0 : (u == 0 || v == 0) = false) (hb : NoneBooked s.heap) (hq : ∀ b, Q b s) : wpAny M A (isSame (.float y u) (.float z v)) Q E s := by
  show wpAny M A (isSame.created (y == z && !Float64.isNaN y) u v) Q E s
  unfold isSame.created
  refine wpAny_ite ?_
  split
  · rename_i h; rw [h0] at h; exact absurd h Bool.false_ne_true
  refine wpAny_ite ?_
  split
  · exact wpAny_pure (hq _)
  refine wpAny_ite ?_
  split
  · exact wpAny_pure (hq _)
  refine wpAny_bind (wpAny_sharingNotTold_none hb ?_)
  first | rw [if_neg Bool.false_ne_true] | simp only [Bool.false_eq_true, if_false]
  refine wpAny_bind (wpAny_sharingNotTold_none hb ?_)
  first | rw [if_neg Bool.false_ne_true] | simp only [Bool.false_eq_true, if_false]
  exact wpAny_bind (wpAny_rule (wpAny_bind (wpAny_askSetting (wpAny_pure (hq _)))))
theorem eqAt_float {A : Around} {s : Shared} {a : UInt64} {t u : Tok} (hb : NoneBooked s.heap) (h0 : (t == 0 || u == 0) = false) (he : (Float64.cmp a a == some Ordering.eq) = true) : EqAt A s (.float a t) (.float a u) true := fun prog w E Q h => by
  unfold eqBool
  refine wpAny_holding ?_
  refine wpAny_ite_split (fun hab => ?_) (fun _ => ?_)
  · exact wpAny_bind (wpAny_rule (wpAny_pure h))
  · refine wpAny_bind (isSame_float h0 hb fun b => ?_)
    refine wpAny_ite ?_
    split
    · exact wpAny_pure h
    · show wpAny _ _ (richCompare .Eq _ _ >>= _) _ _ _
      refine wpAny_bind ?_
      show wpAny _ _ (compareOp .Eq _ _) _ _ _
      refine AutoFloatOps.eq_0 ?_
      rw [he]
      exact wpAny_truthy_bool h
noncomputable abbrev colObj (x : UInt64 × UInt64 × UInt64) (t1 t2 t3 : Tok) : Obj := { cls := .type "tuple", data := .seq [Value.float x.1 t1, .float x.2.1 t2, .float x.2.2 t3].toArray }
theorem ne_col {prog : Program} {w : World} {A : Around} {E : Value → Shared → Prop} {s : Shared} {Q : Value → Shared → Prop} {a b : Addr} {x : UInt64 × UInt64 × UInt64} {t1 t2 t3 t4 t5 t6 : Tok} (nb : NoneBooked s.heap)
    (ha : s.heap.get? a = some (colObj x t1 t2 t3)) (hb : s.heap.get? b = some (colObj x t4 t5 t6)) (hx : (Float64.cmp x.1 x.1 == some Ordering.eq) = true) (hy : (Float64.cmp x.2.1 x.2.1 == some Ordering.eq) = true) (hz : (Float64.cmp x.2.2 x.2.2 == some Ordering.eq) = true)
    (z1 : t1 ≠ 0) (z2 : t2 ≠ 0) (z3 : t3 ≠ 0) (z4 : t4 ≠ 0) (z5 : t5 ≠ 0) (z6 : t6 ≠ 0) (hu : A.units < cLine) (h : Q (.bool false) s) : wpAny (model prog w) A (compareOp .NotEq (.ref a) (.ref b)) Q E s := by
  have nz : ∀ {t u : Tok}, t ≠ 0 → u ≠ 0 → (t == 0 || u == 0) = false := fun h1 h2 => by simp [h1, h2]
  refine PySem.EqBoolInt.of_rcne (RcNeAt.tuples (e := fun _ => true) ⟨_, ha, rfl, 0, rfl⟩ ⟨_, hb, rfl, 0, rfl⟩ hu ?_) (by with_unfolding_all exact h)
  intro j h1 h2
  match j, h1 with
  | 0, _ => exact eqAt_float nb (nz z1 z4) hx
  | 1, _ => exact eqAt_float nb (nz z2 z5) hy
  | 2, _ => exact eqAt_float nb (nz z3 z6) hz
theorem shr_eq : ((List.range 4).all fun s => Float64.cmp (shrF s) (shrF s) == some Ordering.eq) = true := by decide +kernel
theorem val_eq : ((List.range 8).all fun s => Float64.cmp (valF s) (valF s) == some Ordering.eq) = true := by decide +kernel
theorem hue_eq : ((List.range 16).all fun s => Float64.cmp (hueF s) (hueF s) == some Ordering.eq) = true := by decide +kernel
end Mine
namespace Mine
theorem topOff19 : True := by w_top off; trivial
section
variable {prog : Program} {w : World} {A : Around} {E : Value → Shared → Prop} {Q : Flow → Shared → Prop} {s : Shared} {env : Env} {h₀ : Heap}
def RngAt (prog : Program) (w : World) (A : Around) (h₀ : Heap) (env : Env) (target : Expr) (body : List Stmt) (Q : Flow → Shared → Prop) (E : Value → Shared → Prop) (it : Value) (s₂ : Shared) : Prop :=
  ∃ (I : Addr) (n : Nat) (m : Str → Option Value) (news : List (Addr × Obj)) (J : Nat → (Str → Option Value) → List (Addr × Obj) → Prop),
    it = .ref I ∧ IsRangeIter s₂.heap I 0 n 1 ∧ h₀.get? I = none ∧ env.locals ≠ I ∧ Fr h₀ env.locals s₂.heap m ∧ News h₀ env.locals s₂.heap news ∧ (∀ p ∈ news, p.1 ≠ I) ∧ J 0 m news ∧
    (∀ i t m₁ news₁ io h tk, i < n → J i m₁ news₁ → (∀ p ∈ news₁, p.1 ≠ I) → Fr h₀ env.locals h m₁ → News h₀ env.locals h ((I, io) :: news₁) →
      wpAny (model prog w) A (assign target env (.int (i : Nat) t)) (fun _ s₃ => wpAny (model prog w) A (execs body env) (LstPost h₀ env.locals Q I io (J (i + 1)) { s₂ with heap := h, toks := tk }) E s₃) E { s₂ with heap := h, toks := tk }) ∧
    ∀ h tk m₁ news₁, J n m₁ news₁ → Fr h₀ env.locals h m₁ → News h₀ env.locals h news₁ → Q .next { s₂ with heap := h, toks := tk }
/-- between two turns -/
def RngInv (h₀ : Heap) (L I : Addr) (n : Nat) (J : Nat → (Str → Option Value) → List (Addr × Obj) → Prop) (s₂ : Shared) (k : Nat) (s' : Shared) : Prop :=
  ∃ h' tk m' news' i, s' = { s₂ with heap := h', toks := tk } ∧ IsRangeIter h' I (0 + (i : Nat) * 1) ((n : Int) - (i : Nat)) 1 ∧ Fr h₀ L h' m' ∧ News h₀ L h' news' ∧ (∀ p ∈ news', p.1 ≠ I) ∧ J i m' news' ∧ i ≤ n ∧ k = n + 1 - i
theorem For_rng {x : Str} {px : Pos} {iter : Expr} {pos : Pos} {body : List Stmt} (hh : A.handled = none)
    (h : wpAny (model prog w) A (eval iter env) (fun xv s₁ => wpAny (model prog w) A (pyIter xv) (fun it s₂ => RngAt prog w A h₀ env (.Name x px) body Q E it s₂) E s₁) E s)
    (hs : ∀ x, foldedSetIterable iter env x = pure x) (hE : PassesOwn (model prog w) A env E) :
    wpAny (model prog w) A (exec (.For (.Name x px) iter body [] pos) env) Q E s := by
  refine wpAny_For (wpAny_mono h (fun xv s₁ h₁ => wpAny_mono h₁ (fun it s₂ h₂ => ?_) fun _ _ e => e) fun _ _ e => e) hs
  obtain ⟨I, n, m, news, J, rfl, hit, hI0, hLI, F, N, hoff, hJ, turn, done⟩ := h₂
  have W := LCg.range_walks (prog := prog) (w := w) (I := I) hh 0 n
  refine codeAny_forLoop_any (RngInv h₀ env.locals I n J s₂) ?_ (n + 1)
    (Exists.intro s₂.heap ⟨s₂.toks, m, news, 0, rfl, by simpa using hit, F, N, hoff, hJ, Nat.zero_le _, rfl⟩)
  rintro k s' ⟨h', tk, m', news', i, rfl, hit', F', N', hoff', hJ', hi, rfl⟩
  have old : ∀ b o, h₀.get? b = some o → b ≠ I := fun b o e hb => by rw [hb, hI0] at e; cases e
  have next : ∀ h₁ : Heap, (∀ b o, b ∉ [I] → h'.get? b = some o → h₁.get? b = some o) → Fr h₀ env.locals h₁ m' ∧ News h₀ env.locals h₁ news' := fun h₁ hk₁ =>
    ⟨⟨F'.ns.at' fun o e => hk₁ _ o (by simpa using hLI) e, fun b o e => hk₁ b o (by simpa using old b o e) (F'.keep b o e), F'.above⟩, fun p hp => ⟨hk₁ _ _ (by simpa using hoff' p hp) (N' p hp).1, (N' p hp).2⟩⟩
  by_cases hlt : i < n
  · refine W.item i _ _ _ hlt hit' fun v h₁ tk₁ hP hst₁ hk₁ => ?_
    obtain ⟨t, rfl⟩ := hP
    obtain ⟨F₁, N₁⟩ := next h₁ hk₁
    refine wpAny_pure ?_
    obtain ⟨io, hio, hion⟩ : ∃ io, h₁.get? I = some io ∧ ∀ h : Heap, h.get? I = some io → IsRangeIter h I (0 + ((i + 1 : Nat) : Int) * 1) ((n : Int) - ((i + 1 : Nat) : Int)) 1 := ⟨_, hst₁, fun h e => e⟩
    have NI : News h₀ env.locals h₁ ((I, io) :: news') := fun p hp => by
      rcases List.mem_cons.mp hp with rfl | hp
      · exact ⟨hio, hLI.symm, hI0⟩
      · exact N₁ p hp
    rw [Int.zero_add]
    refine wpAny_mono (turn i t m' news' io h₁ tk₁ hlt hJ' hoff' F₁ NI) (fun _ s₃ h₃ => wpAny_mono h₃ (fun f s₄ h₄ => ?_) hE) hE
    have fin : LstPost h₀ env.locals Q I io (J (i + 1)) { s₂ with heap := h₁, toks := tk₁ } .next s₄ → ∃ m_1, m_1 < n + 1 - i ∧ RngInv h₀ env.locals I n J s₂ m_1 s₄ := by
      rintro ⟨h₄', tk₄, m₄, news₄, rfl, F₄, N₄, hoff₄, hJ₄⟩
      exact ⟨n + 1 - (i + 1), by omega, Exists.intro h₄' ⟨tk₄, m₄, news₄, i + 1, rfl, hion _ (N₄ _ (List.mem_cons_self ..)).1, F₄, fun p hp => N₄ p (List.mem_cons_of_mem _ hp), hoff₄, hJ₄, hlt, rfl⟩⟩
    cases f with
    | ret v => exact h₄
    | brk => exact h₄
    | next => exact fin h₄
    | cont => exact fin h₄
  · have hin : i = n := by omega
    subst hin
    refine W.done _ _ _ hit' fun h₁ tk₁ hk₁ => wpAny_execs_nil ?_
    obtain ⟨F₁, N₁⟩ := next h₁ hk₁
    exact done h₁ tk₁ m' news' hJ' F₁ N₁
theorem iter_rng {target : Expr} {body : List Stmt} {r : Addr} {n : Nat} {t u v : Tok} {m : Str → Option Value} {news : List (Addr × Obj)} (J : Nat → (Str → Option Value) → List (Addr × Obj) → Prop)
    (hr : IsRange s.heap r 0 n 1 t u v) (hn : n < 1000) (F : Fr h₀ env.locals s.heap m) (N : News h₀ env.locals s.heap news) (hJ : J 0 m news)
    (turn : ∀ i t m₁ news₁ I io h tk, i < n → J i m₁ news₁ → (∀ p ∈ news, p.1 < I) → (∀ p ∈ news₁, p.1 ≠ I) → Fr h₀ env.locals h m₁ → News h₀ env.locals h ((I, io) :: news₁) →
      wpAny (model prog w) A (assign target env (.int (i : Nat) t)) (fun _ s₃ => wpAny (model prog w) A (execs body env) (LstPost h₀ env.locals Q I io (J (i + 1)) { s with heap := h, toks := tk }) E s₃) E { s with heap := h, toks := tk })
    (done : ∀ h tk m₁ news₁, J n m₁ news₁ → Fr h₀ env.locals h m₁ → News h₀ env.locals h news₁ → Q .next { s with heap := h, toks := tk }) :
    wpAny (model prog w) A (pyIter (.ref r)) (fun it s₂ => RngAt prog w A h₀ env target body Q E it s₂) E s := by
  have hs : Builtin.Range.rangeSize 0 (n : Int) 1 = (n : Nat) := by rw [rangeSize_one]; split <;> omega
  refine wpAny_pyIter_range hr (small_one (by decide) (by decide) (by omega) (by omega)) ?_
  rw [hs]
  refine ⟨s.heap.objs.size, n, m, news, J, rfl, Heap.get?_push_size _ rfl, next_is_new F, Nat.ne_of_lt F.ns.lt, F.push _, (fun p hp => ⟨Heap.get?_push_of_some _ (N p hp).1, (N p hp).2⟩),
    fun p hp => Nat.ne_of_lt (Heap.lt_size (N p hp).1), hJ, ?_, ?_⟩
  · intro i t m₁ news₁ io h tk hi hJ₁ ho F₁ N₁
    exact turn i t m₁ news₁ _ io h tk hi hJ₁ (fun p hp => Heap.lt_size (N p hp).1) ho F₁ N₁
  · exact done
end
end Mine
namespace Mine
theorem topOff20 : True := by w_top off; trivial
open LCg
section
variable {prog : Program} {w : World} {A : Around} {E : Value → Shared → Prop} {s : Shared} {h₀ : Heap} {L : Addr} {m : Str → Option Value} {env : Env}
theorem comp_inv {elt : Expr} {x : Str} {scope : Scope} {cl : List (Str × Addr)} {S : List (Addr × Obj) → Prop} {P : Nat → Value → Prop} {Fin : List Value → List (Addr × Obj) → Prop} (J : Nat → List Value → List (Addr × Obj) → Prop) (n : Nat)
    (turn : ∀ i ys news v I oI C oC D m₂ h tk (E' : Value → Shared → Prop), i < n → J i ys news → P i v → NsObj oC m₂ → m₂ x = some v → Fr h₀ L h m → News h₀ L h ((I, oI) :: (C, oC) :: (D, lst ys) :: news) → Off3 I C D news → ((@Ne Nat I C) ∧ (@Ne Nat I D) ∧ (@Ne Nat C D)) →
      wpAny (model prog w) A (eval elt (compEnvC scope cl C env)) (CompEnd h₀ L m { s with heap := h, toks := tk } I oI C oC D (lst ys) S (fun y news' => J (i + 1) (ys ++ [y]) news')) E' { s with heap := h, toks := tk })
    (fin : ∀ ys news, J n ys news → Fin ys news) : ∀ k i ys news, i + k = n → J i ys news → CompRest prog w A h₀ L m env elt x scope cl s S P Fin k i ys news
  | 0, i, ys, news, e, hJ => CompRest.zero (fin ys news (by rw [← e]; exact hJ))
  | k + 1, i, ys, news, e, hJ => CompRest.succ fun v I oI C oC D m₂ h tk E' hP hN hx F N off ne => by
    refine wpAny_mono (turn i ys news v I oI C oC D m₂ h tk E' (by omega) hJ hP hN hx F N off ne) (fun y s₂ hy => ?_) fun _ _ e => e
    obtain ⟨h', tk', news', rfl, F', N', off', hS, hr⟩ := hy
    exact ⟨h', tk', news', rfl, F', N', off', hS, comp_inv J n turn fin k (i + 1) (ys ++ [y]) news' (by omega) hr⟩
end
end Mine
namespace Mine
theorem topOff21 : True := by w_top off; trivial
section
variable {prog : Program} {w : World} {A : Around} {E : Value → Shared → Prop} {s : Shared} {h₀ : Heap} {L a kS : Addr} {m : Str → Option Value} {news : List (Addr × Obj)} {vs ks : List Value}
/-- the sort of less than two items is no sort -/
theorem srt_end {e e1 : Nat} {P : PySem.Fin → Shared → Prop} (hl : ks.length = vs.length) (h2 : vs.length < 2) (h : KatFin h₀ L m kS a ks e e1 vs (fun s3 => P (.done (.ret .none)) s3) s) :
    wpAny (model prog w) A (ksk_end a false vs.toArray e1 (.ref kS) (List.toArray ks)) P E s := by
  have hsz : vs.toArray.size < 2 := by rw [List.size_toArray]; exact h2
  have hz : ((List.toArray ks).zip vs.toArray).map (·.2) = List.toArray vs := by
    apply Array.toList_inj.mp
    rw [Array.toList_map, ksk_zip]
    exact List.map_snd_zip (Nat.le_of_eq hl.symm)
  unfold ksk_end
  simp only [Bool.false_eq_true, if_false, if_pos hsz]
  refine wpAny_bind (wpAny_pure ?_)
  rw [StateT.run_pure]
  refine wpAny_bind (wpAny_pure ?_)
  exact kat_tail hz (by omega) (by omega) rfl h
theorem srt_rest {f : Value} {e1 : Nat} {P : PySem.Fin → Shared → Prop} (hk : s.heap.get? kS = some (seqObj "list" #[] 0)) (h2 : vs.length < 2)
    (h : KatKeys prog w A h₀ L m kS f (fun ks e s' => KatFin h₀ L m kS a ks e e1 vs (fun s4 => P (.done (.ret .none)) s4) s') vs [] 0 s) :
    wpAny (model prog w) A (ksk_rest a f false vs.toArray e1 (.ref kS)) P E s := by
  unfold ksk_rest
  refine wpAny_bind (wpAny_rule ?_)
  first
    | rw [List.forIn_toArray]
    | (rw [← Array.forIn_toList]; simp only [List.toList_toArray])
    | rw [← Array.forIn_toList]
  refine wpAny_bind (wpAny_mono (kat_fold (n := vs.length) (by omega) (fun x ks e s' C hz hx => ?_) vs [] 0 s (by simp) hk h) (fun _ s' hd => ?_) fun _ _ x => x)
  · refine wpAny_bind (wpAny_attempt (wpAny_mono hx (fun k s'' hk => ?_) fun _ _ hF => hF.elim))
    obtain ⟨nx, g, F', N', U, c⟩ := hk
    obtain ⟨pre, post, e0, hg, x1, x2⟩ := U.split
    rw [e0] at N'
    have nk := N' (kS, seqObj "list" (List.toArray ks) e) (List.mem_append_right _ (.head _))
    have s1 := Heap.SameBut.update s''.heap kS (Obj.mapSeq (·.push k))
    obtain ⟨c2, hc2⟩ : ∃ c2, (s''.heap.update kS (Obj.mapSeq (·.push k))).get? kS = some (seqObj "list" (List.toArray (ks ++ [k])) c2) := ⟨_, by rw [show List.toArray (ks ++ [k]) = (List.toArray ks).push k by simp]; exact get?_update_seq nk.1 (·.push k)⟩
    refine wpAny_bind (listUpdate_at nk.1 rfl ?_ (by rw [List.size_toArray, sizeLine_eq]; omega) (Nat.le_trans (Nat.le_of_eq (Array.size_push ..)) (by rw [List.size_toArray, sizeLine_eq]; omega)))
    exact wpAny_pure ⟨rfl, k, c2, hc2, c _ c2 (kas_fr F' s1 nk.2.1 nk.2.2) (by rw [hg]; exact news_set N' x1 x2 s1 hc2)⟩
  · obtain ⟨ks, e, hk', hl, fin⟩ := hd
    refine wpAny_bind (listItems_at hk' rfl ?_)
    exact srt_end hl h2 fin
theorem srt_keyed {f : Value} {n : Nat} {P : PySem.Fin → Shared → Prop} (F : Fr h₀ L s.heap m) (N : News h₀ L s.heap news) (ho : s.heap.get? a = some (seqObj "list" vs.toArray n)) (haL : a ≠ L) (ha0 : h₀.get? a = none) (hna : ∀ p ∈ news, p.1 ≠ a) (h2 : vs.length < 2)
    (h : ∀ kS e1 h', Fr h₀ L h' m → News h₀ L h' ((kS, seqObj "list" #[] 0) :: (a, seqObj "list" #[] e1) :: news) → a < kS → (∀ q ∈ news, q.1 < kS) →
      KatKeys prog w A h₀ L m kS f (fun ks e s' => KatFin h₀ L m kS a ks e e1 vs (fun s4 => P (.done (.ret .none)) s4) s') vs [] 0 { s with heap := h' }) :
    wpAny (model prog w) A (ksk_tree a f false) P E s := by
  have ha : a < s.heap.objs.size := Heap.lt_size ho
  have s1 := Heap.SameBut.update s.heap a (Obj.mapSeq fun _ => (#[] : Array Value))
  obtain ⟨e1, ho1⟩ : ∃ e1, (s.heap.update a (Obj.mapSeq fun _ => (#[] : Array Value))).get? a = some (seqObj "list" #[] e1) := ⟨_, get?_update_seq ho fun _ => #[]⟩
  have F1 := kas_fr F s1 haL ha0
  have N1 := kas_news N s1 hna
  unfold ksk_tree
  refine wpAny_bind (listItems_at ho rfl (wpAny_bind (listUpdate_at ho rfl ?_ (by rw [List.size_toArray, sizeLine_eq]; omega) (Nat.zero_le _))))
  refine wpAny_bind (seqEpoch_at ho1 rfl (wpAny_bind (wpAny_newTuple ?_ (by show vs.length ≤ _; rw [sizeLine_eq]; omega))))
  refine wpAny_bind (wpAny_newList (wpAny_holding ?_) (Nat.zero_le _))
  have F2 : Fr h₀ L ((s.heap.update a (Obj.mapSeq fun _ => (#[] : Array Value))).push (seqObj "tuple" vs.toArray 0)) m := F1.push _
  have hge : s.heap.objs.size ≤ ((s.heap.update a (Obj.mapSeq fun _ => (#[] : Array Value))).push (seqObj "tuple" vs.toArray 0)).objs.size := by
    rw [size_push', Heap.size_update]; exact Nat.le_succ _
  refine srt_rest (s := { s with heap := ((s.heap.update a (Obj.mapSeq fun _ => (#[] : Array Value))).push (seqObj "tuple" vs.toArray 0)).push (seqObj "list" #[] 0) }) (kS := ((s.heap.update a (Obj.mapSeq fun _ => (#[] : Array Value))).push (seqObj "tuple" vs.toArray 0)).objs.size)
    (Heap.get?_push_size _ rfl) h2 (h _ e1 _ (F2.push _) (fun p hp => ?_) (Nat.lt_of_lt_of_le ha hge) fun q hq => Nat.lt_of_lt_of_le (Heap.lt_size (N q hq).1) hge)
  rcases List.mem_cons.mp hp with rfl | hp
  · exact ⟨Heap.get?_push_size _ rfl, Nat.ne_of_gt F2.ns.lt, Heap.get?_none_of_le (Nat.le_trans F.above (Nat.le_of_lt F2.ns.lt))⟩
  · refine ⟨Heap.get?_push_of_some _ (Heap.get?_push_of_some _ ?_), ?_⟩
    · rcases List.mem_cons.mp hp with rfl | hp
      · exact ho1
      · exact (N1 p hp).1
    · rcases List.mem_cons.mp hp with rfl | hp
      · exact ⟨haL, ha0⟩
      · exact (N1 p hp).2
theorem srt_sorted {l : Addr} {f : Addr} {Q : Value → Shared → Prop} (F : Fr h₀ L s.heap m) (N : News h₀ L s.heap news) (hl : s.heap.IsList l vs.toArray) (h2 : vs.length < 2)
    (h : ∀ D kS e1 h', Fr h₀ L h' m → News h₀ L h' ((kS, seqObj "list" #[] 0) :: (D, seqObj "list" #[] e1) :: news) → D < kS → (∀ q ∈ news, q.1 < D) →
      KatKeys prog w A.in1.in1 h₀ L m kS (.ref f) (fun ks e s' => KatFin h₀ L m kS D ks e e1 vs (fun s4 => Q (.ref D) s4) s') vs [] 0 { s with heap := h' }) :
    wpAny (model prog w) A (call (.builtin "sorted") [.ref l] [(Str.ofString "key", .ref f)]) Q E s := by
  refine call_function_entry_kw kind_sorted plain_sorted entry_sorted (ksk_s1 _ _) ?_
  unfold Builtin.«sorted»
  refine wpAny_bind (m := checkCount "sorted" 1 1 _) (wpAny_pure (wpAny_bind (collect_list hl ?_ (by rw [sizeLine_eq]; omega))))
  refine wpAny_bind (wpAny_newList ?_ (by rw [sizeLine_eq]; omega))
  generalize hh1 : (s.heap.push (seqObj "list" #[] 0)).update s.heap.objs.size (Obj.mapSeq (· ++ vs.toArray)) = h1
  have hsz : h1.objs.size = s.heap.objs.size + 1 := by rw [← hh1, Heap.size_update, size_push']
  have keep : ∀ b o, s.heap.get? b = some o → (h1.push (seqObj "list" vs.toArray 0)).get? b = some o := fun b o q => by
    have hlt : b < s.heap.objs.size := Heap.lt_size q
    refine Heap.get?_push_of_some _ ?_
    rw [← hh1, Heap.get?_update_ne _ _ _ _ (Nat.ne_of_lt hlt)]
    exact Heap.get?_push_of_some _ q
  refine wpAny_bind (wpAny_holding (wpAny_call_entry_kw slot_list_sort ⟨_, Heap.get?_push_size _ rfl, rfl⟩ entry_list_sort ?body (ksk_l1 _ _)))
  show wpAny (model prog w) A.in1.in1 (Builtin.«list.sort» ⟨[.ref h1.objs.size], [(Str.ofString "key", .ref f)]⟩) _ _ _
  rw [ksk_t1]
  have hlt : ∀ q ∈ news, q.1 < h1.objs.size := fun q hq => by rw [hsz]; exact Nat.lt_succ_of_lt (Heap.lt_size (N q hq).1)
  refine srt_keyed (s := { s with heap := h1.push (seqObj "list" vs.toArray 0) }) (n := 0) (F.kept keep) (N.grown keep) (Heap.get?_push_size _ rfl) (by rw [hsz]; exact Nat.ne_of_gt (Nat.lt_succ_of_lt F.ns.lt))
    (Heap.get?_none_of_le (by rw [hsz]; exact Nat.le_trans F.above (Nat.le_succ_of_le (Nat.le_of_lt F.ns.lt)))) (fun p hp => Nat.ne_of_lt (hlt p hp)) h2 fun kS e1 h' F' N' l0 l1 => ?_
  refine kat_keys_mono (h _ kS e1 h' F' N' l0 hlt) fun ks e s' _ hk => ?_
  exact hk.mono fun s4 hq => ⟨_, rfl, wpAny_pure ⟨_, rfl, hq⟩⟩
end
end Mine
namespace Mine
theorem topOff22 : True := by w_top off; trivial
theorem ints_map {vs : List Value} {ds : List Int} (h : IntsAre vs ds) : ∀ (l : List Nat), (∀ i ∈ l, i < ds.length) → IntsAre (l.map fun i => vs.getD i Value.none) (l.map fun i => ds.getD i 0)
  | [], _ => .nil
  | i :: l, hl => by
    have hi := hl i (List.mem_cons_self ..)
    obtain ⟨t, ht⟩ := h.get i ds[i] (List.getElem?_eq_getElem hi)
    have e1 : vs.getD i Value.none = .int ds[i] t := by simp [List.getD, ht]
    have e2 : ds.getD i 0 = ds[i] := by simp [List.getD, hi]
    rw [List.map_cons, List.map_cons, e1, e2]
    exact .cons _ _ (ints_map h l fun j hj => hl j (List.mem_cons_of_mem _ hj))
noncomputable def kEnc (k : Int × Int) : Int := k.1 * 16 + k.2
/-- the order of a stable sort under K -/
def kOrd (K : Int → Int × Int) (x y : Int) : Prop := kEnc (K x) < kEnc (K y) ∨ kEnc (K x) = kEnc (K y) ∧ x < y
section
variable {C : Cx} {A A₀ : Around} {env : Env} {outer : List Env} {base g : Heap} {L D kS f : Addr} {m : Str → Option Value} {news : List (Addr × Obj)} {e1 : Nat} {K : Int → Int × Int} {dom : Int → Prop}
theorem srt_keys (B : Below A₀ base outer g) (X : (hd.heap_39 C.w.params).In g) (T : Top topProg C.loose C.mean C.mg C.mb g) (hA : A.frames = some (env :: outer)) (hf : env.frame = some L) (hk : env.scope.kind = .function) (hh : A.handled = none) (hd : A.depth + 2 < recursionLimit) (hu : A.units + 10 < cLine)
    (kf : ∀ h, News g L h news → ∀ i t, dom i → Pure C 2 10 h (.ref f) [.int i t] [] (fun h0 h' r => ∃ a t1 t2, r = .ref a ∧ h0.get? a = none ∧ h'.get? a = some (tupO (K i).1 (K i).2 t1 t2)))
    (s0 : Shared) {Fin : List Value → Nat → Shared → Prop} : ∀ (r : List Value) (dr : List Int) (ks : List Value) (kp : List (Int × Int)) (own : List (Addr × Obj)) (e : Nat) (h : Heap) (tk : Nat), IntsAre r dr → (∀ d ∈ dr, dom d) → Fr g L h m →
      News g L h ((kS, seqObj "list" (List.toArray ks) e) :: (own ++ (D, seqObj "list" #[] e1) :: news)) → (∀ p ∈ own ++ (D, seqObj "list" #[] e1) :: news, p.1 ≠ kS) → (∀ p ∈ own, p.1 ≠ D) → TupsIn own ks kp →
      (∀ ks' own' e' h' tk', Fr g L h' m → News g L h' ((kS, seqObj "list" (List.toArray ks') e') :: (own' ++ (D, seqObj "list" #[] e1) :: news)) → (∀ p ∈ own' ++ (D, seqObj "list" #[] e1) :: news, p.1 ≠ kS) → (∀ p ∈ own', p.1 ≠ D) → TupsIn own' ks' (kp ++ dr.map K) → Fin ks' e' { s0 with heap := h', toks := tk' }) →
      KatKeys PySem.Challenge.rw_pm0032_01.row.prog C.w A g L m kS (.ref f) Fin r ks e { s0 with heap := h, toks := tk }
  | [], _, ks, kp, own, e, h, tk, .nil, _, F, N, off, offD, tu, fin => KatKeys.nil (fin ks own e h tk F N off offD (by simpa using tu))
  | _ :: r, _, ks, kp, own, e, h, tk, .cons (ns := dr) d t hr, hdom, F, N, off, offD, tu, fin => by
    refine KatKeys.cons ?_
    refine Pure.use (kf h (fun p hp => N p (by simp [hp])) d t (hdom d (List.mem_cons_self ..))) B F X T hA hf hk hh N (fun _ _ e => e) hd hu ?_
    rintro res h' tk' F' N' st ⟨a, t1, t2, rfl, ha0, ha⟩
    have N2 := news_add F N' ha0 ha
    have ne : ∀ {b : Addr} {o : Obj}, h.get? b = some o → a ≠ b := fun hb q => by rw [q, hb] at ha0; cases ha0
    have off' : ∀ p ∈ ((a, tupO (K d).1 (K d).2 t1 t2) :: own) ++ (D, seqObj "list" #[] e1) :: news, p.1 ≠ kS := fun p hp => by
      rcases List.mem_cons.mp hp with rfl | hp
      · exact ne (N _ (List.mem_cons_self ..)).1
      · exact off p hp
    have offD' : ∀ p ∈ (a, tupO (K d).1 (K d).2 t1 t2) :: own, p.1 ≠ D := fun p hp => by
      rcases List.mem_cons.mp hp with rfl | hp
      · exact ne (N (D, seqObj "list" #[] e1) (by simp)).1
      · exact offD p hp
    refine KatBack.intro (news := (kS, seqObj "list" (List.toArray ks) e) :: (((a, tupO (K d).1 (K d).2 t1 t2) :: own) ++ (D, seqObj "list" #[] e1) :: news)) F' (fun p hp => N2 p ?_) (UpdF.head off') ?_
    · simp only [List.mem_cons, List.cons_append, List.mem_append] at hp ⊢
      rcases hp with h | h | h | h | h <;> simp [h]
    · intro h3 c F3 N3
      refine srt_keys B X T hA hf hk hh hd hu kf s0 r dr (ks ++ [.ref a]) (kp ++ [K d]) ((a, tupO (K d).1 (K d).2 t1 t2) :: own) c h3 tk' hr (fun d hd => hdom d (List.mem_cons_of_mem _ hd)) F3 N3 off' offD' (TupsIn.snoc ⟨a, t1, t2, rfl, List.mem_cons_self ..⟩ (tu.mono fun p hp => List.mem_cons_of_mem _ hp)) ?_
      intro ks' own' e' h4 tk4 F4 N4 o4 o4' tu4
      exact fin ks' own' e' h4 tk4 F4 N4 o4 o4' (by simpa using tu4)
theorem sorted_due {l : Addr} {vs : List Value} {ds : List Int} {s : Shared} {Q E : Value → Shared → Prop} (B : Below A₀ base outer g) (F : Fr g L s.heap m) (X : (hd.heap_39 C.w.params).In g) (T : Top topProg C.loose C.mean C.mg C.mb g) (hA : A.frames = some (env :: outer)) (hf : env.frame = some L) (hk : env.scope.kind = .function) (hh : A.handled = none)
    (N : News g L s.heap news) (hd : A.depth + 2 < recursionLimit) (hu : A.units + 20 < cLine) (hl : s.heap.IsList l vs.toArray) (hi : IntsAre vs ds) (h64 : ds.length < 64) (hinc : ds.Pairwise (· < ·)) (hdom : ∀ d ∈ ds, dom d) (hK : ∀ d, 0 ≤ (K d).2 ∧ (K d).2 < 16)
    (kf : ∀ h, News g L h news → ∀ i t, dom i → Pure C 2 10 h (.ref f) [.int i t] [] (fun h0 h' r => ∃ a t1 t2, r = .ref a ∧ h0.get? a = none ∧ h'.get? a = some (tupO (K i).1 (K i).2 t1 t2)))
    (hq : ∀ R h tk ws es c, Fr g L h m → News g L h ((R, W.listOf (List.toArray ws) c) :: news) → (∀ q ∈ news, q.1 < R) → IntsAre ws es → es.Perm ds → es.Pairwise (kOrd K) → Q (.ref R) { s with heap := h, toks := tk }) :
    wpAny (model PySem.Challenge.rw_pm0032_01.row.prog C.w) A (call (.builtin "sorted") [.ref l] [(Str.ofString "key", .ref f)]) Q E s := by
  have hvl := hi.length
  by_cases h2 : 2 ≤ vs.length
  · refine kat_sortedK (b := false) F N hl h2 (by omega) (ksk_s1 _ _) (fun _ => ksk_l1 _ _) (fun _ => ksk_t1 _ _) ?_
    intro D kS e1 h' F' N' lDk lD
    refine srt_keys (D := D) (e1 := e1) (K := K) (A := A.in1.in1) B X T hA hf hk hh hd (by show A.units + 1 + 1 + 10 < cLine; omega) kf s vs ds [] [] [] 0 h' s.toks hi hdom F' N' (fun p hp => ?_) (fun p hp => nomatch hp) trivial ?_
    · rcases List.mem_cons.mp hp with rfl | hp
      · exact Nat.ne_of_lt lDk
      · exact Nat.ne_of_lt (Nat.lt_trans (lD p hp) lDk)
    intro ks own e h3 tk3 F3 N3 off offD tu
    have htl := tu.length
    rw [List.nil_append, List.length_map] at htl
    obtain ⟨fs, kt, hfl, hint⟩ := tu.tups (h := h3) fun p hp => (N3 p (by simp [hp])).1
    refine kat_kind (s := { s with heap := h3, toks := tk3 }) kt (by omega) (T := .type "int") (fun v hv => ?_) rfl ?_
    · obtain ⟨n, t, rfl⟩ := hint v hv
      exact Looks.of_pure rfl
    show (kas_sort vs.length).kasWp (kas_ask PySem.Challenge.rw_pm0032_01.row.prog C.w A.in1.in1 (tuples' true) ks) _ _
    refine good_wp (cmp := kCmp fun i => kEnc (K (ds.getD i 0))) (n := vs.length) (fun i j C' hi hj hC => ?_) (fun p hp => ?_) (sort_good (by omega))
    · obtain ⟨a, t, u, ea, ha⟩ := tu.get (i := i) (by omega)
      obtain ⟨b, t', u', eb, hb⟩ := tu.get (i := j) (by omega)
      unfold kas_ask
      rw [ea, eb]
      have ei : ([] ++ ds.map K).getD i (0, 0) = K (ds.getD i 0) := by
        have : i < ds.length := by omega
        simp [List.getD, this]
      have ej : ([] ++ ds.map K).getD j (0, 0) = K (ds.getD j 0) := by
        have : j < ds.length := by omega
        simp [List.getD, this]
      rw [ei] at ha
      rw [ej] at hb
      refine lex_ask (N3 _ (List.mem_cons_of_mem _ (List.mem_append_left _ ha))).1 (N3 _ (List.mem_cons_of_mem _ (List.mem_append_left _ hb))).1 ?_
      have k1 := hK (ds.getD i 0)
      have k2 := hK (ds.getD j 0)
      have e : decide ((K (ds.getD i 0)).1 < (K (ds.getD j 0)).1 ∨ (K (ds.getD i 0)).1 = (K (ds.getD j 0)).1 ∧ (K (ds.getD i 0)).2 < (K (ds.getD j 0)).2) = kCmp (fun i => kEnc (K (ds.getD i 0))) i j := by
        show _ = decide (kEnc (K (ds.getD i 0)) < kEnc (K (ds.getD j 0)))
        unfold kEnc
        congr 1
        exact propext ⟨fun h => by omega, fun h => by omega⟩
      rw [e]; exact hC
    · refine ⟨_, _, F3, N3, UpdF.head off, fun h4 c F4 N4 => ⟨_, _, F4, N4, updF_at (A := (kS, seqObj "list" #[] c) :: own) (o := seqObj "list" #[] e1) (rest := news) (fun p hp => Nat.ne_of_lt (lD p hp)) (fun p hp => ?_), fun h5 c' F5 N5 => ?_⟩⟩
      · rcases List.mem_cons.mp hp with rfl | hp
        · exact (Nat.ne_of_lt lDk).symm
        · exact offD p hp
      · have hpp : p.toList.Perm (List.range vs.length) := by simpa using hp.perm.toList
        have hlt : ∀ i ∈ p.toList, i < ds.length := fun i hi => by
          have := List.mem_range.mp (hpp.mem_iff.mp hi)
          omega
        have hr : (List.range vs.length).map (fun i => ds.getD i 0) = ds := by
          apply List.ext_getElem
          · simp [hvl]
          · intro i h1 h2
            have : i < ds.length := h2
            simp [List.getD, this]
        refine hq D h5 tk3 (p.toList.map fun i => vs.getD i Value.none) (p.toList.map fun i => ds.getD i 0) c' F5 (fun q hq => N5 q ?_) lD (ints_map hi _ hlt) ?_ ?_
        · rcases List.mem_cons.mp hq with rfl | hq
          · exact List.mem_append_right _ (List.mem_cons_self ..)
          · exact List.mem_append_right _ (List.mem_cons_of_mem _ hq)
        · have := hpp.map (fun i => ds.getD i 0)
          rwa [hr] at this
        · rw [List.pairwise_iff_getElem]
          intro a b ha hb hab
          rw [List.length_map, Array.length_toList, hp.size] at ha hb
          have z := hp.sorted a b hab hb
          have sa : a < p.size := by rw [hp.size]; exact ha
          have sb : b < p.size := by rw [hp.size]; exact hb
          have ea : p.getD a 0 = p[a] := by simp [Array.getD, sa]
          have eb : p.getD b 0 = p[b] := by simp [Array.getD, sb]
          rw [ea, eb] at z
          have la := hlt p[a] (by simp)
          have lb := hlt p[b] (by simp)
          simp only [List.getElem_map, Array.getElem_toList]
          unfold kR at z
          unfold kOrd
          rcases z with z | ⟨z1, z2⟩
          · exact .inl z
          · refine .inr ⟨z1, ?_⟩
            have := List.pairwise_iff_getElem.mp hinc _ _ la lb z2
            simpa [List.getD, la, lb] using this
  · refine srt_sorted F N hl (by omega) ?_
    intro D kS e1 h' F' N' lDk lD
    refine srt_keys (D := D) (e1 := e1) (K := K) (A := A.in1.in1) B X T hA hf hk hh hd (by show A.units + 1 + 1 + 10 < cLine; omega) kf s vs ds [] [] [] 0 h' s.toks hi hdom F' N' (fun p hp => ?_) (fun p hp => nomatch hp) trivial ?_
    · rcases List.mem_cons.mp hp with rfl | hp
      · exact Nat.ne_of_lt lDk
      · exact Nat.ne_of_lt (Nat.lt_trans (lD p hp) lDk)
    intro ks own e h3 tk3 F3 N3 off offD tu
    refine ⟨_, _, F3, N3, UpdF.head off, fun h4 c F4 N4 => ⟨_, _, F4, N4, updF_at (A := (kS, seqObj "list" #[] c) :: own) (o := seqObj "list" #[] e1) (rest := news) (fun p hp => Nat.ne_of_lt (lD p hp)) (fun p hp => ?_), fun h5 c' F5 N5 => ?_⟩⟩
    · rcases List.mem_cons.mp hp with rfl | hp
      · exact (Nat.ne_of_lt lDk).symm
      · exact offD p hp
    · refine hq D h5 tk3 vs ds c' F5 (fun q hq => N5 q ?_) lD hi (.refl _) ?_
      · rcases List.mem_cons.mp hq with rfl | hq
        · exact List.mem_append_right _ (List.mem_cons_self ..)
        · exact List.mem_append_right _ (List.mem_cons_of_mem _ hq)
      · rw [List.pairwise_iff_getElem]
        intro a b ha hb hab
        omega
end
end Mine
section
open Mine
local macro_rules | `(tactic| walk_at "call ref") => `(tactic| refine Stop.out ?_)
local macro_rules | `(tactic| walk_at "pyIter ref") => `(tactic| refine Stop.out ?_)
local macro_rules | `(tactic| walk_at "compareOp NotEq ref ref") => `(tactic| refine Stop.out ?_)
local macro_rules | `(tactic| walk_at "binaryOp Div int int") => `(tactic| refine div_small ?_)
local macro_rules | `(tactic| walk_at "eval Lambda") => `(tactic| refine Stop.out ?_)
namespace Mine
theorem topOff23 : True := by w_top off; trivial
def IsLaw (C : Cx) (qual : Str) (scope : Scope) (body : List Stmt) : Prop :=
  ∃ oc od osl name params dV kV doc pm an cdv ct, (hd.heap_39 C.w.params).lookup 88 = some ⟨oc, od, .func (fnOf name qual params body scope dV kV doc pm an cdv ct), osl⟩
theorem IsLaw.same {C : Cx} {q q' : Str} {sc sc' : Scope} {b b' : List Stmt} (x : IsLaw C q sc b) (y : IsLaw C q' sc' b') : q = q' ∧ sc = sc' ∧ b = b' := by
  obtain ⟨_, _, _, _, _, _, _, _, _, _, _, _, e⟩ := x
  obtain ⟨_, _, _, _, _, _, _, _, _, _, _, _, e'⟩ := y
  have z := e.symm.trans e'
  simp only [Option.some.injEq, Obj.mk.injEq, fnOf, Data.func.injEq, FuncData.mk.injEq] at z
  simp_all
open PySem.Flt (FloatsAre)
noncomputable def ColsIn (own : List (Addr × Obj)) : List Value → List Col → Prop
  | [], [] => True
  | v :: vs, x :: xs => (∃ a t1 t2 t3, v = .ref a ∧ (a, ({ cls := .type "tuple", data := .seq [Value.float x.1 t1, .float x.2.1 t2, .float x.2.2 t3].toArray } : Obj)) ∈ own) ∧ ColsIn own vs xs
  | _, _ => False
theorem ColsIn.mono {own own' : List (Addr × Obj)} (h : ∀ p ∈ own, p ∈ own') : ∀ {vs : List Value} {xs : List Col}, ColsIn own vs xs → ColsIn own' vs xs
  | [], [], _ => trivial
  | [], _ :: _, x => x.elim
  | _ :: _, [], x => x.elim
  | _ :: _, _ :: _, ⟨⟨a, t1, t2, t3, e, hm⟩, r⟩ => ⟨⟨a, t1, t2, t3, e, h _ hm⟩, ColsIn.mono h r⟩
theorem ColsIn.snoc {own : List (Addr × Obj)} {v : Value} {x : Col} (hv : ∃ a t1 t2 t3, v = .ref a ∧ (a, ({ cls := .type "tuple", data := .seq [Value.float x.1 t1, .float x.2.1 t2, .float x.2.2 t3].toArray } : Obj)) ∈ own) :
    ∀ {vs : List Value} {xs : List Col}, ColsIn own vs xs → ColsIn own (vs ++ [v]) (xs ++ [x])
  | [], [], _ => ⟨hv, trivial⟩
  | [], _ :: _, x => x.elim
  | _ :: _, [], x => x.elim
  | _ :: _, _ :: _, ⟨a, r⟩ => ⟨a, ColsIn.snoc hv r⟩
theorem ColsIn.length {own : List (Addr × Obj)} : ∀ {vs : List Value} {xs : List Col}, ColsIn own vs xs → vs.length = xs.length
  | [], [], _ => rfl
  | [], _ :: _, x => x.elim
  | _ :: _, [], x => x.elim
  | _ :: _, _ :: _, ⟨_, r⟩ => by simp [ColsIn.length r]
local macro_rules | `(tactic| walk_at "call builtin:list.append") => `(tactic| refine Stop.out ?_)
local macro_rules | `(tactic| walk_at "subscriptTail Name UnaryOp ref int") => `(tactic| refine Stop.out ?_)
theorem unpack_w {prog : Program} {w : World} {A : Around} {E : Value → Shared → Prop} {s : Shared} {h₀ : Heap} {L t : Addr} {m : Str → Option Value} {news : List (Addr × Obj)} {items : Array Value} {n k : Nat} {d : Option Addr} {sl : Array (Option Value)} {Q : List Value → Shared → Prop}
    (h : ∀ h', Fr h₀ L h' m → News h₀ L h' ((t, { cls := .type "tuple", dict := d, data := .seq items k, slots := sl }) :: news) → Q items.toList { s with heap := h' }) (F : Fr h₀ L s.heap m := by k_asm)
    (N : News h₀ L s.heap ((t, { cls := .type "tuple", dict := d, data := .seq items k, slots := sl }) :: news) := by k_asm) (hh : A.handled = none := by with_reducible assumption) (hn : n = items.size := by exact rfl) :
    wpAny (model prog w) A (unpackItems (.ref t) n none) Q E s := unpackItemsN_ F N (N.isTup (List.mem_cons_self ..)) hh hn h
local macro_rules | `(tactic| walk_at "unpackItems ref") => `(tactic| (refine unpack_w ?_; intros; (try k_sweep)))
noncomputable def colOf (x : Int) : Col := (hueF (x.fmod 16).toNat, shrF ((x.fdiv 16).fmod 4).toNat, valF ((x.fdiv 64).fmod 8).toNat)
noncomputable abbrev kTold : List Str := [Str.ofString "x", Str.ofString "hue", Str.ofString "share", Str.ofString "value", Str.ofString "red", Str.ofString "green", Str.ofString "blue", Str.ofString "script"]
theorem noneBooked_keeps {h h' : Heap} (x : NoneBooked h) (k : ∀ b o, h.get? b = some o → h'.get? b = some o) : NoneBooked h' := let ⟨mc, a, b⟩ := x; ⟨mc, a.keeps k, b⟩
def toldTail (t : List (Str × Value)) : Prop := t = [] ∨ ∃ v1 v2 v3 v4 v5 v6 v7, t = [(Str.ofString "x", v1), (Str.ofString "hue", v2), (Str.ofString "share", v3), (Str.ofString "value", v4), (Str.ofString "red", v5), (Str.ofString "green", v6), (Str.ofString "blue", v7)]
theorem told_ext {tail : List (Str × Value)} {v1 v2 v3 v4 v5 v6 v7 v8 : Value} (h : toldTail tail) :
    (fun y => if y = Str.ofString "blue" then some v7 else if y = Str.ofString "green" then some v6 else if y = Str.ofString "red" then some v5 else if y = Str.ofString "hue" then some v2 else if y = Str.ofString "share" then some v3 else if y = Str.ofString "value" then some v4 else if y = Str.ofString "x" then some v1 else mOf (tail ++ [(Str.ofString "script", v8)]) y) =
      mOf ([(Str.ofString "x", v1), (Str.ofString "hue", v2), (Str.ofString "share", v3), (Str.ofString "value", v4), (Str.ofString "red", v5), (Str.ofString "green", v6), (Str.ofString "blue", v7)] ++ [(Str.ofString "script", v8)]) := by
  rcases h with rfl | ⟨w1, w2, w3, w4, w5, w6, w7, rfl⟩ <;>
  · simp only [mOf_app]
    refine mOf_extB kTold ?_ ?_ (all_cons ?_ (all_cons ?_ (all_cons ?_ (all_cons ?_ (all_cons ?_ (all_cons ?_ (all_cons ?_ (all_cons ?_ all_nil)))))))) <;> rfl
set_option maxHeartbeats 4000000 in
/-- one turn of the first loop -/
theorem told_turn (C : Cx) {A A₀ : Around} {outer : List Env} {base g : Heap} {L fa : Addr} {cdv : Value} {s0 : Shared} {q : Str} {sc : Scope} {a0 a1 : Stmt} {tgt it : Expr} {tb : List Stmt} {pp : Pos} {rest : List Stmt} (hl : IsLaw C q sc (a0 :: a1 :: .For tgt it tb [] pp :: rest))
    {l : Addr} {c7 : Obj} {Q : Flow → Shared → Prop} {tl I : Addr} {io : Obj} {tv : List Value} {e : Nat} {V : List (Addr × Obj)} {x : Int} {tx : Tok} {tail : List (Str × Value)}
    (S : Site C A A₀ (envOfC q sc L fa cdv) outer base g L (mOf (tail ++ [(Str.ofString "script", .ref l)])) s0) (htail : toldTail tail)
    (N : News g L s0.heap ((I, io) :: (tl, W.listOf (List.toArray tv) e) :: (L + 1 + 1 + 1 + 1 + 1 + 1 + 1, c7) :: V))
    (h7 : c7.data = .cell (some (.ref tl))) (hIl : tl ≠ I) (hV : ∀ p ∈ V, p.1 ≠ tl) (lt : @LT.lt Nat _ (L + 7) tl) (hlen : tv.length < 8)
    (hd : A.depth + 20 < recursionLimit) (hu : A.units + 100 < cLine)
    (hq : ∀ h tk a9 t1 t2 t3 tail', toldTail tail' → Fr g L h (mOf (tail' ++ [(Str.ofString "script", .ref l)])) → News g L h ((tl, W.listOf (List.toArray (tv ++ [.ref a9])) (e + 1)) :: (a9, colObj (colOf x) t1 t2 t3) :: (I, io) :: (L + 1 + 1 + 1 + 1 + 1 + 1 + 1, c7) :: V) → a9 ≠ tl → a9 ≠ I → Q .next { s0 with heap := h, toks := tk }) :
    wpAny (model PySem.Challenge.rw_pm0032_01.row.prog C.w) A (assign tgt (envOfC q sc L fa cdv) (.int x tx)) (fun _ s₃ => wpAny (model PySem.Challenge.rw_pm0032_01.row.prog C.w) A (execs tb (envOfC q sc L fa cdv)) Q (fun _ _ => False) s₃) (fun _ _ => False) s0 := by
  have X0 := S.X
  revert X0; k_fill; intro X0
  have y : IsLaw C _ _ _ := ⟨_, _, _, _, _, _, _, _, _, _, _, _, by k_is⟩
  obtain ⟨rfl, rfl, e⟩ := hl.same y
  cases e
  clear y hl
  obtain ⟨B', F8, X', T', hA', hf', hk', hh'⟩ := S
  have b1 : 0 ≤ x.fmod 16 ∧ x.fmod 16 < 16 := ⟨Int.fmod_nonneg_of_pos _ (by decide), Int.fmod_lt_of_pos _ (by decide)⟩
  have b2 : 0 ≤ (x.fdiv 16).fmod 4 ∧ (x.fdiv 16).fmod 4 < 4 := ⟨Int.fmod_nonneg_of_pos _ (by decide), Int.fmod_lt_of_pos _ (by decide)⟩
  have b3 : 0 ≤ (x.fdiv 64).fmod 8 ∧ (x.fdiv 64).fmod 8 < 8 := ⟨Int.fmod_nonneg_of_pos _ (by decide), Int.fmod_lt_of_pos _ (by decide)⟩
  have b4 : 0 ≤ (x.fdiv 512).fmod 3 ∧ (x.fdiv 512).fmod 3 < 3 := ⟨Int.fmod_nonneg_of_pos _ (by decide), Int.fmod_lt_of_pos _ (by decide)⟩
  k_unmd
  k_steps
  refine Stop.mk ?_
  rename Fr _ _ _ _ => F7
  rename News _ _ _ _ => N7
  obtain ⟨k, hk, gk⟩ : ∃ k : Nat, x.fmod 16 = (k : Nat) ∧ k < 16 := ⟨(x.fmod 16).toNat, by omega, by omega⟩
  obtain ⟨j, hj, gj⟩ : ∃ k : Nat, (x.fdiv 16).fmod 4 = (k : Nat) ∧ k < 4 := ⟨((x.fdiv 16).fmod 4).toNat, by omega, by omega⟩
  obtain ⟨n, hn, gn⟩ : ∃ k : Nat, (x.fdiv 64).fmod 8 = (k : Nat) ∧ k < 8 := ⟨((x.fdiv 64).fmod 8).toNat, by omega, by omega⟩
  obtain ⟨t, ht, gt⟩ : ∃ k : Nat, (x.fdiv 512).fmod 3 = (k : Nat) ∧ k < 3 := ⟨((x.fdiv 512).fmod 3).toNat, by omega, by omega⟩
  have q1 : Float64.ofFrac false (x.fmod 16).natAbs (Int.natAbs 16) = hueF k := by rw [hk]; rfl
  have q2 : Float64.ofFrac false ((x.fdiv 16).fmod 4 + 1).natAbs (Int.natAbs 4) = shrF j := by rw [hj]; rfl
  have q3 : Float64.ofFrac false ((x.fdiv 64).fmod 8 + 1).natAbs (Int.natAbs 8) = valF n := by rw [hn]; rfl
  have q4 : Float64.add (hueF k) (Float64.ofInt ((x.fdiv 512).fmod 3)) = hT k t := by rw [ht]; rfl
  simp only [q1, q2, q3, q4] at F7 N7 ⊢
  obtain ⟨sg, mm, ee, hdec, hi0, hi1, hi6, hfr⟩ := col_turn gk gt
  refine Pure.use (hsv_spec C g _ _ _ _ _ _ (Nat.succ_ne_zero _) (by simpa using all_lt shr_ne gj) sg mm ee hdec hi0 hi1) B' F7 X' T' hA' hf' hk' hh' N7 F7.keep (by omega) (by omega) ?_
  rintro r h10 tk10 F10 N10 hs10 ⟨ra, tr, tg, tb, rfl, ⟨zr, zg, zb⟩, hr0, hr1⟩
  have N10 := news_add F7 N10 hr0 hr1
  rw [hi6, hfr] at N10
  have hcol := col_ok gk gj gn
  have q5 : hsvOut (trI (Mine.h6 k)) (Float64.sub (Mine.h6 k) (Float64.ofInt (trI (Mine.h6 k)))) (shrF j) (valF n) = rgb0 k j n := rfl
  rw [q5] at N10
  clear q5 hdec hi0 hi1 hi6 hfr F7 N7 hr0 hr1 hs10
  generalize rgb0 k j n = y at N10 hcol
  obtain ⟨yr, yg, yb⟩ := y
  simp only [okCol, Bool.and_eq_true, Bool.not_eq_true'] at hcol
  obtain ⟨⟨⟨hne, hz1⟩, hz2⟩, hback⟩ := hcol
  have hback := eq_of_beq hback
  refine unpackN_ F10 N10 (News.isTup N10 (List.mem_cons_self ..)) hh' rfl rfl ?_
  intro h11 F11 N11
  clear F10 N10
  k_steps
  refine Stop.mk ?_
  rename Fr _ _ _ _ => F12
  rename News _ _ _ _ => N12
  refine Pure.use (rgb_spec C g yr yg yb _ _ _ zr zg zb hne (by rw [hz1]; decide) (by rw [hz2]; decide)) B' F12 X' T' hA' hf' hk' hh' N12 F12.keep (by omega) (by omega) ?_
  rintro r h13 tk13 F13 N13 hs13 ⟨a9, t1, t2, t3, rfl, ⟨z1, z2, z3⟩, hr0, hr1⟩
  have N13 := news_add F12 N13 hr0 hr1
  rw [hback] at N13
  have a9l : a9 ≠ tl := fun q => by
    have e12 := (N12 (tl, W.listOf (List.toArray tv) e) (by k_mem)).1
    rw [q] at hr0
    have e13 := hr0.symm.trans e12
    cases e13
  have a9I : a9 ≠ I := fun q => by
    have e12 := (N12 (I, io) (by k_mem)).1
    rw [q] at hr0
    have e13 := hr0.symm.trans e12
    cases e13
  have N14 : News g L h13 ((tl, W.listOf (List.toArray tv) e) :: (a9, colObj (hueF k, shrF j, valF n) t1 t2 t3) :: (I, io) :: (L + 1 + 1 + 1 + 1 + 1 + 1 + 1, c7) :: V) := by
    (repeat (refine newsC N13 (by k_mem) ?_))
    exact fun p hp => N13 p (by repeat (first | exact hp | refine List.mem_cons_of_mem _ ?_))
  clear N12 N13 F12 hr0 hr1 hs13
  k_steps
  refine Stop.mk ?_
  have hoff : ∀ p ∈ (a9, colObj (hueF k, shrF j, valF n) t1 t2 t3) :: (I, io) :: (L + 1 + 1 + 1 + 1 + 1 + 1 + 1, c7) :: V, p.1 ≠ tl := all_cons a9l (all_cons hIl.symm (all_cons (by show @Ne Nat _ tl; omega) hV))
  refine append_head F13 N14 hoff ?_ ?_
  rotate_left
  · rw [List.size_toArray, sizeLine_eq]; omega
  intro h15 F15 N15
  clear N14 F13
  rw [List.push_toArray] at N15
  have N15 : News g L h15 ((tl, W.listOf (List.toArray (tv ++ [.ref a9])) (e + 1)) :: (a9, colObj (hueF k, shrF j, valF n) t1 t2 t3) :: (I, io) :: (L + 1 + 1 + 1 + 1 + 1 + 1 + 1, c7) :: V) := N15
  k_steps
  refine Stop.mk ?_
  rename Fr _ _ _ _ => F16
  rename News _ _ _ _ => N16
  refine kba_turn (value' := PySem.Expr.Name (PySem.Str.ofString "_") ⟨0, 0, 0, 0⟩) (fun _ => rfl) ?_
  refine kde_neg (News.isList N16 (List.mem_cons_self ..)) (by decide) (by decide) (j := tv.length) (v := .ref a9) (by simp [seqIndex?]; omega) (by simp) ?_
  k_steps
  refine Stop.mk ?_
  rename Fr _ _ _ _ => F17
  rename News _ _ _ _ => N17
  have n17 := N17 _ (List.mem_cons_self ..)
  refine ne_col (x := (hueF k, shrF j, valF n)) (noneBooked_keeps (noneBooked C X' rfl) F17.keep) (N17 (a9, colObj (hueF k, shrF j, valF n) t1 t2 t3) (by k_mem)).1 n17.1 (all_lt hue_eq gk) (all_lt shr_eq gj) (all_lt val_eq gn) z1 z2 z3 (Nat.succ_ne_zero _) (Nat.succ_ne_zero _) (Nat.succ_ne_zero _) (by omega) ?_
  clear n17
  k_steps
  rename Fr _ _ _ _ => F18
  rename News _ _ _ _ => N18
  have hc : colOf x = (hueF k, shrF j, valF n) := by simp [colOf, hk, hj, hn]
  rw [hc] at hq
  have F19 : Fr g L _ _ := Eq.mp (congrArg (Fr g L _) (told_ext htail)) F18
  exact hq _ _ a9 t1 t2 t3 _ (.inr ⟨_, _, _, _, _, _, _, rfl⟩) F19 (news_out N18) a9l a9I
/-- between two turns of the first loop -/
def ToldJ (xs : List Int) (l tl : Addr) (Wl : List (Addr × Obj)) (i : Nat) (m₁ : Str → Option Value) (nx : List (Addr × Obj)) : Prop :=
  ∃ tv e own tail V, nx = ((tl, W.listOf (List.toArray tv) e) :: V) ∧ (∀ p ∈ Wl, p ∈ V) ∧ (∀ p ∈ own, p ∈ V) ∧ (∀ p ∈ V, p.1 ≠ tl) ∧ ColsIn own tv ((xs.take i).map colOf) ∧ toldTail tail ∧ m₁ = mOf (tail ++ [(Str.ofString "script", .ref l)])
set_option maxHeartbeats 4000000 in
theorem told_loop (C : Cx) {A A₀ : Around} {outer : List Env} {base g : Heap} {L fa : Addr} {cdv : Value} {s0 : Shared} {q : Str} {sc : Scope} {a0 a1 : Stmt} {tgt it : Expr} {tb : List Stmt} {pp : Pos} {rest : List Stmt} (hl : IsLaw C q sc (a0 :: a1 :: .For tgt it tb [] pp :: rest))
    {l : Addr} {c7 c6 c5 c4 c3 c2 c1 : Obj} {Q : Flow → Shared → Prop} {tl nl : Addr} {nv : List Value} {xs : List Int}
    (S : Site C A A₀ (envOfC q sc L fa cdv) outer base g L (mOf [(Str.ofString "script", .ref l)]) s0) 
    (N : News g L s0.heap ((tl, W.listOf #[] 0) :: (nl, W.listOf (List.toArray nv) 0) :: lawCells L c7 c6 c5 c4 c3 c2 c1 ++ [(64, tabObj #[]), (85, tabObj #[])]))
    (h7 : c7.data = .cell (some (.ref tl))) (h6 : c6.data = .cell (some (.ref nl)))
    (l64 : @LT.lt Nat _ 64 L) (l85 : @LT.lt Nat _ 85 L) (lt : @LT.lt Nat _ (L + 7) tl) (ln : @LT.lt Nat _ nl tl) (hxs : IntsAre nv xs) (hx8 : xs.length = 8)
    (hd : A.depth + 20 < recursionLimit) (hu : A.units + 100 < cLine) 
    (hq : ∀ h tk tv e own tail, toldTail tail → Fr g L h (mOf (tail ++ [(Str.ofString "script", .ref l)])) → News g L h ((tl, W.listOf (List.toArray tv) e) :: (nl, W.listOf (List.toArray nv) 0) :: lawCells L c7 c6 c5 c4 c3 c2 c1 ++ (64, tabObj #[]) :: (85, tabObj #[]) :: own) → ColsIn own tv (xs.map colOf) → (∀ p ∈ own, p.1 ≠ tl) → Q .next { s0 with heap := h, toks := tk }) :
    wpAny (model PySem.Challenge.rw_pm0032_01.row.prog C.w) A (exec (.For tgt it tb [] pp) (envOfC q sc L fa cdv)) Q (fun _ _ => False) s0 := by
  have S0 := S
  have hl0 := hl
  have X0 := S.X
  revert X0; k_fill; intro X0
  have y : IsLaw C _ _ _ := ⟨_, _, _, _, _, _, _, _, _, _, _, _, by k_is⟩
  obtain ⟨rfl, rfl, e⟩ := hl.same y
  cases e
  clear y hl
  obtain ⟨B', F', X', T', hA', hf', hk', hh'⟩ := S
  simp only [lawCells, List.cons_append, List.nil_append] at N
  have hl' := hl0
  have turn := @told_turn C A A₀ outer base g L fa cdv
  refine For_lst (h₀ := g) hh' ?_ (fun _ => rfl) PassesOwn.never
  k_unmd
  k_steps
  refine Stop.mk ?_
  generalize hW : (nl, W.listOf (List.toArray nv) 0) :: lawCells L c7 c6 c5 c4 c3 c2 c1 ++ [(64, tabObj #[]), (85, tabObj #[])] = Wl
  have hWt : ∀ p ∈ Wl, p.1 ≠ tl := by
    subst hW
    exact all_cons (Nat.ne_of_lt ln) (cells_ne lt (all_cons (by show @Ne Nat 64 tl; omega) (all_cons (by show @Ne Nat 85 tl; omega) all_nil)))
  have hWn : (nl, W.listOf (List.toArray nv) 0) ∈ Wl := by subst hW; exact List.mem_cons_self ..
  have hW7 : (L + 1 + 1 + 1 + 1 + 1 + 1 + 1, c7) ∈ Wl := by subst hW; k_mem
  have NW : News g L s0.heap ((tl, W.listOf #[] 0) :: Wl) := by subst hW; exact N
  refine iter_lst (ToldJ xs l tl Wl)
    (News.isList N (List.mem_cons_of_mem _ (List.mem_cons_self ..))) F' NW (Exists.intro [] ⟨0, [], [], Wl, rfl, fun _ h => h, (fun p hp => nomatch hp), hWt, trivial, .inl rfl, rfl⟩) ?_ ?_ ?_
  · rintro i m₁ nx h9 ⟨tv, e, own, tail, V, rfl, hWV, -, -, -, -⟩ F8 N8
    exact News.isList N8 (List.mem_cons_of_mem _ (hWV _ hWn))
  · rintro i v m₁ nx I io h9 tk9 hv ⟨tv, e, own, tail, V, rfl, hWV, hoV, hVt, hcols, htail, rfl⟩ hI1 hI2 F8 N8
    obtain ⟨x, tx, rfl, hx⟩ : ∃ x t, v = .int x t ∧ xs[i]? = some x := by
      have hi : i < xs.length := by rw [← hxs.length]; exact (List.getElem?_eq_some_iff.mp hv).1
      obtain ⟨t, ht⟩ := hxs.get i xs[i] (List.getElem?_eq_getElem hi)
      rw [ht] at hv; cases hv
      exact ⟨_, _, rfl, List.getElem?_eq_getElem hi⟩
    have F8 : Fr g L h9 _ := F8
    have N8 : News g L h9 _ := N8
    have hi : i < xs.length := (List.getElem?_eq_some_iff.mp hx).1
    have htl : tv.length < 8 := by rw [hcols.length, List.length_map, List.length_take]; omega
    refine turn hl' (S0.go F8) htail (V := V) (I := I) (io := io) (tl := tl) (tv := tv) (e := e) (c7 := c7) ?_ h7 (hI2 (tl, _) (List.mem_cons_self ..)) hVt lt htl hd hu ?_
    · exact newsC N8 (List.mem_cons_self ..) (newsC N8 (List.mem_cons_of_mem _ (List.mem_cons_self ..)) (newsC N8 (List.mem_cons_of_mem _ (List.mem_cons_of_mem _ (hWV _ hW7))) (news_out (news_out N8))))
    intro h tk a9 t1 t2 t3 tail' ht' F9 N9 n1 n2
    refine LstPost.intro F9 N9 ((tl, W.listOf (List.toArray (tv ++ [.ref a9])) (e + 1)) :: (a9, colObj (colOf x) t1 t2 t3) :: V) (by k_mem) (all_cons (by k_mem) (all_cons (by k_mem) fun p hp => (by repeat (first | exact hp | refine List.mem_cons_of_mem _ ?_)))) ?_ (Exists.intro _ ⟨_, (a9, colObj (colOf x) t1 t2 t3) :: own, tail', (a9, colObj (colOf x) t1 t2 t3) :: V, rfl, fun p hp => List.mem_cons_of_mem _ (hWV p hp), all_cons (List.mem_cons_self ..) (fun p hp => List.mem_cons_of_mem _ (hoV p hp)), all_cons n1 hVt, ?_, ht', rfl⟩)
    · exact all_cons (hI2 (tl, W.listOf (List.toArray tv) e) (List.mem_cons_self ..)) (all_cons n2 fun p hp => hI2 p (List.mem_cons_of_mem _ hp))
    · have e1 : (xs.take (i + 1)).map colOf = (xs.take i).map colOf ++ [colOf x] := by
        rw [List.take_add_one, hx, List.map_append]
        rfl
      rw [e1]
      exact ColsIn.snoc ⟨a9, t1, t2, t3, rfl, List.mem_cons_self ..⟩ (hcols.mono fun p hp => List.mem_cons_of_mem _ hp)
  · rintro h tk m₁ news₁ ⟨tv, e, own, tail, V, rfl, hWV, hoV, hVt, hcols, htail, rfl⟩ F N
    subst hW
    refine hq h tk tv e own tail htail F ?_ ?_ (fun p hp => hVt p (hoV p hp))
    · refine newsC N (List.mem_cons_self ..) ?_
      (repeat (refine newsC N (List.mem_cons_of_mem _ (hWV _ (by k_mem))) ?_))
      exact fun p hp => N p (List.mem_cons_of_mem _ (hoV p hp))
    · have e1 : xs.take nv.length = xs := List.take_of_length_le (by rw [hxs.length]; exact Nat.le_refl _)
      rw [e1] at hcols
      exact hcols
end Mine
namespace Mine
theorem topOff24 : True := by w_top off; trivial
noncomputable def hAt (xs : List Int) (n : Int) : Int := (xs.getD n.toNat 0).fmod 16
def rowLt (xs : List Int) (a b : Int) : Prop := hAt xs a < hAt xs b ∨ hAt xs a = hAt xs b ∧ a < b
structure RowOk (xs : List Int) (i : Nat) (ns : List Int) : Prop where
  len : ns.length = i
  mem : ∀ n ∈ ns, 0 ≤ n ∧ n < i
  sorted : ns.Pairwise (rowLt xs)
theorem RowOk.nil {xs : List Int} : RowOk xs 0 [] := ⟨rfl, (fun _ h => nomatch h), .nil⟩
theorem RowOk.insert {xs : List Int} {i p : Nat} {ns : List Int} (R : RowOk xs i ns) (hp : p ≤ ns.length) (h0 : ∀ j (hj : j < ns.length), j < p → ¬ hAt xs i < hAt xs ns[j]) (h1 : ∀ j (hj : j < ns.length), p ≤ j → hAt xs i < hAt xs ns[j]) :
    RowOk xs (i + 1) (ns.take p ++ [(i : Int)] ++ ns.drop p) := by
  have hlen := R.len
  have t0 : ∀ n ∈ ns.take p, rowLt xs n i := fun n hn => by
    obtain ⟨j, hj, rfl⟩ := List.mem_iff_getElem.mp hn
    rw [List.length_take] at hj
    rw [List.getElem_take]
    have h := h0 j (by omega) (by omega)
    have hm := R.mem ns[j] (List.getElem_mem _)
    unfold rowLt
    omega
  have t1 : ∀ n ∈ ns.drop p, rowLt xs i n := fun n hn => by
    obtain ⟨j, hj, rfl⟩ := List.mem_iff_getElem.mp hn
    rw [List.length_drop] at hj
    rw [List.getElem_drop]
    exact .inl (h1 (p + j) (by omega) (by omega))
  refine ⟨by simp; omega, fun n hn => ?_, ?_⟩
  · simp only [List.mem_append, List.mem_singleton] at hn
    rcases hn with (hn | rfl) | hn
    · have := R.mem n (List.mem_of_mem_take hn); omega
    · omega
    · have := R.mem n (List.mem_of_mem_drop hn); omega
  · have hs := R.sorted
    rw [← List.take_append_drop p ns] at hs
    obtain ⟨s1, s2, s3⟩ := List.pairwise_append.mp hs
    rw [List.append_assoc]
    refine List.pairwise_append.mpr ⟨s1, ?_, ?_⟩
    · refine List.pairwise_append.mpr ⟨List.pairwise_singleton _ _, s2, ?_⟩
      intro a ha b hb
      rw [List.mem_singleton] at ha
      subst ha
      exact t1 b hb
    · intro a ha b hb
      simp only [List.mem_append, List.mem_singleton] at hb
      rcases hb with rfl | hb
      · exact t0 a ha
      · exact s3 a ha b hb
noncomputable def kHue (xs : List Int) (n : Int) : UInt64 := ((xs.map colOf).getD n.toNat (0, 0, 0)).1
theorem getD_col (xs : List Int) {n : Int} (h0 : 0 ≤ n) (h1 : n < xs.length) : (xs.map colOf).getD n.toNat (0, 0, 0) = colOf (xs.getD n.toNat 0) := by
  have h : n.toNat < xs.length := by omega
  simp [List.getD, h]
theorem kHue_eq (xs : List Int) {n : Int} (h0 : 0 ≤ n) (h1 : n < xs.length) : kHue xs n = hueF (hAt xs n).toNat := by
  unfold kHue; rw [getD_col xs h0 h1]; rfl
theorem hAt_lo (xs : List Int) (n : Int) : 0 ≤ hAt xs n := Int.fmod_nonneg_of_pos _ (by decide)
theorem hAt_hi (xs : List Int) (n : Int) : hAt xs n < 16 := Int.fmod_lt_of_pos _ (by decide)
theorem cmp_hue {a b : Nat} (ha : a < 16) (hb : b < 16) : (Float64.cmp (hueF a) (hueF b) == some Ordering.lt) = decide (a < b) := by
  rw [hue_cmp ha hb]
  by_cases h : a < b
  · rw [Nat.compare_eq_lt.mpr h]; simp [h]
  · rw [decide_eq_false h]
    cases e : compare a b with
    | lt => exact absurd (Nat.compare_eq_lt.mp e) h
    | eq => rfl
    | gt => rfl
theorem key_lt (xs : List Int) {a b : Int} (ha0 : 0 ≤ a) (ha1 : a < xs.length) (hb0 : 0 ≤ b) (hb1 : b < xs.length) : (Float64.cmp (kHue xs a) (kHue xs b) == some Ordering.lt) = decide (hAt xs a < hAt xs b) := by
  rw [kHue_eq xs ha0 ha1, kHue_eq xs hb0 hb1, cmp_hue (by have := hAt_hi xs a; have := hAt_lo xs a; omega) (by have := hAt_hi xs b; have := hAt_lo xs b; omega)]
  have h1 := hAt_lo xs a
  have h2 := hAt_lo xs b
  by_cases h : hAt xs a < hAt xs b
  · rw [decide_eq_true h, decide_eq_true (by omega)]
  · rw [decide_eq_false h, decide_eq_false (by omega)]
/-- told, out of the ledger -/
theorem colsAt_of {g h : Heap} {L : Addr} {own : List (Addr × Obj)} (N : ∀ p ∈ own, h.get? p.1 = some p.2) : ∀ {vs : List Value} {xs : List Col}, ColsIn own vs xs → ColsAt h vs xs
  | [], [], _ => trivial
  | [], _ :: _, x => x.elim
  | _ :: _, [], x => x.elim
  | _ :: _, _ :: _, ⟨⟨a, t1, t2, t3, e, hm⟩, r⟩ => ⟨⟨a, e, t1, t2, t3, _, N _ hm, rfl, 0, rfl⟩, colsAt_of (g := g) (L := L) N r⟩
end Mine
namespace Mine
theorem topOff25 : True := by w_top off; trivial
theorem cells_85 {L : Addr} (l85 : @LT.lt Nat _ 85 L) {c7 c6 c5 c4 c3 c2 c1 : Obj} {l : List (Addr × Obj)} (r : ∀ p ∈ l, p.1 ≠ 85) : ∀ p ∈ lawCells L c7 c6 c5 c4 c3 c2 c1 ++ l, p.1 ≠ 85 :=
  all_cons ((low_ne (i := 7) l85).symm) (all_cons ((low_ne (i := 6) l85).symm) (all_cons ((low_ne (i := 5) l85).symm) (all_cons ((low_ne (i := 4) l85).symm) (all_cons ((low_ne (i := 3) l85).symm) (all_cons ((low_ne (i := 2) l85).symm) (all_cons ((low_ne (i := 1) l85).symm) (r)))))))
theorem cells_64 {L : Addr} (l64 : @LT.lt Nat _ 64 L) {c7 c6 c5 c4 c3 c2 c1 : Obj} {l : List (Addr × Obj)} (r : ∀ p ∈ l, p.1 ≠ 64) : ∀ p ∈ lawCells L c7 c6 c5 c4 c3 c2 c1 ++ l, p.1 ≠ 64 :=
  all_cons ((low_ne (i := 7) l64).symm) (all_cons ((low_ne (i := 6) l64).symm) (all_cons ((low_ne (i := 5) l64).symm) (all_cons ((low_ne (i := 4) l64).symm) (all_cons ((low_ne (i := 3) l64).symm) (all_cons ((low_ne (i := 2) l64).symm) (all_cons ((low_ne (i := 1) l64).symm) (r)))))))
noncomputable abbrev lamLaw : Str := (Str.ofString "law" ++ ".<locals>.") ++ "<lambda>"
/-- between two turns of the second loop -/
def RowJ (L : Addr) (xs : List Int) (m0 : List (Str × Value)) (T0 N0 : Addr × Obj) (rl : Addr) (own : List (Addr × Obj)) (c7 c6 c5 c4 c3 c2 c1 : Obj) (i : Nat) (m₁ : Str → Option Value) (nx : List (Addr × Obj)) : Prop :=
  ∃ rv re ns own' ps tail, nx = ((rl, W.listOf (List.toArray rv) re) :: T0 :: N0 :: lawCells L c7 c6 c5 c4 c3 c2 c1 ++ (64, tabObj #[]) :: (85, tabObj ps) :: own') ∧
    IntsAre rv ns ∧ RowOk xs i ns ∧ (∀ p ∈ own, p ∈ own') ∧ TabQ own' lamLaw ps ∧ (∀ p ∈ own', p.1 ≠ 85) ∧ (∀ p ∈ own', p.1 ≠ 64) ∧ (∀ p ∈ own', p.1 ≠ rl) ∧ m₁ = mOf (tail ++ m0)
set_option maxHeartbeats 4000000 in
theorem row_loop (C : Cx) {A A₀ : Around} {outer : List Env} {base g : Heap} {L fa : Addr} {cdv : Value} (hcdv : cdv = .ref 87) {s0 : Shared} {q : Str} {sc : Scope} {a0 a1 a2 a3 : Stmt} {tgt it : Expr} {tb : List Stmt} {pp : Pos} {rest : List Stmt} (hl : IsLaw C q sc (a0 :: a1 :: a2 :: a3 :: .For tgt it tb [] pp :: rest))
    {m0 : List (Str × Value)} {c7 c6 c5 c4 c3 c2 c1 : Obj} {Q : Flow → Shared → Prop} {rl tl nl : Addr} {te : Nat} {tv nv : List Value} {xs : List Int} {own : List (Addr × Obj)}
    (S : Site C A A₀ (envOfC q sc L fa cdv) outer base g L (mOf m0) s0) (CH : CodeHd g 87 85)
    (N : News g L s0.heap ((rl, W.listOf #[] 0) :: (tl, W.listOf (List.toArray tv) te) :: (nl, W.listOf (List.toArray nv) 0) :: lawCells L c7 c6 c5 c4 c3 c2 c1 ++ (64, tabObj #[]) :: (85, tabObj #[]) :: own))
    (h7 : c7.data = .cell (some (.ref tl))) (h6 : c6.data = .cell (some (.ref nl))) (h1 : c1.data = .cell (some (.ref rl)))
    (l64 : @LT.lt Nat _ 64 L) (l85 : @LT.lt Nat _ 85 L) (lr : @LT.lt Nat _ (L + 7) rl) (lt : @LT.lt Nat _ L tl) (ln : @LT.lt Nat _ L nl) (lrt : tl ≠ rl) (lrn : nl ≠ rl) (hown : ∀ p ∈ own, p.1 ≠ rl) (hown85 : ∀ p ∈ own, p.1 ≠ 85) (hown64 : ∀ p ∈ own, p.1 ≠ 64) (hxs : IntsAre nv xs) (hx8 : xs.length = 8) (hcols : ColsIn own tv (xs.map colOf))
    (hd : A.depth + 20 < recursionLimit) (hu : A.units + 100 < cLine) 
    (hq : ∀ h tk rv re ns own' ps tail, Fr g L h (mOf (tail ++ m0)) → News g L h ((rl, W.listOf (List.toArray rv) re) :: (tl, W.listOf (List.toArray tv) te) :: (nl, W.listOf (List.toArray nv) 0) :: lawCells L c7 c6 c5 c4 c3 c2 c1 ++ (64, tabObj #[]) :: (85, tabObj ps) :: own') →
      IntsAre rv ns → RowOk xs 8 ns → (∀ p ∈ own, p ∈ own') → TabQ own' lamLaw ps → (∀ p ∈ own', p.1 ≠ 85) → (∀ p ∈ own', p.1 ≠ 64) → (∀ p ∈ own', p.1 ≠ rl) → Q .next { s0 with heap := h, toks := tk }) :
    wpAny (model PySem.Challenge.rw_pm0032_01.row.prog C.w) A (exec (.For tgt it tb [] pp) (envOfC q sc L fa cdv)) Q (fun _ _ => False) s0 := by
  subst hcdv
  have X0 := S.X
  revert X0; k_fill; intro X0
  have y : IsLaw C _ _ _ := ⟨_, _, _, _, _, _, _, _, _, _, _, _, by k_is⟩
  obtain ⟨rfl, rfl, e⟩ := hl.same y
  cases e
  clear y hl
  obtain ⟨B', F', X', T', hA', hf', hk', hh'⟩ := S
  simp only [lawCells, List.cons_append, List.nil_append] at N
  refine For_rng (h₀ := g) hh' ?_ (fun _ => rfl) PassesOwn.never
  k_unmd
  k_steps
  refine Stop.mk ?_
  rename Fr _ _ _ _ => F6
  rename News _ _ _ _ => N6
  rename IsRange _ _ _ _ _ _ _ _ => hr6
  refine iter_rng (n := 8) (RowJ L xs m0 (tl, W.listOf (List.toArray tv) te) (nl, W.listOf (List.toArray nv) 0) rl own c7 c6 c5 c4 c3 c2 c1) hr6 (by decide) F6 N6 (Exists.intro [] ⟨0, [], own, #[], [], rfl, .nil, .nil, (fun _ h => h), .nil, hown85, hown64, hown, rfl⟩) ?_ ?_
  · rintro i t m₁ nx I io h9 tk9 hi ⟨rv, re, ns, own', ps, tail, rfl, hrv, hrow, hsub, hT, ho85, ho64, horl, rfl⟩ hI1 hI2 F8 N8
    have F8 : Fr g L h9 _ := F8
    have N8 : News g L h9 _ := N8
    simp only [lawCells, List.cons_append, List.nil_append] at N8
    clear F6 N6 hr6
    refine abs_post fun QQ hQQ => ?_
    k_unmd
    k_steps
    refine Stop.mk ?_
    rename Fr _ _ _ _ => F9
    rename News _ _ _ _ => N9
    refine kla_eval rfl ?_
    have N9 : News g L _ ([(I, io), (rl, W.listOf (List.toArray rv) re), (tl, W.listOf (List.toArray tv) te), (nl, W.listOf (List.toArray nv) 0), (L + 1 + 1 + 1 + 1 + 1 + 1 + 1, c7), (L + 1 + 1 + 1 + 1 + 1 + 1, c6), (L + 1 + 1 + 1 + 1 + 1, c5), (L + 1 + 1 + 1 + 1, c4), (L + 1 + 1 + 1, c3), (L + 1 + 1, c2), (L + 1, c1), (64, tabObj #[])] ++ (85, tabObj ps) :: own') := N9
    have hI85 : I ≠ 85 := fun e => hI2 (85, tabObj ps) (by k_mem) e.symm
    have lr0 : @LT.lt Nat _ L rl := Nat.lt_of_le_of_lt (Nat.le_add_right L 7) lr
    refine lam_tab F9 N9 T' CH rfl (all_cons hI85 (all_cons (by show @Ne Nat _ 85; omega) (all_cons (by show @Ne Nat _ 85; omega) (all_cons (by show @Ne Nat _ 85; omega) (cells_85 l85 (all_cons (by decide) all_nil)))))) ho85 hT rfl ?_
    rintro f c' ctv h10 tk10 ps' own2 F10 N10 hsub2 hnew2 ho85' hT' hrec ⟨oc, hoc, vs, t9, hd1, hd2⟩ hlt
    simp only [List.cons_append, List.nil_append] at N10
    have ho64' : ∀ p ∈ own2, p.1 ≠ 64 := fun p hp => by
      rcases hnew2 p hp with h | h
      · exact ho64 p h
      · exact Nat.ne_of_gt (h (64, tabObj #[]) (by k_mem))
    have horl2 : ∀ p ∈ own2, p.1 ≠ rl := fun p hp => by
      rcases hnew2 p hp with h | h
      · exact horl p h
      · exact Nat.ne_of_gt (h (rl, W.listOf (List.toArray rv) re) (by k_mem))
    have hI3 : ∀ p ∈ own2, p.1 ≠ I := fun p hp => by
      rcases hnew2 p hp with h | h
      · exact hI2 p (by repeat (first | exact h | refine List.mem_cons_of_mem _ ?_))
      · exact Nat.ne_of_gt (h (I, io) (by k_mem))
    have hflt : rl ≠ f := Nat.ne_of_lt (hlt (rl, W.listOf (List.toArray rv) re) (by k_mem))
    clear N9 F9 hlt
    k_steps
    refine Stop.mk ?_
    rename Fr _ _ _ _ => F11
    rename News _ _ _ _ => N11
    show wpAny _ _ (call (.ref 30) [.ref rl, .int (i : Nat) t] [(Str.ofString "key", .ref f)]) _ _ _
    have hg0 : g.get? rl = none := (N11 (rl, W.listOf (List.toArray rv) re) (by k_mem)).2.2
    have hstay : ∀ {b : Addr} {o : Obj}, h10.get? b = some o → b ≠ rl → (hideAll h10 [rl]).get? b = some o := fun e hb => hideAll_get _ e (by simpa using hb)
    have hTold : ToldAt (hideAll h10 [rl]) tl (xs.map colOf) := by
      refine ⟨tv, ⟨_, hstay (N11 (tl, W.listOf (List.toArray tv) te) (by k_mem)).1 lrt, rfl, _, rfl⟩, colsAt_of (g := g) (L := L) (own := own2) (fun p hp => hstay (N11 p (by repeat (first | exact hp | refine List.mem_cons_of_mem _ ?_))).1 (horl2 p hp)) (hcols.mono fun p hp => hsub2 p (hsub p hp))⟩
    have hkey := key_told C (hideAll h10 [rl]) f (L + 1 + 1 + 1 + 1 + 1 + 1 + 1) tl c' c7 _ _ _ _ _ _ _ _ _ _ (xs.map colOf) (hstay (N11 (f, _) (List.mem_cons_self ..)).1 hflt.symm) ⟨c', oc, vs, t9, rfl, hstay (N11 (c', oc) (by repeat (first | exact hoc | refine List.mem_cons_of_mem _ ?_))).1 (horl2 _ hoc), hd1, hd2⟩
      (hstay (N11 (L + 1 + 1 + 1 + 1 + 1 + 1 + 1, c7) (by k_mem)).1 (by show @Ne Nat _ rl; have lr' : @LT.lt Nat _ (L + 7) rl := lr; omega)) h7 hTold
    refine insort_spec C ⟨B', F11, X', T', hA', hf', hk', hh'⟩ rl f rv re (all_cons (N11 _ (by k_mem)) all_nil) ns hrv (by rw [hrow.len]; omega) i t 2 10 _ (fun n hn => ?_) ?_ _ _ hkey (fun _ _ e => e) (fun j => decide (hAt xs i < hAt xs (ns.getD j 0))) ?_ ?_ (by omega) (by omega) ?_
    · have := hrow.mem n hn; simp only [List.length_map, hx8]; omega
    · simp only [List.length_map, hx8]; omega
    · intro j hj
      have hm := hrow.mem ns[j] (List.getElem_mem _)
      have e : ns.getD j 0 = ns[j] := by simp [List.getD, hj]
      rw [e]
      exact (key_lt xs (by omega) (by omega) hm.1 (by omega)).symm
    · intro a b hab hb hP
      have ha : a < ns.length := by omega
      simp only [List.getD, List.getElem?_eq_getElem ha, List.getElem?_eq_getElem hb, Option.getD_some, decide_eq_true_eq] at hP ⊢
      rcases Nat.lt_or_ge a b with hlt | hge
      · have := List.pairwise_iff_getElem.mp hrow.sorted a b ha hb hlt
        unfold rowLt at this
        omega
      · have : a = b := by omega
        subst this; exact hP
    · intro h12 tk12 p re2 hk12 hl12 hp hp0 hp1
      have hLrl : L ≠ rl := Nat.ne_of_lt lr0
      have F12 := fr_but F11 hk12 hg0 hLrl
      have N12 : News g L h12 ((rl, W.listOf (List.toArray (rv.take p ++ [Value.int (i : Nat) t] ++ rv.drop p)) re2) :: (I, io) :: (tl, W.listOf (List.toArray tv) te) :: (nl, W.listOf (List.toArray nv) 0) :: (L + 1 + 1 + 1 + 1 + 1 + 1 + 1, c7) :: (L + 1 + 1 + 1 + 1 + 1 + 1, c6) :: (L + 1 + 1 + 1 + 1 + 1, c5) :: (L + 1 + 1 + 1 + 1, c4) :: (L + 1 + 1 + 1, c3) :: (L + 1 + 1, c2) :: (L + 1, c1) :: (64, tabObj #[]) :: (85, tabObj ps') :: own2) := by
        refine all_cons ⟨hl12, hLrl.symm, hg0⟩ ?_
        have hoff : ∀ p ∈ (I, io) :: (tl, W.listOf (List.toArray tv) te) :: (nl, W.listOf (List.toArray nv) 0) :: lawCells L c7 c6 c5 c4 c3 c2 c1 ++ (64, tabObj #[]) :: (85, tabObj ps') :: own2, p.1 ≠ rl := all_cons (fun e => hI2 (rl, W.listOf (List.toArray rv) re) (by k_mem) e.symm) (all_cons lrt (all_cons lrn (cells_ne lr (all_cons (by show @Ne Nat 64 rl; omega) (all_cons (by show @Ne Nat 85 rl; omega) horl2)))))
        refine news_but ?_ hk12 hoff
        (repeat (refine newsC N11 (by k_mem) ?_))
        exact fun p hp => N11 p (by repeat (first | exact hp | refine List.mem_cons_of_mem _ ?_))
      clear N11 F11 hTold hkey
      have hrow' := hrow.insert hp (fun j hj hjp => by
        have := hp0 j hjp
        simpa [List.getD, hj] using this) (fun j hj hjp => by
        have := hp1 j hjp hj
        simpa [List.getD, hj] using this)
      have hrv' := ((hrv.take p).append (IntsAre.cons (i : Int) t .nil)).append (hrv.drop p)
      k_steps
      refine hQQ _ _ (LstPost.intro F12 N12 ((rl, W.listOf (List.toArray (rv.take p ++ [Value.int (i : Nat) t] ++ rv.drop p)) re2) :: (tl, W.listOf (List.toArray tv) te) :: (nl, W.listOf (List.toArray nv) 0) :: lawCells L c7 c6 c5 c4 c3 c2 c1 ++ (64, tabObj #[]) :: (85, tabObj ps') :: own2) (by k_mem) ?_ ?_ ?_)
      · (repeat (refine all_cons (by k_mem) ?_))
        exact fun p hp => (by repeat (first | exact hp | refine List.mem_cons_of_mem _ ?_))
      · refine all_cons (hI2 (rl, W.listOf (List.toArray rv) re) (by k_mem)) ?_
        (repeat (refine all_in hI2 (by k_mem) ?_))
        exact all_cons hI85.symm hI3
      · exact Exists.intro _ ⟨_, _, own2, ps', (Str.ofString "k", Value.int (i : Nat) t) :: _, rfl, hrv', hrow', fun p hp => hsub2 p (hsub p hp), hT', ho85', ho64', horl2, mOf_store _ _ _⟩
  · rintro h tk m₁ news₁ ⟨rv, re, ns, own', ps, tail, rfl, hrv, hrow, hsub, hT, ho85, ho64, horl, rfl⟩ F N
    exact hq h tk rv re ns own' ps tail F N hrv hrow hsub hT ho85 ho64 horl
end Mine
namespace Mine
theorem topOff26 : True := by w_top off; trivial
theorem off_w {L a : Addr} (h : @LT.lt Nat _ (L + 1 + 1 + 1 + 1 + 1 + 1 + 1) a) (l64 : @LT.lt Nat _ 64 L) (l85 : @LT.lt Nat _ 85 L) : a ∉ wLaw L := fun hw =>
  have z : ∀ x ∈ wLaw L, @LE.le Nat _ x (L + 7) := all_cons (Nat.le_add_right L 7) (all_cons (Nat.le_trans (Nat.le_of_lt l64) (Nat.le_add_right L 7)) (all_cons (Nat.le_trans (Nat.le_of_lt l85) (Nat.le_add_right L 7)) (all_cons (Nat.le_refl _) (all_cons (Nat.add_le_add_left (by decide : 6 ≤ 7) L) (all_cons (Nat.add_le_add_left (by decide : 5 ≤ 7) L) (all_cons (Nat.add_le_add_left (by decide : 4 ≤ 7) L) (all_cons (Nat.add_le_add_left (by decide : 3 ≤ 7) L) (all_cons (Nat.add_le_add_left (by decide : 2 ≤ 7) L) (all_cons (Nat.add_le_add_left (by decide : 1 ≤ 7) L) all_nil)))))))))
  absurd (z a hw) (Nat.not_le.mpr h)
/-- a lambda of law is made: the ledger after -/
theorem lam_law {M : Model} {A : Around} {E : Value → Shared → Prop} {s : Shared} {h₀ : Heap} {L a : Addr} {m mg mb : Str → Option Value} {cn : Str} {cs : Scope} {cl : List (Str × Addr)} {X ow : List (Addr × Obj)} {c7 c6 c5 c4 c3 c2 c1 : Obj}
    {p : Program} {loose : List Str} {mean : ExcName → Option Value} {name : Str} {params : Arguments} {body : Expr} {scope : Scope} {ps6 ps : Array Value} {pos : Pos} {firstLine : Nat} {clos : List (Str × Addr)} {Q : Value → Shared → Prop}
    (F : Fr h₀ L s.heap m) (N : News h₀ L s.heap (X ++ (lawCells L c7 c6 c5 c4 c3 c2 c1 ++ (64, tabObj ps6) :: (85, tabObj ps) :: ow))) (T : Top p loose mean mg mb h₀) (C : CodeHd h₀ 87 85) (hX : ∀ p ∈ X, p.1 ≠ 85) (l64 : @LT.lt Nat _ 64 L) (l85 : @LT.lt Nat _ 85 L) (how : ∀ p ∈ ow, p.1 ∉ wLaw L) (hT : TabQ ow lamLaw ps)
    (hcl : closureFor scope (envX cn cs L a (.ref 87) cl) = pure clos)
    (h : ∀ f c' ctv h' tk ps' ow', Fr h₀ L h' m → News h₀ L h' ((f, kla_obj name lamLaw params body scope clos ((mg "__name__").getD .none) c' ctv) :: (X ++ (lawCells L c7 c6 c5 c4 c3 c2 c1 ++ (64, tabObj ps6) :: (85, tabObj ps') :: ow'))) → (∀ p ∈ ow, p ∈ ow') →
      (∀ p ∈ ow', p.1 ∉ wLaw L) → TabQ ow' lamLaw ps' → h'.CodeRec (.ref c') lamLaw → Q (.ref f) { s with heap := h', toks := tk }) :
    wpAny M A (makeFunction name lamLaw params (.expr body) scope (envX cn cs L a (.ref 87) cl) [] [] [] pos firstLine) Q E s := by
  have N1 : News h₀ L s.heap ((X ++ (lawCells L c7 c6 c5 c4 c3 c2 c1 ++ [(64, tabObj ps6)])) ++ (85, tabObj ps) :: ow) := fun p hp => N p (by simpa using hp)
  refine lam_tab F N1 T C rfl ?_ (fun p hp e => how p hp (by rw [e]; simp [wLaw])) hT hcl ?_
  · intro p hp
    rcases List.mem_append.mp hp with hp | hp
    · exact hX p hp
    · exact cells_85 l85 (all_cons (by show @Ne Nat 64 85; decide) all_nil) p hp
  · rintro f c' ctv h' tk ps' ow' F' N' hsub hnew _ hT' hrec _ _
    refine h f c' ctv h' tk ps' ow' F' (fun p hp => N' p (by simpa using hp)) hsub (fun p hp => ?_) hT' hrec
    rcases hnew p hp with h | h
    · exact how p h
    · intro hw
      have z1 : @LT.lt Nat _ (L + 1 + 1 + 1 + 1 + 1 + 1 + 1) p.1 := h (L + 1 + 1 + 1 + 1 + 1 + 1 + 1, c7) (List.mem_append_left _ (List.mem_append_right _ (List.mem_cons_self ..)))
      exact off_w z1 l64 l85 hw
end Mine
namespace Mine
theorem topOff27 : True := by w_top off; trivial
noncomputable def bulk (g h : Heap) (W : List Addr) : List (Addr × Obj) :=
  (List.range h.objs.size).filterMap fun b => if b ∈ W ∨ (g.get? b).isSome = true then none else (h.get? b).map fun o => (b, o)
theorem mem_bulk {g h : Heap} {W : List Addr} {p : Addr × Obj} : p ∈ bulk g h W ↔ h.get? p.1 = some p.2 ∧ p.1 ∉ W ∧ g.get? p.1 = none := by
  unfold bulk
  rw [List.mem_filterMap]
  constructor
  · rintro ⟨b, hb, e⟩
    split at e
    · cases e
    · rename_i hn
      rw [not_or] at hn
      cases ho : h.get? b with
      | none => rw [ho] at e; cases e
      | some o =>
        rw [ho] at e
        cases e
        refine ⟨ho, hn.1, ?_⟩
        cases q : g.get? b with
        | none => rfl
        | some o' => rw [q] at hn; simp at hn
  · rintro ⟨h1, h2, h3⟩
    refine ⟨p.1, List.mem_range.mpr (Heap.lt_size h1), ?_⟩
    rw [if_neg (by rw [not_or]; exact ⟨h2, by rw [h3]; simp⟩), h1]
    rfl
theorem bulk_news {g h : Heap} {L : Addr} {W : List Addr} (hL : L ∈ W) : News g L h (bulk g h W) := fun p hp => by
  obtain ⟨h1, h2, h3⟩ := mem_bulk.mp hp
  exact ⟨h1, fun e => h2 (e ▸ hL), h3⟩
theorem bulk_in {g h : Heap} {L : Addr} {W : List Addr} {m : Str → Option Value} (F : Fr g L h m) : ∀ b o, (hideAll h W).get? b = some o → g.get? b = some o ∨ (b, o) ∈ bulk g h W := fun b o e => by
  have hb : b ∉ W := fun q => by have := hideAll_none W (h := h) q; rw [this] at e; cases e
  have e1 := of_hideAll _ e
  cases q : g.get? b with
  | none => exact .inr (mem_bulk.mpr ⟨e1, hb, q⟩)
  | some o' =>
    have := F.keep b o' q
    rw [e1] at this
    exact .inl this.symm
theorem stays_of_in {g H h' : Heap} {L : Addr} {ow news : List (Addr × Obj)} {m' : Str → Option Value} (hin : ∀ b o, H.get? b = some o → g.get? b = some o ∨ (b, o) ∈ ow) (F' : Fr g L h' m') (N : News g L h' news) (hs : ∀ p ∈ ow, p ∈ news) : H.StaysIn h' := fun b o e => by
  rcases hin b o e with h | h
  · exact F'.keep b o h
  · exact (N (b, o) (hs _ h)).1
theorem src_of_in {g H : Heap} {ow news : List (Addr × Obj)} {l : Addr} {its : Array Value} (hin : ∀ b o, H.get? b = some o → g.get? b = some o ∨ (b, o) ∈ ow) (hs : ∀ p ∈ ow, p ∈ news) (hl : H.IsList l its) : LCg.SrcAt g l its news := by
  obtain ⟨o, e, c, n, d⟩ := hl
  rcases hin l o e with h | h
  · exact .inl ⟨o, h, c, n, d⟩
  · exact .inr ⟨o, hs _ h, c, n, d⟩
theorem bulk_off {g h : Heap} {W : List Addr} : ∀ p ∈ bulk g h W, p.1 ∉ W := fun p hp => (mem_bulk.mp hp).2.1
def SeqO (o : Obj) : Prop := ∃ its n, o.data = .seq its n
theorem isList_seq {h h' : Heap} (k : ∀ b o, SeqO o → h.get? b = some o → h'.get? b = some o) {l : Addr} {its : Array Value} (x : h.IsList l its) : h'.IsList l its := let ⟨o, e, c, n, d⟩ := x; ⟨o, k _ _ ⟨_, _, d⟩ e, c, n, d⟩
theorem TreeAt.seq {h h' : Heap} (k : ∀ b o, SeqO o → h.get? b = some o → h'.get? b = some o) : ∀ {t : Tr} {a : Addr}, TreeAt h t a → TreeAt h' t a
  | .leaf _, _, ⟨pa, h1, pv, h2, h3⟩ => ⟨pa, isList_seq k h1, pv, isList_seq k h2, h3⟩
  | .node _ _ _, _, ⟨pa, la, ra, h1, ⟨pv, h2, h3⟩, h4, h5⟩ => ⟨pa, la, ra, isList_seq k h1, ⟨pv, isList_seq k h2, h3⟩, TreeAt.seq k h4, TreeAt.seq k h5⟩
/-- two entries of one ledger at one address are one -/
theorem news_inj {g h : Heap} {L : Addr} {news : List (Addr × Obj)} (N : News g L h news) {p q : Addr × Obj} (hp : p ∈ news) (hq : q ∈ news) (e : p.1 = q.1) : p.2 = q.2 := by
  have h1 := (N p hp).1
  have h2 := (N q hq).1
  rw [e, h2] at h1
  exact (Option.some.inj h1).symm
end Mine
namespace Mine
theorem topOff28 : True := by w_top off; trivial
local macro_rules | `(tactic| walk_at "storeName") => `(tactic| refine Stop.out ?_)
theorem up4 {L rl nl : Addr} (hrl : @LT.lt Nat _ (L + 7) rl) (hnl : @LT.lt Nat _ (L + 7) nl) {a b c7 c6 c5 : Obj} : ∀ p ∈ [(rl, a), (nl, b), (L + 1 + 1 + 1 + 1 + 1 + 1 + 1, c7), (L + 1 + 1 + 1 + 1 + 1 + 1, c6), (L + 1 + 1 + 1 + 1 + 1, c5)], p.1 ≠ L + 1 + 1 + 1 + 1 :=
  all_cons (far_ne (i := 4) hrl (by decide)) (all_cons (far_ne (i := 4) hnl (by decide)) (all_cons (cell_ne (L := L) (i := 7) (j := 4) (by decide)) (all_cons (cell_ne (L := L) (i := 6) (j := 4) (by decide)) (all_cons (cell_ne (L := L) (i := 5) (j := 4) (by decide)) (all_nil)))))
theorem dn4 {L : Addr} (l64 : @LT.lt Nat _ 64 L) (l85 : @LT.lt Nat _ 85 L) {c3 c2 c1 a b : Obj} {ow : List (Addr × Obj)} (h : ∀ p ∈ ow, p.1 ≠ L + 1 + 1 + 1 + 1) : ∀ p ∈ (L + 1 + 1 + 1, c3) :: (L + 1 + 1, c2) :: (L + 1, c1) :: (64, a) :: (85, b) :: ow, p.1 ≠ L + 1 + 1 + 1 + 1 :=
  all_cons (cell_ne (L := L) (i := 3) (j := 4) (by decide)) (all_cons (cell_ne (L := L) (i := 2) (j := 4) (by decide)) (all_cons (cell_ne (L := L) (i := 1) (j := 4) (by decide)) (all_cons (low_ne (i := 4) l64) (all_cons (low_ne (i := 4) l85) (h)))))
def SpansL (ow : List (Addr × Obj)) (sa : Addr) (sp : List (Nat × Nat)) : Prop := ∀ h : Heap, (∀ p ∈ ow, h.get? p.1 = some p.2) → SpansAt h sa sp
noncomputable def spOf (fv lv : Int) (p q : Nat) : List (Nat × Nat) := if fv ≤ lv then [(p, q)] else [(p, 8), (0, q)]
set_option maxHeartbeats 4000000 in
/-- spans = .. -/
theorem law_spans (C : Cx) {A A₀ : Around} {outer : List Env} {base g : Heap} {L fa : Addr} {cdv : Value} (hcdv : cdv = .ref 87) {s0 : Shared} {q : Str} {sc : Scope} {a0 a1 a2 a3 a4 a5 a6 a7 a8 a9 aa ab : Stmt} {tgt it : Expr} {b0 b1 b2 b3 : Stmt} {tb : List Stmt} {pp : Pos} {rest : List Stmt}
    (hl : IsLaw C q sc (a0 :: a1 :: a2 :: a3 :: a4 :: a5 :: a6 :: a7 :: a8 :: a9 :: aa :: ab :: .For tgt it (b0 :: b1 :: b2 :: b3 :: tb) [] pp :: rest))
    {m1 : List (Str × Value)} {c7 c6 c5 c4 c3 c2 c1 : Obj} {v4 : Option Value} {Q : Flow → Shared → Prop} {rl nl : Addr} {re : Nat} {rv nv : List Value} {ow : List (Addr × Obj)} {ps ps6 : Array Value} {fv lv : Int} {ft lt tp tq : Tok} {p q' : Nat}
    (S : Site C A A₀ (envOfC q sc L fa cdv) outer base g L (mOf ((Str.ofString "stop", .int q' tq) :: (Str.ofString "start", .int p tp) :: (Str.ofString "last", .int lv lt) :: m1)) s0)
    (N : News g L s0.heap ((rl, W.listOf (List.toArray rv) re) :: (nl, W.listOf (List.toArray nv) 0) :: lawCells L c7 c6 c5 c4 c3 c2 c1 ++ (64, tabObj ps6) :: (85, tabObj ps) :: ow))
    (h5 : c5.data = .cell (some (.int fv ft))) (h4 : c4.data = .cell v4) (how : ∀ p ∈ ow, p.1 ∉ wLaw L) (l64 : @LT.lt Nat _ 64 L) (l85 : @LT.lt Nat _ 85 L) (hrl : @LT.lt Nat _ (L + 7) rl) (hnl : @LT.lt Nat _ (L + 7) nl)
    (hd : A.depth + 20 < recursionLimit) (hu : A.units + 100 < cLine)
    (hq : ∀ h tk sa o4 ow', Fr g L h (mOf ((Str.ofString "stop", .int q' tq) :: (Str.ofString "start", .int p tp) :: (Str.ofString "last", .int lv lt) :: m1)) → News g L h ((rl, W.listOf (List.toArray rv) re) :: (nl, W.listOf (List.toArray nv) 0) :: lawCells L c7 c6 c5 o4 c3 c2 c1 ++ (64, tabObj ps6) :: (85, tabObj ps) :: ow') → o4.data = .cell (some (.ref sa)) → (∀ p ∈ ow, p ∈ ow') → (∀ p ∈ ow', p.1 ∉ wLaw L) →
      SpansL ow' sa (spOf fv lv p q') → Q .next { s0 with heap := h, toks := tk }) :
    wpAny (model PySem.Challenge.rw_pm0032_01.row.prog C.w) A (exec b3 (envOfC q sc L fa cdv)) Q (fun _ _ => False) s0 := by
  subst hcdv
  have X0 := S.X
  revert X0; k_fill; intro X0
  have y : IsLaw C _ _ _ := ⟨_, _, _, _, _, _, _, _, _, _, _, _, by k_is⟩
  obtain ⟨rfl, rfl, e⟩ := hl.same y
  cases e
  clear y hl
  obtain ⟨B', F', X', T', hA', hf', hk', hh'⟩ := S
  simp only [lawCells, List.cons_append, List.nil_append] at N
  k_unmd
  k_steps
  · refine Stop.mk ?_
    rename_i le1 D h1 lD l h2 F9 N9 lL
    have oD : D ∉ wLaw L := off_w lD.2.2.1 l64 l85
    have ol : l ∉ wLaw L := off_w lL.2.2.2.1 l64 l85
    have ho : ∀ {x : Addr}, x ∉ wLaw L → x ≠ L + 1 + 1 + 1 + 1 := fun h e => h (by rw [e]; simp [wLaw])
    refine store_split (pre := [(l, W.listOf #[Value.ref D] 0), (D, _), (rl, _), (nl, _), (L + 1 + 1 + 1 + 1 + 1 + 1 + 1, c7), (L + 1 + 1 + 1 + 1 + 1 + 1, c6), (L + 1 + 1 + 1 + 1 + 1, c5)]) (post := (L + 1 + 1 + 1, c3) :: (L + 1 + 1, c2) :: (L + 1, c1) :: (64, tabObj ps6) :: (85, tabObj ps) :: ow) F9 N9
      (all_cons (ho ol) (all_cons (ho oD) (up4 hrl hnl))) (dn4 l64 l85 fun p hp => ho (how p hp)) rfl h4 ?_
    intro h14 o4 F14 NN ho4
    have NN : News g L h14 ((l, W.listOf #[Value.ref D] 0) :: (D, { cls := .type "tuple", data := .seq #[Value.int p tp, Value.int q' tq] }) :: (rl, W.listOf (List.toArray rv) re) :: (nl, W.listOf (List.toArray nv) 0) :: (L + 1 + 1 + 1 + 1 + 1 + 1 + 1, c7) :: (L + 1 + 1 + 1 + 1 + 1 + 1, c6) :: (L + 1 + 1 + 1 + 1 + 1, c5) :: (L + 1 + 1 + 1 + 1, o4) :: (L + 1 + 1 + 1, c3) :: (L + 1 + 1, c2) :: (L + 1, c1) :: (64, tabObj ps6) :: (85, tabObj ps) :: ow) := NN
    refine hq h14 _ l o4 ((l, W.listOf #[Value.ref D] 0) :: (D, { cls := .type "tuple", data := .seq #[Value.int p tp, Value.int q' tq] }) :: ow) F14 ?_ ho4 (fun p hp => List.mem_cons_of_mem _ (List.mem_cons_of_mem _ hp)) (all_cons ol (all_cons oD how)) (fun h hh => ?_)
    · (repeat (refine newsC NN (by k_mem) ?_))
      exact fun p hp => NN p (by repeat (first | exact hp | refine List.mem_cons_of_mem _ ?_))
    · unfold spOf
      rw [if_pos le1]
      exact ⟨[.ref D], ⟨_, hh (l, W.listOf #[Value.ref D] 0) (by k_mem), rfl, _, rfl⟩, ⟨D, tp, tq, rfl, ⟨_, hh (D, _) (List.mem_cons_of_mem _ (List.mem_cons_self ..)), rfl, 0, rfl⟩⟩, trivial⟩
  · refine Stop.mk ?_
    rename_i le1 D1 h1 l1 D2 h2 l2 l h3 F9 N9 l3
    have oD1 : D1 ∉ wLaw L := off_w l1.2.2.1 l64 l85
    have oD2 : D2 ∉ wLaw L := off_w l2.2.2.2.1 l64 l85
    have ol : l ∉ wLaw L := off_w l3.2.2.2.2.1 l64 l85
    have ho : ∀ {x : Addr}, x ∉ wLaw L → x ≠ L + 1 + 1 + 1 + 1 := fun h e => h (by rw [e]; simp [wLaw])
    refine store_split (pre := [(l, W.listOf #[Value.ref D1, Value.ref D2] 0), (D2, _), (D1, _), (rl, _), (nl, _), (L + 1 + 1 + 1 + 1 + 1 + 1 + 1, c7), (L + 1 + 1 + 1 + 1 + 1 + 1, c6), (L + 1 + 1 + 1 + 1 + 1, c5)]) (post := (L + 1 + 1 + 1, c3) :: (L + 1 + 1, c2) :: (L + 1, c1) :: (64, tabObj ps6) :: (85, tabObj ps) :: ow) F9 N9
      (all_cons (ho ol) (all_cons (ho oD2) (all_cons (ho oD1) (up4 hrl hnl)))) (dn4 l64 l85 fun p hp => ho (how p hp)) rfl h4 ?_
    intro h14 o4 F14 NN ho4
    have NN : News g L h14 ((l, W.listOf #[Value.ref D1, Value.ref D2] 0) :: (D2, { cls := .type "tuple", data := .seq #[Value.int 0 (s0.toks + 1), Value.int q' tq] }) :: (D1, { cls := .type "tuple", data := .seq #[Value.int p tp, Value.int 8 s0.toks] }) :: (rl, W.listOf (List.toArray rv) re) :: (nl, W.listOf (List.toArray nv) 0) :: (L + 1 + 1 + 1 + 1 + 1 + 1 + 1, c7) :: (L + 1 + 1 + 1 + 1 + 1 + 1, c6) :: (L + 1 + 1 + 1 + 1 + 1, c5) :: (L + 1 + 1 + 1 + 1, o4) :: (L + 1 + 1 + 1, c3) :: (L + 1 + 1, c2) :: (L + 1, c1) :: (64, tabObj ps6) :: (85, tabObj ps) :: ow) := NN
    refine hq h14 _ l o4 ((l, W.listOf #[Value.ref D1, Value.ref D2] 0) :: (D2, { cls := .type "tuple", data := .seq #[Value.int 0 (s0.toks + 1), Value.int q' tq] }) :: (D1, { cls := .type "tuple", data := .seq #[Value.int p tp, Value.int 8 s0.toks] }) :: ow) F14 ?_ ho4 (fun p hp => List.mem_cons_of_mem _ (List.mem_cons_of_mem _ (List.mem_cons_of_mem _ hp))) (all_cons ol (all_cons oD2 (all_cons oD1 how))) (fun h hh => ?_)
    · (repeat (refine newsC NN (by k_mem) ?_))
      exact fun p hp => NN p (by repeat (first | exact hp | refine List.mem_cons_of_mem _ ?_))
    · unfold spOf
      rw [if_neg le1]
      exact ⟨[.ref D1, .ref D2], ⟨_, hh (l, W.listOf #[Value.ref D1, Value.ref D2] 0) (by k_mem), rfl, _, rfl⟩, ⟨D1, tp, _, rfl, ⟨_, hh (D1, _) (List.mem_cons_of_mem _ (List.mem_cons_of_mem _ (List.mem_cons_self ..))), rfl, 0, rfl⟩⟩, ⟨D2, _, tq, rfl, ⟨_, hh (D2, _) (List.mem_cons_of_mem _ (List.mem_cons_self ..)), rfl, 0, rfl⟩⟩, trivial⟩
end Mine
section
open Mine
local macro_rules | `(tactic| walk_at "eval ListComp") => `(tactic| refine Stop.out ?_)
local macro_rules | `(tactic| walk_at "subscriptTail Subscript") => `(tactic| refine Stop.out ?_)
namespace Mine
theorem topOff29 : True := by w_top off; trivial
local macro_rules | `(tactic| walk_at "call type:list") => `(tactic| refine Stop.out ?_)
local macro_rules | `(tactic| walk_at "subscriptTail Name Name") => `(tactic| refine Stop.out ?_)
theorem up2 {L rl nl : Addr} (hrl : @LT.lt Nat _ (L + 7) rl) (hnl : @LT.lt Nat _ (L + 7) nl) {a b c7 c6 c5 c4 c3 : Obj} : ∀ p ∈ [(rl, a), (nl, b), (L + 1 + 1 + 1 + 1 + 1 + 1 + 1, c7), (L + 1 + 1 + 1 + 1 + 1 + 1, c6), (L + 1 + 1 + 1 + 1 + 1, c5), (L + 1 + 1 + 1 + 1, c4), (L + 1 + 1 + 1, c3)], p.1 ≠ L + 1 + 1 :=
  all_cons (far_ne (i := 2) hrl (by decide)) (all_cons (far_ne (i := 2) hnl (by decide)) (all_cons (cell_ne (L := L) (i := 7) (j := 2) (by decide)) (all_cons (cell_ne (L := L) (i := 6) (j := 2) (by decide)) (all_cons (cell_ne (L := L) (i := 5) (j := 2) (by decide)) (all_cons (cell_ne (L := L) (i := 4) (j := 2) (by decide)) (all_cons (cell_ne (L := L) (i := 3) (j := 2) (by decide)) (all_nil)))))))
theorem dn2 {L : Addr} (l64 : @LT.lt Nat _ 64 L) (l85 : @LT.lt Nat _ 85 L) {c1 a b : Obj} {ow : List (Addr × Obj)} (h : ∀ p ∈ ow, p.1 ≠ L + 1 + 1) : ∀ p ∈ (L + 1, c1) :: (64, a) :: (85, b) :: ow, p.1 ≠ L + 1 + 1 :=
  all_cons (cell_ne (L := L) (i := 1) (j := 2) (by decide)) (all_cons (low_ne (i := 2) l64) (all_cons (low_ne (i := 2) l85) (h)))
noncomputable def vAt (xs : List Int) (n : Int) : Nat := (((xs.getD n.toNat 0).fdiv 64).fmod 8).toNat
theorem ColsIn.mono2 {own own' : List (Addr × Obj)} (h : ∀ a x t1 t2 t3, (a, colObj x t1 t2 t3) ∈ own → (a, colObj x t1 t2 t3) ∈ own') : ∀ {vs : List Value} {xs : List Col}, ColsIn own vs xs → ColsIn own' vs xs
  | [], [], _ => trivial
  | [], _ :: _, x => x.elim
  | _ :: _, [], x => x.elim
  | _ :: _, _ :: _, ⟨⟨a, t1, t2, t3, e, hm⟩, r⟩ => ⟨⟨a, t1, t2, t3, e, h _ _ _ _ _ hm⟩, ColsIn.mono2 h r⟩
theorem floats_snoc {vs : List Value} {bs : List UInt64} (h : Flt.FloatsAre vs bs) (b : UInt64) (t : Tok) : Flt.FloatsAre (vs ++ [.float b t]) (bs ++ [b]) := by
  induction h with
  | nil => exact .cons b t .nil
  | cons c u _ ih => exact .cons c u ih
theorem ints_get {vs : List Value} {ns : List Int} (h : IntsAre vs ns) {i : Nat} {v : Value} (hv : vs[i]? = some v) : ∃ n t, v = .int n t ∧ ns[i]? = some n := by
  have hi : i < ns.length := by rw [← h.length]; exact (List.getElem?_eq_some_iff.mp hv).1
  obtain ⟨t, ht⟩ := h.get i ns[i] (List.getElem?_eq_getElem hi)
  rw [ht] at hv; cases hv
  exact ⟨_, _, rfl, List.getElem?_eq_getElem hi⟩
theorem ColsIn.get {own : List (Addr × Obj)} : ∀ {vs : List Value} {xs : List Col} {i : Nat} {x : Col}, ColsIn own vs xs → xs[i]? = some x → ∃ a t1 t2 t3, vs[i]? = some (.ref a) ∧ (a, colObj x t1 t2 t3) ∈ own
  | [], [], _, _, _, e => by simp at e
  | [], _ :: _, _, _, h, _ => h.elim
  | _ :: _, [], _, _, h, _ => h.elim
  | v :: vs, y :: ys, 0, x, h, e => by
    obtain ⟨⟨a, t1, t2, t3, rfl, hm⟩, _⟩ := h
    cases e; exact ⟨a, t1, t2, t3, rfl, hm⟩
  | v :: vs, y :: ys, i + 1, x, h, e => by simpa using ColsIn.get (i := i) h.2 (by simpa using e)
set_option maxHeartbeats 4000000 in
theorem law_treeS (C : Cx) {A A₀ : Around} {outer : List Env} {base g : Heap} {L fa : Addr} {cdv : Value} (hcdv : cdv = .ref 87) {s0 : Shared} {q : Str} {sc : Scope} {a0 a1 a2 a3 a4 a5 a6 a7 a8 a9 aa ab : Stmt} {rest : List Stmt} (hl : IsLaw C q sc (a0 :: a1 :: a2 :: a3 :: a4 :: a5 :: a6 :: a7 :: a8 :: a9 :: aa :: ab :: rest))
    {m0 : List (Str × Value)} {c7 c6 c5 c4 c3 c2 c1 : Obj} {Q : Flow → Shared → Prop} {rl tl nl : Addr} {re te : Nat} {rv tv nv : List Value} {xs ns : List Int} {own : List (Addr × Obj)} {ps : Array Value}
    (S : Site C A A₀ (envOfC q sc L fa cdv) outer base g L (mOf m0) s0) (CH : CodeHd g 87 85) (CH2 : CodeHd g 68 64)
    (N : News g L s0.heap ((rl, W.listOf (List.toArray rv) re) :: (tl, W.listOf (List.toArray tv) te) :: (nl, W.listOf (List.toArray nv) 0) :: lawCells L c7 c6 c5 c4 c3 c2 c1 ++ (64, tabObj #[]) :: (85, tabObj ps) :: own))
    (h7 : c7.data = .cell (some (.ref tl))) (h6 : c6.data = .cell (some (.ref nl))) (h5 : c5.data = .cell none) (h4 : c4.data = .cell none) (h3 : c3.data = .cell none) (h2 : c2.data = .cell none) (h1 : c1.data = .cell (some (.ref rl)))
    (l64 : @LT.lt Nat _ 64 L) (l85 : @LT.lt Nat _ 85 L) (hxs : IntsAre nv xs) (hx8 : xs.length = 8) (hcols : ColsIn own tv (xs.map colOf)) (hrv : IntsAre rv ns) (hrow : RowOk xs 8 ns)
    (hT : TabQ own lamLaw ps) (ho85 : ∀ p ∈ own, p.1 ≠ 85) (ho64 : ∀ p ∈ own, p.1 ≠ 64)
    (htl : @LT.lt Nat _ L tl) (hrl : @LT.lt Nat _ (L + 7) rl) (hnl : @LT.lt Nat _ (L + 7) nl) (hd : A.depth + 20 < recursionLimit) (hu : A.units + 100 < cLine)
    (hq : ∀ h tk ps6 a o2 ow H, Fr g L h (mOf m0) → News g L h ((rl, W.listOf (List.toArray rv) re) :: (nl, W.listOf (List.toArray nv) 0) :: lawCells L c7 c6 c5 c4 c3 o2 c1 ++ (64, tabObj ps6) :: (85, tabObj ps) :: ow) → o2.data = .cell (some (.ref a)) → (∀ b o, H.get? b = some o → g.get? b = some o ∨ (b, o) ∈ ow) →
      TreeAt H (mkTree (ns.map fun n => valF (vAt xs n)) 3 (rangeKs 0 8) 0) a → ToldAt H tl (xs.map colOf) → TabQ ow lamLaw ps → (∀ p ∈ ow, p.1 ∉ wLaw L) → Q .next { s0 with heap := h, toks := tk }) :
    wpAny (model PySem.Challenge.rw_pm0032_01.row.prog C.w) A (exec a5 (envOfC q sc L fa cdv)) Q (fun _ _ => False) s0 := by
  subst hcdv
  have X0 := S.X
  revert X0; k_fill; intro X0
  have y : IsLaw C _ _ _ := ⟨_, _, _, _, _, _, _, _, _, _, _, _, by k_is⟩
  obtain ⟨rfl, rfl, e⟩ := hl.same y
  cases e
  clear y hl
  obtain ⟨B', F', X', T', hA', hf', hk', hh'⟩ := S
  simp only [lawCells, List.cons_append, List.nil_append] at N
  k_unmd
  k_steps
  refine Stop.mk ?_
  rename Fr _ _ _ _ => F5
  rename News _ _ _ _ => N5
  rename IsRange _ _ _ _ _ _ _ _ => hr5
  refine kll_range hh' F5 N5 hr5 (small_one (by decide) (by decide) (by decide) (by decide)) (n := 8) (by rw [rangeSize_one]; rfl) (by decide) ?_
  intro D us ue g7 tk7 F7 N7 l7 hus
  clear F5 N5 hr5
  k_steps
  refine Stop.mk ?_
  refine LCg.ListComp_U (L := L) F7 rfl (by decide) rfl (by decide) rfl ?_
  k_steps
  rename Fr _ _ _ _ => F8
  rename News _ _ _ _ => N8
  refine LCg.CompSrc.ledger (its := List.toArray rv) hh' F8 N8 (List.mem_cons_of_mem _ (List.mem_cons_self ..)) (by rw [List.size_toArray, hrv.length, hrow.len, sizeLine_eq]; omega) fun g9 => ?_
  rw [show (List.toArray rv).size = 8 by rw [List.size_toArray, hrv.length, hrow.len]]
  refine comp_inv (fun i ys news => news = ((D, W.listOf (List.toArray us) ue) :: (rl, W.listOf (List.toArray rv) re) :: (tl, W.listOf (List.toArray tv) te) :: (nl, W.listOf (List.toArray nv) 0) :: lawCells L c7 c6 c5 c4 c3 c2 c1 ++ (64, tabObj #[]) :: (85, tabObj ps) :: own) ∧ Flt.FloatsAre ys ((ns.take i).map fun n => valF (vAt xs n))) 8 ?_ ?_ 8 0 [] _ rfl ⟨rfl, ?_⟩
  · rintro i ys news v I oI C9 oC D9 m₂ h tk E' hi ⟨rfl, hys⟩ hv hC hx F N off ne
    simp only [lawCells, List.cons_append, List.nil_append] at N
    obtain ⟨n, t, rfl, hn⟩ : ∃ n t, v = .int n t ∧ ns[i]? = some n := ints_get hrv (by simpa using hv)
    have hnm := hrow.mem n (List.mem_of_getElem? hn)
    obtain ⟨a, t1, t2, t3, ha, hm⟩ := hcols.get (i := n.toNat) (x := colOf (xs.getD n.toNat 0)) (by
      have : n.toNat < xs.length := by omega
      simp [List.getD, this])
    refine abs_q fun QQ hQQ => ?_
    k_unmd
    k_steps
    refine Stop.mk ?_
    rename Fr _ _ _ _ => F9
    rename News _ _ _ ((I, _) :: _) => N9
    refine item_list (items := List.toArray tv) ⟨_, (N9 (tl, W.listOf (List.toArray tv) te) (by k_mem)).1, rfl, _, rfl⟩ hnm.1 (by omega) (by simpa using ha) ?_
    k_steps
    refine Stop.mk ?_
    rename Fr _ _ _ _ => F10
    rename News _ _ _ ((I, _) :: _) => N10
    refine kba_turn (value' := PySem.Expr.Name (PySem.Str.ofString "_") ⟨0, 0, 0, 0⟩) (fun _ => rfl) ?_
    refine item_tupleT ⟨_, (N10 (a, colObj (colOf (xs.getD n.toNat 0)) t1 t2 t3) (by repeat (first | exact hm | refine List.mem_cons_of_mem _ ?_))).1, rfl, 0, rfl⟩ (by decide) (by decide) (by rfl) (by rfl) ?_
    refine hQQ _ _ (LCg.CompEnd.intro F10 N10 _ (fun _ h => h) off (.inr ⟨W.listOf (List.toArray rv) re, by simp, rfl, _, rfl⟩) ⟨rfl, ?_⟩)
    have e1 : (ns.take (i + 1)).map (fun n => valF (vAt xs n)) = (ns.take i).map (fun n => valF (vAt xs n)) ++ [valF (vAt xs n)] := by
      rw [List.take_add_one, hn, List.map_append]; rfl
    rw [e1]
    exact floats_snoc hys _ _
  · rintro ys news ⟨rfl, hys⟩ D2 h10 tk10 F10 N10 hoff10
    rw [show ns.take 8 = ns by exact List.take_of_length_le (by rw [hrow.len]; exact Nat.le_refl _)] at hys
    simp only [lawCells, List.cons_append, List.nil_append] at N10
    k_steps
    refine Stop.mk ?_
    rename Fr _ _ _ _ => F11
    rename News _ _ _ _ => N11
    have hD64 : D ≠ 64 := Nat.ne_of_gt (l7 (64, tabObj #[]) (by k_mem))
    have hD264 : D2 ≠ 64 := by
      have z1 := (N11 (D2, LCg.lst ys) (by k_mem)).1
      have z2 := (N11 (64, tabObj #[]) (by k_mem)).1
      intro e
      rw [e, z2] at z1
      cases z1
    have g64 : g.get? 64 = none := (N11 (64, tabObj #[]) (by k_mem)).2.2
    have hL64 : L ≠ 64 := Nat.ne_of_gt l64
    refine tree_spec C 3 ⟨B', F11, X', T', hA', hf', hk', hh'⟩ #[] (all_cons (N11 _ (by k_mem)) all_nil) (.inl rfl) CH2 D D2 (rangeKs 0 8) _ ys 0 8 _ _ (by decide) (by decide) (by decide)
      ⟨us, ⟨_, hide64 (N11 (D, W.listOf (List.toArray us) ue) (by k_mem)).1 hD64, rfl, _, rfl⟩, hus⟩ ⟨_, hide64 (N11 (D2, LCg.lst ys) (by k_mem)).1 hD264, rfl, _, rfl⟩ hys (fun p hp => ?_) (by decide) (by rw [List.length_map, hrow.len]; omega) (by omega) (by omega) ?_
    · rw [List.length_map, hrow.len]
      simp only [rangeKs, List.mem_map, List.mem_range] at hp
      obtain ⟨j, hj, rfl⟩ := hp
      omega
    intro a h13 tk13 ps13 hk13 h1364 hT13 ha13 htree
    have F13 := fr_but F11 hk13 g64 hL64
    have NA : News g L h13 ((rl, W.listOf (List.toArray rv) re) :: (tl, W.listOf (List.toArray tv) te) :: (nl, W.listOf (List.toArray nv) 0) :: (L + 1 + 1 + 1 + 1 + 1 + 1 + 1, c7) :: (L + 1 + 1 + 1 + 1 + 1 + 1, c6) :: (L + 1 + 1 + 1 + 1 + 1, c5) :: (L + 1 + 1 + 1 + 1, c4) :: (L + 1 + 1 + 1, c3) :: (L + 1 + 1, c2) :: (L + 1, c1) :: (85, tabObj ps) :: own) := by
      refine news_but ?_ hk13 (all_cons (by show @Ne Nat _ 64; omega) (all_cons (by show @Ne Nat _ 64; omega) (all_cons (by show @Ne Nat _ 64; omega) (cells_64 l64 (all_cons (by show @Ne Nat 85 64; decide) ho64)))))
      (repeat (refine newsC N11 (by k_mem) ?_))
      exact fun p hp => N11 p (by repeat (first | exact hp | refine List.mem_cons_of_mem _ ?_))
    have notCell : ∀ {b : Addr} {o : Obj}, h13.get? b = some o → (∀ v, o.data ≠ .cell v) → b ≠ L → b ≠ 64 → b ≠ 85 → b ∉ wLaw L := by
      intro b o hb hv hbL hb64 hb85 hw
      have cn : ∀ c co v, (c, co) ∈ lawCells L c7 c6 c5 c4 c3 c2 c1 → co.data = .cell v → b ≠ c := by
        intro c co v hc hcd e
        have z := (NA (c, co) (List.mem_cons_of_mem _ (List.mem_cons_of_mem _ (List.mem_cons_of_mem _ (List.mem_append_left _ hc))))).1
        dsimp only at z
        rw [← e, hb] at z
        cases z
        exact hv _ hcd
      simp only [wLaw, List.mem_cons, List.not_mem_nil, or_false] at hw
      rcases hw with h | h | h | h | h | h | h | h | h | h
      · exact hbL h
      · exact hb64 h
      · exact hb85 h
      · exact cn _ c7 _ (by k_mem) h7 h
      · exact cn _ c6 _ (by k_mem) h6 h
      · exact cn _ c5 _ (by k_mem) h5 h
      · exact cn _ c4 _ (by k_mem) h4 h
      · exact cn _ c3 _ (by k_mem) h3 h
      · exact cn _ c2 _ (by k_mem) h2 h
      · exact cn _ c1 _ (by k_mem) h1 h
    have N13 : News g L h13 ((rl, W.listOf (List.toArray rv) re) :: (nl, W.listOf (List.toArray nv) 0) :: (L + 1 + 1 + 1 + 1 + 1 + 1 + 1, c7) :: (L + 1 + 1 + 1 + 1 + 1 + 1, c6) :: (L + 1 + 1 + 1 + 1 + 1, c5) :: (L + 1 + 1 + 1 + 1, c4) :: (L + 1 + 1 + 1, c3) :: (L + 1 + 1, c2) :: (L + 1, c1) :: (64, tabObj ps13) :: (85, tabObj ps) :: bulk g h13 (wLaw L)) := by
      (repeat (refine newsC NA (by k_mem) ?_))
      exact all_cons ⟨h1364, hL64.symm, g64⟩ (newsC NA (by k_mem) (bulk_news (List.mem_cons_self ..)))
    have hbs : ∀ b o, (hideAll h13 (wLaw L)).get? b = some o → g.get? b = some o ∨ (b, o) ∈ bulk g h13 (wLaw L) := bulk_in F13
    have htree' : TreeAt (hideAll h13 (wLaw L)) (mkTree (ns.map fun n => valF (vAt xs n)) 3 (rangeKs 0 8) 0) a := by
      refine htree.seq fun b o ⟨its, k, hseq⟩ hb => ?_
      have hb' := of_hideAll _ hb
      refine hideAll_get _ hb' (notCell hb' (fun v e => by rw [hseq] at e; cases e) (fun e => ?_) (fun e => ?_) (fun e => ?_))
      · obtain ⟨oL, es, ep, hL, hdd, _⟩ := F13.ns
        rw [e, hL] at hb'
        cases hb'
        rw [hseq] at hdd; cases hdd
      · rw [e, h1364] at hb'; cases hb'; cases hseq
      · have := (NA (85, tabObj ps) (by k_mem)).1
        dsimp only at this
        rw [e, this] at hb'; cases hb'; cases hseq
    have own_off : ∀ p ∈ own, (∀ v, p.2.data ≠ .cell v) → p ∈ bulk g h13 (wLaw L) := fun p hp hv => by
      have z := NA p (by repeat (first | exact hp | refine List.mem_cons_of_mem _ ?_))
      exact mem_bulk.mpr ⟨z.1, notCell z.1 hv z.2.1 (ho64 p hp) (ho85 p hp), z.2.2⟩
    have htold' : ToldAt (hideAll h13 (wLaw L)) tl (xs.map colOf) := by
      have ztl := (NA (tl, W.listOf (List.toArray tv) te) (by k_mem)).1
      refine ⟨tv, ⟨_, hideAll_get _ ztl (notCell ztl (fun v e => by cases e) (Nat.ne_of_gt htl) (by show @Ne Nat _ 64; omega) (by show @Ne Nat _ 85; omega)), rfl, _, rfl⟩, colsAt_of (g := g) (L := L) (own := bulk g h13 (wLaw L)) (fun p hp => ?_) (hcols.mono2 fun a x t1 t2 t3 hm => own_off _ hm (fun v e => by cases e))⟩
      obtain ⟨z1, z2, _⟩ := mem_bulk.mp hp
      exact hideAll_get _ z1 z2
    have hT' : TabQ (bulk g h13 (wLaw L)) lamLaw ps := ⟨hT.1, fun pos c e => by
      obtain ⟨c', oc, vs, t, a1, a2, a3, a4⟩ := hT.2 pos c e
      exact ⟨c', oc, vs, t, a1, own_off _ a2 (fun v q => by rw [a3] at q; cases q), a3, a4⟩⟩
    have hboff : ∀ p ∈ bulk g h13 (wLaw L), p.1 ∉ wLaw L := bulk_off
    generalize bulk g h13 (wLaw L) = ow at N13 hbs own_off hT' hboff
    clear N11 F11 hk13 NA
    refine store_split (pre := [(rl, _), (nl, _), (L + 1 + 1 + 1 + 1 + 1 + 1 + 1, c7), (L + 1 + 1 + 1 + 1 + 1 + 1, c6), (L + 1 + 1 + 1 + 1 + 1, c5), (L + 1 + 1 + 1 + 1, c4), (L + 1 + 1 + 1, c3)]) (post := (L + 1, c1) :: (64, tabObj ps13) :: (85, tabObj ps) :: ow) F13 N13
      (up2 hrl hnl) (dn2 l64 l85 fun p hp e => hboff p hp (by rw [e]; simp [wLaw])) rfl h2 ?_
    intro h14 o2 F14 N14 ho2
    exact hq h14 tk13 ps13 a o2 ow (hideAll h13 (wLaw L)) F14 N14 ho2 hbs htree' htold' hT' hboff
  · exact .nil
end Mine
namespace Mine
local macro_rules | `(tactic| walk_at "no such key") => `(tactic| skip)
theorem topOff30 : True := by w_top off; trivial
local macro_rules | `(tactic| walk_at "exec Assign") => `(tactic| refine Stop.out ?_)
local macro_rules | `(tactic| walk_at "subscriptTail Name") => `(tactic| refine Stop.out ?_)
theorem compSrc_of {prog : Program} {w : World} {A : Around} {h₀ : Heap} {L : Addr} {m : Str → Option Value} {env : Env} {elt : Expr} {x : Str} {scope : Scope} {cl : List (Str × Addr)} {Fin : Shared → List Value → List (Addr × Obj) → Prop} {ax : Addr} {its : Array Value} {news : List (Addr × Obj)} {s₁ : Shared}
    (hh : A.handled = none) (F : Fr h₀ L s₁.heap m) (N : News h₀ L s₁.heap news) (S : LCg.SrcAt h₀ ax its news) (hsz : its.size ≤ sizeLine)
    (h : ∀ g, LCg.CompRest prog w A h₀ L m env elt x scope cl { s₁ with heap := g } (LCg.SrcAt h₀ ax its) (fun i v => its[i]? = some v) (Fin { s₁ with heap := g }) its.size 0 [] news) :
    LCg.CompSrc prog w A h₀ L m env elt x scope cl Fin (.ref ax) s₁ := .inl ⟨ax, its, news, rfl, hh, F, N, S, hsz, fun _ ⟨g, e⟩ => e ▸ h g⟩
set_option maxHeartbeats 4000000 in
/-- darker = [row[place] for place in tree[1][0]] -/
theorem law_darker (C : Cx) {A A₀ : Around} {outer : List Env} {base g : Heap} {L fa : Addr} {cdv : Value} (hcdv : cdv = .ref 87) {s0 : Shared} {q : Str} {sc : Scope} {a0 a1 a2 a3 a4 a5 a6 a7 : Stmt} {rest : List Stmt} (hl : IsLaw C q sc (a0 :: a1 :: a2 :: a3 :: a4 :: a5 :: a6 :: a7 :: rest))
    {m0 : List (Str × Value)} {c7 c6 c5 c4 c3 c2 c1 : Obj} {Q : Flow → Shared → Prop} {rl nl a : Addr} {re : Nat} {rv nv : List Value} {ns : List Int} {ow : List (Addr × Obj)} {ps ps6 : Array Value} {H : Heap} {pp : List Int} {tl tr : Tr}
    (S : Site C A A₀ (envOfC q sc L fa cdv) outer base g L (mOf m0) s0)
    (N : News g L s0.heap ((rl, W.listOf (List.toArray rv) re) :: (nl, W.listOf (List.toArray nv) 0) :: lawCells L c7 c6 c5 c4 c3 c2 c1 ++ (64, tabObj ps6) :: (85, tabObj ps) :: ow))
    (h2 : c2.data = .cell (some (.ref a))) (h1 : c1.data = .cell (some (.ref rl))) (hin : ∀ b o, H.get? b = some o → g.get? b = some o ∨ (b, o) ∈ ow) (ht : TreeAt H (.node pp tl tr) a) (hrv : IntsAre rv ns) (hns : ns.length = 8) (hlt : tl.part.length < 20) (hdom : ∀ p ∈ tl.part, 0 ≤ p ∧ p < 8)
    (hq : ∀ D h tk dv, Fr g L h (fun z => if z = Str.ofString "darker" then some (.ref D) else mOf m0 z) → News g L h ((D, LCg.lst dv) :: (rl, W.listOf (List.toArray rv) re) :: (nl, W.listOf (List.toArray nv) 0) :: lawCells L c7 c6 c5 c4 c3 c2 c1 ++ (64, tabObj ps6) :: (85, tabObj ps) :: ow) → IntsAre dv (tl.part.map fun p => ns.getD p.toNat 0) → Q .next { s0 with heap := h, toks := tk }) :
    wpAny (model PySem.Challenge.rw_pm0032_01.row.prog C.w) A (exec a6 (envOfC q sc L fa cdv)) Q (fun _ _ => False) s0 := by
  subst hcdv
  have X0 := S.X
  revert X0; k_fill; intro X0
  have y : IsLaw C _ _ _ := ⟨_, _, _, _, _, _, _, _, _, _, _, _, by k_is⟩
  obtain ⟨rfl, rfl, e⟩ := hl.same y
  cases e
  clear y hl
  obtain ⟨B', F', X', T', hA', hf', hk', hh'⟩ := S
  simp only [lawCells, List.cons_append, List.nil_append] at N
  refine LCg.Assign_ListComp_U (L := L) F' rfl rfl rfl (by decide) rfl (by decide) rfl rfl rfl ?_
  k_unmd
  k_steps
  refine Stop.mk ?_
  rename Fr _ _ _ _ => F6
  rename News _ _ _ _ => N6
  obtain ⟨pa, la, ra, hl1, _, hla, hra⟩ := ht
  obtain ⟨qa, ql, hl2, pv, hpv, hpi⟩ := hla.head
  have st6 : H.StaysIn _ := stays_of_in hin F6 N6 (fun p hp => by repeat (first | exact hp | refine List.mem_cons_of_mem _ ?_))
  refine item_list (hl1.at fun o e => st6 _ o e) (by decide) (by decide) (x := .ref la) rfl ?_
  k_steps
  refine Stop.mk ?_
  rename Fr _ _ _ _ => F7
  rename News _ _ _ _ => N7
  refine kba_turn (value' := PySem.Expr.Name (PySem.Str.ofString "_") ⟨0, 0, 0, 0⟩) (fun _ => rfl) ?_
  refine item_list (hl2.at fun o e => stays_of_in hin F7 N7 (fun p hp => by repeat (first | exact hp | refine List.mem_cons_of_mem _ ?_)) _ o e) (by decide) (by decide) (x := .ref qa) rfl ?_
  refine compSrc_of (its := List.toArray pv) hh' F7 N7 (src_of_in hin (fun p hp => by repeat (first | exact hp | refine List.mem_cons_of_mem _ ?_)) hpv) (by rw [List.size_toArray, hpi.length, sizeLine_eq]; omega) fun g9 => ?_
  rw [List.size_toArray, hpi.length]
  refine comp_inv (fun i ys news => news = ((rl, W.listOf (List.toArray rv) re) :: (nl, W.listOf (List.toArray nv) 0) :: lawCells L c7 c6 c5 c4 c3 c2 c1 ++ (64, tabObj ps6) :: (85, tabObj ps) :: ow) ∧ IntsAre ys ((tl.part.take i).map fun p => ns.getD p.toNat 0)) tl.part.length ?_ ?_ _ 0 [] _ (Nat.zero_add _) ⟨rfl, ?_⟩
  · rintro i ys news v I oI C9 oC D9 m₂ h tk E' hi ⟨rfl, hys⟩ hv hC hx F N off ne
    simp only [lawCells, List.cons_append, List.nil_append] at N
    obtain ⟨n, t, rfl, hn⟩ : ∃ n t, v = .int n t ∧ tl.part[i]? = some n := ints_get hpi (by simpa using hv)
    have hnm := hdom n (List.mem_of_getElem? hn)
    refine abs_q fun QQ hQQ => ?_
    k_unmd
    k_steps
    rename Fr _ _ _ _ => F9
    rename News _ _ _ ((I, _) :: _) => N9
    refine hQQ _ _ (LCg.CompEnd.intro F9 N9 _ (fun _ h => h) off (src_of_in hin (fun p hp => by repeat (first | exact hp | refine List.mem_cons_of_mem _ ?_)) hpv) ⟨rfl, ?_⟩)
    have e1 : (tl.part.take (i + 1)).map (fun p => ns.getD p.toNat 0) = (tl.part.take i).map (fun p => ns.getD p.toNat 0) ++ [ns.getD n.toNat 0] := by
      rw [List.take_add_one, hn, List.map_append]; rfl
    rw [e1]
    exact intsAre_snoc hys _ _
  · rintro ys news ⟨rfl, hys⟩ D h tk F N _
    rw [List.take_of_length_le (Nat.le_refl _)] at hys
    exact hq D h tk ys F N hys
  · exact .nil
set_option maxHeartbeats 4000000 in
/-- lighter = [row[place] for place in tree[2][0]] -/
theorem law_lighter (C : Cx) {A A₀ : Around} {outer : List Env} {base g : Heap} {L fa : Addr} {cdv : Value} (hcdv : cdv = .ref 87) {s0 : Shared} {q : Str} {sc : Scope} {a0 a1 a2 a3 a4 a5 a6 a7 a8 : Stmt} {rest : List Stmt} (hl : IsLaw C q sc (a0 :: a1 :: a2 :: a3 :: a4 :: a5 :: a6 :: a7 :: a8 :: rest))
    {m0 : List (Str × Value)} {c7 c6 c5 c4 c3 c2 c1 : Obj} {Q : Flow → Shared → Prop} {rl nl a dd : Addr} {d0 : List Value} {re : Nat} {rv nv : List Value} {ns : List Int} {ow : List (Addr × Obj)} {ps ps6 : Array Value} {H : Heap} {pp : List Int} {tl tr : Tr}
    (S : Site C A A₀ (envOfC q sc L fa cdv) outer base g L (mOf m0) s0)
    (N : News g L s0.heap ((dd, LCg.lst d0) :: (rl, W.listOf (List.toArray rv) re) :: (nl, W.listOf (List.toArray nv) 0) :: lawCells L c7 c6 c5 c4 c3 c2 c1 ++ (64, tabObj ps6) :: (85, tabObj ps) :: ow))
    (h2 : c2.data = .cell (some (.ref a))) (h1 : c1.data = .cell (some (.ref rl))) (hin : ∀ b o, H.get? b = some o → g.get? b = some o ∨ (b, o) ∈ ow) (ht : TreeAt H (.node pp tl tr) a) (hrv : IntsAre rv ns) (hns : ns.length = 8) (hlt : tr.part.length < 20) (hdom : ∀ p ∈ tr.part, 0 ≤ p ∧ p < 8)
    (hq : ∀ D h tk dv, Fr g L h (fun z => if z = Str.ofString "lighter" then some (.ref D) else mOf m0 z) → News g L h ((D, LCg.lst dv) :: (dd, LCg.lst d0) :: (rl, W.listOf (List.toArray rv) re) :: (nl, W.listOf (List.toArray nv) 0) :: lawCells L c7 c6 c5 c4 c3 c2 c1 ++ (64, tabObj ps6) :: (85, tabObj ps) :: ow) → IntsAre dv (tr.part.map fun p => ns.getD p.toNat 0) → Q .next { s0 with heap := h, toks := tk }) :
    wpAny (model PySem.Challenge.rw_pm0032_01.row.prog C.w) A (exec a7 (envOfC q sc L fa cdv)) Q (fun _ _ => False) s0 := by
  subst hcdv
  have X0 := S.X
  revert X0; k_fill; intro X0
  have y : IsLaw C _ _ _ := ⟨_, _, _, _, _, _, _, _, _, _, _, _, by k_is⟩
  obtain ⟨rfl, rfl, e⟩ := hl.same y
  cases e
  clear y hl
  obtain ⟨B', F', X', T', hA', hf', hk', hh'⟩ := S
  simp only [lawCells, List.cons_append, List.nil_append] at N
  refine LCg.Assign_ListComp_U (L := L) F' rfl rfl rfl (by decide) rfl (by decide) rfl rfl rfl ?_
  k_unmd
  k_steps
  refine Stop.mk ?_
  rename Fr _ _ _ _ => F6
  rename News _ _ _ _ => N6
  obtain ⟨pa, la, ra, hl1, _, hla, hra⟩ := ht
  obtain ⟨qa, ql, hl2, pv, hpv, hpi⟩ := hra.head
  have st6 : H.StaysIn _ := stays_of_in hin F6 N6 (fun p hp => by repeat (first | exact hp | refine List.mem_cons_of_mem _ ?_))
  refine item_list (hl1.at fun o e => st6 _ o e) (by decide) (by decide) (x := .ref ra) rfl ?_
  k_steps
  refine Stop.mk ?_
  rename Fr _ _ _ _ => F7
  rename News _ _ _ _ => N7
  refine kba_turn (value' := PySem.Expr.Name (PySem.Str.ofString "_") ⟨0, 0, 0, 0⟩) (fun _ => rfl) ?_
  refine item_list (hl2.at fun o e => stays_of_in hin F7 N7 (fun p hp => by repeat (first | exact hp | refine List.mem_cons_of_mem _ ?_)) _ o e) (by decide) (by decide) (x := .ref qa) rfl ?_
  refine compSrc_of (its := List.toArray pv) hh' F7 N7 (src_of_in hin (fun p hp => by repeat (first | exact hp | refine List.mem_cons_of_mem _ ?_)) hpv) (by rw [List.size_toArray, hpi.length, sizeLine_eq]; omega) fun g9 => ?_
  rw [List.size_toArray, hpi.length]
  refine comp_inv (fun i ys news => news = ((dd, LCg.lst d0) :: (rl, W.listOf (List.toArray rv) re) :: (nl, W.listOf (List.toArray nv) 0) :: lawCells L c7 c6 c5 c4 c3 c2 c1 ++ (64, tabObj ps6) :: (85, tabObj ps) :: ow) ∧ IntsAre ys ((tr.part.take i).map fun p => ns.getD p.toNat 0)) tr.part.length ?_ ?_ _ 0 [] _ (Nat.zero_add _) ⟨rfl, ?_⟩
  · rintro i ys news v I oI C9 oC D9 m₂ h tk E' hi ⟨rfl, hys⟩ hv hC hx F N off ne
    simp only [lawCells, List.cons_append, List.nil_append] at N
    obtain ⟨n, t, rfl, hn⟩ : ∃ n t, v = .int n t ∧ tr.part[i]? = some n := ints_get hpi (by simpa using hv)
    have hnm := hdom n (List.mem_of_getElem? hn)
    refine abs_q fun QQ hQQ => ?_
    k_unmd
    k_steps
    rename Fr _ _ _ _ => F9
    rename News _ _ _ ((I, _) :: _) => N9
    refine hQQ _ _ (LCg.CompEnd.intro F9 N9 _ (fun _ h => h) off (src_of_in hin (fun p hp => by repeat (first | exact hp | refine List.mem_cons_of_mem _ ?_)) hpv) ⟨rfl, ?_⟩)
    have e1 : (tr.part.take (i + 1)).map (fun p => ns.getD p.toNat 0) = (tr.part.take i).map (fun p => ns.getD p.toNat 0) ++ [ns.getD n.toNat 0] := by
      rw [List.take_add_one, hn, List.map_append]; rfl
    rw [e1]
    exact intsAre_snoc hys _ _
  · rintro ys news ⟨rfl, hys⟩ D h tk F N _
    rw [List.take_of_length_le (Nat.le_refl _)] at hys
    exact hq D h tk ys F N hys
  · exact .nil
end Mine
namespace Mine
local macro_rules | `(tactic| walk_at "no such key") => `(tactic| skip)
theorem topOff31 : True := by w_top off; trivial
local macro_rules | `(tactic| walk_at "storeName") => `(tactic| refine Stop.out ?_)
local macro_rules | `(tactic| walk_at "exec Assign") => `(tactic| refine Stop.out ?_)
local macro_rules | `(tactic| walk_at "CompSrcT") => `(tactic| refine Stop.out ?_)
noncomputable def inArc (xs : List Int) (fv zv : Int) (k : Int) : Bool := decide ((xs.getD k.toNat 0 - fv).fmod 16 < zv)
noncomputable def dueK (xs : List Int) (fv zv : Int) : List Int := (rangeKs 0 8).filter (inArc xs fv zv)
theorem foldl_filter {α : Type} (f : α → Bool) : ∀ (l acc : List α), l.foldl (fun a k => if f k = true then a ++ [k] else a) acc = acc ++ l.filter f
  | [], acc => by simp
  | k :: l, acc => by
    rw [List.foldl_cons, foldl_filter f l, List.filter_cons]
    split <;> simp
set_option maxHeartbeats 4000000 in
/-- due = [k for k in range(8) if ..] -/
theorem law_due (C : Cx) {A A₀ : Around} {outer : List Env} {base g : Heap} {L fa : Addr} {cdv : Value} (hcdv : cdv = .ref 87) {s0 : Shared} {q : Str} {sc : Scope} {a0 a1 a2 a3 a4 a5 a6 a7 a8 a9 aa ab : Stmt} {tgt it : Expr} {b0 b1 b2 b3 b4 : Stmt} {tb : List Stmt} {pp : Pos} {rest : List Stmt}
    (hl : IsLaw C q sc (a0 :: a1 :: a2 :: a3 :: a4 :: a5 :: a6 :: a7 :: a8 :: a9 :: aa :: ab :: .For tgt it (b0 :: b1 :: b2 :: b3 :: b4 :: tb) [] pp :: rest))
    {m1 : List (Str × Value)} {c7 c6 c5 c4 c3 c2 c1 : Obj} {Q : Flow → Shared → Prop} {rl nl : Addr} {re : Nat} {rv nv : List Value} {ow : List (Addr × Obj)} {ps ps6 : Array Value} {fv zv : Int} {ft zt : Tok} {xs : List Int}
    (S : Site C A A₀ (envOfC q sc L fa cdv) outer base g L (mOf m1) s0)
    (N : News g L s0.heap ((rl, W.listOf (List.toArray rv) re) :: (nl, W.listOf (List.toArray nv) 0) :: lawCells L c7 c6 c5 c4 c3 c2 c1 ++ (64, tabObj ps6) :: (85, tabObj ps) :: ow))
    (h6 : c6.data = .cell (some (.ref nl))) (h5 : c5.data = .cell (some (.int fv ft))) (h3 : c3.data = .cell (some (.int zv zt))) (hxs : IntsAre nv xs) (hx8 : xs.length = 8)
    (hd : A.depth + 20 < recursionLimit) (hu : A.units + 100 < cLine)
    (hq : ∀ h tk D ys, Fr g L h (mOf ((Str.ofString "due", .ref D) :: m1)) → News g L h ((D, LCg.lst ys) :: (rl, W.listOf (List.toArray rv) re) :: (nl, W.listOf (List.toArray nv) 0) :: lawCells L c7 c6 c5 c4 c3 c2 c1 ++ (64, tabObj ps6) :: (85, tabObj ps) :: ow) →
      IntsAre ys (dueK xs fv zv) → D ∉ wLaw L → Q .next { s0 with heap := h, toks := tk }) :
    wpAny (model PySem.Challenge.rw_pm0032_01.row.prog C.w) A (exec b4 (envOfC q sc L fa cdv)) Q (fun _ _ => False) s0 := by
  subst hcdv
  have X0 := S.X
  revert X0; k_fill; intro X0
  have y : IsLaw C _ _ _ := ⟨_, _, _, _, _, _, _, _, _, _, _, _, by k_is⟩
  obtain ⟨rfl, rfl, e⟩ := hl.same y
  cases e
  clear y hl
  obtain ⟨B', F', X', T', hA', hf', hk', hh'⟩ := S
  simp only [lawCells, List.cons_append, List.nil_append] at N
  refine LCt.Assign_ListComp_T (L := L) F' rfl rfl rfl (by decide) rfl (by decide) rfl rfl rfl ?_
  k_unmd
  k_steps
  refine Stop.mk ?_
  rename Fr _ _ _ _ => F6
  rename News _ _ _ _ => N6
  rename IsRange _ _ _ _ _ _ _ _ => hr6
  refine LCt.CompSrcT.range hh' F6 N6 hr6 (small_one (by decide) (by decide) (by decide) (by decide)) (n := 8) (by rw [rangeSize_one]; rfl) (by decide) fun g9 => ?_
  refine kci_range (fun l k => if inArc xs fv zv k = true then l ++ [k] else l) ?_ ?_ ?_
  · rintro k t I oI C9 oC D m₂ ys l h tk E' hlo hhi hy hC hx F N off ne mk
    have hk8 : k < 8 := by simpa using hhi
    clear F6 N6 hr6
    k_unmd
    k_steps
    · rename Fr _ _ _ _ => F9
      rename News _ _ _ ((I, _) :: _) => N9
      rename_i hc
      refine LCg.CompEnd.intro F9 N9 _ (fun _ h => h) off trivial (kci_el ?_ rfl rfl)
      rw [if_pos (show inArc xs fv zv k = true from decide_eq_true hc)]
    · rename Fr _ _ _ _ => F9
      rename News _ _ _ ((I, _) :: _) => N9
      rename_i hc
      refine LCg.CompEnd.intro F9 N9 _ (fun _ h => h) off trivial (kci_no ?_ rfl)
      rw [if_neg (by rw [show inArc xs fv zv k = false from decide_eq_false hc]; decide)]
  · intro ys hys _ D h tk F N off
    have e : (rangeKs 0 8).foldl (fun l k => if inArc xs fv zv k = true then l ++ [k] else l) [] = dueK xs fv zv := by
      rw [foldl_filter]; rfl
    rw [e] at hys
    have zL := (N (D, LCg.lst ys) (List.mem_cons_self ..)).2.1
    obtain ⟨_, _, o1, o2, o3, o4, o5, o6, o7, o8, o9, _⟩ := off
    refine hq h tk D ys F N hys fun hw => ?_
    simp only [wLaw, List.mem_cons, List.not_mem_nil, or_false] at hw
    rcases hw with h | h | h | h | h | h | h | h | h | h
    · exact zL h
    · exact o8 h.symm
    · exact o9 h.symm
    · exact o1 h.symm
    · exact o2 h.symm
    · exact o3 h.symm
    · exact o4 h.symm
    · exact o5 h.symm
    · exact o6 h.symm
    · exact o7 h.symm
  · intro l k
    dsimp only
    split <;> simp
end Mine
namespace Mine
theorem topOff32 : True := by w_top off; trivial
local macro_rules | `(tactic| walk_at "subscriptTail Name") => `(tactic| refine Stop.out ?_)
local macro_rules | `(tactic| walk_at "CompSrc") => `(tactic| refine Stop.out ?_)
local macro_rules | `(tactic| walk_at "call builtin:len") => `(tactic| refine Stop.out ?_)
set_option maxHeartbeats 4000000 in
/-- if [row[_law_pick(tree, spans, wish)] for ..] != due: return False -/
theorem law_picks (C : Cx) {A A₀ : Around} {outer : List Env} {base g : Heap} {L fa : Addr} {cdv : Value} (hcdv : cdv = .ref 87) {s0 : Shared} {q : Str} {sc : Scope} {a0 a1 a2 a3 a4 a5 a6 a7 a8 a9 aa ab : Stmt} {tgt it : Expr} {b0 b1 b2 b3 b4 b5 b6 b7 : Stmt} {tb : List Stmt} {pp : Pos} {rest : List Stmt}
    (hl : IsLaw C q sc (a0 :: a1 :: a2 :: a3 :: a4 :: a5 :: a6 :: a7 :: a8 :: a9 :: aa :: ab :: .For tgt it (b0 :: b1 :: b2 :: b3 :: b4 :: b5 :: b6 :: b7 :: tb) [] pp :: rest))
    {m1 : List (Str × Value)} {c7 c6 c5 c4 c3 c2 c1 : Obj} {Q : Flow → Shared → Prop} {rl nl R a sa : Addr} {re rc : Nat} {rv nv ws : List Value} {ow : List (Addr × Obj)} {ps ps6 : Array Value} {es ns : List Int} {H : Heap} {t : Tr} {sp : List (Nat × Nat)}
    (S : Site C A A₀ (envOfC q sc L fa cdv) outer base g L (mOf ((Str.ofString "due", .ref R) :: m1)) s0)
    (N : News g L s0.heap ((R, W.listOf (List.toArray ws) rc) :: (rl, W.listOf (List.toArray rv) re) :: (nl, W.listOf (List.toArray nv) 0) :: lawCells L c7 c6 c5 c4 c3 c2 c1 ++ (64, tabObj ps6) :: (85, tabObj ps) :: ow))
    (h4 : c4.data = .cell (some (.ref sa))) (h1 : c1.data = .cell (some (.ref rl))) (hrv : IntsAre rv ns) (hns : ns.length = 8) (h2 : c2.data = .cell (some (.ref a))) (hin : ∀ b o, H.get? b = some o → g.get? b = some o ∨ (b, o) ∈ ow) (ht : TreeAt H t a) (hg : t.Good) (hsp : SpansL ow sa sp) (hle : ∀ ab ∈ sp, ab.1 ≤ ab.2) (hsl : sp.length < 20)
    (hws : IntsAre ws es) (hel : es.length ≤ 8) (hok : ∀ w, w < es.length → PickOk sp t w ∧ 0 ≤ pickOf sp t w ∧ pickOf sp t w < 8) (hpk : (List.range es.length).map (fun w => ns.getD (pickOf sp t w).toNat 0) = es)
    (hd : A.depth + 20 < recursionLimit) (hu : A.units + 100 < cLine)
    (hq : ∀ h tk, Fr g L h (mOf ((Str.ofString "due", .ref R) :: m1)) → News g L h ((R, W.listOf (List.toArray ws) rc) :: (rl, W.listOf (List.toArray rv) re) :: (nl, W.listOf (List.toArray nv) 0) :: lawCells L c7 c6 c5 c4 c3 c2 c1 ++ (64, tabObj ps6) :: (85, tabObj ps) :: ow) → Q .next { s0 with heap := h, toks := tk }) :
    wpAny (model PySem.Challenge.rw_pm0032_01.row.prog C.w) A (exec b7 (envOfC q sc L fa cdv)) Q (fun _ _ => False) s0 := by
  subst hcdv
  have X0 := S.X
  revert X0; k_fill; intro X0
  have y : IsLaw C _ _ _ := ⟨_, _, _, _, _, _, _, _, _, _, _, _, by k_is⟩
  obtain ⟨rfl, rfl, e⟩ := hl.same y
  cases e
  clear y hl
  obtain ⟨B', F', X', T', hA', hf', hk', hh'⟩ := S
  simp only [lawCells, List.cons_append, List.nil_append] at N
  k_unmd
  k_steps
  refine Stop.mk ?_
  refine LCg.ListComp_U (L := L) F' rfl (by decide) rfl (by decide) rfl ?_
  k_steps
  refine Stop.mk ?_
  rename Fr _ _ _ _ => F6
  rename News _ _ _ _ => N6
  refine len_ints_fit (News.isList N6 (List.mem_cons_self ..)) hws (by omega) ?_
  k_steps
  refine Stop.mk ?_
  rename Fr _ _ _ _ => F7
  rename News _ _ _ _ => N7
  rename IsRange _ _ _ _ _ _ _ _ => hr7
  have hrs : Builtin.Range.rangeSize 0 ((es.length : Nat) : Int) 1 = (es.length : Nat) := by rw [rangeSize_one]; split <;> omega
  refine LCg.CompSrc.range hh' F7 N7 hr7 (small_one (by decide) (by decide) (by omega) (by omega)) (n := es.length) hrs (by rw [sizeLine_eq]; omega) fun g9 => ?_
  refine comp_inv (fun i ys news => news = ((R, W.listOf (List.toArray ws) rc) :: (rl, W.listOf (List.toArray rv) re) :: (nl, W.listOf (List.toArray nv) 0) :: lawCells L c7 c6 c5 c4 c3 c2 c1 ++ (64, tabObj ps6) :: (85, tabObj ps) :: ow) ∧ IntsAre ys ((List.range i).map fun w => ns.getD (pickOf sp t w).toNat 0)) es.length ?_ ?_ es.length 0 [] _ (Nat.zero_add _) ⟨rfl, ?_⟩
  · rintro i ys news v I oI C9 oC D9 m₂ h tk E' hi ⟨rfl, hys⟩ ⟨tv, rfl⟩ hC hx F N off ne
    simp only [lawCells, List.cons_append, List.nil_append] at N
    rw [Int.zero_add] at hx
    refine abs_q fun QQ hQQ => ?_
    k_unmd
    k_steps
    refine Stop.mk ?_
    rename Fr _ _ _ _ => F8
    rename News _ _ _ ((I, _) :: _) => N8
    obtain ⟨ok1, ok2, ok3⟩ := hok i hi
    have st8 : H.StaysIn _ := stays_of_in hin F8 N8 (fun p hp => by repeat (first | exact hp | refine List.mem_cons_of_mem _ ?_))
    refine Pure.use (pick_spec C _ a sa t i tv sp (ht.keeps st8) hg ok1 (hsp _ fun p hp => (N8 p (by repeat (first | exact hp | refine List.mem_cons_of_mem _ ?_))).1) hle hsl) B' F8 X' T' hA' hf' hk' hh' N8 (fun _ _ e => e) (by omega) (by omega) ?_
    rintro r h9 tk9 F9 N9 hs9 ⟨t9, rfl⟩
    clear F8 N8 hs9
    k_steps
    refine Stop.mk ?_
    rename Fr _ _ _ _ => F10
    rename News _ _ _ ((I, _) :: _) => N10
    refine item_list_ints (l := rl) ⟨_, (N10 (rl, W.listOf (List.toArray rv) re) (by k_mem)).1, rfl, _, rfl⟩ hrv ok2 (by omega) (by omega) ?_
    intro t10
    refine hQQ _ _ (LCg.CompEnd.intro F10 N10 _ (fun _ h => h) off trivial ⟨rfl, ?_⟩)
    have e1 : (List.range (i + 1)).map (fun w => ns.getD (pickOf sp t w).toNat 0) = (List.range i).map (fun w => ns.getD (pickOf sp t w).toNat 0) ++ [ns.getD (pickOf sp t i).toNat 0] := by
      rw [List.range_succ, List.map_append]; rfl
    rw [e1]
    exact intsAre_snoc hys _ _
  · rintro ys news ⟨rfl, hys⟩ D h tk F N _
    rw [hpk] at hys
    simp only [lawCells, List.cons_append, List.nil_append] at N
    clear F7 N7 hr7
    k_steps
    refine Stop.mk ?_
    rename Fr _ _ _ _ => F11
    rename News _ _ _ _ => N11
    refine ne_intsK (vs := ys) (us := ws) ⟨_, (N11 (D, LCg.lst ys) (List.mem_cons_self ..)).1, rfl, _, rfl⟩ hys ⟨_, (N11 (R, W.listOf (List.toArray ws) rc) (by k_mem)).1, rfl, _, rfl⟩ hws (by omega) ?_
    rw [decide_eq_true rfl, Bool.not_true]
    k_steps
    rename Fr _ _ _ _ => F12
    rename News _ _ _ _ => N12
    exact hq _ _ F12 (news_out N12)
  · exact .nil
end Mine
end
namespace Mine
theorem topOff33 : True := by w_top off; trivial
local macro_rules | `(tactic| walk_at "binaryOp Mult ref int") => `(tactic| refine Stop.out ?_)
noncomputable def lightN (xs : List Int) (i : Int) : Bool := decide (Int.fmod (Int.fdiv (xs.getD i.toNat 0) 256) 2 ≠ 0)
/-- two pairs of lists of ints -/
theorem ne_pairs {prog : Program} {w : World} {A : Around} {E : Value → Shared → Prop} {s : Shared} {Q : Value → Shared → Prop} {a b x1 x2 y1 y2 : Addr} {v1 v2 w1 w2 : List Value} {p1 p2 : List Int}
    (ha : ∃ o n, s.heap.get? a = some o ∧ o.cls = .type "tuple" ∧ o.data = .seq #[Value.ref x1, .ref x2] n) (hb : ∃ o n, s.heap.get? b = some o ∧ o.cls = .type "tuple" ∧ o.data = .seq #[Value.ref y1, .ref y2] n)
    (h1 : s.heap.IsList x1 v1.toArray) (h2 : s.heap.IsList x2 v2.toArray) (h3 : s.heap.IsList y1 w1.toArray) (h4 : s.heap.IsList y2 w2.toArray)
    (i1 : IntsAre v1 p1) (i2 : IntsAre v2 p2) (i3 : IntsAre w1 p1) (i4 : IntsAre w2 p2) (hu : A.units + 64 < cLine) (h : Q (.bool false) s) : wpAny (model prog w) A (compareOp .NotEq (.ref a) (.ref b)) Q E s := by
  obtain ⟨oa, na, ea, ca, da⟩ := ha
  obtain ⟨ob, nb, eb, cb, db⟩ := hb
  have sh : SeqAt.shaped (.tuple [.list (p1.map PyData.int), .list (p2.map PyData.int)]) = true := by
    have k1 := W.depthAll_ints p1
    have k2 := W.depthAll_ints p2
    unfold SeqAt.shaped
    rw [Bool.and_eq_true]
    refine ⟨by simp [PyData.canLay0, PyData.canLayAll0, canLayAll0_ints], decide_eq_true ?_⟩
    simp only [PyData.depth, PyData.depthAll]
    omega
  refine ne_dataH_same (reads_tuple_at ea ca da (ReadsAll.cons (reads_of_ints h1 i1) (.cons (reads_of_ints h2 i2) .nil))) (reads_tuple_at eb cb db (ReadsAll.cons (reads_of_ints h3 i3) (.cons (reads_of_ints h4 i4) .nil))) sh sh hu ?_ ?_
  · simp [SeqAt.noMix, SeqAt.noMixAll, noMix_ints]
  · have e : PySem.Spec.same (.tuple [.list (p1.map PyData.int), .list (p2.map PyData.int)]) (.tuple [.list (p1.map PyData.int), .list (p2.map PyData.int)]) = true := by
      simp [PySem.Spec.same, PySem.Spec.sameAll, same_ints]
    rw [e]; exact h
set_option maxHeartbeats 4000000 in
/-- if _split_list(row + row, ..) != (lighter * 2, darker * 2): return False -/
theorem law_split (C : Cx) {A A₀ : Around} {outer : List Env} {base g : Heap} {L fa : Addr} {cdv : Value} (hcdv : cdv = .ref 87) {s0 : Shared} {q : Str} {sc : Scope} {a0 a1 a2 a3 a4 a5 a6 a7 a8 : Stmt} {rest : List Stmt} (hl : IsLaw C q sc (a0 :: a1 :: a2 :: a3 :: a4 :: a5 :: a6 :: a7 :: a8 :: rest))
    {m1 : List (Str × Value)} {c7 c6 c5 c4 c3 c2 c1 : Obj} {Q : Flow → Shared → Prop} {rl nl dd dl : Addr} {d0 l0 : List Value} {re : Nat} {rv nv : List Value} {xs ns ds ls : List Int} {ow : List (Addr × Obj)} {ps ps6 : Array Value}
    (S : Site C A A₀ (envOfC q sc L fa cdv) outer base g L (mOf ((Str.ofString "lighter", .ref dl) :: (Str.ofString "darker", .ref dd) :: m1)) s0) (CH : CodeHd g 87 85)
    (N : News g L s0.heap ((dl, LCg.lst l0) :: (dd, LCg.lst d0) :: (rl, W.listOf (List.toArray rv) re) :: (nl, W.listOf (List.toArray nv) 0) :: lawCells L c7 c6 c5 c4 c3 c2 c1 ++ (64, tabObj ps6) :: (85, tabObj ps) :: ow))
    (h6 : c6.data = .cell (some (.ref nl))) (h1 : c1.data = .cell (some (.ref rl))) (hrv : IntsAre rv ns) (hns : ns.length = 8) (hxs : IntsAre nv xs) (hx8 : xs.length = 8) (hdom : ∀ n ∈ ns, 0 ≤ n ∧ n < 8)
    (hdv : IntsAre d0 ds) (hlv : IntsAre l0 ls) (hT : TabQ ow lamLaw ps) (how : ∀ p ∈ ow, p.1 ∉ wLaw L) (l64 : @LT.lt Nat _ 64 L) (l85 : @LT.lt Nat _ 85 L) (hdl : @Ne Nat dl 85) (hdd : @Ne Nat dd 85) (hrl : @LT.lt Nat _ (L + 7) rl) (hnl : @LT.lt Nat _ (L + 7) nl)
    (heL : ns.filter (lightN xs) = ls) (heD : ns.filter (fun n => !lightN xs n) = ds)
    (hd : A.depth + 20 < recursionLimit) (hu : A.units + 100 < cLine)
    (hq : ∀ h tk ps' ow' m', Fr g L h (mOf m') → News g L h ((rl, W.listOf (List.toArray rv) re) :: (nl, W.listOf (List.toArray nv) 0) :: lawCells L c7 c6 c5 c4 c3 c2 c1 ++ (64, tabObj ps6) :: (85, tabObj ps') :: ow') → (∀ p ∈ ow, p ∈ ow') → TabQ ow' lamLaw ps' → (∀ p ∈ ow', p.1 ∉ wLaw L) → Q .next { s0 with heap := h, toks := tk }) :
    wpAny (model PySem.Challenge.rw_pm0032_01.row.prog C.w) A (exec a8 (envOfC q sc L fa cdv)) Q (fun _ _ => False) s0 := by
  subst hcdv
  have X0 := S.X
  revert X0; k_fill; intro X0
  have y : IsLaw C _ _ _ := ⟨_, _, _, _, _, _, _, _, _, _, _, _, by k_is⟩
  obtain ⟨rfl, rfl, e⟩ := hl.same y
  cases e
  clear y hl
  obtain ⟨B', F', X', T', hA', hf', hk', hh'⟩ := S
  simp only [lawCells, List.cons_append, List.nil_append] at N
  k_unmd
  k_steps
  refine Stop.mk ?_
  rename Fr _ _ _ _ => F6
  rename News _ _ _ _ => N6
  rename IntsAre _ (_ ++ _) => hI6
  have N6 : News g L _ ([(_, W.listOf (List.toArray _) 0), (dl, LCg.lst l0), (dd, LCg.lst d0), (rl, W.listOf (List.toArray rv) re), (nl, W.listOf (List.toArray nv) 0), (L + 1 + 1 + 1 + 1 + 1 + 1 + 1, c7), (L + 1 + 1 + 1 + 1 + 1 + 1, c6), (L + 1 + 1 + 1 + 1 + 1, c5), (L + 1 + 1 + 1 + 1, c4), (L + 1 + 1 + 1, c3), (L + 1 + 1, c2), (L + 1, c1), (64, tabObj ps6)] ++ (85, tabObj ps) :: ow) := N6
  refine kla_eval rfl ?_
  have ho85 : ∀ p ∈ ow, p.1 ≠ 85 := fun p hp e => how p hp (by rw [e]; simp [wLaw])
  refine lam_tab F6 N6 T' CH rfl (all_cons (by show @Ne Nat _ 85; omega) (all_cons (by show @Ne Nat _ 85; omega) (all_cons (by show @Ne Nat _ 85; omega) (all_cons (by show @Ne Nat _ 85; omega) (all_cons (by show @Ne Nat _ 85; omega) (cells_85 l85 (all_cons (by show @Ne Nat 64 85; decide) all_nil))))))) ho85 hT rfl ?_
  rintro f c' ctv h10 tk10 ps' own2 F10 N10 hsub2 hnew2 ho85' hT' hrec ⟨oc, hoc, vs, t9, hd1, hd2⟩ hlt
  simp only [List.cons_append, List.nil_append] at N10
  have hoff2 : ∀ p ∈ own2, p.1 ∉ wLaw L := fun p hp => by
    rcases hnew2 p hp with h | h
    · exact how p h
    · intro hw
      have zL := (N10 p (by repeat (first | exact hp | refine List.mem_cons_of_mem _ ?_))).2.1
      have z1 := h (L + 1 + 1 + 1 + 1 + 1 + 1 + 1, c7) (by k_mem)
      have z2 := h (85, tabObj ps) (by k_mem)
      have z3 := h (64, tabObj ps6) (by k_mem)
      simp only [wLaw, List.mem_cons, List.not_mem_nil, or_false] at hw
      have z1 : @LT.lt Nat _ (L + 1 + 1 + 1 + 1 + 1 + 1 + 1) p.1 := z1
      have z2 : @LT.lt Nat _ 85 p.1 := z2
      have z3 : @LT.lt Nat _ 64 p.1 := z3
      have hw : @Eq Nat p.1 L ∨ @Eq Nat p.1 64 ∨ @Eq Nat p.1 85 ∨ @Eq Nat p.1 (L + 1 + 1 + 1 + 1 + 1 + 1 + 1) ∨ @Eq Nat p.1 (L + 1 + 1 + 1 + 1 + 1 + 1) ∨ @Eq Nat p.1 (L + 1 + 1 + 1 + 1 + 1) ∨ @Eq Nat p.1 (L + 1 + 1 + 1 + 1) ∨ @Eq Nat p.1 (L + 1 + 1 + 1) ∨ @Eq Nat p.1 (L + 1 + 1) ∨ @Eq Nat p.1 (L + 1) := hw
      omega
  clear N6 F6 hlt hnew2
  k_steps
  refine Stop.mk ?_
  rename Fr _ _ _ _ => F11
  rename News _ _ _ _ => N11
  have hPred := pred_num C h10 f (L + 1 + 1 + 1 + 1 + 1 + 1) nl c' c6 _ _ _ _ _ _ _ _ _ _ _ _ xs nv (N11 _ (List.mem_cons_self ..)).1 hrec (N11 (L + 1 + 1 + 1 + 1 + 1 + 1, c6) (by k_mem)).1 h6 ⟨_, (N11 (nl, W.listOf (List.toArray nv) 0) (by k_mem)).1, rfl, _, rfl⟩ hxs
  refine Pure.use (split_spec C h10 _ f _ (ns ++ ns) ⟨_, (N11 _ (List.mem_cons_of_mem _ (List.mem_cons_self ..))).1, rfl, _, rfl⟩ hI6 (by simp [hns]) 2 10 _ (fun x hx => by
    have hx' : x ∈ ns := by simpa using hx
    have := hdom x hx'
    exact ⟨this.1, by rw [hx8]; omega, by omega⟩) _ hPred) B' F11 X' T' hA' hf' hk' hh' N11 (fun _ _ e => e) (by omega) (by omega) ?_
  rintro r h12 tk12 F12 N12 hs12 ⟨sa, sy, sn, rfl, hsa0, hsa, ⟨hsy0, vy, ey, hvy, hsy⟩, ⟨hsn0, vn, en, hvn, hsn⟩⟩
  have N12 := news_add F11 (news_add F11 (news_add F11 N12 hsn0 hsn) hsy0 hsy) hsa0 hsa
  clear N11 F11 hPred hs12 hsa hsy hsn
  have hl0 : l0.length ≤ 8 := by rw [hlv.length, ← heL]; exact Nat.le_trans (List.length_filter_le _ _) (Nat.le_of_eq hns)
  have hd0 : d0.length ≤ 8 := by rw [hdv.length, ← heD]; exact Nat.le_trans (List.length_filter_le _ _) (Nat.le_of_eq hns)
  k_steps
  refine Stop.mk ?_
  rename Fr _ _ _ _ => F13
  rename News _ _ _ _ => N13
  refine KMa.mul F13 N13 (vs := l0) ⟨_, (N13 (dl, LCg.lst l0) (by k_mem)).1, rfl, _, rfl⟩ (by decide) (by decide) (by show l0.length * 2 ≤ 256; omega) (ws := l0 ++ l0) (by simp [List.replicate_succ]) ?_
  intro E1 h14 F14 N14 _
  clear F13 N13
  k_steps
  refine Stop.mk ?_
  rename Fr _ _ _ _ => F15
  rename News _ _ _ _ => N15
  refine KMa.mul F15 N15 (vs := d0) ⟨_, (N15 (dd, LCg.lst d0) (by k_mem)).1, rfl, _, rfl⟩ (by decide) (by decide) (by show d0.length * 2 ≤ 256; omega) (ws := d0 ++ d0) (by simp [List.replicate_succ]) ?_
  intro E2 h16 F16 N16 _
  clear F15 N15
  k_steps
  refine Stop.mk ?_
  rename Fr _ _ _ _ => F17
  rename News _ _ _ _ => N17
  have n17 := (N17 _ (List.mem_cons_self ..)).1
  have eY : (ns ++ ns).filter (lightN xs) = ls ++ ls := by rw [List.filter_append, heL]
  have eN : (ns ++ ns).filter (fun n => !lightN xs n) = ds ++ ds := by rw [List.filter_append, heD]
  have hvy' : IntsAre vy (ls ++ ls) := by rw [← eY]; exact hvy
  have hvn' : IntsAre vn (ds ++ ds) := by rw [← eN]; exact hvn
  refine ne_pairs (x1 := sy) (x2 := sn) (y1 := E1) (y2 := E2) (v1 := vy) (v2 := vn) (w1 := l0 ++ l0) (w2 := d0 ++ d0) (p1 := ls ++ ls) (p2 := ds ++ ds) ⟨_, 0, (N17 (sa, _) (List.mem_cons_of_mem _ (List.mem_cons_of_mem _ (List.mem_cons_of_mem _ (List.mem_cons_self ..))))).1, rfl, rfl⟩ ⟨_, 0, n17, rfl, rfl⟩
    ⟨_, (N17 (sy, W.listOf (List.toArray vy) ey) (by k_mem)).1, rfl, _, rfl⟩ ⟨_, (N17 (sn, W.listOf (List.toArray vn) en) (by k_mem)).1, rfl, _, rfl⟩ ⟨_, (N17 (E1, W.listOf (List.toArray (l0 ++ l0)) 0) (by k_mem)).1, rfl, _, rfl⟩ ⟨_, (N17 (E2, W.listOf (List.toArray (d0 ++ d0)) 0) (by k_mem)).1, rfl, _, rfl⟩
    hvy' hvn' (hlv.append hlv) (hdv.append hdv) (by omega) ?_
  clear n17
  k_steps
  rename Fr _ _ _ _ => F18
  rename News _ _ _ _ => N18
  refine hq _ _ ps' own2 _ F18 ?_ hsub2 hT' hoff2
  (repeat (refine newsC N18 (by k_mem) ?_))
  exact fun p hp => N18 p (by repeat (first | exact hp | refine List.mem_cons_of_mem _ ?_))
end Mine
namespace Mine
theorem topOff34 : True := by w_top off; trivial
local macro_rules | `(tactic| walk_at "execs cons For cons") => `(tactic| refine Stop.out ?_)
local macro_rules | `(tactic| walk_at "exec For") => `(tactic| refine Stop.out ?_)
theorem sum_lst {prog : Program} {w : World} {A : Around} {E : Value → Shared → Prop} {s : Shared} {h₀ : Heap} {L l : Addr} {m : Str → Option Value} {news : List (Addr × Obj)} {vs : List Value} {ns : List Int} {Q : Value → Shared → Prop} (hh : A.handled = none) (F : Fr h₀ L s.heap m) (N : News h₀ L s.heap news)
    (hl : s.heap.IsList l vs.toArray) (hi : IntsAre vs ns) (h : ∀ h' tk t', Fr h₀ L h' m → News h₀ L h' news → Q (.int ns.sum t') { s with heap := h', toks := tk }) :
    wpAny (model prog w) A (call (.builtin "sum") [.ref l]) Q E s := by
  obtain ⟨xs, hx⟩ := hi.allInts.items
  have hn : numsOf vs.toArray.toList = ns := by rw [show vs.toArray.toList = vs from rfl, hi.numsOf]
  rw [hx] at hl hn
  rw [nums_intItems] at hn
  refine sum_intListG hh hl fun h' tk t' hk => ?_
  rw [preSum_eq, List.take_of_length_le (by simp), hn]
  exact h h' tk t' (F.keeps hk) (N.grown hk)
local macro_rules | `(tactic| walk_at "call builtin:sum") => `(tactic| refine Stop.out ?_)
set_option maxHeartbeats 4000000 in
/-- total, begin, wide -/
theorem law_sums (C : Cx) {A A₀ : Around} {outer : List Env} {base g : Heap} {L fa : Addr} {cdv : Value} (hcdv : cdv = .ref 87) {s0 : Shared} {q : Str} {sc : Scope} {a0 a1 a2 a3 a4 a5 a6 a7 a8 a9 aa ab : Stmt} {rest : List Stmt} (hl : IsLaw C q sc (a0 :: a1 :: a2 :: a3 :: a4 :: a5 :: a6 :: a7 :: a8 :: a9 :: aa :: ab :: rest))
    {m1 : List (Str × Value)} {c7 c6 c5 c4 c3 c2 c1 : Obj} {Q : Flow → Shared → Prop} {rl nl : Addr} {re : Nat} {rv nv : List Value} {xs : List Int} {ow : List (Addr × Obj)} {ps ps6 : Array Value}
    (S : Site C A A₀ (envOfC q sc L fa cdv) outer base g L (mOf m1) s0) 
    (N : News g L s0.heap ((rl, W.listOf (List.toArray rv) re) :: (nl, W.listOf (List.toArray nv) 0) :: lawCells L c7 c6 c5 c4 c3 c2 c1 ++ (64, tabObj ps6) :: (85, tabObj ps) :: ow))
    (h6 : c6.data = .cell (some (.ref nl))) (hxs : IntsAre nv xs) (hx8 : xs.length = 8) 
    (hd : A.depth + 20 < recursionLimit) (hu : A.units + 100 < cLine)
    (hq : ∀ h tk t1 t2 m', Fr g L h (mOf ((Str.ofString "wide", .int ((xs.sum.fdiv 16).fmod 15 + 1) t1) :: (Str.ofString "begin", .int (xs.sum.fmod 16) t2) :: m')) → News g L h ((rl, W.listOf (List.toArray rv) re) :: (nl, W.listOf (List.toArray nv) 0) :: lawCells L c7 c6 c5 c4 c3 c2 c1 ++ (64, tabObj ps6) :: (85, tabObj ps) :: ow) →
      wpAny (model PySem.Challenge.rw_pm0032_01.row.prog C.w) A (execs rest (envOfC q sc L fa cdv)) Q (fun _ _ => False) { s0 with heap := h, toks := tk }) :
    wpAny (model PySem.Challenge.rw_pm0032_01.row.prog C.w) A (execs (a9 :: aa :: ab :: rest) (envOfC q sc L fa cdv)) Q (fun _ _ => False) s0 := by
  subst hcdv
  have X0 := S.X
  revert X0; k_fill; intro X0
  have y : IsLaw C _ _ _ := ⟨_, _, _, _, _, _, _, _, _, _, _, _, by k_is⟩
  obtain ⟨rfl, rfl, e⟩ := hl.same y
  cases e
  clear y hl
  obtain ⟨B', F', X', T', hA', hf', hk', hh'⟩ := S
  simp only [lawCells, List.cons_append, List.nil_append] at N
  k_unmd
  k_steps
  refine Stop.mk ?_
  rename Fr _ _ _ _ => F6
  rename News _ _ _ _ => N6
  refine sum_lst hh' F6 N6 ⟨_, (N6 (nl, W.listOf (List.toArray nv) 0) (by k_mem)).1, rfl, _, rfl⟩ hxs ?_
  intro h7 tk7 t7 F7 N7
  clear F6 N6
  k_steps
  refine Stop.mk ?_
  rename Fr _ _ _ _ => F8
  rename News _ _ _ _ => N8
  exact hq _ _ _ _ ((Str.ofString "total", _) :: m1) F8 N8
end Mine
namespace Mine
theorem topOff35 : True := by w_top off; trivial
set_option maxHeartbeats 4000000 in
/-- start = bisect_left(row, first / 16, key=..) -/
theorem law_start (C : Cx) {A A₀ : Around} {outer : List Env} {base g : Heap} {L fa : Addr} {cdv : Value} (hcdv : cdv = .ref 87) {s0 : Shared} {q : Str} {sc : Scope} {a0 a1 a2 a3 a4 a5 a6 a7 a8 a9 aa ab : Stmt} {tgt it : Expr} {b0 b1 b2 : Stmt} {tb : List Stmt} {pp : Pos} {rest : List Stmt}
    (hl : IsLaw C q sc (a0 :: a1 :: a2 :: a3 :: a4 :: a5 :: a6 :: a7 :: a8 :: a9 :: aa :: ab :: .For tgt it (b0 :: b1 :: b2 :: tb) [] pp :: rest))
    {m1 : List (Str × Value)} {c7 c6 c5 c4 c3 c2 c1 : Obj} {Q : Flow → Shared → Prop} {rl nl tl : Addr} {re : Nat} {rv nv : List Value} {xs ns : List Int} {ow : List (Addr × Obj)} {ps ps6 : Array Value} {fv : Int} {ft : Tok} {H : Heap}
    (S : Site C A A₀ (envOfC q sc L fa cdv) outer base g L (mOf m1) s0) (CH : CodeHd g 87 85)
    (N : News g L s0.heap ((rl, W.listOf (List.toArray rv) re) :: (nl, W.listOf (List.toArray nv) 0) :: lawCells L c7 c6 c5 c4 c3 c2 c1 ++ (64, tabObj ps6) :: (85, tabObj ps) :: ow))
    (h7 : c7.data = .cell (some (.ref tl))) (h5 : c5.data = .cell (some (.int fv ft))) (h1 : c1.data = .cell (some (.ref rl))) (hx8 : xs.length = 8) (hrv : IntsAre rv ns) (hrow : RowOk xs 8 ns)
    (hin : ∀ b o, H.get? b = some o → g.get? b = some o ∨ (b, o) ∈ ow) (htold : ToldAt H tl (xs.map colOf)) (hT : TabQ ow lamLaw ps) (how : ∀ p ∈ ow, p.1 ∉ wLaw L) (l64 : @LT.lt Nat _ 64 L) (l85 : @LT.lt Nat _ 85 L) (hrl : @LT.lt Nat _ (L + 7) rl) (hnl : @LT.lt Nat _ (L + 7) nl)
    (hfv : 0 ≤ fv ∧ fv < 16) (hd : A.depth + 20 < recursionLimit) (hu : A.units + 100 < cLine)
    (hq : ∀ h tk ps' ow' t (p : Nat), Fr g L h (mOf ((Str.ofString "start", .int p t) :: m1)) → News g L h ((rl, W.listOf (List.toArray rv) re) :: (nl, W.listOf (List.toArray nv) 0) :: lawCells L c7 c6 c5 c4 c3 c2 c1 ++ (64, tabObj ps6) :: (85, tabObj ps') :: ow') → (∀ p ∈ ow, p ∈ ow') → TabQ ow' lamLaw ps' → (∀ p ∈ ow', p.1 ∉ wLaw L) →
      p ≤ 8 → (∀ i (hi : i < ns.length), i < p → hAt xs ns[i] < fv) → (∀ i (hi : i < ns.length), p ≤ i → fv ≤ hAt xs ns[i]) → Q .next { s0 with heap := h, toks := tk }) :
    wpAny (model PySem.Challenge.rw_pm0032_01.row.prog C.w) A (exec b1 (envOfC q sc L fa cdv)) Q (fun _ _ => False) s0 := by
  subst hcdv
  have X0 := S.X
  revert X0; k_fill; intro X0
  have y : IsLaw C _ _ _ := ⟨_, _, _, _, _, _, _, _, _, _, _, _, by k_is⟩
  obtain ⟨rfl, rfl, e⟩ := hl.same y
  cases e
  clear y hl
  obtain ⟨B', F', X', T', hA', hf', hk', hh'⟩ := S
  simp only [lawCells, List.cons_append, List.nil_append] at N
  k_unmd
  k_steps
  refine Stop.mk ?_
  rename Fr _ _ _ _ => F6
  rename News _ _ _ _ => N6
  refine kla_eval rfl ?_
  refine lam_law (X := [(rl, W.listOf (List.toArray rv) re), (nl, W.listOf (List.toArray nv) 0)]) F6 N6 T' CH (all_cons (by show @Ne Nat _ 85; omega) (all_cons (by show @Ne Nat _ 85; omega) all_nil)) l64 l85 how hT rfl ?_
  rintro f c' ctv h10 tk10 ps' ow' F10 N10 hsub how' hT' hrec
  simp only [lawCells, List.cons_append, List.nil_append] at N10
  clear N6 F6
  k_steps
  refine Stop.mk ?_
  rename Fr _ _ _ _ => F11
  rename News _ _ _ _ => N11
  have st : H.StaysIn h10 := stays_of_in hin F11 N11 (fun p hp => by have hp := hsub p hp; repeat (first | exact hp | refine List.mem_cons_of_mem _ ?_))
  have hkey := key_told C h10 f (L + 1 + 1 + 1 + 1 + 1 + 1 + 1) tl c' c7 _ _ _ _ _ _ _ _ _ _ (xs.map colOf) (N11 (f, _) (List.mem_cons_self ..)).1 hrec (N11 (L + 1 + 1 + 1 + 1 + 1 + 1 + 1, c7) (by k_mem)).1 h7 (htold.keeps st)
  have hm : ∀ i (hi : i < ns.length), 0 ≤ ns[i] ∧ ns[i] < 8 := fun i hi => hrow.mem _ (List.getElem_mem _)
  obtain ⟨k, hk, gk⟩ : ∃ k : Nat, fv = (k : Nat) ∧ k < 16 := ⟨fv.toNat, by omega, by omega⟩
  subst hk
  refine Pure.use (bl_key C h10 rl f (hueF k) _ rv ns ⟨_, (N11 (rl, W.listOf (List.toArray rv) re) (by k_mem)).1, rfl, _, rfl⟩ hrv (by rw [hrow.len]; omega) 2 10 _ (fun n hn => ?_) _ hkey (fun i => !decide (hAt xs (ns.getD i 0) < (k : Nat))) ?_ ?_) B' F11 X' T' hA' hf' hk' hh' N11 (fun _ _ e => e) (by omega) (by omega) ?_
  · have := hrow.mem n hn; simp only [List.length_map, hx8]; omega
  · intro i hi
    have := hm i hi
    have e : ns.getD i 0 = ns[i] := by simp [List.getD, hi]
    have e2 : ((xs.map colOf).getD ns[i].toNat (0, 0, 0)).1 = hueF (hAt xs ns[i]).toNat := kHue_eq xs this.1 (by omega)
    have h1 := hAt_lo xs ns[i]
    have h2 := hAt_hi xs ns[i]
    rw [e, e2, cmp_hue (by omega) gk]
    congr 1
    by_cases h : hAt xs ns[i] < (k : Nat)
    · rw [decide_eq_true h, decide_eq_true (by omega)]
    · rw [decide_eq_false h, decide_eq_false (by omega)]
  · intro a b hab hb hP
    have ha : a < ns.length := by omega
    simp only [List.getD, List.getElem?_eq_getElem ha, List.getElem?_eq_getElem hb, Option.getD_some, Bool.not_eq_true', decide_eq_false_iff_not] at hP ⊢
    rcases Nat.lt_or_ge a b with hlt | hge
    · have := List.pairwise_iff_getElem.mp hrow.sorted a b ha hb hlt
      unfold rowLt at this
      omega
    · have : a = b := by omega
      subst this; exact hP
  · rintro r h12 tk12 F12 N12 hs12 ⟨p, t, rfl, hp, -, hp0, hp1⟩
    clear N11 F11 hkey
    k_steps
    rename Fr _ _ _ _ => F13
    rename News _ _ _ _ => N13
    refine hq _ _ ps' ow' t p F13 (news_out N13) hsub hT' how' (by rw [← hrow.len]; exact hp) ?_ ?_
    · intro i hi hip
      have := hp0 i hip
      simpa [List.getD, hi] using this
    · intro i hi hip
      have := hp1 i hip hi
      simpa [List.getD, hi] using this
end Mine
namespace Mine
theorem topOff36 : True := by w_top off; trivial
set_option maxHeartbeats 4000000 in
/-- stop = bisect_right(row, last / 16, key=..) -/
theorem law_stop (C : Cx) {A A₀ : Around} {outer : List Env} {base g : Heap} {L fa : Addr} {cdv : Value} (hcdv : cdv = .ref 87) {s0 : Shared} {q : Str} {sc : Scope} {a0 a1 a2 a3 a4 a5 a6 a7 a8 a9 aa ab : Stmt} {tgt it : Expr} {b0 b1 b2 : Stmt} {tb : List Stmt} {pp : Pos} {rest : List Stmt}
    (hl : IsLaw C q sc (a0 :: a1 :: a2 :: a3 :: a4 :: a5 :: a6 :: a7 :: a8 :: a9 :: aa :: ab :: .For tgt it (b0 :: b1 :: b2 :: tb) [] pp :: rest))
    {m1 : List (Str × Value)} {c7 c6 c5 c4 c3 c2 c1 : Obj} {Q : Flow → Shared → Prop} {rl nl tl : Addr} {re : Nat} {rv nv : List Value} {xs ns : List Int} {ow : List (Addr × Obj)} {ps ps6 : Array Value} {fv : Int} {ft : Tok} {H : Heap} {sv : Value}
    (S : Site C A A₀ (envOfC q sc L fa cdv) outer base g L (mOf ((Str.ofString "start", sv) :: (Str.ofString "last", .int fv ft) :: m1)) s0) (CH : CodeHd g 87 85)
    (N : News g L s0.heap ((rl, W.listOf (List.toArray rv) re) :: (nl, W.listOf (List.toArray nv) 0) :: lawCells L c7 c6 c5 c4 c3 c2 c1 ++ (64, tabObj ps6) :: (85, tabObj ps) :: ow))
    (h7 : c7.data = .cell (some (.ref tl))) (h1 : c1.data = .cell (some (.ref rl))) (hx8 : xs.length = 8) (hrv : IntsAre rv ns) (hrow : RowOk xs 8 ns)
    (hin : ∀ b o, H.get? b = some o → g.get? b = some o ∨ (b, o) ∈ ow) (htold : ToldAt H tl (xs.map colOf)) (hT : TabQ ow lamLaw ps) (how : ∀ p ∈ ow, p.1 ∉ wLaw L) (l64 : @LT.lt Nat _ 64 L) (l85 : @LT.lt Nat _ 85 L) (hrl : @LT.lt Nat _ (L + 7) rl) (hnl : @LT.lt Nat _ (L + 7) nl)
    (hfv : 0 ≤ fv ∧ fv < 16) (hd : A.depth + 20 < recursionLimit) (hu : A.units + 100 < cLine)
    (hq : ∀ h tk ps' ow' t (p : Nat), Fr g L h (mOf ((Str.ofString "stop", .int p t) :: (Str.ofString "start", sv) :: (Str.ofString "last", .int fv ft) :: m1)) → News g L h ((rl, W.listOf (List.toArray rv) re) :: (nl, W.listOf (List.toArray nv) 0) :: lawCells L c7 c6 c5 c4 c3 c2 c1 ++ (64, tabObj ps6) :: (85, tabObj ps') :: ow') → (∀ p ∈ ow, p ∈ ow') → TabQ ow' lamLaw ps' → (∀ p ∈ ow', p.1 ∉ wLaw L) →
      p ≤ 8 → (∀ i (hi : i < ns.length), i < p → hAt xs ns[i] ≤ fv) → (∀ i (hi : i < ns.length), p ≤ i → fv < hAt xs ns[i]) → Q .next { s0 with heap := h, toks := tk }) :
    wpAny (model PySem.Challenge.rw_pm0032_01.row.prog C.w) A (exec b2 (envOfC q sc L fa cdv)) Q (fun _ _ => False) s0 := by
  subst hcdv
  have X0 := S.X
  revert X0; k_fill; intro X0
  have y : IsLaw C _ _ _ := ⟨_, _, _, _, _, _, _, _, _, _, _, _, by k_is⟩
  obtain ⟨rfl, rfl, e⟩ := hl.same y
  cases e
  clear y hl
  obtain ⟨B', F', X', T', hA', hf', hk', hh'⟩ := S
  simp only [lawCells, List.cons_append, List.nil_append] at N
  k_unmd
  k_steps
  refine Stop.mk ?_
  rename Fr _ _ _ _ => F6
  rename News _ _ _ _ => N6
  refine kla_eval rfl ?_
  refine lam_law (X := [(rl, W.listOf (List.toArray rv) re), (nl, W.listOf (List.toArray nv) 0)]) F6 N6 T' CH (all_cons (by show @Ne Nat _ 85; omega) (all_cons (by show @Ne Nat _ 85; omega) all_nil)) l64 l85 how hT rfl ?_
  rintro f c' ctv h10 tk10 ps' ow' F10 N10 hsub how' hT' hrec
  simp only [lawCells, List.cons_append, List.nil_append] at N10
  clear N6 F6
  k_steps
  refine Stop.mk ?_
  rename Fr _ _ _ _ => F11
  rename News _ _ _ _ => N11
  have st : H.StaysIn h10 := stays_of_in hin F11 N11 (fun p hp => by have hp := hsub p hp; repeat (first | exact hp | refine List.mem_cons_of_mem _ ?_))
  have hkey := key_told C h10 f (L + 1 + 1 + 1 + 1 + 1 + 1 + 1) tl c' c7 _ _ _ _ _ _ _ _ _ _ (xs.map colOf) (N11 (f, _) (List.mem_cons_self ..)).1 hrec (N11 (L + 1 + 1 + 1 + 1 + 1 + 1 + 1, c7) (by k_mem)).1 h7 (htold.keeps st)
  have hm : ∀ i (hi : i < ns.length), 0 ≤ ns[i] ∧ ns[i] < 8 := fun i hi => hrow.mem _ (List.getElem_mem _)
  obtain ⟨k, hk, gk⟩ : ∃ k : Nat, fv = (k : Nat) ∧ k < 16 := ⟨fv.toNat, by omega, by omega⟩
  subst hk
  refine Pure.use (br_key C h10 rl f (hueF k) _ rv ns ⟨_, (N11 (rl, W.listOf (List.toArray rv) re) (by k_mem)).1, rfl, _, rfl⟩ hrv (by rw [hrow.len]; omega) 2 10 _ (fun n hn => ?_) _ hkey (fun i => decide ((k : Nat) < hAt xs (ns.getD i 0))) ?_ ?_) B' F11 X' T' hA' hf' hk' hh' N11 (fun _ _ e => e) (by omega) (by omega) ?_
  · have := hrow.mem n hn; simp only [List.length_map, hx8]; omega
  · intro i hi
    have := hm i hi
    have e : ns.getD i 0 = ns[i] := by simp [List.getD, hi]
    have e2 : ((xs.map colOf).getD ns[i].toNat (0, 0, 0)).1 = hueF (hAt xs ns[i]).toNat := kHue_eq xs this.1 (by omega)
    have h1 := hAt_lo xs ns[i]
    have h2 := hAt_hi xs ns[i]
    rw [e, e2, cmp_hue gk (by omega)]
    by_cases h : (k : Nat) < hAt xs ns[i]
    · rw [decide_eq_true h, decide_eq_true (by omega)]
    · rw [decide_eq_false h, decide_eq_false (by omega)]
  · intro a b hab hb hP
    have ha : a < ns.length := by omega
    simp only [List.getD, List.getElem?_eq_getElem ha, List.getElem?_eq_getElem hb, Option.getD_some, decide_eq_true_eq] at hP ⊢
    rcases Nat.lt_or_ge a b with hlt | hge
    · have := List.pairwise_iff_getElem.mp hrow.sorted a b ha hb hlt
      unfold rowLt at this
      omega
    · have : a = b := by omega
      subst this; exact hP
  · rintro r h12 tk12 F12 N12 hs12 ⟨p, t, rfl, hp, -, hp0, hp1⟩
    clear N11 F11 hkey
    k_steps
    rename Fr _ _ _ _ => F13
    rename News _ _ _ _ => N13
    refine hq _ _ ps' ow' t p F13 (news_out N13) hsub hT' how' (by rw [← hrow.len]; exact hp) ?_ ?_
    · intro i hi hip
      have := hp0 i hip
      simpa [List.getD, hi] using this
    · intro i hi hip
      have := hp1 i hip hi
      simpa [List.getD, hi] using this
end Mine
namespace Mine
theorem topOff37 : True := by w_top off; trivial
local macro_rules | `(tactic| walk_at "call builtin:sorted") => `(tactic| refine Stop.out ?_)
/-- the same, and the code record's place in the ledger -/
theorem lam_law2 {M : Model} {A : Around} {E : Value → Shared → Prop} {s : Shared} {h₀ : Heap} {L a : Addr} {m mg mb : Str → Option Value} {cn : Str} {cs : Scope} {cl : List (Str × Addr)} {X ow : List (Addr × Obj)} {c7 c6 c5 c4 c3 c2 c1 : Obj}
    {p : Program} {loose : List Str} {mean : ExcName → Option Value} {name : Str} {params : Arguments} {body : Expr} {scope : Scope} {ps6 ps : Array Value} {pos : Pos} {firstLine : Nat} {clos : List (Str × Addr)} {Q : Value → Shared → Prop}
    (F : Fr h₀ L s.heap m) (N : News h₀ L s.heap (X ++ (lawCells L c7 c6 c5 c4 c3 c2 c1 ++ (64, tabObj ps6) :: (85, tabObj ps) :: ow))) (T : Top p loose mean mg mb h₀) (C : CodeHd h₀ 87 85) (hX : ∀ p ∈ X, p.1 ≠ 85) (l64 : @LT.lt Nat _ 64 L) (l85 : @LT.lt Nat _ 85 L) (how : ∀ p ∈ ow, p.1 ∉ wLaw L) (hT : TabQ ow lamLaw ps)
    (hcl : closureFor scope (envX cn cs L a (.ref 87) cl) = pure clos)
    (h : ∀ f c' ctv h' tk ps' ow', Fr h₀ L h' m → News h₀ L h' ((f, kla_obj name lamLaw params body scope clos ((mg "__name__").getD .none) c' ctv) :: (X ++ (lawCells L c7 c6 c5 c4 c3 c2 c1 ++ (64, tabObj ps6) :: (85, tabObj ps') :: ow'))) → (∀ p ∈ ow, p ∈ ow') →
      (∀ p ∈ ow', p.1 ∉ wLaw L) → TabQ ow' lamLaw ps' → h'.CodeRec (.ref c') lamLaw → (∃ oc, (c', oc) ∈ ow' ∧ ∃ vs t, oc.data = .fields vs ∧ vs[1]? = some (.str lamLaw t)) → Q (.ref f) { s with heap := h', toks := tk }) :
    wpAny M A (makeFunction name lamLaw params (.expr body) scope (envX cn cs L a (.ref 87) cl) [] [] [] pos firstLine) Q E s := by
  have N1 : News h₀ L s.heap ((X ++ (lawCells L c7 c6 c5 c4 c3 c2 c1 ++ [(64, tabObj ps6)])) ++ (85, tabObj ps) :: ow) := fun p hp => N p (by simpa using hp)
  refine lam_tab F N1 T C rfl ?_ (fun p hp e => how p hp (by rw [e]; simp [wLaw])) hT hcl ?_
  · intro p hp
    rcases List.mem_append.mp hp with hp | hp
    · exact hX p hp
    · exact cells_85 l85 (all_cons (by show @Ne Nat 64 85; decide) all_nil) p hp
  · rintro f c' ctv h' tk ps' ow' F' N' hsub hnew _ hT' hrec hoc _
    refine h f c' ctv h' tk ps' ow' F' (fun p hp => N' p (by simpa using hp)) hsub (fun p hp => ?_) hT' hrec hoc
    rcases hnew p hp with h | h
    · exact how p h
    · intro hw
      have z1 : @LT.lt Nat _ (L + 1 + 1 + 1 + 1 + 1 + 1 + 1) p.1 := h (L + 1 + 1 + 1 + 1 + 1 + 1 + 1, c7) (List.mem_append_left _ (List.mem_append_right _ (List.mem_cons_self ..)))
      exact off_w z1 l64 l85 hw
set_option maxHeartbeats 4000000 in
/-- due = sorted(due, key=..) -/
theorem law_sorted (C : Cx) {A A₀ : Around} {outer : List Env} {base g : Heap} {L fa : Addr} {cdv : Value} (hcdv : cdv = .ref 87) {s0 : Shared} {q : Str} {sc : Scope} {a0 a1 a2 a3 a4 a5 a6 a7 a8 a9 aa ab : Stmt} {tgt it : Expr} {b0 b1 b2 b3 b4 b5 : Stmt} {tb : List Stmt} {pp : Pos} {rest : List Stmt}
    (hl : IsLaw C q sc (a0 :: a1 :: a2 :: a3 :: a4 :: a5 :: a6 :: a7 :: a8 :: a9 :: aa :: ab :: .For tgt it (b0 :: b1 :: b2 :: b3 :: b4 :: b5 :: tb) [] pp :: rest))
    {m1 : List (Str × Value)} {c7 c6 c5 c4 c3 c2 c1 : Obj} {Q : Flow → Shared → Prop} {rl nl D0 : Addr} {re : Nat} {rv nv ys : List Value} {ow : List (Addr × Obj)} {ps ps6 : Array Value} {fv : Int} {ft : Tok} {xs ds : List Int}
    (S : Site C A A₀ (envOfC q sc L fa cdv) outer base g L (mOf ((Str.ofString "due", .ref D0) :: m1)) s0) (CH : CodeHd g 87 85)
    (N : News g L s0.heap ((D0, LCg.lst ys) :: (rl, W.listOf (List.toArray rv) re) :: (nl, W.listOf (List.toArray nv) 0) :: lawCells L c7 c6 c5 c4 c3 c2 c1 ++ (64, tabObj ps6) :: (85, tabObj ps) :: ow))
    (h6 : c6.data = .cell (some (.ref nl))) (h5 : c5.data = .cell (some (.int fv ft))) (hxs : IntsAre nv xs) (hx8 : xs.length = 8) (hys : IntsAre ys ds) (hds : ds.length ≤ 8) (hdom : ∀ d ∈ ds, 0 ≤ d ∧ d < 8)
    (hT : TabQ ow lamLaw ps) (how : ∀ p ∈ ow, p.1 ∉ wLaw L) (l64 : @LT.lt Nat _ 64 L) (l85 : @LT.lt Nat _ 85 L) (hrl : @LT.lt Nat _ (L + 7) rl) (hnl : @LT.lt Nat _ (L + 7) nl) (hD0 : D0 ∉ wLaw L)
    (hd : A.depth + 20 < recursionLimit) (hu : A.units + 100 < cLine)
    (hinc : ds.Pairwise (· < ·))
    (hq : ∀ h tk R ws es c ps' ow', Fr g L h (mOf ((Str.ofString "due", .ref R) :: (Str.ofString "due", .ref D0) :: m1)) → News g L h ((R, W.listOf (List.toArray ws) c) :: (rl, W.listOf (List.toArray rv) re) :: (nl, W.listOf (List.toArray nv) 0) :: lawCells L c7 c6 c5 c4 c3 c2 c1 ++ (64, tabObj ps6) :: (85, tabObj ps') :: ow') → (∀ p ∈ ow, p ∈ ow') → (∀ p ∈ ow', p.1 ∉ wLaw L) → TabQ ow' lamLaw ps' →
      IntsAre ws es → es.Perm ds → es.Pairwise (kOrd (kDue xs fv)) → Q .next { s0 with heap := h, toks := tk }) :
    wpAny (model PySem.Challenge.rw_pm0032_01.row.prog C.w) A (exec b5 (envOfC q sc L fa cdv)) Q (fun _ _ => False) s0 := by
  subst hcdv
  have X0 := S.X
  revert X0; k_fill; intro X0
  have y : IsLaw C _ _ _ := ⟨_, _, _, _, _, _, _, _, _, _, _, _, by k_is⟩
  obtain ⟨rfl, rfl, e⟩ := hl.same y
  cases e
  clear y hl
  obtain ⟨B', F', X', T', hA', hf', hk', hh'⟩ := S
  simp only [lawCells, List.cons_append, List.nil_append] at N
  k_unmd
  k_steps
  refine Stop.mk ?_
  rename Fr _ _ _ _ => F6
  rename News _ _ _ _ => N6
  refine kla_eval rfl ?_
  have d85 : D0 ≠ 85 := fun e => hD0 (by rw [e]; simp [wLaw])
  refine lam_law2 (X := [(D0, LCg.lst ys), (rl, W.listOf (List.toArray rv) re), (nl, W.listOf (List.toArray nv) 0)]) F6 N6 T' CH (all_cons d85 (all_cons (by show @Ne Nat _ 85; omega) (all_cons (by show @Ne Nat _ 85; omega) all_nil))) l64 l85 how hT rfl ?_
  rintro f c' ctv h10 tk10 ps' ow' F10 N10 hsub how' hT' hrec ⟨oc, hoc, vs9, t9, hd1, hd2⟩
  simp only [lawCells, List.cons_append, List.nil_append] at N10
  clear N6 F6
  k_steps
  refine Stop.mk ?_
  rename Fr _ _ _ _ => F11
  rename News _ _ _ _ => N11
  refine sorted_due (C := C) (K := kDue xs fv) (dom := fun d => 0 ≤ d ∧ d < 8) (vs := ys) (ds := ds) B' F11 X' T' hA' hf' hk' hh' N11 (by omega) (by omega) ⟨_, (N11 (D0, LCg.lst ys) (by k_mem)).1, rfl, _, rfl⟩ hys (by omega) hinc hdom (fun d => ⟨Int.fmod_nonneg_of_pos _ (by decide), Int.fmod_lt_of_pos _ (by decide)⟩) ?_ ?_
  · intro h NN i t hi
    refine key_due C h f (L + 1 + 1 + 1 + 1 + 1 + 1) (L + 1 + 1 + 1 + 1 + 1) nl c' c6 c5 _ _ _ _ _ _ _ _ _ _ _ _ _ _ _ _ _ _ _ _ xs nv fv ft (NN (f, _) (List.mem_cons_self ..)).1 ⟨c', oc, vs9, t9, rfl, (NN (c', oc) (by repeat (first | exact hoc | refine List.mem_cons_of_mem _ ?_))).1, hd1, hd2⟩ (NN (L + 1 + 1 + 1 + 1 + 1 + 1, c6) (by k_mem)).1 h6 (NN (L + 1 + 1 + 1 + 1 + 1, c5) (by k_mem)).1 h5 ⟨_, (NN (nl, W.listOf (List.toArray nv) 0) (by k_mem)).1, rfl, _, rfl⟩ hxs i t ⟨hi.1, by rw [hx8]; exact hi.2, by omega⟩
  · intro R h12 tk12 ws es c F12 N12 lR hws hperm hord
    clear N11 F11
    k_steps
    rename Fr _ _ _ _ => F13
    rename News _ _ _ _ => N13
    refine hq _ _ R ws es c ps' ow' F13 (newsC N13 (by k_mem) (news_out (news_out (news_out N13)))) hsub how' hT' hws hperm hord
end Mine
namespace Mine
theorem topOff38 : True := by w_top off; trivial
local macro_rules | `(tactic| walk_at "subscriptTail Name") => `(tactic| refine Stop.out ?_)
local macro_rules | `(tactic| walk_at "call builtin:len") => `(tactic| refine Stop.out ?_)
set_option maxHeartbeats 4000000 in
/-- if len(_law_inside(tree[0], spans)) != len(due): return False -/
theorem law_count (C : Cx) {A A₀ : Around} {outer : List Env} {base g : Heap} {L fa : Addr} {cdv : Value} (hcdv : cdv = .ref 87) {s0 : Shared} {q : Str} {sc : Scope} {a0 a1 a2 a3 a4 a5 a6 a7 a8 a9 aa ab : Stmt} {tgt it : Expr} {b0 b1 b2 b3 b4 b5 b6 : Stmt} {tb : List Stmt} {pp : Pos} {rest : List Stmt}
    (hl : IsLaw C q sc (a0 :: a1 :: a2 :: a3 :: a4 :: a5 :: a6 :: a7 :: a8 :: a9 :: aa :: ab :: .For tgt it (b0 :: b1 :: b2 :: b3 :: b4 :: b5 :: b6 :: tb) [] pp :: rest))
    {m1 : List (Str × Value)} {c7 c6 c5 c4 c3 c2 c1 : Obj} {Q : Flow → Shared → Prop} {rl nl R a sa : Addr} {re rc : Nat} {rv nv ws : List Value} {ow : List (Addr × Obj)} {ps ps6 : Array Value} {es : List Int} {H : Heap} {t : Tr} {sp : List (Nat × Nat)}
    (S : Site C A A₀ (envOfC q sc L fa cdv) outer base g L (mOf ((Str.ofString "due", .ref R) :: m1)) s0)
    (N : News g L s0.heap ((R, W.listOf (List.toArray ws) rc) :: (rl, W.listOf (List.toArray rv) re) :: (nl, W.listOf (List.toArray nv) 0) :: lawCells L c7 c6 c5 c4 c3 c2 c1 ++ (64, tabObj ps6) :: (85, tabObj ps) :: ow))
    (h4 : c4.data = .cell (some (.ref sa))) (h2 : c2.data = .cell (some (.ref a))) (hin : ∀ b o, H.get? b = some o → g.get? b = some o ∨ (b, o) ∈ ow) (ht : TreeAt H t a) (hg : t.Good) (hsp : SpansL ow sa sp) (hle : ∀ ab ∈ sp, ab.1 ≤ ab.2) (hsl : sp.length < 20)
    (hws : IntsAre ws es) (hel : es.length ≤ 8) (hcount : (insideOf t.part sp).length = es.length)
    (hd : A.depth + 20 < recursionLimit) (hu : A.units + 100 < cLine)
    (hq : ∀ h tk, Fr g L h (mOf ((Str.ofString "due", .ref R) :: m1)) → News g L h ((R, W.listOf (List.toArray ws) rc) :: (rl, W.listOf (List.toArray rv) re) :: (nl, W.listOf (List.toArray nv) 0) :: lawCells L c7 c6 c5 c4 c3 c2 c1 ++ (64, tabObj ps6) :: (85, tabObj ps) :: ow) → Q .next { s0 with heap := h, toks := tk }) :
    wpAny (model PySem.Challenge.rw_pm0032_01.row.prog C.w) A (exec b6 (envOfC q sc L fa cdv)) Q (fun _ _ => False) s0 := by
  subst hcdv
  have X0 := S.X
  revert X0; k_fill; intro X0
  have y : IsLaw C _ _ _ := ⟨_, _, _, _, _, _, _, _, _, _, _, _, by k_is⟩
  obtain ⟨rfl, rfl, e⟩ := hl.same y
  cases e
  clear y hl
  obtain ⟨B', F', X', T', hA', hf', hk', hh'⟩ := S
  simp only [lawCells, List.cons_append, List.nil_append] at N
  obtain ⟨pa, tl, hla, pv, hpv, hpi⟩ := ht.head
  k_unmd
  k_steps
  refine Stop.mk ?_
  rename Fr _ _ _ _ => F6
  rename News _ _ _ _ => N6
  have st6 : H.StaysIn _ := stays_of_in hin F6 N6 (fun p hp => by repeat (first | exact hp | refine List.mem_cons_of_mem _ ?_))
  refine item_list (hla.at fun o e => st6 _ o e) (by decide) (by decide) (x := .ref pa) rfl ?_
  k_steps
  refine Stop.mk ?_
  rename Fr _ _ _ _ => F7
  rename News _ _ _ _ => N7
  have st7 : H.StaysIn _ := stays_of_in hin F7 N7 (fun p hp => by repeat (first | exact hp | refine List.mem_cons_of_mem _ ?_))
  refine Pure.use (inside_spec C _ pa sa pv t.part sp (hpv.at fun o e => st7 _ o e) hpi hg.part.1 hg.part.2 (hsp _ fun p hp => (N7 p (by repeat (first | exact hp | refine List.mem_cons_of_mem _ ?_))).1) hle hsl) B' F7 X' T' hA' hf' hk' hh' N7 (fun _ _ e => e) (by omega) (by omega) ?_
  rintro r h8 tk8 F8 N8 hs8 ⟨ra, rfl, hra0, vi, ei, hvi, hri⟩
  have N8 := news_add F7 N8 hra0 hri
  clear F7 N7 hs8
  k_steps
  refine Stop.mk ?_
  rename Fr _ _ _ _ => F9
  rename News _ _ _ _ => N9
  refine len_ints_fit (News.isList N9 (List.mem_cons_self ..)) hvi (by omega) ?_
  k_steps
  refine Stop.mk ?_
  rename Fr _ _ _ _ => F10
  rename News _ _ _ _ => N10
  refine len_ints_fit (News.isList N10 (List.mem_cons_of_mem _ (List.mem_cons_self ..))) hws (by omega) ?_
  rw [hcount]
  k_steps
  · intros; exact absurd rfl (by assumption : ((es.length : Nat) : Int) ≠ es.length)
  · rename Fr _ _ _ _ => F11
    rename News _ _ _ _ => N11
    exact hq _ _ F11 (news_out N11)
end Mine
namespace Mine
theorem topOff39 : True := by w_top off; trivial
set_option maxHeartbeats 4000000 in
/-- last = (first + size - 1) % 16 -/
theorem law_last (C : Cx) {A A₀ : Around} {outer : List Env} {base g : Heap} {L fa : Addr} {cdv : Value} (hcdv : cdv = .ref 87) {s0 : Shared} {q : Str} {sc : Scope} {a0 a1 a2 a3 a4 a5 a6 a7 a8 a9 aa ab : Stmt} {tgt it : Expr} {b0 : Stmt} {tb : List Stmt} {pp : Pos} {rest : List Stmt}
    (hl : IsLaw C q sc (a0 :: a1 :: a2 :: a3 :: a4 :: a5 :: a6 :: a7 :: a8 :: a9 :: aa :: ab :: .For tgt it (b0 :: tb) [] pp :: rest))
    {m1 : List (Str × Value)} {c7 c6 c5 c4 c3 c2 c1 : Obj} {Q : Flow → Shared → Prop} {rl nl : Addr} {ro no : Obj} {ow : List (Addr × Obj)} {fv zv : Int} {ft zt : Tok}
    (S : Site C A A₀ (envOfC q sc L fa cdv) outer base g L (mOf m1) s0)
    (N : News g L s0.heap ((rl, ro) :: (nl, no) :: lawCells L c7 c6 c5 c4 c3 c2 c1 ++ ow))
    (h5 : c5.data = .cell (some (.int fv ft))) (h3 : c3.data = .cell (some (.int zv zt)))
    (hq : ∀ h tk lt, Fr g L h (mOf ((Str.ofString "last", .int ((fv + zv - 1).fmod 16) lt) :: m1)) → News g L h ((rl, ro) :: (nl, no) :: lawCells L c7 c6 c5 c4 c3 c2 c1 ++ ow) → Q .next { s0 with heap := h, toks := tk }) :
    wpAny (model PySem.Challenge.rw_pm0032_01.row.prog C.w) A (exec b0 (envOfC q sc L fa cdv)) Q (fun _ _ => False) s0 := by
  subst hcdv
  have X0 := S.X
  revert X0; k_fill; intro X0
  have y : IsLaw C _ _ _ := ⟨_, _, _, _, _, _, _, _, _, _, _, _, by k_is⟩
  obtain ⟨rfl, rfl, e⟩ := hl.same y
  cases e
  clear y hl
  obtain ⟨B', F', X', T', hA', hf', hk', hh'⟩ := S
  simp only [lawCells, List.cons_append, List.nil_append] at N
  k_unmd
  k_steps
  rename Fr _ _ _ _ => F6
  rename News _ _ _ _ => N6
  exact hq _ _ _ F6 N6
end Mine
namespace Mine
theorem topOff40 : True := by w_top off; trivial
/-- what one arc asks, in plain words -/
def ArcOk (xs ns : List Int) (t : Tr) (fv zv : Int) : Prop :=
  ∀ (p q : Nat) (es : List Int), p ≤ 8 → q ≤ 8 → (∀ i (hi : i < ns.length), i < p → hAt xs ns[i] < fv) → (∀ i (hi : i < ns.length), p ≤ i → fv ≤ hAt xs ns[i]) →
    (∀ i (hi : i < ns.length), i < q → hAt xs ns[i] ≤ (fv + zv - 1).fmod 16) → (∀ i (hi : i < ns.length), q ≤ i → (fv + zv - 1).fmod 16 < hAt xs ns[i]) →
    es.Perm (dueK xs fv zv) → es.Pairwise (kOrd (kDue xs fv)) →
    (∀ ab ∈ spOf fv ((fv + zv - 1).fmod 16) p q, ab.1 ≤ ab.2) ∧ (insideOf t.part (spOf fv ((fv + zv - 1).fmod 16) p q)).length = es.length ∧
    (∀ w, w < es.length → PickOk (spOf fv ((fv + zv - 1).fmod 16) p q) t w ∧ 0 ≤ pickOf (spOf fv ((fv + zv - 1).fmod 16) p q) t w ∧ pickOf (spOf fv ((fv + zv - 1).fmod 16) p q) t w < 8) ∧
    (List.range es.length).map (fun w => ns.getD (pickOf (spOf fv ((fv + zv - 1).fmod 16) p q) t w).toNat 0) = es
theorem dueK_inc (xs : List Int) (fv zv : Int) : (dueK xs fv zv).Pairwise (· < ·) := List.Pairwise.filter _ (by decide)
theorem dueK_dom {xs : List Int} {fv zv : Int} : ∀ d ∈ dueK xs fv zv, 0 ≤ d ∧ d < 8 := fun d hd => by
  have := (List.mem_filter.mp hd).1
  simp only [rangeKs, List.mem_map, List.mem_range] at this
  obtain ⟨j, hj, rfl⟩ := this
  omega
theorem dueK_len (xs : List Int) (fv zv : Int) : (dueK xs fv zv).length ≤ 8 := List.length_filter_le _ _
theorem spOf_len (fv lv : Int) (p q : Nat) : (spOf fv lv p q).length < 20 := by
  unfold spOf; split <;> simp
theorem law_turn (C : Cx) {A A₀ : Around} {outer : List Env} {base g : Heap} {L fa : Addr} {cdv : Value} (hcdv : cdv = .ref 87) {s0 : Shared} {q : Str} {sc : Scope} {a0 a1 a2 a3 a4 a5 a6 a7 a8 a9 aa ab : Stmt} {tgt it : Expr} {b0 b1 b2 b3 b4 b5 b6 b7 : Stmt} {pp : Pos} {rest : List Stmt}
    (hl : IsLaw C q sc (a0 :: a1 :: a2 :: a3 :: a4 :: a5 :: a6 :: a7 :: a8 :: a9 :: aa :: ab :: .For tgt it (b0 :: b1 :: b2 :: b3 :: b4 :: b5 :: b6 :: b7 :: []) [] pp :: rest))
    {m : List (Str × Value)} {c7 c6 c5 c4 c3 c2 c1 : Obj} {v4 : Option Value} {Q : Flow → Shared → Prop} {rl nl tl a : Addr} {re : Nat} {rv nv : List Value} {xs ns : List Int} {ow : List (Addr × Obj)} {ps ps6 : Array Value} {fv zv : Int} {ft zt : Tok} {H : Heap} {t : Tr}
    (S : Site C A A₀ (envOfC q sc L fa cdv) outer base g L (mOf m) s0) (CH : CodeHd g 87 85)
    (N : News g L s0.heap ((rl, W.listOf (List.toArray rv) re) :: (nl, W.listOf (List.toArray nv) 0) :: lawCells L c7 c6 c5 c4 c3 c2 c1 ++ (64, tabObj ps6) :: (85, tabObj ps) :: ow))
    (h7 : c7.data = .cell (some (.ref tl))) (h6 : c6.data = .cell (some (.ref nl))) (h5 : c5.data = .cell (some (.int fv ft))) (h4 : c4.data = .cell v4) (h3 : c3.data = .cell (some (.int zv zt))) (h2 : c2.data = .cell (some (.ref a))) (h1 : c1.data = .cell (some (.ref rl)))
    (hxs : IntsAre nv xs) (hx8 : xs.length = 8) (hrv : IntsAre rv ns) (hrow : RowOk xs 8 ns)
    (hin : ∀ b o, H.get? b = some o → g.get? b = some o ∨ (b, o) ∈ ow) (htold : ToldAt H tl (xs.map colOf)) (ht : TreeAt H t a) (hg : t.Good) (hT : TabQ ow lamLaw ps) (how : ∀ p ∈ ow, p.1 ∉ wLaw L)
    (l64 : @LT.lt Nat _ 64 L) (l85 : @LT.lt Nat _ 85 L) (hrl : @LT.lt Nat _ (L + 7) rl) (hnl : @LT.lt Nat _ (L + 7) nl)
    (hfv : 0 ≤ fv ∧ fv < 16) (harc : ArcOk xs ns t fv zv) (hd : A.depth + 20 < recursionLimit) (hu : A.units + 100 < cLine)
    (hq : ∀ h tk m' o4 v4' ps' ow', Fr g L h (mOf m') → News g L h ((rl, W.listOf (List.toArray rv) re) :: (nl, W.listOf (List.toArray nv) 0) :: lawCells L c7 c6 c5 o4 c3 c2 c1 ++ (64, tabObj ps6) :: (85, tabObj ps') :: ow') → o4.data = .cell v4' → (∀ p ∈ ow, p ∈ ow') → TabQ ow' lamLaw ps' → (∀ p ∈ ow', p.1 ∉ wLaw L) → Q .next { s0 with heap := h, toks := tk }) :
    wpAny (model PySem.Challenge.rw_pm0032_01.row.prog C.w) A (execs (b0 :: b1 :: b2 :: b3 :: b4 :: b5 :: b6 :: b7 :: []) (envOfC q sc L fa cdv)) Q (fun _ _ => False) s0 := by
  have hlv : 0 ≤ (fv + zv - 1).fmod 16 ∧ (fv + zv - 1).fmod 16 < 16 := ⟨Int.fmod_nonneg_of_pos _ (by decide), Int.fmod_lt_of_pos _ (by decide)⟩
  refine wpAny_execs_cons (law_last C hcdv hl (ow := (64, tabObj ps6) :: (85, tabObj ps) :: ow) S N h5 h3 ?_)
  intro h tk lt F0 N0
  refine wpAny_execs_cons (law_start C hcdv hl (S.go F0) CH N0 h7 h5 h1 hx8 hrv hrow hin htold hT how l64 l85 hrl hnl hfv hd hu ?_)
  intro h1' tk1 ps1 ow1 tp p F1 N1 s1 hT1 how1 hp8 hp0 hp1
  have hin1 : ∀ b o, H.get? b = some o → g.get? b = some o ∨ (b, o) ∈ ow1 := fun b o e => (hin b o e).imp id fun x => s1 _ x
  refine wpAny_execs_cons (law_stop C hcdv hl (S.go F1) CH N1 h7 h1 hx8 hrv hrow hin1 htold hT1 how1 l64 l85 hrl hnl hlv hd hu ?_)
  intro h2' tk2 ps2 ow2 tq q' F2 N2 s2 hT2 how2 hq8 hq0 hq1
  refine wpAny_execs_cons (law_spans C hcdv hl (S.go F2) N2 h5 h4 how2 l64 l85 hrl hnl hd hu ?_)
  intro h3' tk3 sa o4 ow3 F3 N3 h4' s3 how3 hsp
  have hT3 : TabQ ow3 lamLaw ps2 := ⟨hT2.1, fun pos c e => by
    obtain ⟨c', oc, vs, t, a1, a2, a3, a4⟩ := hT2.2 pos c e
    exact ⟨c', oc, vs, t, a1, s3 _ a2, a3, a4⟩⟩
  refine wpAny_execs_cons (law_due C hcdv hl (S.go F3) N3 h6 h5 h3 hxs hx8 hd hu ?_)
  intro h4'' tk4 D ys F4 N4 hys hD
  refine wpAny_execs_cons (law_sorted C hcdv hl (S.go F4) CH N4 h6 h5 hxs hx8 hys (dueK_len _ _ _) dueK_dom hT3 how3 l64 l85 hrl hnl hD hd hu (dueK_inc _ _ _) ?_)
  intro h5' tk5 R ws es c ps5 ow5 F5 N5 s5 how5 hT5 hws hperm hord
  obtain ⟨k1, k2, k3, k4⟩ := harc p q' es hp8 hq8 hp0 hp1 hq0 hq1 hperm hord
  have hel : es.length ≤ 8 := by rw [hperm.length_eq]; exact dueK_len _ _ _
  have hin5 : ∀ b o, H.get? b = some o → g.get? b = some o ∨ (b, o) ∈ ow5 := fun b o e => (hin1 b o e).imp id fun x => s5 _ (s3 _ (s2 _ x))
  have hsp5 : SpansL ow5 sa (spOf fv ((fv + zv - 1).fmod 16) p q') := fun h hh => hsp h fun p hp => hh p (s5 p hp)
  refine wpAny_execs_cons (law_count C hcdv hl (S.go F5) N5 h4' h2 hin5 ht hg hsp5 k1 (spOf_len _ _ _ _) hws hel k2 hd hu ?_)
  intro h6' tk6 F6 N6
  refine wpAny_execs_cons (law_picks C hcdv hl (S.go F6) N6 h4' h1 hrv hrow.len h2 hin5 ht hg hsp5 k1 (spOf_len _ _ _ _) hws hel k3 k4 hd hu ?_)
  intro h7' tk7 F7 N7
  refine wpAny_execs_nil (hq h7' tk7 _ o4 _ ps5 ow5 F7 (news_out N7) h4' (fun p hp => s5 _ (s3 _ (s2 _ (s1 _ hp)))) hT5 how5)
end Mine
namespace Mine
theorem topOff41 : True := by w_top off; trivial
local macro_rules | `(tactic| walk_at "storeName") => `(tactic| refine Stop.out ?_)
local macro_rules | `(tactic| walk_at "execs cons") => `(tactic| refine Stop.out ?_)
local macro_rules | `(tactic| walk_at "unpackItems ref") => `(tactic| refine Stop.out ?_)
theorem up5 {L rl nl : Addr} (hrl : @LT.lt Nat _ (L + 7) rl) (hnl : @LT.lt Nat _ (L + 7) nl) {a b c7 c6 : Obj} : ∀ p ∈ [(rl, a), (nl, b), (L + 1 + 1 + 1 + 1 + 1 + 1 + 1, c7), (L + 1 + 1 + 1 + 1 + 1 + 1, c6)], p.1 ≠ L + 1 + 1 + 1 + 1 + 1 :=
  all_cons (far_ne (i := 5) hrl (by decide)) (all_cons (far_ne (i := 5) hnl (by decide)) (all_cons (cell_ne (L := L) (i := 7) (j := 5) (by decide)) (all_cons (cell_ne (L := L) (i := 6) (j := 5) (by decide)) (all_nil))))
theorem dn5 {L : Addr} (l64 : @LT.lt Nat _ 64 L) (l85 : @LT.lt Nat _ 85 L) {c4 c3 c2 c1 a b : Obj} {ow : List (Addr × Obj)} (h : ∀ p ∈ ow, p.1 ≠ L + 1 + 1 + 1 + 1 + 1) : ∀ p ∈ (L + 1 + 1 + 1 + 1, c4) :: (L + 1 + 1 + 1, c3) :: (L + 1 + 1, c2) :: (L + 1, c1) :: (64, a) :: (85, b) :: ow, p.1 ≠ L + 1 + 1 + 1 + 1 + 1 :=
  all_cons (cell_ne (L := L) (i := 4) (j := 5) (by decide)) (all_cons (cell_ne (L := L) (i := 3) (j := 5) (by decide)) (all_cons (cell_ne (L := L) (i := 2) (j := 5) (by decide)) (all_cons (cell_ne (L := L) (i := 1) (j := 5) (by decide)) (all_cons (low_ne (i := 5) l64) (all_cons (low_ne (i := 5) l85) (h))))))
theorem up3 {L rl nl : Addr} (hrl : @LT.lt Nat _ (L + 7) rl) (hnl : @LT.lt Nat _ (L + 7) nl) {a b c7 c6 c5 c4 : Obj} : ∀ p ∈ [(rl, a), (nl, b), (L + 1 + 1 + 1 + 1 + 1 + 1 + 1, c7), (L + 1 + 1 + 1 + 1 + 1 + 1, c6), (L + 1 + 1 + 1 + 1 + 1, c5), (L + 1 + 1 + 1 + 1, c4)], p.1 ≠ L + 1 + 1 + 1 :=
  all_cons (far_ne (i := 3) hrl (by decide)) (all_cons (far_ne (i := 3) hnl (by decide)) (all_cons (cell_ne (L := L) (i := 7) (j := 3) (by decide)) (all_cons (cell_ne (L := L) (i := 6) (j := 3) (by decide)) (all_cons (cell_ne (L := L) (i := 5) (j := 3) (by decide)) (all_cons (cell_ne (L := L) (i := 4) (j := 3) (by decide)) (all_nil))))))
theorem dn3 {L : Addr} (l64 : @LT.lt Nat _ 64 L) (l85 : @LT.lt Nat _ 85 L) {c2 c1 a b : Obj} {ow : List (Addr × Obj)} (h : ∀ p ∈ ow, p.1 ≠ L + 1 + 1 + 1) : ∀ p ∈ (L + 1 + 1, c2) :: (L + 1, c1) :: (64, a) :: (85, b) :: ow, p.1 ≠ L + 1 + 1 + 1 :=
  all_cons (cell_ne (L := L) (i := 2) (j := 3) (by decide)) (all_cons (cell_ne (L := L) (i := 1) (j := 3) (by decide)) (all_cons (low_ne (i := 3) l64) (all_cons (low_ne (i := 3) l85) (h))))
/-- between two arcs -/
def ArcJ (L : Addr) (c7 c6 c2 c1 : Obj) (R0 N0 : Addr × Obj) (ps6 : Array Value) (Wb : List (Addr × Obj)) (_ : Nat) (m₁ : Str → Option Value) (nx : List (Addr × Obj)) : Prop :=
  ∃ m2 o5 o4 o3 w5 w4 w3 ps' ow', m₁ = mOf m2 ∧ nx = (R0 :: N0 :: lawCells L c7 c6 o5 o4 o3 c2 c1 ++ (64, tabObj ps6) :: (85, tabObj ps') :: ow') ∧ o5.data = .cell w5 ∧ o4.data = .cell w4 ∧ o3.data = .cell w3 ∧ TabQ ow' lamLaw ps' ∧ (∀ p ∈ ow', p.1 ∉ wLaw L) ∧ (∀ p ∈ Wb, p ∈ ow')
set_option maxHeartbeats 4000000 in
/-- for first, size in [..]: .. -/
theorem law_arc (C : Cx) {A A₀ : Around} {outer : List Env} {base g : Heap} {L fa : Addr} {cdv : Value} (hcdv : cdv = .ref 87) {s0 : Shared} {q : Str} {sc : Scope} {a0 a1 a2 a3 a4 a5 a6 a7 a8 a9 aa ab : Stmt} {tgt it : Expr} {b0 b1 b2 b3 b4 b5 b6 b7 : Stmt} {pp : Pos} {rest : List Stmt}
    (hl : IsLaw C q sc (a0 :: a1 :: a2 :: a3 :: a4 :: a5 :: a6 :: a7 :: a8 :: a9 :: aa :: ab :: .For tgt it (b0 :: b1 :: b2 :: b3 :: b4 :: b5 :: b6 :: b7 :: []) [] pp :: rest))
    {m' : List (Str × Value)} {c7 c6 c5 c4 c3 c2 c1 : Obj} {v3 v4 v5 : Option Value} {Q : Flow → Shared → Prop} {rl nl tl a : Addr} {re : Nat} {rv nv : List Value} {xs ns : List Int} {ow : List (Addr × Obj)} {ps ps6 : Array Value} {wv bv : Int} {t1 t2 : Tok} {H : Heap} {t : Tr}
    (S : Site C A A₀ (envOfC q sc L fa cdv) outer base g L (mOf ((Str.ofString "wide", .int wv t1) :: (Str.ofString "begin", .int bv t2) :: m')) s0) (CH : CodeHd g 87 85)
    (N : News g L s0.heap ((rl, W.listOf (List.toArray rv) re) :: (nl, W.listOf (List.toArray nv) 0) :: lawCells L c7 c6 c5 c4 c3 c2 c1 ++ (64, tabObj ps6) :: (85, tabObj ps) :: ow))
    (h7 : c7.data = .cell (some (.ref tl))) (h6 : c6.data = .cell (some (.ref nl))) (h5 : c5.data = .cell v5) (h4 : c4.data = .cell v4) (h3 : c3.data = .cell v3) (h2 : c2.data = .cell (some (.ref a))) (h1 : c1.data = .cell (some (.ref rl)))
    (hxs : IntsAre nv xs) (hx8 : xs.length = 8) (hrv : IntsAre rv ns) (hrow : RowOk xs 8 ns)
    (hin : ∀ b o, H.get? b = some o → g.get? b = some o ∨ (b, o) ∈ ow) (htold : ToldAt H tl (xs.map colOf)) (ht : TreeAt H t a) (hg : t.Good) (hT : TabQ ow lamLaw ps) (how : ∀ p ∈ ow, p.1 ∉ wLaw L)
    (l64 : @LT.lt Nat _ 64 L) (l85 : @LT.lt Nat _ 85 L) (hrl : @LT.lt Nat _ (L + 7) rl) (hnl : @LT.lt Nat _ (L + 7) nl)
    (hbv : 0 ≤ bv ∧ bv < 16) (harc : ∀ fv zv, 0 ≤ fv → fv < 16 → (zv = wv ∨ zv = 16 - wv) → ArcOk xs ns t fv zv) (hd : A.depth + 20 < recursionLimit) (hu : A.units + 100 < cLine)
    (hq : ∀ h tk m'' o5 o4 o3 ps' ow', Fr g L h (mOf m'') → News g L h ((rl, W.listOf (List.toArray rv) re) :: (nl, W.listOf (List.toArray nv) 0) :: lawCells L c7 c6 o5 o4 o3 c2 c1 ++ (64, tabObj ps6) :: (85, tabObj ps') :: ow') → Q .next { s0 with heap := h, toks := tk }) :
    wpAny (model PySem.Challenge.rw_pm0032_01.row.prog C.w) A (exec (.For tgt it (b0 :: b1 :: b2 :: b3 :: b4 :: b5 :: b6 :: b7 :: []) [] pp) (envOfC q sc L fa cdv)) Q (fun _ _ => False) s0 := by
  subst hcdv
  have X0 := S.X
  have S0 := S
  revert X0; k_fill; intro X0
  have y : IsLaw C _ _ _ := ⟨_, _, _, _, _, _, _, _, _, _, _, _, by k_is⟩
  obtain ⟨rfl, rfl, e⟩ := hl.same y
  simp only [List.cons.injEq, Stmt.For.injEq] at e
  obtain ⟨-, -, -, -, -, -, -, -, -, -, -, -, ⟨rfl, rfl, -, -, -⟩, -⟩ := e
  clear y
  obtain ⟨B', F', X', T', hA', hf', hk', hh'⟩ := S
  simp only [lawCells, List.cons_append, List.nil_append] at N
  refine For_lst (h₀ := g) hh' ?_ (fun _ => rfl) PassesOwn.never
  k_unmd
  k_steps
  refine Stop.mk ?_
  rename_i D1 h1' l1 D2 h2' l2 l h3' F6 N6 l3
  have oD1 : D1 ∉ wLaw L := off_w l1.2.2.1 l64 l85
  have oD2 : D2 ∉ wLaw L := off_w l2.2.2.2.1 l64 l85
  have ol : l ∉ wLaw L := off_w l3.2.2.2.2.1 l64 l85
  clear l1 l2 l3
  have hb2 : 0 ≤ (bv + wv).fmod 16 ∧ (bv + wv).fmod 16 < 16 := ⟨Int.fmod_nonneg_of_pos _ (by decide), Int.fmod_lt_of_pos _ (by decide)⟩
  generalize hO1 : ({ cls := .type "tuple", data := .seq #[Value.int bv t2, .int wv t1] } : Obj) = O1 at N6
  generalize hO2 : ({ cls := .type "tuple", data := .seq #[Value.int ((bv + wv).fmod 16) _, .int (16 - wv) _] } : Obj) = O2 at N6
  have hN6 : News g L h3' ((rl, W.listOf (List.toArray rv) re) :: (nl, W.listOf (List.toArray nv) 0) :: lawCells L c7 c6 c5 c4 c3 c2 c1 ++ (64, tabObj ps6) :: (85, tabObj ps) :: (l, W.listOf #[Value.ref D1, Value.ref D2] 0) :: (D2, O2) :: (D1, O1) :: ow) := by
    (repeat (refine newsC N6 (by k_mem) ?_))
    exact fun p hp => N6 p (by repeat (first | exact hp | refine List.mem_cons_of_mem _ ?_))
  clear N6
  refine iter_lst2 (vs := [Value.ref D1, Value.ref D2]) (ArcJ L c7 c6 c2 c1 (rl, W.listOf (List.toArray rv) re) (nl, W.listOf (List.toArray nv) 0) ps6 ((l, W.listOf #[Value.ref D1, Value.ref D2] 0) :: (D2, O2) :: (D1, O1) :: ow))
    ⟨_, (hN6 (l, W.listOf #[Value.ref D1, Value.ref D2] 0) (by k_mem)).1, rfl, _, rfl⟩ F6 hN6 (Exists.intro _ ⟨c5, c4, c3, v5, v4, v3, ps, _, rfl, rfl, h5, h4, h3, ⟨hT.1, fun pos c e => ?_⟩, fun p hp => ?_, fun _ h => h⟩) ?_ ?_ ?_
  · obtain ⟨c', oc, vs, t, a1, a2, a3, a4⟩ := hT.2 pos c e
    exact ⟨c', oc, vs, t, a1, List.mem_cons_of_mem _ (List.mem_cons_of_mem _ (List.mem_cons_of_mem _ a2)), a3, a4⟩
  · exact all_cons (P := fun p => p.1 ∉ wLaw L) ol (all_cons oD2 (all_cons oD1 how)) p hp
  · rintro i m₁ nx h ⟨m2, o5, o4, o3, w5, w4, w3, ps', ow', rfl, rfl, g5, g4, g3, hT', how', hsub⟩ F N
    have hm := hsub (l, W.listOf #[Value.ref D1, Value.ref D2] 0) (by k_mem)
    exact ⟨_, (N (l, W.listOf #[Value.ref D1, Value.ref D2] 0) (by repeat (first | exact hm | refine List.mem_cons_of_mem _ ?_))).1, rfl, _, rfl⟩
  · rintro i v m₁ nx I io h tk hv ⟨m2, o5, o4, o3, w5, w4, w3, ps', ow', rfl, rfl, g5, g4, g3, hT', how', hsub⟩ hI1 hI2 F8 N8 ⟨k, hio⟩
    have F8 : Fr g L h _ := F8
    have N8 : News g L h _ := N8
    obtain ⟨D, fv, zv, ft, zt, rfl, hD, hfv, hzv⟩ : ∃ D fv zv ft zt, v = .ref D ∧ (D, tupO fv zv ft zt) ∈ ow' ∧ (0 ≤ fv ∧ fv < 16) ∧ (zv = wv ∨ zv = 16 - wv) := by
      match i, hv with
      | 0, hv => exact ⟨D1, bv, wv, t2, t1, by simpa using hv.symm, (by have := hsub (D1, O1) (by k_mem); rw [← hO1] at this; exact this), hbv, .inl rfl⟩
      | 1, hv => exact ⟨D2, (bv + wv).fmod 16, 16 - wv, _, _, by simpa using hv.symm, (by have := hsub (D2, O2) (by k_mem); rw [← hO2] at this; exact this), hb2, .inr rfl⟩
      | i + 2, hv => simp at hv
    clear F6 hN6
    simp only [lawCells, List.cons_append, List.nil_append] at N8
    refine abs_post fun QQ hQQ => ?_
    k_unmd
    refine unpackN_ F8 N8 (items := #[Value.int fv ft, Value.int zv zt]) ⟨_, (N8 (D, tupO fv zv ft zt) (by repeat (first | exact hD | refine List.mem_cons_of_mem _ ?_))).1, rfl, 0, rfl⟩ hh' rfl rfl ?_
    intro h9 F9 N9
    clear F8 N8
    k_steps
    refine Stop.mk ?_
    have oI : I ∉ wLaw L := off_w (hI1 (L + 1 + 1 + 1 + 1 + 1 + 1 + 1, c7) (by k_mem)) l64 l85
    refine store_split (pre := [(I, io), (rl, _), (nl, _), (L + 1 + 1 + 1 + 1 + 1 + 1 + 1, c7), (L + 1 + 1 + 1 + 1 + 1 + 1, c6)]) (post := (L + 1 + 1 + 1 + 1, o4) :: (L + 1 + 1 + 1, o3) :: (L + 1 + 1, c2) :: (L + 1, c1) :: (64, tabObj ps6) :: (85, tabObj ps') :: ow') F9 N9
      (all_cons (fun (e : I = _) => oI (by rw [e]; simp [wLaw])) (up5 hrl hnl)) (dn5 l64 l85 fun p hp e => how' p hp (by rw [e]; simp [wLaw])) rfl g5 ?_
    intro h10 p5 F10 NN10 g5'
    have N10 : News g L h10 ((I, io) :: (rl, W.listOf (List.toArray rv) re) :: (nl, W.listOf (List.toArray nv) 0) :: (L + 1 + 1 + 1 + 1 + 1 + 1 + 1, c7) :: (L + 1 + 1 + 1 + 1 + 1 + 1, c6) :: (L + 1 + 1 + 1 + 1 + 1, p5) :: (L + 1 + 1 + 1 + 1, o4) :: (L + 1 + 1 + 1, o3) :: (L + 1 + 1, c2) :: (L + 1, c1) :: (64, tabObj ps6) :: (85, tabObj ps') :: ow') := NN10
    clear F9 N9 NN10
    k_steps
    refine Stop.mk ?_
    refine store_split (pre := [(I, io), (rl, _), (nl, _), (L + 1 + 1 + 1 + 1 + 1 + 1 + 1, c7), (L + 1 + 1 + 1 + 1 + 1 + 1, c6), (L + 1 + 1 + 1 + 1 + 1, p5), (L + 1 + 1 + 1 + 1, o4)]) (post := (L + 1 + 1, c2) :: (L + 1, c1) :: (64, tabObj ps6) :: (85, tabObj ps') :: ow') F10 N10
      (all_cons (fun (e : I = _) => oI (by rw [e]; simp [wLaw])) (up3 hrl hnl)) (dn3 l64 l85 fun p hp e => how' p hp (by rw [e]; simp [wLaw])) rfl g3 ?_
    intro h11 p3 F11 NN11 g3'
    have N11 : News g L h11 ((rl, W.listOf (List.toArray rv) re) :: (nl, W.listOf (List.toArray nv) 0) :: lawCells L c7 c6 p5 o4 p3 c2 c1 ++ (64, tabObj ps6) :: (85, tabObj ps') :: (I, io) :: ow') := by
      (repeat (refine newsC NN11 (by k_mem) ?_))
      exact fun p hp => NN11 p (by repeat (first | exact hp | refine List.mem_cons_of_mem _ ?_))
    clear F10 N10 NN11
    k_steps
    have hin' : ∀ b o, H.get? b = some o → g.get? b = some o ∨ (b, o) ∈ (I, io) :: ow' := fun b o e => (hin b o e).imp id fun x => List.mem_cons_of_mem _ (hsub _ (List.mem_cons_of_mem _ (List.mem_cons_of_mem _ (List.mem_cons_of_mem _ x))))
    have hT2 : TabQ ((I, io) :: ow') lamLaw ps' := ⟨hT'.1, fun pos c e => by
      obtain ⟨c', oc, vs, t, a1, a2, a3, a4⟩ := hT'.2 pos c e
      exact ⟨c', oc, vs, t, a1, List.mem_cons_of_mem _ a2, a3, a4⟩⟩
    have how2 : ∀ p ∈ (I, io) :: ow', p.1 ∉ wLaw L := fun p hp => by
      rcases List.mem_cons.mp hp with rfl | hp
      · exact oI
      · exact how' p hp
    rename Fr _ _ _ _ => F12
    rename News _ _ _ _ => N12
    refine Stop.mk ?_
    refine law_turn (s0 := { s0 with heap := h11, toks := _ }) C rfl hl (S0.go F12) CH N12 h7 h6 g5' g4 g3' h2 h1 hxs hx8 hrv hrow hin' htold ht hg hT2 how2 l64 l85 hrl hnl hfv (harc fv zv hfv.1 hfv.2 hzv) hd hu ?_
    intro h13 tk13 m3 q4 v4' ps3 ow3 F13 N13 k4 hsub3 hT3 how3
    have hIn : (I, io) ∈ ow3 := hsub3 _ (List.mem_cons_self ..)
    refine hQQ _ _ (LstPost.intro F13 N13 ((rl, W.listOf (List.toArray rv) re) :: (nl, W.listOf (List.toArray nv) 0) :: lawCells L c7 c6 p5 q4 p3 c2 c1 ++ (64, tabObj ps6) :: (85, tabObj ps3) :: ow3.filter (fun p => decide (p.1 ≠ I))) (by repeat (first | exact hIn | refine List.mem_cons_of_mem _ ?_)) ?_ ?_ (Exists.intro m3 ⟨p5, q4, p3, _, _, _, ps3, _, rfl, rfl, g5', k4, g3', ⟨hT3.1, fun pos c e => ?_⟩, fun p hp => how3 p (List.mem_filter.mp hp).1, fun p hp => ?_⟩))
    · (repeat (refine all_cons (by k_mem) ?_))
      exact fun p hp => have hp := (List.mem_filter.mp hp).1; (by repeat (first | exact hp | refine List.mem_cons_of_mem _ ?_))
    · refine all_in hI2 (by k_mem) (all_in hI2 (by k_mem) (all_in hI2 (by k_mem) (all_in hI2 (by k_mem) (all_cons (hI2 (L + 1 + 1 + 1 + 1 + 1, o5) (by k_mem)) (all_cons (hI2 (L + 1 + 1 + 1 + 1, o4) (by k_mem)) (all_cons (hI2 (L + 1 + 1 + 1, o3) (by k_mem)) (all_in hI2 (by k_mem) (all_in hI2 (by k_mem) (all_in hI2 (by k_mem) (all_cons (hI2 (85, tabObj ps') (by k_mem)) ?_))))))))))
      exact fun p hp => of_decide_eq_true (List.mem_filter.mp hp).2
    · obtain ⟨c', oc, vs, t, a1, a2, a3, a4⟩ := hT3.2 pos c e
      refine ⟨c', oc, vs, t, a1, List.mem_filter.mpr ⟨a2, decide_eq_true fun (q : c' = I) => ?_⟩, a3, a4⟩
      have z : oc = io := news_inj N13 (p := (c', oc)) (q := (I, io)) (by repeat (first | exact a2 | refine List.mem_cons_of_mem _ ?_)) (by repeat (first | exact hIn | refine List.mem_cons_of_mem _ ?_)) q
      rw [z, hio] at a3
      cases a3
      simp at a4
    · have hp' := hsub p hp
      exact List.mem_filter.mpr ⟨hsub3 _ (List.mem_cons_of_mem _ hp'), decide_eq_true (hI2 p (by repeat (first | exact hp' | refine List.mem_cons_of_mem _ ?_)))⟩
  · rintro h tk m₁ nx ⟨m2, o5, o4, o3, w5, w4, w3, ps', ow', rfl, rfl, g5, g4, g3, hT', how', hsub⟩ F N
    exact hq h tk m2 o5 o4 o3 ps' ow' F N
end Mine
namespace Mine
theorem topOff42 : True := by w_top off; trivial
local macro_rules | `(tactic| walk_at "storeName") => `(tactic| refine Stop.out ?_)
theorem kba_name {prog : Program} {w : World} {A : Around} {E : Value → Shared → Prop} {s : Shared} {value slice : Expr} {o i : Value} {Q : Value → Shared → Prop}
    (h : wpAny (model prog w) A (subscriptTail (Expr.Name (Str.ofString "_") ⟨0, 0, 0, 0⟩) slice o i) Q E s) : wpAny (model prog w) A (subscriptTail value slice o i) Q E s := kba_turn (fun _ => rfl) h
local macro_rules | `(tactic| walk_at "subscriptTail BinOp") => `(tactic| refine kba_name ?_)
noncomputable def num8 (ns : List Int) : List Int := (ns ++ [339, 124, 643, 359, 1104, 463, 92, 185]).take 8
set_option maxHeartbeats 4000000 in
/-- numbers = (script + [..])[:8] -/
theorem law_num (C : Cx) {A A₀ : Around} {outer : List Env} {base g : Heap} {L fa : Addr} {cdv : Value} (hcdv : cdv = .ref 87) {s0 : Shared} {q : Str} {sc : Scope} {a0 : Stmt} {rest : List Stmt} (hl : IsLaw C q sc (a0 :: rest))
    {l : Addr} {vs : List Value} {ns : List Int} {c7 c6 c5 c4 c3 c2 c1 : Obj} {Q : Flow → Shared → Prop} {v6 : Option Value} {ow : List (Addr × Obj)}
    (S : Site C A A₀ (envOfC q sc L fa cdv) outer base g L (mOf [(Str.ofString "script", .ref l)]) s0) (N : News g L s0.heap (lawCells L c7 c6 c5 c4 c3 c2 c1 ++ ow)) (how : ∀ p ∈ ow, @LT.lt Nat _ p.1 L)
    (h6 : c6.data = .cell v6) (hlst : g.IsList l vs.toArray) (hns : IntsAre vs ns) (hlen : ns.length ≤ 63)
    (hq : ∀ h tk nl nv o6, Fr g L h (mOf [(Str.ofString "script", .ref l)]) → News g L h ((nl, W.listOf (List.toArray nv) 0) :: lawCells L c7 o6 c5 c4 c3 c2 c1 ++ ow) → o6.data = .cell (some (.ref nl)) → @LT.lt Nat _ (L + 7) nl → IntsAre nv (num8 ns) → Q .next { s0 with heap := h, toks := tk }) :
    wpAny (model PySem.Challenge.rw_pm0032_01.row.prog C.w) A (exec a0 (envOfC q sc L fa cdv)) Q (fun _ _ => False) s0 := by
  subst hcdv
  have X0 := S.X
  revert X0; k_fill; intro X0
  have y : IsLaw C _ _ _ := ⟨_, _, _, _, _, _, _, _, _, _, _, _, by k_is⟩
  obtain ⟨rfl, rfl, e⟩ := hl.same y
  cases e
  clear y hl
  obtain ⟨B', F', X', T', hA', hf', hk', hh'⟩ := S
  simp only [lawCells, List.cons_append, List.nil_append] at N
  k_unmd
  k_steps
  refine Stop.mk ?_
  rename_i la hh1 l1 D1 ws1 hh2 i1 l2 D2 ws2 hh3 F6 N6 i2 _ _ l3
  have z := l3.2.2.1
  have z2 := l2.2.1
  have z1 := l1.1
  refine store_split (pre := [(D2, _), (D1, _), (la, _), (L + 1 + 1 + 1 + 1 + 1 + 1 + 1, c7)]) (post := (L + 1 + 1 + 1 + 1 + 1, c5) :: (L + 1 + 1 + 1 + 1, c4) :: (L + 1 + 1 + 1, c3) :: (L + 1 + 1, c2) :: (L + 1, c1) :: ow) F6 N6
    (all_cons (far_ne (i := 6) z (by decide)) (all_cons (far_ne (i := 6) z2 (by decide)) (all_cons (far_ne (i := 6) z1 (by decide)) (all_cons (cell_ne (L := L) (i := 7) (j := 6) (by decide)) all_nil))))
    (all_cons (cell_ne (L := L) (i := 5) (j := 6) (by decide)) (all_cons (cell_ne (L := L) (i := 4) (j := 6) (by decide)) (all_cons (cell_ne (L := L) (i := 3) (j := 6) (by decide)) (all_cons (cell_ne (L := L) (i := 2) (j := 6) (by decide)) (all_cons (cell_ne (L := L) (i := 1) (j := 6) (by decide)) (fun p hp => low_ne (i := 6) (how p hp))))))) rfl h6 ?_
  intro h9 o6 F9 NN9 g6
  exact hq h9 _ D2 ws2 o6 F9 (newsC NN9 (by k_mem) (news_out (news_out (news_out NN9)))) g6 z i2
set_option maxHeartbeats 4000000 in
/-- told = [] -/
theorem law_told0 (C : Cx) {A A₀ : Around} {outer : List Env} {base g : Heap} {L fa : Addr} {cdv : Value} (hcdv : cdv = .ref 87) {s0 : Shared} {q : Str} {sc : Scope} {a0 a1 : Stmt} {rest : List Stmt} (hl : IsLaw C q sc (a0 :: a1 :: rest))
    {m : List (Str × Value)} {nl : Addr} {nv : List Value} {c7 c6 c5 c4 c3 c2 c1 : Obj} {Q : Flow → Shared → Prop} {v7 : Option Value} {ow : List (Addr × Obj)}
    (S : Site C A A₀ (envOfC q sc L fa cdv) outer base g L (mOf m) s0) (N : News g L s0.heap ((nl, W.listOf (List.toArray nv) 0) :: lawCells L c7 c6 c5 c4 c3 c2 c1 ++ ow)) (how : ∀ p ∈ ow, @LT.lt Nat _ p.1 L) (hnl : @LT.lt Nat _ (L + 7) nl)
    (h7 : c7.data = .cell v7)
    (hq : ∀ h tk tl o7, Fr g L h (mOf m) → News g L h ((tl, W.listOf #[] 0) :: (nl, W.listOf (List.toArray nv) 0) :: lawCells L o7 c6 c5 c4 c3 c2 c1 ++ ow) → o7.data = .cell (some (.ref tl)) → @LT.lt Nat _ (L + 7) tl → @LT.lt Nat _ nl tl → Q .next { s0 with heap := h, toks := tk }) :
    wpAny (model PySem.Challenge.rw_pm0032_01.row.prog C.w) A (exec a1 (envOfC q sc L fa cdv)) Q (fun _ _ => False) s0 := by
  subst hcdv
  have X0 := S.X
  revert X0; k_fill; intro X0
  have y : IsLaw C _ _ _ := ⟨_, _, _, _, _, _, _, _, _, _, _, _, by k_is⟩
  obtain ⟨rfl, rfl, e⟩ := hl.same y
  cases e
  clear y hl
  obtain ⟨B', F', X', T', hA', hf', hk', hh'⟩ := S
  simp only [lawCells, List.cons_append, List.nil_append] at N
  k_unmd
  k_steps
  refine Stop.mk ?_
  rename_i tl hh1 F6 N6 l1
  have z1 := l1.1
  have z2 := l1.2.1
  refine store_split (pre := [(tl, _), (nl, _)]) (post := (L + 1 + 1 + 1 + 1 + 1 + 1, c6) :: (L + 1 + 1 + 1 + 1 + 1, c5) :: (L + 1 + 1 + 1 + 1, c4) :: (L + 1 + 1 + 1, c3) :: (L + 1 + 1, c2) :: (L + 1, c1) :: ow) F6 N6
    (all_cons (far_ne (i := 7) z2 (by decide)) (all_cons (far_ne (i := 7) hnl (by decide)) all_nil))
    (all_cons (cell_ne (L := L) (i := 6) (j := 7) (by decide)) (all_cons (cell_ne (L := L) (i := 5) (j := 7) (by decide)) (all_cons (cell_ne (L := L) (i := 4) (j := 7) (by decide)) (all_cons (cell_ne (L := L) (i := 3) (j := 7) (by decide)) (all_cons (cell_ne (L := L) (i := 2) (j := 7) (by decide)) (all_cons (cell_ne (L := L) (i := 1) (j := 7) (by decide)) (fun p hp => low_ne (i := 7) (how p hp)))))))) rfl h7 ?_
  intro h9 o7 F9 NN9 g7
  exact hq h9 _ tl o7 F9 NN9 g7 z2 z1
set_option maxHeartbeats 4000000 in
/-- row = [] -/
theorem law_row0 (C : Cx) {A A₀ : Around} {outer : List Env} {base g : Heap} {L fa : Addr} {cdv : Value} (hcdv : cdv = .ref 87) {s0 : Shared} {q : Str} {sc : Scope} {a0 a1 a2 a3 : Stmt} {rest : List Stmt} (hl : IsLaw C q sc (a0 :: a1 :: a2 :: a3 :: rest))
    {m : List (Str × Value)} {nl tl : Addr} {te : Nat} {tv nv : List Value} {c7 c6 c5 c4 c3 c2 c1 : Obj} {Q : Flow → Shared → Prop} {v1 : Option Value} {ow : List (Addr × Obj)}
    (S : Site C A A₀ (envOfC q sc L fa cdv) outer base g L (mOf m) s0) (N : News g L s0.heap ((tl, W.listOf (List.toArray tv) te) :: (nl, W.listOf (List.toArray nv) 0) :: lawCells L c7 c6 c5 c4 c3 c2 c1 ++ (64, tabObj #[]) :: (85, tabObj #[]) :: ow)) (l64 : @LT.lt Nat _ 64 L) (l85 : @LT.lt Nat _ 85 L) (hnl : @LT.lt Nat _ (L + 7) nl) (htl : @LT.lt Nat _ (L + 7) tl)
    (h1 : c1.data = .cell v1) (how : ∀ p ∈ ow, p.1 ∉ wLaw L)
    (hq : ∀ h tk rl o1, Fr g L h (mOf m) → News g L h ((rl, W.listOf #[] 0) :: (tl, W.listOf (List.toArray tv) te) :: (nl, W.listOf (List.toArray nv) 0) :: lawCells L c7 c6 c5 c4 c3 c2 o1 ++ (64, tabObj #[]) :: (85, tabObj #[]) :: ow) → o1.data = .cell (some (.ref rl)) → @LT.lt Nat _ (L + 7) rl → tl ≠ rl → nl ≠ rl → (∀ p ∈ ow, p.1 ≠ rl) → Q .next { s0 with heap := h, toks := tk }) :
    wpAny (model PySem.Challenge.rw_pm0032_01.row.prog C.w) A (exec a3 (envOfC q sc L fa cdv)) Q (fun _ _ => False) s0 := by
  subst hcdv
  have X0 := S.X
  revert X0; k_fill; intro X0
  have y : IsLaw C _ _ _ := ⟨_, _, _, _, _, _, _, _, _, _, _, _, by k_is⟩
  obtain ⟨rfl, rfl, e⟩ := hl.same y
  cases e
  clear y hl
  obtain ⟨B', F', X', T', hA', hf', hk', hh'⟩ := S
  simp only [lawCells, List.cons_append, List.nil_append] at N
  k_unmd
  k_steps
  refine Stop.mk ?_
  rename_i rl hh1 F6 N6 l1
  have z1 := l1.1
  have z2 := l1.2.1
  have z3 := l1.2.2.1
  have z4 := l1.2.2.2.2.2.2.2.2.2.2.2
  refine store_split (pre := [(rl, _), (tl, _), (nl, _), (L + 1 + 1 + 1 + 1 + 1 + 1 + 1, c7), (L + 1 + 1 + 1 + 1 + 1 + 1, c6), (L + 1 + 1 + 1 + 1 + 1, c5), (L + 1 + 1 + 1 + 1, c4), (L + 1 + 1 + 1, c3), (L + 1 + 1, c2)]) (post := (64, tabObj #[]) :: (85, tabObj #[]) :: ow) F6 N6
    (all_cons (far_ne (i := 1) z3 (by decide)) (all_cons (far_ne (i := 1) htl (by decide)) (all_cons (far_ne (i := 1) hnl (by decide)) (all_cons (cell_ne (L := L) (i := 7) (j := 1) (by decide)) (all_cons (cell_ne (L := L) (i := 6) (j := 1) (by decide)) (all_cons (cell_ne (L := L) (i := 5) (j := 1) (by decide)) (all_cons (cell_ne (L := L) (i := 4) (j := 1) (by decide)) (all_cons (cell_ne (L := L) (i := 3) (j := 1) (by decide)) (all_cons (cell_ne (L := L) (i := 2) (j := 1) (by decide)) all_nil)))))))))
    (all_cons (low_ne (i := 1) l64) (all_cons (low_ne (i := 1) l85) fun p hp e => how p hp (by rw [e]; simp [wLaw]))) rfl h1 ?_
  intro h9 o1 F9 NN9 g1
  exact hq h9 _ rl o1 F9 NN9 g1 z3 (Nat.ne_of_lt z1) (Nat.ne_of_lt z2) (fun p hp => Nat.ne_of_lt (tb_ltOf z4 p hp))
end Mine
namespace Mine
theorem topOff43 : True := by w_top off; trivial
set_option maxHeartbeats 4000000 in
/-- return True -/
theorem law_ret (C : Cx) {A A₀ : Around} {outer : List Env} {base g : Heap} {L fa : Addr} {cdv : Value} {s0 : Shared} {q : Str} {sc : Scope} {a0 a1 a2 a3 a4 a5 a6 a7 a8 a9 aa ab ac r : Stmt}
    (hl : IsLaw C q sc (a0 :: a1 :: a2 :: a3 :: a4 :: a5 :: a6 :: a7 :: a8 :: a9 :: aa :: ab :: ac :: r :: [])) {m : Str → Option Value} {Q : Flow → Shared → Prop}
    (S : Site C A A₀ (envOfC q sc L fa cdv) outer base g L m s0) (hq : ∀ tk, Q (.ret (.bool true)) { s0 with toks := tk }) :
    wpAny (model PySem.Challenge.rw_pm0032_01.row.prog C.w) A (exec r (envOfC q sc L fa cdv)) Q (fun _ _ => False) s0 := by
  have X0 := S.X
  revert X0; k_fill; intro X0
  have y : IsLaw C _ _ _ := ⟨_, _, _, _, _, _, _, _, _, _, _, _, by k_is⟩
  obtain ⟨rfl, rfl, e⟩ := hl.same y
  cases e
  clear y hl
  obtain ⟨B', F', X', T', hA', hf', hk', hh'⟩ := S
  k_unmd
  k_steps
  exact hq _
theorem mem_front {α : Type} {x : α} {l r : List α} (h : x ∈ l) : x ∈ l ++ r := List.mem_append_left _ h
noncomputable abbrev treeOf (xs ns : List Int) : Tr := mkTree (ns.map fun n => valF (vAt xs n)) 3 (rangeKs 0 8) 0
noncomputable abbrev fsOf (xs ns : List Int) : List UInt64 := ns.map fun n => valF (vAt xs n)
/-- what law asks of the row, in plain words -/
structure PlainOk (xs ns : List Int) : Prop where
  light : ns.filter (lightN xs) = ((rangeKs 0 8).filter fun p => !lePlace ((fsOf xs ns).getD p.toNat 0) (0 + 2 ^ 2)).map fun p => ns.getD p.toNat 0
  dark : ns.filter (fun n => !lightN xs n) = ((rangeKs 0 8).filter fun p => lePlace ((fsOf xs ns).getD p.toNat 0) (0 + 2 ^ 2)).map fun p => ns.getD p.toNat 0
  good : (treeOf xs ns).Good
  arc : ∀ fv zv, 0 ≤ fv → fv < 16 → 1 ≤ zv → zv ≤ 15 → ArcOk xs ns (treeOf xs ns) fv zv
theorem num8_len {ns : List Int} : (num8 ns).length = 8 := by simp [num8]
theorem range_filter {P : Int → Bool} : ∀ p ∈ (rangeKs 0 8).filter P, 0 ≤ p ∧ p < 8 := fun p hp => by
  have := (List.mem_filter.mp hp).1
  simp only [rangeKs, List.mem_map, List.mem_range] at this
  obtain ⟨j, hj, rfl⟩ := this
  omega
theorem mkTree_part (fs : List UInt64) (n : Nat) (ps : List Int) (lo : Int) : (mkTree fs n ps lo).part = ps := by cases n <;> rfl
theorem law_walk (C : Cx) {A A₀ : Around} {outer : List Env} {base g : Heap} {L fa : Addr} {cdv : Value} (hcdv : cdv = .ref 87) {s0 : Shared} {q : Str} {sc : Scope} {body : List Stmt} (hl : IsLaw C q sc body)
    {l : Addr} {vs : List Value} {ks : List Int} {c7 c6 c5 c4 c3 c2 c1 : Obj} {Q : Flow → Shared → Prop}
    (S : Site C A A₀ (envOfC q sc L fa cdv) outer base g L (mOf [(Str.ofString "script", .ref l)]) s0) (CH : CodeHd g 87 85) (CH2 : CodeHd g 68 64)
    (N : News g L s0.heap (lawCells L c7 c6 c5 c4 c3 c2 c1 ++ [(64, tabObj #[]), (85, tabObj #[])]))
    (h7 : c7.data = .cell none) (h6 : c6.data = .cell none) (h5 : c5.data = .cell none) (h4 : c4.data = .cell none) (h3 : c3.data = .cell none) (h2 : c2.data = .cell none) (h1 : c1.data = .cell none)
    (l64 : @LT.lt Nat _ 64 L) (l85 : @LT.lt Nat _ 85 L) (hlst : g.IsList l vs.toArray) (hks : IntsAre vs ks) (hlen : ks.length ≤ 63)
    (hd : A.depth + 20 < recursionLimit) (hu : A.units + 100 < cLine) (plain : ∀ ns, RowOk (num8 ks) 8 ns → PlainOk (num8 ks) ns)
    (hq : ∀ h tk m' news ps6 ps, Fr g L h m' → News g L h news → (64, tabObj ps6) ∈ news → (85, tabObj ps) ∈ news → Q (.ret (.bool true)) { s0 with heap := h, toks := tk }) :
    wpAny (model PySem.Challenge.rw_pm0032_01.row.prog C.w) A (execs body (envOfC q sc L fa cdv)) Q (fun _ _ => False) s0 := by
  obtain ⟨a0, a1, g2, i2, s2, p2, a3, g4, i4, s4, p4, a5, a6, a7, a8, a9, aa, ab, tgt, it, b0, b1, b2, b3, b4, b5, b6, b7, pp, r, e⟩ : ∃ a0 a1 g2 i2 s2 p2 a3 g4 i4 s4 p4 a5 a6 a7 a8 a9 aa ab tgt it b0 b1 b2 b3 b4 b5 b6 b7 pp r,
      body = a0 :: a1 :: .For g2 i2 s2 [] p2 :: a3 :: .For g4 i4 s4 [] p4 :: a5 :: a6 :: a7 :: a8 :: a9 :: aa :: ab :: .For tgt it (b0 :: b1 :: b2 :: b3 :: b4 :: b5 :: b6 :: b7 :: []) [] pp :: r :: [] := by
    have X0 := S.X
    clear S N
    have X1 := X0
    revert X0; k_fill; intro X0
    have y : IsLaw C _ _ _ := ⟨_, _, _, _, _, _, _, _, _, _, _, _, by k_is⟩
    obtain ⟨rfl, rfl, rfl⟩ := hl.same y
    exact ⟨_, _, _, _, _, _, _, _, _, _, _, _, _, _, _, _, _, _, _, _, _, _, _, _, _, _, _, _, _, _, rfl⟩
  subst e
  have lL : ∀ {x : Addr}, @LT.lt Nat _ (L + 7) x → @LT.lt Nat _ L x := fun h => Nat.lt_of_le_of_lt (Nat.le_add_right L 7) h
  refine wpAny_execs_cons (law_num C hcdv hl S N (all_cons l64 (all_cons l85 all_nil)) h6 hlst hks hlen ?_)
  intro hp1 tk1 nl nv o6 F1 N1 g6 lnl hxs
  refine wpAny_execs_cons (law_told0 C hcdv hl (S.go F1) N1 (all_cons l64 (all_cons l85 all_nil)) lnl h7 ?_)
  intro hp2 tk2 tl o7 F2 N2 g7 ltl lnt
  refine wpAny_execs_cons (told_loop C hl (S.go F2) N2 g7 g6 l64 l85 ltl lnt hxs num8_len hd hu ?_)
  intro hp3 tk3 tv te own tail _ F3 N3 hcols _
  have hcols1 : ColsIn (own.filter fun p => decide (p.1 ∉ wLaw L)) tv ((num8 ks).map colOf) := hcols.mono2 fun b x t1 t2 t3 hm => List.mem_filter.mpr ⟨hm, by
    rw [decide_eq_true_eq]
    intro hw
    have bad : ∀ c co, (c, co) ∈ lawCells L o7 o6 c5 c4 c3 c2 c1 ++ [(64, tabObj #[]), (85, tabObj #[])] → (∀ its, co.data ≠ .seq its) → b ≠ c := fun c co hc hn e => by
      have hc2 := List.mem_cons_of_mem (tl, W.listOf (List.toArray tv) te) (List.mem_cons_of_mem (nl, W.listOf (List.toArray nv) 0) hc)
      have z : colObj x t1 t2 t3 = co := news_inj N3 (p := (b, colObj x t1 t2 t3)) (q := (c, co)) (by repeat (first | exact hm | refine List.mem_cons_of_mem _ ?_)) (mem_front (l := _ :: _ :: lawCells L o7 o6 c5 c4 c3 c2 c1 ++ [_, _]) hc2) e
      exact hn _ (by rw [← z])
    have zL := (N3 (b, colObj x t1 t2 t3) (by repeat (first | exact hm | refine List.mem_cons_of_mem _ ?_))).2.1
    simp only [wLaw, List.mem_cons, List.not_mem_nil, or_false] at hw
    rcases hw with h | h | h | h | h | h | h | h | h | h
    · exact zL h
    · exact bad 64 (tabObj #[]) (by k_mem) (fun _ e => by cases e) h
    · exact bad 85 (tabObj #[]) (by k_mem) (fun _ e => by cases e) h
    · exact bad _ o7 (by k_mem) (fun _ e => by rw [g7] at e; cases e) h
    · exact bad _ o6 (by k_mem) (fun _ e => by rw [g6] at e; cases e) h
    · exact bad _ c5 (by k_mem) (fun _ e => by rw [h5] at e; cases e) h
    · exact bad _ c4 (by k_mem) (fun _ e => by rw [h4] at e; cases e) h
    · exact bad _ c3 (by k_mem) (fun _ e => by rw [h3] at e; cases e) h
    · exact bad _ c2 (by k_mem) (fun _ e => by rw [h2] at e; cases e) h
    · exact bad _ c1 (by k_mem) (fun _ e => by rw [h1] at e; cases e) h⟩
  have hoff : ∀ p ∈ own.filter (fun p => decide (p.1 ∉ wLaw L)), p.1 ∉ wLaw L := fun p hp => of_decide_eq_true (List.mem_filter.mp hp).2
  have N3' : News g L hp3 ((tl, W.listOf (List.toArray tv) te) :: (nl, W.listOf (List.toArray nv) 0) :: lawCells L o7 o6 c5 c4 c3 c2 c1 ++ (64, tabObj #[]) :: (85, tabObj #[]) :: own.filter fun p => decide (p.1 ∉ wLaw L)) := by
    (repeat (refine newsC N3 (by k_mem) ?_))
    exact fun p hp => have hp := (List.mem_filter.mp hp).1; N3 p (by repeat (first | exact hp | refine List.mem_cons_of_mem _ ?_))
  clear N3 hcols
  generalize own.filter (fun p => decide (p.1 ∉ wLaw L)) = own1 at hcols1 hoff N3'
  refine wpAny_execs_cons (law_row0 C hcdv hl (S.go F3) N3' l64 l85 lnl ltl h1 hoff ?_)
  intro hp4 tk4 rl o1 F4 N4 g1 lrl e1 e2 e3
  refine wpAny_execs_cons (row_loop C hcdv hl (S.go F4) CH N4 g7 g6 g1 l64 l85 lrl (lL ltl) (lL lnl) e1 e2 e3 (fun p hp e => hoff p hp (by rw [e]; simp [wLaw])) (fun p hp e => hoff p hp (by rw [e]; simp [wLaw])) hxs num8_len hcols1 hd hu ?_)
  intro hp5 tk5 rv re ns own2 ps tail2 F5 N5 hrv hrow hsub hT o85 o64 orl
  refine wpAny_execs_cons (law_treeS C hcdv hl (S.go F5) CH CH2 N5 g7 g6 h5 h4 h3 h2 g1 l64 l85 hxs num8_len (hcols1.mono hsub) hrv hrow hT o85 o64 (lL ltl) lrl lnl hd hu ?_)
  intro hp6 tk6 ps6 a o2 ow H F6 N6 g2' hin htree htold hT6 how6
  have pl := plain ns hrow
  have ht' : TreeAt H (.node (rangeKs 0 8) (mkTree (fsOf (num8 ks) ns) 2 ((rangeKs 0 8).filter fun p => lePlace ((fsOf (num8 ks) ns).getD p.toNat 0) (0 + 2 ^ 2)) 0) (mkTree (fsOf (num8 ks) ns) 2 ((rangeKs 0 8).filter fun p => !lePlace ((fsOf (num8 ks) ns).getD p.toNat 0) (0 + 2 ^ 2)) (0 + 2 ^ 2))) a := htree
  have flen : ∀ P : Int → Bool, ((rangeKs 0 8).filter P).length < 20 := fun P => Nat.lt_of_le_of_lt (List.length_filter_le _ _) (by decide)
  refine wpAny_execs_cons (law_darker C hcdv hl (S.go F6) N6 g2' g1 hin ht' hrv hrow.len (by rw [mkTree_part]; exact flen _) (by rw [mkTree_part]; exact range_filter) ?_)
  intro dd hp7 tk7 d0 F7 N7 hd0
  refine wpAny_execs_cons (law_lighter (m0 := (Str.ofString "darker", .ref dd) :: _) C hcdv hl (S.go F7) N7 g2' g1 hin ht' hrv hrow.len (by rw [mkTree_part]; exact flen _) (by rw [mkTree_part]; exact range_filter) ?_)
  intro dl hp8 tk8 l0 F8 N8 hl0
  rw [mkTree_part] at hd0 hl0
  have n85 : ∀ {b : Addr} {bv : List Value}, (b, LCg.lst bv) ∈ [(dl, LCg.lst l0), (dd, LCg.lst d0)] → @Ne Nat b 85 := fun {b bv} hb e => by
    have hb2 : (b, LCg.lst bv) ∈ (dl, LCg.lst l0) :: (dd, LCg.lst d0) :: (rl, W.listOf (List.toArray rv) re) :: (nl, W.listOf (List.toArray nv) 0) :: lawCells L o7 o6 c5 c4 c3 o2 o1 ++ (64, tabObj ps6) :: (85, tabObj ps) :: ow := mem_front (l := [_, _]) hb
    have z : LCg.lst bv = tabObj ps := news_inj N8 (p := (b, LCg.lst bv)) (q := (85, tabObj ps)) hb2 (by k_mem) e
    have := congrArg Obj.data z
    cases this
  refine wpAny_execs_cons (law_split (m1 := _) C hcdv hl (S.go F8) CH N8 g6 g1 hrv hrow.len hxs num8_len hrow.mem hd0 hl0 hT6 how6 l64 l85 (n85 (b := dl) (bv := l0) (by k_mem)) (n85 (b := dd) (bv := d0) (by k_mem)) lrl lnl pl.light pl.dark hd hu ?_)
  intro hp9 tk9 ps9 ow9 m9 F9 N9 s9 hT9 how9
  refine law_sums C hcdv hl (S.go F9) N9 g6 hxs num8_len hd hu ?_
  intro hp10 tk10 t1 t2 m10 F10 N10
  have hw : 0 ≤ ((num8 ks).sum.fdiv 16).fmod 15 ∧ ((num8 ks).sum.fdiv 16).fmod 15 < 15 := ⟨Int.fmod_nonneg_of_pos _ (by decide), Int.fmod_lt_of_pos _ (by decide)⟩
  refine wpAny_execs_cons (law_arc C hcdv hl (S.go F10) CH N10 g7 g6 h5 h4 h3 g2' g1 hxs num8_len hrv hrow (fun b o e => (hin b o e).imp id fun x => s9 _ x) htold htree pl.good hT9 how9 l64 l85 lrl lnl ⟨Int.fmod_nonneg_of_pos _ (by decide), Int.fmod_lt_of_pos _ (by decide)⟩ (fun fv zv f0 f1 hz => pl.arc fv zv f0 f1 (by omega) (by omega)) hd hu ?_)
  intro hp11 tk11 m11 o5 o4 o3 ps11 ow11 F11 N11
  refine wpAny_execs_cons (law_ret C hl (S.go F11) fun tk => ?_)
  exact hq hp11 tk _ _ ps6 ps11 F11 N11 (by k_mem) (by k_mem)
end Mine
end
end
namespace Mine
theorem topOff44 : True := by w_top off; trivial
/-- the colour at a place of the row -/
noncomputable def nOf (ns : List Int) (i : Int) : Int := ns.getD i.toNat 0
noncomputable def distOf (xs : List Int) (fv n : Int) : Int := (xs.getD n.toNat 0 - fv).fmod 16
theorem fmod_e (a : Int) {b : Int} (h : 0 ≤ b := by decide) : a.fmod b = a % b := Int.fmod_eq_emod_of_nonneg a h
theorem fdiv_e (a : Int) {b : Int} (h : 0 ≤ b := by decide) : a.fdiv b = a / b := Int.fdiv_eq_ediv_of_nonneg a h
theorem dist_eq (xs : List Int) {fv : Int} (n : Int) (f0 : 0 ≤ fv) (f1 : fv < 16) : distOf xs fv n = if fv ≤ hAt xs n then hAt xs n - fv else hAt xs n - fv + 16 := by
  unfold distOf hAt
  rw [fmod_e, fmod_e]
  split <;> omega
theorem inArc_iff (xs : List Int) {fv zv : Int} (n : Int) (f0 : 0 ≤ fv) (f1 : fv < 16) (z0 : 1 ≤ zv) (z1 : zv ≤ 15) :
    inArc xs fv zv n = true ↔ if fv ≤ (fv + zv - 1).fmod 16 then fv ≤ hAt xs n ∧ hAt xs n ≤ (fv + zv - 1).fmod 16 else fv ≤ hAt xs n ∨ hAt xs n ≤ (fv + zv - 1).fmod 16 := by
  unfold inArc hAt
  rw [decide_eq_true_eq, fmod_e, fmod_e, fmod_e]
  split <;> omega
theorem vAt_lt (xs : List Int) (n : Int) : vAt xs n < 8 := by
  unfold vAt
  have h1 : (((xs.getD n.toNat 0).fdiv 64).fmod 8) < 8 := Int.fmod_lt_of_pos _ (by decide)
  have h0 : 0 ≤ (((xs.getD n.toNat 0).fdiv 64).fmod 8) := Int.fmod_nonneg_of_pos _ (by decide)
  omega
theorem vAt_cast (xs : List Int) (n : Int) : ((vAt xs n : Nat) : Int) = ((xs.getD n.toNat 0).fdiv 64).fmod 8 := by
  unfold vAt
  have h0 : 0 ≤ (((xs.getD n.toNat 0).fdiv 64).fmod 8) := Int.fmod_nonneg_of_pos _ (by decide)
  omega
theorem mem_range8 {i : Int} : i ∈ rangeKs 0 8 ↔ 0 ≤ i ∧ i < 8 := by
  simp only [rangeKs, List.mem_map, List.mem_range]
  constructor
  · rintro ⟨j, hj, rfl⟩; omega
  · rintro ⟨h0, h1⟩; exact ⟨i.toNat, by omega, by omega⟩
theorem range8_inc : (rangeKs 0 8).Pairwise (· < ·) := by decide
theorem map_nOf {ns : List Int} (h : ns.length = 8) : (rangeKs 0 8).map (nOf ns) = ns := by
  apply List.ext_getElem
  · simp [rangeKs, h]
  · intro i h1 h2
    simp only [rangeKs, List.map_map, List.getElem_map, List.getElem_range, Function.comp, nOf]
    have : ((0 : Int) + (i : Nat)).toNat = i := by omega
    rw [this]
    simp [List.getD, h2]
theorem fs_at {xs ns : List Int} (h : ns.length = 8) {i : Int} (hi : i ∈ rangeKs 0 8) : (fsOf xs ns).getD i.toNat 0 = valF (vAt xs (nOf ns i)) := by
  obtain ⟨h0, h1⟩ := mem_range8.mp hi
  have : i.toNat < ns.length := by omega
  simp [fsOf, nOf, List.getD, this]
theorem le_at {xs ns : List Int} (h : ns.length = 8) {i : Int} (hi : i ∈ rangeKs 0 8) {m : Nat} (hm : m < 9) : lePlace ((fsOf xs ns).getD i.toNat 0) (m : Nat) = decide (vAt xs (nOf ns i) < m) := by
  rw [fs_at h hi, val_le (vAt_lt _ _) hm]
  congr 1
theorem light_at (xs : List Int) (n : Int) : lightN xs n = !decide (vAt xs n < 4) := by
  have hc := vAt_cast xs n
  unfold lightN
  rw [fdiv_e, fmod_e] at hc ⊢
  by_cases h : vAt xs n < 4
  · rw [decide_eq_true h]
    exact decide_eq_false (by omega)
  · rw [decide_eq_false h]
    exact decide_eq_true (by omega)
theorem part_light {xs ns : List Int} (h : ns.length = 8) {P Q : Int → Bool} (hPQ : ∀ i ∈ rangeKs 0 8, P (nOf ns i) = Q i) : ns.filter P = ((rangeKs 0 8).filter Q).map (nOf ns) := by
  conv => lhs; rw [← map_nOf h]
  rw [List.filter_map]
  congr 1
  exact List.filter_congr hPQ
theorem good_mk (fs : List UInt64) : ∀ (n : Nat) (ps : List Int) (lo : Int), PartOk ps → (mkTree fs n ps lo).Good
  | 0, _, _, h => h
  | n + 1, ps, lo, h => ⟨h, good_mk fs n _ _ ⟨Nat.lt_of_le_of_lt (List.length_filter_le _ _) h.1, h.2.filter _⟩, good_mk fs n _ _ ⟨Nat.lt_of_le_of_lt (List.length_filter_le _ _) h.1, h.2.filter _⟩⟩
/-- all the picks, in their order -/
noncomputable def enumT (sp : List (Nat × Nat)) : Tr → List Int
  | .leaf ps => insideOf ps sp
  | .node _ l r => enumT sp l ++ enumT sp r
noncomputable def Sized (sp : List (Nat × Nat)) : Tr → Prop
  | .leaf _ => True
  | .node _ l r => (insideOf l.part sp).length = (enumT sp l).length ∧ Sized sp l ∧ Sized sp r
theorem pick_enum {sp : List (Nat × Nat)} : ∀ {t : Tr} {w : Nat}, Sized sp t → w < (enumT sp t).length → PickOk sp t w ∧ pickOf sp t w = (enumT sp t).getD w 0
  | .leaf ps, w, _, h => ⟨h, rfl⟩
  | .node ps l r, w, ⟨h1, h2, h3⟩, h => by
    simp only [enumT, List.length_append] at h
    by_cases c : w < (insideOf l.part sp).length
    · obtain ⟨k1, k2⟩ := pick_enum (w := w) h2 (by omega)
      refine ⟨by simpa only [PickOk, if_pos c] using k1, ?_⟩
      simp only [pickOf, if_pos c, k2, enumT]
      have : w < (enumT sp l).length := by omega
      simp [List.getD, List.getElem?_append_left this]
    · obtain ⟨k1, k2⟩ := pick_enum (w := w - (insideOf l.part sp).length) h3 (by omega)
      refine ⟨by simpa only [PickOk, if_neg c] using k1, ?_⟩
      simp only [pickOf, if_neg c, k2, enumT]
      have : (enumT sp l).length ≤ w := by omega
      rw [h1]
      simp [List.getD, List.getElem?_append_right this]
/-- the list, parted as the tree parts it -/
noncomputable def splitL (fs : List UInt64) : Nat → List Int → Int → List Int
  | 0, l, _ => l
  | n + 1, l, lo => splitL fs n (l.filter fun p => lePlace (fs.getD p.toNat 0) (lo + 2 ^ n)) lo ++ splitL fs n (l.filter fun p => !lePlace (fs.getD p.toNat 0) (lo + 2 ^ n)) (lo + 2 ^ n)
theorem split_perm (fs : List UInt64) : ∀ (n : Nat) (l : List Int) (lo : Int), (splitL fs n l lo).Perm l
  | 0, _, _ => .refl _
  | n + 1, l, lo => ((split_perm fs n _ _).append (split_perm fs n _ _)).trans (List.filter_append_perm _ l)
theorem inside_filter (P : Int → Bool) (ps : List Int) (sp : List (Nat × Nat)) : insideOf (ps.filter P) sp = (insideOf ps sp).filter P := by
  unfold insideOf
  rw [List.filter_flatMap]
  congr 1
  funext ab
  rw [List.filter_filter, List.filter_filter]
  exact List.filter_congr fun x _ => Bool.and_comm _ _
theorem enum_mk (fs : List UInt64) (sp : List (Nat × Nat)) : ∀ (n : Nat) (ps : List Int) (lo : Int), enumT sp (mkTree fs n ps lo) = splitL fs n (insideOf ps sp) lo
  | 0, _, _ => rfl
  | n + 1, ps, lo => by
    show enumT sp (mkTree fs n _ _) ++ enumT sp (mkTree fs n _ _) = _
    rw [enum_mk fs sp n, enum_mk fs sp n, inside_filter, inside_filter]
    rfl
theorem sized_mk (fs : List UInt64) (sp : List (Nat × Nat)) : ∀ (n : Nat) (ps : List Int) (lo : Int), Sized sp (mkTree fs n ps lo)
  | 0, _, _ => trivial
  | n + 1, ps, lo => by
    refine ⟨?_, sized_mk fs sp n _ _, sized_mk fs sp n _ _⟩
    rw [mkTree_part, enum_mk]
    exact (split_perm fs n _ _).length_eq.symm
end Mine
namespace Mine
theorem topOff45 : True := by w_top off; trivial
def ordV (xs ns : List Int) (D : Int → Int → Prop) (i j : Int) : Prop := vAt xs (nOf ns i) < vAt xs (nOf ns j) ∨ vAt xs (nOf ns i) = vAt xs (nOf ns j) ∧ D i j
theorem split_ord {xs ns : List Int} (h : ns.length = 8) {D : Int → Int → Prop} : ∀ (n m : Nat) (l : List Int), m + 2 ^ n ≤ 8 → (∀ i ∈ l, i ∈ rangeKs 0 8 ∧ m ≤ vAt xs (nOf ns i) ∧ vAt xs (nOf ns i) < m + 2 ^ n) → l.Pairwise D →
    (splitL (fsOf xs ns) n l (m : Nat)).Pairwise (ordV xs ns D)
  | 0, m, l, _, hl, hD => hD.imp_of_mem fun {a b} ha hb hab => by
    have h1 := hl a ha
    have h2 := hl b hb
    rw [Nat.pow_zero] at h1 h2
    exact .inr ⟨by omega, hab⟩
  | n + 1, m, l, hm, hl, hD => by
    have e2 : 2 ^ (n + 1) = 2 ^ n + 2 ^ n := by rw [Nat.pow_succ]; omega
    have e : ((m : Nat) : Int) + 2 ^ n = ((m + 2 ^ n : Nat) : Int) := by simp
    have hpos : 0 < 2 ^ n := Nat.pos_of_ne_zero (by simp)
    rw [e2] at hm hl
    have hle : ∀ i ∈ l, lePlace ((fsOf xs ns).getD i.toNat 0) ((m + 2 ^ n : Nat) : Int) = decide (vAt xs (nOf ns i) < m + 2 ^ n) := fun i hi => le_at h (hl i hi).1 (by omega)
    show (splitL (fsOf xs ns) n (l.filter fun p => lePlace ((fsOf xs ns).getD p.toNat 0) (((m : Nat) : Int) + 2 ^ n)) (m : Nat) ++ splitL (fsOf xs ns) n (l.filter fun p => !lePlace ((fsOf xs ns).getD p.toNat 0) (((m : Nat) : Int) + 2 ^ n)) (((m : Nat) : Int) + 2 ^ n)).Pairwise _
    rw [e]
    have m1 : ∀ i, i ∈ (l.filter fun p => lePlace ((fsOf xs ns).getD p.toNat 0) ((m + 2 ^ n : Nat) : Int)) → i ∈ l ∧ vAt xs (nOf ns i) < m + 2 ^ n := fun i hi => by
      obtain ⟨a1, a2⟩ := List.mem_filter.mp hi
      rw [hle i a1, decide_eq_true_eq] at a2
      exact ⟨a1, a2⟩
    have m2 : ∀ i, i ∈ (l.filter fun p => !lePlace ((fsOf xs ns).getD p.toNat 0) ((m + 2 ^ n : Nat) : Int)) → i ∈ l ∧ m + 2 ^ n ≤ vAt xs (nOf ns i) := fun i hi => by
      obtain ⟨a1, a2⟩ := List.mem_filter.mp hi
      rw [hle i a1, Bool.not_eq_true', decide_eq_false_iff_not] at a2
      exact ⟨a1, by omega⟩
    refine List.pairwise_append.mpr ⟨split_ord h n m _ (by omega) (fun i hi => ?_) (hD.filter _), split_ord h n (m + 2 ^ n) _ (by omega) (fun i hi => ?_) (hD.filter _), fun a ha b hb => ?_⟩
    · obtain ⟨a1, a2⟩ := m1 i hi
      exact ⟨(hl i a1).1, (hl i a1).2.1, a2⟩
    · obtain ⟨a1, a2⟩ := m2 i hi
      exact ⟨(hl i a1).1, a2, by have := (hl i a1).2.2; omega⟩
    · have h1 := m1 a ((split_perm _ _ _ _).mem_iff.mp ha)
      have h2 := m2 b ((split_perm _ _ _ _).mem_iff.mp hb)
      exact .inl (by omega)
/-- nearer to the arc's beginning; of like distance, sooner -/
def nearer (xs ns : List Int) (fv : Int) (i j : Int) : Prop := distOf xs fv (nOf ns i) < distOf xs fv (nOf ns j) ∨ distOf xs fv (nOf ns i) = distOf xs fv (nOf ns j) ∧ nOf ns i < nOf ns j
theorem ord_due {xs ns : List Int} {fv : Int} {i j : Int} (h : ordV xs ns (nearer xs ns fv) i j) : kOrd (kDue xs fv) (nOf ns i) (nOf ns j) := by
  have h1 := vAt_cast xs (nOf ns i)
  have h2 := vAt_cast xs (nOf ns j)
  have d1 : 0 ≤ distOf xs fv (nOf ns i) := Int.fmod_nonneg_of_pos _ (by decide)
  have d2 : distOf xs fv (nOf ns i) < 16 := Int.fmod_lt_of_pos _ (by decide)
  have d3 : 0 ≤ distOf xs fv (nOf ns j) := Int.fmod_nonneg_of_pos _ (by decide)
  have d4 : distOf xs fv (nOf ns j) < 16 := Int.fmod_lt_of_pos _ (by decide)
  unfold kOrd kEnc
  show (_ * 16 + distOf xs fv (nOf ns i) < _ * 16 + distOf xs fv (nOf ns j)) ∨ (_ * 16 + distOf xs fv (nOf ns i) = _ * 16 + distOf xs fv (nOf ns j) ∧ _)
  simp only [kDue]
  rw [← h1, ← h2]
  rcases h with h | ⟨h, h' | ⟨h', h''⟩⟩ <;> omega
theorem kOrd_asymm {K : Int → Int × Int} {a b : Int} (h1 : kOrd K a b) (h2 : kOrd K b a) : a = b := by
  unfold kOrd at h1 h2; omega
theorem row_mem {xs ns : List Int} (hrow : RowOk xs 8 ns) {k : Int} (hk : k ∈ rangeKs 0 8) : k ∈ ns := by
  rcases Decidable.em (k ∈ ns) with h | h
  · exact h
  exfalso
  have nd : ns.Nodup := hrow.sorted.imp fun {a b} hab e => by subst e; unfold rowLt at hab; omega
  have sub : (k :: ns) ⊆ rangeKs 0 8 := fun x hx => by
    rcases List.mem_cons.mp hx with rfl | hx
    · exact hk
    · exact mem_range8.mpr (hrow.mem x hx)
  have nd2 : (k :: ns).Nodup := List.nodup_cons.mpr ⟨h, nd⟩
  have := nd2.length_le_of_subset sub
  rw [List.length_cons, hrow.len] at this
  exact absurd this (by decide)
section
variable {xs ns : List Int} {fv zv : Int} {p q : Nat} (hrow : RowOk xs 8 ns) (f0 : 0 ≤ fv) (f1 : fv < 16) (z0 : 1 ≤ zv) (z1 : zv ≤ 15) (hp8 : p ≤ 8) (hq8 : q ≤ 8)
  (hp0 : ∀ i (hi : i < ns.length), i < p → hAt xs ns[i] < fv) (hp1 : ∀ i (hi : i < ns.length), p ≤ i → fv ≤ hAt xs ns[i])
  (hq0 : ∀ i (hi : i < ns.length), i < q → hAt xs ns[i] ≤ (fv + zv - 1).fmod 16) (hq1 : ∀ i (hi : i < ns.length), q ≤ i → (fv + zv - 1).fmod 16 < hAt xs ns[i])
include hrow hp0 hp1 hq0 hq1
theorem place_facts {i : Int} (hi : i ∈ rangeKs 0 8) : (i < p → hAt xs (nOf ns i) < fv) ∧ ((p : Int) ≤ i → fv ≤ hAt xs (nOf ns i)) ∧ (i < q → hAt xs (nOf ns i) ≤ (fv + zv - 1).fmod 16) ∧ ((q : Int) ≤ i → (fv + zv - 1).fmod 16 < hAt xs (nOf ns i)) := by
  obtain ⟨i0, i1⟩ := mem_range8.mp hi
  have hl := hrow.len
  have hm : i.toNat < ns.length := by omega
  have e : nOf ns i = ns[i.toNat] := by simp [nOf, List.getD, hm]
  rw [e]
  exact ⟨fun h => hp0 _ hm (by omega), fun h => hp1 _ hm (by omega), fun h => hq0 _ hm (by omega), fun h => hq1 _ hm (by omega)⟩
include f0 f1 z0 z1 hp8 hq8
theorem inside_mem (i : Int) : i ∈ insideOf (rangeKs 0 8) (spOf fv ((fv + zv - 1).fmod 16) p q) ↔ i ∈ rangeKs 0 8 ∧ inArc xs fv zv (nOf ns i) = true := by
  rw [inArc_iff xs (nOf ns i) f0 f1 z0 z1]
  unfold spOf insideOf
  rw [List.mem_flatMap]
  split
  · simp only [List.mem_singleton, exists_eq_left, List.mem_filter, Bool.and_eq_true, decide_eq_true_eq]
    refine and_congr_right fun hi => ?_
    obtain ⟨k1, k2, k3, k4⟩ := place_facts hrow hp0 hp1 hq0 hq1 hi
    omega
  · simp only [List.mem_cons, List.not_mem_nil, or_false, exists_eq_or_imp, exists_eq_left, List.mem_filter, Bool.and_eq_true, decide_eq_true_eq]
    rw [← and_or_left]
    refine and_congr_right fun hi => ?_
    obtain ⟨k1, k2, k3, k4⟩ := place_facts hrow hp0 hp1 hq0 hq1 hi
    obtain ⟨i0, i1⟩ := mem_range8.mp hi
    omega
theorem inside_near : (insideOf (rangeKs 0 8) (spOf fv ((fv + zv - 1).fmod 16) p q)).Pairwise (nearer xs ns fv) := by
  have hr : (rangeKs 0 8).Pairwise (fun i j => rowLt xs (nOf ns i) (nOf ns j)) := by
    rw [← List.pairwise_map (f := nOf ns) (R := rowLt xs), map_nOf hrow.len]
    exact hrow.sorted
  have near : ∀ {i j : Int}, rowLt xs (nOf ns i) (nOf ns j) → (fv ≤ hAt xs (nOf ns i) ↔ fv ≤ hAt xs (nOf ns j)) → nearer xs ns fv i j := fun {i j} h hi => by
    unfold nearer
    rw [dist_eq xs _ f0 f1, dist_eq xs _ f0 f1]
    unfold rowLt at h
    split <;> split <;> omega
  unfold spOf insideOf
  split
  · rename_i hc
    simp only [List.flatMap_cons, List.flatMap_nil, List.append_nil]
    refine (hr.filter _).imp_of_mem fun {a b} ha hb hab => near hab ?_
    simp only [List.mem_filter, Bool.and_eq_true, decide_eq_true_eq] at ha hb
    have ka := place_facts hrow hp0 hp1 hq0 hq1 ha.1
    have kb := place_facts hrow hp0 hp1 hq0 hq1 hb.1
    have := ka.2.1 ha.2.1
    have := kb.2.1 hb.2.1
    exact ⟨fun _ => by omega, fun _ => by omega⟩
  · rename_i hc
    simp only [List.flatMap_cons, List.flatMap_nil, List.append_nil]
    refine List.pairwise_append.mpr ⟨(hr.filter _).imp_of_mem fun {a b} ha hb hab => near hab ?_, (hr.filter _).imp_of_mem fun {a b} ha hb hab => near hab ?_, fun a ha b hb => ?_⟩
    all_goals
      simp only [List.mem_filter, Bool.and_eq_true, decide_eq_true_eq] at ha hb
      have ka := place_facts hrow hp0 hp1 hq0 hq1 ha.1
      have kb := place_facts hrow hp0 hp1 hq0 hq1 hb.1
    · have := ka.2.1 ha.2.1
      have := kb.2.1 hb.2.1
      exact ⟨fun _ => by omega, fun _ => by omega⟩
    · have := ka.2.2.1 ha.2.2
      have := kb.2.2.1 hb.2.2
      exact ⟨fun _ => by omega, fun _ => by omega⟩
    · have := ka.2.1 ha.2.1
      have := kb.2.2.1 hb.2.2
      refine .inl ?_
      rw [dist_eq xs _ f0 f1, dist_eq xs _ f0 f1]
      have := hAt_hi xs (nOf ns a)
      have := hAt_lo xs (nOf ns b)
      split <;> split <;> omega
end
end Mine
namespace Mine
theorem topOff46 : True := by w_top off; trivial
theorem arc_ok {xs ns : List Int} {fv zv : Int} (hrow : RowOk xs 8 ns) (f0 : 0 ≤ fv) (f1 : fv < 16) (z0 : 1 ≤ zv) (z1 : zv ≤ 15) : ArcOk xs ns (treeOf xs ns) fv zv := by
  intro p q es hp8 hq8 hp0 hp1 hq0 hq1 hperm hord
  have hmem := inside_mem hrow f0 f1 z0 z1 hp8 hq8 hp0 hp1 hq0 hq1
  have hnear := inside_near hrow f0 f1 z0 z1 hp8 hq8 hp0 hp1 hq0 hq1
  have hle : ∀ ab ∈ spOf fv ((fv + zv - 1).fmod 16) p q, ab.1 ≤ ab.2 := by
    intro ab hab
    unfold spOf at hab
    split at hab
    · rw [List.mem_singleton] at hab
      subst hab
      rename_i hc
      show p ≤ q
      rcases Nat.lt_or_ge q p with h | h
      · have hl := hrow.len
        have h1 := hp0 q (by omega) h
        have h2 := hq1 q (by omega) (Nat.le_refl _)
        omega
      · exact h
    · simp only [List.mem_cons, List.not_mem_nil, or_false] at hab
      rcases hab with rfl | rfl
      · exact hp8
      · exact Nat.zero_le _
  generalize spOf fv ((fv + zv - 1).fmod 16) p q = sp at hmem hnear hle ⊢
  have hE : enumT sp (treeOf xs ns) = splitL (fsOf xs ns) 3 (insideOf (rangeKs 0 8) sp) 0 := enum_mk _ sp 3 _ 0
  have hEp : (enumT sp (treeOf xs ns)).Perm (insideOf (rangeKs 0 8) sp) := by rw [hE]; exact split_perm _ _ _ _
  have hEo : (enumT sp (treeOf xs ns)).Pairwise (ordV xs ns (nearer xs ns fv)) := by
    rw [hE]
    exact split_ord hrow.len 3 0 _ (by decide) (fun i hi => ⟨((hmem i).mp hi).1, Nat.zero_le _, by have := vAt_lt xs (nOf ns i); omega⟩) hnear
  have hsz : Sized sp (treeOf xs ns) := sized_mk _ sp 3 _ 0
  have hpart : (treeOf xs ns).part = rangeKs 0 8 := mkTree_part _ _ _ _
  generalize treeOf xs ns = t at hE hEp hEo hsz hpart ⊢
  clear hE
  have hmo : ((enumT sp t).map (nOf ns)).Pairwise (kOrd (kDue xs fv)) := List.pairwise_map.mpr (hEo.imp ord_due)
  have hnd : ((insideOf (rangeKs 0 8) sp).map (nOf ns)).Nodup := List.pairwise_map.mpr (hnear.imp fun {a b} h e => by
    unfold nearer at h
    rw [e] at h
    omega)
  have hnd2 : (dueK xs fv zv).Nodup := (dueK_inc xs fv zv).imp fun {a b} h e => by omega
  have hLp : ((insideOf (rangeKs 0 8) sp).map (nOf ns)).Perm (dueK xs fv zv) := (List.perm_ext_iff_of_nodup hnd hnd2).mpr fun k => by
    unfold dueK
    rw [List.mem_map, List.mem_filter]
    constructor
    · rintro ⟨i, hi, rfl⟩
      obtain ⟨a1, a2⟩ := (hmem i).mp hi
      refine ⟨?_, a2⟩
      obtain ⟨i0, i1⟩ := mem_range8.mp a1
      have hl := hrow.len
      have hm : i.toNat < ns.length := by omega
      have e : nOf ns i = ns[i.toNat] := by simp [nOf, List.getD, hm]
      rw [e]
      exact mem_range8.mpr (hrow.mem _ (List.getElem_mem _))
    · rintro ⟨h1, h2⟩
      obtain ⟨m, hm, e⟩ := List.mem_iff_getElem.mp (row_mem hrow h1)
      have hl := hrow.len
      have en : nOf ns (m : Nat) = k := by simp [nOf, List.getD, hm, e]
      exact ⟨(m : Nat), (hmem _).mpr ⟨mem_range8.mpr ⟨by omega, by omega⟩, by rw [en]; exact h2⟩, en⟩
  have heq : (enumT sp t).map (nOf ns) = es := List.Perm.eq_of_pairwise (fun a b _ _ => kOrd_asymm) hmo hord (((hEp.map _).trans hLp).trans hperm.symm)
  have hlen : (enumT sp t).length = es.length := by rw [← heq, List.length_map]
  refine ⟨hle, by rw [hpart, ← hEp.length_eq, hlen], fun w hw => ?_, ?_⟩
  · obtain ⟨k1, k2⟩ := pick_enum (w := w) hsz (by omega)
    have hw' : w < (enumT sp t).length := by omega
    have e : (enumT sp t).getD w 0 = (enumT sp t)[w] := by simp [List.getD, hw']
    have := mem_range8.mp ((hmem _).mp (hEp.mem_iff.mp (List.getElem_mem hw'))).1
    rw [k2, e]
    exact ⟨k1, this⟩
  · apply List.ext_getElem
    · simp
    · intro w h1 h2
      have hw' : w < (enumT sp t).length := by omega
      obtain ⟨k1, k2⟩ := pick_enum (w := w) hsz hw'
      have e : (enumT sp t).getD w 0 = (enumT sp t)[w] := by simp [List.getD, hw']
      simp only [List.getElem_map, List.getElem_range]
      rw [k2, e]
      subst heq
      rw [List.getElem_map]
      rfl
theorem plain_ok {xs ns : List Int} (hrow : RowOk xs 8 ns) : PlainOk xs ns where
  light := part_light (xs := xs) hrow.len fun i hi => by
    rw [light_at]
    congr 1
    exact (le_at (xs := xs) hrow.len hi (m := 4) (by decide)).symm
  dark := part_light (xs := xs) hrow.len fun i hi => by
    rw [light_at, Bool.not_not]
    exact (le_at (xs := xs) hrow.len hi (m := 4) (by decide)).symm
  good := good_mk _ 3 _ _ ⟨by decide, by decide⟩
  arc := fun fv zv f0 f1 z0 z1 => arc_ok hrow f0 f1 z0 z1
end Mine
set_option maxHeartbeats 8000000 in
theorem PySem.Challenge.cw_pm0032_01_holds : PySem.Challenge.rw_pm0032_01.Holds :=
  Mine.hd (by
  k_go0
  dsimp only
  rename Top _ _ _ _ _ _ => T9
  rename Below _ _ _ _ => K9
  rename Fr _ _ _ _ => F9
  rename News _ _ _ _ => N9
  rename Frag.In _ _ => X9
  rename IntsAre _ _ => I9
  rename Heap.IsList _ _ _ => L9
  have F10 : Fr _ _ _ (Mine.mOf [(Str.ofString "script", _)]) := F9
  refine wpAny_mono (Mine.law_walk ⟨_, _, _, _, _⟩ rfl ?hl ⟨K9, F10, X9, T9, rfl, rfl, rfl, rfl⟩ ?CH ?CH2 N9 ?h7 ?h6 ?h5 ?h4 ?h3 ?h2 ?h1 ?l64 ?l85 L9 I9 ?len ?hd ?hu ?plain ?hq) (fun _ _ h => h) (fun _ _ e => False.elim e)
  case hl => exact ⟨_, _, _, _, _, _, _, _, _, _, _, _, by k_is⟩
  case CH => assumption
  case CH2 => assumption
  case h7 => assumption
  case h6 => assumption
  case h5 => assumption
  case h4 => assumption
  case h3 => assumption
  case h2 => assumption
  case h1 => assumption
  case l64 => rename_i l0; exact l0.1
  case l85 => rename_i l0; exact l0.2
  case len => omega
  case hd => simp only [depth_deeper]; decide
  case hu => simp only [units_deeper]; decide
  case plain => exact fun ns h => Mine.plain_ok h
  case hq =>
    intro h tk m' news ps6 ps F11 N11 m64 m85
    clear F10 F9 N9
    refine ⟨?_, ⟨ps6, (N11 _ m64).1⟩, ⟨ps, (N11 _ m85).1⟩, trivial⟩
    dsimp only
    k_steps)
