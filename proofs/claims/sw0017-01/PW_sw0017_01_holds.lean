import PyProof.Rows.All
import Wide.All
import OpenK.AllK
import Wide.FinOn
import PySem.Challenge.RW_sw0017_01
open PySem PySem.W PyProof.Rows
set_option Elab.async false
namespace Mine
set_option maxRecDepth 100000 in
set_option maxHeartbeats 8000000 in
open_top hd for PySem.Challenge.rw_sw0017_01
theorem walk_off : True := by
  w_top off
  exact trivial
end Mine
namespace Mine
open PySem.Calls
set_option compiler.extract_closed false
set_option linter.all false
section
abbrev Led := List (Addr × Obj)
abbrev Retn := Heap → Addr → (PySem.Str → Option Value) → Led → Shared → (Value → Shared → Prop) → Prop
/-- the contract of a def: `Ret` is what its caller must show of the value that comes back -/
noncomputable def Con (w : World) (mean : ExcName → Option Value) (mg mb : PySem.Str → Option Value) (f : Addr) (dn un₀ : Nat) (news : Led) (vs : List Value) (Ret : Retn) : Prop :=
  ∀ (dp un : Nat) (gd : Option (List Code)) (cn : PySem.Str) (cs : Scope) (a : Addr) (ccd : Value) (cl : List (PySem.Str × Addr)) (outer : List Env) (A₀ : Around) (base h₀ : Heap) (L : Addr) (m : PySem.Str → Option Value) (s : Shared) (Q E : Value → Shared → Prop),
    Below A₀ base outer h₀ → Fr h₀ L s.heap m → (hd.heap_39 w.params).In h₀ → News h₀ L s.heap news →
    Top hd.view_39 (looseW hd.view_39 [PySem.Str.ofString "_twin_re_1", PySem.Str.ofString "_twin_re_2"]) mean mg mb h₀ → cs.kind = .function →
    dp + dn < recursionLimit → un + un₀ < cLine → Ret h₀ L m news s Q →
    wpAny (model PySem.Challenge.rw_sw0017_01.row.prog w) (ktrTop dp un gd cn cs L a ccd cl outer) (call (.ref f) vs) Q E s
theorem Con.use {w : World} {mean : ExcName → Option Value} {mg mb : PySem.Str → Option Value} {f : Addr} {dn un₀ : Nat} {news : Led} {vs : List Value} {Ret : Retn} (C : Con w mean mg mb f dn un₀ news vs Ret)
    {dp un : Nat} {gd : Option (List Code)} {cn : PySem.Str} {cs : Scope} {a : Addr} {ccd : Value} {cl : List (PySem.Str × Addr)} {outer : List Env} {A₀ : Around} {base h₀ : Heap} {L : Addr} {m : PySem.Str → Option Value} {s : Shared} {Q E : Value → Shared → Prop}
    (B : Below A₀ base outer h₀) (F : Fr h₀ L s.heap m) (X : (hd.heap_39 w.params).In h₀) (N : News h₀ L s.heap news)
    (T : Top hd.view_39 (looseW hd.view_39 [PySem.Str.ofString "_twin_re_1", PySem.Str.ofString "_twin_re_2"]) mean mg mb h₀) (hk : cs.kind = .function)
    (hd : dp + dn < recursionLimit) (hu : un + un₀ < cLine) (hr : Ret h₀ L m news s Q) :
    wpAny (model PySem.Challenge.rw_sw0017_01.row.prog w) (ktrTop dp un gd cn cs L a ccd cl outer) (call (.ref f) vs) Q E s :=
  C _ _ _ _ _ _ _ _ _ _ _ _ _ _ _ _ _ B F X N T hk hd hu hr
noncomputable def RetF (φ : Prop) (R : Retn) : Retn := fun h₀ L m news s Q => φ → R h₀ L m news s Q
/-- back comes a value that lies on no heap -/
noncomputable def RetV (R : Tok → Value) : Retn := fun h₀ L m news s Q => ∀ (t : Tok) (h' : Heap) (tk' : Nat), Fr h₀ L h' m → News h₀ L h' news → Q (R t) { s with heap := h', toks := tk' }
/-- back comes a new object -/
noncomputable def RetO (P : Obj → Prop) : Retn := fun h₀ L m news s Q => ∀ (l : Addr) (o : Obj) (h' : Heap) (tk' : Nat), Fr h₀ L h' m → News h₀ L h' ((l, o) :: news) → (∀ p ∈ news, p.1 < l) → P o → Q (.ref l) { s with heap := h', toks := tk' }
theorem hmark : PySem.Challenge.rw_sw0017_01 = PySem.Challenge.rw_sw0017_01 ∧ hd.heap_39 = hd.heap_39 := ⟨rfl, rfl⟩
theorem News.sub {h₀ h : Heap} {L : Addr} {news news' : Led} (N : News h₀ L h news') (hs : ∀ p ∈ news, p ∈ news') : News h₀ L h news := fun p hp => N p (hs p hp)

section
variable {prog : Program} {w : World} {A : Around} {E : Value → Shared → Prop} {s : Shared} {Q : Value → Shared → Prop}
noncomputable def max3 (x y z : UInt64) : UInt64 := if Float64.cmp x y == some .lt then (if Float64.cmp y z == some .lt then z else y) else (if Float64.cmp x z == some .lt then z else x)
noncomputable def min3 (x y z : UInt64) : UInt64 := if Float64.cmp y x == some .lt then (if Float64.cmp z y == some .lt then z else y) else (if Float64.cmp z x == some .lt then z else x)
theorem argBest3 (bt : Nat → Nat → Bool) : argBest bt 2 = bif (bif bt 1 0 then bt 2 1 else bt 2 0) then 2 else bif bt 1 0 then 1 else 0 := by
  show (if bt 2 (if bt 1 0 = true then 1 else 0) = true then 2 else if bt 1 0 = true then 1 else 0) = _
  cases bt 1 0
  · show (if bt 2 0 = true then 2 else 0) = bif bt 2 0 then 2 else 0
    cases bt 2 0 <;> rfl
  · show (if bt 2 1 = true then 2 else 1) = bif bt 2 1 then 2 else 1
    cases bt 2 1 <;> rfl
theorem max_three_tk {x y z : UInt64} {t u v : Tok} {h₀ : Heap} {L : Addr} {m : PySem.Str → Option Value} {news : Led} (hh : A.handled = none) (F : Fr h₀ L s.heap m) (N : News h₀ L s.heap news)
    (h : ∀ h' tk t', (@Eq Nat t' t ∨ @Eq Nat t' u ∨ @Eq Nat t' v) → Fr h₀ L h' m → News h₀ L h' news → Q (.float (max3 x y z) t') { s with heap := h', toks := tk }) :
    wpAny (model prog w) A (call (.builtin "max") [.float x t, .float y u, .float z v]) Q E s := by
  have hT : (s.heap.push { cls := .type "tuple", data := .seq #[.float x t, .float y u, .float z v] }).IsTuple s.heap.objs.size #[.float x t, .float y u, .float z v] := ⟨_, Heap.get?_push_size _ rfl, rfl, 0, rfl⟩
  refine call_max_three (wpAny_pyIter_tuple hT ?_)
  have hsz : (s.heap.push { cls := .type "tuple", data := .seq #[.float x t, .float y u, .float z v] }).objs.size = s.heap.objs.size + 1 := Heap.size_push ..
  refine ⟨_, [_, s.heap.objs.size], [_], _, _, _, _, rfl, Walks.tuple (A := A.in1) hh _ s.heap.objs.size (by rw [hsz]; exact Nat.ne_of_lt (Nat.lt_succ_self _)) #[.float x t, .float y u, .float z v],
    ⟨⟨_, Heap.get?_push_size _ rfl, rfl, rfl⟩, hT.push _⟩, fun c hc => ?_, by simp, Flt.cmpOf_gt #[.float x t, .float y u, .float z v] (by intro v hv; simp at hv; rcases hv with rfl | rfl | rfl <;> exact Flt.NumV.float _ _), fun v' h' tk hP hk => ?_⟩
  · show c < ((s.heap.push _).push _).objs.size
    rw [Heap.size_push, hsz]
    rcases List.mem_cons.mp hc with rfl | hc
    · rw [hsz]; exact Nat.lt_succ_self _
    · rcases List.mem_cons.mp hc with rfl | hc
      · exact Nat.lt_succ_of_lt (Nat.lt_succ_self _)
      · cases hc
  · have hold : ∀ c o, s.heap.get? c = some o → h'.get? c = some o := fun c o e => by
      refine hk c o (fun hm => ?_) (Heap.get?_push_of_some _ (Heap.get?_push_of_some _ e))
      rcases List.mem_cons.mp hm with e1 | hm
      · have := Heap.lt_size e; rw [e1, hsz] at this; exact Nat.lt_irrefl _ (Nat.lt_of_succ_lt this)
      · cases hm
    have hv : ∃ t', v' = .float (max3 x y z) t' ∧ (t' = t ∨ t' = u ∨ t' = v) := by
      rw [show #[Value.float x t, Value.float y u, Value.float z v].size - 1 = 2 from rfl, argBest3] at hP
      have hP2 : #[Value.float x t, .float y u, .float z v][bif (bif (Float64.cmp x y == some Ordering.lt) then (Float64.cmp y z == some Ordering.lt) else (Float64.cmp x z == some Ordering.lt)) then 2 else bif (Float64.cmp x y == some Ordering.lt) then 1 else 0]? = some v' := hP
      unfold max3
      generalize (Float64.cmp x y == some Ordering.lt) = b1 at hP2 ⊢
      generalize (Float64.cmp y z == some Ordering.lt) = b2 at hP2 ⊢
      generalize (Float64.cmp x z == some Ordering.lt) = b3 at hP2 ⊢
      cases b1 <;> cases b2 <;> cases b3 <;> first
        | exact ⟨_, (Option.some.inj hP2).symm, .inl rfl⟩
        | exact ⟨_, (Option.some.inj hP2).symm, .inr (.inl rfl)⟩
        | exact ⟨_, (Option.some.inj hP2).symm, .inr (.inr rfl)⟩
    obtain ⟨t', rfl, ht'⟩ := hv
    exact h h' tk t' ht' (F.grownK hold) (N.grown hold)
theorem max_three_ff {x y z : UInt64} {t u v : Tok} {h₀ : Heap} {L : Addr} {m : PySem.Str → Option Value} {news : Led} (hh : A.handled = none) (F : Fr h₀ L s.heap m) (N : News h₀ L s.heap news)
    (h : ∀ h' tk t', Fr h₀ L h' m → News h₀ L h' news → Q (.float (max3 x y z) t') { s with heap := h', toks := tk }) :
    wpAny (model prog w) A (call (.builtin "max") [.float x t, .float y u, .float z v]) Q E s := max_three_tk hh F N fun h' tk t' _ => h h' tk t'
theorem min_three_tk {x y z : UInt64} {t u v : Tok} {h₀ : Heap} {L : Addr} {m : PySem.Str → Option Value} {news : Led} (hh : A.handled = none) (F : Fr h₀ L s.heap m) (N : News h₀ L s.heap news)
    (h : ∀ h' tk t', (@Eq Nat t' t ∨ @Eq Nat t' u ∨ @Eq Nat t' v) → Fr h₀ L h' m → News h₀ L h' news → Q (.float (min3 x y z) t') { s with heap := h', toks := tk }) :
    wpAny (model prog w) A (call (.builtin "min") [.float x t, .float y u, .float z v]) Q E s := by
  have hT : (s.heap.push { cls := .type "tuple", data := .seq #[.float x t, .float y u, .float z v] }).IsTuple s.heap.objs.size #[.float x t, .float y u, .float z v] := ⟨_, Heap.get?_push_size _ rfl, rfl, 0, rfl⟩
  refine call_min_three (wpAny_pyIter_tuple hT ?_)
  have hsz : (s.heap.push { cls := .type "tuple", data := .seq #[.float x t, .float y u, .float z v] }).objs.size = s.heap.objs.size + 1 := Heap.size_push ..
  refine ⟨_, [_, s.heap.objs.size], [_], _, _, _, _, rfl, Walks.tuple (A := A.in1) hh _ s.heap.objs.size (by rw [hsz]; exact Nat.ne_of_lt (Nat.lt_succ_self _)) #[.float x t, .float y u, .float z v],
    ⟨⟨_, Heap.get?_push_size _ rfl, rfl, rfl⟩, hT.push _⟩, fun c hc => ?_, by simp, Flt.cmpOf_lt #[.float x t, .float y u, .float z v] (by intro v hv; simp at hv; rcases hv with rfl | rfl | rfl <;> exact Flt.NumV.float _ _), fun v' h' tk hP hk => ?_⟩
  · show c < ((s.heap.push _).push _).objs.size
    rw [Heap.size_push, hsz]
    rcases List.mem_cons.mp hc with rfl | hc
    · rw [hsz]; exact Nat.lt_succ_self _
    · rcases List.mem_cons.mp hc with rfl | hc
      · exact Nat.lt_succ_of_lt (Nat.lt_succ_self _)
      · cases hc
  · have hold : ∀ c o, s.heap.get? c = some o → h'.get? c = some o := fun c o e => by
      refine hk c o (fun hm => ?_) (Heap.get?_push_of_some _ (Heap.get?_push_of_some _ e))
      rcases List.mem_cons.mp hm with e1 | hm
      · have := Heap.lt_size e; rw [e1, hsz] at this; exact Nat.lt_irrefl _ (Nat.lt_of_succ_lt this)
      · cases hm
    have hv : ∃ t', v' = .float (min3 x y z) t' ∧ (t' = t ∨ t' = u ∨ t' = v) := by
      rw [show #[Value.float x t, Value.float y u, Value.float z v].size - 1 = 2 from rfl, argBest3] at hP
      have hP2 : #[Value.float x t, .float y u, .float z v][bif (bif (Float64.cmp y x == some Ordering.lt) then (Float64.cmp z y == some Ordering.lt) else (Float64.cmp z x == some Ordering.lt)) then 2 else bif (Float64.cmp y x == some Ordering.lt) then 1 else 0]? = some v' := hP
      unfold min3
      generalize (Float64.cmp y x == some Ordering.lt) = b1 at hP2 ⊢
      generalize (Float64.cmp z y == some Ordering.lt) = b2 at hP2 ⊢
      generalize (Float64.cmp z x == some Ordering.lt) = b3 at hP2 ⊢
      cases b1 <;> cases b2 <;> cases b3 <;> first
        | exact ⟨_, (Option.some.inj hP2).symm, .inl rfl⟩
        | exact ⟨_, (Option.some.inj hP2).symm, .inr (.inl rfl)⟩
        | exact ⟨_, (Option.some.inj hP2).symm, .inr (.inr rfl)⟩
    obtain ⟨t', rfl, ht'⟩ := hv
    exact h h' tk t' ht' (F.grownK hold) (N.grown hold)
theorem min_three_ff {x y z : UInt64} {t u v : Tok} {h₀ : Heap} {L : Addr} {m : PySem.Str → Option Value} {news : Led} (hh : A.handled = none) (F : Fr h₀ L s.heap m) (N : News h₀ L s.heap news)
    (h : ∀ h' tk t', Fr h₀ L h' m → News h₀ L h' news → Q (.float (min3 x y z) t') { s with heap := h', toks := tk }) :
    wpAny (model prog w) A (call (.builtin "min") [.float x t, .float y u, .float z v]) Q E s := min_three_tk hh F N fun h' tk t' _ => h h' tk t'
end
theorem rmA {a n lim j k : Nat} (h : a + n < lim) (q : j + k ≤ n) : a + j + k < lim := by omega
theorem nn1 (n : Nat) : n ≠ n + 1 := by omega
theorem nn2 (n : Nat) : n ≠ n + 1 + 1 := by omega
theorem nn3 (n : Nat) : n ≠ n + 1 + 1 + 1 := by omega
theorem nn4 (n : Nat) : n ≠ n + 1 + 1 + 1 + 1 := by omega
end
section
set_option maxRecDepth 100000
section
variable {prog : Program} {w : World} {A A₀ : Around} {s : Shared} {K : Frag} {L : Addr} {h₀ base : Heap} {m mg mb : PySem.Str → Option Value} {p : Program} {loose : List PySem.Str} {mean : ExcName → Option Value}
/-- a def is entered; all that its caller has is ground to it -/
theorem enter0 {env : Env} {outer : List Env} {R : Result → Shared → Prop} {name qual : PySem.Str} {params : Arguments} {body : List Stmt} {scope : Scope} {dV kV doc pm cdv ct oc : Value} {an od : Option Addr} {osl : Array (Option Value)} {f : Addr} {args : Args} {binds : List (PySem.Str × Value)}
    (B : Below A₀ base outer h₀) (F : Fr h₀ L s.heap m) (X₀ : K.In h₀) (T : Top p loose mean mg mb h₀) (hA : A.frames = some (env :: outer)) (hf : env.frame = some L) (hke : env.scope.kind = .function)
    (ho : K.lookup f = some ⟨oc, od, .func (fnOf name qual params body scope dV kV doc pm an cdv ct), osl⟩) (hcd : codeIn K cdv qual = true) (hroom : A.depth < recursionLimit)
    (hbind : BindsTo s (fnOf name qual params body scope dV kV doc pm an cdv ct) args binds) (hloc : ∀ y ∈ binds, scope.names.lookup y.1 = some .local)
    (h : ∀ g L' h₁, g = s.heap → Fr h₀ L g m → Fr g L' h₁ (fun y => binds.reverse.lookup y) → News g L' h₁ [] → Below A base (env :: outer) g → K.In g → Top p loose mean mg mb g →
      wpAny (model prog w) (A.deeper (envOf qual scope L' f cdv)) (execs body (envOf qual scope L' f cdv))
        (fun fl s' => LeaveK h₀ L m g R (match fl with | .ret v => v | _ => .none) s')
        (fun e s' => wpAny (model prog w) (A.deeper (envOf qual scope L' f cdv)) (leaving (envOf qual scope L' f cdv) e) (fun _ s'' => R (.error e) s'') (fun e' s'' => R (.error e') s'') s')
        { s with heap := h₁, toks := s.toks + binds.length })
    (hco : scope.isCoroutine = false) (hgen : scope.isGenerator = false) (hk : scope.kind = .function)
    (hcell : ∀ x ∈ scope.names, x.2 ≠ .cell) : codeAny (model prog w) A (.call (.ref f) args) R s := by
  obtain ⟨FG, BG, st, lv⟩ := groundX (news := []) (R := R) B F News.nil hA hf hke
  have hf1 : s.heap.get? f = _ := (X₀.keeps F.keep) _ _ ho
  refine codeAny_call_def (fd := fnOf name qual params body scope dV kV doc pm an cdv ct) (body := body) (binds := binds) hroom hf1 rfl (T.nolimit.keeps F.keep) (codeRec_of (X₀.keeps F.keep) hcd) rfl hbind hcell hloc (fun h₁ hns hk₁ => ?_) hco hgen hk
  exact wpAny_mono (h s.heap s.heap.objs.size h₁ rfl FG ⟨hns, hk₁, Nat.le_refl _⟩ News.nil BG (X₀.keeps st) (T.keeps st)) (fun fl s' hl => lv _ _ hl) fun _ _ y => y
end
/-- the contract of a def that changes nothing of its caller's: P is asked of the heap at the call -/
noncomputable def ConB (w : World) (mean : ExcName → Option Value) (mg mb : PySem.Str → Option Value) (f : Addr) (dn un₀ : Nat) (vs : List Value) (P : Heap → Prop) (Ret : Retn) : Prop :=
  ∀ (news : Led) (dp un : Nat) (gd : Option (List Code)) (cn : PySem.Str) (cs : Scope) (a : Addr) (ccd : Value) (cl : List (PySem.Str × Addr)) (outer : List Env) (A₀ : Around) (base h₀ : Heap) (L : Addr) (m : PySem.Str → Option Value) (s : Shared) (Q E : Value → Shared → Prop),
    Below A₀ base outer h₀ → Fr h₀ L s.heap m → (hd.heap_39 w.params).In h₀ → News h₀ L s.heap news →
    Top hd.view_39 (looseW hd.view_39 [PySem.Str.ofString "_twin_re_1", PySem.Str.ofString "_twin_re_2"]) mean mg mb h₀ → cs.kind = .function →
    dp + dn < recursionLimit → un + un₀ < cLine → P s.heap → Ret h₀ L m news s Q →
    wpAny (model PySem.Challenge.rw_sw0017_01.row.prog w) (ktrTop dp un gd cn cs L a ccd cl outer) (call (.ref f) vs) Q E s
theorem ConB.use {w : World} {mean : ExcName → Option Value} {mg mb : PySem.Str → Option Value} {f : Addr} {dn un₀ : Nat} {vs : List Value} {P : Heap → Prop} {Ret : Retn} (C : ConB w mean mg mb f dn un₀ vs P Ret)
    {news : Led} {dp un : Nat} {gd : Option (List Code)} {cn : PySem.Str} {cs : Scope} {a : Addr} {ccd : Value} {cl : List (PySem.Str × Addr)} {outer : List Env} {A₀ : Around} {base h₀ : Heap} {L : Addr} {m : PySem.Str → Option Value} {s : Shared} {Q E : Value → Shared → Prop}
    (B : Below A₀ base outer h₀) (F : Fr h₀ L s.heap m) (X : (hd.heap_39 w.params).In h₀) (N : News h₀ L s.heap news)
    (T : Top hd.view_39 (looseW hd.view_39 [PySem.Str.ofString "_twin_re_1", PySem.Str.ofString "_twin_re_2"]) mean mg mb h₀) (hk : cs.kind = .function)
    (hd : dp + dn < recursionLimit) (hu : un + un₀ < cLine) (hp : P s.heap) (hr : Ret h₀ L m news s Q) :
    wpAny (model PySem.Challenge.rw_sw0017_01.row.prog w) (ktrTop dp un gd cn cs L a ccd cl outer) (call (.ref f) vs) Q E s :=
  C _ _ _ _ _ _ _ _ _ _ _ _ _ _ _ _ _ _ B F X N T hk hd hu hp hr
/-- back comes a new object, apart from all that the caller had -/
noncomputable def RetB (P : Obj → Prop) : Retn := fun h₀ L m news s Q => ∀ (l : Addr) (o : Obj) (h' : Heap) (tk' : Nat), Fr h₀ L h' m → News h₀ L h' ((l, o) :: news) → (∀ p ∈ news, p.1 ≠ l) → P o → Q (.ref l) { s with heap := h', toks := tk' }
section
variable {h₀ g h' : Heap} {L L' : Addr} {m m' : PySem.Str → Option Value} {news led : Led} {s : Shared} {Q : Value → Shared → Prop}
theorem news_back (N : News h₀ L s.heap news) (hg : g = s.heap) (F' : Fr g L' h' m') : News h₀ L h' news := fun p hp => ⟨F'.keep _ _ (by rw [hg]; exact (N p hp).1), (N p hp).2⟩
theorem RetV.back {R : Tok → Value} {t : Tok} {tk' : Nat} (hr : RetV R h₀ L m news s Q) (N : News h₀ L s.heap news) (hg : g = s.heap) (F' : Fr g L' h' m') (kF : Fr h₀ L h' m) : Q (R t) { s with heap := h', toks := tk' } :=
  hr t h' tk' kF (news_back N hg F')
theorem RetB.back {P : Obj → Prop} {l : Addr} {o : Obj} {tk' : Nat} (hr : RetB P h₀ L m news s Q) (N : News h₀ L s.heap news) (hg : g = s.heap) (F' : Fr g L' h' m') (N' : News g L' h' led) (kF : Fr h₀ L h' m) (kN : News h₀ L h' led)
    (hm : (l, o) ∈ led) (hP : P o) : Q (.ref l) { s with heap := h', toks := tk' } := by
  refine hr l o h' tk' kF (fun p hp => ?_) (fun p hp e => ?_) hP
  · rcases List.mem_cons.mp hp with rfl | hp
    · exact kN _ hm
    · exact news_back N hg F' p hp
  · have h1 := (N' _ hm).2.2
    have h2 := (N p hp).1
    rw [hg] at h1
    simp only at h1
    rw [← e, h2] at h1
    cases h1
end
section
variable {prog : Program} {w : World} {A : Around} {E : Value → Shared → Prop} {s : Shared} {env : Env} {h₀ : Heap} {x : PySem.Str} {body : List Stmt} {Q : Flow → Shared → Prop}
theorem fr_map {g h : Heap} {L : Addr} {m : PySem.Str → Option Value} (F : Fr g L h m) : ∃ m0, m0 = m ∧ Fr g L h m0 := ⟨m, rfl, F⟩
/-- a loop over a range, by what holds of its frame and of what is made -/
theorem range_loop {r : Addr} {a₀ b₀ : Int} {t₀ u₀ v₀ : Tok} {n : Nat} {m₀ : PySem.Str → Option Value} {news : Led} (J : Nat → (PySem.Str → Option Value) → Led → Prop)
    (hh : A.handled = none) (hr : IsRange s.heap r a₀ b₀ 1 t₀ u₀ v₀) (hsmall : Builtin.Range.small a₀ b₀ 1 = true) (hn : Builtin.Range.rangeSize a₀ b₀ 1 = (n : Int)) (F : Fr h₀ env.locals s.heap m₀) (N : News h₀ env.locals s.heap news)
    (h0 : J 0 m₀ news)
    (turn : ∀ i m₁ nx I it t h tk, i < n → (∀ p ∈ nx, p.1 ≠ I) → J i m₁ nx → it.cls = .type "range_iterator" → Fr h₀ env.locals h (fun y => if y = x then some (.int (a₀ + (i : Int)) t) else m₁ y) → News h₀ env.locals h ((I, it) :: nx) →
      wpAny (model prog w) A (execs body env) (UnrPost h₀ env.locals { s with heap := h, toks := tk } I it (J (i + 1)) Q) E { s with heap := h, toks := tk })
    (done : ∀ m₁ nx h tk, J n m₁ nx → Fr h₀ env.locals h m₁ → News h₀ env.locals h nx → Q .next { s with heap := h, toks := tk }) :
    wpAny (model prog w) A (pyIter (.ref r)) (fun it s₂ => LoopAtV prog w A h₀ env x body Q E it s₂) E s := by
  refine iter_rangeUnr hh hr hsmall hn F N fun I hI => ?_
  suffices H : ∀ k i m₁ nx, i + k = n → (∀ p ∈ nx, p.1 ≠ I) → J i m₁ nx → RangeRest prog w A E h₀ env x body Q s I a₀ n k i m₁ nx from H n 0 m₀ news (Nat.zero_add n) (fun p hp => Nat.ne_of_lt (hI p hp)) h0
  intro k
  induction k with
  | zero =>
    intro i m₁ nx e _ hJ h tk F₁ N₁
    have : i = n := e
    subst this
    exact done m₁ nx h tk hJ F₁ N₁
  | succ k ih =>
    intro i m₁ nx e hoff hJ t h tk F₁ N₁
    refine wpAny_mono (turn i m₁ nx I _ t h tk (by omega) hoff hJ rfl F₁ N₁) (fun f s₂ p => ?_) fun _ _ e => e
    have go : UnrEnd h₀ env.locals { s with heap := h, toks := tk } I (itR (a₀ + ((i + 1 : Nat) : Int)) ((n : Int) - ((i + 1 : Nat) : Int))) (J (i + 1)) s₂ → UnrEnd h₀ env.locals { s with heap := h, toks := tk } I (itR (a₀ + ((i + 1 : Nat) : Int)) ((n : Int) - ((i + 1 : Nat) : Int))) (RangeRest prog w A E h₀ env x body Q s I a₀ n k (i + 1)) s₂ := by
      rintro ⟨h', tk', m', news', e', F', N', off, hJ'⟩
      exact ⟨h', tk', m', news', e', F', N', off, ih (i + 1) m' news' (by omega) off hJ'⟩
    cases f with
    | ret v => exact p
    | brk => exact p
    | next => exact go p
    | cont => exact go p
/-- a loop over a list that the call has made -/
theorem list_loop {ax : Addr} {lo : Obj} {vs : List Value} {n : Nat} {m₀ : PySem.Str → Option Value} {news : Led} (J : Nat → (PySem.Str → Option Value) → Led → Prop)
    (hh : A.handled = none) (F : Fr h₀ env.locals s.heap m₀) (N : News h₀ env.locals s.heap news) (hm : (ax, lo) ∈ news) (hc : lo.cls = .type "list") (hd : lo.data = .seq vs.toArray n)
    (h0 : J 0 m₀ news)
    (turn : ∀ i v m₁ nx I it h tk, vs[i]? = some v → (∀ p ∈ nx, p.1 ≠ I) → (ax, lo) ∈ nx → J i m₁ nx → it.cls = .type "list_iterator" → Fr h₀ env.locals h (fun y => if y = x then some v else m₁ y) → News h₀ env.locals h ((I, it) :: nx) →
      wpAny (model prog w) A (execs body env) (UnrPost h₀ env.locals { s with heap := h, toks := tk } I it (fun m' n' => (ax, lo) ∈ n' ∧ J (i + 1) m' n') Q) E { s with heap := h, toks := tk })
    (done : ∀ m₁ nx h tk, J vs.length m₁ nx → Fr h₀ env.locals h m₁ → News h₀ env.locals h nx → Q .next { s with heap := h, toks := tk }) :
    wpAny (model prog w) A (pyIter (.ref ax)) (fun it s₂ => LoopAtV prog w A h₀ env x body Q E it s₂) E s := by
  refine iter_listUnr hh F N hm hc hd fun I hI => ?_
  suffices H : ∀ (rs : List Value) i m₁ nx, vs.drop i = rs → i + rs.length = vs.length → (∀ p ∈ nx, p.1 ≠ I) → (ax, lo) ∈ nx → J i m₁ nx → ListRest prog w A E h₀ env x body Q s I (ax, lo) rs m₁ nx from H vs 0 m₀ news rfl (Nat.zero_add _) (fun p hp => Nat.ne_of_lt (hI p hp)) hm h0
  intro rs
  induction rs with
  | nil =>
    intro i m₁ nx e el _ _ hJ h tk F₁ N₁
    have : i = vs.length := el
    subst this
    exact done m₁ nx h tk hJ F₁ N₁
  | cons v rs ih =>
    intro i m₁ nx e el hoff hmx hJ it h tk hit F₁ N₁
    have hv : vs[i]? = some v := by
      have := congrArg (fun l => l[0]?) e
      simpa using this
    have hd' : vs.drop (i + 1) = rs := by
      have := congrArg List.tail e
      simpa using this
    have el' : i + 1 + rs.length = vs.length := by rw [List.length_cons] at el; omega
    refine wpAny_mono (turn i v m₁ nx I it h tk hv hoff hmx hJ hit F₁ N₁) (fun f s₂ p => ?_) fun _ _ e => e
    have go : UnrEnd h₀ env.locals { s with heap := h, toks := tk } I it (fun m' n' => (ax, lo) ∈ n' ∧ J (i + 1) m' n') s₂ → UnrEnd h₀ env.locals { s with heap := h, toks := tk } I it (fun m' n' => (ax, lo) ∈ n' ∧ ListRest prog w A E h₀ env x body Q s I (ax, lo) rs m' n') s₂ := by
      rintro ⟨h', tk', m', news', e', F', N', off, hm', hJ'⟩
      exact ⟨h', tk', m', news', e', F', N', off, hm', ih (i + 1) m' news' hd' el' off hm' hJ'⟩
    cases f with
    | ret v => exact p
    | brk => exact p
    | next => exact go p
    | cont => exact go p
end
theorem led1 {h₀ h : Heap} {L l : Addr} {o : Obj} {r : Led} (N : News h₀ L h ((l, o) :: r)) : ∃ l', l' = l ∧ News h₀ L h ((l', o) :: r) := ⟨l, rfl, N⟩
theorem unr_end {h₀ : Heap} {L I : Addr} {it : Obj} {rest : (PySem.Str → Option Value) → Led → Prop} {s₁ : Shared} {h' : Heap} {tk : Nat} {m' : PySem.Str → Option Value} {all : Led} {c : String} (F : Fr h₀ L h' m') (N : News h₀ L h' all) (hit : it.cls = .type c) (news' : Led)
    (hI : (I, it) ∈ all) (sub : ∀ p ∈ news', p ∈ all) (off : ∀ p ∈ news', p.2.cls ≠ .type c) (r : rest m' news') : UnrEnd h₀ L s₁ I it rest { s₁ with heap := h', toks := tk } :=
  UnrEnd.intro F N news' (fun p hp => by
    rcases List.mem_cons.mp hp with rfl | hp
    · exact hI
    · exact sub p hp) (fun p hp e => by
    have h1 := (N _ (sub p hp)).1
    have h2 := (N _ hI).1
    rw [e] at h1
    have h3 : p.2 = it := Option.some.inj (h1.symm.trans h2)
    exact off p hp (h3 ▸ hit)) r
theorem map_same (x : PySem.Str) (m : PySem.Str → Option Value) : m = fun z => if z = x then m z else m z := by funext z; simp
theorem map_same2 (x y : PySem.Str) (m : PySem.Str → Option Value) : m = fun z => if z = x then m z else if z = y then m z else m z := by funext z; simp
theorem small_fits {n : Nat} (h : n ≤ 4000) : n ≤ PySem.sizeLine := Nat.le_trans h (by decide)
theorem push_list (vs : List Value) (v : Value) : vs.toArray.push v = (vs ++ [v]).toArray := by simp
theorem ints_snoc {vs : List Value} {ns : List Int} (h : IntsAre vs ns) (k : Int) (t : Tok) : IntsAre (vs ++ [.int k t]) (ns ++ [k]) := by
  induction h with
  | nil => exact .cons _ _ .nil
  | cons a b _ ih => exact .cons _ _ ih
theorem map_of {x : PySem.Str} {m' M : PySem.Str → Option Value} (h : ∀ z, z ≠ x → m' z = M z) : m' = fun z => if z = x then m' z else M z := by
  funext z
  by_cases e : z = x
  · simp [e]
  · simp [e, h z e]
theorem map_of2 {x y : PySem.Str} {m' M : PySem.Str → Option Value} (h : ∀ z, z ≠ x → z ≠ y → m' z = M z) : m' = fun z => if z = x then m' z else if z = y then m' z else M z := by
  funext z
  by_cases e : z = x
  · simp [e]
  · by_cases e2 : z = y
    · simp [e2]
    · simp [e, e2, h z e e2]
/-- a list of ints -/
noncomputable def IsIL (ns : List Int) (o : Obj) : Prop := ∃ vs n, o = W.listOf vs.toArray n ∧ IntsAre vs ns
noncomputable def OffC (c : String) : Led → Prop
  | [] => True
  | p :: r => p.2.cls ≠ .type c ∧ OffC c r
theorem OffC.all {c : String} : ∀ {l : Led}, OffC c l → ∀ p ∈ l, p.2.cls ≠ .type c
  | [], _, _, h => nomatch h
  | _ :: _, x, p, h => by
    rcases List.mem_cons.mp h with rfl | h
    · exact x.1
    · exact OffC.all x.2 p h
theorem unr_end' {h₀ : Heap} {L I : Addr} {it : Obj} {rest : (PySem.Str → Option Value) → Led → Prop} {s₁ : Shared} {h' : Heap} {tk : Nat} {m' : PySem.Str → Option Value} {all : Led} {c : String} (F : Fr h₀ L h' m') (N : News h₀ L h' all) (hit : it.cls = .type c) (news' : Led)
    (hI : (I, it) ∈ all) (sub : SubL news' all) (off : OffC c news') (r : rest m' news') : UnrEnd h₀ L s₁ I it rest { s₁ with heap := h', toks := tk } :=
  unr_end F N hit news' hI sub.mem off.all r
section
open LCg LCt
variable {prog : Program} {w : World} {A : Around} {s : Shared} {h₀ : Heap} {L : Addr} {m : PySem.Str → Option Value} {env : Env}
/-- a comprehension, by what holds of what it has made so far; the ledger stays -/
theorem comp_loop {elt : Expr} {x : PySem.Str} {scope : Scope} {cl : List (PySem.Str × Addr)} {S : Led → Prop} {P : Nat → Value → Prop} {Fin : List Value → Led → Prop} {n : Nat} {news : Led} (R : Nat → List Value → Prop) (h0 : R 0 [])
    (turn : ∀ i v ys I oI C oC D m₂ h tk (E' : Value → Shared → Prop), i < n → R i ys → P i v → NsObj oC m₂ → m₂ x = some v → Fr h₀ L h m → News h₀ L h ((I, oI) :: (C, oC) :: (D, lst ys) :: news) → Off3 I C D news → ((@Ne Nat I C) ∧ (@Ne Nat I D) ∧ (@Ne Nat C D)) →
      wpAny (model prog w) A (eval elt (compEnvC scope cl C env)) (CompEnd h₀ L m { s with heap := h, toks := tk } I oI C oC D (lst ys) S (fun y news' => news' = news ∧ R (i + 1) (ys ++ [y]))) E' { s with heap := h, toks := tk })
    (fin : ∀ ys, R n ys → Fin ys news) : CompRest prog w A h₀ L m env elt x scope cl s S P Fin n 0 [] news := by
  suffices H : ∀ k i ys, i + k = n → R i ys → CompRest prog w A h₀ L m env elt x scope cl s S P Fin k i ys news from H n 0 [] (Nat.zero_add n) h0
  intro k
  induction k with
  | zero =>
    intro i ys e hR
    have : i = n := e
    subst this
    exact fin ys hR
  | succ k ih =>
    intro i ys e hR
    refine CompRest.succ ?_
    intro v I oI C oC D m₂ h tk E' hP hC hx F N off ne
    refine wpAny_mono (turn i v ys I oI C oC D m₂ h tk E' (by omega) hR hP hC hx F N off ne) (fun y s₂ p => ?_) fun _ _ e => e
    obtain ⟨h', tk', news', e', F', N', off', hS, rfl, hR'⟩ := p
    exact ⟨h', tk', _, e', F', N', off', hS, ih (i + 1) _ (by omega) hR'⟩
theorem comp_loopT {ct elt : Expr} {x : PySem.Str} {scope : Scope} {cl : List (PySem.Str × Addr)} {S : Led → Prop} {P : Nat → Value → Prop} {Fin : List Value → Led → Prop} {n : Nat} {news : Led} (R : Nat → List Value → Prop) (h0 : R 0 [])
    (turn : ∀ i v ys I oI C oC D m₂ h tk (E' : Value → Shared → Prop), i < n → R i ys → P i v → NsObj oC m₂ → m₂ x = some v → Fr h₀ L h m → News h₀ L h ((I, oI) :: (C, oC) :: (D, lst ys) :: news) → Off3 I C D news → ((@Ne Nat I C) ∧ (@Ne Nat I D) ∧ (@Ne Nat C D)) →
      wpAny (model prog w) A (isTrue ct (compEnvC scope cl C env) (eval ct (compEnvC scope cl C env))) (fun ok s' => if ok = true then
        wpAny (model prog w) A (eval elt (compEnvC scope cl C env)) (CompEnd h₀ L m { s with heap := h, toks := tk } I oI C oC D (lst ys) S (fun y news' => news' = news ∧ R (i + 1) (ys ++ [y]))) E' s'
        else CompEnd h₀ L m { s with heap := h, toks := tk } I oI C oC D (lst ys) S (fun _ news' => news' = news ∧ R (i + 1) ys) Value.none s') E' { s with heap := h, toks := tk })
    (fin : ∀ ys, R n ys → Fin ys news) : CompRestT prog w A h₀ L m env ct elt x scope cl s S P Fin n 0 [] news := by
  suffices H : ∀ k i ys, i + k = n → R i ys → CompRestT prog w A h₀ L m env ct elt x scope cl s S P Fin k i ys news from H n 0 [] (Nat.zero_add n) h0
  intro k
  induction k with
  | zero =>
    intro i ys e hR
    have : i = n := e
    subst this
    exact fin ys hR
  | succ k ih =>
    intro i ys e hR
    refine CompRestT.succ ?_
    intro v I oI C oC D m₂ h tk E' hP hC hx F N off ne
    have conv : ∀ {y : Value} {s₂ : Shared} {zs : List Value}, CompEnd h₀ L m { s with heap := h, toks := tk } I oI C oC D (lst ys) S (fun _ news' => news' = news ∧ R (i + 1) zs) y s₂ →
        CompEnd h₀ L m { s with heap := h, toks := tk } I oI C oC D (lst ys) S (fun _ news' => CompRestT prog w A h₀ L m env ct elt x scope cl s S P Fin k (i + 1) zs news') y s₂ := by
      rintro y s₂ zs ⟨h', tk', news', e', F', N', off', hS, rfl, hR'⟩
      exact ⟨h', tk', _, e', F', N', off', hS, ih (i + 1) _ (by omega) hR'⟩
    refine wpAny_mono (turn i v ys I oI C oC D m₂ h tk E' (by omega) hR hP hC hx F N off ne) (fun ok s₂ p => ?_) fun _ _ e => e
    cases ok with
    | true => 
      simp only [if_true] at p ⊢
      refine wpAny_mono p (fun y s₃ p => ?_) fun _ _ e => e
      obtain ⟨h', tk', news', e', F', N', off', hS, rfl, hR'⟩ := p
      exact ⟨h', tk', _, e', F', N', off', hS, ih (i + 1) _ (by omega) hR'⟩
    | false =>
      simp only [Bool.false_eq_true, if_false] at p ⊢
      exact conv p
end
theorem map_ofV {x y : PySem.Str} {v : Value} {m' M : PySem.Str → Option Value} (h1 : m' y = some v) (h : ∀ z, z ≠ x → z ≠ y → m' z = M z) : m' = fun z => if z = y then some v else if z = x then m' z else M z := by
  funext z
  by_cases e2 : z = y
  · simp [e2, h1]
  · by_cases e : z = x
    · subst e; simp [e2]
    · simp [e, e2, h z e e2]
/-- a list of texts -/
noncomputable def IsSL (ss : List PySem.Str) (o : Obj) : Prop := ∃ vs n, o = W.listOf vs.toArray n ∧ StrsAre vs ss
theorem led_all {h₀ h : Heap} {L : Addr} {news : Led} (N : News h₀ L h news) : ∃ nw, nw = news ∧ News h₀ L h nw := ⟨news, rfl, N⟩
theorem map_ofVV {x y₁ y₂ : PySem.Str} {v₁ v₂ : Value} {m' M : PySem.Str → Option Value} (h1 : m' y₁ = some v₁) (h2 : m' y₂ = some v₂) (h : ∀ z, z ≠ x → z ≠ y₁ → z ≠ y₂ → m' z = M z) :
    m' = fun z => if z = y₁ then some v₁ else if z = y₂ then some v₂ else if z = x then m' z else M z := by
  funext z
  by_cases e1 : z = y₁
  · simp [e1, h1]
  · by_cases e2 : z = y₂
    · subst e2; simp [e1, h2]
    · by_cases e : z = x
      · subst e; simp [e1, e2]
      · simp [e, e1, e2, h z e e1 e2]
theorem strs_drop {vs : List Value} {ss : List PySem.Str} (h : StrsAre vs ss) (n : Nat) : StrsAre (vs.drop n) (ss.drop n) := by
  induction h generalizing n with
  | nil => simp; exact .nil
  | cons y t _ ih =>
    cases n with
    | zero => exact .cons _ _ (ih 0)
    | succ n => exact ih n
end
section
set_option maxRecDepth 100000
theorem runs_toks {M : Model} {Γ : Ctx} {p : Pos} {t : Sem Fin} {fs : List Frame} {s s' : Shared} {e : End} (h : Runs M Γ p t fs s e s') : s.toks ≤ s'.toks := by
  induction h with
  | fresh _ ih => exact Nat.le_trans (Nat.le_succ _) ih
  | call _ _ ih1 ih2 => exact Nat.le_trans ih1 ih2
  | _ => first | exact Nat.le_refl _ | assumption | (rename_i ih1 ih2; exact Nat.le_trans ih1 ih2) | skip
theorem wakes_toks {M : Model} {Γ : Ctx} {p : Pos} {g : Nat} {r : Resume} {s s' : Shared} {res : GenResult} (h : Wakes M Γ p g r s res s') : s.toks ≤ s'.toks := by
  unfold Wakes at h
  cases hg : s.gens[g]? with
  | none => rw [hg] at h; exact h.elim
  | some st =>
    rw [hg] at h
    cases st with
    | fresh c =>
      cases r with
      | throw x => obtain ⟨_, rfl⟩ := h; exact Nat.le_refl _
      | send v =>
        cases v with
        | none => obtain ⟨e₁, s₁, hr, _, _, rfl⟩ := h; exact (runs_toks hr :)
        | _ => obtain ⟨_, rfl⟩ := h; exact Nat.le_refl _
    | suspended k₀ l₀ c₀ p₀ fs cl => obtain ⟨e₁, s₁, hr, _, _, rfl⟩ := h; exact (runs_toks hr :)
    | running => obtain ⟨_, rfl⟩ := h; exact Nat.le_refl _
    | finished => obtain ⟨_, rfl⟩ := h; exact Nat.le_refl _
theorem wp_toks {M : Model} {α : Type} {T0 : Nat} (t : Sem α) : ∀ {Γ : Ctx} {Q : α → Pos → Shared → Prop} {E : Value → Pos → Shared → Prop} (p : Pos) (s : Shared), T0 ≤ s.toks →
    Sem.wp M Γ t (fun a p' s' => T0 ≤ s'.toks → Q a p' s') (fun e p' s' => T0 ≤ s'.toks → E e p' s') p s → Sem.wp M Γ t Q E p s := by
  induction t with
  | pure a => intro Γ Q E p s h0 h; exact h h0
  | raise e => intro Γ Q E p s h0 h; exact h h0
  | unsupported | finish | yield | fork | await | register => intro Γ Q E p s h0 h; exact h.elim
  | load a part k ih => intro Γ Q E p s h0 h; obtain ⟨o, ho, h⟩ := h; exact ⟨o, ho, ih _ _ _ h0 h⟩
  | update a part f k ih => intro Γ Q E p s h0 h; exact ⟨h.1, ih _ _ _ h0 h.2⟩
  | choose src n k ih => intro Γ Q E p s h0 h; exact ⟨h.1, ih _ _ _ h0 h.2⟩
  | fresh k ih => intro Γ Q E p s h0 h; exact ih _ _ _ (Nat.le_trans h0 (Nat.le_succ _)) h
  | call c hh g l k ih => intro Γ Q E p s h0 h; obtain ⟨r, s', hr, h⟩ := h; exact ⟨r, s', hr, ih _ _ _ (Nat.le_trans h0 (runs_toks hr)) h⟩
  | genState g k ih => intro Γ Q E p s h0 h; obtain ⟨st, hg, h⟩ := h; exact ⟨st, hg, ih _ _ _ h0 h⟩
  | resume g r l k ih => intro Γ Q E p s h0 h; obtain ⟨res, s', hw, h⟩ := h; exact ⟨res, s', hw, ih _ _ _ (Nat.le_trans h0 (wakes_toks hw)) h⟩
  | rule _ k ih | «at» _ k ih | alloc _ k ih | loadIfAlive _ k ih | point _ k ih | ask k ih | os _ _ k ih | handled _ k ih | newGen _ k ih | stack k ih | thread k ih => intro Γ Q E p s h0 h; exact ih _ _ _ h0 h
theorem wpAny_toks {M : Model} {A : Around} {α : Type} {t : Sem α} {Q : α → Shared → Prop} {E : Value → Shared → Prop} {s : Shared} (h : wpAny M A t (fun a s' => s.toks ≤ s'.toks → Q a s') (fun e s' => s.toks ≤ s'.toks → E e s') s) : wpAny M A t Q E s :=
  fun Γ p hΓ => wp_toks t p s (Nat.le_refl _) (h Γ p hΓ)
theorem wpAny_toks' {M : Model} {A : Around} {α : Type} {t : Sem α} {Q : α → Shared → Prop} {E : Value → Shared → Prop} {s : Shared}
    (h : ∀ (Q' : α → Shared → Prop) (E' : Value → Shared → Prop), (∀ a s', (s.toks ≤ s'.toks → Q a s') → Q' a s') → (∀ e s', (s.toks ≤ s'.toks → E e s') → E' e s') → wpAny M A t Q' E' s) : wpAny M A t Q E s :=
  wpAny_toks (h _ _ (fun _ _ h => h) (fun _ _ h => h))
theorem wpAny_toksQ {M : Model} {A : Around} {α : Type} {t : Sem α} {Q : α → Shared → Prop} {E : Value → Shared → Prop} {s : Shared}
    (h : ∀ (Q' : α → Shared → Prop), (∀ a s', (s.toks ≤ s'.toks → Q a s') → Q' a s') → wpAny M A t Q' E s) : wpAny M A t Q E s :=
  wpAny_toks (wpAny_mono (h _ (fun _ _ h => h)) (fun _ _ h => h) fun _ _ h _ => h)
theorem is_ints {M : Model} {A : Around} {E : Value → Shared → Prop} {s : Shared} {n : Int} {tn t : Tok} {Q : Value → Shared → Prop} (h1 : tn ≠ 0) (h2 : t ≠ 0) (h3 : tn ≠ t) (h : Q (.bool (n == 0)) s) : wpAny M A (compareOp .Is (.int n tn) (.int 0 t)) Q E s := by
  have z : ¬ ((tn == 0 || t == 0) = true) := by simp [h1, h2]
  have z3 : ¬ ((tn == t) = true) := by simp [h3]
  show wpAny M A (isSame (.int n tn) (.int 0 t) >>= _) Q E s
  refine wpAny_bind ?_
  unfold isSame
  by_cases e : n = 0
  · subst e
    show wpAny M A (isSame.cachedInt tn t) _ E s
    unfold isSame.cachedInt
    refine wpAny_ite ?_
    rw [if_neg z]
    exact wpAny_bind (wpAny_rule (wpAny_pure (wpAny_pure h)))
  · have e' : (n == 0) = false := by simpa using e
    show wpAny M A (if (n == 0 && smallInt n) = true then _ else isSame.created (n == 0) tn t) _ E s
    rw [e'] at h ⊢
    simp only [Bool.false_and, Bool.false_eq_true, if_false]
    unfold isSame.created
    dsimp only
    refine wpAny_ite ?_
    rw [if_neg z]
    refine wpAny_ite ?_
    rw [if_neg z3]
    refine wpAny_ite ?_
    rw [if_pos (show (!false) = true from rfl)]
    exact wpAny_pure (wpAny_pure h)
end
section
set_option maxRecDepth 100000
open Sem (wp)
open PySem.Builtin PySem.Builtin.Re
noncomputable def driveN : Nat → Sre.M → Option Sre.M
  | 0, _ => none
  | n + 1, m => let m := m.runFor 4; if m.outcome.isSome then some m else driveN n m
noncomputable def nextM (code text : Array Nat) (start : Nat) (must : Bool) : Option (Option Sre.M) :=
  match driveN 4000 (Sre.forSearch code text 0 start text.size must) with
  | some m => match m.outcome with
    | some .matched => some (some m)
    | some .failed => some none
    | _ => none
  | none => none
noncomputable def subL (code text : Array Nat) (repl : PySem.Str) : Nat → Nat → Nat → Bool → List PySem.Str → Option (List PySem.Str)
  | 0, _, _, _, _ => none
  | n + 1, done, start, must, ps => match nextM code text start must with
    | none => none
    | some (some m) => subL code text repl n m.handed m.handed (m.handed == m.start) ((if done < m.start then ps ++ [⟨text.extract done m.start⟩] else ps) ++ [repl])
    | some none => some (if done < text.size then ps ++ [⟨text.extract done text.size⟩] else ps)
noncomputable def code1 : Array Nat := #[14, 4, 0, 1, 1, 6, 1, 16, 46, 1]
noncomputable def code2 : Array Nat := #[14, 9, 4, 1, 2, 16, 10, 16, 13, 0, 7, 7, 16, 13, 16, 10, 15, 18, 5, 16, 10, 15, 13, 11, 16, 13, 5, 5, 0, 16, 10, 1, 15, 2, 0, 1]
noncomputable def subT (code : Array Nat) (repl text : PySem.Str) : Option PySem.Str := (subL code text.cps repl 200 0 0 false []).bind fun l => if JoinOk ⟨#[]⟩ l = true then some (Txt.join ⟨#[]⟩ l) else none
noncomputable def crlfT : PySem.Str := ⟨#[13, 10]⟩
noncomputable def dots2 : PySem.Str := ⟨#[46, 46]⟩
noncomputable def quoteF (t : PySem.Str) : Option PySem.Str := (subT code2 crlfT t).bind (subT code1 dots2)

section
variable {M : Model} {A : Around} {E : Value → Shared → Prop} {s : Shared}
theorem wp_drive {m' : Sre.M} {Q : Sre.M → Shared → Prop} (h : Q m' s) : ∀ (k turns : Nat) (m : Sre.M), driveN k m = some m' → k ≤ turns → wpAny M A (reDrive turns m) Q E s := by
  intro k
  induction k with
  | zero => intro turns m e; cases e
  | succ k ih =>
    intro turns m e hle
    cases turns with
    | zero => omega
    | succ turns =>
      unfold reDrive
      unfold driveN at e
      simp only at e
      show wpAny M A (if (m.runFor 4).outcome.isSome = true then pure (m.runFor 4) else do rule "sre.turn"; reDrive turns (m.runFor 4)) Q E s
      by_cases hc : (m.runFor 4).outcome.isSome = true
      · rw [if_pos hc] at e ⊢
        cases e
        exact wpAny_pure h
      · rw [if_neg hc] at e ⊢
        exact wpAny_bind (wpAny_rule (ih turns _ e (by omega)))
theorem wp_rules {b : Nat → Bool} {t : Nat → String} {Q : PUnit → Shared → Prop} (h : Q ⟨⟩ s) : ∀ (l : List Nat), wpAny M A (forIn l PUnit.unit fun i _ => do
    if b i = true then rule (t i)
    pure (ForInStep.yield PUnit.unit)) Q E s := by
  intro l
  induction l with
  | nil => exact wpAny_pure h
  | cons a l ih =>
    rw [List.forIn_cons]
    refine wpAny_bind ?_
    dsimp only
    by_cases hc : b a = true
    · rw [if_pos hc]
      refine wpAny_bind (wpAny_rule ?_)
      refine wpAny_pure ?_
      exact ih
    · rw [if_neg hc]
      refine wpAny_pure ?_
      exact ih
theorem wp_next {code text : Array Nat} {start : Nat} {must : Bool} {r : Option Sre.M} {t : ReTarget} {Q : Option Sre.M → Shared → Prop} (hn : nextM code text start must = some r)
    (e1 : t.code = code) (e2 : t.text = text) (e3 : t.groups = 0) (e4 : t.lim = text.size) (h : Q r s) : wpAny M A (reNextFound t start must) Q E s := by
  unfold reNextFound reRunToEnd
  rw [e1, e2, e3, e4]
  unfold nextM at hn
  cases hd : driveN 4000 (Sre.forSearch code text 0 start text.size must) with
  | none => rw [hd] at hn; cases hn
  | some m =>
    rw [hd] at hn
    simp only at hn
    refine wpAny_bind (wp_drive ?_ 4000 (2 ^ 64) _ hd (by decide))
    refine wpAny_bind (wp_rules ?_ _)
    cases ho : m.outcome with
    | none => rw [ho] at hn; cases hn
    | some o =>
      rw [ho] at hn
      cases o with
      | matched => cases hn; exact wpAny_pure h
      | failed => cases hn; exact wpAny_pure h
      | stuck why => cases hn
end
theorem slot_resub : Slot "re.Pattern" "sub" "re.Pattern.sub" :=
  .of (owner := "re.Pattern") (n := "sub") (by rw [typeLookup_type, builtinLookup_eq_fast]; kernel_rfl) (by decide +kernel) (by decide +kernel) (by decide +kernel)
    (by first | exact .inl (by decide +kernel) | exact .inr (by decide +kernel)) (by rw [isSubtype_type]; kernel_rfl)
theorem type_resub : typeOf (.builtin "re.Pattern.sub") = pure (.type "method_descriptor") := by show builtinType _ = _; rw [builtinType_eq_fast]; kernel_rfl
theorem entry_resub : entryFor table "re.Pattern.sub" = some Builtin.«re.Pattern.sub» := entryFor_of_tree (by kernel_rfl)
theorem entry_resubl : entryFor table "re.Pattern.sub.loop" = some Builtin.«re.Pattern.sub.loop» := entryFor_of_tree (by kernel_rfl)
theorem plain_resubl : plainId "re.Pattern.sub.loop" = true := by decide +kernel
theorem owner_resub : Manifest.owners.lookup (String.ofList ['n', 'r', 'e', 't', 't', 'a', 'P', '.', 'e', 'r'].reverse) = some Manifest.sig_re_Pattern := by kernel_rfl
theorem pa_re : PlainAttrs "re.Pattern" := ⟨⟨"object.__getattribute__", by rw [typeLookup_type, builtinLookup_eq_fast]; kernel_rfl, by decide +kernel⟩, by rw [typeLookup_type, builtinLookup_eq_fast]; kernel_rfl⟩
theorem args_resub (a b c : Value) : argsOk "re.Pattern.sub" ⟨[a, b, c], []⟩ := by
  unfold argsOk; rw [signature?_of (id := "re.Pattern.sub") (n := ['b', 'u', 's']) (o := ['n', 'r', 'e', 't', 't', 'a', 'P', '.', 'e', 'r']) (by kernel_rfl) owner_resub]; kernel_rfl
section
variable {prog : Program} {w : World} {A : Around} {E : Value → Shared → Prop} {R : Result → Shared → Prop} {s : Shared} {P T : Addr} {vp vf : Value} {cv : Array Value} {code : Array Nat} {text repl : PySem.Str} {tt tr : Tok} {cn : Nat}
noncomputable def reObj (vp vf : Value) (T : Addr) : Obj := { cls := .type "re.Pattern", data := .fields #[vp, vf, .int 0 0, .none, .none, .ref T, .int 0 0] }
theorem wp_whole {M : Model} {Q : ReTarget → Shared → Prop} (hP : s.heap.get? P = some (reObj vp vf T)) (hT : s.heap.get? T = some { cls := .type "tuple", data := .seq cv cn }) (hc : (cv.map reRawOf).map (·.toNat) = code)
    (h : Q { pattern := .ref P, string := .str text tt, code, text := text.cps, kind := 0, groups := 0, pos := 0, lim := text.cps.size } s) : wpAny M A (reWholeTarget (.ref P) (.str text tt)) Q E s := by
  unfold reWholeTarget
  refine wpAny_bind (wpAny_fieldsOf hP rfl ?_)
  refine wpAny_bind ?_
  unfold reTextOf
  refine wpAny_bind (wpAny_pure ?_)
  refine wpAny_pure ?_
  dsimp only
  show wpAny M A (reNoCollectionInside _ 0 >>= _) _ _ _
  refine wpAny_bind ?_
  unfold reNoCollectionInside
  refine wpAny_pure ?_
  unfold reRawItems
  refine wpAny_bind (wpAny_bind (wpAny_seqItems hT rfl ?_))
  refine wpAny_pure ?_
  refine wpAny_pure ?_
  subst hc
  exact h
noncomputable def subEnd (l : List PySem.Str) : Option PySem.Str := if JoinOk ⟨#[]⟩ l = true then some (Txt.join ⟨#[]⟩ l) else none
theorem reSlice_str {M : Model} {t : Array Nat} {b e : Nat} {Q : Value → Shared → Prop} (hb : t.size ≤ 4000) (h : Q (.str ⟨t.extract b e⟩ s.toks) { s with toks := s.toks + 1 }) : wpAny M A (reSlice t 0 b e) Q E s := by
  show wpAny M A (mkStr ⟨t.extract b e⟩) Q E s
  refine wpAny_mkStr h ?_
  refine small_fits ?_
  show (t.extract b e).size ≤ 4000
  rw [Array.size_extract]
  omega
theorem push_at {M : Model} {D : Addr} {ps : List (PySem.Str × Tok)} {n : Nat} {x : PySem.Str} {t : Tok} {Q : PUnit → Shared → Prop} (hD : s.heap.get? D = some (W.listOf (strValues ps).toArray n)) (hl : ps.length ≤ 4000)
    (h : ∀ h', Heap.SameBut D s.heap h' → h'.get? D = some (W.listOf (strValues (ps ++ [(x, t)])).toArray (n + 1)) → Q ⟨⟩ { s with heap := h' }) : wpAny M A (updateSeq D (·.push (.str x t))) Q E s := by
  have hs : (strValues ps).toArray.size ≤ 4000 := by simp [strValues]; exact hl
  refine wpAny_updateSeq hD rfl (h _ (Heap.SameBut.update ..) ?_) (small_fits hs) (by rw [Array.size_push]; exact Nat.succ_le_succ (small_fits hs))
  have e : (strValues (ps ++ [(x, t)])).toArray = (strValues ps).toArray.push (.str x t) := by simp [strValues]
  have e2 : Obj.mapSeq (·.push (.str x t)) (W.listOf (strValues ps).toArray n) = W.listOf (strValues (ps ++ [(x, t)])).toArray (n + 1) := by rw [e]; exact mapSeq_push _ _ _ _ _
  rw [Heap.get?_update_self _ hD (by rw [e2]; rfl), e2]
theorem sub_loop {D : Addr} {out : PySem.Str} (hsm : text.cps.size ≤ 4000) (hPT : P ≠ D ∧ T ≠ D)
    (hP : s.heap.get? P = some (reObj vp vf T)) (hT : s.heap.get? T = some { cls := .type "tuple", data := .seq cv cn }) (hc : (cv.map reRawOf).map (·.toNat) = code)
    (hR : ∀ h' tk t', (∀ b o, b ≠ D → s.heap.get? b = some o → h'.get? b = some o) → R (.ok (.ret (.str out t'))) { s with heap := h', toks := tk }) :
    ∀ (n done start : Nat) (must : Bool) (ps : List (PySem.Str × Tok)) (k : Int) (h : Heap) (tk z : Nat), (subL code text.cps repl n done start must (ps.map (·.1))).bind subEnd = some out → ps.length + 2 * n ≤ 4000 → h.get? D = some (W.listOf (strValues ps).toArray z) →
      (∀ b o, b ≠ D → s.heap.get? b = some o → h.get? b = some o) →
      codeAny (model prog w) A (.builtin "re.Pattern.sub.loop" ⟨[.ref P, .str text tt, .str repl tr, .int 0 0, .int 0 0, .int k 0, .int (done : Int) 0, .int (start : Int) 0, .bool must, .ref D, .bool false], []⟩) R { s with heap := h, toks := tk } := by
  intro n
  induction n with
  | zero => intro done start must ps k h tk z e; cases e
  | succ n ih =>
    intro done start must ps k h tk z e hlen hD hk
    refine codeAny_builtin entry_resubl ?_
    rw [Around.under_plainId plain_resubl _]
    unfold «re.Pattern.sub.loop»
    try dsimp only
    refine wpAny_bind (wp_whole (s := { s with heap := h, toks := tk }) (hk _ _ hPT.1 hP) (hk _ _ hPT.2 hT) hc ?_)
    try dsimp only
    show wpAny _ _ (reLiteralCannotBeTurned (.str repl tr) >>= _) _ _ _
    refine wpAny_bind ?_
    unfold reLiteralCannotBeTurned
    refine wpAny_bind (wpAny_pure ?_)
    refine wpAny_pure ?_
    try dsimp only
    unfold subL at e
    cases hn : nextM code text.cps start must with
    | none => rw [hn] at e; cases e
    | some r =>
      rw [hn] at e
      try dsimp only at e
      refine wpAny_bind (wp_next (r := r) (by rw [Int.toNat_natCast]; exact hn) rfl rfl rfl rfl ?_)
      cases r with
      | none =>
        try dsimp only at e ⊢
        rw [Int.toNat_natCast]
        have fin : ∀ (qs : List (PySem.Str × Tok)) (h₁ : Heap) (tk₁ z₁ : Nat), subEnd (qs.map (·.1)) = some out → h₁.get? D = some (W.listOf (strValues qs).toArray z₁) → (∀ b o, b ≠ D → s.heap.get? b = some o → h₁.get? b = some o) →
            wpAny (model prog w) A.in1 (do
              let joiner ← reSlice text.cps 0 0 0
              let __do_lift ← seqItems? (.ref D)
              let text ← if (__do_lift.getD #[]).isEmpty = true then pure joiner else call (.builtin (if ((0 : Nat) == 0) = true then "str.join" else "bytes.join")) [joiner, .ref D]
              if (false : Bool) = true then do
                let __do_lift ← holding [text] do
                  let __do_lift ← mkInt k
                  newTuple [text, __do_lift]
                ret __do_lift
              else ret text) (fun fin s' => match fin with
      | Fin.done f => R (Except.ok f) s'
      | Fin.again c' => c'.quiet = true ∧ codeAny (model prog w) A c' R s') (fun e s' => R (Except.error e) s') { s with heap := h₁, toks := tk₁ } := by
          intro qs h₁ tk₁ z₁ eq hD₁ hk₁
          refine wpAny_bind (reSlice_str hsm ?_)
          refine wpAny_bind (wpAny_seqItems (s := { s with heap := h₁, toks := tk₁ + 1 }) hD₁ rfl ?_)
          unfold subEnd at eq
          by_cases hj : JoinOk ⟨#[]⟩ (qs.map (·.1)) = true
          · rw [if_pos hj] at eq
            injection eq with eq
            cases qs with
            | nil =>
              refine wpAny_bind (wpAny_pure ?_)
              refine wpAny_pure ?_
              have e0 : (⟨text.cps.extract 0 0⟩ : PySem.Str) = out := by rw [← eq]; simp; rfl
              rw [e0]
              exact hR _ _ _ hk₁
            | cons q qs =>
              refine wpAny_bind ?_
              refine SC.join (s := { s with heap := h₁, toks := tk₁ + 1 }) (x := ⟨text.cps.extract 0 0⟩) (l := q :: qs) ⟨_, hD₁, rfl, _, rfl⟩ rfl ?_ ?_
              · rw [show (⟨text.cps.extract 0 0⟩ : PySem.Str) = ⟨#[]⟩ by simp]; exact hj
              · intro t' k'
                refine wpAny_pure ?_
                rw [show (⟨text.cps.extract 0 0⟩ : PySem.Str) = ⟨#[]⟩ by simp, eq]
                exact hR _ _ _ hk₁
          · rw [if_neg hj] at eq; cases eq
        refine wpAny_ite ?_
        by_cases hlt : done < text.cps.size
        · rw [if_pos hlt] at e ⊢
          refine wpAny_bind (reSlice_str hsm ?_)
          refine wpAny_bind (push_at (s := { s with heap := h, toks := tk + 1 }) hD (by omega) ?_)
          intro h1 sb hD1
          refine fin (ps ++ [(_, _)]) h1 (tk + 1) _ ?_ hD1 (fun b o hb e => (sb.2 b hb).trans (hk b o hb e))
          rw [List.map_append]
          exact e
        · rw [if_neg hlt] at e ⊢
          exact fin ps h tk _ e hD hk
      | some m =>
        try dsimp only at e ⊢
        rw [Int.toNat_natCast]
        refine wpAny_ite ?_
        by_cases hlt : done < m.start
        · rw [if_pos hlt] at e ⊢
          refine wpAny_bind (reSlice_str hsm ?_)
          refine wpAny_bind (push_at (s := { s with heap := h, toks := tk + 1 }) hD (by omega) ?_)
          intro h1 sb hD1
          refine wpAny_ite ?_
          rw [if_pos (show ((0 : Int) == 0) = true from rfl)]
          refine wpAny_bind (wpAny_pure ?_)
          refine wpAny_ite ?_
          rw [if_pos (show (Value.str repl tr != Value.none) = true from rfl)]
          refine wpAny_bind (push_at (s := { s with heap := h1, toks := tk + 1 }) hD1 (by simp; omega) ?_)
          intro h2 sb2 hD2
          refine wpAny_pure ⟨plainId_quiet plain_resubl _, ih _ _ _ _ _ _ _ _ ?_ ?_ hD2 (fun b o hb e => (sb2.2 b hb).trans ((sb.2 b hb).trans (hk b o hb e)))⟩
          · rw [List.map_append, List.map_append]; exact e
          · simp; omega
        · rw [if_neg hlt] at e ⊢
          refine wpAny_ite ?_
          rw [if_pos (show ((0 : Int) == 0) = true from rfl)]
          refine wpAny_bind (wpAny_pure ?_)
          refine wpAny_ite ?_
          rw [if_pos (show (Value.str repl tr != Value.none) = true from rfl)]
          refine wpAny_bind (push_at (s := { s with heap := h, toks := tk }) hD (by omega) ?_)
          intro h2 sb2 hD2
          refine wpAny_pure ⟨plainId_quiet plain_resubl _, ih _ _ _ _ _ _ _ _ ?_ ?_ hD2 (fun b o hb e => (sb2.2 b hb).trans (hk b o hb e))⟩
          · rw [List.map_append]; exact e
          · simp; omega
theorem str_nocall : typeLookup (.type "str") (PySem.Str.ofString "__call__") = pure none := by rw [typeLookup_type, builtinLookup_eq_fast]; kernel_rfl
theorem re_named (a b : Value) : reNamed "re.Pattern.sub" "sub" ["repl", "string", "count"] 2 [a, b] [] = pure [some a, some b, none] := by rfl
noncomputable def subT' (code : Array Nat) (repl text : PySem.Str) : Option PySem.Str := (subL code text.cps repl 200 0 0 false []).bind subEnd
theorem sub_call {out : PySem.Str} {Q : Value → Shared → Prop} (hsm : text.cps.size ≤ 4000) (hrp : repl.cps.contains 92 = false)
    (hP : s.heap.get? P = some (reObj vp vf T)) (hT : s.heap.get? T = some { cls := .type "tuple", data := .seq cv cn }) (hc : (cv.map reRawOf).map (·.toNat) = code)
    (he : subT' code repl text = some out)
    (hQ : ∀ h' tk t', (∀ b o, s.heap.get? b = some o → h'.get? b = some o) → Q (.str out t') { s with heap := h', toks := tk }) :
    wpAny (model prog w) A (call (.builtin "re.Pattern.sub") [.ref P, .str repl tr, .str text tt]) Q E s := by
  refine wpAny_call (codeAny_call_builtin slot_resub.plain entry_resub (slot_resub.check _ _ _ _ _ _ _ _ ⟨_, hP, rfl⟩ (args_resub _ _ _) ?_))
  unfold «re.Pattern.sub» reSubstitute
  try dsimp only
  rw [re_named]
  refine wpAny_bind (wpAny_pure ?_)
  try dsimp only
  refine wpAny_bind (wpAny_pure ?_)
  refine wpAny_bind (wpAny_specialOf_val (T := "str") rfl str_nocall ?_)
  try dsimp only
  refine wpAny_bind ?_
  refine wpAny_pure ?_
  try dsimp only
  refine wpAny_bind (wpAny_pure ?_)
  rw [hrp]
  refine wpAny_bind (wpAny_pure ?_)
  try dsimp only
  refine wpAny_bind (wpAny_holding (wp_whole hP hT hc ?_))
  refine wpAny_bind (wpAny_newList ?_)
  refine wpAny_pure ⟨plainId_quiet plain_resubl _, ?_⟩
  have hD : (s.heap.push (W.listOf (strValues []).toArray 0)).get? s.heap.objs.size = some (W.listOf (strValues []).toArray 0) := Heap.get?_push_size _ rfl
  exact sub_loop (s := s) (D := s.heap.objs.size) (tr := tr) (tt := tt) hsm ⟨Nat.ne_of_lt (Heap.lt_size hP), Nat.ne_of_lt (Heap.lt_size hT)⟩ hP hT hc (fun h' tk t' hk => hQ h' tk t' fun b o e => hk b o (Nat.ne_of_lt (Heap.lt_size e)) e)
    200 0 0 false [] 0 (s.heap.push (W.listOf (strValues []).toArray 0)) s.toks 0 he (by decide) hD (fun b o _ e => Heap.get?_push_of_some _ e)
end
end
section
open PySem.Sre
noncomputable def SRuns (n : Nat) (m : M) (P : M → Prop) : Prop := ∃ k, k ≤ n ∧ P (M.runFor k m)
theorem SRuns.done {n : Nat} {m : M} {P : M → Prop} (h : P m) : SRuns n m P := ⟨0, Nat.zero_le _, h⟩
theorem SRuns.step {n : Nat} {m m' : M} {P : M → Prop} (e : m.step = m') (h : SRuns n m' P) (ho : m.outcome = none := by rfl) : SRuns (n + 1) m P := by
  obtain ⟨k, hk, hP⟩ := h
  refine ⟨k + 1, Nat.succ_le_succ hk, ?_⟩
  show P (if m.outcome.isSome then m else M.runFor k m.step)
  rw [ho, e]
  exact hP
theorem SRuns.mono {n n' : Nat} {m : M} {P : M → Prop} (h : SRuns n m P) (hn : n ≤ n') : SRuns n' m P := by
  obtain ⟨k, hk, hP⟩ := h
  exact ⟨k, Nat.le_trans hk hn, hP⟩
theorem runFor_some {m : M} (h : m.outcome.isSome = true) : ∀ k, M.runFor k m = m
  | 0 => rfl
  | k + 1 => by show (if m.outcome.isSome then m else _) = m; rw [if_pos h]
theorem runFor_add (m : M) (a b : Nat) : M.runFor (a + b) m = M.runFor b (M.runFor a m) := by
  induction a generalizing m with
  | zero => rw [Nat.zero_add]; rfl
  | succ a ih =>
    by_cases h : m.outcome.isSome = true
    · rw [runFor_some h, runFor_some h, runFor_some h]
    · rw [Nat.succ_add]
      show (if m.outcome.isSome then m else M.runFor (a + b) m.step) = M.runFor b (if m.outcome.isSome then m else M.runFor a m.step)
      rw [if_neg h, if_neg h, ih]
theorem drive_of {m' : M} (ho : m'.outcome.isSome = true) : ∀ (n : Nat) (m : M) (k : Nat), M.runFor k m = m' → k ≤ 4 * n → n ≠ 0 → driveN n m = some m' := by
  intro n
  induction n with
  | zero => intro m k e hk h0; exact absurd rfl h0
  | succ n ih =>
    intro m k e hk _
    unfold driveN
    by_cases h4 : k ≤ 4
    · have e4 : M.runFor 4 m = m' := by
        rw [show 4 = k + (4 - k) by omega, runFor_add, e, runFor_some ho]
      simp only [e4, ho, if_true]
    · by_cases hs : (M.runFor 4 m).outcome.isSome = true
      · have : M.runFor 4 m = m' := by
          rw [show k = 4 + (k - 4) by omega, runFor_add, runFor_some hs] at e; exact e
        simp only [this, ho, if_true]
      · simp only [hs]
        rw [if_neg (by simp)]
        refine ih _ (k - 4) ?_ (by omega) (by omega)
        rw [show k = 4 + (k - 4) by omega, runFor_add] at e; exact e


theorem lit_hit {m : M} (h1 : m.pos < m.lim) (h2 : m.text.getD m.pos 0 = m.code.getD (m.pc + 1) 0) (ho : m.outcome = none) (ha : m.answer = none) (hpc : m.pc < m.code.size) (hw : m.code.getD m.pc 0 = 16) :
    m.step = { m with seen := m.seen.add 16, pc := m.pc + 2, pos := m.pos + 1 } := by
  unfold M.step
  rw [ho, ha]
  show (if m.pc < m.code.size then m.exec else _) = _
  rw [if_pos hpc]
  unfold M.exec
  rw [show m.word 0 = 16 from hw]
  show (if m.pos ≥ m.lim then _ else _) = _
  rw [if_neg (Nat.not_le.mpr h1)]
  have e : accepts m.code m.pc (m.text.getD m.pos 0) (m.seen.add 16) = .ok (true, m.seen.add 16) := by
    unfold accepts; rw [hw, h2]
    exact congrArg (fun b => Except.ok (b, m.seen.add 16)) (beq_self_eq_true _)
  have e2 : itemWidth m.code m.pc = 2 := by unfold itemWidth; rw [hw]; rfl
  rw [e]
  show ({ m with seen := m.seen.add 16, pc := m.pc + itemWidth m.code m.pc, pos := m.pos + 1 } : M) = _
  rw [e2, ho, ha]
theorem lit_miss {m : M} (h : m.pos < m.lim → m.text.getD m.pos 0 ≠ m.code.getD (m.pc + 1) 0) (ho : m.outcome = none) (ha : m.answer = none) (hpc : m.pc < m.code.size) (hw : m.code.getD m.pc 0 = 16) :
    m.step = { m with seen := m.seen.add 16, answer := some false } := by
  unfold M.step
  rw [ho, ha]
  show (if m.pc < m.code.size then m.exec else _) = _
  rw [if_pos hpc]
  unfold M.exec
  rw [show m.word 0 = 16 from hw]
  show (if m.pos ≥ m.lim then _ else _) = _
  by_cases h1 : m.pos ≥ m.lim
  · rw [if_pos h1]
    show ({ m with seen := m.seen.add 16, answer := some false } : M) = _
    rw [ho]
  · rw [if_neg h1]
    have e : accepts m.code m.pc (m.text.getD m.pos 0) (m.seen.add 16) = .ok (false, m.seen.add 16) := by
      unfold accepts; rw [hw]
      exact congrArg (fun b => Except.ok (b, m.seen.add 16)) (beq_false_of_ne (h (Nat.not_le.mp h1)))
    rw [e]
    show ({ m with seen := m.seen.add 16, answer := some false } : M) = _
    rw [ho]
theorem SRuns.hit {n : Nat} {m : M} {P : M → Prop} (h1 : m.pos < m.lim) (h2 : m.text.getD m.pos 0 = m.code.getD (m.pc + 1) 0) (h : SRuns n { m with seen := m.seen.add 16, pc := m.pc + 2, pos := m.pos + 1 } P)
    (ho : m.outcome = none := by rfl) (ha : m.answer = none := by rfl) (hpc : decide (m.pc < m.code.size) = true := by rfl) (hw : m.code.getD m.pc 0 = 16 := by rfl) : SRuns (n + 1) m P := .step (lit_hit h1 h2 ho ha (of_decide_eq_true hpc) hw) h ho
theorem SRuns.miss {n : Nat} {m : M} {P : M → Prop} (h1 : m.pos < m.lim → m.text.getD m.pos 0 ≠ m.code.getD (m.pc + 1) 0) (h : SRuns n { m with seen := m.seen.add 16, answer := some false } P)
    (ho : m.outcome = none := by rfl) (ha : m.answer = none := by rfl) (hpc : decide (m.pc < m.code.size) = true := by rfl) (hw : m.code.getD m.pc 0 = 16 := by rfl) : SRuns (n + 1) m P := .step (lit_miss h1 ho ha (of_decide_eq_true hpc) hw) h ho
noncomputable def st2 (text : Array Nat) (p l : Nat) (om : Bool) (mk : Array (Option Nat)) (fr : List Sre.Frame) (w pc pos h : Nat) (o : Bool) (a : Option Bool) (seen : Sre.Seen) : M :=
  { code := code2, text := text, lim := text.size, start := p, lastStart := l, mustAdvance := false, pc := pc, pos := pos, handed := h, outermost := o, marks := mk, frames := fr, weight := w, answer := a, seen := seen }
theorem two_crlf {text : Array Nat} {p l : Nat} {om : Bool} {mk : Array (Option Nat)} {seen : Sre.Seen} (_hp : p < text.size) (hp1 : p + 1 < text.size) (h0 : text.getD p 0 = 13) (h1 : text.getD (p + 1) 0 = 10) :
    SRuns 40 { code := code2, text := text, lim := text.size, start := p, lastStart := l, mustAdvance := false, pc := 10, pos := p, handed := p, outermost := om, marks := mk, frames := [{ wait := .nextStart, pc := 10, pos := p, outermost := om }], weight := 1, seen := seen }
      fun m => m.outcome = some .matched ∧ m.start = p ∧ m.handed = p + 2 := by
  refine SRuns.step (m' := st2 text p l om mk [{ wait := .nextBranch, pc := 11, pos := p, outermost := om }, { wait := .nextStart, pc := 10, pos := p, outermost := om }] 2 12 (p) (p) om (none) (seen.add 7)) rfl ?_
  refine SRuns.hit _hp h0 ?_
  show SRuns _ (st2 text p l om mk [{ wait := .nextBranch, pc := 11, pos := p, outermost := om }, { wait := .nextStart, pc := 10, pos := p, outermost := om }] 2 14 (p + 1) (p) om (none) (_)) _
  refine SRuns.hit hp1 h1 ?_
  show SRuns _ (st2 text p l om mk [{ wait := .nextBranch, pc := 11, pos := p, outermost := om }, { wait := .nextStart, pc := 10, pos := p, outermost := om }] 2 16 (p + 1 + 1) (p) om (none) (_)) _
  refine SRuns.step (m' := st2 text p l om mk [{ wait := .nextBranch, pc := 11, pos := p, outermost := om }, { wait := .nextStart, pc := 10, pos := p, outermost := om }] 2 35 (p + 1 + 1) (p) om (none) (_)) rfl ?_
  refine SRuns.step (m' := st2 text p l om mk [{ wait := .nextBranch, pc := 11, pos := p, outermost := om }, { wait := .nextStart, pc := 10, pos := p, outermost := om }] 2 35 (p + 1 + 1) (p + 1 + 1) om (some true) (Seen.add _ 1)) (by cases om <;> rfl) ?_
  refine SRuns.step (m' := st2 text p l om mk [{ wait := .nextStart, pc := 10, pos := p, outermost := om }] 1 11 (p) (p + 1 + 1) om (some true) (_)) rfl ?_
  refine SRuns.step (m' := st2 text p l om mk [] 0 10 (p) (p + 1 + 1) om (some true) (_)) rfl ?_
  exact .step rfl (.done ⟨rfl, rfl, rfl⟩)
theorem two_lf {text : Array Nat} {p l : Nat} {om : Bool} {mk : Array (Option Nat)} {seen : Sre.Seen} (hp : p < text.size) (h0 : text.getD p 0 = 10) :
    SRuns 40 { code := code2, text := text, lim := text.size, start := p, lastStart := l, mustAdvance := false, pc := 10, pos := p, handed := p, outermost := om, marks := mk, frames := [{ wait := .nextStart, pc := 10, pos := p, outermost := om }], weight := 1, seen := seen }
      fun m => m.outcome = some .matched ∧ m.start = p ∧ m.handed = p + 1 := by
  refine SRuns.step (m' := st2 text p l om mk [{ wait := .nextBranch, pc := 11, pos := p, outermost := om }, { wait := .nextStart, pc := 10, pos := p, outermost := om }] 2 12 (p) (p) om (none) (seen.add 7)) rfl ?_
  refine SRuns.miss (fun _ e => absurd (h0.symm.trans e) (show ¬ 10 = 13 by decide)) ?_
  show SRuns _ (st2 text p l om mk [{ wait := .nextBranch, pc := 11, pos := p, outermost := om }, { wait := .nextStart, pc := 10, pos := p, outermost := om }] 2 12 (p) (p) om (some false) (_)) _
  refine SRuns.step (m' := st2 text p l om mk [{ wait := .nextBranch, pc := 18, pos := p, outermost := om }, { wait := .nextStart, pc := 10, pos := p, outermost := om }] 2 19 (p) (p) om (none) (_)) rfl ?_
  refine SRuns.hit hp h0 ?_
  show SRuns _ (st2 text p l om mk [{ wait := .nextBranch, pc := 18, pos := p, outermost := om }, { wait := .nextStart, pc := 10, pos := p, outermost := om }] 2 21 (p + 1) (p) om (none) (_)) _
  refine SRuns.step (m' := st2 text p l om mk [{ wait := .nextBranch, pc := 18, pos := p, outermost := om }, { wait := .nextStart, pc := 10, pos := p, outermost := om }] 2 35 (p + 1) (p) om (none) (_)) rfl ?_
  refine SRuns.step (m' := st2 text p l om mk [{ wait := .nextBranch, pc := 18, pos := p, outermost := om }, { wait := .nextStart, pc := 10, pos := p, outermost := om }] 2 35 (p + 1) (p + 1) om (some true) (Seen.add _ 1)) (by cases om <;> rfl) ?_
  refine SRuns.step (m' := st2 text p l om mk [{ wait := .nextStart, pc := 10, pos := p, outermost := om }] 1 18 (p) (p + 1) om (some true) (_)) rfl ?_
  refine SRuns.step (m' := st2 text p l om mk [] 0 10 (p) (p + 1) om (some true) (_)) rfl ?_
  exact .step rfl (.done ⟨rfl, rfl, rfl⟩)
theorem two_cr {text : Array Nat} {p l : Nat} {om : Bool} {mk : Array (Option Nat)} {seen : Sre.Seen} (hp : p < text.size) (h0 : text.getD p 0 = 13) (h1 : ¬ (p + 1 < text.size ∧ text.getD (p + 1) 0 = 10)) :
    SRuns 40 { code := code2, text := text, lim := text.size, start := p, lastStart := l, mustAdvance := false, pc := 10, pos := p, handed := p, outermost := om, marks := mk, frames := [{ wait := .nextStart, pc := 10, pos := p, outermost := om }], weight := 1, seen := seen }
      fun m => m.outcome = some .matched ∧ m.start = p ∧ m.handed = p + 1 := by
  refine SRuns.step (m' := st2 text p l om mk [{ wait := .nextBranch, pc := 11, pos := p, outermost := om }, { wait := .nextStart, pc := 10, pos := p, outermost := om }] 2 12 (p) (p) om (none) (seen.add 7)) rfl ?_
  refine SRuns.hit hp h0 ?_
  show SRuns _ (st2 text p l om mk [{ wait := .nextBranch, pc := 11, pos := p, outermost := om }, { wait := .nextStart, pc := 10, pos := p, outermost := om }] 2 14 (p + 1) (p) om (none) (_)) _
  refine SRuns.miss (fun a b => h1 ⟨a, b⟩) ?_
  show SRuns _ (st2 text p l om mk [{ wait := .nextBranch, pc := 11, pos := p, outermost := om }, { wait := .nextStart, pc := 10, pos := p, outermost := om }] 2 14 (p + 1) (p) om (some false) (_)) _
  refine SRuns.step (m' := st2 text p l om mk [{ wait := .nextBranch, pc := 18, pos := p, outermost := om }, { wait := .nextStart, pc := 10, pos := p, outermost := om }] 2 19 (p) (p) om (none) (_)) rfl ?_
  refine SRuns.miss (fun _ e => absurd (h0.symm.trans e) (show ¬ 13 = 10 by decide)) ?_
  show SRuns _ (st2 text p l om mk [{ wait := .nextBranch, pc := 18, pos := p, outermost := om }, { wait := .nextStart, pc := 10, pos := p, outermost := om }] 2 19 (p) (p) om (some false) (_)) _
  refine SRuns.step (m' := st2 text p l om mk [{ wait := .nextBranch, pc := 23, pos := p, outermost := om }, { wait := .nextStart, pc := 10, pos := p, outermost := om }] 2 24 (p) (p) om (none) (_)) rfl ?_
  refine SRuns.hit hp h0 ?_
  show SRuns _ (st2 text p l om mk [{ wait := .nextBranch, pc := 23, pos := p, outermost := om }, { wait := .nextStart, pc := 10, pos := p, outermost := om }] 2 26 (p + 1) (p) om (none) (_)) _
  refine SRuns.step (m' := st2 text p l om mk [{ wait := .lookNot, pc := 26, pos := p + 1, outermost := om }, { wait := .nextBranch, pc := 23, pos := p, outermost := om }, { wait := .nextStart, pc := 10, pos := p, outermost := om }] 3 29 (p + 1) (p + 1) false (none) (_)) rfl ?_
  refine SRuns.miss (fun a b => h1 ⟨a, b⟩) ?_
  show SRuns _ (st2 text p l om mk [{ wait := .lookNot, pc := 26, pos := p + 1, outermost := om }, { wait := .nextBranch, pc := 23, pos := p, outermost := om }, { wait := .nextStart, pc := 10, pos := p, outermost := om }] 3 29 (p + 1) (p + 1) false (some false) (_)) _
  refine SRuns.step (m' := st2 text p l om mk [{ wait := .nextBranch, pc := 23, pos := p, outermost := om }, { wait := .nextStart, pc := 10, pos := p, outermost := om }] 2 32 (p + 1) (p + 1) om (none) (_)) rfl ?_
  refine SRuns.step (m' := st2 text p l om mk [{ wait := .nextBranch, pc := 23, pos := p, outermost := om }, { wait := .nextStart, pc := 10, pos := p, outermost := om }] 2 35 (p + 1) (p + 1) om (none) (_)) rfl ?_
  refine SRuns.step (m' := st2 text p l om mk [{ wait := .nextBranch, pc := 23, pos := p, outermost := om }, { wait := .nextStart, pc := 10, pos := p, outermost := om }] 2 35 (p + 1) (p + 1) om (some true) (Seen.add _ 1)) (by cases om <;> rfl) ?_
  refine SRuns.step (m' := st2 text p l om mk [{ wait := .nextStart, pc := 10, pos := p, outermost := om }] 1 23 (p) (p + 1) om (some true) (_)) rfl ?_
  refine SRuns.step (m' := st2 text p l om mk [] 0 10 (p) (p + 1) om (some true) (_)) rfl ?_
  exact .step rfl (.done ⟨rfl, rfl, rfl⟩)
noncomputable def hit2 (text : Array Nat) (p : Nat) : Nat := if text.getD p 0 = 13 then (if p + 1 < text.size ∧ text.getD (p + 1) 0 = 10 then 2 else 1) else if text.getD p 0 = 10 then 1 else 0
noncomputable def hit1 (text : Array Nat) (p : Nat) : Nat := if (p = 0 ∨ text.getD (p - 1) 0 = 10) ∧ text.getD p 0 = 46 then 1 else 0
noncomputable def m0 (code : Array Nat) (pc : Nat) (text : Array Nat) (p : Nat) : M := { code := code, text := text, lim := text.size, start := p, pc := pc, pos := p, handed := p, marks := Array.replicate (2 * 0) none, mustAdvance := false, seen := ({} : Sre.Seen).add 14 }
theorem fs2 (text : Array Nat) (p : Nat) : Sre.forSearch code2 text 0 p text.size false = if p > text.size || text.size - p < 1 then (m0 code2 10 text p).say false else ({ m0 code2 10 text p with lastStart := text.size }).attemptFrom p true := by rfl
theorem fs1 (text : Array Nat) (p : Nat) : Sre.forSearch code1 text 0 p text.size false = if p > text.size || text.size - p < 1 then (m0 code1 5 text p).say false else ({ m0 code1 5 text p with lastStart := text.size }).attemptFrom p true := by rfl
theorem inSet2 (c : Nat) (seen : Sre.Seen) : ∃ seen', inSet code2 c code2.size 5 true seen = .ok (c == 10 || c == 13, seen') := by
  have e : inSet code2 c code2.size 5 true seen = if (c == 10) = true then .ok (true, seen.add 16) else if (c == 13) = true then .ok (true, (seen.add 16).add 16) else .ok (false, ((seen.add 16).add 16).add 0) := rfl
  rw [e]
  cases c == 10
  · cases c == 13
    · exact ⟨_, rfl⟩
    · exact ⟨_, rfl⟩
  · exact ⟨_, rfl⟩
theorem admit2 {m : M} (hc : m.code = code2) : ∀ (fuel s : Nat) (seen : Sre.Seen), m.lim < s + fuel →
    (∃ q seen', s ≤ q ∧ q < m.lim ∧ (∀ j, s ≤ j → j < q → m.text.getD j 0 ≠ 10 ∧ m.text.getD j 0 ≠ 13) ∧ (m.text.getD q 0 = 10 ∨ m.text.getD q 0 = 13) ∧ m.admitted fuel s seen = .ok (some q, seen')) ∨
    (∃ seen', (∀ j, s ≤ j → j < m.lim → m.text.getD j 0 ≠ 10 ∧ m.text.getD j 0 ≠ 13) ∧ m.admitted fuel s seen = .ok (none, seen')) := by
  intro fuel
  induction fuel with
  | zero => intro s seen h; exact .inr ⟨seen, fun j h1 h2 => by omega, rfl⟩
  | succ fuel ih =>
    intro s seen h
    unfold M.admitted
    by_cases hs : s ≥ m.lim
    · rw [if_pos hs]
      exact .inr ⟨seen, fun j h1 h2 => by omega, rfl⟩
    · rw [if_neg hs]
      obtain ⟨seen', e⟩ := inSet2 (m.text.getD s 0) seen
      rw [hc, e]
      by_cases hn : m.text.getD s 0 = 10 ∨ m.text.getD s 0 = 13
      · have : (m.text.getD s 0 == 10 || m.text.getD s 0 == 13) = true := by simpa using hn
        rw [this]
        exact .inl ⟨s, seen', Nat.le_refl _, by omega, fun j h1 h2 => by omega, hn, rfl⟩
      · have : (m.text.getD s 0 == 10 || m.text.getD s 0 == 13) = false := by simpa using hn
        rw [this]
        have hn' : m.text.getD s 0 ≠ 10 ∧ m.text.getD s 0 ≠ 13 := ⟨fun e => hn (.inl e), fun e => hn (.inr e)⟩
        rcases ih (s + 1) seen' (by omega) with ⟨q, s2, a, b, c, d, e2⟩ | ⟨s2, a, e2⟩
        · refine .inl ⟨q, s2, by omega, b, fun j h1 h2 => ?_, d, e2⟩
          rcases Nat.eq_or_lt_of_le h1 with h3 | h3
          · rw [← h3]; exact hn'
          · exact c j h3 h2
        · refine .inr ⟨s2, fun j h1 h2 => ?_, e2⟩
          rcases Nat.eq_or_lt_of_le h1 with h3 | h3
          · rw [← h3]; exact hn'
          · exact a j h3 h2
theorem af2 {m : M} (hc : m.code = code2) (p : Nat) (b : Bool) : (∀ q seen', m.admitted (m.lim + 1 - p) p m.seen = .ok (some q, seen') → m.attemptFrom p b = { m with mustAdvance := false, seen := seen' }.attemptAt q b) ∧ (∀ seen', m.admitted (m.lim + 1 - p) p m.seen = .ok (none, seen') → m.attemptFrom p b = { m with seen := seen' }.say false) := by
  have hf : m.hasFirstSet = true := by unfold M.hasFirstSet; rw [hc]; rfl
  constructor
  · intro q seen' e
    unfold M.attemptFrom
    rw [hf, if_neg (by decide), e]
  · intro seen' e
    unfold M.attemptFrom
    rw [hf, if_neg (by decide), e]
theorem af1 {m : M} (hc : m.code = code1) (p : Nat) (b : Bool) : m.attemptFrom p b = m.attemptAt p b := by
  have hf : m.hasFirstSet = false := by unfold M.hasFirstSet; rw [hc]; rfl
  unfold M.attemptFrom
  rw [hf, if_pos (by decide)]
noncomputable def NextSpec (code text : Array Nat) (hit : Nat → Nat) : Prop := ∀ p, p ≤ text.size →
   (∃ q, p ≤ q ∧ q < text.size ∧ (∀ j, p ≤ j → j < q → hit j = 0) ∧ hit q ≠ 0 ∧ q + hit q ≤ text.size ∧ ∃ m, nextM code text p false = some (some m) ∧ m.start = q ∧ m.handed = q + hit q) ∨
   ((∀ j, p ≤ j → j < text.size → hit j = 0) ∧ nextM code text p false = some none)
theorem next_of {code text : Array Nat} {p n : Nat} {P : M → Prop} (h : SRuns n (Sre.forSearch code text 0 p text.size false) P) (hn : n ≤ 16000) (hP : ∀ m, P m → m.outcome.isSome = true) : ∃ m, P m ∧ driveN 4000 (Sre.forSearch code text 0 p text.size false) = some m := by
  obtain ⟨k, hk, hp⟩ := h
  exact ⟨_, hp, drive_of (hP _ hp) 4000 _ k rfl (by omega) (by decide)⟩
theorem nextM_matched {code text : Array Nat} {p : Nat} {m : M} (e : driveN 4000 (Sre.forSearch code text 0 p text.size false) = some m) (ho : m.outcome = some .matched) : nextM code text p false = some (some m) := by
  unfold nextM
  rw [e]; simp only [ho]
theorem nextM_failed {code text : Array Nat} {p : Nat} {m : M} (e : driveN 4000 (Sre.forSearch code text 0 p text.size false) = some m) (ho : m.outcome = some .failed) : nextM code text p false = some none := by
  unfold nextM
  rw [e]; simp only [ho]
theorem next2 (text : Array Nat) : NextSpec code2 text (hit2 text) := by
  intro p hp
  by_cases h : text.size - p < 1
  · have e := fs2 text p
    rw [if_pos (by simp [h])] at e
    have hr : SRuns 40 (Sre.forSearch code2 text 0 p text.size false) (fun m => m.outcome = some .failed) := by
      rw [e]
      exact .step rfl (.done rfl)
    obtain ⟨m, hm, hd⟩ := next_of hr (by decide) (fun m h => by rw [h]; rfl)
    exact .inr ⟨fun j h1 h2 => by omega, nextM_failed hd hm⟩
  · have e := fs2 text p
    rw [if_neg (by simp; omega)] at e
    obtain ⟨afA, afB⟩ := af2 (m := { m0 code2 10 text p with lastStart := text.size }) rfl p true
    rcases admit2 (m := { m0 code2 10 text p with lastStart := text.size }) rfl (text.size + 1 - p) p (({} : Sre.Seen).add 14) (by show text.size < p + _; omega) with ⟨q, seen', a, b, c, d, e2⟩ | ⟨seen', a, e2⟩
    · have e' : Sre.forSearch code2 text 0 p text.size false = { code := code2, text := text, lim := text.size, start := q, lastStart := text.size, mustAdvance := false, pc := 10, pos := q, handed := q, outermost := true, marks := Array.replicate (2 * 0) none, frames := [{ wait := .nextStart, pc := 10, pos := q, outermost := true }], weight := 1, seen := seen' } := by
        rw [e, afA _ _ e2]
        rfl
      have b' : q < text.size := b
      have c' : ∀ j, p ≤ j → j < q → text.getD j 0 ≠ 10 ∧ text.getD j 0 ≠ 13 := c
      have d' : text.getD q 0 = 10 ∨ text.getD q 0 = 13 := d
      have c2 : ∀ j, p ≤ j → j < q → hit2 text j = 0 := fun j h1 h2 => by
        unfold hit2; rw [if_neg (c' j h1 h2).2, if_neg (c' j h1 h2).1]
      have hr : SRuns 40 (Sre.forSearch code2 text 0 p text.size false) (fun m => m.outcome = some .matched ∧ m.start = q ∧ m.handed = q + hit2 text q) ∧ hit2 text q ≠ 0 ∧ q + hit2 text q ≤ text.size := by
        rw [e']
        rcases d' with d' | d'
        · have hh : hit2 text q = 1 := by unfold hit2; rw [d']; rfl
          rw [hh]
          exact ⟨two_lf b' d', by decide, by omega⟩
        · by_cases h1 : q + 1 < text.size ∧ text.getD (q + 1) 0 = 10
          · have hh : hit2 text q = 2 := by unfold hit2; rw [if_pos d', if_pos h1]
            rw [hh]
            exact ⟨two_crlf b' h1.1 d' h1.2, by decide, by omega⟩
          · have hh : hit2 text q = 1 := by unfold hit2; rw [if_pos d', if_neg h1]
            rw [hh]
            exact ⟨two_cr b' d' h1, by decide, by omega⟩
      obtain ⟨m, hm, hd⟩ := next_of hr.1 (by decide) (fun m h => by rw [h.1]; rfl)
      exact .inl ⟨q, a, b', c2, hr.2.1, hr.2.2, m, nextM_matched hd hm.1, hm.2.1, hm.2.2⟩
    · have e' : ∃ m' : M, m'.outcome = none ∧ m'.answer = some false ∧ m'.frames = [] ∧ Sre.forSearch code2 text 0 p text.size false = m' := by
        exact ⟨{ m0 code2 10 text p with lastStart := text.size, seen := seen', answer := some false }, rfl, rfl, rfl, e.trans (afB _ e2)⟩
      obtain ⟨m', i1, i2, i3, e'⟩ := e'
      have hr : SRuns 40 (Sre.forSearch code2 text 0 p text.size false) (fun m => m.outcome = some .failed) := by
        rw [e']
        refine SRuns.step (n := 39) (m' := { m' with outcome := some .failed }) ?_ (.done rfl) i1
        unfold M.step
        rw [i1, i2, i3]
        rfl
      obtain ⟨m, hm, hd⟩ := next_of hr (by decide) (fun m h => by rw [h]; rfl)
      refine .inr ⟨fun j h1 h2 => ?_, nextM_failed hd hm⟩
      have a' : ∀ j, p ≤ j → j < text.size → text.getD j 0 ≠ 10 ∧ text.getD j 0 ≠ 13 := a
      unfold hit2; rw [if_neg (a' j h1 h2).2, if_neg (a' j h1 h2).1]

noncomputable def st1 (text : Array Nat) (p : Nat) (om : Bool) (seen : Sre.Seen) : M := { code := code1, text := text, lim := text.size, start := p, lastStart := text.size, mustAdvance := false, pc := 5, pos := p, handed := p, outermost := om, marks := Array.replicate (2 * 0) none, frames := [{ wait := .nextStart, pc := 5, pos := p, outermost := om }], weight := 1, seen := seen }

noncomputable def st1b (text : Array Nat) (p : Nat) (om : Bool) (seen : Sre.Seen) : M := { code := code1, text := text, lim := text.size, start := p, lastStart := text.size, mustAdvance := false, pc := 7, pos := p, handed := p, outermost := om, marks := Array.replicate (2 * 0) none, frames := [{ wait := .nextStart, pc := 5, pos := p, outermost := om }], weight := 1, seen := seen }
noncomputable def st1c (text : Array Nat) (p pc : Nat) (om : Bool) (seen : Sre.Seen) : M := { code := code1, text := text, lim := text.size, start := p, lastStart := text.size, mustAdvance := false, pc := pc, pos := p, handed := p, outermost := om, marks := Array.replicate (2 * 0) none, frames := [{ wait := .nextStart, pc := 5, pos := p, outermost := om }], weight := 1, seen := seen, answer := some false }
theorem one_at {text : Array Nat} {p : Nat} {om : Bool} {seen : Sre.Seen} : ∃ seen', (st1 text p om seen).step = if (p == 0 || text.getD (p - 1) 0 == 10) = true then st1b text p om seen' else st1c text p 5 om seen' := ⟨(seen.add 6).add 44, rfl⟩
theorem one_hit {text : Array Nat} {p : Nat} {om : Bool} {seen : Sre.Seen} (hp : p < text.size) (hh : hit1 text p ≠ 0) (n : Nat) : SRuns (n + 10) (st1 text p om seen) fun m => m.outcome = some .matched ∧ m.start = p ∧ m.handed = p + 1 := by
  have f0 : ¬ text.size ≤ p := by omega
  have hc : (p = 0 ∨ text.getD (p - 1) 0 = 10) ∧ text.getD p 0 = 46 := by
    by_cases h : (p = 0 ∨ text.getD (p - 1) 0 = 10) ∧ text.getD p 0 = 46
    · exact h
    · exact absurd (by unfold hit1; rw [if_neg h]) hh
  have ha : (p == 0 || text.getD (p - 1) 0 == 10) = true := by simpa using hc.1
  have h46 := hc.2
  obtain ⟨seen', e⟩ := one_at (text := text) (p := p) (om := om) (seen := seen)
  rw [if_pos ha] at e
  refine .step e (SRuns.hit hp h46 ?_)
  show SRuns _ { st1b text p om seen' with pc := 9, pos := p + 1, seen := seen'.add 16 } _
  refine .step (m' := { st1b text p om seen' with pc := 9, pos := p + 1, handed := p + 1, answer := some true, seen := (seen'.add 16).add 1 }) (by cases om <;> rfl) ?_
  refine .step (m' := { st1b text p om seen' with pc := 5, handed := p + 1, frames := [], weight := 0, answer := some true, seen := (seen'.add 16).add 1 }) rfl ?_
  exact .step rfl (.done ⟨rfl, rfl, rfl⟩)
theorem one_c {text : Array Nat} {p pc n : Nat} {om : Bool} {seen : Sre.Seen} {P : M → Prop} (hp : p < text.size) (h : ∀ seen', SRuns n (st1 text (p + 1) false seen') P) : SRuns (n + 1) (st1c text p pc om seen) P := by
  refine .step (m' := st1 text (p + 1) false seen) ?_ (h _)
  show (if p < text.size then _ else _) = _
  rw [if_pos hp]
  exact (af1 rfl _ _).trans rfl
theorem one_cend {text : Array Nat} {p pc n : Nat} {om : Bool} {seen : Sre.Seen} {P : M → Prop} (hp : ¬ p < text.size) (h : ∀ m : M, m.outcome = some .failed → P m) : SRuns (n + 2) (st1c text p pc om seen) P := by
  refine .step (m' := { st1c text p 5 om seen with frames := [], weight := 0 }) ?_ (.step rfl (.done (h _ rfl)))
  show (if p < text.size then _ else _) = _
  rw [if_neg hp]
  rfl
theorem one_miss {text : Array Nat} {p n : Nat} {om : Bool} {seen : Sre.Seen} {P : M → Prop} (hh : hit1 text p = 0 ∨ ¬ p < text.size) (h : ∀ seen' pc, SRuns n (st1c text p pc om seen') P) : SRuns (n + 2) (st1 text p om seen) P := by
  obtain ⟨seen', e⟩ := one_at (text := text) (p := p) (om := om) (seen := seen)
  by_cases ha : (p == 0 || text.getD (p - 1) 0 == 10) = true
  · rw [if_pos ha] at e
    refine .step e (.step (m' := st1c text p 7 om (seen'.add 16)) (lit_miss (fun hp e => ?_) rfl rfl (of_decide_eq_true rfl) rfl) (h _ _))
    rcases hh with hh | hh
    · unfold hit1 at hh
      rw [if_pos ⟨by simpa using ha, e⟩] at hh
      exact absurd hh (by decide)
    · exact hh hp
  · rw [if_neg ha] at e
    obtain ⟨k, hk, hP⟩ := h seen' 5
    exact .step e ⟨k, by omega, hP⟩
theorem one_search {text : Array Nat} : ∀ (d p : Nat) (om : Bool) (seen : Sre.Seen), text.size = p + d → SRuns (4 * d + 14) (st1 text p om seen) fun m =>
    (∃ q, p ≤ q ∧ q < text.size ∧ (∀ j, p ≤ j → j < q → hit1 text j = 0) ∧ hit1 text q ≠ 0 ∧ m.outcome = some .matched ∧ m.start = q ∧ m.handed = q + 1) ∨ ((∀ j, p ≤ j → j < text.size → hit1 text j = 0) ∧ m.outcome = some .failed) := by
  intro d
  induction d with
  | zero =>
    intro p om seen hd
    refine one_miss (n := 12) (.inr (by omega)) fun s pc => ?_
    exact one_cend (n := 10) (by omega) fun m hm => .inr ⟨fun j h1 h2 => by omega, hm⟩
  | succ d ih =>
    intro p om seen hd
    by_cases hh : hit1 text p = 0
    · rw [show 4 * (d + 1) + 14 = (4 * d + 14 + 1 + 1) + 2 by omega]
      refine one_miss (.inl hh) fun s pc => ?_
      refine one_c (by omega) fun s' => ?_
      obtain ⟨k, hk, hP⟩ := ih (p + 1) false s' (by omega)
      refine ⟨k, by omega, ?_⟩
      rcases hP with ⟨q, a, b, c, e⟩ | ⟨a, e⟩
      · refine .inl ⟨q, by omega, b, fun j h1 h2 => ?_, e⟩
        rcases Nat.eq_or_lt_of_le h1 with h3 | h3
        · rw [← h3]; exact hh
        · exact c j h3 h2
      · refine .inr ⟨fun j h1 h2 => ?_, e⟩
        rcases Nat.eq_or_lt_of_le h1 with h3 | h3
        · rw [← h3]; exact hh
        · exact a j h3 h2
    · obtain ⟨k, hk, hP⟩ := one_hit (seen := seen) (om := om) (show p < text.size by omega) hh (4 * d)
      exact ⟨k, by omega, .inl ⟨p, Nat.le_refl _, by omega, fun j h1 h2 => by omega, hh, hP⟩⟩
theorem next1 (text : Array Nat) (hs : text.size ≤ 3000) : NextSpec code1 text (hit1 text) := by
  intro p hp
  have hsp : ∀ P : M → Prop, SRuns 12100 (Sre.forSearch code1 text 0 p text.size false) P → (∀ m, P m → m.outcome.isSome = true) → ∃ m, P m ∧ driveN 4000 (Sre.forSearch code1 text 0 p text.size false) = some m := fun P h1 h2 => next_of h1 (by decide) h2
  by_cases h : text.size - p < 1
  · have e := fs1 text p
    rw [if_pos (by simp [h])] at e
    obtain ⟨m, hm, hd⟩ := hsp (fun m => m.outcome = some .failed) (by rw [e]; exact .step rfl (.done rfl)) (fun m h => by rw [h]; rfl)
    exact .inr ⟨fun j h1 h2 => by omega, nextM_failed hd hm⟩
  · have e := fs1 text p
    rw [if_neg (by simp; omega)] at e
    have e' : Sre.forSearch code1 text 0 p text.size false = st1 text p true (({} : Sre.Seen).add 14) := e.trans ((af1 rfl _ _).trans rfl)
    have hr := (one_search (text.size - p) p true (({} : Sre.Seen).add 14) (show text.size = p + (text.size - p) by omega)).mono (show _ ≤ 12100 by omega)
    rw [← e'] at hr
    obtain ⟨m, hm, hd⟩ := hsp _ hr (fun m h => by
      rcases h with ⟨q, _, _, _, _, h, _⟩ | ⟨_, h⟩ <;> rw [h] <;> rfl)
    rcases hm with ⟨q, a, b, c, d, o, s, t⟩ | ⟨a, o⟩
    · have h1 : hit1 text q = 1 := by
        by_cases hq : (q = 0 ∨ text.getD (q - 1) 0 = 10) ∧ text.getD q 0 = 46
        · unfold hit1; rw [if_pos hq]
        · exact absurd (by unfold hit1; rw [if_neg hq]) d
      exact .inl ⟨q, a, b, c, d, by omega, m, nextM_matched hd o, s, by omega⟩
    · exact .inr ⟨a, nextM_failed hd o⟩
noncomputable def flatS (l : List PySem.Str) : List Nat := l.flatMap (·.cps.toList)
theorem subL_F {code text : Array Nat} {hit : Nat → Nat} {repl : PySem.Str} (H : NextSpec code text hit) (F : Nat → List Nat)
    (f0 : ∀ p, p < text.size → hit p = 0 → F p = text.getD p 0 :: F (p + 1)) (f1 : ∀ p, p < text.size → hit p ≠ 0 → F p = repl.cps.toList ++ F (p + hit p)) (f2 : F text.size = []) :
    ∀ (n p : Nat) (ps : List PySem.Str), p ≤ text.size → text.size < p + n → ∃ l, subL code text repl n p p false ps = some l ∧ flatS l = flatS ps ++ F p := by
  have run : ∀ (d p q : Nat), q = p + d → q ≤ text.size → (∀ j, p ≤ j → j < q → hit j = 0) → F p = (text.extract p q).toList ++ F q := by
    intro d
    induction d with
    | zero =>
      intro p q hd h2 h3
      subst hd
      simp
    | succ d ih =>
      intro p q hd h2 h3
      rw [f0 p (by omega) (h3 p (Nat.le_refl _) (by omega)), ih (p + 1) q (by omega) h2 (fun j a b => h3 j (by omega) b)]
      have hp : p < text.size := by omega
      have e : (text.extract p q).toList = text.getD p 0 :: (text.extract (p + 1) q).toList := by
        simp only [Array.toList_extract, List.extract_eq_take_drop]
        rw [List.drop_eq_getElem_cons (by simpa using hp), show q - p = (q - (p + 1)) + 1 by omega, List.take_succ_cons]
        simp [Array.getD, hp]
      rw [e]; rfl
  intro n
  induction n with
  | zero => intro p ps h1 h2; omega
  | succ n ih =>
    intro p ps h1 h2
    unfold subL
    rcases H p h1 with ⟨q, a, b, c, d, e, m, hm, ms, mh⟩ | ⟨a, hm⟩
    · rw [hm]
      simp only
      rw [ms, mh]
      have hmust : (q + hit q == q) = false := by simpa using d
      rw [hmust]
      obtain ⟨l, hl, hf⟩ := ih (q + hit q) ((if p < q then ps ++ [(⟨text.extract p q⟩ : PySem.Str)] else ps) ++ [repl]) e (by omega)
      refine ⟨l, hl, ?_⟩
      rw [hf, run (q - p) p q (by omega) (by omega) c, f1 q b d]
      by_cases hpq : p < q
      · rw [if_pos hpq]; simp [flatS]
      · have : p = q := by omega
        subst this
        rw [if_neg hpq]; simp [flatS]
    · rw [hm]
      simp only
      refine ⟨_, rfl, ?_⟩
      rw [run (text.size - p) p text.size (by omega) (Nat.le_refl _) a, f2]
      by_cases hpq : p < text.size
      · rw [if_pos hpq]; simp [flatS]
      · have : p = text.size := by omega
        subst this
        rw [if_neg hpq]; simp [flatS]
theorem join_flat (l : List PySem.Str) : Txt.join ⟨#[]⟩ l = ⟨(flatS l).toArray⟩ := by
    refine (StrLaws.glued_eq_join _ _).trans ?_
    induction l with
    | nil => rfl
    | cons x l ih =>
      cases l with
      | nil => show x = _; simp [flatS]
      | cons y l =>
        show x ++ (⟨#[]⟩ : PySem.Str) ++ PySem.Str.join ⟨#[]⟩ (y :: l) = _
        rw [ih]
        show (⟨(x.cps ++ #[]) ++ (flatS (y :: l)).toArray⟩ : PySem.Str) = _
        congr 1
        simp [flatS]
theorem sub_of {code : Array Nat} {text : PySem.Str} {hit : Nat → Nat} {repl : PySem.Str} (H : NextSpec code text.cps hit) (F : Nat → List Nat)
    (f0 : ∀ p, p < text.cps.size → hit p = 0 → F p = text.cps.getD p 0 :: F (p + 1)) (f1 : ∀ p, p < text.cps.size → hit p ≠ 0 → F p = repl.cps.toList ++ F (p + hit p)) (f2 : F text.cps.size = [])
    (hs : text.cps.size < 200) (hF : (F 0).length ≤ 4000) : subT' code repl text = some ⟨(F 0).toArray⟩ := by
  obtain ⟨l, hl, hf⟩ := subL_F H F f0 f1 f2 200 0 [] (Nat.zero_le _) (by omega)
  have hf' : flatS l = F 0 := hf
  unfold subT'
  rw [hl]
  show subEnd l = _
  unfold subEnd
  have hj : JoinOk ⟨#[]⟩ l = true := by
    refine joinOk_of ?_
    have : (l.map (·.length)).sum = (flatS l).length := by
      clear hl hf hf'
      induction l with
      | nil => rfl
      | cons x l ih => simp only [List.map_cons, List.sum_cons, ih, flatS, List.flatMap_cons, List.length_append]; rfl
    rw [this, hf']
    show _ + l.length * 0 ≤ _
    omega
  rw [if_pos hj, join_flat, hf']
noncomputable def crlfL : Bool → List Nat → List Nat
  | _, [] => []
  | b, c :: t => if c = 10 then (if b then crlfL false t else 13 :: 10 :: crlfL false t) else if c = 13 then 13 :: 10 :: crlfL true t else c :: crlfL false t
noncomputable def dotsL : Bool → List Nat → List Nat
  | _, [] => []
  | b, c :: t => if b = true ∧ c = 46 then 46 :: 46 :: dotsL false t else c :: dotsL (c == 10) t
theorem drop_get {a : Array Nat} {p : Nat} (h : p < a.size) : a.toList.drop p = a.getD p 0 :: a.toList.drop (p + 1) := by
  rw [List.drop_eq_getElem_cons (by simpa using h)]
  simp [Array.getD, h]
theorem crlf_any {t : List Nat} (h : ∀ c t', t = c :: t' → c ≠ 10) : crlfL true t = crlfL false t := by
  cases t with
  | nil => rfl
  | cons c t => unfold crlfL; rw [if_neg (h c t rfl), if_neg (h c t rfl)]
theorem sub2 {text : PySem.Str} (hs : text.cps.size < 200) (hF : (crlfL false text.cps.toList).length ≤ 4000) : subT' code2 crlfT text = some ⟨(crlfL false text.cps.toList).toArray⟩ := by
  refine sub_of (next2 text.cps) (fun p => crlfL false (text.cps.toList.drop p)) ?_ ?_ ?_ hs hF
  · intro p hp hh
    have : text.cps.getD p 0 ≠ 10 ∧ text.cps.getD p 0 ≠ 13 := by
      unfold hit2 at hh
      constructor
      · intro e; rw [e, if_neg (by decide), if_pos rfl] at hh; exact absurd hh (by decide)
      · intro e; rw [if_pos e] at hh; split at hh <;> exact absurd hh (by decide)
    show crlfL false _ = _ :: crlfL false _
    rw [drop_get hp]
    rw [crlfL, if_neg this.1, if_neg this.2]
  · intro p hp hh
    show crlfL false _ = _
    by_cases h13 : text.cps.getD p 0 = 13
    · by_cases h1 : p + 1 < text.cps.size ∧ text.cps.getD (p + 1) 0 = 10
      · have e : hit2 text.cps p = 2 := by unfold hit2; rw [if_pos h13, if_pos h1]
        rw [e, drop_get hp, h13, drop_get h1.1, h1.2]
        rfl
      · have e : hit2 text.cps p = 1 := by unfold hit2; rw [if_pos h13, if_neg h1]
        rw [e, drop_get hp, h13, crlfL, if_neg (by decide), if_pos rfl, crlf_any]
        · rfl
        · intro c t' ht hc
          by_cases hp1 : p + 1 < text.cps.size
          · rw [drop_get hp1] at ht
            injection ht with ht1 ht2
            exact h1 ⟨hp1, ht1.trans hc⟩
          · rw [List.drop_eq_nil_of_le (by simpa using (by omega : text.cps.size ≤ p + 1))] at ht
            cases ht
    · have h10 : text.cps.getD p 0 = 10 := by
        by_cases h : text.cps.getD p 0 = 10
        · exact h
        · exact absurd (by unfold hit2; rw [if_neg h13, if_neg h]) hh
      have e : hit2 text.cps p = 1 := by unfold hit2; rw [h10]; rfl
      rw [e, drop_get hp, h10]
      rfl
  · show crlfL false _ = []
    rw [List.drop_eq_nil_of_le (by simp)]; rfl
theorem sub1 {text : PySem.Str} (hs : text.cps.size < 200) (hF : (dotsL true text.cps.toList).length ≤ 4000) : subT' code1 dots2 text = some ⟨(dotsL true text.cps.toList).toArray⟩ := by
  refine sub_of (next1 text.cps (by omega)) (fun p => dotsL (p == 0 || text.cps.getD (p - 1) 0 == 10) (text.cps.toList.drop p)) ?_ ?_ ?_ hs hF
  · intro p hp hh
    show dotsL _ _ = _ :: dotsL _ _
    rw [drop_get hp, dotsL]
    have : ¬ ((p == 0 || text.cps.getD (p - 1) 0 == 10) = true ∧ text.cps.getD p 0 = 46) := by
      intro h
      unfold hit1 at hh
      rw [if_pos ⟨by simpa using h.1, h.2⟩] at hh
      exact absurd hh (by decide)
    rw [if_neg this]
    have e : (p + 1 == 0 || text.cps.getD (p + 1 - 1) 0 == 10) = (text.cps.getD p 0 == 10) := by simp
    rw [e]
  · intro p hp hh
    show dotsL _ _ = _ ++ dotsL _ _
    have hc : (p = 0 ∨ text.cps.getD (p - 1) 0 = 10) ∧ text.cps.getD p 0 = 46 := by
      by_cases hq : (p = 0 ∨ text.cps.getD (p - 1) 0 = 10) ∧ text.cps.getD p 0 = 46
      · exact hq
      · exact absurd (by unfold hit1; rw [if_neg hq]) hh
    have e : hit1 text.cps p = 1 := by unfold hit1; rw [if_pos hc]
    have hb : (p == 0 || text.cps.getD (p - 1) 0 == 10) = true := by simpa using hc.1
    have e2 : (p + 1 == 0 || text.cps.getD (p + 1 - 1) 0 == 10) = false := by
      show (false || text.cps.getD p 0 == 10) = false
      rw [hc.2]; rfl
    rw [e, drop_get hp, dotsL, if_pos ⟨hb, hc.2⟩, e2]
    rfl
  · show dotsL _ _ = []
    rw [List.drop_eq_nil_of_le (by simp)]; rfl
end
section
local macro_rules | `(tactic| walk_at "SW mm") => `(tactic| ((with_reducible show wpAny _ _ (call _ [Value.float _ _, Value.float _ _, Value.float _ _]) _ _ _); (rename News _ _ _ _ => N'); (rename Fr _ _ _ _ => F'); (first | refine max_three_ff rfl F' N' ?_ | refine min_three_ff rfl F' N' ?_); clear N'; intro _ _ _ _ _))
local macro_rules | `(tactic| walk_at "call builtin:max") => `(tactic| walk_at "SW mm")
local macro_rules | `(tactic| walk_at "call builtin:min") => `(tactic| walk_at "SW mm")
local macro_rules | `(tactic| walk_at "call ref") => `(tactic| (refine wpAny_call ?_; k_dflt cell_enter))
local macro_rules | `(tactic| walk_at "SW enter") => `(tactic| (refine' enter0 ?k1 ?k2 ?k3 ?k5 ?kA ?kF ?kK ?k6 ?k7 ?k8 ?k9 ?kB ?_ ?c2 ?c3 ?c4 ?c5; (case kA => exact rfl); (case kF => exact rfl); (case kK => first | exact rfl | assumption); (case k1 => k_asm); (case k2 => k_asm); (case k3 => k_asm); (case k5 => k_asm); (case k6 => k_is); (case k7 => k_is); (case k8 => ktr_room); (case k9 => exact BindsTo.of_eq rfl); (case c5 => decide); (case kB => exact locs rfl); (case c2 => exact rfl); (case c3 => exact rfl); (case c4 => exact rfl); k_whole))
local macro_rules | `(tactic| walk_at "SW apart") => `(tactic| ((first | (with_reducible rename @LT.lt _ _ _ _ ∧ _ => hh) | (with_reducible rename @Ne _ _ _ ∧ _ => hh) | (with_reducible rename (_ ∧ _) ∧ _ => hh)); have hh1 := hh.1; have hh2 := hh.2; clear hh))
local macro_rules | `(tactic| walk_at "SW step") => `(tactic| ((repeat walk_at "SW apart"); first | (k_unfold; (try dsimp only)) | walk1 | (dsimp only; walk1) | (leave1; try dsimp only)))
local macro_rules | `(tactic| walk_at "call builtin:list.append") => `(tactic| ((with_reducible show wpAny _ _ (call (Value.builtin _) [Value.ref _, _]) _ _ _); k_dflt (refine' append_K ?k1 ?k2 ?k3 ?_ ?z; (case k1 => k_asm); (case k2 => k_asm); (case k3 => k_upd); (case z => (refine small_fits ?_; (try simp only [List.size_toArray]); omega)); k_whole); intro h' F' N'; (simp only [push_list] at N'); (try k_sweep)))
local macro_rules | `(tactic| walk_at "SW offC") => `(tactic| first | exact trivial | (refine And.intro (by first | (intro e; cases e; done) | (intro e; exact absurd (Value.type.inj e) (by decide))) ?_; walk_at "SW offC"))
local macro_rules | `(tactic| walk_at "SW st") => `(tactic| ((fail_if_success (with_reducible show wpAny _ _ (pyIter (Value.ref _)) (fun it s₂ => LoopAtV _ _ _ _ _ _ _ _ _ it s₂) _ _)); (fail_if_success (with_reducible show UnrEnd _ _ _ _ _ _ _)); (fail_if_success (with_reducible show wpAny _ _ (eval (Expr.ListComp _ _ _ _) _) _ _ _)); (fail_if_success (with_reducible show wpAny _ _ (exec (Stmt.Assign _ (Expr.ListComp _ _ _ _) _) _) _ _ _)); (fail_if_success (with_reducible show LCg.CompSrc _ _ _ _ _ _ _ _ _ _ _ _ _ _)); (fail_if_success (with_reducible show LCt.CompSrcT _ _ _ _ _ _ _ _ _ _ _ _ _ _ _)); (fail_if_success (with_reducible show LCg.CompEnd _ _ _ _ _ _ _ _ _ _ _ _ _ _))))
local macro_rules | `(tactic| walk_at "SW go") => `(tactic| repeat' (walk_at "SW st"; walk_at "SW step"))
local macro_rules | `(tactic| walk_at "SW comp") => `(tactic| k_dflt (refine LCg.ListComp_U (F₀ := by k_asm) (by rfl) (by decide) (by rfl) (by decide) (by rfl) ?_))
local macro_rules | `(tactic| walk_at "SW acomp") => `(tactic| k_dflt (refine LCg.Assign_ListComp_U (F₀ := by k_asm) (by rfl) (by with_unfolding_all rfl) (by rfl) (by decide) (by rfl) (by decide) (by rfl) (by rfl) (by rfl) ?_))
local macro_rules | `(tactic| walk_at "exec For Name Subscript cons nil") => `(tactic| ((rename Fr _ _ _ _ => lF'); (with_unfolding_all refine' For_invVF lF' ?k1 ?k2 ?_; (case k1 => exact rfl); (case k2 => exact rfl); k_whole)))
local macro_rules | `(tactic| walk_at "SW ne") => `(tactic| first | assumption | exact Ne.symm (by assumption) | exact Nat.ne_of_gt (by assumption) | exact Nat.ne_of_lt (by assumption))
local macro_rules | `(tactic| walk_at "SW nef") => `(tactic| ((try dsimp only); first | walk_at "SW ne" | exact nn1 _ | exact nn2 _ | exact nn3 _ | exact nn4 _ | exact Ne.symm (nn1 _) | exact Ne.symm (nn2 _) | exact Ne.symm (nn3 _) | exact Ne.symm (nn4 _) | ((repeat (rename _ ∧ _ => hh; cases hh)); walk_at "SW ne")))
local macro_rules | `(tactic| k_ne) => `(tactic| (refine neN ?_; walk_at "SW nef"))
local macro_rules | `(tactic| walk_at "SW all") => `(tactic| first | exact List.forall_mem_nil _ | (refine' List.forall_mem_cons.mpr ⟨?a, ?b⟩; (case a => walk_at "SW nef"); (case b => walk_at "SW all")) | assumption | fail "SW all")
local macro_rules | `(tactic| walk_at "SW upd") => `(tactic| first | (refine' UpdF.head ?a; (case a => walk_at "SW all")) | (refine' UpdF.tail ?a ?b; (case a => walk_at "SW nef"); (case b => walk_at "SW upd")) | fail "SW upd")
local macro_rules | `(tactic| walk_at "SW t0") => `(tactic| first | exact Nat.le_add_left _ _ | assumption)
local macro_rules | `(tactic| walk_at "SW t1") => `(tactic| refine Nat.le_trans ?_ (by assumption))
local macro_rules | `(tactic| walk_at "SW tl") => `(tactic| first | walk_at "SW t0" | (walk_at "SW t1"; first | walk_at "SW t0" | (walk_at "SW t1"; first | walk_at "SW t0" | (walk_at "SW t1"; first | walk_at "SW t0" | (walk_at "SW t1"; first | walk_at "SW t0" | (walk_at "SW t1"; first | walk_at "SW t0" | (walk_at "SW t1"; first | walk_at "SW t0" | (walk_at "SW t1"; first | walk_at "SW t0" | (walk_at "SW t1"; walk_at "SW t0")))))))))
local macro_rules | `(tactic| walk_at "SW room") => `(tactic| k_dflt (first | exact rmA (by assumption) (by decide) | exact Nat.lt_of_le_of_lt (Nat.le_add_right _ _) (by assumption)))
local macro_rules | `(tactic| ktr_room) => `(tactic| walk_at "SW room")
local macro_rules | `(tactic| ktr_units) => `(tactic| walk_at "SW room")
section

set_option maxRecDepth 100000 in
set_option maxHeartbeats 8000000 in
theorem addII (w mean mg mb news) (a b : Int) (t1 t2 : Tok)  : Con w mean mg mb 59 1 20 news [.int a t1, .int b t2] (RetV fun t => .int (a + b) t) := by
  unfold Con; k_fill
  intros
  rename_i hret
  refine wpAny_call ?_
  cell_enter
  k_steps
  all_goals first
    | exact hret _ _ _ (by assumption) (by assumption)
    | (exfalso; omega)

set_option maxRecDepth 100000 in
set_option maxHeartbeats 8000000 in
theorem andC (w mean mg mb news) (a b : Int) (t1 t2 : Tok)  : Con w mean mg mb 66 1 20 news [.int a t1, .int b t2] (RetV fun t => .int (Builtin.bitAnd a b) t) := by
  unfold Con; k_fill
  intros
  rename_i hret
  refine wpAny_call ?_
  cell_enter
  k_steps
  all_goals first
    | exact hret _ _ _ (by assumption) (by assumption)
    | (exfalso; omega)

set_option maxRecDepth 100000 in
set_option maxHeartbeats 8000000 in
theorem invC (w mean mg mb news) (a : Int) (t1 : Tok)  : Con w mean mg mb 73 1 20 news [.int a t1] (RetV fun t => .int (Builtin.bitNot a) t) := by
  unfold Con; k_fill
  intros
  rename_i hret
  refine wpAny_call ?_
  cell_enter
  k_steps
  all_goals first
    | exact hret _ _ _ (by assumption) (by assumption)
    | (exfalso; omega)

set_option maxRecDepth 100000 in
set_option maxHeartbeats 8000000 in
theorem lshC (w mean mg mb news) (a b : Int) (t1 t2 : Tok) (h1 : 0 ≤ a) (h2 : a < 2 ^ 20) (h3 : 0 ≤ b) (h4 : b < 20) : Con w mean mg mb 80 1 20 news [.int a t1, .int b t2] (RetV fun t => .int (a * 2 ^ b.toNat) t) := by
  unfold Con; k_fill
  intros
  rename_i hret
  refine wpAny_call ?_
  cell_enter
  k_steps
  all_goals first
    | exact hret _ _ _ (by assumption) (by assumption)
    | (exfalso; omega)

set_option maxRecDepth 100000 in
set_option maxHeartbeats 8000000 in
theorem modC (w mean mg mb news) (a b : Int) (t1 t2 : Tok) (h1 : b ≠ 0) : Con w mean mg mb 87 1 20 news [.int a t1, .int b t2] (RetV fun t => .int (a.fmod b) t) := by
  unfold Con; k_fill
  intros
  rename_i hret
  refine wpAny_call ?_
  cell_enter
  k_steps
  all_goals first
    | exact hret _ _ _ (by assumption) (by assumption)
    | (exfalso; omega)

set_option maxRecDepth 100000 in
set_option maxHeartbeats 8000000 in
theorem mulC (w mean mg mb news) (a b : Int) (t1 t2 : Tok) (h1 : 0 ≤ a) (h2 : a < 2 ^ 20) (h3 : 0 ≤ b) (h4 : b < 2 ^ 20) : Con w mean mg mb 94 1 20 news [.int a t1, .int b t2] (RetV fun t => .int (a * b) t) := by
  unfold Con; k_fill
  intros
  rename_i hret
  refine wpAny_call ?_
  cell_enter
  k_steps
  all_goals first
    | exact hret _ _ _ (by assumption) (by assumption)
    | (exfalso; omega)

set_option maxRecDepth 100000 in
set_option maxHeartbeats 8000000 in
theorem orC (w mean mg mb news) (a b : Int) (t1 t2 : Tok)  : Con w mean mg mb 101 1 20 news [.int a t1, .int b t2] (RetV fun t => .int (Builtin.bitOr a b) t) := by
  unfold Con; k_fill
  intros
  rename_i hret
  refine wpAny_call ?_
  cell_enter
  k_steps
  all_goals first
    | exact hret _ _ _ (by assumption) (by assumption)
    | (exfalso; omega)

set_option maxRecDepth 100000 in
set_option maxHeartbeats 8000000 in
theorem rshC (w mean mg mb news) (a b : Int) (t1 t2 : Tok) (h1 : 0 ≤ b) : Con w mean mg mb 108 1 20 news [.int a t1, .int b t2] (RetV fun t => .int (a.fdiv (2 ^ b.toNat)) t) := by
  unfold Con; k_fill
  intros
  rename_i hret
  refine wpAny_call ?_
  cell_enter
  k_steps
  all_goals first
    | exact hret _ _ _ (by assumption) (by assumption)
    | (exfalso; omega)

set_option maxRecDepth 100000 in
set_option maxHeartbeats 8000000 in
theorem subII (w mean mg mb news) (a b : Int) (t1 t2 : Tok)  : Con w mean mg mb 115 1 20 news [.int a t1, .int b t2] (RetV fun t => .int (a - b) t) := by
  unfold Con; k_fill
  intros
  rename_i hret
  refine wpAny_call ?_
  cell_enter
  k_steps
  all_goals first
    | exact hret _ _ _ (by assumption) (by assumption)
    | (exfalso; omega)

set_option maxRecDepth 100000 in
set_option maxHeartbeats 8000000 in
theorem xorC (w mean mg mb news) (a b : Int) (t1 t2 : Tok)  : Con w mean mg mb 129 1 20 news [.int a t1, .int b t2] (RetV fun t => .int (Builtin.bitXor a b) t) := by
  unfold Con; k_fill
  intros
  rename_i hret
  refine wpAny_call ?_
  cell_enter
  k_steps
  all_goals first
    | exact hret _ _ _ (by assumption) (by assumption)
    | (exfalso; omega)

set_option maxRecDepth 100000 in
set_option maxHeartbeats 8000000 in
theorem subFF (w mean mg mb news) (a b : UInt64) (t1 t2 : Tok)  : Con w mean mg mb 115 1 20 news [.float a t1, .float b t2] (RetV fun t => .float (Float64.sub a b) t) := by
  unfold Con; k_fill
  intros
  rename_i hret
  refine wpAny_call ?_
  cell_enter
  k_steps
  all_goals first
    | exact hret _ _ _ (by assumption) (by assumption)
    | (exfalso; omega)

set_option maxRecDepth 100000 in
set_option maxHeartbeats 8000000 in
theorem addSS (w mean mg mb news) (a b : PySem.Str) (t1 t2 : Tok) (h1 : a.length < 10000) (h2 : b.length < 10000) : Con w mean mg mb 59 1 20 news [.str a t1, .str b t2] (RetV fun t => .str (a ++ b) t) := by
  unfold Con; k_fill
  intros
  rename_i hret
  refine wpAny_call ?_
  cell_enter
  k_steps
  all_goals first
    | exact hret _ _ _ (by assumption) (by assumption)
    | (exfalso; omega)
end
section
/-- a tuple of three floats -/
noncomputable def tup3 (x y z : UInt64) (t u v : Tok) : Obj := { cls := .type "tuple", data := .seq #[.float x t, .float y u, .float z v] }
noncomputable def IsT3 (r : Option (UInt64 × UInt64 × UInt64)) (o : Obj) : Prop := ∃ x y z t u v, r = some (x, y, z) ∧ o = tup3 x y z t u v
noncomputable def eqF (x y : UInt64) : Bool := Float64.cmp x y == some Ordering.eq
noncomputable def mod1 (x : UInt64) : UInt64 := (Float64.divmod x 4607182418800017408).snd
noncomputable def hueF (r g b M d : UInt64) : UInt64 :=
  if (Float64.cmp r M == some Ordering.eq) = true then (Float64.divmod (Float64.div (Float64.sub (Float64.div (Float64.sub M b) d) (Float64.div (Float64.sub M g) d)) 4618441417868443648) 4607182418800017408).snd
  else if (Float64.cmp g M == some Ordering.eq) = true then (Float64.divmod (Float64.div (Float64.sub (Float64.add 4611686018427387904 (Float64.div (Float64.sub M r) d)) (Float64.div (Float64.sub M b) d)) 4618441417868443648) 4607182418800017408).snd
  else (Float64.divmod (Float64.div (Float64.sub (Float64.add 4616189618054758400 (Float64.div (Float64.sub M g) d)) (Float64.div (Float64.sub M r) d)) 4618441417868443648) 4607182418800017408).snd
/-- what rgb_to_hsv gives back -/
noncomputable def rhsvF (r g b : UInt64) : Option (UInt64 × UInt64 × UInt64) :=
  if (Float64.cmp (min3 r g b) (max3 r g b) == some Ordering.eq) = true then some (0, 0, max3 r g b)
  else if Float64.isZero (max3 r g b) = true then none
  else if Float64.isZero (Float64.sub (max3 r g b) (min3 r g b)) = true then none
  else some (hueF r g b (max3 r g b) (Float64.sub (max3 r g b) (min3 r g b)), Float64.div (Float64.sub (max3 r g b) (min3 r g b)) (max3 r g b), max3 r g b)
/-- what rgb_to_hls gives back -/
noncomputable def rhlsF (r g b : UInt64) : Option (UInt64 × UInt64 × UInt64) :=
  if (Float64.cmp (min3 r g b) (max3 r g b) == some Ordering.eq) = true then some (0, Float64.div (Float64.add (max3 r g b) (min3 r g b)) 4611686018427387904, 0)
  else if (Float64.cmp (Float64.div (Float64.add (max3 r g b) (min3 r g b)) 4611686018427387904) 4602678819172646912 == some Ordering.lt || Float64.cmp (Float64.div (Float64.add (max3 r g b) (min3 r g b)) 4611686018427387904) 4602678819172646912 == some Ordering.eq) = true then
    (if Float64.isZero (Float64.add (max3 r g b) (min3 r g b)) = true then none
    else if Float64.isZero (Float64.sub (max3 r g b) (min3 r g b)) = true then none
    else some (hueF r g b (max3 r g b) (Float64.sub (max3 r g b) (min3 r g b)), Float64.div (Float64.add (max3 r g b) (min3 r g b)) 4611686018427387904, Float64.div (Float64.sub (max3 r g b) (min3 r g b)) (Float64.add (max3 r g b) (min3 r g b))))
  else
    (if Float64.isZero (Float64.sub (Float64.sub 4611686018427387904 (max3 r g b)) (min3 r g b)) = true then none
    else if Float64.isZero (Float64.sub (max3 r g b) (min3 r g b)) = true then none
    else some (hueF r g b (max3 r g b) (Float64.sub (max3 r g b) (min3 r g b)), Float64.div (Float64.add (max3 r g b) (min3 r g b)) 4611686018427387904, Float64.div (Float64.sub (max3 r g b) (min3 r g b)) (Float64.sub (Float64.sub 4611686018427387904 (max3 r g b)) (min3 r g b))))
/-- hsv_to_rgb: p, q, t of a share, a value and what is left of the hue -/
noncomputable def hsvP (s v : UInt64) : UInt64 := Float64.mul v (Float64.sub 4607182418800017408 s)
noncomputable def hsvQ (s v f : UInt64) : UInt64 := Float64.mul v (Float64.sub 4607182418800017408 (Float64.mul s f))
noncomputable def hsvT (s v f : UInt64) : UInt64 := Float64.mul v (Float64.sub 4607182418800017408 (Float64.mul s (Float64.sub 4607182418800017408 f)))
noncomputable def hsvI (h : UInt64) : Int := Flt.toInt Float64.truncOf (Float64.mul h 4618441417868443648)
noncomputable def hsvR (h : UInt64) : UInt64 := Float64.sub (Float64.mul h 4618441417868443648) (Float64.ofInt (hsvI h))
/-- what hsv_to_rgb gives back -/
noncomputable def hsvF (h s v : UInt64) : Option (UInt64 × UInt64 × UInt64) :=
  if (Float64.cmp s 0 == some Ordering.eq) = true then some (v, v, v)
  else if Float64.isFinite (Float64.mul h 4618441417868443648) = false then none
  else if 2 ^ 1024 - 2 ^ 970 ≤ (hsvI h).natAbs then none
  else if (hsvI h).fmod 6 = 0 then some (v, hsvT s v (hsvR h), hsvP s v)
  else if (hsvI h).fmod 6 = 1 then some (hsvQ s v (hsvR h), v, hsvP s v)
  else if (hsvI h).fmod 6 = 2 then some (hsvP s v, v, hsvT s v (hsvR h))
  else if (hsvI h).fmod 6 = 3 then some (hsvP s v, hsvQ s v (hsvR h), v)
  else if (hsvI h).fmod 6 = 4 then some (hsvT s v (hsvR h), hsvP s v, v)
  else if (hsvI h).fmod 6 = 5 then some (v, hsvP s v, hsvQ s v (hsvR h))
  else none
theorem nan_not {x : UInt64} (h : Float64.isNaN x = true) : Float64.isFinite x = false := by
  unfold Float64.isNaN at h; unfold Float64.isFinite; split at h <;> simp_all
theorem inf_not {x : UInt64} (h : Float64.isInf x = true) : Float64.isFinite x = false := by
  unfold Float64.isInf at h; unfold Float64.isFinite; split at h <;> simp_all
end
section
section
variable {prog : Program} {w : World} {A : Around} {E : Value → Shared → Prop} {s : Shared} {h₀ : Heap} {env : Env} {Q : Flow → Shared → Prop}
/-- what a For over a range wants, each turn told that no token lies below the loop's first -/
inductive ForCell (prog : Program) (w : World) (A : Around) (E : Value → Shared → Prop) (h₀ : Heap) (env : Env) (x : PySem.Str) (body : List Stmt) (Q : Flow → Shared → Prop) : Value → Shared → Prop
  | of {s₁ : Shared} {r : Addr} {b : Int} {t u v : Tok} {n : Nat} {m₀ : PySem.Str → Option Value} {news : Led} (J : Nat → (PySem.Str → Option Value) → Led → Prop)
    (hh : A.handled = none) (hr : IsRange s₁.heap r 0 b 1 t u v) (hsm : Builtin.Range.small 0 b 1 = true) (hn : Builtin.Range.rangeSize 0 b 1 = (n : Int))
    (F : Fr h₀ env.locals s₁.heap m₀) (N : News h₀ env.locals s₁.heap news) (h0 : J 0 m₀ news)
    (turn : ∀ i m₁ nx I it h tk t, i < n → (∀ p ∈ nx, p.1 ≠ I) → J i m₁ nx → it.cls = .type "range_iterator" → s₁.toks ≤ tk → Fr h₀ env.locals h m₁ → News h₀ env.locals h ((I, it) :: nx) →
      wpAny (model prog w) A (storeName env x (.int (0 + (i : Int)) t)) (fun _ s₂ => wpAny (model prog w) A (execs body env) (UnrPost h₀ env.locals { s₁ with heap := h, toks := tk } I it (J (i + 1)) Q) E s₂) E { s₁ with heap := h, toks := tk })
    (done : ∀ m₁ nx h tk, J n m₁ nx → s₁.toks ≤ tk → Fr h₀ env.locals h m₁ → News h₀ env.locals h nx → Q .next { s₁ with heap := h, toks := tk }) :
    ForCell prog w A E h₀ env x body Q (.ref r) s₁
/-- the loop of a For over a range stands at its turn i -/
inductive FCInv (h₀ : Heap) (L : Addr) (s₁ : Shared) (n : Nat) (J : Nat → (PySem.Str → Option Value) → Led → Prop) : Nat → Shared → Prop
  | mk (h' : Heap) (tk i : Nat) (m' : PySem.Str → Option Value) (nx : Led) : s₁.toks ≤ tk → i ≤ n → IsRangeIter h' s₁.heap.objs.size (0 + (i : Int)) ((n : Int) - (i : Int)) 1 → Fr h₀ L h' m' → News h₀ L h' nx → (∀ p ∈ nx, p.1 ≠ s₁.heap.objs.size) → J i m' nx →
    FCInv h₀ L s₁ n J (n + 1 - i) { s₁ with heap := h', toks := tk }
theorem for_cell {m : PySem.Str → Option Value} {x : PySem.Str} {px pos : Pos} {iter : Expr} {body : List Stmt} (_F : Fr h₀ env.locals s.heap m)
    (h : wpAny (model prog w) A (eval iter env) (ForCell prog w A E h₀ env x body Q) E s)
    (hs : ∀ x, foldedSetIterable iter env x = pure x := by intro _; rfl)
    (hE : PassesOwn (model prog w) A env E := by passes_own) :
    wpAny (model prog w) A (exec (.For (.Name x px) iter body [] pos) env) Q E s := by
  refine wpAny_For (wpAny_mono h (fun xv s₁ h₁ => ?_) fun _ _ e => e) hs
  obtain @⟨_, r, b, t, u, v, n, m₀, news, J, hh, hr, hsm, hn, F, N, h0, turn, done⟩ := h₁
  refine wpAny_pyIter_range hr hsm ?_
  rw [hn]
  generalize hHI : s₁.heap.push { cls := .type "range_iterator", data := .fields #[rawInt 0, rawInt ((n : Nat) : Int), rawInt 1] } = HI
  have hI : HI.get? s₁.heap.objs.size = some { cls := .type "range_iterator", data := .fields #[rawInt 0, rawInt ((n : Nat) : Int), rawInt 1] } := hHI ▸ Heap.get?_push_size _ rfl
  have upI : ∀ b o, s₁.heap.get? b = some o → HI.get? b = some o := fun b o e => hHI ▸ Heap.get?_push_of_some _ e
  have hLlt : env.locals < s₁.heap.objs.size := F.ns.lt
  have neLI : s₁.heap.objs.size ≠ env.locals := Nat.ne_of_gt hLlt
  have I₀ : h₀.get? s₁.heap.objs.size = none := by
    cases e : h₀.get? s₁.heap.objs.size with
    | none => rfl
    | some o' => exact absurd (Heap.lt_size (F.keep _ o' e)) (Nat.lt_irrefl _)
  have itI : IsRangeIter HI s₁.heap.objs.size (0 + ((0 : Nat) : Int)) ((n : Int) - ((0 : Nat) : Int)) 1 := by
    show HI.get? _ = _
    rw [hI]; simp
  refine codeAny_forLoop
    (FCInv h₀ env.locals s₁ n J) ?_ (n + 1)
    (.mk HI s₁.toks 0 m₀ news (Nat.le_refl _) (Nat.zero_le _) itI (F.keeps upI) (N.grown upI) (fun p hp => Nat.ne_of_lt (Heap.lt_size (N p hp).1)) h0)
  rintro _ _ ⟨h', tk, i, m', nx, htk, hi, hit, F', N', off, hJ⟩
  by_cases hlt : i < n
  · refine wpAny_pyNext_range_item hit (by omega) fun h₂ hit₂ hs₂ => ?_
    have F₂ := F'.change hs₂ neLI I₀
    obtain ⟨ito, hito, hit₃⟩ : ∃ o, o = ({ cls := .type "range_iterator", data := .fields #[rawInt (0 + (i : Int) + 1), rawInt ((n : Int) - (i : Int) - 1), rawInt 1] } : Obj) ∧ h₂.get? s₁.heap.objs.size = some o := ⟨_, rfl, hit₂⟩
    have N₂ : News h₀ env.locals h₂ ((s₁.heap.objs.size, ito) :: nx) := fun p hp => by
      rcases List.mem_cons.mp hp with rfl | hp
      · exact ⟨hit₃, neLI, I₀⟩
      · have z := N' p hp
        exact ⟨hs₂.extBut _ _ (off p hp) z.1, z.2⟩
    refine wpAny_assign_Name ?_
    refine wpAny_toks ?_
    refine wpAny_mono (wpAny_passesOwn hE (turn i m' nx s₁.heap.objs.size ito h₂ (tk + 1) tk hlt off hJ (by rw [hito]) (by omega) F₂ N₂)) (fun _ s₃ h₃ hle3 => ?_) fun _ _ e _ => e
    refine wpAny_toks ?_
    refine wpAny_mono (wpAny_passesOwn hE h₃) (fun fl s₄ h₄ hle4 => ?_) fun _ _ e _ => e
    have hle : tk + 1 ≤ s₄.toks := Nat.le_trans hle3 hle4
    have go : UnrEnd h₀ env.locals { s₁ with heap := h₂, toks := tk + 1 } s₁.heap.objs.size ito (J (i + 1)) s₄ → ∃ m, m < n + 1 - i ∧ FCInv h₀ env.locals s₁ n J m s₄ := by
      rintro ⟨h₅, tk₅, m₅, nx₅, rfl, F₅, N₅, off₅, hJ₅⟩
      have hle' : tk + 1 ≤ tk₅ := hle
      refine ⟨n + 1 - (i + 1), by omega, .mk h₅ tk₅ (i + 1) m₅ nx₅ (by omega) hlt ?_ F₅ (fun p hp => N₅ p (.tail _ hp)) off₅ hJ₅⟩
      have z := (N₅ _ (.head _)).1
      show h₅.get? _ = _
      rw [z, hito, show (0 : Int) + ((i + 1 : Nat) : Int) = 0 + (i : Int) + 1 by push_cast; omega, show (n : Int) - ((i + 1 : Nat) : Int) = (n : Int) - (i : Int) - 1 by push_cast; omega]
    cases fl with
    | ret v => exact h₄
    | brk => exact h₄
    | next => exact go h₄
    | cont => exact go h₄
  · obtain rfl : i = n := Nat.le_antisymm hi (Nat.not_lt.mp hlt)
    refine wpAny_pyNext_range_end hh hit (by omega) fun h₂ hk₂ => ?_
    have hk₂' : ∀ b o, b ≠ s₁.heap.objs.size → h'.get? b = some o → h₂.get? b = some o := hk₂
    rw [execs_nil]
    refine wpAny_pure ?_
    exact done m' nx h₂ tk hJ htk (LCg.fr_but F' (fun b o hb e => hk₂' b o (by simpa using hb) e) (Ne.symm neLI) I₀) (fun p hp => ⟨hk₂' _ _ (off p hp) (N' p hp).1, (N' p hp).2⟩)
end
end
section
section
variable {prog : Program} {w : World} {A : Around} {E : Value → Shared → Prop} {s : Shared} {h₀ : Heap} {env : Env} {Q : Flow → Shared → Prop}
/-- what a For over a range wants, each turn told that no token lies below the loop's first -/
inductive ForTok (prog : Program) (w : World) (A : Around) (E : Value → Shared → Prop) (h₀ : Heap) (env : Env) (x : PySem.Str) (body : List Stmt) (Q : Flow → Shared → Prop) : Value → Shared → Prop
  | of {s₁ : Shared} {r : Addr} {b : Int} {t u v : Tok} {n : Nat} {m₀ : PySem.Str → Option Value} {news : Led} (J : Nat → (PySem.Str → Option Value) → Led → Prop)
    (hh : A.handled = none) (hr : IsRange s₁.heap r 0 b 1 t u v) (hsm : Builtin.Range.small 0 b 1 = true) (hn : Builtin.Range.rangeSize 0 b 1 = (n : Int))
    (F : Fr h₀ env.locals s₁.heap m₀) (N : News h₀ env.locals s₁.heap news) (h0 : J 0 m₀ news)
    (turn : ∀ i m₁ nx I it h tk t, i < n → (∀ p ∈ nx, p.1 ≠ I) → J i m₁ nx → it.cls = .type "range_iterator" → s₁.toks ≤ tk → Fr h₀ env.locals h (fun y => if y = x then some (.int (0 + (i : Int)) t) else m₁ y) → News h₀ env.locals h ((I, it) :: nx) →
      wpAny (model prog w) A (execs body env) (UnrPost h₀ env.locals { s₁ with heap := h, toks := tk } I it (J (i + 1)) Q) E { s₁ with heap := h, toks := tk })
    (done : ∀ m₁ nx h tk, J n m₁ nx → s₁.toks ≤ tk → Fr h₀ env.locals h m₁ → News h₀ env.locals h nx → Q .next { s₁ with heap := h, toks := tk }) :
    ForTok prog w A E h₀ env x body Q (.ref r) s₁
theorem for_tok {m : PySem.Str → Option Value} {x : PySem.Str} {px pos : Pos} {iter : Expr} {body : List Stmt} (_F : Fr h₀ env.locals s.heap m) (hx : env.kindOf x = some .local)
    (hp : (env.scope.kind == .class || (env.scope.kind == .module && env.locals != env.globals)) = false)
    (h : wpAny (model prog w) A (eval iter env) (ForTok prog w A E h₀ env x body Q) E s)
    (hs : ∀ x, foldedSetIterable iter env x = pure x := by intro _; rfl)
    (hE : PassesOwn (model prog w) A env E := by passes_own) :
    wpAny (model prog w) A (exec (.For (.Name x px) iter body [] pos) env) Q E s := by
  refine for_cell _F (wpAny_mono h (fun xv s₁ h₁ => ?_) fun _ _ e => e) hs hE
  obtain @⟨_, r, b, t, u, v, n, m₀, news, J, hh, hr, hsm, hn, F, N, h0, turn, done⟩ := h₁
  refine .of J hh hr hsm hn F N h0 (fun i m₁ nx I it h tk tv hi off hJ hc htk F₁ N₁ => ?_) done
  refine wpAny_storeName_local hx F₁.ns (fun h₃ hn₃ hs₃ => ?_) hp
  exact turn i m₁ nx I it h₃ _ tv hi off hJ hc (Nat.le_succ_of_le htk)
    ⟨hn₃, fun b o e => hs₃.extBut b o (fun q => by rw [q, Heap.get?_none_of_le F.above] at e; cases e) (F₁.keep b o e), F₁.above⟩
    fun p hp => ⟨hs₃.extBut _ _ (N₁ p hp).2.1 (N₁ p hp).1, (N₁ p hp).2⟩
end
end
section
section
variable {prog : Program} {w : World} {A : Around} {E : Value → Shared → Prop} {s : Shared} {Q : Value → Shared → Prop}
end
inductive KStopF : Prop | mk
theorem gen_toksF {M : Model} {A : Around} {α : Type} {t : Sem α} {Q : α → Shared → Prop} {E : Value → Shared → Prop} {s : Shared} (H : ∀ tk', s.toks ≤ tk' → wpAny M A t Q E { s with toks := tk' }) : wpAny M A t Q E s := H s.toks (Nat.le_refl _)
end
section
section
variable {prog : Program} {w : World} {A : Around} {E : Value → Shared → Prop} {s : Shared} {h₀ : Heap} {env : Env} {Q : Flow → Shared → Prop}
/-- what a For over a list wants, each turn told that no token lies below the loop's first -/
inductive ForTokL (prog : Program) (w : World) (A : Around) (E : Value → Shared → Prop) (h₀ : Heap) (env : Env) (x : PySem.Str) (body : List Stmt) (Q : Flow → Shared → Prop) : Value → Shared → Prop
  | of {s₁ : Shared} {ax : Addr} {lo : Obj} {vs : List Value} {nl : Nat} {m₀ : PySem.Str → Option Value} {news : Led} (J : Nat → (PySem.Str → Option Value) → Led → Prop) (hh : A.handled = none) (hc : lo.cls = .type "list") (hd : lo.data = .seq vs.toArray nl)
    (F : Fr h₀ env.locals s₁.heap m₀) (N : News h₀ env.locals s₁.heap news) (hm : (ax, lo) ∈ news) (h0 : J 0 m₀ news)
    (turn : ∀ i v m₁ nx I it h tk, vs[i]? = some v → (∀ p ∈ nx, p.1 ≠ I) → (ax, lo) ∈ nx → J i m₁ nx → it.cls = .type "list_iterator" → s₁.toks ≤ tk → Fr h₀ env.locals h (fun y => if y = x then some v else m₁ y) → News h₀ env.locals h ((I, it) :: nx) →
      wpAny (model prog w) A (execs body env) (UnrPost h₀ env.locals { s₁ with heap := h, toks := tk } I it (fun m' n' => (ax, lo) ∈ n' ∧ J (i + 1) m' n') Q) E { s₁ with heap := h, toks := tk })
    (done : ∀ m₁ nx h tk, J vs.length m₁ nx → s₁.toks ≤ tk → Fr h₀ env.locals h m₁ → News h₀ env.locals h nx → Q .next { s₁ with heap := h, toks := tk }) : ForTokL prog w A E h₀ env x body Q (.ref ax) s₁
/-- the loop of a For over a list stands at its turn i -/
inductive FLInv (h₀ : Heap) (L : Addr) (s₁ : Shared) (ax : Addr) (lo : Obj) (n : Nat) (J : Nat → (PySem.Str → Option Value) → Led → Prop) : Nat → Shared → Prop
  | mk (h' : Heap) (tk i : Nat) (m' : PySem.Str → Option Value) (nx : Led) : s₁.toks ≤ tk → i ≤ n → h'.IsListIter s₁.heap.objs.size ax i → Fr h₀ L h' m' → News h₀ L h' nx → (∀ p ∈ nx, p.1 ≠ s₁.heap.objs.size) → (ax, lo) ∈ nx → J i m' nx →
    FLInv h₀ L s₁ ax lo n J (n + 1 - i) { s₁ with heap := h', toks := tk }
theorem for_tokL {m : PySem.Str → Option Value} {x : PySem.Str} {px pos : Pos} {iter : Expr} {body : List Stmt} (_F : Fr h₀ env.locals s.heap m) (hx : env.kindOf x = some .local)
    (hp : (env.scope.kind == .class || (env.scope.kind == .module && env.locals != env.globals)) = false)
    (h : wpAny (model prog w) A (eval iter env) (ForTokL prog w A E h₀ env x body Q) E s)
    (hs : ∀ x, foldedSetIterable iter env x = pure x := by intro _; rfl)
    (hE : PassesOwn (model prog w) A env E := by passes_own) :
    wpAny (model prog w) A (exec (.For (.Name x px) iter body [] pos) env) Q E s := by
  refine wpAny_For (wpAny_mono h (fun xv s₁ h₁ => ?_) fun _ _ e => e) hs
  obtain @⟨_, ax, lo, vs, nl, m₀, news, J, hh, hlc, hld, F, N, hmem, h0, turn, done⟩ := h₁
  have hl : s₁.heap.IsList ax vs.toArray := ⟨lo, (N _ hmem).1, hlc, nl, hld⟩
  refine wpAny_pyIter_list hl ?_
  generalize hHI : s₁.heap.push { cls := .type "list_iterator", data := .fields #[.ref ax, .int 0 0] } = HI
  have hI : HI.get? s₁.heap.objs.size = some { cls := .type "list_iterator", data := .fields #[.ref ax, .int 0 0] } := hHI ▸ Heap.get?_push_size _ rfl
  have upI : ∀ b o, s₁.heap.get? b = some o → HI.get? b = some o := fun b o e => hHI ▸ Heap.get?_push_of_some _ e
  have hLlt : env.locals < s₁.heap.objs.size := F.ns.lt
  have neLI : s₁.heap.objs.size ≠ env.locals := Nat.ne_of_gt hLlt
  have I₀ : h₀.get? s₁.heap.objs.size = none := by
    cases e : h₀.get? s₁.heap.objs.size with
    | none => rfl
    | some o' => exact absurd (Heap.lt_size (F.keep _ o' e)) (Nat.lt_irrefl _)
  have itI : HI.IsListIter s₁.heap.objs.size ax 0 := ⟨_, hI, rfl, rfl⟩
  refine codeAny_forLoop
    (FLInv h₀ env.locals s₁ ax lo vs.length J) ?_ (vs.length + 1)
    (.mk HI s₁.toks 0 m₀ news (Nat.le_refl _) (Nat.zero_le _) itI (F.keeps upI) (N.grown upI) (fun p hp => Nat.ne_of_lt (Heap.lt_size (N p hp).1)) hmem h0)
  rintro _ _ ⟨h', tk, i, m', nx, htk, hi, hit, F', N', off, hmem', hJ⟩
  have hl' : h'.IsList ax vs.toArray := ⟨lo, (N' _ hmem').1, hlc, nl, hld⟩
  by_cases hlt : i < vs.length
  · have hv : vs[i]? = some vs[i] := List.getElem?_eq_getElem hlt
    refine wpAny_pyNext_list_item hit hl' (by rw [List.getElem?_toArray]; exact hv) fun h₂ hit₂ hs₂ => ?_
    have F₂ := F'.change hs₂ neLI I₀
    refine wpAny_assign_Name (wpAny_storeName_local hx F₂.ns (fun h₃ hn₃ hs₃ => ?_) hp)
    obtain ⟨ito, hito₂, hitc, hitd⟩ := hit₂
    have hit₃ : h₃.get? s₁.heap.objs.size = some ito := hs₃.extBut _ _ neLI hito₂
    have F₃ : Fr h₀ env.locals h₃ (fun y => if y = x then some vs[i] else m' y) := ⟨hn₃, fun b o e => hs₃.extBut b o (fun q => by rw [q, Heap.get?_none_of_le F.above] at e; cases e) (F₂.keep b o e), F'.above⟩
    have N₃ : News h₀ env.locals h₃ ((s₁.heap.objs.size, ito) :: nx) := fun p hp => by
      rcases List.mem_cons.mp hp with rfl | hp
      · exact ⟨hit₃, neLI, I₀⟩
      · have z := N' p hp
        exact ⟨hs₃.extBut _ _ z.2.1 (hs₂.extBut _ _ (off p hp) z.1), z.2⟩
    refine wpAny_toks ?_
    refine wpAny_mono (wpAny_passesOwn hE (turn i vs[i] m' nx s₁.heap.objs.size ito h₃ (tk + 1) hv off hmem' hJ hitc (by omega) F₃ N₃)) (fun fl s₄ h₄ hle => ?_) fun _ _ e _ => e
    have go : UnrEnd h₀ env.locals { s₁ with heap := h₃, toks := tk + 1 } s₁.heap.objs.size ito (fun m' n' => (ax, lo) ∈ n' ∧ J (i + 1) m' n') s₄ → ∃ m, m < vs.length + 1 - i ∧ FLInv h₀ env.locals s₁ ax lo vs.length J m s₄ := by
      rintro ⟨h₅, tk₅, m₅, nx₅, rfl, F₅, N₅, off₅, hm₅, hJ₅⟩
      have hle' : tk + 1 ≤ tk₅ := hle
      exact ⟨vs.length + 1 - (i + 1), by omega, .mk h₅ tk₅ (i + 1) m₅ nx₅ (by omega) hlt ⟨ito, (N₅ _ (.head _)).1, hitc, hitd⟩ F₅ (fun p hp => N₅ p (.tail _ hp)) off₅ hm₅ hJ₅⟩
    cases fl with
    | ret v => exact h₄
    | brk => exact h₄
    | next => exact go h₄
    | cont => exact go h₄
  · obtain rfl : i = vs.length := Nat.le_antisymm hi (Nat.not_lt.mp hlt)
    refine wpAny_pyNext_list_end hh hit hl' (by rw [List.getElem?_toArray]; exact List.getElem?_eq_none (Nat.le_refl _)) fun h₂ hk₂ => ?_
    have hk₂' : ∀ b o, b ≠ s₁.heap.objs.size → h'.get? b = some o → h₂.get? b = some o := hk₂
    rw [execs_nil]
    refine wpAny_pure ?_
    exact done m' nx h₂ tk hJ htk (LCg.fr_but F' (fun b o hb e => hk₂' b o (by simpa using hb) e) (Ne.symm neLI) I₀) (fun p hp => ⟨hk₂' _ _ (off p hp) (N' p hp).1, (N' p hp).2⟩)
end
end
section
set_option maxRecDepth 100000 in
set_option maxHeartbeats 8000000 in
theorem quoteC (w mean mg mb) (data mid out : PySem.Str) (t : Tok) (hs1 : data.cps.size ≤ 4000) (hs2 : mid.cps.size ≤ 4000)
    (e2 : subT' code2 crlfT data = some mid) (e1 : subT' code1 dots2 mid = some out) :
    ConB w mean mg mb 153 4 60 [.str data t] (fun _ => True) (RetV fun t => .str out t) := by
  unfold ConB
  k_fill
  intro news dp un gd cn cs a ccd cl outer A₀ base h₀ L m s Q E B F X N T hk hd hu hp hr
  refine wpAny_call ?_
  k_dflt (walk_at "SW enter")
  intro g L1 h1' hg FG F1 N1 B1 X1 T1
  (try dsimp only)
  k_fold
  walk_at "SW go"
  have Xg := X1
  refine getMethod_builtin ⟨_, (Xg.keeps F1.keep) 141 _ rfl, rfl⟩ pa_re slot_resub type_resub (fun a e => by cases e; exact ⟨_, (Xg.keeps F1.keep) 141 _ rfl, rfl⟩) ?_
  walk_at "SW go"
  refine getMethod_builtin ⟨_, (Xg.keeps F1.keep) 146 _ rfl, rfl⟩ pa_re slot_resub type_resub (fun a e => by cases e; exact ⟨_, (Xg.keeps F1.keep) 146 _ rfl, rfl⟩) ?_
  walk_at "SW go"
  have hc2 : PySem.Str.ofString "\r\n" = crlfT := by decide +kernel
  have hd2 : PySem.Str.ofString ".." = dots2 := by decide +kernel
  refine sub_call hs1 (by rw [hc2]; decide +kernel) ((Xg.keeps F1.keep) 146 _ rfl) ((Xg.keeps F1.keep) 145 _ rfl) (code := code2) (by decide +kernel) (out := mid) (by rw [hc2]; exact e2) ?_
  intro h2 tk2 t2 hk2
  have F2 := F1.keptAll hk2
  clear F1 N1
  have N1 : News g L1 h2 [] := News.nil
  walk_at "SW go"
  refine sub_call hs2 (by rw [hd2]; decide +kernel) ((Xg.keeps F2.keep) 141 _ rfl) ((Xg.keeps F2.keep) 140 _ rfl) (code := code1) (by decide +kernel) (out := out) (by rw [hd2]; exact e1) ?_
  intro h3 tk3 t3 hk3
  have F3 := F2.keptAll hk3
  clear F2 N1
  have N1 : News g L1 h3 [] := News.nil
  walk_at "SW go"
  rename Fr h₀ L _ _ => kF
  exact RetV.back (R := fun t => .str out t) hr N hg F3 kF
end
section
theorem none_booked_of {P : Params} {h : Heap} (X : (hd.heap_39 P).In h) : NoneBooked h := by
  have e := X 2 _ rfl
  refine ⟨h.nsMap cStatics, Heap.Ns.of_isNs ?_, ?_⟩
  · unfold Heap.isNs
    rw [show h.get? cStatics = _ from e]
    kernel_rfl
  · unfold Heap.nsMap
    rw [show h.get? cStatics = _ from e]
    kernel_rfl
section
variable {prog : Program} {w : World} {A : Around} {E : Value → Shared → Prop} {s : Shared}
theorem isSame_float {x y : UInt64} {u v : Nat} {Q : Bool → Shared → Prop} (hu : 1 ≤ u) (hv : 1 ≤ v) (hb : NoneBooked s.heap) (hq : ∀ b, Q b s) : wpAny (model prog w) A (isSame (.float x u) (.float y v)) Q E s := by
  have h0 : ¬ ((u == 0 || v == 0) = true) := by
    have h1 : u ≠ 0 := by omega
    have h2 : v ≠ 0 := by omega
    simp [h1, h2]
  show wpAny _ A (isSame.created (x == y && !Float64.isNaN x) u v) Q E s
  unfold isSame.created
  refine wpAny_ite ?_
  rw [if_neg h0]
  refine wpAny_ite ?_
  split
  · exact wpAny_pure (hq _)
  refine wpAny_ite ?_
  split
  · exact wpAny_pure (hq _)
  refine wpAny_bind (wpAny_sharingNotTold_none hb ?_)
  first | rw [if_neg Bool.false_ne_true] | simp only [Bool.false_eq_true, if_false]
  refine wpAny_bind (wpAny_sharingNotTold_none hb ?_)
  first | rw [if_neg Bool.false_ne_true] | simp only [Bool.false_eq_true, if_false]
  exact wpAny_bind (wpAny_rule (wpAny_bind (wpAny_askSetting (wpAny_pure (hq _)))))
theorem eqAt_float {x y : UInt64} {t u : Nat} (ht : 1 ≤ t) (hu : 1 ≤ u) (hb : NoneBooked s.heap) (he : (Float64.cmp x y == some Ordering.eq) = true) : SeqAt.EqAt A s (.float x t) (.float y u) true := fun prog w E Q h => by
  unfold eqBool
  refine wpAny_holding ?_
  refine wpAny_ite_split (fun _ => wpAny_bind (wpAny_rule (wpAny_pure h))) (fun _ => ?_)
  show wpAny _ _ (isSame (.float x t) (.float y u) >>= fun b => if b = true then pure true else richCompare .Eq (.float x t) (.float y u) >>= truthOfDropped) Q E s
  refine wpAny_bind (isSame_float ht hu hb fun b => ?_)
  cases b
  · rw [if_neg Bool.false_ne_true]
    refine wpAny_bind (richCompare_gives (op := .Eq) (typeIs_float s x t) (typeIs_float s y u) F.slot_float_eq F.entry_float_eq (F.args_float_eq_2 _ _) (AutoFloatG5.float___eq___float_float_0 x t y u) (fun x => nomatch x) ?_)
    show wpAny _ _ (truthOfDropped (.bool (Float64.cmp x y == some Ordering.eq))) Q E s
    rw [he]
    exact wpAny_truthy_bool h
  · rw [if_pos rfl]
    exact wpAny_pure h
theorem ne_tup3 {a b : Addr} {x y z x' y' z' : UInt64} {t u v t' u' v' : Nat} {Q : Value → Shared → Prop} (ha : s.heap.get? a = some (tup3 x y z t u v)) (hb : s.heap.get? b = some (tup3 x' y' z' t' u' v')) (hB : NoneBooked s.heap)
    (h1 : 1 ≤ t ∧ 1 ≤ u ∧ 1 ≤ v) (h2 : 1 ≤ t' ∧ 1 ≤ u' ∧ 1 ≤ v') (hu : A.units < cLine)
    (e1 : (Float64.cmp x x' == some Ordering.eq) = true) (e2 : (Float64.cmp y y' == some Ordering.eq) = true) (e3 : (Float64.cmp z z' == some Ordering.eq) = true) (h : Q (.bool false) s) :
    wpAny (model prog w) A (compareOp .NotEq (.ref a) (.ref b)) Q E s := by
  refine (show wpAny (model prog w) A (richCompare .NotEq (.ref a) (.ref b)) Q E s from ?_)
  exact richCompare_meets_room (op := .NotEq) ⟨_, ha, rfl⟩ ⟨_, hb, rfl⟩ F.slot_tuple_ne F.entry_tuple_ne (F.args_tuple_ne_2 _ _) (SeqAt.tuple_neAt a b #[.float x t, .float y u, .float z v] #[.float x' t', .float y' u', .float z' v'] 0 0 none none #[] #[] (fun _ => true))
    ⟨ha, hb, (fun j k1 k2 => by
      have hj : j < 3 := k1
      have : j = 0 ∨ j = 1 ∨ j = 2 := by omega
      rcases this with rfl | rfl | rfl
      · exact eqAt_float h1.1 h2.1 hB e1
      · exact eqAt_float h1.2.1 h2.2.1 hB e2
      · exact eqAt_float h1.2.2 h2.2.2 hB e3), show Value.bool _ ≠ Value.notImplemented ∧ Q (.bool false) s from ⟨(fun x => nomatch x), h⟩⟩ hu
end
end
section
local macro_rules | `(tactic| walk_at "exec For Name Name cons nil") => `(tactic| ((rename Fr _ _ _ _ => lF'); (with_unfolding_all refine' For_invVF lF' ?k1 ?k2 ?_; (case k1 => exact rfl); (case k2 => exact rfl); k_whole)))
section
open LCg
variable {prog : Program} {w : World} {A : Around} {E : Value → Shared → Prop} {s : Shared} {h₀ : Heap} {L : Addr} {m : PySem.Str → Option Value} {env : Env}
/-- a value that the run has made: an int whose token is below -/
noncomputable def TokI (k : Int) (tk : Nat) (y : Value) : Prop := ∃ t : Nat, y = .int k t ∧ 1 ≤ t ∧ t < tk
noncomputable def TokIs (f : Nat → Int) (ys : List Value) (tk : Nat) : Prop := ∀ i y, ys[i]? = some y → TokI (f i) tk y
theorem TokIs.le {f : Nat → Int} {ys : List Value} {a b : Nat} (h : TokIs f ys a) (hab : a ≤ b) : TokIs f ys b := fun i y e => by
  obtain ⟨t, h1, h2, h3⟩ := h i y e
  exact ⟨t, h1, h2, Nat.lt_of_lt_of_le h3 hab⟩
theorem TokIs.snoc {f : Nat → Int} {ys : List Value} {a i : Nat} {y : Value} (h : TokIs f ys a) (hl : ys.length = i) (hy : TokI (f i) a y) : TokIs f (ys ++ [y]) a := fun j z e => by
  rcases Nat.lt_trichotomy j ys.length with hj | hj | hj
  · rw [List.getElem?_append_left hj] at e; exact h j z e
  · subst hj
    rw [List.getElem?_append_right (Nat.le_refl _), Nat.sub_self] at e
    cases e
    rw [hl]; exact hy
  · rw [List.getElem?_append_right (Nat.le_of_lt hj)] at e
    have : 1 ≤ j - ys.length := by omega
    obtain ⟨q, hq⟩ : ∃ q, j - ys.length = q + 1 := ⟨j - ys.length - 1, by omega⟩
    rw [hq] at e; cases e
noncomputable def TokEnd (h₀ : Heap) (L : Addr) (m : PySem.Str → Option Value) (k : Int) (s₁ : Shared) (all : Led) (y : Value) (s₂ : Shared) : Prop :=
  ∃ h' tk, s₂ = { s₁ with heap := h', toks := tk } ∧ Fr h₀ L h' m ∧ News h₀ L h' all ∧ TokI k tk y
noncomputable def TokTurn (prog : Program) (w : World) (A : Around) (h₀ : Heap) (L : Addr) (m : PySem.Str → Option Value) (env : Env) (elt : Expr) (x : PySem.Str) (scope : Scope) (cl : List (PySem.Str × Addr)) (f : Nat → Int) (a : Int) (n : Nat) (news : Led) (s : Shared) : Prop :=
  ∀ i I oI C oC D ys m₂ h tk tv (E' : Value → Shared → Prop), i < n → NsObj oC m₂ → m₂ x = some (.int (a + (i : Int)) tv) → Fr h₀ L h m → News h₀ L h ((I, oI) :: (C, oC) :: (D, lst ys) :: news) → Off3 I C D news → ((@Ne Nat I C) ∧ (@Ne Nat I D) ∧ (@Ne Nat C D)) → 2 ≤ tk →
    wpAny (model prog w) A (eval elt (compEnvC scope cl C env)) (TokEnd h₀ L m (f i) { s with heap := h, toks := tk } ((I, oI) :: (C, oC) :: (D, lst ys) :: news)) E' { s with heap := h, toks := tk }
noncomputable def TokFin (h₀ : Heap) (L : Addr) (m : PySem.Str → Option Value) (f : Nat → Int) (n : Nat) (news : Led) (Q : Value → Shared → Prop) (s : Shared) : Prop :=
  ∀ D h tk ys, ys.length = n → TokIs f ys tk → Fr h₀ L h m → News h₀ L h ((D, lst ys) :: news) → Off1 D news → 1 ≤ tk → Q (.ref D) { s with heap := h, toks := tk }
inductive TokSrc (prog : Program) (w : World) (A : Around) (h₀ : Heap) (L : Addr) (m : PySem.Str → Option Value) (env : Env) (elt : Expr) (x : PySem.Str) (scope : Scope) (cl : List (PySem.Str × Addr)) (Q : Value → Shared → Prop) : Value → Shared → Prop
  | of {s₁ : Shared} {r : Addr} {a b : Int} {t u v : Tok} {n : Nat} {news : Led} (f : Nat → Int)
    (hh : A.handled = none) (F : Fr h₀ L s₁.heap m) (N : News h₀ L s₁.heap news) (hr : IsRange s₁.heap r a b 1 t u v) (hsm : Builtin.Range.small a b 1 = true) (hn : Builtin.Range.rangeSize a b 1 = ((n : Nat) : Int)) (hn1 : 1 ≤ n) (hsz : n ≤ sizeLine)
    (turn : ∀ g, TokTurn prog w A h₀ L m env elt x scope cl f a n news { s₁ with heap := g }) (fin : ∀ g, TokFin h₀ L m f n news Q { s₁ with heap := g }) :
    TokSrc prog w A h₀ L m env elt x scope cl Q (.ref r) s₁
inductive CTInv (f : Nat → Int) (h₀ : Heap) (L : Addr) (m : PySem.Str → Option Value) (s₁ : Shared) (I C D : Addr) (a : Int) (n : Nat) (news : Led) : Nat → Shared → Prop
  | mk (h' : Heap) (tk i : Nat) (ys : List Value) (m' : PySem.Str → Option Value) : i ≤ n → ys.length = i → (1 ≤ i → 1 ≤ tk) → TokIs f ys tk → IsRangeIter h' I (a + (i : Int)) ((n : Int) - (i : Int)) 1 → Fr h₀ L h' m → h'.Ns C m' → News h₀ L h' ((D, lst ys) :: news) →
    CTInv f h₀ L m s₁ I C D a n news (n + 1 - i) { s₁ with heap := h', toks := tk }
theorem comp_tok {elt iter : Expr} {x : PySem.Str} {px : Pos} {scope : Scope} {cl : List (PySem.Str × Addr)} {pos : Pos} {Q : Value → Shared → Prop}
    (hclos : closureFor scope env = pure cl) (hcell : ∀ y ∈ scope.names, y.2 ≠ .cell) (hkind : scope.kind = .function)
    (hnames : ∀ y ∈ scope.names, y.2 = .local → scope.names.lookup y.1 = some .local) (hx : scope.names.lookup x = some .local)
    (h : wpAny (model prog w) A (eval iter env) (TokSrc prog w A h₀ L m env elt x scope cl Q) E s)
    (hs : ∀ x, foldedSetIterable iter env x = pure x := by intro _; rfl) :
    wpAny (model prog w) A (eval (.ListComp elt [⟨.Name x px, iter, [], 0⟩] scope pos) env) Q E s := by
  rw [eval_ListComp]
  refine wpAny_comprehension_free (use := none) rfl hs hclos hkind hnames (wpAny_mono h (fun xv s₁ h₁ => ?_) fun _ _ e => e)
  obtain @⟨_, r, a, b, t, u, v, n, news, f, hh, F, N, hr, hsm, hn, hn1, hsz, turn, fin⟩ := h₁
  refine wpAny_pyIter_range hr hsm ?_
  rw [hn]
  generalize hHI : s₁.heap.push { cls := .type "range_iterator", data := .fields #[rawInt a, rawInt ((n : Nat) : Int), rawInt 1] } = HI
  have hI : HI.get? s₁.heap.objs.size = some { cls := .type "range_iterator", data := .fields #[rawInt a, rawInt ((n : Nat) : Int), rawInt 1] } := hHI ▸ Heap.get?_push_size _ rfl
  have upI : ∀ b o, s₁.heap.get? b = some o → HI.get? b = some o := fun b o e => hHI ▸ Heap.get?_push_of_some _ e
  have szI : HI.objs.size = s₁.heap.objs.size + 1 := by rw [← hHI, Heap.size_push]
  refine wpAny_newObj_type (wpAny_newFunctionEnv hcell (by intro y hy; simp at hy) (fun h₁ hns₁ hsb₁ => ?_) hkind)
  dsimp only at hns₁ hsb₁ ⊢
  generalize hHD : HI.push { cls := .type "list", dict := none, data := .seq ([] : List Value).toArray } = HD at hns₁ hsb₁ ⊢
  have szD : HD.objs.size = s₁.heap.objs.size + 2 := by rw [← hHD, Heap.size_push, szI]
  have eD : HI.objs.size = s₁.heap.objs.size + 1 := szI
  have upD : ∀ b o, HI.get? b = some o → HD.get? b = some o := fun b o e => hHD ▸ Heap.get?_push_of_some _ e
  have hD : HD.get? HI.objs.size = some (lst []) := hHD ▸ Heap.get?_push_size _ rfl
  have upC : ∀ b o, HD.get? b = some o → h₁.get? b = some o := fun b o e => hsb₁.extBut b o (Nat.ne_of_lt (Heap.lt_size e)) (Heap.get?_push_of_some _ e)
  have old : ∀ b o, s₁.heap.get? b = some o → h₁.get? b = some o := fun b o e => upC _ _ (upD _ _ (upI _ _ e))
  have neIC : s₁.heap.objs.size ≠ HD.objs.size := by rw [szD]; omega
  have neID : s₁.heap.objs.size ≠ HI.objs.size := by rw [szI]; omega
  have neCD : HD.objs.size ≠ HI.objs.size := by rw [szD, szI]; omega
  have none₀ : ∀ a, s₁.heap.objs.size ≤ a → h₀.get? a = none := fun a ha => by
    cases e : h₀.get? a with
    | none => rfl
    | some o' => exact absurd (Heap.lt_size (F.keep a o' e)) (Nat.not_lt.mpr ha)
  have I₀ := none₀ s₁.heap.objs.size (Nat.le_refl _)
  have D₀ := none₀ HI.objs.size (by rw [szI]; omega)
  have C₀ := none₀ HD.objs.size (by rw [szD]; omega)
  have hLlt : L < s₁.heap.objs.size := F.ns.lt
  have neLI : s₁.heap.objs.size ≠ L := Nat.ne_of_gt hLlt
  have neLD : HI.objs.size ≠ L := by rw [szI]; exact Nat.ne_of_gt (Nat.lt_succ_of_lt hLlt)
  have neLC : HD.objs.size ≠ L := by rw [szD]; exact Nat.ne_of_gt (Nat.lt_succ_of_lt (Nat.lt_succ_of_lt hLlt))
  have off : Off3 s₁.heap.objs.size HD.objs.size HI.objs.size news := Off3.of fun p hp => by
    have h1 : p.1 < s₁.heap.objs.size := Heap.lt_size (N p hp).1
    exact ⟨Nat.ne_of_lt h1, by rw [szD]; exact Nat.ne_of_lt (Nat.lt_succ_of_lt (Nat.lt_succ_of_lt h1)), by rw [szI]; exact Nat.ne_of_lt (Nat.lt_succ_of_lt h1)⟩
  have offm := off.mem
  have itI : IsRangeIter h₁ s₁.heap.objs.size (a + ((0 : Nat) : Int)) ((n : Int) - ((0 : Nat) : Int)) 1 := by
    have := upC _ _ (upD _ _ hI)
    show h₁.get? _ = _
    rw [this]; simp
  have loop : ∀ s₃ : Shared, s₃ = { s₁ with heap := h₁, toks := s₁.toks + ([] : List (PySem.Str × Value)).length } →
      codeAny (model prog w) A (.compLoop (.ListComp elt [⟨.Name x px, iter, [], 0⟩] scope pos) 0 (.ref s₁.heap.objs.size) (.ref HI.objs.size) (compEnvC scope cl HD.objs.size env))
        (compPost (model prog w) A E none Q (.ref HI.objs.size) HD.objs.size) s₃ := by
    rintro s₃ rfl
    refine codeAny_compLoop_tests
      (CTInv f h₀ L m s₁ s₁.heap.objs.size HD.objs.size HI.objs.size a n news) ?_ (n + 1)
      (.mk h₁ _ 0 [] _ (Nat.zero_le _) rfl (fun h => absurd h (by decide)) (fun i y e => (nomatch e)) itI (F.keeps old) hns₁ (fun p hp => ?_))
    · rintro _ _ ⟨h', tk, i, ys, m', hi, hyl, htk, hys, hit, F', hn', N'⟩
      by_cases hlt : i < n
      · refine wpAny_pyNext_range_item hit (by omega) fun h₂ hit₂ hs₂ => ?_
        refine wpAny_assign_Name (wpAny_storeName_local (lookup_relabel_local hx) (hn'.at' fun o e => hs₂.extBut _ o (Ne.symm neIC) e) (fun h₃ hn₃ hs₃ => ?_) (by simp [compEnvC, relabel, hkind]))
        refine wpAny_tests_nil ?_
        simp only [if_true]
        change Heap.SameBut HD.objs.size h₂ h₃ at hs₃
        change h₃.Ns HD.objs.size _ at hn₃
        obtain ⟨oC, heC, hoC⟩ := ns_obj hn₃
        have hit₃ : h₃.get? s₁.heap.objs.size = some _ := hs₃.extBut _ _ neIC hit₂
        have F₃ : Fr h₀ L h₃ m := (F'.change hs₂ neLI I₀).change hs₃ neLC C₀
        have kp : ∀ b o, b ≠ s₁.heap.objs.size → b ≠ HD.objs.size → h'.get? b = some o → h₃.get? b = some o := fun b o h1 h2 e => hs₃.extBut b o h2 (hs₂.extBut b o h1 e)
        have N₃ : News h₀ L h₃ ((s₁.heap.objs.size, _) :: (HD.objs.size, oC) :: (HI.objs.size, lst ys) :: news) := fun p hp => by
          rcases List.mem_cons.mp hp with rfl | hp
          · exact ⟨hit₃, neLI, I₀⟩
          · rcases List.mem_cons.mp hp with rfl | hp
            · exact ⟨heC, neLC, C₀⟩
            · have z := N' p hp
              refine ⟨kp _ _ ?_ ?_ z.1, z.2⟩
              · rcases List.mem_cons.mp hp with rfl | hp
                · exact Ne.symm neID
                · exact (offm p hp).1
              · rcases List.mem_cons.mp hp with rfl | hp
                · exact Ne.symm neCD
                · exact (offm p hp).2.1
        refine wpAny_toks ?_
        refine wpAny_mono (turn HI i s₁.heap.objs.size _ HD.objs.size oC HI.objs.size ys _ h₃ (tk + 1 + 1) tk _ hlt hoC (by simp) F₃ N₃ off ⟨neIC, neID, neCD⟩ (by omega)) (fun y s₄ h₄ => ?_) fun _ _ e => e
        obtain ⟨h₄, tk₄, rfl, F₄, N₄, hy⟩ := h₄
        intro hle
        have zI := (N₄ (s₁.heap.objs.size, _) List.mem_cons_self).1
        have zC := (N₄ (HD.objs.size, oC) (List.mem_cons_of_mem _ List.mem_cons_self)).1
        have zD := (N₄ (HI.objs.size, lst ys) (List.mem_cons_of_mem _ (List.mem_cons_of_mem _ List.mem_cons_self))).1
        refine append_at (hsz := by show ys.toArray.size ≤ sizeLine; rw [List.size_toArray, hyl]; exact Nat.le_trans hi hsz) zD fun h₅ hs₅ hD₅ => ?_
        have hle' : tk ≤ tk₄ := by
          have : tk + 1 + 1 ≤ tk₄ := hle
          omega
        refine ⟨n + 1 - (i + 1), by omega, .mk h₅ tk₄ (i + 1) (ys ++ [y]) _ hlt (by rw [List.length_append, List.length_singleton, hyl]) (fun _ => ?_) ((hys.le hle').snoc hyl hy) ?_ (F₄.change hs₅ neLD D₀)
          ((hoC.ns zC).sameBut hs₅ neCD) (fun p hp => ?_)⟩
        · have : tk + 1 + 1 ≤ tk₄ := hle
          omega
        · have z := hs₅.extBut _ _ neID zI
          show h₅.get? _ = _
          rw [z, show a + ((i + 1 : Nat) : Int) = a + (i : Int) + 1 by push_cast; omega, show (n : Int) - ((i + 1 : Nat) : Int) = (n : Int) - (i : Int) - 1 by push_cast; omega]
        · rcases List.mem_cons.mp hp with rfl | hp
          · exact ⟨hD₅.trans (congrArg some (lst_snoc ys y)), neLD, D₀⟩
          · have z := N₄ p (List.mem_cons_of_mem _ (List.mem_cons_of_mem _ (List.mem_cons_of_mem _ hp)))
            exact ⟨hs₅.extBut _ _ (offm p hp).2.2 z.1, z.2⟩
      · obtain rfl : i = n := Nat.le_antisymm hi (Nat.not_lt.mp hlt)
        refine wpAny_pyNext_range_end hh hit (by omega) fun h₂ hk₂ => ?_
        have hk₂' : ∀ b o, b ≠ s₁.heap.objs.size → h'.get? b = some o → h₂.get? b = some o := hk₂
        have F₂ : Fr h₀ L h₂ m := fr_but F' (fun b o hb e => hk₂' b o (by simpa using hb) e) (Ne.symm neLI) I₀
        refine ⟨_, hn'.at' fun o e => hk₂' _ o (Ne.symm neIC) e, fun h'' hs'' => fin HI HI.objs.size h'' tk ys hyl hys (F₂.change hs'' neLC C₀) (fun p hp => ?_) off.one (htk hn1)⟩
        have z := N' p hp
        refine ⟨hs''.extBut _ _ ?_ (hk₂' _ _ ?_ z.1), z.2⟩
        · rcases List.mem_cons.mp hp with rfl | hp
          · exact Ne.symm neCD
          · exact (offm p hp).2.1
        · rcases List.mem_cons.mp hp with rfl | hp
          · exact Ne.symm neID
          · exact (offm p hp).1
    · rcases List.mem_cons.mp hp with rfl | hp
      · exact ⟨upC _ _ hD, neLD, D₀⟩
      · exact ⟨old _ _ (N p hp).1, (N p hp).2⟩
  exact codeAny_compStart_list (loop _ rfl) (wpAny_pyIter_rangeiter itI (loop _ rfl))
end
noncomputable def RetT (R : Tok → Value) : Retn := fun h₀ L m news s Q => ∀ (t : Nat) (h' : Heap) (tk' : Nat), s.toks ≤ t + 1 → t < tk' → Fr h₀ L h' m → News h₀ L h' news → Q (R t) { s with heap := h', toks := tk' }
noncomputable def cntStep (c n : Int) : Int := if n = 0 then c + 1 else c
noncomputable def cntJ (ns : List Int) (m0 : PySem.Str → Option Value) (i : Nat) (m : PySem.Str → Option Value) : Prop :=
  ∃ (u : PySem.Str → Option Value) (t : Tok), m = (fun z => if z = PySem.Str.ofString "count" then some (.int ((ns.take i).foldl cntStep 0) t) else if z = PySem.Str.ofString "i" then u z else m0 z)
theorem cnt_next {ns : List Int} {i : Nat} {r : Int} (h : ns[i]? = some r) (p : Int) : (ns.take (i + 1)).foldl cntStep p = cntStep ((ns.take i).foldl cntStep p) r := by
  rw [List.take_add_one, h, List.foldl_append]; rfl
section
variable {prog : Program} {w : World} {A : Around} {E : Value → Shared → Prop} {s : Shared} {env : Env} {h₀ : Heap} {x : PySem.Str} {body : List Stmt} {Q : Flow → Shared → Prop}
/-- a loop over a list that stood before the call; each turn is told which value it has -/
theorem base_loop {l : Addr} {vs : List Value} {m₀ : PySem.Str → Option Value} (J : Nat → (PySem.Str → Option Value) → Prop)
    (hh : A.handled = none) (hl : h₀.IsList l vs.toArray) (F : Fr h₀ env.locals s.heap m₀) (hj : J 0 m₀)
    (turn : ∀ i v m₁ h tk own, vs[i]? = some v → J i m₁ → Fr h₀ env.locals h (fun y => if y = x then some v else m₁ y) → News h₀ env.locals h own →
      wpAny (model prog w) A (execs body env) (InvPost h₀ env.locals (J (i + 1)) own { s with heap := h, toks := tk } Q) E { s with heap := h, toks := tk })
    (done : ∀ m₁ h tk, J vs.length m₁ → Fr h₀ env.locals h m₁ → News h₀ env.locals h [] → Q .next { s with heap := h, toks := tk }) :
    wpAny (model prog w) A (pyIter (.ref l)) (fun it s₂ => LoopAtV prog w A h₀ env x body Q E it s₂) E s := by
  have hls : s.heap.IsList l vs.toArray := hl.at fun o e => F.keep l o e
  have hlt : l < h₀.objs.size := by obtain ⟨_, e, _⟩ := id hl; exact Heap.lt_size e
  have hLl : l < env.locals := Nat.lt_of_lt_of_le hlt F.above
  have hne : l ≠ s.heap.objs.size := Nat.ne_of_lt (Nat.lt_trans hLl F.ns.lt)
  refine wpAny_pyIter_list hls ?_
  refine ⟨_, _, _, vs.toArray.size, _, _, m₀, [], fun i m₁ nx => nx = [] ∧ J i m₁, rfl, Walks.list (prog := prog) (w := w) hh s.heap.objs.size l hne vs.toArray, fun hm => ?_, fun b hb => ?_, (fun p hp => nomatch hp),
    ⟨⟨_, Heap.get?_push_size _ rfl, rfl, rfl⟩, hls.at fun o e => Heap.get?_push_of_some _ e⟩, F.push _, News.nil, ⟨rfl, hj⟩, ?_, ?_⟩
  · rcases List.mem_cons.mp hm with e | hm
    · exact Nat.lt_irrefl _ (e ▸ F.ns.lt)
    · exact Nat.lt_irrefl _ ((List.mem_singleton.mp hm) ▸ hLl)
  · rw [List.mem_singleton.mp hb]; exact next_is_new F
  · rintro i v m₁ nx s₁ own ⟨hh', tk', rfl⟩ hin hP ⟨rfl, hJ⟩ hoff _ _ _ _ F₁ N₁
    rw [List.append_nil] at N₁
    refine wpAny_mono (turn i v m₁ hh' tk' own (by simpa using hP) hJ F₁ N₁) (fun fl s₂ p => ?_) fun _ _ e => e
    have go : InvEnd h₀ env.locals (J (i + 1)) own { s with heap := hh', toks := tk' } s₂ → LoopStepU h₀ env.locals [s.heap.objs.size] own (fun m₁ nx => nx = [] ∧ J (i + 1) m₁) { s with heap := hh', toks := tk' } .next s₂ := by
      rintro ⟨h', tk, m', news', e, F', N', hsub, hJ'⟩
      exact ⟨rfl, h', tk, m', [], e, F', fun p hp => N' p (hsub p (by rw [List.append_nil] at hp; exact hp)), (fun p hp => nomatch hp), rfl, hJ'⟩
    cases fl with
    | ret v => exact .ret p
    | brk => exact .brk p
    | next => exact .next (go p)
    | cont => exact .cont (go p)
  · rintro h' tk m' nx F' N' _ ⟨_, hJ⟩
    rw [List.size_toArray] at hJ
    exact done m' h' tk hJ F' News.nil
end
set_option maxRecDepth 100000 in
set_option maxHeartbeats 8000000 in
theorem xorT (w mean mg mb news) (a b : Int) (t1 t2 : Tok)  : Con w mean mg mb 129 1 20 news [.int a t1, .int b t2] (RetT fun t => .int (Builtin.bitXor a b) t) := by
  unfold Con; k_fill
  intros
  rename_i hret
  refine wpAny_toks' fun Q' E' hQ' hE' => ?_
  refine wpAny_call ?_
  cell_enter
  k_steps
  exact hQ' _ _ fun hle => hret _ _ _ hle (Nat.lt_succ_self _) (by assumption) (by assumption)
set_option maxRecDepth 100000 in
set_option maxHeartbeats 8000000 in
theorem countC (w mean mg mb) (l : Addr) (vs : List Value) (ns : List Int) (t : Nat) (hI : IntsAre vs ns) (hT : ∀ (i : Nat) (n : Int) (u : Nat), vs[i]? = some (Value.int n u) → 1 ≤ u ∧ @LT.lt Nat _ u t) :
    ConB w mean mg mb 136 4 40 [.ref l, .int 0 t] (fun h => h.IsList l vs.toArray) (RetV fun t => .int (ns.foldl cntStep 0) t) := by
  unfold ConB; k_fill
  intro news dp un gd cn cs a ccd cl outer A₀ base h₀ L m s Q E B F X N T hk hd hu hp hr
  refine wpAny_call ?_
  k_dflt (walk_at "SW enter")
  intro g L1 h1' hg FG F1 N1 B1 X1 T1
  (try dsimp only)
  k_fold
  have hlg : g.IsList l vs.toArray := hg ▸ hp
  walk_at "SW go"
  rename Fr _ L1 _ _ => Fx
  obtain ⟨m0, hm0, F0⟩ := fr_map Fx
  clear Fx
  refine' base_loop (cntJ ns m0) rfl hlg F0 ?h0 ?turn ?done
  case h0 =>
    exact ⟨m0, _, map_ofV ((congrFun hm0 _).trans rfl) (fun _ _ _ => rfl)⟩
  case turn =>
    rintro i v m₁ h tk own hn ⟨u, tc, rfl⟩ F' N'
    change Fr _ L1 _ _ at F'
    change News _ L1 _ _ at N'
    subst hm0
    k_fold
    obtain ⟨n, tn, rfl, hni⟩ : ∃ n tn, v = .int n tn ∧ ns[i]? = some n := by
      have hlt : i < ns.length := by rw [← hI.length]; exact (List.getElem?_eq_some_iff.mp hn).1
      obtain ⟨t, hx⟩ := hI.get i ns[i] (by simp [hlt])
      rw [hn] at hx
      exact ⟨_, t, Option.some.inj hx, by simp [hlt]⟩
    obtain ⟨q1, q2⟩ := hT i n tn hn
    walk_at "SW go"
    refine is_ints (Nat.ne_of_gt q1) (Nat.ne_of_gt (Nat.lt_of_le_of_lt (Nat.zero_le _) q2)) (Nat.ne_of_lt q2) ?_
    have hst := cnt_next hni 0
    by_cases hz : n = 0
    · subst hz
      walk_at "SW go"
      rename Fr _ L1 _ _ => Fx
      rename News _ L1 _ _ => Nx
      exact InvEnd.intro Fx Nx (fun p hp => hp) ⟨_, _, map_ofV (by dsimp only; rw [hst]; rfl) (by intro z h1 h2; simp only [h1, h2, if_false])⟩
    · rw [show (n == 0) = false by simpa using hz]
      walk_at "SW go"
      have hst2 := hst.trans (if_neg hz)
      rename Fr _ L1 _ _ => Fx
      rename News _ L1 _ _ => Nx
      refine InvEnd.intro Fx Nx (fun p hp => hp) ⟨_, tc, map_ofV ?_ ?_⟩
      · rw [hst2]; rfl
      · intro z h1 h2; simp only [h1, h2, if_false]
  case done =>
    rintro m₁ h tk ⟨u, tc, rfl⟩ F' N'
    change Fr _ L1 _ _ at F'
    change News _ L1 _ _ at N'
    subst hm0
    walk_at "SW go"
    rename Fr h₀ L _ _ => kF
    have hr' : RetV (fun t => Value.int ((ns.take vs.length).foldl cntStep 0) t) h₀ L m news s Q := by rw [hI.length, List.take_length]; exact hr
    exact RetV.back hr' N hg F' kF
end
section
/-- number turned by one place; the places where a sign follows an end of the other kind -/
noncomputable def turnedF (a : Int) : Int := a / 2 + 32 * (a % 2)
noncomputable def upF (a : Int) : Int := Builtin.bitAnd (turnedF a) (Builtin.bitNot a)
theorem below64 {P : Int → Prop} (h : ∀ n : Fin 64, P (n.val : Int)) {a : Int} (h1 : 0 ≤ a) (h2 : a < 64) : P a := by
  have := h ⟨a.toNat, by omega⟩
  simpa [Int.toNat_of_nonneg h1] using this

theorem and1_is {a : Int} (h1 : 0 ≤ a) (h2 : a < 64) : Builtin.bitAnd a 1 = a % 2 :=
  below64 (P := fun a => Builtin.bitAnd a 1 = a % 2) (by decide +kernel) h1 h2
theorem rsh1_is {a : Int} (h1 : 0 ≤ a) (h2 : a < 64) : a.fdiv (2 ^ Int.toNat 1) = a / 2 :=
  below64 (P := fun a => a.fdiv (2 ^ Int.toNat 1) = a / 2) (by decide +kernel) h1 h2
theorem lsh5_is {a : Int} : a * 2 ^ Int.toNat 5 = a * 32 := rfl
theorem turned_is {a : Int} (h1 : 0 ≤ a) (h2 : a < 64) : Builtin.bitOr (a / 2) (a % 2 * 32) = turnedF a :=
  below64 (P := fun a => Builtin.bitOr (a / 2) (a % 2 * 32) = turnedF a) (by decide +kernel) h1 h2
theorem turned_bnd {a : Int} (h1 : 0 ≤ a) (h2 : a < 64) : 0 ≤ turnedF a ∧ turnedF a < 64 := by unfold turnedF; omega
theorem up_bnd {a : Int} (h1 : 0 ≤ a) (h2 : a < 64) : 0 ≤ upF a ∧ upF a < 64 :=
  below64 (P := fun a => 0 ≤ upF a ∧ upF a < 64) (by decide +kernel) h1 h2
theorem rsh1C (w mean mg mb news) (a : Int) (t1 t2 : Tok) (h1 : 0 ≤ a) (h2 : a < 64) : Con w mean mg mb 108 1 20 news [.int a t1, .int 1 t2] (RetV fun t => .int (a / 2) t) := by
  have := rshC w mean mg mb news a 1 t1 t2 (by decide)
  rwa [rsh1_is h1 h2] at this
theorem and1C (w mean mg mb news) (a : Int) (t1 t2 : Tok) (h1 : 0 ≤ a) (h2 : a < 64) : Con w mean mg mb 66 1 20 news [.int a t1, .int 1 t2] (RetV fun t => .int (a % 2) t) := by
  have := andC w mean mg mb news a 1 t1 t2
  rwa [and1_is h1 h2] at this
theorem lsh5C (w mean mg mb news) (a : Int) (t1 t2 : Tok) (h1 : 0 ≤ a) (h2 : a < 2 ^ 20) : Con w mean mg mb 80 1 20 news [.int a t1, .int 5 t2] (RetV fun t => .int (a * 32) t) := by
  have := lshC w mean mg mb news a 5 t1 t2 h1 h2 (by decide) (by decide)
  rwa [lsh5_is] at this
theorem orTC (w mean mg mb news) (a : Int) (t1 t2 : Tok) (h1 : 0 ≤ a) (h2 : a < 64) : Con w mean mg mb 101 1 20 news [.int (a / 2) t1, .int (a % 2 * 32) t2] (RetV fun t => .int (turnedF a) t) := by
  have := orC w mean mg mb news (a / 2) (a % 2 * 32) t1 t2
  rwa [turned_is h1 h2] at this
theorem andUpC (w mean mg mb news) (a : Int) (t1 t2 : Tok) (h1 : 0 ≤ a) (h2 : a < 64) : Con w mean mg mb 66 1 20 news [.int (turnedF a) t1, .int (Builtin.bitNot a) t2] (RetF (0 ≤ upF a ∧ upF a < 64) (RetV fun t => .int (upF a) t)) := by
  have C := andC w mean mg mb news (turnedF a) (Builtin.bitNot a) t1 t2
  unfold Con at C ⊢
  intro dp un gd cn cs b ccd cl outer A₀ base h₀ L m s Q E B F X N T hk hd hu hr
  exact C dp un gd cn cs b ccd cl outer A₀ base h₀ L m s Q E B F X N T hk hd hu (hr (up_bnd h1 h2))
end
local macro_rules | `(tactic| walk_at "SW con") => `(tactic| first | exact addSS _ _ _ _ _ _ _ _ _ (by l_bnd) (by l_bnd) | exact subFF _ _ _ _ _ _ _ _ _ | exact xorC _ _ _ _ _ _ _ _ _ | exact subII _ _ _ _ _ _ _ _ _ | exact orC _ _ _ _ _ _ _ _ _ | exact mulC _ _ _ _ _ _ _ _ _ (by l_bnd) (by l_bnd) (by l_bnd) (by l_bnd) | exact modC _ _ _ _ _ _ _ _ _ (by l_bnd) | exact invC _ _ _ _ _ _ _ | exact andC _ _ _ _ _ _ _ _ _ | exact addII _ _ _ _ _ _ _ _ _)
local macro_rules | `(tactic| walk_at "call ref") => `(tactic| (k_dflt (refine' Con.use ?c (by k_asm) (by k_asm) (by k_asm) (by k_asm) (by k_asm) (by first | exact rfl | assumption) ?r ?u ?_; (case c => walk_at "SW con"); (case r => ktr_room); (case u => ktr_units)); (try ((with_reducible show RetF _ _ _ _ _ _ _ _); intro hup')); intro t' h' tk' F' N'; (try k_sweep); (try dsimp only)))
local macro_rules | `(tactic| walk_at "SW con") => `(tactic| first | exact andUpC _ _ _ _ _ _ _ _ (by l_bnd) (by l_bnd) | exact orTC _ _ _ _ _ _ _ _ (by l_bnd) (by l_bnd) | exact lsh5C _ _ _ _ _ _ _ _ (by l_bnd) (by l_bnd) | exact and1C _ _ _ _ _ _ _ _ (by l_bnd) (by l_bnd) | exact rsh1C _ _ _ _ _ _ _ _ (by l_bnd) (by l_bnd))
section
set_option maxRecDepth 100000 in
set_option maxHeartbeats 8000000 in
theorem turnedC (w mean mg mb news) (a : Int) (t1 : Tok) (h1 : 0 ≤ a) (h2 : a < 64) : Con w mean mg mb 172 4 60 news [.int a t1] (RetF (0 ≤ turnedF a ∧ turnedF a < 64) (RetV fun t => .int (turnedF a) t)) := by
  unfold Con; k_fill
  intros
  rename_i hret
  replace hret := hret (turned_bnd h1 h2)
  refine wpAny_call ?_
  cell_enter
  k_steps
  all_goals first
    | exact hret _ _ _ (by assumption) (by assumption)
    | (exfalso; omega)
end
local macro_rules | `(tactic| walk_at "SW con") => `(tactic| exact turnedC _ _ _ _ _ _ _ (by l_bnd) (by l_bnd))
section
noncomputable def popc (n : Nat) : Int := ((n % 2 + n / 2 % 2 + n / 4 % 2 + n / 8 % 2 + n / 16 % 2 + n / 32 % 2 : Nat) : Int)
noncomputable def onesL (n : Nat) : List Int := (List.range n).map popc
theorem onesL_succ (n : Nat) : onesL (n + 1) = onesL n ++ [popc n] := by simp [onesL, List.range_succ]
theorem onesL_length (n : Nat) : (onesL n).length = n := by simp [onesL]
noncomputable def onesJ (l : Addr) (m0 : PySem.Str → Option Value) (i : Nat) (m : PySem.Str → Option Value) (nx : Led) : Prop :=
  ∃ (u : PySem.Str → Option Value) (vs : List Value) (nn : Nat), m = (fun z => if z = PySem.Str.ofString "number" then u z else m0 z) ∧ nx = [(l, W.listOf vs.toArray nn)] ∧ IntsAre vs (onesL (i + 1)) ∧ vs.length = i + 1
theorem ones_step {i : Nat} (hi : i < 63) : (onesL (i + 1)).getD ((1 + (i : Int)) / 2).toNat 0 + (1 + (i : Int)) % 2 = popc (i + 1) := by
  have h : ∀ i : Fin 63, (onesL (i.val + 1)).getD ((1 + (i.val : Int)) / 2).toNat 0 + (1 + (i.val : Int)) % 2 = popc (i.val + 1) := by decide +kernel
  exact h ⟨i, hi⟩
/-- is number of own's kin, by bits -/
noncomputable def kinP (own : Int) (k : Nat) : Bool :=
  decide ((onesL (63 + 1)).getD (0 + (k : Int)).toNat 0 = (onesL (63 + 1)).getD own.toNat 0) && decide ((onesL (63 + 1)).getD (upF (0 + (k : Int))).toNat 0 = (onesL (63 + 1)).getD (upF own).toNat 0)
noncomputable def kinL (own : Int) (n : Nat) : List Int := ((List.range n).filter (kinP own)).map fun (k : Nat) => 0 + (k : Int)
theorem kinL_yes {own : Int} {n : Nat} (h : kinP own n = true) : kinL own (n + 1) = kinL own n ++ [0 + (n : Int)] := by
  simp [kinL, List.range_succ, List.filter_append, h]
theorem kinL_no {own : Int} {n : Nat} (h : kinP own n = false) : kinL own (n + 1) = kinL own n := by
  simp [kinL, List.range_succ, List.filter_append, h]
noncomputable def kinJ (own : Int) (l2 l : Addr) (m0 : PySem.Str → Option Value) (i : Nat) (m : PySem.Str → Option Value) (nx : Led) : Prop :=
  ∃ (u : PySem.Str → Option Value) (vs vs1 : List Value) (nn n1 : Nat), m = (fun z => if z = PySem.Str.ofString "number" then u z else m0 z) ∧ nx = [(l2, W.listOf vs.toArray nn), (l, W.listOf vs1.toArray n1)] ∧ IntsAre vs (kinL own i) ∧ vs.length ≤ i ∧ IntsAre vs1 (onesL (63 + 1)) ∧ vs1.length = 63 + 1
/-- as RetB; and the token counter is no longer nought -/
noncomputable def RetB1 (P : Obj → Prop) : Retn := fun h₀ L m news s Q => ∀ (l : Addr) (o : Obj) (h' : Heap) (tk' : Nat), 1 ≤ tk' → Fr h₀ L h' m → News h₀ L h' ((l, o) :: news) → (∀ p ∈ news, p.1 ≠ l) → P o → Q (.ref l) { s with heap := h', toks := tk' }
theorem RetB1.back {h₀ g h' : Heap} {L L' l : Addr} {m m' : PySem.Str → Option Value} {news led : Led} {s : Shared} {Q : Value → Shared → Prop} {P : Obj → Prop} {o : Obj} {tk' : Nat} (hr : RetB1 P h₀ L m news s Q) (h1 : 1 ≤ tk') (N : News h₀ L s.heap news) (hg : g = s.heap) (F' : Fr g L' h' m') (N' : News g L' h' led) (kF : Fr h₀ L h' m) (kN : News h₀ L h' led)
    (hm : (l, o) ∈ led) (hP : P o) : Q (.ref l) { s with heap := h', toks := tk' } :=
  RetB.back (P := P) (Q := fun v s' => 1 ≤ s'.toks → Q v s') (fun l o h' tk' a b c d h1 => hr l o h' tk' h1 a b c d) N hg F' N' kF kN hm hP h1
set_option maxRecDepth 100000 in
set_option maxHeartbeats 8000000 in
theorem kinBC (w mean mg mb) (own : Int) (t1 : Tok) (h1 : 0 ≤ own) (h2 : own < 64) : ConB w mean mg mb 179 8 80 [.int own t1] (fun _ => True) (RetB1 (IsIL (kinL own 64))) := by
  unfold ConB; k_fill
  intro news dp un gd cn cs a ccd cl outer A₀ base h₀ L m s Q E B F X N T hk hd hu hp hr
  refine wpAny_call ?_
  k_dflt (walk_at "SW enter")
  intro g L1 h1' hg FG F1 N1 B1 X1 T1
  (try dsimp only)
  refine wpAny_toksQ fun Qk hQk => ?_
  (try k_fold)
  walk_at "SW go"
  rename Fr _ _ _ _ => Fx
  rename News _ _ _ _ => Nx
  obtain ⟨m0, hm0, F0⟩ := fr_map Fx
  obtain ⟨l, hl, N0⟩ := led1 Nx
  subst hl
  clear Fx Nx
  refine' range_loop (n := 63) (onesJ l m0) rfl (by assumption) (by decide) (by decide) F0 N0 ?h0 ?turn ?done
  case h0 => exact ⟨m0, _, 0, map_same _ _, rfl, .cons 0 _ .nil, rfl⟩
  case turn =>
    rintro i m₁ nx I it t h tk hi hoff ⟨u, vs, nn, rfl, rfl, hI, hl⟩ hit F' N'
    change Fr _ L1 _ _ at F'
    change News _ L1 _ _ at N'
    subst hm0
    k_fold
    have ho1 : @Ne Nat l I := hoff _ (.head _)
    walk_at "SW go"
    rename Fr _ _ _ _ => Fx
    rename News _ _ _ _ => Nx
    refine unr_end' Fx Nx hit [(l, _)] (by k_mem) (by k_subL) (by walk_at "SW offC") ⟨_, _, _, map_of (by intro z h1; simp only [h1, if_false]), rfl, ?_, ?_⟩
    · rw [onesL_succ (i + 1), ← ones_step hi]
      exact ints_snoc hI _ _
    · simp [hl]
  case done =>
    rintro m₁ nx h tk ⟨u, vs, nn, rfl, rfl, hI, hl⟩ F' N'
    change Fr _ L1 _ _ at F'
    change News _ L1 _ _ at N'
    subst hm0
    walk_at "SW go"
    rename Fr _ _ _ _ => Fx
    rename News _ _ _ _ => Nx
    obtain ⟨m0, hm0, F0⟩ := fr_map Fx
    obtain ⟨l2, hl2, N0⟩ := led1 Nx
    subst hl2
    clear Fx Nx
    refine' range_loop (n := 64) (kinJ own l2 l m0) rfl (by assumption) (by decide) (by decide) F0 N0 ?h0 ?turn ?done
    case h0 => exact ⟨m0, [], vs, 0, nn, map_same _ _, rfl, .nil, Nat.le_refl _, hI, hl⟩
    case turn =>
      clear hI hl
      rintro i m₁ nx I it t h tk hi hoff ⟨u, vs, vs1, nn, n1, rfl, rfl, hI2, hl2, hI, hl⟩ hit F' N'
      change Fr _ L1 _ _ at F'
      change News _ L1 _ _ at N'
      subst hm0
      k_fold
      have ho1 : @Ne Nat l2 I := hoff _ (.head _)
      have ho2 : @Ne Nat l I := hoff _ (.tail _ (.head _))
      walk_at "SW go"
      all_goals rename Fr _ _ _ _ => Fx
      all_goals rename News _ _ _ _ => Nx
      all_goals refine unr_end' Fx Nx hit [(l2, _), (l, _)] (by k_mem) (by k_subL) (by walk_at "SW offC") ⟨_, _, _, _, _, map_of (by intro z h1; simp only [h1, if_false]), rfl, ?_, ?_, hI, hl⟩
      · rw [kinL_yes (by unfold kinP; simp only [*, decide_true, Bool.and_self])]
        exact ints_snoc hI2 _ _
      · rw [List.length_append, List.length_singleton]; omega
      · rw [kinL_no (by unfold kinP; simp only [*, decide_true, decide_false, Bool.and_false, Bool.false_and])]
        exact hI2
      · omega
      · rw [kinL_no (by unfold kinP; simp only [*, decide_true, decide_false, Bool.and_false, Bool.false_and])]
        exact hI2
      · omega
    case done =>
      clear hI hl
      rintro m₁ nx h tk ⟨u, vs, vs1, nn, n1, rfl, rfl, hI2, hl2, hI, hl⟩ F' N'
      change Fr _ L1 _ _ at F'
      change News _ L1 _ _ at N'
      subst hm0
      walk_at "SW go"
      refine hQk _ _ fun hle => ?_
      (try dsimp only)
      walk_at "SW go"
      rename Fr h₀ L _ _ => kF
      rename News h₀ L _ _ => kN
      exact RetB1.back hr (Nat.le_trans (Nat.le_trans (Nat.le_of_ble_eq_true rfl) (Nat.le_add_left _ s.toks)) hle) N hg F' N' kF kN (by k_mem) ⟨_, _, rfl, hI2⟩
end
section
/-- the words of n signs -/
noncomputable def textsL : Nat → List PySem.Str
  | 0 => [PySem.Str.ofString ""]
  | n + 1 => (textsL n).map (fun t => t ++ PySem.Str.ofString "-") ++ (textsL n).map (fun t => t ++ PySem.Str.ofString ".")
noncomputable def word (i : Nat) : PySem.Str := (textsL 6).getD i PySem.Str.empty
theorem texts_length : (textsL 6).length = 64 := by decide +kernel
theorem word_len {i : Nat} (h : i < 64) : (word i).length = 6 := by
  have h' : ∀ i : Fin 64, (word i.val).length = 6 := by decide +kernel
  exact h' ⟨i, h⟩
theorem item_word {prog : Program} {w : World} {A : Around} {E : Value → Shared → Prop} {s : Shared} {value slice : PySem.Expr} {l : Addr} {vs : List Value} {i : Nat} {u : Tok} {Q : Value → Shared → Prop} (hl : s.heap.IsList l vs.toArray) (hS : StrsAre vs (textsL 6)) (hi : i < 64)
    (h : ∀ t', Q (.str (word i) t') s)
    (hs : subscripted slice false (.ref l) (.int (0 + (i : Int)) u) = operate [.ref l, .int (0 + (i : Int)) u] (getItem (.ref l) (.int (0 + (i : Int)) u)) := by with_unfolding_all rfl) :
    wpAny (model prog w) A (subscriptTail value slice (.ref l) (.int (0 + (i : Int)) u)) Q E s := by
  refine KTb.item_list hl hS (by omega) (by rw [texts_length]; omega) (by omega) (fun t' _ => ?_) hs
  have e : (0 + (i : Int)).toNat = i := by omega
  rw [e]
  exact h t'
theorem count_dots {i : Nat} (h : i < 64) : Txt.count (word i) (PySem.Str.ofString ".") = (onesL (63 + 1)).getD (0 + (i : Int)).toNat 0 := by
  have h' : ∀ i : Fin 64, Txt.count (word i.val) (PySem.Str.ofString ".") = (onesL (63 + 1)).getD (0 + (i.val : Int)).toNat 0 := by decide +kernel
  exact h' ⟨i, h⟩
theorem count_rises {i : Nat} (h : i < 64) : Txt.count (word i ++ Txt.slice (word i) none (some 1)) (PySem.Str.ofString "-.") = (onesL (63 + 1)).getD (upF (0 + (i : Int))).toNat 0 := by
  have h' : ∀ i : Fin 64, Txt.count (word i.val ++ Txt.slice (word i.val) none (some 1)) (PySem.Str.ofString "-.") = (onesL (63 + 1)).getD (upF (0 + (i.val : Int))).toNat 0 := by decide +kernel
  exact h' ⟨i, h⟩
theorem kinP_texts {o i : Nat} (ho : o < 64) (hi : i < 64) : kinP (o : Int) i = (decide (Txt.count (word i) (PySem.Str.ofString ".") = Txt.count (word o) (PySem.Str.ofString ".")) && decide (Txt.count (word i ++ Txt.slice (word i) none (some 1)) (PySem.Str.ofString "-.") = Txt.count (word o ++ Txt.slice (word o) none (some 1)) (PySem.Str.ofString "-."))) := by
  rw [count_dots hi, count_dots ho, count_rises hi, count_rises ho]
  unfold kinP
  rw [show (0 + (o : Int)) = (o : Int) by omega]
noncomputable def kinTJ (l2 : Addr) (m0 : PySem.Str → Option Value) (K : Nat → List Int) (i : Nat) (m : PySem.Str → Option Value) (nx : Led) : Prop :=
  ∃ (u : PySem.Str → Option Value) (vs : List Value) (nn : Nat), m = (fun z => if z = PySem.Str.ofString "number" then u z else if z = PySem.Str.ofString "text" then u z else m0 z) ∧ nx = [(l2, W.listOf vs.toArray nn)] ∧ IntsAre vs (K i) ∧ vs.length ≤ i
local macro_rules | `(tactic| walk_at "subscriptTail") => `(tactic| ((with_reducible show wpAny _ _ (subscriptTail _ _ (Value.ref _) (Value.int _ _)) _ _ _); (with_unfolding_all refine' item_word ?k1 ?k2 ?k3 ?_ ?k6; (case k1 => is_list); (case k2 => assumption); (case k3 => omega); (case k6 => with_unfolding_all rfl); k_whole); intro _))
set_option maxRecDepth 100000 in
set_option maxHeartbeats 8000000 in
theorem kinTC (w mean mg mb) (o : Nat) (ho : o < 64) (l : Addr) (vs : List Value) (t1 : Tok) (hS : StrsAre vs (textsL 6)) : ConB w mean mg mb 165 8 80 [.ref l, .str (word o) t1] (fun h => h.IsList l vs.toArray) (RetB (IsIL (kinL (o : Int) 64))) := by
  unfold ConB; k_fill
  intro news dp un gd cn cs a ccd cl outer A₀ base h₀ L m s Q E B F X N T hk hd hu hp hr
  refine wpAny_call ?_
  k_dflt (walk_at "SW enter")
  intro g L1 h1' hg FG F1 N1 B1 X1 T1
  (try dsimp only)
  k_fold
  rw [← hg] at hp
  have hw := word_len ho
  walk_at "SW go"
  rename Fr _ _ _ _ => Fx
  rename News _ _ _ _ => Nx
  obtain ⟨m0, hm0, F0⟩ := fr_map Fx
  obtain ⟨l2, hl2, N0⟩ := led1 Nx
  subst hl2
  clear Fx Nx
  refine' range_loop (n := 64) (kinTJ l2 m0 (kinL (o : Int))) rfl (by assumption) (by decide) (by decide) F0 N0 ?h0 ?turn ?done
  case h0 => exact ⟨m0, [], 0, map_same2 _ _ _, rfl, .nil, Nat.le_refl _⟩
  case turn =>
    rintro i m₁ nx I it t h tk hi hoff ⟨u, vs2, nn, rfl, rfl, hI2, hl2⟩ hit F' N'
    change Fr _ L1 _ _ at F'
    change News _ L1 _ _ at N'
    subst hm0
    k_fold
    have ho1 : @Ne Nat l2 I := hoff _ (.head _)
    have hw2 := word_len hi
    walk_at "SW go"
    all_goals rename Fr _ _ _ _ => Fx
    all_goals rename News _ _ _ _ => Nx
    all_goals refine unr_end' Fx Nx hit [(l2, _)] (by k_mem) (by k_subL) (by walk_at "SW offC") ⟨_, _, _, map_of2 (by intro z h1 h2; simp only [h1, h2, if_false]), rfl, ?_, ?_⟩
    · rw [kinL_yes (by rw [kinP_texts ho hi]; simp only [*, decide_true, Bool.and_self])]
      exact ints_snoc hI2 _ _
    · rw [List.length_append, List.length_singleton]; omega
    · rw [kinL_no (by rw [kinP_texts ho hi]; simp only [*, decide_true, decide_false, Bool.and_false, Bool.false_and])]
      exact hI2
    · omega
    · rw [kinL_no (by rw [kinP_texts ho hi]; simp only [*, decide_true, decide_false, Bool.and_false, Bool.false_and])]
      exact hI2
    · omega
  case done =>
    rintro m₁ nx h tk ⟨u, vs2, nn, rfl, rfl, hI2, hl2⟩ F' N'
    change Fr _ L1 _ _ at F'
    change News _ L1 _ _ at N'
    subst hm0
    walk_at "SW go"
    rename Fr h₀ L _ _ => kF
    rename News h₀ L _ _ => kN
    exact RetB.back hr N hg F' N' kF kN (by k_mem) ⟨_, _, rfl, hI2⟩
end
section
theorem texts_small : ∀ n, n ≤ 6 → (textsL n).length ≤ 64 := by decide +kernel
theorem strs_step {f : PySem.Str → PySem.Str} {ss : List PySem.Str} {j : Nat} {y : PySem.Str} {ys : List Value} {t : Tok} (hy : ss[j]? = some y) (hR : StrsAre ys ((ss.take j).map f)) : StrsAre (ys ++ [.str (f y) t]) ((ss.take (j + 1)).map f) := by
  rw [List.take_add_one, hy]
  simp only [Option.toList_some, List.map_append, List.map_cons, List.map_nil]
  exact kct_snoc hR
theorem texts_le : ∀ n, n ≤ 6 → ∀ t ∈ textsL n, t.length = n := by decide +kernel
noncomputable def textsJ (m0 : PySem.Str → Option Value) (i : Nat) (m : PySem.Str → Option Value) (nx : Led) : Prop :=
  ∃ (u : PySem.Str → Option Value) (l : Addr) (vs : List Value) (nn : Nat), m = (fun z => if z = PySem.Str.ofString "texts" then some (.ref l) else if z = PySem.Str.ofString "place" then u z else m0 z) ∧ nx = [(l, W.listOf vs.toArray nn)] ∧ StrsAre vs (textsL i)
set_option maxRecDepth 100000 in
set_option maxHeartbeats 8000000 in
theorem textsC (w mean mg mb) : ConB w mean mg mb 158 8 80 [] (fun h => True) (RetB (IsSL (textsL 6))) := by
  unfold ConB; k_fill
  intro news dp un gd cn cs a ccd cl outer A₀ base h₀ L m s Q E B F X N T hk hd hu hp hr
  refine wpAny_call ?_
  k_dflt (walk_at "SW enter")
  intro g L1 h1' hg FG F1 N1 B1 X1 T1
  (try dsimp only)
  k_fold
  walk_at "SW go"
  rename Fr _ _ _ _ => Fx
  rename News _ _ _ _ => Nx
  obtain ⟨m0, hm0, F0⟩ := fr_map Fx
  obtain ⟨l, hl, N0⟩ := led1 Nx
  subst hl
  clear Fx Nx
  refine' range_loop (n := 6) (textsJ m0) rfl (by assumption) (by decide) (by decide) F0 N0 ?h0 ?turn ?done
  case h0 => exact ⟨m0, l, _, 0, map_ofV (by rw [hm0]; rfl) (fun _ _ _ => rfl), rfl, .cons _ _ .nil⟩
  case turn =>
    rintro i m₁ nx I it t h tk hi hoff ⟨u, l1, vs, nn, rfl, rfl, hS⟩ hit F' N'
    change Fr _ L1 _ _ at F'
    change News _ L1 _ _ at N'
    subst hm0
    k_fold
    have ho1 : @Ne Nat l1 I := hoff _ (.head _)
    have hle := texts_le i (by omega)
    walk_at "SW go"
    walk_at "SW comp"
    walk_at "SW go"
    have hsz : vs.toArray.size ≤ 64 := by rw [List.size_toArray, hS.length]; exact texts_small i (by omega)
    refine LCg.CompSrc.ledger (by rfl) (by k_asm) (by k_asm) (by k_mem) (small_fits (by omega)) ?_
    intro g'
    refine comp_loop (R := fun j ys => StrsAre ys (((textsL i).take j).map (fun t => t ++ PySem.Str.ofString "-"))) .nil ?turn ?fin
    case turn =>
      rintro j v ys I1 oI C oC D m₂ h tk E' hj hR hP hC hx F' N' off ne
      obtain ⟨y, ty, rfl, hy⟩ := hS.item j v (by simpa using hP)
      have hyl := hle y (List.mem_of_getElem? hy)
      simp only [LCg.Off3, and_true] at off
      walk_at "SW go"
      lcg_end
      refine ⟨rfl, ?_⟩
      exact strs_step hy hR
    case fin =>
      intro ys hR
      rw [List.take_of_length_le (by rw [List.size_toArray, hS.length]; exact Nat.le_refl _)] at hR
      walk_at "SW go"
      walk_at "SW comp"
      walk_at "SW go"
      refine LCg.CompSrc.ledger (by rfl) (by k_asm) (by k_asm) (by k_mem) (small_fits (by omega)) ?_
      intro g'
      refine comp_loop (R := fun j ys => StrsAre ys (((textsL i).take j).map (fun t => t ++ PySem.Str.ofString "."))) .nil ?turn ?fin
      case turn =>
        rintro j v ys2 I1 oI C oC D m₂ h tk E' hj hR2 hP hC hx F' N' off ne
        obtain ⟨y, ty, rfl, hy⟩ := hS.item j v (by simpa using hP)
        have hyl := hle y (List.mem_of_getElem? hy)
        simp only [LCg.Off3, and_true] at off
        walk_at "SW go"
        lcg_end
        refine ⟨rfl, ?_⟩
        exact strs_step hy hR2
      case fin =>
        intro ys2 hR2
        rw [List.take_of_length_le (by rw [List.size_toArray, hS.length]; exact Nat.le_refl _)] at hR2
        have z1 : ys.length ≤ 64 := by rw [hR.length, List.length_map, ← hS.length, ← List.size_toArray]; exact hsz
        have z2 : ys2.length ≤ 64 := by rw [hR2.length, List.length_map, ← hS.length, ← List.size_toArray]; exact hsz
        walk_at "SW go"
        rename Fr _ _ _ _ => Fx
        rename News _ _ _ _ => Nx
        rename StrsAre ys2 _ => hR2
        refine unr_end' Fx Nx hit [(_, W.listOf (ys ++ ys2).toArray 0)] (by k_mem) (by k_subL) (by walk_at "SW offC") ⟨_, _, _, _, map_ofV (by rfl) (by intro z h1 h2; simp only [h1, h2, if_false]), rfl, hR.append' hR2⟩
  case done =>
    rintro m₁ nx h tk ⟨u, l1, vs, nn, rfl, rfl, hS⟩ F' N'
    change Fr _ L1 _ _ at F'
    change News _ L1 _ _ at N'
    subst hm0
    walk_at "SW go"
    rename Fr h₀ L _ _ => kF
    rename News h₀ L _ _ => kN
    exact RetB.back hr N hg F' N' kF kN (by k_mem) ⟨_, _, rfl, hS⟩
end
section
theorem in_tupN {prog : Program} {w : World} {A : Around} {E : Value → Shared → Prop} {s : Shared} {h₀ : Heap} {L : Addr} {news : Led} {t : Addr} {items : Array Value} {n : Nat} {ns : List Int} {x : Int} {u : Tok} {Q : Value → Shared → Prop} (N : News h₀ L s.heap news)
    (hm : (t, ({ cls := .type "tuple", data := .seq items n } : Obj)) ∈ news) (hi : IntsAre items.toList ns) (h : Q (.bool (ns.any (· == x))) s) : wpAny (model prog w) A (compareOp .In (.int x u) (.ref t)) Q E s :=
  in_tuple_ints ⟨_, (N _ hm).1, rfl, n, rfl⟩ hi h
local macro_rules | `(tactic| walk_at "compareOp In int ref") => `(tactic| (k_dflt (refine' in_tupN ?n ?m ?i ?_; (case n => k_asm); (case m => k_mem); (case i => exact .cons _ _ (.cons _ _ (.cons _ _ .nil))))))
/-- a / b of two ints -/
noncomputable def fracF (a b : Int) : UInt64 := Float64.ofFrac (decide (a < 0) != decide (b < 0)) a.natAbs b.natAbs
noncomputable def dueP (c : Int) (l : List Int) (s v : Int) : UInt64 := if l.any (· == c) = true then fracF v 4 else fracF (v * (4 - s)) 16
noncomputable def dueF (c s v : Int) : UInt64 × UInt64 × UInt64 := (dueP c [5, 0, 1] s v, dueP c [1, 2, 3] s v, dueP c [3, 4, 5] s v)
noncomputable def IsT3v (r : UInt64 × UInt64 × UInt64) (o : Obj) : Prop := ∃ t u v, o = tup3 r.1 r.2.1 r.2.2 t u v
theorem t3v_of {r : UInt64 × UInt64 × UInt64} {x y z : UInt64} {t u v : Tok} (h : r = (x, y, z)) : IsT3v r { cls := .type "tuple", data := .seq #[.float x t, .float y u, .float z v] } := by subst h; exact ⟨t, u, v, rfl⟩
theorem frac16_fin {s v : Int} (hs : 1 ≤ s ∧ s ≤ 4) (hv : 1 ≤ v ∧ v ≤ 4) : Float64.isInf (fracF (v * (4 - s)) 16) = false := by
  have h : ∀ i j : Fin 4, Float64.isInf (fracF (((j.val : Int) + 1) * (4 - ((i.val : Int) + 1))) 16) = false := by decide +kernel
  have := h ⟨(s - 1).toNat, by omega⟩ ⟨(v - 1).toNat, by omega⟩
  simp only at this
  rwa [show (((s - 1).toNat : Nat) : Int) + 1 = s by omega, show (((v - 1).toNat : Nat) : Int) + 1 = v by omega] at this
end
section
noncomputable def crlf : PySem.Str := PySem.Str.ofString "\r\n"
noncomputable def majStep (p : Int × Int) (r : PySem.Str) : Int × Int := if (Txt.slice r none (some 1) == PySem.Str.ofString ".") = true then (p.1 + 1 + (r.length : Int) - 1, p.2 + (p.1 + 1)) else (p.1 + 1, p.2)
noncomputable def majF (part : PySem.Str) : Int := (((Txt.split part (PySem.Str.ofString "\r\n")).drop 1).foldl majStep ((((Txt.split part (PySem.Str.ofString "\r\n")).getD 0 PySem.Str.empty).length : Int), 0)).2
noncomputable def majJ (st : Nat → Int × Int) (nw : Led) (m0 : PySem.Str → Option Value) (i : Nat) (m : PySem.Str → Option Value) (nx : Led) : Prop :=
  ∃ (u : PySem.Str → Option Value) (ta tm : Tok), m = (fun z => if z = PySem.Str.ofString "at" then some (.int (st i).1 ta) else if z = PySem.Str.ofString "major" then some (.int (st i).2 tm) else if z = PySem.Str.ofString "row" then u z else m0 z) ∧ nx = nw
theorem maj_next {rs : List PySem.Str} {i : Nat} {r : PySem.Str} (h : rs[i]? = some r) (p : Int × Int) : (rs.take (i + 1)).foldl majStep p = majStep ((rs.take i).foldl majStep p) r := by
  rw [List.take_add_one, h, List.foldl_append]; rfl
theorem getD0_of {l : List PySem.Str} {y : PySem.Str} (h : l[Int.toNat 0]? = some y) : l.getD 0 PySem.Str.empty = y := by
  rw [List.getD_eq_getElem?_getD, show l[0]? = some y from h]; rfl
set_option maxRecDepth 100000 in
set_option maxHeartbeats 8000000 in
theorem majorC (w mean mg mb) (part : PySem.Str) (t1 : Tok) (hl : part.length ≤ 100) (hrows : ∀ r ∈ Txt.split part (PySem.Str.ofString "\r\n"), r.length ≤ 100) (hn : (Txt.split part (PySem.Str.ofString "\r\n")).length ≤ 100) : ConB w mean mg mb 186 8 80 [.str part t1] (fun h => True) (RetV fun t => .int (majF part) t) := by
  unfold ConB; k_fill
  intro news dp un gd cn cs a ccd cl outer A₀ base h₀ L m s Q E B F X N T hk hd hu hp hr
  refine wpAny_call ?_
  k_dflt (walk_at "SW enter")
  intro g L1 h1' hg FG F1 N1 B1 X1 T1
  (try dsimp only)
  k_fold
  walk_at "SW go"
  rename List.map _ _ = Txt.split _ _ => hlook
  rename (List.map _ _)[_]? = some _ => e0
  have hy := hrows _ (by rw [← hlook]; exact List.mem_of_getElem? e0)
  walk_at "SW go"
  rename Fr _ _ _ _ => Fx
  rename News _ _ _ _ => Nx
  obtain ⟨m0, hm0, F0⟩ := fr_map Fx
  obtain ⟨nw, hnw, N0⟩ := led_all Nx
  clear Fx Nx
  rename StrsAre (strValues _) _ => hS
  rw [hlook] at hS e0
  have ey := getD0_of e0
  subst ey
  have hlen : 1 ≤ (Txt.split part (PySem.Str.ofString "\r\n")).length := by
    have h0 := (List.getElem?_eq_some_iff.mp e0).1
    exact Nat.succ_le_of_lt (Nat.lt_of_le_of_lt (Nat.zero_le _) h0)
  have hsl : slicePick (strValues _).toArray (some 1) none none = _ := slicePick_from (strValues _).toArray 1 (by rw [List.size_toArray, hS.length]; exact hlen)
  rw [hsl] at hnw
  have hS1 := strs_drop hS 1
  refine' list_loop (majJ (fun i => (((Txt.split part (PySem.Str.ofString "\r\n")).drop 1).take i).foldl majStep ((((Txt.split part (PySem.Str.ofString "\r\n")).getD 0 PySem.Str.empty).length : Int), 0)) nw m0) rfl F0 N0 (by rw [hnw]; exact .head _) rfl rfl ?h0 ?turn ?done
  case h0 =>
    exact ⟨m0, _, _, map_ofVV ((congrFun hm0 _).trans rfl) ((congrFun hm0 _).trans rfl) (fun _ _ _ _ => rfl), rfl⟩
  case turn =>
    rintro i v m₁ nx I it h tk hv hoff hmx ⟨u, ta, tm, rfl, rfl⟩ hit F' N'
    change Fr _ L1 _ _ at F'
    change News _ L1 _ _ at N'
    subst hm0
    subst hnw
    k_fold
    obtain ⟨r, tr, rfl, hr2⟩ := hS1.item i v hv
    have hrl := hrows r (List.mem_of_mem_drop (List.mem_of_getElem? hr2))
    walk_at "SW go"
    all_goals have hst := maj_next hr2 ((((Txt.split part (PySem.Str.ofString "\r\n")).getD 0 PySem.Str.empty).length : Int), 0)
    · have hst2 := hst.trans (if_pos (by assumption))
      rename Fr _ _ _ _ => Fx
      rename News _ _ _ _ => Nx
      refine unr_end' Fx Nx hit _ (by k_mem) (by k_subL) (by walk_at "SW offC") ⟨.head _, _, _, _, map_ofVV (by dsimp only; rw [hst2]; rfl) (by dsimp only; rw [hst2]; rfl) (by intro z h1 h2 h3; simp only [h1, h2, h3, if_false]), rfl⟩
    · have hst2 := hst.trans (if_neg (by rw [Bool.not_eq_true]; assumption))
      rename Fr _ _ _ _ => Fx
      rename News _ _ _ _ => Nx
      refine unr_end' Fx Nx hit _ (by k_mem) (by k_subL) (by walk_at "SW offC") ⟨.head _, _, _, _, map_ofVV (by dsimp only; rw [hst2]; rfl) (by dsimp only; rw [hst2]; rfl) (by intro z h1 h2 h3; simp only [h1, h2, h3, if_false]), rfl⟩
  case done =>
    rintro m₁ nx h tk ⟨u, ta, tm, rfl, rfl⟩ F' N'
    change Fr _ L1 _ _ at F'
    change News _ L1 _ _ at N'
    subst hm0
    walk_at "SW go"
    rename Fr h₀ L _ _ => kF
    have e : majF part = ((((Txt.split part (PySem.Str.ofString "\r\n")).drop 1).take ((Txt.split part (PySem.Str.ofString "\r\n")).drop 1).length).foldl majStep ((((Txt.split part (PySem.Str.ofString "\r\n")).getD 0 PySem.Str.empty).length : Int), 0)).2 := by
      rw [List.take_length]; rfl
    have hll := hS1.length
    show Q (Value.int _ _) _
    have hr' : RetV (fun t => Value.int ((((Txt.split part (PySem.Str.ofString "\r\n")).drop 1).take ((Txt.split part (PySem.Str.ofString "\r\n")).drop 1).length).foldl majStep ((((Txt.split part (PySem.Str.ofString "\r\n")).getD 0 PySem.Str.empty).length : Int), 0)).2 t) h₀ L m news s Q := by rw [← e]; exact hr
    rw [← hll] at hr'
    exact RetV.back hr' N hg F' kF
end
section
local macro_rules | `(tactic| walk_at "execs cons") => `(tactic| (refine gen_toksF fun tk' hle => ?_; (try dsimp only at hle); (refine wpAny_execs_cons ?_); (try dsimp only)))
local macro_rules | `(tactic| walk_at "execs nil") => `(tactic| ((fail_if_success (rename KStopF => kst)); (have kst : KStopF := KStopF.mk); refine gen_toksF fun tk' hle => ?_; (try dsimp only at hle); (first | walk_at "execs nil"); (try clear kst)))
local macro_rules | `(tactic| walk_at "SW mm") => `(tactic| ((with_reducible show wpAny _ _ (call _ [Value.float _ _, Value.float _ _, Value.float _ _]) _ _ _); (rename News _ _ _ _ => N'); (rename Fr _ _ _ _ => F'); refine wpAny_toksQ fun Qk hQk => ?_; (first | refine max_three_tk rfl F' N' ?_ | refine min_three_tk rfl F' N' ?_); clear N'; intro _ _ _ hor _ _; refine hQk _ _ fun hle => ?_; clear hQk Qk; (try dsimp only at hle); (try dsimp only)))
local macro_rules | `(tactic| walk_at "call type:int") => `(tactic| ((with_reducible show wpAny _ _ (call _ [Value.float _ _]) _ _ _); (fail_if_success (rename KStopF => kst)); (have kst : KStopF := KStopF.mk); refine wpAny_toksQ fun Qk hQk => ?_; (first | walk_at "call type:int"); all_goals ((try clear kst); (try (refine hQk _ _ fun hle => ?_)); (try clear hQk Qk); (try dsimp only at hle); (try dsimp only))))
section
/-- back comes a value whose token is no private one; tokens never fall -/
noncomputable def RetT1 (R : Tok → Value) : Retn := fun h₀ L m news s Q => 1 ≤ s.toks ∧ ∀ (t : Nat) (h' : Heap) (tk' : Nat), 1 ≤ t → s.toks ≤ tk' → Fr h₀ L h' m → News h₀ L h' news → Q (R t) { s with heap := h', toks := tk' }
set_option maxRecDepth 100000 in
set_option maxHeartbeats 8000000 in
theorem truedivT (w mean mg mb news) (a b : Int) (t1 t2 : Tok) (h1 : b ≠ 0) (h2 : Float64.isInf (Float64.ofFrac (decide (a < 0) != decide (b < 0)) a.natAbs b.natAbs) = false) : Con w mean mg mb 122 1 20 news [.int a t1, .int b t2] (RetT1 fun t => .float (Float64.ofFrac (decide (a < 0) != decide (b < 0)) a.natAbs b.natAbs) t) := by
  unfold Con; k_fill
  intros
  rename_i hret
  obtain ⟨hs1, hret⟩ := hret
  refine wpAny_call ?_
  cell_enter
  k_steps
  all_goals first
    | exact hret _ _ _ (by clear hret; first | walk_at "SW tl" | omega) (by clear hret; (try dsimp only); omega) (by assumption) (by assumption)
    | (exfalso; first | omega | simp_all)
set_option maxRecDepth 100000 in
set_option maxHeartbeats 8000000 in
theorem addFFT (w mean mg mb news) (a b : UInt64) (t1 t2 : Tok) : Con w mean mg mb 59 1 20 news [.float a t1, .float b t2] (RetT1 fun t => .float (Float64.add a b) t) := by
  unfold Con; k_fill
  intros
  rename_i hret
  obtain ⟨hs1, hret⟩ := hret
  refine wpAny_call ?_
  cell_enter
  k_steps
  all_goals first
    | exact hret _ _ _ (by clear hret; first | walk_at "SW tl" | omega) (by clear hret; (try dsimp only); omega) (by assumption) (by assumption)
    | (exfalso; first | omega | simp_all)
set_option maxRecDepth 100000 in
set_option maxHeartbeats 8000000 in
theorem truedivFT (w mean mg mb news) (a : UInt64) (b : Int) (t1 t2 : Tok) (h1 : b ≠ 0) (h2 : ¬ Flt.Over b) : Con w mean mg mb 122 1 20 news [.float a t1, .int b t2] (RetT1 fun t => .float (Float64.div a (Float64.ofInt b)) t) := by
  unfold Con; k_fill
  intros
  rename_i hret
  obtain ⟨hs1, hret⟩ := hret
  refine wpAny_call ?_
  cell_enter
  k_steps
  all_goals first
    | exact hret _ _ _ (by clear hret; first | walk_at "SW tl" | omega) (by clear hret; (try dsimp only); omega) (by assumption) (by assumption)
    | (exfalso; first | omega | simp_all)
end
section
/-- three floats, none of them a private one -/
noncomputable def IsT3p (r : Option (UInt64 × UInt64 × UInt64)) (o : Obj) : Prop := ∃ (x y z : UInt64) (t u v : Nat), (1 ≤ t ∧ 1 ≤ u ∧ 1 ≤ v) ∧ r = some (x, y, z) ∧ o = tup3 x y z t u v
noncomputable def RetO1 (P : Obj → Prop) : Retn := fun h₀ L m news s Q => 1 ≤ s.toks ∧ RetO P h₀ L m news s Q
noncomputable def RetB1p (P : Obj → Prop) : Retn := fun h₀ L m news s Q => 1 ≤ s.toks ∧ RetB P h₀ L m news s Q
set_option maxRecDepth 100000 in
set_option maxHeartbeats 8000000 in
theorem rhsvP (w mean mg mb news) (r g b : UInt64) (t1 t2 t3 : Nat) (ht : 1 ≤ t1 ∧ 1 ≤ t2 ∧ 1 ≤ t3) (hp : (rhsvF r g b).isSome = true) : Con w mean mg mb 45 4 40 news [.float r t1, .float g t2, .float b t3] (RetO1 (IsT3p (rhsvF r g b))) := by
  unfold Con; k_fill
  intros
  rename_i hret
  obtain ⟨hs1, hret⟩ := hret
  refine wpAny_call ?_
  cell_enter
  k_steps
  all_goals first
    | (exfalso; clear hret; simp only [rhsvF, *, reduceIte, Bool.false_eq_true, Option.isSome_none] at hp; done)
    | skip
  all_goals (refine hret _ _ _ _ (by assumption) (by assumption) (by assumption) ⟨_, _, _, _, _, _, ⟨?_, ?_, ?_⟩, ?_, rfl⟩ <;> clear hret)
  all_goals first
    | walk_at "SW tl"
    | (clear hp; omega)
    | (simp only [rhsvF, hueF, *, reduceIte, Bool.false_eq_true]; done)
    | skip
set_option maxRecDepth 100000 in
set_option maxHeartbeats 8000000 in
theorem rhlsP (w mean mg mb news) (r g b : UInt64) (t1 t2 t3 : Nat) (ht : 1 ≤ t1 ∧ 1 ≤ t2 ∧ 1 ≤ t3) (hp : (rhlsF r g b).isSome = true) : Con w mean mg mb 38 4 40 news [.float r t1, .float g t2, .float b t3] (RetO1 (IsT3p (rhlsF r g b))) := by
  unfold Con; k_fill
  intros
  rename_i hret
  obtain ⟨hs1, hret⟩ := hret
  refine wpAny_call ?_
  cell_enter
  k_steps
  all_goals first
    | (exfalso; clear hret; simp only [rhlsF, *, reduceIte, Bool.false_eq_true, Option.isSome_none] at hp; done)
    | skip
  all_goals (refine hret _ _ _ _ (by assumption) (by assumption) (by assumption) ⟨_, _, _, _, _, _, ⟨?_, ?_, ?_⟩, ?_, rfl⟩ <;> clear hret)
  all_goals first
    | walk_at "SW tl"
    | (clear hp; omega)
    | (simp only [rhlsF, hueF, *, reduceIte, Bool.false_eq_true]; done)
    | skip
set_option maxRecDepth 100000 in
set_option maxHeartbeats 8000000 in
theorem hsvP' (w mean mg mb news) (h s v : UInt64) (t1 t2 t3 : Nat) (ht : 1 ≤ t3) (hp : (hsvF h s v).isSome = true) : Con w mean mg mb 52 4 40 news [.float h t1, .float s t2, .float v t3] (RetO1 (IsT3p (hsvF h s v))) := by
  unfold Con; k_fill
  intros
  rename_i hret
  obtain ⟨hs1, hret⟩ := hret
  refine wpAny_call ?_
  cell_enter
  k_steps
  all_goals first
    | (exfalso; clear hret
       try have n1 := nan_not (x := Float64.mul h 4618441417868443648) (by assumption)
       try have n2 := inf_not (x := Float64.mul h 4618441417868443648) (by assumption)
       try have n3 := Nat.not_le_of_lt (show (hsvI h).natAbs < 2 ^ 1024 - 2 ^ 970 by assumption)
       try rw [show Flt.toInt Float64.truncOf (Float64.mul h 4618441417868443648) = hsvI h from rfl] at *
       simp (config := { decide := true }) only [hsvF, *, reduceIte, Bool.false_eq_true, Bool.true_eq_false, Option.isSome_none] at hp; done)
    | skip
  all_goals (refine hret _ _ _ _ (by assumption) (by assumption) (by assumption) ⟨_, _, _, _, _, _, ⟨?_, ?_, ?_⟩, ?_, rfl⟩ <;> clear hret)
  all_goals first
    | walk_at "SW tl"
    | (clear hp; omega)
    | (try have n3 := Nat.not_le_of_lt (show (hsvI h).natAbs < 2 ^ 1024 - 2 ^ 970 by assumption)
       try rw [show Flt.toInt Float64.truncOf (Float64.mul h 4618441417868443648) = hsvI h from rfl] at *
       simp (config := { decide := true }) only [hsvF, hsvP, hsvQ, hsvT, hsvR, *, reduceIte, Bool.false_eq_true, Bool.true_eq_false]; done)
    | skip
end
section
local macro_rules | `(tactic| walk_at "compareOp In int ref") => `(tactic| (k_dflt (refine' in_tupN ?n ?m ?i ?_; (case n => k_asm); (case m => k_mem); (case i => exact .cons _ _ (.cons _ _ (.cons _ _ .nil))))))
/-- as IsT3v; none of the floats is a private one -/
noncomputable def IsT3vp (r : UInt64 × UInt64 × UInt64) (o : Obj) : Prop := ∃ (t u v : Nat), (1 ≤ t ∧ 1 ≤ u ∧ 1 ≤ v) ∧ o = tup3 r.1 r.2.1 r.2.2 t u v
theorem t3vp_of {r : UInt64 × UInt64 × UInt64} {x y z : UInt64} {t u v : Nat} (h : r = (x, y, z)) (ht : 1 ≤ t ∧ 1 ≤ u ∧ 1 ≤ v) : IsT3vp r { cls := .type "tuple", data := .seq #[.float x t, .float y u, .float z v] } := by subst h; exact ⟨t, u, v, ht, rfl⟩
theorem four1023 {v : Int} (h : 1 ≤ v ∧ v ≤ 4) : v.natAbs < 2 ^ 1023 := by omega
theorem four64' {v : Int} (h : 1 ≤ v ∧ v ≤ 4) : -2 ^ 64 < v ∧ v < 2 ^ 64 := by omega
set_option maxRecDepth 100000 in
set_option maxHeartbeats 8000000 in
theorem dueP' (w mean mg mb) (c sh v : Int) (t1 t2 t3 : Tok) (hc : 0 ≤ c ∧ c < 6) (hs : 1 ≤ sh ∧ sh ≤ 4) (hv : 1 ≤ v ∧ v ≤ 4) : ConB w mean mg mb 193 8 80 [.int c t1, .int sh t2, .int v t3] (fun h => True) (RetB1p (IsT3vp (dueF c sh v))) := by
  unfold ConB; k_fill
  intro news dp un gd cn cs a ccd cl outer A₀ base h₀ L m s Q E B F X N T hk hd hu hp hr
  obtain ⟨hs1, hr⟩ := hr
  have hv9 := four1023 hv
  have hv8 := (four64' hv).1
  have hv7 := (four64' hv).2
  refine wpAny_call ?_
  k_dflt (walk_at "SW enter")
  intro g L1 h1' hg FG F1 N1 B1 X1 T1
  (try dsimp only)
  k_fold
  repeat' (walk_at "SW step")
  all_goals first
    | (exfalso
       have h16 := frac16_fin hs hv
       unfold fracF at h16
       rename Float64.isInf _ = true => hb
       rw [h16] at hb
       exact Bool.noConfusion hb)
    | skip
  all_goals rename Fr h₀ L _ _ => kF
  all_goals rename News h₀ L _ _ => kN
  all_goals rename Fr g _ _ _ => gF
  all_goals rename News g _ _ _ => gN
  all_goals (refine RetB.back hr N hg gF gN kF kN (.head _) (t3vp_of ?_ ⟨?_, ?_, ?_⟩) <;> clear hr kF kN gF gN N F)
  all_goals first
    | walk_at "SW tl"
    | omega
    | (simp only [dueF, dueP, fracF, *, reduceIte, Bool.false_eq_true]; done)
    | skip
end
end
section
/-- an item of a temporary: letting it go is no step that counts -/
theorem slice_tmp {prog : Program} {w : World} {A : Around} {E : Value → Shared → Prop} {s : Shared} {value slice : Expr} {o i : Value} {Q : Value → Shared → Prop} (x : PySem.Str) (p : Pos)
    (h : wpAny (model prog w) A (subscriptTail (.Name x p) slice o i) Q E s) : wpAny (model prog w) A (subscriptTail value slice o i) Q E s := by
  intro Γ p₀ hΓ
  have h1 := h Γ p₀ hΓ
  unfold subscriptTail at h1 ⊢
  rw [Sem.wp_bind'] at h1 ⊢
  refine Sem.wp_mono _ _ _ (fun b p₁ s₁ h2 => ?_) (fun _ _ _ h => h) _ _ h1
  rw [Sem.wp_bind'] at h2 ⊢
  refine Sem.wp_mono _ _ _ (fun r p₂ s₂ h3 => ?_) (fun _ _ _ h => h) _ _ h2
  exact (wpAny_bind (m := letTemporaryGo value o r) (f := fun _ => pure r) (Q := Q) (E := E) (wpAny_letTemporaryGo (wpAny_pure h3))) Γ p₂ hΓ
theorem ex_cell {o : Obj} {v : Option Value} (h : o.data = .cell v) : ∃ v', o.data = .cell v' := ⟨v, h⟩
theorem fr_key {g h : Heap} {L : Addr} {m : PySem.Str → Option Value} {x : PySem.Str} {v : Value} (F : Fr g L h m) (e : m x = some v) : Fr g L h (fun z => if z = x then some v else m z) := by
  have : (fun z => if z = x then some v else m z) = m := by
    funext z
    by_cases q : z = x
    · simp [q, e]
    · simp [q]
  rw [this]; exact F
theorem ints_item {vs : List Value} {ns : List Int} (h : IntsAre vs ns) (i : Nat) (v : Value) (hv : vs[i]? = some v) : ∃ k t, v = .int k t ∧ ns[i]? = some k := by
  have hlt : i < ns.length := by rw [← h.length]; exact (List.getElem?_eq_some_iff.mp hv).1
  obtain ⟨t, hx⟩ := h.get i ns[i] (by simp [hlt])
  rw [hv] at hx
  exact ⟨_, t, Option.some.inj hx, by simp [hlt]⟩
theorem ints_named {vs : List Value} {ns : List Int} (h : IntsAre vs ns) : ∃ xs, xs = ns ∧ IntsAre vs xs := ⟨ns, rfl, h⟩
theorem ints_drop {vs : List Value} {ns : List Int} (h : IntsAre vs ns) (n : Nat) : IntsAre (vs.drop n) (ns.drop n) := by
  induction h generalizing n with
  | nil => simp; exact .nil
  | cons y t _ ih =>
    cases n with
    | zero => exact .cons _ _ (ih 0)
    | succ n => exact ih n
theorem fmod_six (xs : List Int) : ∀ z ∈ xs.map fun k : Int => k.fmod (10 ^ Int.toNat 6), 0 ≤ z ∧ z < 1000000 := by
  intro z hz
  obtain ⟨k, _, rfl⟩ := List.mem_map.mp hz
  have e : (10 : Int) ^ Int.toNat 6 = 1000000 := by decide
  rw [e, Int.fmod_eq_emod_of_nonneg _ (by decide)]
  omega
noncomputable def bitI (ns : List Int) (j : Nat) : Int := (ns.getD j 0).fmod 2 * 2 ^ j
theorem bits_next {ns : List Int} {i : Nat} : (List.range (i + 1)).map (bitI ns) = (List.range i).map (bitI ns) ++ [bitI ns i] := by
  rw [List.range_succ, List.map_append]; rfl
theorem bits_sum (ns : List Int) : ∃ o : Nat, o < 64 ∧ (((List.range 6).map (bitI ns)).sum = (o : Int)) := by
  have h : ∀ a : Int, 0 ≤ a.fmod 2 ∧ a.fmod 2 < 2 := fun a => by rw [Int.fmod_eq_emod_of_nonneg _ (by decide)]; omega
  have h0 := h (ns.getD 0 0)
  have h1 := h (ns.getD 1 0)
  have h2 := h (ns.getD 2 0)
  have h3 := h (ns.getD 3 0)
  have h4 := h (ns.getD 4 0)
  have h5 := h (ns.getD 5 0)
  refine ⟨(((List.range 6).map (bitI ns)).sum).toNat, ?_, ?_⟩ <;>
  · simp only [List.range, List.range.loop, List.map_cons, List.map_nil, List.sum_cons, List.sum_nil, bitI]
    generalize (ns.getD 0 0).fmod 2 = a0 at *
    generalize (ns.getD 1 0).fmod 2 = a1 at *
    generalize (ns.getD 2 0).fmod 2 = a2 at *
    generalize (ns.getD 3 0).fmod 2 = a3 at *
    generalize (ns.getD 4 0).fmod 2 = a4 at *
    generalize (ns.getD 5 0).fmod 2 = a5 at *
    omega
theorem news_prune4 {h₀ h : Heap} {L : Addr} {a b c d e : Addr × Obj} {r : Led} (N : News h₀ L h (a :: b :: c :: d :: e :: r)) : News h₀ L h (a :: r) := fun p hp => N p (by
  rcases List.mem_cons.mp hp with rfl | hp
  · exact .head _
  · exact .tail _ (.tail _ (.tail _ (.tail _ (.tail _ hp)))))
theorem news_prune2 {h₀ h : Heap} {L : Addr} {a b c : Addr × Obj} {r : Led} (N : News h₀ L h (a :: b :: c :: r)) : News h₀ L h (a :: r) := fun p hp => N p (by
  rcases List.mem_cons.mp hp with rfl | hp
  · exact .head _
  · exact .tail _ (.tail _ (.tail _ hp)))
theorem off1_of {D : Addr} : ∀ {l : Led}, (∀ p ∈ l, p.1 ≠ D) → LCg.Off1 D l
  | [], _ => trivial
  | _ :: _, h => ⟨h _ (.head _), off1_of fun p hp => h p (.tail _ hp)⟩
theorem item_wordI {prog : Program} {w : World} {A : Around} {E : Value → Shared → Prop} {s : Shared} {value slice : PySem.Expr} {l : Addr} {vs : List Value} {j : Int} {u : Tok} {Q : Value → Shared → Prop} (hl : s.heap.IsList l vs.toArray) (hS : StrsAre vs (textsL 6)) (h0 : 0 ≤ j) (h1 : j < 64)
    (h : ∀ t', Q (.str (word j.toNat) t') s)
    (hs : subscripted slice false (.ref l) (.int j u) = operate [.ref l, .int j u] (getItem (.ref l) (.int j u)) := by with_unfolding_all rfl) :
    wpAny (model prog w) A (subscriptTail value slice (.ref l) (.int j u)) Q E s :=
  KTb.item_list hl hS h0 (by rw [texts_length]; omega) (by omega) (fun t' _ => h t') hs
theorem news_drop1 {h₀ h : Heap} {L : Addr} {a : Addr × Obj} {r : Led} (N : News h₀ L h (a :: r)) : News h₀ L h r := fun p hp => N p (.tail _ hp)
theorem kin_facts {o : Nat} (h : o < 64) : (kinL (o : Int) 64).length ≤ 64 ∧ ∀ x ∈ kinL (o : Int) 64, 0 ≤ x ∧ x < 64 := by
  have h' : ∀ o : Fin 64, (kinL (o.val : Int) 64).length ≤ 64 ∧ ∀ x ∈ kinL (o.val : Int) 64, 0 ≤ x ∧ x < 64 := by decide +kernel
  exact h' ⟨o, h⟩
theorem int_named (i : Int) : ∃ j, j = i := ⟨i, rfl⟩
theorem ints_snoc' {vs : List Value} {ns : List Int} (h : IntsAre vs ns) {k k' : Int} (t : Tok) (e : k = k') : IntsAre (vs ++ [.int k t]) (ns ++ [k']) := e ▸ ints_snoc h k t
theorem map_next {f : Int → Int} {ns : List Int} {i : Nat} {k : Int} (h : ns[i]? = some k) : (ns.take (i + 1)).map f = (ns.take i).map f ++ [f k] := by
  rw [List.take_add_one, h, List.map_append]; rfl
theorem z0i (n : Nat) : (0 : Int) ≤ 0 + (n : Int) := by omega
theorem z0lt {n m : Nat} (h : n < m) : (0 : Int) + (n : Int) < (m : Int) := by omega
theorem z063 {n m : Nat} (h : n < m) (hm : m ≤ 64) : (0 : Int) + (n : Int) < 2 ^ 63 := by omega
theorem four64 {v : Int} (h1 : 1 ≤ v) (h2 : v ≤ 4) : -2 ^ 64 < v ∧ v < 2 ^ 64 := by omega
theorem tn64 {k : Int} (h : k < 64) : k.toNat < 64 := by omega
end
section
noncomputable def kindS (c : Int) (k : Nat) : PySem.Str := [PySem.Str.ofString "\n", PySem.Str.ofString "\r", PySem.Str.ofString "\r\n"].getD ((c + (0 + (k : Int))).fmod 3).toNat PySem.Str.empty
noncomputable def kword (kin : List Int) (k : Nat) : PySem.Str := word (kin.getD (0 + (k : Int)).toNat 0).toNat
noncomputable def mailStep (c : Int) (kin : List Int) (acc : PySem.Str) (k : Nat) : PySem.Str := acc ++ (PySem.Str.ofString "a" ++ Txt.replace (kword kin k) (PySem.Str.ofString "-") (kindS c k))
noncomputable def dueStep (kin : List Int) (acc : PySem.Str) (k : Nat) : PySem.Str := acc ++ PySem.Str.ofString "a" ++ Txt.replace (Txt.replace (kword kin k) (PySem.Str.ofString "-.") (PySem.Str.ofString "-..")) (PySem.Str.ofString "-") (PySem.Str.ofString "\r\n")
noncomputable def mailP (c : Int) (kin : List Int) (i : Nat) : PySem.Str := (List.range i).foldl (mailStep c kin) (PySem.Str.ofString "")
noncomputable def dmP (kin : List Int) (i : Nat) : PySem.Str := (List.range i).foldl (dueStep kin) (PySem.Str.ofString "")
theorem mailP_next (c : Int) (kin : List Int) (i : Nat) : mailP c kin (i + 1) = mailStep c kin (mailP c kin i) i := by
  unfold mailP; rw [List.range_succ, List.foldl_append]; rfl
theorem dmP_next (kin : List Int) (i : Nat) : dmP kin (i + 1) = dueStep kin (dmP kin i) i := by
  unfold dmP; rw [List.range_succ, List.foldl_append]; rfl
theorem small_of {n : Nat} (h : n ≤ 4000) : Builtin.Range.small 0 (n : Int) 1 = true := by
  unfold Builtin.Range.small
  rw [rangeSize_nat]
  unfold Builtin.Range.rangeFitsLong
  simp
  omega
theorem size_of (n : Nat) : Builtin.Range.rangeSize 0 (n : Int) 1 = (n : Int) := by rw [rangeSize_nat]; simp
noncomputable def mailJ (c : Int) (kin : List Int) (nw : Led) (m0 : PySem.Str → Option Value) (i : Nat) (m : PySem.Str → Option Value) (nx : Led) : Prop :=
  ∃ (u : PySem.Str → Option Value) (ta tm : Tok), m = (fun z => if z = PySem.Str.ofString "mail" then some (.str (mailP c kin i) ta) else if z = PySem.Str.ofString "due" then some (.str (dmP kin i) tm) else if z = PySem.Str.ofString "k" then u z else if z = PySem.Str.ofString "text" then u z else m0 z) ∧ nx = nw ∧ (mailP c kin i).length ≤ 25 * i ∧ (dmP kin i).length ≤ 25 * i
theorem map_of4 {x x' y₁ y₂ : PySem.Str} {v₁ v₂ : Value} {m' M : PySem.Str → Option Value} (h1 : m' y₁ = some v₁) (h2 : m' y₂ = some v₂) (h : ∀ z, z ≠ x → z ≠ x' → z ≠ y₁ → z ≠ y₂ → m' z = M z) :
    m' = fun z => if z = y₁ then some v₁ else if z = y₂ then some v₂ else if z = x then m' z else if z = x' then m' z else M z := by
  funext z
  by_cases e1 : z = y₁
  · simp [e1, h1]
  · by_cases e2 : z = y₂
    · subst e2; simp [e1, h2]
    · by_cases e : z = x
      · subst e; simp [e1, e2]
      · by_cases e' : z = x'
        · subst e'; simp [e1, e2, e]
        · simp [e, e', e1, e2, h z e e' e1 e2]
theorem word_rep (j : Nat) (hj : j < 64) : (Txt.replace (word j) (PySem.Str.ofString "-") (PySem.Str.ofString "\n")).length ≤ 20 ∧ (Txt.replace (word j) (PySem.Str.ofString "-") (PySem.Str.ofString "\r")).length ≤ 20 ∧ (Txt.replace (word j) (PySem.Str.ofString "-") (PySem.Str.ofString "\r\n")).length ≤ 20 ∧ (Txt.replace (word j) (PySem.Str.ofString "-.") (PySem.Str.ofString "-..")).length ≤ 20 ∧ (Txt.replace (Txt.replace (word j) (PySem.Str.ofString "-.") (PySem.Str.ofString "-..")) (PySem.Str.ofString "-") (PySem.Str.ofString "\r\n")).length ≤ 20 := by
  have h' : ∀ j : Fin 64, (Txt.replace (word j.val) (PySem.Str.ofString "-") (PySem.Str.ofString "\n")).length ≤ 20 ∧ (Txt.replace (word j.val) (PySem.Str.ofString "-") (PySem.Str.ofString "\r")).length ≤ 20 ∧ (Txt.replace (word j.val) (PySem.Str.ofString "-") (PySem.Str.ofString "\r\n")).length ≤ 20 ∧ (Txt.replace (word j.val) (PySem.Str.ofString "-.") (PySem.Str.ofString "-..")).length ≤ 20 ∧ (Txt.replace (Txt.replace (word j.val) (PySem.Str.ofString "-.") (PySem.Str.ofString "-..")) (PySem.Str.ofString "-") (PySem.Str.ofString "\r\n")).length ≤ 20 := by decide +kernel
  exact h' ⟨j, hj⟩
theorem getD_of {l : List Int} {i : Nat} (h : i < l.length) : l[i]? = some (l.getD (0 + (i : Int)).toNat 0) := by
  rw [Int.zero_add, Int.toNat_natCast, List.getD_eq_getElem?_getD, List.getElem?_eq_getElem h]; rfl
theorem kindS_three (c : Int) (k : Nat) : kindS c k = PySem.Str.ofString "\n" ∨ kindS c k = PySem.Str.ofString "\r" ∨ kindS c k = PySem.Str.ofString "\r\n" := by
  unfold kindS
  have h : 0 ≤ (c + (0 + (k : Int))).fmod 3 ∧ (c + (0 + (k : Int))).fmod 3 < 3 := by rw [Int.fmod_eq_emod_of_nonneg _ (by decide)]; omega
  generalize (c + (0 + (k : Int))).fmod 3 = q at h
  have : q = 0 ∨ q = 1 ∨ q = 2 := by omega
  rcases this with rfl | rfl | rfl
  · exact .inl rfl
  · exact .inr (.inl rfl)
  · exact .inr (.inr rfl)
theorem mail_len {c : Int} {kin : List Int} {i : Nat} (h : (mailP c kin i).length ≤ 25 * i) (hk : (kin.getD (0 + (i : Int)).toNat 0).toNat < 64) : (mailP c kin (i + 1)).length ≤ 25 * (i + 1) := by
  rw [mailP_next]
  unfold mailStep
  rw [PySem.Str.length_append, PySem.Str.length_append]
  have ha : (PySem.Str.ofString "a").length = 1 := by decide +kernel
  have hw := word_rep _ hk
  have hr : (Txt.replace (kword kin i) (PySem.Str.ofString "-") (kindS c i)).length ≤ 20 := by
    unfold kword
    rcases kindS_three c i with e | e | e <;> rw [e]
    · exact hw.1
    · exact hw.2.1
    · exact hw.2.2.1
  omega
theorem dm_len {kin : List Int} {i : Nat} (h : (dmP kin i).length ≤ 25 * i) (hk : (kin.getD (0 + (i : Int)).toNat 0).toNat < 64) : (dmP kin (i + 1)).length ≤ 25 * (i + 1) := by
  rw [dmP_next]
  unfold dueStep
  rw [PySem.Str.length_append, PySem.Str.length_append]
  have ha : (PySem.Str.ofString "a").length = 1 := by decide +kernel
  have hw := (word_rep _ hk).2.2.2.2
  unfold kword
  omega
theorem mail_n {c : Int} {kin : List Int} {i : Nat} {q : Int} (h : (c + (0 + (i : Int))).fmod 3 = q) : mailP c kin (i + 1) = mailP c kin i ++ (PySem.Str.ofString "a" ++ Txt.replace (word (kin.getD (0 + (i : Int)).toNat 0).toNat) (PySem.Str.ofString "-") ([PySem.Str.ofString "\n", PySem.Str.ofString "\r", PySem.Str.ofString "\r\n"].getD q.toNat PySem.Str.empty)) := by
  rw [mailP_next]; unfold mailStep kword kindS; rw [h]
theorem dm_n {kin : List Int} {i : Nat} : dmP kin (i + 1) = dmP kin i ++ PySem.Str.ofString "a" ++ Txt.replace (Txt.replace (word (kin.getD (0 + (i : Int)).toNat 0).toNat) (PySem.Str.ofString "-.") (PySem.Str.ofString "-..")) (PySem.Str.ofString "-") (PySem.Str.ofString "\r\n") := dmP_next _ _
inductive KStop : Prop | mk
theorem gen_toks {M : Model} {A : Around} {α : Type} {t : Sem α} {Q : α → Shared → Prop} {E : Value → Shared → Prop} {s : Shared} (H : ∀ tk', s.toks ≤ tk' → wpAny M A t Q E { s with toks := tk' }) : wpAny M A t Q E s := H s.toks (Nat.le_refl _)
theorem len_addA {r : PySem.Str} (h : r.length ≤ 20) : (PySem.Str.ofString "a" ++ r).length < 10000 := by
  have ha : (PySem.Str.ofString "a").length = 1 := by decide +kernel
  rw [PySem.Str.length_append, ha]; omega
end
section
/-- the lists that kinL gives -/
noncomputable def kinC : List (List Int) :=
  [[0], [1, 2, 4, 8, 16, 32], [3, 6, 12, 24, 33, 48], [5, 9, 10, 17, 18, 20, 34, 36, 40], [7, 14, 28, 35, 49, 56], [11, 13, 19, 22, 25, 26, 37, 38, 41, 44, 50, 52],
   [15, 30, 39, 51, 57, 60], [21, 42], [23, 27, 29, 43, 45, 46, 53, 54, 58], [31, 47, 55, 59, 61, 62], [63]]
theorem kin_class {o : Nat} (h : o < 64) : kinL (o : Int) 64 ∈ kinC := by
  have h' : ∀ o : Fin 64, kinL (o.val : Int) 64 ∈ kinC := by decide +kernel
  exact h' ⟨o, h⟩
theorem kindS_mod (c : Int) (k : Nat) : kindS c k = kindS (c.fmod 3) k := by
  unfold kindS
  have : (c + (0 + (k : Int))).fmod 3 = (c.fmod 3 + (0 + (k : Int))).fmod 3 := by
    rw [Int.fmod_eq_emod_of_nonneg _ (by decide), Int.fmod_eq_emod_of_nonneg _ (by decide), Int.fmod_eq_emod_of_nonneg _ (by decide)]; omega
  rw [this]
theorem mailP_mod (c : Int) (kin : List Int) (n : Nat) : mailP c kin n = mailP (c.fmod 3) kin n := by
  induction n with
  | zero => rfl
  | succ n ih => rw [mailP_next, mailP_next, ih]; unfold mailStep; rw [kindS_mod]
/-- the mail with its newlines turned -/
noncomputable def midP (kin : List Int) : PySem.Str := mailP 2 kin 0
noncomputable def midStep (kin : List Int) (acc : PySem.Str) (k : Nat) : PySem.Str := acc ++ (PySem.Str.ofString "a" ++ Txt.replace (kword kin k) (PySem.Str.ofString "-") (PySem.Str.ofString "\r\n"))
noncomputable def midA (kin : List Int) : PySem.Str := (List.range kin.length).foldl (midStep kin) (PySem.Str.ofString "")
noncomputable def qOk (c : Int) (kin : List Int) : Bool := decide (subT' code2 crlfT (mailP c kin kin.length) = some (midA kin))
noncomputable def qOk1 (kin : List Int) : Bool := decide (subT' code1 dots2 (midA kin) = some (dmP kin kin.length)) && decide ((midA kin).cps.size ≤ 4000)
/-- the parts of what is sent -/
noncomputable def partsP (kin : List Int) : List PySem.Str := (Txt.split (dmP kin kin.length) (PySem.Str.ofString "a")).drop 1
noncomputable def majL (kin : List Int) : List Int := (partsP kin).map majF
noncomputable def partOk (p : PySem.Str) : Bool := decide (p.length ≤ 100) && (Txt.split p (PySem.Str.ofString "\r\n")).all (fun r => decide (r.length ≤ 100)) && decide ((Txt.split p (PySem.Str.ofString "\r\n")).length ≤ 100)
theorem strs_named {vs : List Value} {ns : List PySem.Str} (h : StrsAre vs ns) : ∃ xs, xs = ns ∧ StrsAre vs xs := ⟨ns, rfl, h⟩
theorem map_nextS {f : PySem.Str → Int} {ns : List PySem.Str} {i : Nat} {k : PySem.Str} (h : ns[i]? = some k) : (ns.take (i + 1)).map f = (ns.take i).map f ++ [f k] := by
  rw [List.take_add_one, h, List.map_append]; rfl
theorem news_pick {h₀ h : Heap} {L a : Addr} {vs : List Value} {k : Nat} {r : Led} (N : News h₀ L h ((a, ({ cls := .type "list", data := .seq (slicePick vs.toArray (some 1) none none) k } : Obj)) :: r)) : News h₀ L h ((a, ({ cls := .type "list", data := .seq (vs.drop 1).toArray k } : Obj)) :: r) := by
  have e := slicePick_from' vs.toArray 1
  have e2 : slicePick vs.toArray (some 1) none none = (vs.drop 1).toArray := e
  rw [e2] at N
  exact N
/-- what comes of a word -/
noncomputable def pw (j : Nat) : PySem.Str := Txt.replace (Txt.replace (word j) (PySem.Str.ofString "-.") (PySem.Str.ofString "-..")) (PySem.Str.ofString "-") (PySem.Str.ofString "\r\n")
end
section
theorem crlf_cons (b : Bool) (c : Nat) (t : List Nat) : crlfL b (c :: t) = if c = 10 then (if b then crlfL false t else 13 :: 10 :: crlfL false t) else if c = 13 then 13 :: 10 :: crlfL true t else c :: crlfL false t := rfl
theorem dots_cons (b : Bool) (c : Nat) (t : List Nat) : dotsL b (c :: t) = if b = true ∧ c = 46 then 46 :: 46 :: dotsL false t else c :: dotsL (c == 10) t := rfl
theorem crlf_app (L t : List Nat) : ∀ b, crlfL b (L ++ 97 :: t) = crlfL b L ++ 97 :: crlfL false t := by
  induction L with
  | nil => intro b; rfl
  | cons c L ih =>
    intro b
    rw [List.cons_append, crlf_cons, crlf_cons]
    by_cases h1 : c = 10
    · rw [if_pos h1, if_pos h1, ih]
      cases b <;> rfl
    · by_cases h2 : c = 13
      · rw [if_neg h1, if_neg h1, if_pos h2, if_pos h2, ih]; rfl
      · rw [if_neg h1, if_neg h1, if_neg h2, if_neg h2, ih]; rfl
theorem dots_app (L t : List Nat) : ∀ b, dotsL b (L ++ 97 :: t) = dotsL b L ++ 97 :: dotsL false t := by
  induction L with
  | nil => intro b; cases b <;> rfl
  | cons c L ih =>
    intro b
    rw [List.cons_append, dots_cons, dots_cons]
    by_cases h1 : b = true ∧ c = 46
    · rw [if_pos h1, if_pos h1, ih]; rfl
    · rw [if_neg h1, if_neg h1, ih]; rfl
/-- a word with its dashes turned comes out as pw says -/
noncomputable def qw (j : Nat) (s : PySem.Str) : Bool := Nat.blt s.cps.size 13 && Nat.blt (crlfL false s.cps.toList).length 13 && decide (dotsL false (crlfL false s.cps.toList) = (pw j).cps.toList)
noncomputable def qw3 (j : Nat) : Bool := qw j (Txt.replace (word j) (PySem.Str.ofString "-") (PySem.Str.ofString "\n")) && qw j (Txt.replace (word j) (PySem.Str.ofString "-") (PySem.Str.ofString "\r")) && qw j (Txt.replace (word j) (PySem.Str.ofString "-") (PySem.Str.ofString "\r\n")) && Nat.blt (pw j).cps.size 25 && (pw j).cps.toList.all (fun c => !Nat.beq c 97)
theorem word_q : ∀ j : Fin 64, qw3 j.val = true := by decide +kernel
theorem pw_ok : ∀ j : Fin 64, partOk (pw j.val) = true := by decide +kernel
theorem kin_small : ∀ kin ∈ kinC, ∀ k ∈ kin, 0 ≤ k ∧ k < 64 := by decide +kernel
theorem kin_len : ∀ kin ∈ kinC, kin.length ≤ 12 ∧ kin ≠ [] := by decide +kernel
theorem a97 : PySem.Str.ofString "a" = ⟨#[97]⟩ := by decide +kernel
theorem kin_at {kin : List Int} (hk : ∀ k ∈ kin, 0 ≤ k ∧ k < 64) {i : Nat} (hi : i < kin.length) : ∃ j, j < 64 ∧ kword kin i = word j ∧ kin[i]?.map Int.toNat = some j := by
  have h := getD_of hi
  obtain ⟨h0, h1⟩ := hk _ (List.mem_of_getElem? h)
  exact ⟨(kin.getD (0 + (i : Int)).toNat 0).toNat, by omega, rfl, by rw [h]; rfl⟩
theorem str_app (x y : PySem.Str) : (x ++ y).cps.toList = x.cps.toList ++ y.cps.toList := by
  rw [PySem.Str.cps_append, Array.toList_append]
theorem mail_q {c : Int} {kin : List Int} (hk : ∀ k ∈ kin, 0 ≤ k ∧ k < 64) : ∀ i, i ≤ kin.length → (mailP c kin i).cps.toList.length ≤ 13 * i ∧ (crlfL false (mailP c kin i).cps.toList).length ≤ 13 * i ∧ (dmP kin i).cps.toList.length ≤ 25 * i ∧ dotsL true (crlfL false (mailP c kin i).cps.toList) = (dmP kin i).cps.toList := by
  intro i
  induction i with
  | zero => intro _; exact ⟨Nat.le_refl _, Nat.le_refl _, Nat.le_refl _, rfl⟩
  | succ i ih =>
    intro hi
    obtain ⟨i1, i2, i3, i4⟩ := ih (by omega)
    obtain ⟨j, hj, hw, _⟩ := kin_at hk (show i < kin.length by omega)
    have hq := word_q ⟨j, hj⟩
    unfold qw3 at hq
    simp only [Bool.and_eq_true] at hq
    obtain ⟨⟨⟨⟨q1, q2⟩, q3⟩, q4⟩, _⟩ := hq
    have hs : qw j (Txt.replace (kword kin i) (PySem.Str.ofString "-") (kindS c i)) = true := by
      rw [hw]
      rcases kindS_three c i with e | e | e <;> rw [e]
      · exact q1
      · exact q2
      · exact q3
    have em : (mailP c kin (i + 1)).cps.toList = (mailP c kin i).cps.toList ++ 97 :: (Txt.replace (kword kin i) (PySem.Str.ofString "-") (kindS c i)).cps.toList := by
      rw [mailP_next]; unfold mailStep; rw [str_app, str_app, a97]; rfl
    have ed : (dmP kin (i + 1)).cps.toList = (dmP kin i).cps.toList ++ 97 :: (pw j).cps.toList := by
      rw [dmP_next]; unfold dueStep; rw [hw, str_app, str_app, a97, List.append_assoc]; rfl
    unfold qw at hs
    simp only [Bool.and_eq_true] at hs
    obtain ⟨⟨s1, s2⟩, s3⟩ := hs
    have s1 := Nat.le_of_ble_eq_true s1
    have s2 := Nat.le_of_ble_eq_true s2
    have q4 := Nat.le_of_ble_eq_true q4
    have s3 := of_decide_eq_true s3
    rw [em, ed, crlf_app, dots_app, i4, s3]
    refine ⟨?_, ?_, ?_, rfl⟩
    · rw [List.length_append, List.length_cons, Array.length_toList (xs := (Txt.replace (kword kin i) (PySem.Str.ofString "-") (kindS c i)).cps)]; omega
    · rw [List.length_append, List.length_cons]; omega
    · rw [List.length_append, List.length_cons, Array.length_toList (xs := (pw j).cps)]; omega
theorem quote_ok {kin : List Int} (h : kin ∈ kinC) (c : Int) : (mailP c kin kin.length).cps.size ≤ 4000 ∧ ∃ mid : PySem.Str, mid.cps.size ≤ 4000 ∧ subT' code2 crlfT (mailP c kin kin.length) = some mid ∧ subT' code1 dots2 mid = some (dmP kin kin.length) := by
  obtain ⟨h1, h2, h3, h4⟩ := mail_q (c := c) (kin_small kin h) _ (Nat.le_refl _)
  have hl := (kin_len kin h).1
  rw [Array.length_toList] at h1
  have hm : (⟨(crlfL false (mailP c kin kin.length).cps.toList).toArray⟩ : PySem.Str).cps.toList = crlfL false (mailP c kin kin.length).cps.toList := rfl
  refine ⟨by omega, ⟨(crlfL false (mailP c kin kin.length).cps.toList).toArray⟩, ?_, sub2 (by omega) (by omega), ?_⟩
  · show (crlfL false (mailP c kin kin.length).cps.toList).toArray.size ≤ 4000
    rw [List.size_toArray]; omega
  · rw [sub1 (by show (crlfL false (mailP c kin kin.length).cps.toList).toArray.size < 200; rw [List.size_toArray]; omega) (by rw [hm, h4]; omega), hm, h4]
/-- what a list of parts makes behind its first -/
noncomputable def gl (ps : List PySem.Str) : List Nat := ps.flatMap fun q => 97 :: q.cps.toList
theorem join_gl (p : PySem.Str) (ps : List PySem.Str) : (PySem.Str.join ⟨#[97]⟩ (p :: ps)).cps.toList = p.cps.toList ++ gl ps := by
  induction ps generalizing p with
  | nil => show p.cps.toList = _; simp [gl]
  | cons q ps ih =>
    show (p ++ ⟨#[97]⟩ ++ PySem.Str.join ⟨#[97]⟩ (q :: ps)).cps.toList = _
    rw [str_app, str_app, ih, List.append_assoc]; rfl
theorem take_gl (p : List Nat) (ps : List PySem.Str) (h : ∀ c ∈ p, c ≠ 97) : (p ++ gl ps).takeWhile (fun c => c != 97) = p := by
  rw [List.takeWhile_append_of_pos (by intro c hc; simpa using h c hc)]
  cases ps with
  | nil => simp [gl]
  | cons q ps => show p ++ List.takeWhile _ (97 :: _) = p; simp
theorem gl_one : ∀ (ps qs : List PySem.Str) (p q : List Nat), (∀ c ∈ p, c ≠ 97) → (∀ c ∈ q, c ≠ 97) → (∀ x ∈ ps, ∀ c ∈ x.cps.toList, c ≠ 97) → (∀ x ∈ qs, ∀ c ∈ x.cps.toList, c ≠ 97) → p ++ gl ps = q ++ gl qs → p = q ∧ ps = qs := by
  intro ps
  induction ps with
  | nil =>
    intro qs p q hp hq _ hqs e
    have e1 : p = q := by rw [← take_gl p [] hp, e, take_gl q qs hq]
    subst e1
    have e2 := List.append_cancel_left e
    cases qs with
    | nil => exact ⟨rfl, rfl⟩
    | cons x qs => exact nomatch e2
  | cons x ps ih =>
    intro qs p q hp hq hps hqs e
    have e1 : p = q := by rw [← take_gl p (x :: ps) hp, e, take_gl q qs hq]
    subst e1
    have e2 := List.append_cancel_left e
    cases qs with
    | nil => exact nomatch e2
    | cons y qs =>
      have e3 : x.cps.toList ++ gl ps = y.cps.toList ++ gl qs := (List.cons.inj e2).2
      obtain ⟨e4, e5⟩ := ih qs _ _ (hps x (.head _)) (hqs y (.head _)) (fun z hz => hps z (.tail _ hz)) (fun z hz => hqs z (.tail _ hz)) e3
      have e6 : x = y := PySem.Str.ext' (Array.toList_inj.mp e4)
      exact ⟨rfl, by rw [e6, e5]⟩
theorem dm_gl {kin : List Int} (hk : ∀ k ∈ kin, 0 ≤ k ∧ k < 64) : ∀ i, i ≤ kin.length → (dmP kin i).cps.toList = gl ((kin.take i).map fun k => pw k.toNat) := by
  intro i
  induction i with
  | zero => intro _; rfl
  | succ i ih =>
    intro hi
    have h := getD_of (show i < kin.length by omega)
    have ed : (dmP kin (i + 1)).cps.toList = (dmP kin i).cps.toList ++ 97 :: (pw (kin.getD (0 + (i : Int)).toNat 0).toNat).cps.toList := by
      rw [dmP_next]; unfold dueStep; rw [str_app, str_app, a97, List.append_assoc]; rfl
    rw [ed, ih (by omega), List.take_add_one, h]
    simp [gl]
theorem split_ok (kin : List Int) (h : kin ∈ kinC) : Txt.split (dmP kin kin.length) (PySem.Str.ofString "a") = PySem.Str.empty :: kin.map (fun k => pw k.toNat) := by
  rw [a97]
  have hk := kin_small kin h
  have hx := dm_gl hk _ (Nat.le_refl _)
  rw [List.take_length] at hx
  have hj := StrLaws.join_split (dmP kin kin.length) ⟨#[97]⟩
  have hf := StrLaws.split_free (dmP kin kin.length) 97
  generalize Txt.split (dmP kin kin.length) ⟨#[97]⟩ = ps at hj hf
  cases ps with
  | nil =>
    have e0 : (dmP kin kin.length).cps.toList = [] := by rw [← hj]; rfl
    rw [hx] at e0
    cases kin with
    | nil => exact absurd rfl (kin_len _ h).2
    | cons k kin => exact nomatch e0
  | cons p ps =>
    have e := join_gl p ps
    rw [hj, hx] at e
    have hfr : ∀ k ∈ kin, ∀ c ∈ (pw k.toNat).cps.toList, c ≠ 97 := by
      intro k hkk c hc
      obtain ⟨k0, k1⟩ := hk k hkk
      have hq := word_q ⟨k.toNat, by omega⟩
      unfold qw3 at hq
      rw [Bool.and_eq_true] at hq
      have := List.all_eq_true.mp hq.2 c hc
      intro e
      rw [e] at this
      exact absurd this (by decide)
    obtain ⟨e1, e2⟩ := gl_one ps (kin.map fun k => pw k.toNat) p.cps.toList [] (fun c hc e => hf p (.head _) (e ▸ hc)) (fun c hc => nomatch hc) (fun x hx c hc e => hf x (.tail _ hx) (e ▸ hc)) (fun x hx c hc => by
      obtain ⟨k, hkk, rfl⟩ := List.mem_map.mp hx
      exact hfr k hkk c hc) e.symm
    have e3 : p = PySem.Str.empty := PySem.Str.ext' (Array.toList_inj.mp e1)
    rw [e3, e2]
end
section
theorem parts_is {kin : List Int} (h : kin ∈ kinC) : partsP kin = kin.map (fun k => pw k.toNat) := by
  unfold partsP; rw [split_ok kin h]; rfl
theorem parts_facts {kin : List Int} (h : kin ∈ kinC) : (partsP kin).length = kin.length ∧ ∀ p ∈ partsP kin, p.length ≤ 100 ∧ (∀ r ∈ Txt.split p (PySem.Str.ofString "\r\n"), r.length ≤ 100) ∧ (Txt.split p (PySem.Str.ofString "\r\n")).length ≤ 100 := by
  rw [parts_is h]
  refine ⟨List.length_map _, fun p hp => ?_⟩
  obtain ⟨k, hk, rfl⟩ := List.mem_map.mp hp
  have hb := kin_small kin h k hk
  have h3 := pw_ok ⟨k.toNat, by omega⟩
  unfold partOk at h3
  rw [Bool.and_eq_true, Bool.and_eq_true] at h3
  exact ⟨of_decide_eq_true h3.1.1, fun r hr => of_decide_eq_true (List.all_eq_true.mp h3.1.2 r hr), of_decide_eq_true h3.2⟩
theorem news_drop2nd {h₀ h : Heap} {L : Addr} {a b : Addr × Obj} {r : Led} (N : News h₀ L h (a :: b :: r)) : News h₀ L h (a :: r) := fun p hp => N p (by
  rcases List.mem_cons.mp hp with rfl | hp
  · exact .head _
  · exact .tail _ (.tail _ hp))
theorem fr_key2 {g h : Heap} {L : Addr} {m : PySem.Str → Option Value} {x y : PySem.Str} {v u : Value} (F : Fr g L h m) (e : m x = some v) (e2 : m y = some u) : Fr g L h (fun z => if z = x then some v else if z = y then some u else m z) := by
  have : (fun z => if z = x then some v else if z = y then some u else m z) = m := by
    funext z
    by_cases q : z = x
    · subst q; simp [e]
    · by_cases q2 : z = y
      · subst q2; simp [q, e2]
      · simp [q, q2]
  rw [this]; exact F
end
section
theorem fmod4 (x : Int) : 0 ≤ x.fmod 4 ∧ x.fmod 4 < 4 := by rw [Int.fmod_eq_emod_of_nonneg _ (by decide)]; omega
theorem keys4 {m : PySem.Str → Option Value} {a b c : Int} {t1 t2 t3 t4 : Tok} (h1 : m (PySem.Str.ofString "share") = some (.int (1 + Int.fmod a 4) t1)) (h2 : m (PySem.Str.ofString "value") = some (.int (1 + Int.fmod b 4) t2))
    (h3 : m (PySem.Str.ofString "turns") = some (.int (Int.fmod c 4 - 1) t3)) (h4 : m (PySem.Str.ofString "light") = some (.int ((1 + Int.fmod b 4) * (8 - (1 + Int.fmod a 4))) t4)) :
    ∃ sh va tu : Int, (1 ≤ sh ∧ sh ≤ 4) ∧ (1 ≤ va ∧ va ≤ 4) ∧ (-1 ≤ tu ∧ tu ≤ 2) ∧ m (PySem.Str.ofString "share") = some (.int sh t1) ∧ m (PySem.Str.ofString "value") = some (.int va t2) ∧ m (PySem.Str.ofString "turns") = some (.int tu t3) ∧ m (PySem.Str.ofString "light") = some (.int (va * (8 - sh)) t4) :=
  ⟨_, _, _, by have := fmod4 a; omega, by have := fmod4 b; omega, by have := fmod4 c; omega, h1, h2, h3, h4⟩
/-- a table of ints, spoken of an int in bounds -/
theorem in4 {P : Int → Prop} (h : ∀ i : Fin 4, P ((i.val : Int) + 1)) {s : Int} (hs : 1 ≤ s ∧ s ≤ 4) : P s := by
  have := h ⟨(s - 1).toNat, by omega⟩
  rwa [show ((((⟨(s - 1).toNat, by omega⟩ : Fin 4)).val : Nat) : Int) + 1 = s by simp only; omega] at this
theorem inT {P : Int → Prop} (h : ∀ i : Fin 4, P ((i.val : Int) - 1)) {s : Int} (hs : -1 ≤ s ∧ s ≤ 2) : P s := by
  have := h ⟨(s + 1).toNat, by omega⟩
  rwa [show ((((⟨(s + 1).toNat, by omega⟩ : Fin 4)).val : Nat) : Int) - 1 = s by simp only; omega] at this
theorem frac4_fin {s : Int} (hs : 1 ≤ s ∧ s ≤ 4) : Float64.isInf (fracF s 4) = false := in4 (P := fun s => Float64.isInf (fracF s 4) = false) (by decide +kernel) hs
theorem fracc_fin {c : Nat} (hc : c < 6) : Float64.isInf (fracF (0 + (c : Int)) 6) = false := by
  have h : ∀ c : Fin 6, Float64.isInf (fracF (0 + (c.val : Int)) 6) = false := by decide +kernel
  exact h ⟨c, hc⟩
theorem hue_fin {c : Nat} {tu : Int} (hc : c < 6) (ht : -1 ≤ tu ∧ tu ≤ 2) : Float64.isInf (fracF (0 + (c : Int) + 6 * tu) 6) = false := by
  have h : ∀ c : Fin 6, ∀ t : Fin 4, Float64.isInf (fracF (0 + (c.val : Int) + 6 * ((t.val : Int) - 1)) 6) = false := by decide +kernel
  exact inT (P := fun tu => Float64.isInf (fracF (0 + (c : Int) + 6 * tu) 6) = false) (h ⟨c, hc⟩) ht
theorem light_fin {s v : Int} (hs : 1 ≤ s ∧ s ≤ 4) (hv : 1 ≤ v ∧ v ≤ 4) : Float64.isInf (fracF (v * (8 - s)) 32) = false := by
  have h : ∀ s v : Fin 4, Float64.isInf (fracF (((v.val : Int) + 1) * (8 - ((s.val : Int) + 1))) 32) = false := by decide +kernel
  exact in4 (P := fun s => Float64.isInf (fracF (v * (8 - s)) 32) = false) (fun s => in4 (P := fun v => Float64.isInf (fracF (v * (8 - ((s.val : Int) + 1))) 32) = false) (h s) hv) hs
noncomputable def satF (s v : Int) : UInt64 := fracF (s * v) (min (v * (8 - s)) (32 - v * (8 - s)))
theorem sat_fin {s v : Int} (hs : 1 ≤ s ∧ s ≤ 4) (hv : 1 ≤ v ∧ v ≤ 4) : Float64.isInf (satF s v) = false := by
  have h : ∀ s v : Fin 4, Float64.isInf (satF ((s.val : Int) + 1) ((v.val : Int) + 1)) = false := by decide +kernel
  exact in4 (P := fun s => Float64.isInf (satF s v) = false) (fun s => in4 (P := fun v => Float64.isInf (satF ((s.val : Int) + 1) v) = false) (h s) hv) hs
theorem paint_tab : ∀ c : Fin 6, ∀ t s v : Fin 4, hsvF (fracF (0 + (c.val : Int) + 6 * ((t.val : Int) - 1)) 6) (fracF ((s.val : Int) + 1) 4) (fracF ((v.val : Int) + 1) 4) = some (dueF (0 + (c.val : Int)) ((s.val : Int) + 1) ((v.val : Int) + 1)) := by decide +kernel
theorem paint_is {c : Nat} {tu s v : Int} (hc : c < 6) (ht : -1 ≤ tu ∧ tu ≤ 2) (hs : 1 ≤ s ∧ s ≤ 4) (hv : 1 ≤ v ∧ v ≤ 4) : hsvF (fracF (0 + (c : Int) + 6 * tu) 6) (fracF s 4) (fracF v 4) = some (dueF (0 + (c : Int)) s v) :=
  inT (P := fun tu => hsvF (fracF (0 + (c : Int) + 6 * tu) 6) (fracF s 4) (fracF v 4) = some (dueF (0 + (c : Int)) s v)) (fun t => in4 (P := fun s => hsvF (fracF (0 + (c : Int) + 6 * ((t.val : Int) - 1)) 6) (fracF s 4) (fracF v 4) = some (dueF (0 + (c : Int)) s v)) (fun s => in4 (P := fun v => hsvF (fracF (0 + (c : Int) + 6 * ((t.val : Int) - 1)) 6) (fracF ((s.val : Int) + 1) 4) (fracF v 4) = some (dueF (0 + (c : Int)) ((s.val : Int) + 1) v)) (paint_tab ⟨c, hc⟩ t s) hv) hs) ht
noncomputable def t3eq (p : Option (UInt64 × UInt64 × UInt64)) (q : UInt64 × UInt64 × UInt64) : Bool := match p with | some r => eqF r.1 q.1 && eqF r.2.1 q.2.1 && eqF r.2.2 q.2.2 | none => false
theorem t3eq_some {p : Option (UInt64 × UInt64 × UInt64)} {q : UInt64 × UInt64 × UInt64} (h : t3eq p q = true) : p.isSome = true := by
  cases p with
  | none => cases h
  | some r => rfl
theorem t3eq_of {p : Option (UInt64 × UInt64 × UInt64)} {x y z a b c : UInt64} (h : t3eq p (a, b, c) = true) (e : p = some (x, y, z)) : eqF x a = true ∧ eqF y b = true ∧ eqF z c = true := by
  subst e
  unfold t3eq at h
  rw [Bool.and_eq_true, Bool.and_eq_true] at h
  exact ⟨h.1.1, h.1.2, h.2⟩
noncomputable def backHsv (c s v : Int) : Bool := t3eq (rhsvF (dueF c s v).1 (dueF c s v).2.1 (dueF c s v).2.2) (fracF c 6, fracF s 4, fracF v 4)
noncomputable def backHls (c s v : Int) : Bool := t3eq (rhlsF (dueF c s v).1 (dueF c s v).2.1 (dueF c s v).2.2) (fracF c 6, fracF (v * (8 - s)) 32, satF s v)
theorem hsv_tab : ∀ c : Fin 6, ∀ s v : Fin 4, backHsv (0 + (c.val : Int)) ((s.val : Int) + 1) ((v.val : Int) + 1) = true := by decide +kernel
theorem hls_tab : ∀ c : Fin 6, ∀ s v : Fin 4, backHls (0 + (c.val : Int)) ((s.val : Int) + 1) ((v.val : Int) + 1) = true := by decide +kernel
theorem hsv_back {c : Nat} {s v : Int} (hc : c < 6) (hs : 1 ≤ s ∧ s ≤ 4) (hv : 1 ≤ v ∧ v ≤ 4) : backHsv (0 + (c : Int)) s v = true :=
  in4 (P := fun s => backHsv (0 + (c : Int)) s v = true) (fun s => in4 (P := fun v => backHsv (0 + (c : Int)) ((s.val : Int) + 1) v = true) (hsv_tab ⟨c, hc⟩ s) hv) hs
theorem hls_back {c : Nat} {s v : Int} (hc : c < 6) (hs : 1 ≤ s ∧ s ≤ 4) (hv : 1 ≤ v ∧ v ≤ 4) : backHls (0 + (c : Int)) s v = true :=
  in4 (P := fun s => backHls (0 + (c : Int)) s v = true) (fun s => in4 (P := fun v => backHls (0 + (c : Int)) ((s.val : Int) + 1) v = true) (hls_tab ⟨c, hc⟩ s) hv) hs
theorem fr_keyL {g h : Heap} {L : Addr} {m : PySem.Str → Option Value} (l : List (PySem.Str × Value)) (F : Fr g L h m) (hl : ∀ p ∈ l, m p.1 = some p.2) : Fr g L h (l.foldr (fun p M z => if z = p.1 then some p.2 else M z) m) := by
  have : l.foldr (fun p M z => if z = p.1 then some p.2 else M z) m = m := by
    induction l with
    | nil => rfl
    | cons p l ih =>
      rw [List.foldr_cons, ih (fun q hq => hl q (.tail _ hq))]
      funext z
      by_cases q : z = p.1
      · rw [if_pos q, q, hl p (.head _)]
      · rw [if_neg q]
  rw [this]; exact F
theorem led_ht {h₀ h : Heap} {L l : Addr} {o : Obj} {r : Led} (N : News h₀ L h ((l, o) :: r)) : ∃ l' nw, l' = l ∧ nw = r ∧ News h₀ L h ((l', o) :: nw) := ⟨l, r, rfl, rfl, N⟩
theorem append_led {prog : Program} {w : World} {A : Around} {E : Value → Shared → Prop} {s : Shared} {h₀ : Heap} {L D : Addr} {m : PySem.Str → Option Value} {all rest : Led} {its : Array Value} {n : Nat} {x : Value} {Q : Value → Shared → Prop} (F : Fr h₀ L s.heap m) (N : News h₀ L s.heap all) (hm : (D, W.listOf its n) ∈ all) (sub : ∀ p ∈ rest, p ∈ all) (hne : ∀ p ∈ rest, p.1 ≠ D) (hsz : its.size ≤ sizeLine)
    (h : ∀ h', Fr h₀ L h' m → News h₀ L h' ((D, W.listOf (its.push x) (n + 1)) :: rest) → Q .none { s with heap := h' }) : wpAny (model prog w) A (call (.builtin "list.append") [.ref D, x]) Q E s :=
  append_K F (news := (D, W.listOf its n) :: rest) (fun p hp => by rcases List.mem_cons.mp hp with rfl | hp; exact N _ hm; exact N _ (sub p hp)) (.head hne) h hsz
/-- the paints made so far -/
noncomputable def paintJ (sh va : Int) (lP : Addr) (nw : Led) (m0 : PySem.Str → Option Value) (i : Nat) (m : PySem.Str → Option Value) (nx : Led) : Prop :=
  ∃ (u : PySem.Str → Option Value) (ts : Led) (n : Nat), m = (fun z => if z = PySem.Str.ofString "corner" then u z else if z = PySem.Str.ofString "paint" then u z else m0 z) ∧
    nx = (lP, W.listOf (ts.map fun p => Value.ref p.1).toArray n) :: (ts ++ nw) ∧ ts.length = i ∧ (∀ (j : Nat) (p : Addr × Obj), ts[j]? = some p → IsT3v (dueF (0 + (j : Int)) sh va) p.2) ∧ (∀ p ∈ ts ++ nw, p.1 ≠ lP) ∧ (∀ p ∈ ts, ∀ q ∈ nw, q.1 ≠ p.1)
theorem off1_to {D : Addr} : ∀ {l : Led}, LCg.Off1 D l → ∀ p ∈ l, p.1 ≠ D
  | [], _, _, h => nomatch h
  | _ :: _, x, p, h => by
    rcases List.mem_cons.mp h with rfl | h
    · exact x.1
    · exact off1_to x.2 p h
theorem t3_in {c s v : Int} {x y z : UInt64} {p : Option (UInt64 × UInt64 × UInt64)} (h : p = some (dueF c s v)) (e : p = some (x, y, z)) : x = (dueF c s v).1 ∧ y = (dueF c s v).2.1 ∧ z = (dueF c s v).2.2 := by
  rw [h] at e; injection e with e; rw [e]; exact ⟨rfl, rfl, rfl⟩
theorem isSome_of {α : Type} {p : Option α} {q : α} (h : p = some q) : p.isSome = true := by rw [h]; rfl
noncomputable def dueSelf (c s v : Int) : Bool := t3eq (some (dueF c s v)) (dueF c s v)
theorem due_tab : ∀ c : Fin 6, ∀ s v : Fin 4, dueSelf (0 + (c.val : Int)) ((s.val : Int) + 1) ((v.val : Int) + 1) = true := by decide +kernel
theorem due_self {c : Nat} {s v : Int} (hc : c < 6) (hs : 1 ≤ s ∧ s ≤ 4) (hv : 1 ≤ v ∧ v ≤ 4) : (Float64.cmp (dueF (0 + (c : Int)) s v).1 (dueF (0 + (c : Int)) s v).1 == some Ordering.eq) = true ∧ (Float64.cmp (dueF (0 + (c : Int)) s v).2.1 (dueF (0 + (c : Int)) s v).2.1 == some Ordering.eq) = true ∧ (Float64.cmp (dueF (0 + (c : Int)) s v).2.2 (dueF (0 + (c : Int)) s v).2.2 == some Ordering.eq) = true := by
  have h : dueSelf (0 + (c : Int)) s v = true := in4 (P := fun s => dueSelf (0 + (c : Int)) s v = true) (fun s => in4 (P := fun v => dueSelf (0 + (c : Int)) ((s.val : Int) + 1) v = true) (due_tab ⟨c, hc⟩ s) hv) hs
  unfold dueSelf t3eq eqF at h
  rw [Bool.and_eq_true, Bool.and_eq_true] at h
  exact ⟨h.1.1, h.1.2, h.2⟩
end
section
theorem light_min {s v : Int} (hs : 1 ≤ s ∧ s ≤ 4) (hv : 1 ≤ v ∧ v ≤ 4) : (if 32 - v * (8 - s) < v * (8 - s) then 32 - v * (8 - s) else v * (8 - s)) ≠ 0 :=
  in4 (P := fun s => (if 32 - v * (8 - s) < v * (8 - s) then 32 - v * (8 - s) else v * (8 - s)) ≠ 0) (fun s => in4 (P := fun v => (if 32 - v * (8 - ((s.val : Int) + 1)) < v * (8 - ((s.val : Int) + 1)) then 32 - v * (8 - ((s.val : Int) + 1)) else v * (8 - ((s.val : Int) + 1))) ≠ 0) ((by decide +kernel : ∀ s v : Fin 4, (if 32 - ((v.val : Int) + 1) * (8 - ((s.val : Int) + 1)) < ((v.val : Int) + 1) * (8 - ((s.val : Int) + 1)) then 32 - ((v.val : Int) + 1) * (8 - ((s.val : Int) + 1)) else ((v.val : Int) + 1) * (8 - ((s.val : Int) + 1))) ≠ 0) s) hv) hs
theorem sat_eq {s v : Int} : satF s v = fracF (s * v) (if 32 - v * (8 - s) < v * (8 - s) then 32 - v * (8 - s) else v * (8 - s)) := by
  unfold satF
  congr 1
  rw [Int.min_def]
  split <;> split <;> omega
theorem sat_if {s v : Int} (hs : 1 ≤ s ∧ s ≤ 4) (hv : 1 ≤ v ∧ v ≤ 4) : Float64.isInf (fracF (s * v) (if 32 - v * (8 - s) < v * (8 - s) then 32 - v * (8 - s) else v * (8 - s))) = false := by
  rw [← sat_eq]; exact sat_fin hs hv
theorem paint_push {prog : Program} {w : World} {A : Around} {E : Value → Shared → Prop} {s : Shared} {h₀ : Heap} {L lP lA I : Addr} {oA it : Obj} {x1 x2 x3 x4 x5 : Addr × Obj} {ts nw : Led} {nP : Nat} {m : PySem.Str → Option Value} {Q : Value → Shared → Prop}
    (F : Fr h₀ L s.heap m) (N : News h₀ L s.heap (x1 :: x2 :: x3 :: x4 :: x5 :: (lA, oA) :: (I, it) :: (lP, W.listOf (ts.map fun p => Value.ref p.1).toArray nP) :: (ts ++ nw)))
    (h1 : lP ≠ lA) (h2 : lP ≠ I) (hne : ∀ p ∈ ts ++ nw, p.1 ≠ lP) (hl : ts.length ≤ 4000)
    (h : ∀ h', Fr h₀ L h' m → News h₀ L h' ((I, it) :: (lP, W.listOf ((ts ++ [(lA, oA)]).map fun p => Value.ref p.1).toArray (nP + 1)) :: ((ts ++ [(lA, oA)]) ++ nw)) → Q .none { s with heap := h' }) :
    wpAny (model prog w) A (call (.builtin "list.append") [.ref lP, .ref lA]) Q E s := by
  refine append_led F N (rest := (lA, oA) :: (I, it) :: (ts ++ nw)) (.tail _ (.tail _ (.tail _ (.tail _ (.tail _ (.tail _ (.tail _ (.head _)))))))) (fun p hp => ?_) (fun p hp => ?_) (small_fits (by simp; exact hl)) (fun h' F' N' => h h' F' fun p hp => ?_)
  · rcases List.mem_cons.mp hp with rfl | hp
    · exact .tail _ (.tail _ (.tail _ (.tail _ (.tail _ (.head _)))))
    · rcases List.mem_cons.mp hp with rfl | hp
      · exact .tail _ (.tail _ (.tail _ (.tail _ (.tail _ (.tail _ (.head _))))))
      · exact .tail _ (.tail _ (.tail _ (.tail _ (.tail _ (.tail _ (.tail _ (.tail _ hp)))))))
  · rcases List.mem_cons.mp hp with rfl | hp
    · exact Ne.symm h1
    · rcases List.mem_cons.mp hp with rfl | hp
      · exact Ne.symm h2
      · exact hne p hp
  · have e : (ts.map fun p => Value.ref p.1).toArray.push (.ref lA) = ((ts ++ [(lA, oA)]).map fun p => Value.ref p.1).toArray := by simp
    rw [e] at N'
    rcases List.mem_cons.mp hp with rfl | hp
    · exact N' _ (.tail _ (.tail _ (.head _)))
    · rcases List.mem_cons.mp hp with rfl | hp
      · exact N' _ (.head _)
      · rcases List.mem_append.mp hp with hp | hp
        · rcases List.mem_append.mp hp with hp | hp
          · exact N' _ (.tail _ (.tail _ (.tail _ (List.mem_append.mpr (.inl hp)))))
          · rcases List.mem_cons.mp hp with rfl | hp
            · exact N' _ (.tail _ (.head _))
            · cases hp
        · exact N' _ (.tail _ (.tail _ (.tail _ (List.mem_append.mpr (.inr hp)))))
theorem paint_next {sh va : Int} {lP lA : Addr} {oA : Obj} {nw ts : Led} {m0 m' : PySem.Str → Option Value} {i nP : Nat} (hi : ts.length = i) (hA : IsT3v (dueF (0 + (i : Int)) sh va) oA) (h1 : lP ≠ lA)
    (htp : ∀ (j : Nat) (p : Addr × Obj), ts[j]? = some p → IsT3v (dueF (0 + (j : Int)) sh va) p.2) (hne : ∀ p ∈ ts ++ nw, p.1 ≠ lP) (hap : ∀ p ∈ ts, ∀ q ∈ nw, q.1 ≠ p.1) (hapA : ∀ q ∈ nw, q.1 ≠ lA) (hm : ∀ z, z ≠ PySem.Str.ofString "corner" → z ≠ PySem.Str.ofString "paint" → m' z = m0 z) :
    paintJ sh va lP nw m0 (i + 1) m' ((lP, W.listOf ((ts ++ [(lA, oA)]).map fun p => Value.ref p.1).toArray (nP + 1)) :: ((ts ++ [(lA, oA)]) ++ nw)) := by
  refine ⟨m', ts ++ [(lA, oA)], nP + 1, map_of2 hm, rfl, by rw [List.length_append, hi]; rfl, fun j p hj => ?_, fun p hp => ?_, fun p hp => ?_⟩
  · by_cases hlt : j < ts.length
    · rw [List.getElem?_append_left hlt] at hj
      exact htp j p hj
    · have hj2 := (List.getElem?_eq_some_iff.mp hj).1
      rw [List.length_append, List.length_singleton] at hj2
      have : j = ts.length := by omega
      subst this
      rw [List.getElem?_append_right (Nat.le_refl _), Nat.sub_self] at hj
      cases hj
      rw [hi]; exact hA
  · rcases List.mem_append.mp hp with hp | hp
    · rcases List.mem_append.mp hp with hp | hp
      · exact hne p (List.mem_append.mpr (.inl hp))
      · rcases List.mem_cons.mp hp with rfl | hp
        · exact Ne.symm h1
        · cases hp
    · exact hne p (List.mem_append.mpr (.inr hp))
  · rcases List.mem_append.mp hp with hp | hp
    · exact hap p hp
    · rcases List.mem_cons.mp hp with rfl | hp
      · exact hapA
      · cases hp
theorem news_swap {h₀ h : Heap} {L : Addr} {a : Addr × Obj} {x y : Led} (N : News h₀ L h (a :: (x ++ y))) : News h₀ L h (a :: (y ++ x)) := fun p hp => N p (by
  rcases List.mem_cons.mp hp with rfl | hp
  · exact .head _
  · exact .tail _ (List.mem_append.mpr (List.mem_append.mp hp).symm))
theorem off_next {lP lA I : Addr} {oP oA : Obj} {ts nw : Led} {oP' : Obj} (hoff : ∀ p ∈ (lP, oP) :: (ts ++ nw), p.1 ≠ I) (h : lA ≠ I) : ∀ p ∈ (lP, oP') :: ((ts ++ [(lA, oA)]) ++ nw), p.1 ≠ I := by
  intro p hp
  rcases List.mem_cons.mp hp with rfl | hp
  · exact hoff (lP, oP) (.head _)
  · rcases List.mem_append.mp hp with hp | hp
    · rcases List.mem_append.mp hp with hp | hp
      · exact hoff p (.tail _ (List.mem_append.mpr (.inl hp)))
      · rcases List.mem_cons.mp hp with rfl | hp
        · exact h
        · cases hp
    · exact hoff p (.tail _ (List.mem_append.mpr (.inr hp)))
end
section
noncomputable def majT : List Int := [0, 0, 1, 0, 2, 2, 1, 0, 3, 3, 4, 3, 2, 2, 1, 0, 4, 4, 5, 4, 6, 6, 5, 4, 3, 3, 4, 3, 2, 2, 1, 0, 5, 5, 6, 5, 7, 7, 6, 5, 8, 8, 9, 8, 7, 7, 6, 5, 4, 4, 5, 4, 6, 6, 5, 4, 3, 3, 4, 3, 2, 2, 1, 0]
theorem majT_tab : ∀ j : Fin 64, majF (pw j.val) = majT.getD j.val 0 := by decide +kernel
theorem majL_tab {kin : List Int} (h : kin ∈ kinC) : majL kin = kin.map (fun k => majT.getD k.toNat 0) := by
  unfold majL
  rw [parts_is h, List.map_map]
  refine List.map_congr_left fun k hk => ?_
  have hb := kin_small kin h k hk
  exact majT_tab ⟨k.toNat, by omega⟩
noncomputable def hitB (l : List Int) (st m : Int) : Bool := l.any (· == (m * st).fmod 6)
noncomputable def hiT (l : List Int) (sh st m : Int) : Int := if hitB l st m = true then 4 else 4 - sh
noncomputable def cntH (l : List Int) (st : Int) (ms : List Int) : Nat := ms.countP (hitB l st)
theorem hiT_sum (l : List Int) (sh st : Int) (ms : List Int) : (ms.map (hiT l sh st)).sum = 4 * (cntH l st ms : Int) + (4 - sh) * ((ms.length : Int) - (cntH l st ms : Int)) := by
  induction ms with
  | nil => simp [cntH]
  | cons m ms ih =>
    rw [List.map_cons, List.sum_cons, ih]
    unfold cntH hiT
    rw [List.countP_cons, List.length_cons]
    generalize List.countP (hitB l st) ms = c
    generalize ms.length = n
    by_cases h : hitB l st m = true
    · rw [if_pos h, if_pos h]
      have e : ((n + 1 : Nat) : Int) - ((c + 1 : Nat) : Int) = (n : Int) - (c : Int) := by omega
      rw [e]
      generalize (4 - sh) * ((n : Int) - (c : Int)) = q
      omega
    · rw [if_neg h, if_neg h]
      have e : ((n + 1 : Nat) : Int) - ((c + 0 : Nat) : Int) = ((n : Int) - (c : Int)) + 1 := by omega
      rw [e, Int.mul_add, Int.mul_one]
      generalize (4 - sh) * ((n : Int) - (c : Int)) = q
      omega
theorem due_w {c sh va : Int} {l : List Int} (hva : 1 ≤ va ∧ va ≤ 4) : dueP c l sh va = fracF (va * (if l.any (· == c) = true then 4 else 4 - sh)) 16 := by
  unfold dueP
  by_cases h : l.any (· == c) = true
  · rw [if_pos h, if_pos h]
    exact in4 (P := fun va => fracF va 4 = fracF (va * 4) 16) (by decide +kernel) hva
  · rw [if_neg h, if_neg h]
theorem addF_tab : ∀ v : Fin 4, ∀ i : Fin 48, ∀ j : Fin 5, Float64.add (fracF (((v.val : Int) + 1) * (i.val : Int)) 16) (fracF (((v.val : Int) + 1) * (j.val : Int)) 16) = fracF (((v.val : Int) + 1) * ((i.val : Int) + (j.val : Int))) 16 := by decide +kernel
theorem addF_is {va i j : Int} (hva : 1 ≤ va ∧ va ≤ 4) (hi : 0 ≤ i ∧ i < 48) (hj : 0 ≤ j ∧ j ≤ 4) : Float64.add (fracF (va * i) 16) (fracF (va * j) 16) = fracF (va * (i + j)) 16 := by
  refine in4 (P := fun va => Float64.add (fracF (va * i) 16) (fracF (va * j) 16) = fracF (va * (i + j)) 16) (fun v => ?_) hva
  have := addF_tab v ⟨i.toNat, by omega⟩ ⟨j.toNat, by omega⟩
  simp only at this
  rwa [show ((i.toNat : Nat) : Int) = i by omega, show ((j.toNat : Nat) : Int) = j by omega] at this
theorem mix_go {va : Int} (hva : 1 ≤ va ∧ va ≤ 4) : ∀ (ws : List Int) (i : Int), 0 ≤ i → i + 4 * ws.length ≤ 48 → (∀ w ∈ ws, 0 ≤ w ∧ w ≤ 4) → ws.foldl (fun acc w => Float64.add acc (fracF (va * w) 16)) (fracF (va * i) 16) = fracF (va * (i + ws.sum)) 16
  | [], i, _, _, _ => by simp
  | w :: ws, i, h0, h1, hw => by
    have hw0 := hw w (.head _)
    rw [List.length_cons] at h1
    rw [List.foldl_cons, addF_is hva ⟨h0, by omega⟩ hw0, mix_go hva ws (i + w) (by omega) (by omega) (fun x hx => hw x (.tail _ hx)), List.sum_cons, Int.add_assoc]
/-- a colour mixed of the paints of the majors -/
noncomputable def mixF (l : List Int) (sh va st : Int) (ms : List Int) : UInt64 := ms.foldl (fun acc m => Float64.add acc (dueP ((m * st).fmod 6) l sh va)) 0
theorem frac_zero {va : Int} (hva : 1 ≤ va ∧ va ≤ 4) : fracF (va * 0) 16 = 0 := by rw [Int.mul_zero]; decide +kernel
theorem mix_is {l : List Int} {sh va st : Int} {ms : List Int} (hsh : 1 ≤ sh ∧ sh ≤ 4) (hva : 1 ≤ va ∧ va ≤ 4) (hl : ms.length ≤ 12) : mixF l sh va st ms = fracF (va * (4 * (cntH l st ms : Int) + (4 - sh) * ((ms.length : Int) - (cntH l st ms : Int)))) 16 := by
  have h := mix_go hva (ms.map (hiT l sh st)) 0 (by decide) (by rw [List.length_map]; omega) (by
    intro w hw
    obtain ⟨m, _, rfl⟩ := List.mem_map.mp hw
    unfold hiT; split <;> omega)
  rw [frac_zero hva, List.foldl_map, Int.zero_add, hiT_sum] at h
  rw [← h]
  unfold mixF
  congr 1
  funext acc m
  rw [due_w hva]; rfl
noncomputable def finL : List ((Int × Int × Int × Int) × UInt64 × UInt64 × UInt64 × UInt64) := [((4, 0, 0, 4), 4571153621781053440, 0, 0, 4571153621781053440),
  ((4, 1, 1, 3), 4571153621781053440, 4562146422526312448, 4562146422526312448, 4568901821967368192),
  ((4, 2, 2, 2), 4571153621781053440, 4566650022153682944, 4566650022153682944, 4566650022153682944),
  ((4, 3, 3, 1), 4571153621781053440, 4568901821967368192, 4568901821967368192, 4562146422526312448),
  ((4, 4, 4, 0), 4571153621781053440, 4571153621781053440, 4571153621781053440, 0),
  ((5, 5, 5, 0), 4572279521687896064, 4572279521687896064, 4572279521687896064, 0),
  ((6, 6, 6, 0), 4573405421594738688, 4573405421594738688, 4573405421594738688, 0),
  ((7, 7, 7, 0), 4574531321501581312, 4574531321501581312, 4574531321501581312, 0),
  ((8, 0, 0, 8), 4575657221408423936, 0, 0, 4575657221408423936),
  ((8, 2, 2, 6), 4575657221408423936, 4566650022153682944, 4566650022153682944, 4573405421594738688),
  ((8, 4, 4, 4), 4575657221408423936, 4571153621781053440, 4571153621781053440, 4571153621781053440),
  ((8, 6, 6, 2), 4575657221408423936, 4573405421594738688, 4573405421594738688, 4566650022153682944),
  ((8, 8, 8, 0), 4575657221408423936, 4575657221408423936, 4575657221408423936, 0),
  ((10, 10, 10, 0), 4576783121315266560, 4576783121315266560, 4576783121315266560, 0),
  ((12, 0, 0, 12), 4577909021222109184, 0, 0, 4577909021222109184),
  ((12, 3, 3, 9), 4577909021222109184, 4568901821967368192, 4568901821967368192, 4576220171361845248),
  ((12, 6, 6, 6), 4577909021222109184, 4573405421594738688, 4573405421594738688, 4573405421594738688),
  ((12, 9, 9, 3), 4577909021222109184, 4576220171361845248, 4576220171361845248, 4568901821967368192),
  ((12, 12, 12, 0), 4577909021222109184, 4577909021222109184, 4577909021222109184, 0),
  ((14, 14, 14, 0), 4579034921128951808, 4579034921128951808, 4579034921128951808, 0),
  ((15, 15, 15, 0), 4579597871082373120, 4579597871082373120, 4579597871082373120, 0),
  ((16, 0, 0, 16), 4580160821035794432, 0, 0, 4580160821035794432),
  ((16, 4, 4, 12), 4580160821035794432, 4571153621781053440, 4571153621781053440, 4577909021222109184),
  ((16, 8, 8, 8), 4580160821035794432, 4575657221408423936, 4575657221408423936, 4575657221408423936),
  ((16, 12, 12, 4), 4580160821035794432, 4577909021222109184, 4577909021222109184, 4571153621781053440),
  ((16, 16, 16, 0), 4580160821035794432, 4580160821035794432, 4580160821035794432, 0),
  ((18, 18, 18, 0), 4580723770989215744, 4580723770989215744, 4580723770989215744, 0),
  ((20, 20, 20, 0), 4581286720942637056, 4581286720942637056, 4581286720942637056, 0),
  ((21, 21, 21, 0), 4581568195919347712, 4581568195919347712, 4581568195919347712, 0),
  ((24, 0, 0, 24), 4582412620849479680, 0, 0, 4582412620849479680),
  ((24, 6, 6, 18), 4582412620849479680, 4573405421594738688, 4573405421594738688, 4580723770989215744),
  ((24, 12, 12, 12), 4582412620849479680, 4577909021222109184, 4577909021222109184, 4577909021222109184),
  ((24, 18, 18, 6), 4582412620849479680, 4580723770989215744, 4580723770989215744, 4573405421594738688),
  ((24, 24, 24, 0), 4582412620849479680, 4582412620849479680, 4582412620849479680, 0),
  ((26, 26, 26, 0), 4582975570802900992, 4582975570802900992, 4582975570802900992, 0),
  ((27, 18, 18, 9), 4583257045779611648, 4580723770989215744, 4580723770989215744, 4576220171361845248),
  ((28, 28, 28, 0), 4583538520756322304, 4583538520756322304, 4583538520756322304, 0),
  ((30, 24, 24, 6), 4584101470709743616, 4582412620849479680, 4582412620849479680, 4573405421594738688),
  ((30, 30, 30, 0), 4584101470709743616, 4584101470709743616, 4584101470709743616, 0),
  ((31, 31, 31, 0), 4584382945686454272, 4584382945686454272, 4584382945686454272, 0),
  ((32, 0, 0, 32), 4584664420663164928, 0, 0, 4584664420663164928),
  ((32, 8, 8, 24), 4584664420663164928, 4575657221408423936, 4575657221408423936, 4582412620849479680),
  ((32, 16, 16, 16), 4584664420663164928, 4580160821035794432, 4580160821035794432, 4580160821035794432),
  ((32, 24, 24, 8), 4584664420663164928, 4582412620849479680, 4582412620849479680, 4575657221408423936),
  ((32, 32, 32, 0), 4584664420663164928, 4584664420663164928, 4584664420663164928, 0),
  ((33, 30, 30, 3), 4584805158151520256, 4584101470709743616, 4584101470709743616, 4568901821967368192),
  ((36, 0, 0, 36), 4585227370616586240, 0, 0, 4585227370616586240),
  ((36, 9, 9, 27), 4585227370616586240, 4576220171361845248, 4576220171361845248, 4583257045779611648),
  ((36, 18, 18, 18), 4585227370616586240, 4580723770989215744, 4580723770989215744, 4580723770989215744),
  ((36, 27, 27, 9), 4585227370616586240, 4583257045779611648, 4583257045779611648, 4576220171361845248),
  ((36, 36, 36, 0), 4585227370616586240, 4585227370616586240, 4585227370616586240, 0),
  ((40, 40, 40, 0), 4585790320570007552, 4585790320570007552, 4585790320570007552, 0),
  ((42, 42, 42, 0), 4586071795546718208, 4586071795546718208, 4586071795546718208, 0),
  ((45, 45, 45, 0), 4586494008011784192, 4586494008011784192, 4586494008011784192, 0),
  ((48, 0, 0, 48), 4586916220476850176, 0, 0, 4586916220476850176),
  ((48, 12, 12, 36), 4586916220476850176, 4577909021222109184, 4577909021222109184, 4585227370616586240),
  ((48, 24, 24, 24), 4586916220476850176, 4582412620849479680, 4582412620849479680, 4582412620849479680),
  ((48, 36, 36, 12), 4586916220476850176, 4585227370616586240, 4585227370616586240, 4577909021222109184),
  ((48, 48, 48, 0), 4586916220476850176, 4586916220476850176, 4586916220476850176, 0),
  ((52, 52, 52, 0), 4587479170430271488, 4587479170430271488, 4587479170430271488, 0),
  ((54, 36, 36, 18), 4587760645406982144, 4585227370616586240, 4585227370616586240, 4580723770989215744),
  ((54, 54, 54, 0), 4587760645406982144, 4587760645406982144, 4587760645406982144, 0),
  ((60, 48, 48, 12), 4588605070337114112, 4586916220476850176, 4586916220476850176, 4577909021222109184),
  ((60, 60, 60, 0), 4588605070337114112, 4588605070337114112, 4588605070337114112, 0),
  ((62, 62, 62, 0), 4588886545313824768, 4588886545313824768, 4588886545313824768, 0),
  ((63, 63, 63, 0), 4589027282802180096, 4589027282802180096, 4589027282802180096, 0),
  ((64, 64, 64, 0), 4589168020290535424, 4589168020290535424, 4589168020290535424, 0),
  ((66, 60, 60, 6), 4589308757778890752, 4588605070337114112, 4588605070337114112, 4573405421594738688),
  ((72, 0, 0, 72), 4589730970243956736, 0, 0, 4589730970243956736),
  ((72, 18, 18, 54), 4589730970243956736, 4580723770989215744, 4580723770989215744, 4587760645406982144),
  ((72, 36, 36, 36), 4589730970243956736, 4585227370616586240, 4585227370616586240, 4585227370616586240),
  ((72, 54, 54, 18), 4589730970243956736, 4587760645406982144, 4587760645406982144, 4580723770989215744),
  ((72, 72, 72, 0), 4589730970243956736, 4589730970243956736, 4589730970243956736, 0),
  ((78, 78, 78, 0), 4590153182709022720, 4590153182709022720, 4590153182709022720, 0),
  ((80, 80, 80, 0), 4590293920197378048, 4590293920197378048, 4590293920197378048, 0),
  ((81, 54, 54, 27), 4590364288941555712, 4587760645406982144, 4587760645406982144, 4583257045779611648),
  ((84, 84, 84, 0), 4590575395174088704, 4590575395174088704, 4590575395174088704, 0),
  ((90, 72, 72, 18), 4590997607639154688, 4589730970243956736, 4589730970243956736, 4580723770989215744),
  ((90, 90, 90, 0), 4590997607639154688, 4590997607639154688, 4590997607639154688, 0),
  ((93, 93, 93, 0), 4591208713871687680, 4591208713871687680, 4591208713871687680, 0),
  ((96, 0, 0, 96), 4591419820104220672, 0, 0, 4591419820104220672),
  ((96, 24, 24, 72), 4591419820104220672, 4582412620849479680, 4582412620849479680, 4589730970243956736),
  ((96, 48, 48, 48), 4591419820104220672, 4586916220476850176, 4586916220476850176, 4586916220476850176),
  ((96, 72, 72, 24), 4591419820104220672, 4589730970243956736, 4589730970243956736, 4582412620849479680),
  ((96, 96, 96, 0), 4591419820104220672, 4591419820104220672, 4591419820104220672, 0),
  ((99, 90, 90, 9), 4591630926336753664, 4590997607639154688, 4590997607639154688, 4576220171361845248),
  ((104, 104, 104, 0), 4591982770057641984, 4591982770057641984, 4591982770057641984, 0),
  ((108, 0, 0, 108), 4592264245034352640, 0, 0, 4592264245034352640),
  ((108, 27, 27, 81), 4592264245034352640, 4583257045779611648, 4583257045779611648, 4590364288941555712),
  ((108, 54, 54, 54), 4592264245034352640, 4587760645406982144, 4587760645406982144, 4587760645406982144),
  ((108, 72, 72, 36), 4592264245034352640, 4589730970243956736, 4589730970243956736, 4585227370616586240),
  ((108, 81, 81, 27), 4592264245034352640, 4590364288941555712, 4590364288941555712, 4583257045779611648),
  ((108, 108, 108, 0), 4592264245034352640, 4592264245034352640, 4592264245034352640, 0),
  ((120, 96, 96, 24), 4593108669964484608, 4591419820104220672, 4591419820104220672, 4582412620849479680),
  ((120, 120, 120, 0), 4593108669964484608, 4593108669964484608, 4593108669964484608, 0),
  ((124, 124, 124, 0), 4593390144941195264, 4593390144941195264, 4593390144941195264, 0),
  ((126, 126, 126, 0), 4593530882429550592, 4593530882429550592, 4593530882429550592, 0),
  ((128, 128, 128, 0), 4593671619917905920, 4593671619917905920, 4593671619917905920, 0),
  ((132, 120, 120, 12), 4593812357406261248, 4593108669964484608, 4593108669964484608, 4577909021222109184),
  ((144, 0, 0, 144), 4594234569871327232, 0, 0, 4594234569871327232),
  ((144, 36, 36, 108), 4594234569871327232, 4585227370616586240, 4585227370616586240, 4592264245034352640),
  ((144, 72, 72, 72), 4594234569871327232, 4589730970243956736, 4589730970243956736, 4589730970243956736),
  ((144, 108, 108, 36), 4594234569871327232, 4592264245034352640, 4592264245034352640, 4585227370616586240),
  ((144, 144, 144, 0), 4594234569871327232, 4594234569871327232, 4594234569871327232, 0),
  ((160, 160, 160, 0), 4594797519824748544, 4594797519824748544, 4594797519824748544, 0),
  ((168, 168, 168, 0), 4595078994801459200, 4595078994801459200, 4595078994801459200, 0),
  ((192, 0, 0, 192), 4595923419731591168, 0, 0, 4595923419731591168),
  ((192, 48, 48, 144), 4595923419731591168, 4586916220476850176, 4586916220476850176, 4594234569871327232),
  ((192, 96, 96, 96), 4595923419731591168, 4591419820104220672, 4591419820104220672, 4591419820104220672),
  ((192, 144, 144, 48), 4595923419731591168, 4594234569871327232, 4594234569871327232, 4586916220476850176)]
noncomputable def finConv (e : (Int × Int × Int × Int) × UInt64 × UInt64 × UInt64 × UInt64) : Bool :=
  decide (Float64.div (fracF e.1.1 16) (Float64.ofInt 64) = e.2.1) && decide (Float64.div (fracF e.1.2.1 16) (Float64.ofInt 64) = e.2.2.1) && decide (Float64.div (fracF e.1.2.2.1 16) (Float64.ofInt 64) = e.2.2.2.1) && decide (fracF e.1.2.2.2 1024 = e.2.2.2.2)
noncomputable def finOk (r g b d : UInt64) : Bool :=
  !Float64.isZero r && !Float64.isZero (Float64.add r g) && eqF g b && eqF (Float64.sub r g) d && t3eq (rhsvF r g b) (0, Float64.div d r, r) && t3eq (rhlsF r g b) (0, Float64.div (Float64.add r g) (Float64.ofInt 2), Float64.div d (Float64.add r g))
theorem fin_conv : finL.all finConv = true := by decide +kernel
theorem fin_ok : finL.all (fun e => finOk e.2.1 e.2.2.1 e.2.2.2.1 e.2.2.2.2) = true := by decide +kernel
/-- how many of kin stay under a turn by st -/
noncomputable def staysN (kin : List Int) (st : Nat) : Nat := (kin.filter fun k => Txt.slice (word k.toNat) (some (st : Int)) none ++ Txt.slice (word k.toNat) none (some (st : Int)) == word k.toNat).length
noncomputable def nowL (kin : List Int) : Nat → List Int
  | 0 => kin
  | st + 1 => (nowL kin st).map turnedF
noncomputable def xorL (kin now : List Int) : List Int := (List.range kin.length).map fun k => Builtin.bitXor (kin.getD k 0) (now.getD k 0)
noncomputable def cntL : List (Nat × Nat × Nat × Nat × Nat) := [(1, 1, 0, 0, 1), (2, 1, 1, 1, 0), (2, 2, 0, 0, 2), (6, 2, 2, 2, 0), (6, 3, 3, 3, 0), (6, 6, 0, 0, 6), (9, 3, 3, 3, 0), (9, 4, 4, 4, 0), (9, 6, 3, 3, 3), (9, 9, 0, 0, 9), (12, 4, 4, 4, 0), (12, 6, 6, 6, 0), (12, 12, 0, 0, 12)]
noncomputable def majK (kin : List Int) : List Int := kin.map (fun k => majT.getD k.toNat 0)
theorem cnt_tab : ∀ kin ∈ kinC, ∀ st : Fin 6, (kin.length, cntH [5, 0, 1] st.val (majK kin), cntH [1, 2, 3] st.val (majK kin), cntH [3, 4, 5] st.val (majK kin), staysN kin st.val) ∈ cntL := by decide +kernel
theorem xor_tab : ∀ kin ∈ kinC, ∀ st : Fin 6, (xorL kin (nowL kin st.val)).foldl cntStep 0 = (staysN kin st.val : Int) := by decide +kernel
theorem now_small : ∀ kin ∈ kinC, ∀ st : Fin 6, ∀ x ∈ nowL kin st.val, 0 ≤ x ∧ x < 64 := by decide +kernel
noncomputable def keyOf (c : Nat × Nat × Nat × Nat × Nat) (sh va : Int) : Int × Int × Int × Int :=
  (va * (4 * (c.2.1 : Int) + (4 - sh) * ((c.1 : Int) - (c.2.1 : Int))), va * (4 * (c.2.2.1 : Int) + (4 - sh) * ((c.1 : Int) - (c.2.2.1 : Int))), va * (4 * (c.2.2.2.1 : Int) + (4 - sh) * ((c.1 : Int) - (c.2.2.2.1 : Int))), (c.2.2.2.2 : Int) * sh * va)
theorem key_tab : ∀ c ∈ cntL, ∀ s v : Fin 4, finL.any (fun e => decide (e.1 = keyOf c ((s.val : Int) + 1) ((v.val : Int) + 1))) = true := by decide +kernel
theorem t3eq_refl3 {p : Option (UInt64 × UInt64 × UInt64)} {q : UInt64 × UInt64 × UInt64} (h : t3eq p q = true) : p.isSome = true := t3eq_some h
/-- all that the law asks of a step's colour -/
theorem step_ok {kin : List Int} (hk : kin ∈ kinC) {st : Nat} (hst : st < 6) {sh va : Int} (hsh : 1 ≤ sh ∧ sh ≤ 4) (hva : 1 ≤ va ∧ va ≤ 4) :
    finOk (Float64.div (mixF [5, 0, 1] sh va (st : Int) (majK kin)) (Float64.ofInt 64)) (Float64.div (mixF [1, 2, 3] sh va (st : Int) (majK kin)) (Float64.ofInt 64)) (Float64.div (mixF [3, 4, 5] sh va (st : Int) (majK kin)) (Float64.ofInt 64)) (fracF ((staysN kin st : Int) * sh * va) 1024) = true := by
  have hc := cnt_tab kin hk ⟨st, hst⟩
  simp only at hc
  have hlen : (majK kin).length = kin.length := List.length_map _
  have hl12 : (majK kin).length ≤ 12 := by
    have h' : ∀ kin ∈ kinC, (majK kin).length ≤ 12 := by decide +kernel
    exact h' kin hk
  have hkey := in4 (P := fun sh => finL.any (fun e => decide (e.1 = keyOf (kin.length, cntH [5, 0, 1] (st : Int) (majK kin), cntH [1, 2, 3] (st : Int) (majK kin), cntH [3, 4, 5] (st : Int) (majK kin), staysN kin st) sh va)) = true)
    (fun s => in4 (P := fun va => finL.any (fun e => decide (e.1 = keyOf (kin.length, cntH [5, 0, 1] (st : Int) (majK kin), cntH [1, 2, 3] (st : Int) (majK kin), cntH [3, 4, 5] (st : Int) (majK kin), staysN kin st) ((s.val : Int) + 1) va)) = true) (key_tab _ hc s) hva) hsh
  obtain ⟨e, he, hd⟩ := List.any_eq_true.mp hkey
  have hd := of_decide_eq_true hd
  have h1 := List.all_eq_true.mp fin_conv e he
  have h2 := List.all_eq_true.mp fin_ok e he
  unfold finConv at h1
  rw [Bool.and_eq_true, Bool.and_eq_true, Bool.and_eq_true] at h1
  obtain ⟨⟨⟨c1, c2⟩, c3⟩, c4⟩ := h1
  have c1 := of_decide_eq_true c1
  have c2 := of_decide_eq_true c2
  have c3 := of_decide_eq_true c3
  have c4 := of_decide_eq_true c4
  rw [hd] at c1 c2 c3 c4
  unfold keyOf at c1 c2 c3 c4
  rw [mix_is hsh hva hl12, mix_is hsh hva hl12, mix_is hsh hva hl12, hlen]
  rw [c1, c2, c3, c4]
  exact h2
end
section
theorem news_step {h₀ h : Heap} {L : Addr} {a1 a2 a3 a4 a5 a6 a7 a8 a9 : Addr × Obj} {ts : Led} (N : News h₀ L h (a1 :: a2 :: a3 :: a4 :: a5 :: a6 :: a7 :: a8 :: a9 :: ts)) : ∃ R, R = (a1 :: a2 :: a3 :: a4 :: a7 :: a8 :: a9 :: ts) ∧ News h₀ L h (a3 :: a5 :: a6 :: R) :=
  ⟨_, rfl, fun p hp => N p (by
    simp only [List.mem_cons] at hp ⊢
    rcases hp with h | h | h | h | h | h | h | h | h | h | h <;> simp [h])⟩
/-- before the step i: now is kin, turned i times -/
noncomputable def stepJ (ki : List Int) (c5 c4 : Addr) (R : Led) (m0 : PySem.Str → Option Value) (i : Nat) (m : PySem.Str → Option Value) (nx : Led) : Prop :=
  ∃ (u : PySem.Str → Option Value) (lN : Addr) (vN : List Value) (nN : Nat) (oS oN : Obj) (vS : Option Value), m = (fun z => if z = PySem.Str.ofString "stays" then u z else if z = PySem.Str.ofString "red" then u z else if z = PySem.Str.ofString "green" then u z else if z = PySem.Str.ofString "blue" then u z else if z = PySem.Str.ofString "major" then u z else if z = PySem.Str.ofString "paint" then u z else if z = PySem.Str.ofString "depth" then u z else m0 z) ∧
    nx = (lN, W.listOf vN.toArray nN) :: (c5, oS) :: (c4, oN) :: R ∧ IntsAre vN (nowL ki i) ∧ oN.data = .cell (some (.ref lN)) ∧ oS.data = .cell vS ∧ (@Ne Nat lN c4) ∧ (@Ne Nat lN c5)
theorem map_of7 {m' M : PySem.Str → Option Value} (h : ∀ z, z ≠ PySem.Str.ofString "stays" → z ≠ PySem.Str.ofString "red" → z ≠ PySem.Str.ofString "green" → z ≠ PySem.Str.ofString "blue" → z ≠ PySem.Str.ofString "major" → z ≠ PySem.Str.ofString "paint" → z ≠ PySem.Str.ofString "depth" → m' z = M z) : m' = fun z => if z = PySem.Str.ofString "stays" then m' z else if z = PySem.Str.ofString "red" then m' z else if z = PySem.Str.ofString "green" then m' z else if z = PySem.Str.ofString "blue" then m' z else if z = PySem.Str.ofString "major" then m' z else if z = PySem.Str.ofString "paint" then m' z else if z = PySem.Str.ofString "depth" then m' z else M z := by
  funext z
  by_cases e0 : z = PySem.Str.ofString "stays"
  · rw [if_pos e0]
  by_cases e1 : z = PySem.Str.ofString "red"
  · rw [if_neg e0, if_pos e1]
  by_cases e2 : z = PySem.Str.ofString "green"
  · rw [if_neg e0, if_neg e1, if_pos e2]
  by_cases e3 : z = PySem.Str.ofString "blue"
  · rw [if_neg e0, if_neg e1, if_neg e2, if_pos e3]
  by_cases e4 : z = PySem.Str.ofString "major"
  · rw [if_neg e0, if_neg e1, if_neg e2, if_neg e3, if_pos e4]
  by_cases e5 : z = PySem.Str.ofString "paint"
  · rw [if_neg e0, if_neg e1, if_neg e2, if_neg e3, if_neg e4, if_pos e5]
  by_cases e6 : z = PySem.Str.ofString "depth"
  · rw [if_neg e0, if_neg e1, if_neg e2, if_neg e3, if_neg e4, if_neg e5, if_pos e6]
  rw [if_neg e0, if_neg e1, if_neg e2, if_neg e3, if_neg e4, if_neg e5, if_neg e6]
  exact h z e0 e1 e2 e3 e4 e5 e6
theorem ForCell.step {prog : Program} {w : World} {A : Around} {E : Value → Shared → Prop} {s₁ : Shared} {h₀ : Heap} {env : Env} {x : PySem.Str} {body : List Stmt} {Q : Flow → Shared → Prop} {r : Addr} {t u v : Tok} {m₀ : PySem.Str → Option Value} {lN c5 c4 : Addr} {vN : List Value} {nN : Nat} {oS oN : Obj} {R : Led} {vS : Option Value} (ki : List Int)
    (hh : A.handled = none) (hr : IsRange s₁.heap r 0 6 1 t u v)
    (F : Fr h₀ env.locals s₁.heap m₀) (N : News h₀ env.locals s₁.heap ((lN, W.listOf vN.toArray nN) :: (c5, oS) :: (c4, oN) :: R)) (hI : IntsAre vN ki) (hN : oN.data = .cell (some (.ref lN))) (hS : oS.data = .cell vS) (h4 : @Ne Nat lN c4) (h5 : @Ne Nat lN c5)
    (turn : ∀ i m₁ nx I it h tk t, i < 6 → (∀ p ∈ nx, p.1 ≠ I) → stepJ ki c5 c4 R m₀ i m₁ nx → it.cls = .type "range_iterator" → s₁.toks ≤ tk → Fr h₀ env.locals h m₁ → News h₀ env.locals h ((I, it) :: nx) →
      wpAny (model prog w) A (storeName env x (.int (0 + (i : Int)) t)) (fun _ s₂ => wpAny (model prog w) A (execs body env) (UnrPost h₀ env.locals { s₁ with heap := h, toks := tk } I it (stepJ ki c5 c4 R m₀ (i + 1)) Q) E s₂) E { s₁ with heap := h, toks := tk })
    (done : ∀ m₁ nx h tk, stepJ ki c5 c4 R m₀ 6 m₁ nx → s₁.toks ≤ tk → Fr h₀ env.locals h m₁ → News h₀ env.locals h nx → Q .next { s₁ with heap := h, toks := tk }) :
    ForCell prog w A E h₀ env x body Q (.ref r) s₁ :=
  ForCell.of (n := 6) (stepJ ki c5 c4 R m₀) hh hr (by decide) (by decide) F N ⟨m₀, lN, vN, nN, oS, oN, vS, map_of7 (fun _ _ _ _ _ _ _ _ => rfl), rfl, hI, hN, hS, h4, h5⟩ turn done
end
section
theorem pickI {vK : List Value} {ki : List Int} (h : ki ∈ kinC) (hI : IntsAre vK ki) : ∃ ks, ks = ki ∧ ks ∈ kinC ∧ IntsAre vK ks := ⟨ki, rfl, h, hI⟩
theorem nm_lt {i n : Nat} (h : i < n) : ∃ s, s = i ∧ s < n := ⟨i, rfl, h⟩
noncomputable def stayP (s k : Int) : Bool := Txt.slice (word k.toNat) (some s) none ++ Txt.slice (word k.toNat) none (some s) == word k.toNat
theorem stays_is (kin : List Int) (st : Nat) : (kin.filter (stayP (0 + (st : Int)))).length = staysN kin st := by
  have e : stayP (0 + (st : Int)) = fun k => Txt.slice (word k.toNat) (some (st : Int)) none ++ Txt.slice (word k.toNat) none (some (st : Int)) == word k.toNat := by
    funext k; unfold stayP; rw [Int.zero_add]
  unfold staysN
  rw [e]
theorem take_yes {p : Int → Bool} {l : List Int} {i : Nat} {k : Int} (h : l[i]? = some k) (hp : p k = true) : ((l.take (i + 1)).filter p).length = ((l.take i).filter p).length + 1 := by
  rw [List.take_add_one, h, List.filter_append, List.length_append]; simp [hp]
theorem take_no {p : Int → Bool} {l : List Int} {i : Nat} {k : Int} (h : l[i]? = some k) (hp : p k = false) : ((l.take (i + 1)).filter p).length = ((l.take i).filter p).length := by
  rw [List.take_add_one, h, List.filter_append, List.length_append]; simp [hp]
end
section
theorem comp_tokF {prog : Program} {w : World} {A : Around} {E : Value → Shared → Prop} {s : Shared} {h₀ : Heap} {L : Addr} {m : PySem.Str → Option Value} {env : Env} {elt iter : Expr} {x : PySem.Str} {px : Pos} {scope : Scope} {cl : List (PySem.Str × Addr)} {pos : Pos} {Q : Value → Shared → Prop} (_F : Fr h₀ L s.heap m)
    (hclos : closureFor scope env = pure cl) (hcell : ∀ y ∈ scope.names, y.2 ≠ .cell) (hkind : scope.kind = .function)
    (hnames : ∀ y ∈ scope.names, y.2 = .local → scope.names.lookup y.1 = some .local) (hx : scope.names.lookup x = some .local)
    (h : wpAny (model prog w) A (eval iter env) (TokSrc prog w A h₀ L m env elt x scope cl Q) E s)
    (hs : ∀ x, foldedSetIterable iter env x = pure x := by intro _; rfl) :
    wpAny (model prog w) A (eval (.ListComp elt [⟨.Name x px, iter, [], 0⟩] scope pos) env) Q E s := comp_tok hclos hcell hkind hnames hx h hs
theorem kin_pos {kin : List Int} (h : kin ∈ kinC) : 1 ≤ kin.length := by
  have h' : ∀ kin ∈ kinC, 1 ≤ kin.length := by decide +kernel
  exact h' kin h
noncomputable def xorF (kin now : List Int) (k : Nat) : Int := Builtin.bitXor (kin.getD (0 + (k : Int)).toNat 0) (now.getD (0 + (k : Int)).toNat 0)
theorem xorL_is (kin now : List Int) : (List.range kin.length).map (xorF kin now) = xorL kin now := by
  unfold xorL
  refine List.map_congr_left fun k _ => ?_
  unfold xorF
  rw [Int.zero_add, Int.toNat_natCast]
theorem nowL_length (kin : List Int) : ∀ st, (nowL kin st).length = kin.length
  | 0 => rfl
  | st + 1 => by show ((nowL kin st).map turnedF).length = _; rw [List.length_map, nowL_length kin st]
theorem tokIs_ints {f : Nat → Int} {tk : Nat} : ∀ {n : Nat} {ys : List Value}, ys.length = n → TokIs f ys tk → IntsAre ys ((List.range n).map f) := by
  intro n
  induction n generalizing f with
  | zero => intro ys hl _; rw [List.eq_nil_of_length_eq_zero hl]; exact .nil
  | succ n ih =>
    intro ys hl h
    cases ys with
    | nil => cases hl
    | cons y ys =>
      obtain ⟨t, h1, _, _⟩ := h 0 y rfl
      rw [h1, List.range_succ_eq_map, List.map_cons, List.map_map]
      exact .cons _ _ (ih (f := f ∘ Nat.succ) (Nat.succ.inj hl) (fun i z e => h (i + 1) z e))
theorem tokIs_at {f : Nat → Int} {tk : Nat} {ys : List Value} {t : Nat} (h : TokIs f ys tk) (ht : tk ≤ t) : ∀ (i : Nat) (n : Int) (u : Nat), ys[i]? = some (Value.int n u) → 1 ≤ u ∧ @LT.lt Nat _ u t := fun i n u e => by
  obtain ⟨t', h1, h2, h3⟩ := h i _ e
  cases h1
  exact ⟨h2, Nat.lt_of_lt_of_le h3 ht⟩
end
section
theorem mix_next {l : List Int} {sh va st m : Int} {ms : List Int} {i : Nat} (h : ms[i]? = some m) : Float64.add (mixF l sh va st (ms.take i)) (dueP (0 + ((((m * (0 + st)).fmod 6).toNat : Nat) : Int)) l sh va) = mixF l sh va st (ms.take (i + 1)) := by
  have e : (0 + ((((m * (0 + st)).fmod 6).toNat : Nat) : Int)) = (m * st).fmod 6 := by
    have h0 : 0 ≤ (m * st).fmod 6 := by rw [Int.fmod_eq_emod_of_nonneg _ (by decide)]; omega
    rw [Int.zero_add, Int.zero_add, Int.toNat_of_nonneg h0]
  rw [e]
  unfold mixF
  rw [List.take_add_one, h, List.foldl_append]
  rfl
/-- the colour mixed so far -/
noncomputable def mixJ (sh va st : Int) (ms : List Int) (nw : Led) (m0 : PySem.Str → Option Value) (i : Nat) (m : PySem.Str → Option Value) (nx : Led) : Prop :=
  ∃ (u : PySem.Str → Option Value) (tr tg tb : Nat), m = (fun z => if z = PySem.Str.ofString "red" then some (.float (mixF [5, 0, 1] sh va st (ms.take i)) tr) else if z = PySem.Str.ofString "green" then some (.float (mixF [1, 2, 3] sh va st (ms.take i)) tg) else if z = PySem.Str.ofString "blue" then some (.float (mixF [3, 4, 5] sh va st (ms.take i)) tb) else if z = PySem.Str.ofString "major" then u z else if z = PySem.Str.ofString "paint" then u z else m0 z) ∧
    nx = nw ∧ 1 ≤ tr ∧ 1 ≤ tg ∧ 1 ≤ tb
theorem map_of5 {x x' y₁ y₂ y₃ : PySem.Str} {v₁ v₂ v₃ : Value} {m' M : PySem.Str → Option Value} (h1 : m' y₁ = some v₁) (h2 : m' y₂ = some v₂) (h3 : m' y₃ = some v₃) (h : ∀ z, z ≠ x → z ≠ x' → z ≠ y₁ → z ≠ y₂ → z ≠ y₃ → m' z = M z) :
    m' = fun z => if z = y₁ then some v₁ else if z = y₂ then some v₂ else if z = y₃ then some v₃ else if z = x then m' z else if z = x' then m' z else M z := by
  funext z
  by_cases e1 : z = y₁
  · rw [if_pos e1, e1, h1]
  · by_cases e2 : z = y₂
    · rw [if_neg e1, if_pos e2, e2, h2]
    · by_cases e3 : z = y₃
      · rw [if_neg e1, if_neg e2, if_pos e3, e3, h3]
      · by_cases e : z = x
        · rw [if_neg e1, if_neg e2, if_neg e3, if_pos e]
        · by_cases e' : z = x'
          · rw [if_neg e1, if_neg e2, if_neg e3, if_neg e, if_pos e']
          · rw [if_neg e1, if_neg e2, if_neg e3, if_neg e, if_neg e']
            exact h z e e' e1 e2 e3
theorem maj_small {kin : List Int} (h : kin ∈ kinC) : ∀ m ∈ majL kin, 0 ≤ m ∧ m < 2 ^ 20 := by
  rw [majL_tab h]
  have h' : ∀ kin ∈ kinC, ∀ m ∈ kin.map (fun k => majT.getD k.toNat 0), 0 ≤ m ∧ m < 2 ^ 20 := by decide +kernel
  exact h' kin h
theorem paint_item {ts : Led} {sh va : Int} (htl : ts.length = 6) (htp : ∀ (j : Nat) (p : Addr × Obj), ts[j]? = some p → IsT3v (dueF (0 + (j : Int)) sh va) p.2) {q : Int} (h0 : 0 ≤ q.fmod 6) (h6 : q.fmod 6 < 6) :
    ∃ a t u v, (ts.map fun p => Value.ref p.1).toArray[(q.fmod 6).toNat]? = some (.ref a) ∧ (a, tup3 (dueF (0 + (((q.fmod 6).toNat : Nat) : Int)) sh va).1 (dueF (0 + (((q.fmod 6).toNat : Nat) : Int)) sh va).2.1 (dueF (0 + (((q.fmod 6).toNat : Nat) : Int)) sh va).2.2 t u v) ∈ ts := by
  have hlt : (q.fmod 6).toNat < ts.length := by omega
  have hp := List.getElem?_eq_getElem hlt
  obtain ⟨t, u, v, ho⟩ := htp _ _ hp
  refine ⟨ts[(q.fmod 6).toNat].1, t, u, v, ?_, ?_⟩
  · rw [List.getElem?_toArray, List.getElem?_map, hp]; rfl
  · rw [← ho]; exact List.getElem_mem hlt
theorem news_add {h₀ h : Heap} {L : Addr} {p : Addr × Obj} {r : Led} (N : News h₀ L h r) (hp : p ∈ r) : News h₀ L h (p :: r) := fun q hq => by
  rcases List.mem_cons.mp hq with rfl | hq
  · exact N _ hp
  · exact N _ hq
theorem nm4 {s : Int} (h : 1 ≤ s ∧ s ≤ 4) : ∃ x, x = s ∧ 1 ≤ x ∧ x ≤ 4 := ⟨s, rfl, h.1, h.2⟩
theorem fmod6 (q : Int) : 0 ≤ q.fmod 6 ∧ q.fmod 6 < 6 := by rw [Int.fmod_eq_emod_of_nonneg _ (by decide)]; omega
end
section
theorem over64 : ¬ Flt.Over 64 := by unfold Flt.Over; decide +kernel
theorem over2 : ¬ Flt.Over 2 := by unfold Flt.Over; decide +kernel
theorem dep_fin {kin : List Int} {st : Nat} {sh va : Int} (hl : kin.length ≤ 64) (hsh : 1 ≤ sh ∧ sh ≤ 4) (hva : 1 ≤ va ∧ va ≤ 4) : Float64.isInf (fracF ((staysN kin st : Int) * sh * va) 1024) = false := by
  have hs : staysN kin st ≤ 64 := Nat.le_trans (List.length_filter_le _ _) hl
  have h : ¬ Float64.isInf (fracF ((staysN kin st : Int) * sh * va) 1024) = true := by
    refine Flt.quot_fits (by decide) ?_
    rw [Int.natAbs_mul, Int.natAbs_mul, Int.natAbs_natCast]
    have h1 : sh.natAbs ≤ 4 := by omega
    have h2 : va.natAbs ≤ 4 := by omega
    have h3 : staysN kin st * sh.natAbs * va.natAbs ≤ 64 * 4 * 4 := Nat.mul_le_mul (Nat.mul_le_mul hs h1) h2
    refine Nat.lt_of_le_of_lt h3 ?_
    decide +kernel
  exact Bool.eq_false_iff.mpr h
theorem fin_facts {r g b d : UInt64} (h : finOk r g b d = true) : Float64.isZero r = false ∧ Float64.isZero (Float64.add r g) = false ∧ (Float64.cmp g b == some Ordering.eq) = true ∧ (Float64.cmp (Float64.sub r g) d == some Ordering.eq) = true ∧ t3eq (rhsvF r g b) (0, Float64.div d r, r) = true ∧ t3eq (rhlsF r g b) (0, Float64.div (Float64.add r g) (Float64.ofInt 2), Float64.div d (Float64.add r g)) = true := by
  unfold finOk eqF at h
  simp only [Bool.and_eq_true, Bool.not_eq_true'] at h
  obtain ⟨⟨⟨⟨⟨h1, h2⟩, h3⟩, h4⟩, h5⟩, h6⟩ := h
  exact ⟨h1, h2, h3, h4, h5, h6⟩
theorem step_facts {kin : List Int} (hk : kin ∈ kinC) {st : Nat} (hst : st < 6) {sh va : Int} (hsh : 1 ≤ sh ∧ sh ≤ 4) (hva : 1 ≤ va ∧ va ≤ 4) :
    ∃ r g b d, r = Float64.div (mixF [5, 0, 1] sh va (st : Int) (majL kin)) (Float64.ofInt 64) ∧ g = Float64.div (mixF [1, 2, 3] sh va (st : Int) (majL kin)) (Float64.ofInt 64) ∧ b = Float64.div (mixF [3, 4, 5] sh va (st : Int) (majL kin)) (Float64.ofInt 64) ∧ d = fracF ((staysN kin st : Int) * sh * va) 1024 ∧ finOk r g b d = true := by
  refine ⟨_, _, _, _, rfl, rfl, rfl, rfl, ?_⟩
  rw [majL_tab hk]
  exact step_ok hk hst hsh hva
theorem news_now {h₀ h : PySem.Heap} {L : Addr} {a0 a1 a2 a3 a4 a5 a6 a7 a8 : Addr × Obj} {R : Led} (N : News h₀ L h (a0 :: a1 :: a2 :: a3 :: a4 :: a5 :: a6 :: a7 :: a8 :: R)) : News h₀ L h (a5 :: a0 :: a7 :: a8 :: R) :=
  fun p hp => N p (by
    simp only [List.mem_cons] at hp ⊢
    rcases hp with h | h | h | h | h <;> simp [h])
theorem off_now {a b c d : Addr × Obj} {R : Led} {I : Addr} {o o' : Obj} (hoff : ∀ p ∈ a :: b :: c :: R, p.1 ≠ I) (hd : d.1 ≠ I) : ∀ p ∈ d :: (b.1, o') :: (c.1, o) :: R, p.1 ≠ I := by
  intro p hp
  rcases List.mem_cons.mp hp with rfl | hp
  · exact hd
  rcases List.mem_cons.mp hp with rfl | hp
  · exact hoff b (.tail _ (.head _))
  rcases List.mem_cons.mp hp with rfl | hp
  · exact hoff c (.tail _ (.tail _ (.head _)))
  · exact hoff _ (.tail _ (.tail _ (.tail _ hp)))
set_option maxRecDepth 100000 in
set_option maxHeartbeats 8000000 in
theorem endW {cl : PySem.Str → Option Addr} {mean : ExcName → Option Value} {s₁ s' : Shared} {L : Addr} {m : PySem.Str → Option Value} {ns : List Int} (F : Fr s₁.heap L s'.heap m) (hg : s'.gens = #[]) (hos : s'.os = s₁.os) :
    GoodW PySem.Challenge.rw_sw0017_01.row.claim cl mean [ofPy (PyData.list (List.map PyData.int ns))] s₁ (Except.ok (Flow.ret (Value.bool true))) s' := by
  refine goodW_bool F hg (raisesW_false ?_) ?_ hos
  · wrow_none_raised
  · wrow_post
end
inductive LawM2 : Prop | mk
inductive LawM3 : Prop | mk
inductive LawM4 : Prop | mk
local macro_rules | `(tactic| walk_at "SW st2") => `(tactic| ((fail_if_success (with_reducible show wpAny _ _ (call (Value.ref _) _) _ _ _)); (fail_if_success (with_reducible show wpAny _ _ (exec (Stmt.For _ _ _ _ _) _) _ _ _)); (fail_if_success (with_reducible show ForTok _ _ _ _ _ _ _ _ _ _ _)); walk_at "SW st"))
local macro_rules | `(tactic| walk_at "SW law") => `(tactic| repeat' (walk_at "SW st2"; walk_at "SW step"))
local macro_rules | `(tactic| walk_at "subscriptTail") => `(tactic| ((with_reducible show wpAny _ _ (subscriptTail _ _ (Value.ref _) (Value.int _ _)) _ _ _); (with_unfolding_all refine' item_wordI ?k1 ?k2 ?k3 ?k4 ?_ ?k6; (case k1 => is_list); (case k2 => assumption); (case k3 => first | (with_reducible exact z0i _) | omega); (case k4 => first | ((with_reducible refine z0lt ?_); assumption) | omega); (case k6 => with_unfolding_all rfl); k_whole); intro _))
local macro_rules | `(tactic| walk_at "SW tk") => `(tactic| ((try dsimp only); first | walk_at "SW tl" | omega))
local macro_rules | `(tactic| ktr_units) => `(tactic| exact of_decide_eq_true (by rfl))
local macro_rules | `(tactic| ktr_room) => `(tactic| exact of_decide_eq_true (by rfl))
local macro_rules | `(tactic| walk_at "SW tn") => `(tactic| ((show @Ne Nat _ _); first | exact Nat.succ_ne_zero _ | exact nn1 _ | k_dflt (exact Nat.ne_of_gt (by walk_at "SW tl")) | k_dflt (exact Nat.ne_of_gt (Nat.lt_succ_of_le (by walk_at "SW tl"))) | omega))
local macro_rules | `(tactic| walk_at "execs cons") => `(tactic| ((with_reducible rename LawM2 => lm); ((refine gen_toks fun tk' hle => ?_; (try dsimp only at hle); (refine wpAny_execs_cons ?_); (try dsimp only)))))
local macro_rules | `(tactic| walk_at "call builtin:str.replace") => `(tactic| ((with_reducible rename LawM2 => lm); ((refine wpAny_toksQ fun Qk hQk => ?_; refine SC.replaceW (by walk_at "SW tn") (by walk_at "SW tn") (by walk_at "SW tn") (by decide) (by omega) (by decide) ?_; intro _ _; refine hQk _ _ fun hle => ?_; clear hQk Qk; (try dsimp only at hle); (try dsimp only)))))
local macro_rules | `(tactic| walk_at "binaryOp Add str str") => `(tactic| ((with_reducible rename LawM2 => lm); (((fail_if_success (rename KStop => kst)); (have kst : KStop := KStop.mk); refine wpAny_toksQ fun Qk hQk => ?_; (first | walk_at "binaryOp Add str str"); clear kst; refine hQk _ _ fun hle => ?_; clear hQk Qk; (try dsimp only at hle); (try dsimp only)))))
local macro_rules | `(tactic| walk_at "SW addS") => `(tactic| ((with_reducible rename LawM2 => lm); ((refine wpAny_toksQ fun Qk hQk => ?_; k_dflt (refine' Con.use (addSS _ _ _ _ _ _ _ _ _ (by (rename _ ≤ 25 * _ => hb1); omega) (len_addA (by assumption))) (by k_asm) (by k_asm) (by k_asm) (by k_asm) (by k_asm) (by first | exact rfl | assumption) (by ktr_room) (by ktr_units) ?_); intro t' h' tk' F' N'; refine hQk _ _ fun hle => ?_; clear hQk Qk; (try dsimp only at hle); (try k_sweep); (try dsimp only)))))
local macro_rules | `(tactic| walk_at "SW law") => `(tactic| ((with_reducible rename LawM3 => lm); (repeat' ((fail_if_success (with_reducible show wpAny _ _ (compareOp CmpOp.NotEq (Value.ref _) (Value.ref _)) _ _ _)); walk_at "SW st2"; walk_at "SW step"))))
local macro_rules | `(tactic| walk_at "call builtin:min") => `(tactic| ((with_reducible rename LawM3 => lm); (((fail_if_success (rename KStop => kst)); (have kst : KStop := KStop.mk); refine wpAny_toksQ fun Qk hQk => ?_; (first | walk_at "call builtin:min"); (try clear kst); refine hQk _ _ fun hle => ?_; clear hQk Qk; (try dsimp only at hle); (try dsimp only)))))
local macro_rules | `(tactic| k_all) => `(tactic| ((with_reducible rename LawM3 => lm); (assumption)))
local macro_rules | `(tactic| walk_at "execs nil") => `(tactic| ((with_reducible rename LawM4 => lm); ((refine gen_toks fun tk' hle => ?_; (try dsimp only at hle); refine wpAny_execs_nil ?_))))
set_option maxRecDepth 100000 in
set_option maxHeartbeats 100000000 in
theorem lawT : Unit → PySem.Challenge.rw_sw0017_01.Holds := fun _ => Mine.hd (by
    k_go0
    k_fold
    rename Fr _ _ _ _ => Fx
    obtain ⟨m0, hm0, F0⟩ := fr_map Fx
    have hsc : m0 (PySem.Str.ofString "script") = some (.ref _) := (congrFun hm0 _).trans rfl
    clear hm0 Fx
    have Fx := fr_key F0 hsc
    clear F0 hsc
    iterate 5 (rename (_ = Data.cell (bindC _ _ _ _)) => dX; obtain ⟨_, dY⟩ := ex_cell dX; clear dX)
    walk_at "SW step"
    walk_at "SW step"
    walk_at "SW go"
    walk_at "SW comp"
    walk_at "SW go"
    rename IntsAre _ (List.take _ _) => hI1
    obtain ⟨xs, hxs, hI2⟩ := ints_named hI1
    have hx6 : xs.length ≤ 6 := by rw [hxs, List.length_take]; omega
    have hl6 := hI2.length
    clear hxs hI1
    refine LCg.CompSrc.ledger (by rfl) (by k_asm) (by k_asm) (by k_mem) (small_fits (by rw [List.size_toArray, hl6]; omega)) ?_
    intro g'
    refine comp_loop (R := fun i ys => IntsAre ys ((xs.take i).map fun k : Int => k.fmod (10 ^ Int.toNat 6))) .nil ?turnS1 ?finS1
    case turnS1 =>
      rintro i v ys I oI C oC D m₂ h tk E' hi hR hv hC hx F N off ne
      simp only [LCg.Off3, and_true] at off
      obtain ⟨k, t, rfl, hk⟩ := ints_item hI2 i v (by simpa using hv)
      walk_at "SW go"
      lcg_end
      refine ⟨rfl, ?_⟩
      rw [map_next hk]
      exact ints_snoc hR _ _
    case finS1 =>
      intro ys hR
      intro D h' tk' F' N' o1
      have hR1 : IntsAre ys (xs.map fun k : Int => k.fmod (10 ^ Int.toNat 6)) := by
        rw [List.size_toArray, hl6, List.take_length] at hR
        exact hR
      clear hR
      obtain ⟨zs, hzs, hZ⟩ := ints_named hR1
      have hz6 : zs.length ≤ 6 := by rw [hzs, List.length_map]; exact hx6
      have hz0 : ∀ z ∈ zs, 0 ≤ z ∧ z < 1000000 := by rw [hzs]; exact fmod_six xs
      clear hzs hR1 hI2 hl6
      have hy6 := hZ.length
      simp only [LCg.Off1, and_true] at o1
      iterate 6 walk_at "SW step"
      iterate 26 (try walk_at "SW step")
      refine slice_tmp (PySem.Str.ofString "numbers") default ?_
      k_dflt (refine' kmk_slice_ints (ms := ([1, 1, 0, 1, 1, 0] : List Int).drop zs.length) (c := 6 - zs.length) ?yF ?yN ?yl ?yp ?yq ?yi ?ym ?yc ?_ ?ys ?yt ?yz; (case yF => k_asm); (case yN => k_asm); (case yl => kmk_list); (case yp => kmk_part); (case yq => kmk_part); (case yi => exact .cons _ _ (.cons _ _ (.cons _ _ (.cons _ _ (.cons _ _ (.cons _ _ .nil)))))); (case ym => (rw [slicePick_from _ zs.length (by simpa using hz6)]; exact ints_drop (.cons _ _ (.cons _ _ (.cons _ _ (.cons _ _ (.cons _ _ (.cons _ _ .nil)))))) _)); (case yc => simp); (case ys => with_unfolding_all rfl); (case yt => kmk_pure); (case yz => kmk_size))
      intro D2 ws2 h2 F2 N2 l2 hI3 hC3 hL3
      (try k_lt l2)
      iterate 4 walk_at "SW step"
      rename IntsAre _ (zs ++ _) => hN
      obtain ⟨ns, hns, hN2⟩ := ints_named hN
      have hn6 : ns.length = 6 := by rw [hns, List.length_append, List.length_drop]; simp; omega
      have hn0 : ∀ z ∈ ns, 0 ≤ z ∧ z < 1000000 := by
        rw [hns]; intro z hz
        rcases List.mem_append.mp hz with hz | hz
        · exact hz0 z hz
        · have := List.mem_of_mem_drop hz
          simp at this; omega
      clear hns hN hz0 hI3 hC3 hL3 hZ
      walk_at "SW go"
      rename News _ _ _ _ => Nx
      have NP := news_prune4 Nx
      clear Nx
      walk_at "SW comp"
      walk_at "SW go"
      refine LCg.CompSrc.range (by rfl) (by k_asm) (by k_asm) (by assumption) (by decide) (n := 6) (by decide) (by decide) ?_
      intro g'
      refine comp_loop (R := fun i ys => IntsAre ys ((List.range i).map (bitI ns))) .nil ?turn2S1 ?fin2S1
      case turn2S1 =>
        rintro i v ys I oI C oC D m₂ h tk E' hi hR hv hC hx F N off ne
        simp only [LCg.Off3, and_true] at off
        obtain ⟨t, rfl⟩ := hv
        walk_at "SW go"
        lcg_end
        refine ⟨rfl, ?_⟩
        rw [bits_next]
        refine ints_snoc' hR _ ?_
        unfold bitI
        rw [Int.zero_add, Int.toNat_natCast]
      case fin2S1 =>
        intro ys hR
        intro D h' tk' F' N' o1
        simp only [LCg.Off1, and_true] at o1
        walk_at "SW law"
        k_dflt (refine' ConB.use (textsC _ _ _ _) (by k_asm) (by k_asm) (by k_asm) (by k_asm) (by k_asm) (by first | exact rfl | assumption) (by ktr_room) (by ktr_units) trivial ?_)
        intro lT oT hT tkT FT NT offT PT
        obtain ⟨vT, nT, rfl, sT⟩ := PT
        obtain ⟨o, ho64, hoe⟩ := bits_sum ns
        rw [hoe] at FT
        obtain ⟨tot, htot⟩ := int_named ns.sum
        rw [← htot] at FT
        have oT := off1_of offT
        simp only [LCg.Off1, and_true] at oT
        clear offT hoe htot hR hn0 hn6 hN2
        have NP := news_prune2 NT
        clear NT
        repeat (rename _ => x9; revert x9)
        intros
        as_aux_lemma =>
          walk_at "SW law"
          rename StrsAre _ (textsL 6) => sT
          rename _ < 64 => ho64
          have hvl := sT.length
          rw [texts_length] at hvl
          rw [Int.toNat_natCast]
          k_dflt (refine' ConB.use (kinTC _ _ _ _ _ ho64 _ _ _ sT) (by k_asm) (by k_asm) (by k_asm) (by k_asm) (by k_asm) (by first | exact rfl | assumption) (by ktr_room) (by ktr_units) (by is_list) ?_)
          intro lK oK hK tkK FK NK offK PK
          obtain ⟨vK, nK, rfl, iK⟩ := PK
          have oK := off1_of offK
          simp only [LCg.Off1, and_true] at oK
          clear offK
          walk_at "SW law"
          k_dflt (refine' ConB.use (kinBC _ _ _ _ _ _ (Int.natCast_nonneg _) (Int.ofNat_lt.mpr ho64)) (by k_asm) (by k_asm) (by k_asm) (by k_asm) (by k_asm) (by first | exact rfl | assumption) (by ktr_room) (by ktr_units) trivial ?_)
          intro lB oB hB tkB htkB FB NB offB PB
          obtain ⟨vB, nB, rfl, iB⟩ := PB
          have oB := off1_of offB
          simp only [LCg.Off1, and_true] at oB
          clear offB
          walk_at "SW step"
          walk_at "SW step"
          walk_at "SW step"
          have NC := news_drop1 NB
          clear NB iB
          repeat (with_reducible rename @Ne _ _ lB => hh; clear hh)
          obtain ⟨hkl, hkm⟩ := kin_facts ho64
          have hvK : vK.length ≤ 64 := by rw [iK.length]; exact hkl
          repeat ((fail_if_success (with_reducible show wpAny _ _ (newList _) _ _ _)); walk_at "SW step")
          walk_at "SW step"
          walk_at "SW step"
          generalize hT0 : tkB + 1 + 1 + 1 + 1 = T0
          iterate 8 walk_at "SW step"
          generalize hT1 : T0 + 1 + 1 + 1 + 1 = T1
          walk_at "SW law"
          repeat (rename _ => x9; revert x9)
          intros
          as_aux_lemma =>
            have lm2 : LawM2 := LawM2.mk
            rename 1 ≤ _ => htkB
            rename IntsAre _ (kinL _ _) => iK
            rename _ < 64 => ho64
            obtain ⟨hkl, hkm⟩ := kin_facts ho64
            rename Fr _ _ _ _ => Fx
            refine for_tok Fx rfl rfl ?_
            refine wpAny_toksQ fun Qk hQk => ?_
            walk_at "SW law"
            refine hQk _ _ fun hTr => ?_
            (try dsimp only at hTr)
            (try dsimp only)
            obtain ⟨ki, hki0, iK2⟩ := ints_named iK
            rename IsRange _ _ _ _ _ _ _ _ => rK
            rw [← hki0] at rK hkl hkm
            clear iK
            rename Fr _ _ _ _ => Fx2
            rename News _ _ _ _ => Nx
            obtain ⟨m0, hm0, F0⟩ := fr_map Fx2
            obtain ⟨nw, hnw, N0⟩ := led_all Nx
            have htt : ∃ c t, m0 (PySem.Str.ofString "total") = some (.int c t) := ⟨_, _, (congrFun hm0 _).trans rfl⟩
            obtain ⟨tot, ttot, htot⟩ := htt
            clear Fx2 Nx
            refine' ForTok.of (n := ki.length) (mailJ (Int.fdiv tot 128) ki nw m0) rfl (by assumption) (small_of (Nat.le_trans hkl (by decide))) (size_of _) F0 N0 ?h0S3 ?turnS3 ?doneS3
            case h0S3 =>
              exact ⟨m0, _, _, map_of4 ((congrFun hm0 _).trans rfl) ((congrFun hm0 _).trans rfl) (fun _ _ _ _ _ => rfl), rfl, Nat.le_of_eq rfl, Nat.le_of_eq rfl⟩
            case turnS3 =>
              have e1 : m0 (PySem.Str.ofString "total") = some (.int _ _) := (congrFun hm0 _).trans rfl
              rw [e1] at htot
              injection htot with htot
              injection htot with e2 e3
              subst e2
              clear e1 e3
              rintro i m₁ nx I it h tk tv hi hoff ⟨u, ta, tm, rfl, rfl, hml, hdl⟩ hit hTk F' N'
              subst hm0
              subst hnw
              k_fold
              (try dsimp only at hTk)
              have hki := getD_of hi
              obtain ⟨hk0, hk1⟩ := hkm _ (List.mem_of_getElem? hki)
              have hk64 : (ki.getD (0 + (i : Int)).toNat 0).toNat < 64 := tn64 hk1
              have hw6 := word_len hk64
              obtain ⟨hr1, hr2, hr3, hr4, hr5⟩ := word_rep _ hk64
              have ha1 : (PySem.Str.ofString "a").length = 1 := by decide +kernel
              walk_at "SW law"
              all_goals walk_at "SW addS"
              all_goals walk_at "SW law"
              all_goals rename Fr _ _ _ _ => Fx
              all_goals rename News _ _ _ _ => Nx
              all_goals rename Int.fmod _ 3 = _ => kE
              all_goals have em := mail_n (kin := ki) kE
              all_goals have ed := dm_n (kin := ki) (i := i)
              all_goals refine ⟨_, _, _, _, rfl, Fx, Nx, hoff, ⟨_, _, _, map_of4 (by dsimp only; rw [em]; rfl) (by dsimp only; rw [ed]; rfl) (by intro z h1 h2 h3 h4; simp only [h1, h2, h3, h4, if_false]), rfl, mail_len hml hk64, dm_len hdl hk64⟩⟩
            case doneS3 =>
              have e1 : m0 (PySem.Str.ofString "total") = some (.int _ _) := (congrFun hm0 _).trans rfl
              rw [e1] at htot
              injection htot with htot
              injection htot with e2 e3
              subst e2
              clear e1 e3
              rintro m₁ nx h tk ⟨u, ta, tm, rfl, rfl, hml, hdl⟩ hTk F' N'
              subst hm0
              subst hnw
              walk_at "SW law"
              repeat (rename _ => x9; revert x9)
              intros
              as_aux_lemma =>
                rename IntsAre _ _ => iK2
                rename _ = kinL _ 64 => hki0
                rename _ < 64 => ho64
                have hkc := kin_class ho64
                rw [← hki0] at hkc
                rename Fr _ _ _ _ => Fx
                have hkc' : ∀ c, _ := fun c => quote_ok hkc c
                obtain ⟨hz1, mid, hz2, hq2, hq1⟩ := hkc' (Int.fdiv _ 128)
                refine wpAny_toksQ fun Qk hQk => ?_
                k_dflt (refine' ConB.use (quoteC _ _ _ _ _ mid _ _ hz1 hz2 hq2 hq1) (by k_asm) (by k_asm) (by k_asm) (by k_asm) (by k_asm) (by first | exact rfl | assumption) (by ktr_room) (by ktr_units) trivial ?_)
                intro tQ hQ tkQ FQ NQ
                refine hQk _ _ fun hleQ => ?_
                clear hQk Qk
                (try dsimp only at hleQ)
                (try dsimp only)
                walk_at "SW law"
                all_goals first | (exfalso; (rename (dmP _ _ != _) = true => hne); rw [bne_self_eq_false] at hne; exact Bool.noConfusion hne) | skip
                refine wpAny_toksQ fun Qk2 hQk2 => ?_
                walk_at "SW acomp"
                iterate 14 walk_at "SW step"
                k_dflt (refine kba_turn (value' := PySem.Expr.Name (PySem.Str.ofString "_") ⟨0, 0, 0, 0⟩) (fun _ => rfl) ?_)
                refine slice_list (by assumption) (by assumption) (by first | assumption | exact Fr.lst (by assumption) (by assumption) | exact News.isList (by assumption) (by first | exact .head _ | exact .tail _ (.head _) | exact .tail _ (.tail _ (.head _)) | exact .tail _ (.tail _ (.tail _ (.head _))))) (by first | exact .none | exact .int _ _) (by first | exact .none | exact .int _ _) ?_
                intro _ _ _
                walk_at "SW law"
                rename News _ _ _ _ => Nx
                obtain ⟨lS, hlS, NS⟩ := led1 Nx
                rename StrsAre _ (List.map _ _) => sS
                rename List.map _ _ = Txt.split _ _ => hS
                rw [hS] at sS
                clear Nx
                rw [← hlS]
                clear hlS
                have hS1 := strs_drop sS 1
                change StrsAre _ (partsP _) at hS1
                obtain ⟨hpl, hpk⟩ := parts_facts hkc
                obtain ⟨ps, hps, hS2⟩ := strs_named hS1
                rw [← hps] at hpl hpk
                clear hS1 sS hS
                have NS1 := news_prune2 (news_pick NS)
                clear NS
                have hl2 := hS2.length
                refine LCg.CompSrc.ledger (by rfl) (by k_asm) NS1 (.head _) (small_fits (by rw [List.size_toArray, hl2]; omega)) ?_
                intro g'
                (try dsimp only)
                refine comp_loop (R := fun i ys => IntsAre ys ((ps.take i).map majF)) .nil ?turnS4 ?finS4
                case turnS4 =>
                  rintro j v ys I1 oI C oC D m₂ h tk E' hj hR hP hC hx F' N' off ne
                  obtain ⟨y, ty, rfl, hy⟩ := hS2.item j v (by simpa using hP)
                  obtain ⟨hp1, hp2, hp3⟩ := hpk y (List.mem_of_getElem? hy)
                  simp only [LCg.Off3, and_true] at off
                  walk_at "SW law"
                  k_dflt (refine' ConB.use (majorC _ _ _ _ y _ hp1 hp2 hp3) (by k_asm) (by k_asm) (by k_asm) (by k_asm) (by k_asm) (by first | exact rfl | assumption) (by ktr_room) (by ktr_units) trivial ?_)
                  intro t' h' tk' F' N'
                  (try k_sweep)
                  (try dsimp only)
                  walk_at "SW law"
                  lcg_end
                  refine ⟨rfl, ?_⟩
                  rw [map_nextS hy]
                  exact ints_snoc hR _ _
                case finS4 =>
                  intro ys hR
                  intro D h' tkM F' N' o1
                  refine hQk2 _ _ fun hleM => ?_
                  clear hQk2 Qk2
                  (try dsimp only at hleM)
                  have htkM : 1 ≤ tkM := by walk_at "SW tk"
                  have hR1 : IntsAre ys (ps.map majF) := by
                    rw [List.size_toArray, hl2, List.take_length] at hR
                    exact hR
                  clear hR
                  obtain ⟨ms, hms, hM⟩ := ints_named hR1
                  rw [hps] at hms
                  change ms = majL _ at hms
                  clear hR1 hps hS2 hl2 hpk hpl
                  have N2 := news_drop2nd N'
                  clear N'
                  obtain ⟨m0, hm0, F0⟩ := fr_map F'
                  have k1 : m0 (PySem.Str.ofString "total") = some (.int _ _) := (congrFun hm0 _).trans rfl
                  have k2 : m0 (PySem.Str.ofString "majors") = some (.ref D) := (congrFun hm0 _).trans rfl
                  clear hm0 F'
                  have F1 := fr_key2 F0 k1 k2
                  clear F0 k1 k2
                  (try dsimp only)
                  repeat (rename _ => x9; revert x9)
                  intros
                  as_aux_lemma =>
                    have lm3 : LawM3 := LawM3.mk
                    walk_at "SW law"
                    rename Fr _ _ _ _ => Fx
                    rename News _ _ _ _ => Nx
                    obtain ⟨m0, hm0, F0⟩ := fr_map Fx
                    have a1 : m0 (PySem.Str.ofString "share") = some (.int (1 + Int.fmod _ 4) _) := (congrFun hm0 _).trans rfl
                    have a2 : m0 (PySem.Str.ofString "value") = some (.int (1 + Int.fmod _ 4) _) := (congrFun hm0 _).trans rfl
                    have a3 : m0 (PySem.Str.ofString "turns") = some (.int (Int.fmod _ 4 - 1) _) := (congrFun hm0 _).trans rfl
                    have a4 : m0 (PySem.Str.ofString "light") = some (.int ((1 + Int.fmod _ 4) * (8 - (1 + Int.fmod _ 4))) _) := (congrFun hm0 _).trans rfl
                    have k5 : m0 (PySem.Str.ofString "majors") = some (.ref _) := (congrFun hm0 _).trans rfl
                    have k6 : m0 (PySem.Str.ofString "paints") = some (.ref _) := (congrFun hm0 _).trans rfl
                    obtain ⟨sh, va, tu, hsh, hva, htu, k1, k2, k3, k4⟩ := keys4 a1 a2 a3 a4
                    clear hm0 Fx a1 a2 a3 a4
                    have F1 := fr_keyL [(PySem.Str.ofString "share", _), (PySem.Str.ofString "value", _), (PySem.Str.ofString "turns", _), (PySem.Str.ofString "light", _), (PySem.Str.ofString "majors", _), (PySem.Str.ofString "paints", _)] F0 (List.forall_mem_cons.mpr ⟨k1, List.forall_mem_cons.mpr ⟨k2, List.forall_mem_cons.mpr ⟨k3, List.forall_mem_cons.mpr ⟨k4, List.forall_mem_cons.mpr ⟨k5, List.forall_mem_cons.mpr ⟨k6, fun _ h => nomatch h⟩⟩⟩⟩⟩⟩)
                    simp only [List.foldr_cons, List.foldr_nil] at F1
                    clear F0 k1 k2 k3 k4 k5 k6
                    refine for_tok F1 rfl rfl ?_
                    refine wpAny_toksQ fun Qk hQk => ?_
                    walk_at "SW law"
                    refine hQk _ _ fun hTr => ?_
                    clear hQk Qk
                    (try dsimp only at hTr)
                    (try dsimp only)
                    rename IsRange _ _ _ _ _ _ _ _ => rK
                    rename Fr _ _ _ _ => Fx2
                    rename News _ _ _ _ => Nx2
                    obtain ⟨m1, hm1, F2⟩ := fr_map Fx2
                    obtain ⟨lP, nw, hlP, hnw, N2⟩ := led_ht Nx2
                    rw [← hlP] at hm1
                    have hne0 : ∀ p ∈ ([] : Led) ++ nw, p.1 ≠ lP := by
                      rw [hnw, hlP]
                      refine off1_to ?_
                      simp only [List.nil_append, LCg.Off1, and_true]
                      repeat' apply And.intro
                      all_goals (show @Ne Nat _ _)
                      all_goals first | walk_at "SW nef" | omega
                    refine' ForTok.of (n := 6) (paintJ sh va lP nw m1) rfl (by assumption) (by decide) (by decide) F2 N2 ?h0S5 ?turnS5 ?doneS5
                    case h0S5 =>
                      exact ⟨m1, [], 0, (by funext z; simp), rfl, rfl, (fun j p h => by simp at h), hne0, (fun p hp => by cases hp)⟩
                    case turnS5 =>
                      rintro i m₁ nx I it h tk tv hi hoff ⟨u, ts, nP, rfl, rfl, htl, htp, hne, hap⟩ hit hTk F' N'
                      subst hm1
                      k_fold
                      (try dsimp only)
                      (try dsimp only at hTk)
                      have h1tk : 1 ≤ tk := by walk_at "SW tk"
                      clear hTk
                      walk_at "SW law"
                      k_dflt (refine' Con.use (truedivT _ _ _ _ _ sh 4 _ _ (by decide) (frac4_fin hsh)) (by k_asm) (by k_asm) (by k_asm) (by k_asm) (by k_asm) (by first | exact rfl | assumption) (by ktr_room) (by ktr_units) ⟨by walk_at "SW tk", ?_⟩)
                      intro tA hA tkA h1A hleA FA NA
                      (try dsimp only at hleA)
                      (try k_sweep)
                      (try dsimp only)
                      walk_at "SW law"
                      k_dflt (refine' Con.use (truedivT _ _ _ _ _ va 4 _ _ (by decide) (frac4_fin hva)) (by k_asm) (by k_asm) (by k_asm) (by k_asm) (by k_asm) (by first | exact rfl | assumption) (by ktr_room) (by ktr_units) ⟨by walk_at "SW tk", ?_⟩)
                      intro tB hB tkB h1B hleB FB NB
                      (try dsimp only at hleB)
                      (try k_sweep)
                      (try dsimp only)
                      walk_at "SW law"
                      have hpi := paint_is hi htu hsh hva
                      unfold fracF at hpi
                      refine wpAny_toksQ fun Qk hQk => ?_
                      k_dflt (refine' Con.use (hsvP' _ _ _ _ _ _ _ _ _ _ _ h1B (isSome_of hpi)) (by k_asm) (by k_asm) (by k_asm) (by k_asm) (by k_asm) (by first | exact rfl | assumption) (by ktr_room) (by ktr_units) ⟨by walk_at "SW tk", ?_⟩)
                      intro lA oA hA2 tkA2 FA2 NA2 offA PA
                      refine hQk _ _ fun hleA2 => ?_
                      clear hQk Qk
                      (try dsimp only at hleA2)
                      (try dsimp only)
                      obtain ⟨x, y, z, t1, t2, t3, htA, eA, rfl⟩ := PA
                      obtain ⟨rfl, rfl, rfl⟩ := t3_in hpi eA
                      clear eA
                      have offA1 : lP ≠ lA := Nat.ne_of_lt (offA _ (.tail _ (.head _)))
                      have offA3 : ∀ q ∈ nw, q.1 ≠ lA := fun q hq => Nat.ne_of_lt (offA q (.tail _ (.tail _ (List.mem_append.mpr (.inr hq)))))
                      have offA2 : lA ≠ I := Ne.symm (Nat.ne_of_lt (offA _ (.head _)))
                      walk_at "SW law"
                      refine wpAny_toksQ fun Qk hQk => ?_
                      k_dflt (refine' ConB.use (dueP' _ _ _ _ (0 + (i : Int)) sh va _ _ _ (by omega) hsh hva) (by k_asm) (by k_asm) (by k_asm) (by k_asm) (by k_asm) (by first | exact rfl | assumption) (by ktr_room) (by ktr_units) trivial ⟨by walk_at "SW tk", ?_⟩)
                      intro lB oB hB2 tkB2 FB2 NB2 offB PB
                      refine hQk _ _ fun hleB2 => ?_
                      clear hQk Qk
                      (try dsimp only at hleB2)
                      (try dsimp only)
                      obtain ⟨t4, t5, t6, htB, rfl⟩ := PB
                      obtain ⟨es1, es2, es3⟩ := due_self hi hsh hva
                      refine ne_tup3 (NB2 _ (.tail _ (.head _))).1 (NB2 _ (.head _)).1 (none_booked_of fun a o e => FB2.keep _ _ ((show (hd.heap_39 _).In _ by k_asm) a o e)) htA htB (by first | ktr_units | units_room) es1 es2 es3 ?_
                      walk_at "SW law"
                      have hb1 := hsv_back hi hsh hva
                      unfold backHsv at hb1
                      refine wpAny_toksQ fun Qk hQk => ?_
                      k_dflt (refine' Con.use (rhsvP _ _ _ _ _ _ _ _ _ _ _ htA (t3eq_some hb1)) (by k_asm) (by k_asm) (by k_asm) (by k_asm) (by k_asm) (by first | exact rfl | assumption) (by ktr_room) (by ktr_units) ⟨by walk_at "SW tk", ?_⟩)
                      intro lC oC hC tkC FC NC offC PC
                      refine hQk _ _ fun hleC => ?_
                      clear hQk Qk
                      (try dsimp only at hleC)
                      (try dsimp only)
                      obtain ⟨xC, yC, zC, t7, t8, t9, htC, eC, rfl⟩ := PC
                      obtain ⟨q1, q2, q3⟩ := t3eq_of hb1 eC
                      walk_at "SW law"
                      repeat (rename _ => x9; revert x9)
                      intros
                      as_aux_lemma =>
                        rename News _ _ _ _ => NE
                        rename Fr _ _ _ _ => FE
                        rename _ = some (_, _, _) => eC
                        rename t3eq _ _ = true => hb1
                        obtain ⟨q1, q2, q3⟩ := t3eq_of hb1 eC
                        refine ne_tup3 (NE _ (.tail _ (.head _))).1 (show _ = some (tup3 _ _ _ _ _ _) from (NE _ (.head _)).1) (none_booked_of fun a o e => FE.keep _ _ ((show (hd.heap_39 _).In _ by k_asm) a o e)) ⟨by walk_at "SW tk", by walk_at "SW tk", by walk_at "SW tk"⟩ ⟨by walk_at "SW tk", by walk_at "SW tk", by walk_at "SW tk"⟩ (by first | ktr_units | units_room) q1 q2 q3 ?_
                        clear q1 q2 q3 hb1 eC
                        walk_at "SW law"
                        rename _ < 6 => hi
                        rename 1 ≤ _ ∧ _ ≤ 4 => hva
                        obtain ⟨hva1, hva2⟩ := hva
                        rename 1 ≤ _ ∧ _ ≤ 4 => hsh
                        have hva' := And.intro hva1 hva2
                        obtain ⟨hshA, hshB⟩ := four64 hsh.1 hsh.2
                        have hb2 := hls_back hi hsh hva'
                        unfold backHls at hb2
                        rename 1 ≤ _ ∧ 1 ≤ _ ∧ 1 ≤ _ => ht9
                        obtain ⟨hc1, hc2, hc3⟩ := ht9
                        rename 1 ≤ _ ∧ 1 ≤ _ ∧ 1 ≤ _ => ht6
                        obtain ⟨hb1, hb3, hb4⟩ := ht6
                        rename 1 ≤ _ ∧ 1 ≤ _ ∧ 1 ≤ _ => htA
                        refine wpAny_toksQ fun Qk hQk => ?_
                        k_dflt (refine' Con.use (rhlsP _ _ _ _ _ _ _ _ _ _ _ htA (t3eq_some hb2)) (by k_asm) (by k_asm) (by k_asm) (by k_asm) (by k_asm) (by first | exact rfl | assumption) (by ktr_room) (by ktr_units) ⟨by walk_at "SW tk", ?_⟩)
                        intro lG oG hG tkG FG NG offG PG
                        refine hQk _ _ fun hleG => ?_
                        clear hQk Qk
                        (try dsimp only at hleG)
                        (try dsimp only)
                        obtain ⟨xG, yG, zG, t17, t18, t19, htG, eG, rfl⟩ := PG
                        have lf := light_fin hsh hva'
                        have lm := light_min hsh hva'
                        have ls := sat_if hsh hva'
                        unfold fracF at lf ls
                        rw [sat_eq] at hb2
                        walk_at "SW law"
                        all_goals first
                          | (exfalso; (rename Float64.isInf _ = true => hb); (first | rw [lf] at hb | rw [ls] at hb); exact Bool.noConfusion hb)
                          | (exfalso; exact lm (by assumption))
                          | skip
                        rename News _ _ _ _ => NH
                        rename Fr _ _ _ _ => FH
                        obtain ⟨q1, q2, q3⟩ := t3eq_of hb2 eG
                        refine ne_tup3 (NH _ (.tail _ (.head _))).1 (show _ = some (tup3 _ _ _ _ _ _) from (NH _ (.head _)).1) (none_booked_of fun a o e => FH.keep _ _ ((show (hd.heap_39 _).In _ by k_asm) a o e)) htG ⟨by walk_at "SW tk", by walk_at "SW tk", by walk_at "SW tk"⟩ (by first | ktr_units | units_room) q1 q2 q3 ?_
                        walk_at "SW law"
                        rename News _ _ _ _ => NK
                        rename Fr _ _ _ _ => FK
                        rename ∀ p ∈ _ :: (_ ++ _), Prod.fst p ≠ _ => hoff
                        rename ∀ p ∈ _ ++ _, Prod.fst p ≠ _ => hne
                        rename ∀ (j : Nat) (p : Addr × Obj), _ → IsT3v _ _ => htp
                        rename List.length _ = _ => htl
                        refine paint_push FK NK (by assumption) (hoff _ (.head _)) hne (by rw [htl]; omega) ?_
                        intro h' F' N'
                        walk_at "SW law"
                        rename News _ _ _ _ => NZ
                        rename Fr _ _ _ _ => FZ
                        refine ⟨_, _, _, _, rfl, FZ, NZ, off_next hoff (by assumption), paint_next htl ⟨_, _, _, rfl⟩ (by assumption) htp hne (by assumption) (by assumption) (by intro z h1 h2; simp only [h1, h2, if_false])⟩
                    case doneS5 =>
                      rintro m₁ nx h tk ⟨u, ts, nP, rfl, rfl, htl, htp, hne, hap⟩ hTk F' N'
                      (try dsimp only at hTk)
                      have h1tk : 1 ≤ tk := by walk_at "SW tk"
                      clear hTk
                      subst hm1
                      repeat (rename _ => x9; revert x9)
                      intros
                      as_aux_lemma =>
                        rename Fr _ _ _ _ => Fx
                        rename News _ _ _ _ => Nx
                        have Ny := news_swap Nx
                        clear Nx
                        rename _ = List.cons _ _ => hnw
                        rename ∀ p ∈ _, ∀ q ∈ _, Prod.fst q ≠ Prod.fst p => hap
                        rw [hnw] at Ny hap
                        simp only [List.cons_append, List.nil_append] at Ny
                        obtain ⟨m0, hm0, F0⟩ := fr_map Fx
                        have k1 : m0 (PySem.Str.ofString "share") = some (.int _ _) := (congrFun hm0 _).trans rfl
                        have k2 : m0 (PySem.Str.ofString "value") = some (.int _ _) := (congrFun hm0 _).trans rfl
                        have k5 : m0 (PySem.Str.ofString "majors") = some (.ref _) := (congrFun hm0 _).trans rfl
                        have k6 : m0 (PySem.Str.ofString "paints") = some (.ref _) := (congrFun hm0 _).trans rfl
                        have F1 := fr_keyL [(PySem.Str.ofString "share", _), (PySem.Str.ofString "value", _), (PySem.Str.ofString "majors", _), (PySem.Str.ofString "paints", _)] F0 (List.forall_mem_cons.mpr ⟨k1, List.forall_mem_cons.mpr ⟨k2, List.forall_mem_cons.mpr ⟨k5, List.forall_mem_cons.mpr ⟨k6, fun _ h => nomatch h⟩⟩⟩⟩)
                        simp only [List.foldr_cons, List.foldr_nil] at F1
                        clear hm0 Fx F0 k1 k2 k5 k6
                        (try dsimp only)
                        have hc5 : ∀ p ∈ _, Prod.fst p ≠ _ := fun p hp => Ne.symm (hap p hp _ (.tail _ (.tail _ (.tail _ (.head _)))))
                        have hc4 : ∀ p ∈ _, Prod.fst p ≠ _ := fun p hp => Ne.symm (hap p hp _ (.tail _ (.tail _ (.tail _ (.tail _ (.head _))))))
                        clear hap
                        rename ∀ p ∈ _ ++ _, Prod.fst p ≠ _ => hne
                        rw [hnw] at hne
                        have np5 : @Ne Nat _ _ := hne _ (List.mem_append.mpr (.inr (.tail _ (.tail _ (.tail _ (.head _))))))
                        have np4 : @Ne Nat _ _ := hne _ (List.mem_append.mpr (.inr (.tail _ (.tail _ (.tail _ (.tail _ (.head _)))))))
                        rename LCg.Off1 _ _ => oD
                        simp only [LCg.Off1, and_true] at oD
                        walk_at "SW law"
                        rename Fr _ _ _ _ => Fx2
                        refine for_cell Fx2 ?_
                        refine wpAny_toksQ fun Qk hQk => ?_
                        walk_at "SW law"
                        refine hQk _ _ fun hTr => ?_
                        clear hQk Qk
                        (try dsimp only at hTr)
                        (try dsimp only)
                        rename IsRange _ _ _ _ _ _ _ _ => rK
                        rename Fr _ _ _ _ => Fx3
                        rename News _ _ _ _ => Nx3
                        obtain ⟨m1, hm1, F2⟩ := fr_map Fx3
                        obtain ⟨R, hR, N2⟩ := news_step Nx3
                        refine' ForCell.step _ rfl (by assumption) F2 N2 (by assumption) (by assumption) (by assumption) (by first | walk_at "SW nef" | omega) (by first | walk_at "SW nef" | omega) ?turnS7 ?doneS7
                        case turnS7 =>
                          rintro i m₁ nx I it h tk tv hi hoff ⟨u, lN, vN, nN, oS, oN, vS, rfl, rfl, hIN, hoN, hoS, hn4, hn5⟩ hit hTk F' N'
                          have hI5 : @Ne Nat _ I := hoff _ (.tail _ (.head _))
                          have hI4 : @Ne Nat _ I := hoff _ (.tail _ (.tail _ (.head _)))
                          (try dsimp only at hTk hI5 hI4)
                          have h1s : 1 ≤ tk := by walk_at "SW tk"
                          clear hTk
                          subst hm1
                          subst hR
                          (try k_fold)
                          walk_at "SW law"
                          repeat (rename _ => x9; revert x9)
                          intros
                          as_aux_lemma =>
                            rename _ ∈ kinC => hkc
                            obtain ⟨ks, hks0, hkc, iK⟩ := pickI hkc (by assumption)
                            subst hks0
                            rename _ < 6 => hi
                            obtain ⟨st, hst0, hst⟩ := nm_lt hi
                            subst hst0
                            have hks := kin_small _ hkc
                            have hkl := iK.length
                            rename List.length _ ≤ 64 => hkl64
                            refine wpAny_toksQ fun Qk hQk => ?_
                            k_dflt (refine LCt.ListComp_T (F₀ := by k_asm) (by with_unfolding_all rfl) (by decide) (by rfl) (by decide) (by rfl) ?_)
                            walk_at "SW law"
                            refine LCt.CompSrcT.ledger (by rfl) (by k_asm) (by k_asm) (by k_mem) (small_fits (by rw [List.size_toArray, hkl]; exact Nat.le_trans hkl64 (by decide))) ?_
                            intro g'
                            (try dsimp only)
                            refine comp_loopT (R := fun j ys => ys.length = ((ks.take j).filter (stayP (0 + (st : Int)))).length) rfl ?turnS8 ?finS8
                            case turnS8 =>
                              rintro j v ys I1 oI C oC D m₂ h tk E' hj hR hP hC hx F' N' off ne
                              obtain ⟨k, tk1, rfl, hk⟩ := ints_item iK j v (by simpa using hP)
                              obtain ⟨hk0, hk1⟩ := hks _ (List.mem_of_getElem? hk)
                              have hw6 := word_len (tn64 hk1)
                              have off0 := off
                              simp only [LCg.Off3, and_true] at off
                              walk_at "SW law"
                              · rename (_ == _) = true => hb
                                have hb' : stayP (0 + (st : Int)) k = true := hb
                                rename News _ _ _ _ => NW
                                rename Fr _ _ _ _ => FW
                                refine ⟨_, _, _, rfl, FW, NW, off0, .inr ⟨_, by k_mem, rfl, _, rfl⟩, rfl, ?_⟩
                                rw [take_yes hk hb', List.length_append, hR]; rfl
                              · rename (_ == _) = false => hb
                                have hb' : stayP (0 + (st : Int)) k = false := hb
                                rename News _ _ _ _ => NW
                                rename Fr _ _ _ _ => FW
                                refine ⟨_, _, _, rfl, FW, NW, off0, .inr ⟨_, by k_mem, rfl, _, rfl⟩, rfl, ?_⟩
                                rw [take_no hk hb', hR]
                            case finS8 =>
                              intro ys hR
                              have hR1 : ys.length = staysN ks st := by
                                rw [List.size_toArray, hkl, List.take_length, stays_is] at hR
                                exact hR
                              clear hR
                              intro D h' tkY F' N' o1
                              refine hQk _ _ fun hleY => ?_
                              clear hQk Qk
                              (try dsimp only at hleY)
                              have h1Y : 1 ≤ tkY := by walk_at "SW tk"
                              have hst64 : ys.length ≤ 64 := by
                                have e : staysN ks st ≤ ks.length := List.length_filter_le _ _
                                rw [hR1]; exact Nat.le_trans e hkl64
                              simp only [LCg.Off1, and_true] at o1
                              (try dsimp only)
                              walk_at "SW law"
                              refine call_len_list (News.isList (items := ys.toArray) (by k_asm) (by k_mem)) (by rw [List.size_toArray]; omega) ?_
                              simp only [List.size_toArray, hR1]
                              (try dsimp only)
                              walk_at "SW law"
                              repeat (rename _ => x9; revert x9)
                              intros
                              as_aux_lemma =>
                                rename _ ∈ kinC => hkc
                                obtain ⟨ks, hks0, hkc, iK⟩ := pickI hkc (by assumption)
                                subst hks0
                                have hks := kin_small _ hkc
                                have hkl := iK.length
                                rename List.length _ ≤ 64 => hkl64
                                rename _ < 6 => hi
                                obtain ⟨st, hst0, hst⟩ := nm_lt hi
                                subst hst0
                                k_dflt (refine comp_tokF (by k_asm) (by with_unfolding_all rfl) (by decide) (by rfl) (by decide) (by rfl) ?_)
                                walk_at "SW law"
                                have hnl := nowL_length ks st
                                refine TokSrc.of (n := ks.length) (xorF ks (nowL ks st)) rfl (by k_asm) (by k_asm) (by assumption) (small_of (by omega)) (size_of _) (kin_pos hkc) (small_fits (by omega)) ?turnS9 ?finS9
                                case turnS9 =>
                                  intro g
                                  rintro j I1 oI C oC D ys m₂ h tk tv E' hj hC hx F' N' off ne htk2
                                  have hgk := getD_of hj
                                  have hj63 := z063 hj hkl64
                                  have hgn := getD_of (l := nowL ks st) (i := j) (by rw [hnl]; exact hj)
                                  have off0 := off
                                  simp only [LCg.Off3, and_true] at off
                                  (try dsimp only)
                                  walk_at "SW law"
                                  k_dflt (refine' Con.use (xorT _ _ _ _ _ _ _ _ _) (by k_asm) (by k_asm) (by k_asm) (by k_asm) (by k_asm) (by first | exact rfl | assumption) (by ktr_room) (by ktr_units) ?_)
                                  intro t1 h1 tk1 hle1 hlt1 F1 N1
                                  (try dsimp only at hle1)
                                  (try k_sweep)
                                  (try dsimp only)
                                  walk_at "SW law"
                                  rename News _ _ _ _ => NW
                                  rename Fr _ _ _ _ => FW
                                  exact ⟨_, _, rfl, FW, NW, t1, rfl, by (try dsimp only at hle1); omega, hlt1⟩
                                case finS9 =>
                                  intro g
                                  intro D h tk ys hyl hys F' N' o1 h1
                                  simp only [LCg.Off1, and_true] at o1
                                  (try dsimp only)
                                  walk_at "SW law"
                                  have hxe := xor_tab ks hkc ⟨st, hst⟩
                                  simp only at hxe
                                  rw [← xorL_is] at hxe
                                  refine wpAny_toksQ fun Qk hQk => ?_
                                  k_dflt (refine' ConB.use (countC _ _ _ _ D ys _ _ (tokIs_ints hyl hys) (tokIs_at hys (Nat.le_refl _))) (by k_asm) (by k_asm) (by k_asm) (by k_asm) (by k_asm) (by first | exact rfl | assumption) (by ktr_room) (by ktr_units) (News.isList (by k_asm) (by k_mem)) ?_)
                                  intro tX hX tkX FX NX
                                  rw [hxe]
                                  refine hQk _ _ fun hleX => ?_
                                  clear hQk Qk
                                  (try dsimp only at hleX)
                                  have h1X : 1 ≤ tkX := by walk_at "SW tk"
                                  (try dsimp only)
                                  walk_at "SW law"
                                  · exfalso
                                    rename @Ne Int _ _ => hne
                                    exact hne rfl
                                  · repeat (rename _ => x9; revert x9)
                                    intros
                                    as_aux_lemma =>
                                      refine for_tokL (by k_asm) rfl rfl ?_
                                      refine wpAny_toksQ fun Qk hQk => ?_
                                      walk_at "SW law"
                                      refine hQk _ _ fun hTr => ?_
                                      clear hQk Qk
                                      clear hTr
                                      (try dsimp only)
                                      rename Fr _ _ _ _ => Fx3
                                      rename News _ _ _ _ => Nx3
                                      have Nx4 := news_drop1 (news_drop1 Nx3)
                                      clear Nx3
                                      obtain ⟨m1, hm1, F2⟩ := fr_map Fx3
                                      obtain ⟨nw, hnw, N2⟩ := led_all Nx4
                                      clear Fx3 Nx4
                                      rename 1 ≤ _ ∧ _ ≤ 4 => hva
                                      obtain ⟨va, hva0, hva1, hva2⟩ := nm4 hva
                                      subst hva0
                                      clear hva
                                      rename 1 ≤ _ ∧ _ ≤ 4 => hsh
                                      obtain ⟨sh, hsh0, hsh1, hsh2⟩ := nm4 hsh
                                      subst hsh0
                                      clear hsh
                                      rename _ ∈ kinC => hkc
                                      obtain ⟨ks, hks0, hkc, iK⟩ := pickI hkc (by assumption)
                                      subst hks0
                                      rename _ < 6 => hi
                                      obtain ⟨st, hst0, hst⟩ := nm_lt hi
                                      subst hst0
                                      rename _ = majL _ => hms
                                      subst hms
                                      rename IntsAre _ (majL _) => hM
                                      rename ∀ (j : Nat) (p : Addr × Obj), _ → IsT3v _ _ => htp
                                      rename List.length _ = 6 => htl
                                      refine' ForTokL.of (mixJ sh va (st : Int) (majL ks) nw m1) rfl rfl rfl F2 N2 (by rw [hnw]; k_mem) ?h0S10 ?turnS10 ?doneS10
                                      case h0S10 =>
                                        exact ⟨m1, _, _, _, map_of5 ((congrFun hm1 _).trans rfl) ((congrFun hm1 _).trans rfl) ((congrFun hm1 _).trans rfl) (fun _ _ _ _ _ _ => rfl), rfl, by walk_at "SW tk", by walk_at "SW tk", by walk_at "SW tk"⟩
                                      case turnS10 =>
                                        rintro i v m₁ nx I2 it2 h tk hv hoff2 hmem ⟨u, tr, tg, tb, rfl, rfl, htr, htg, htb⟩ hit2 hTk F' N'
                                        obtain ⟨m, tm, rfl, hmi⟩ := ints_item hM i v hv
                                        obtain ⟨hm0, hm20⟩ := maj_small hkc m (List.mem_of_getElem? hmi)
                                        (try dsimp only at hTk)
                                        have h1k : 1 ≤ tk := by walk_at "SW tk"
                                        subst hm1
                                        subst hnw
                                        (try k_fold)
                                        walk_at "SW law"
                                        refine wpAny_toksQ fun Qk hQk => ?_
                                        k_dflt (refine' Con.use (mulC _ _ _ _ _ _ _ _ _ hm0 hm20 (by omega) (by omega)) (by k_asm) (by k_asm) (by k_asm) (by k_asm) (by k_asm) (by first | exact rfl | assumption) (by ktr_room) (by ktr_units) ?_)
                                        intro t1 h1 tk1 F1 N1
                                        refine hQk _ _ fun hle1 => ?_
                                        clear hQk Qk
                                        (try dsimp only at hle1)
                                        (try dsimp only)
                                        walk_at "SW law"
                                        refine wpAny_toksQ fun Qk hQk => ?_
                                        k_dflt (refine' Con.use (modC _ _ _ _ _ _ _ _ _ (by decide)) (by k_asm) (by k_asm) (by k_asm) (by k_asm) (by k_asm) (by first | exact rfl | assumption) (by ktr_room) (by ktr_units) ?_)
                                        intro t2 h2 tk2 F2 N2
                                        refine hQk _ _ fun hle2 => ?_
                                        clear hQk Qk
                                        (try dsimp only at hle2)
                                        (try dsimp only)
                                        walk_at "SW law"
                                        obtain ⟨q0, q6⟩ := fmod6 (m * (0 + (st : Int)))
                                        obtain ⟨aP, p1, p2, p3, hx, hpm⟩ := paint_item htl htp q0 q6
                                        refine item_list (News.isList (by k_asm) (by k_mem)) q0 (by omega) hx ?_
                                        rename News _ _ _ _ => NB
                                        have NP := news_add NB (.tail _ (.tail _ (.tail _ (.tail _ (.tail _ (.tail _ (.tail _ (.tail _ (.tail _ (.tail _ (.tail _ (.tail _ hpm))))))))))))
                                        walk_at "SW law"
                                        k_dflt (refine' Con.use (addFFT _ _ _ _ _ _ _ _ _) (by k_asm) (by k_asm) (by k_asm) (by k_asm) (by k_asm) (by first | exact rfl | assumption) (by ktr_room) (by ktr_units) ⟨by walk_at "SW tk", ?_⟩)
                                        intro tX hX tkX htX hleX FX NX
                                        (try dsimp only at hleX)
                                        (try k_sweep)
                                        (try dsimp only)
                                        walk_at "SW law"
                                        k_dflt (refine' Con.use (addFFT _ _ _ _ _ _ _ _ _) (by k_asm) (by k_asm) (by k_asm) (by k_asm) (by k_asm) (by first | exact rfl | assumption) (by ktr_room) (by ktr_units) ⟨by walk_at "SW tk", ?_⟩)
                                        intro tY hY tkY htY hleY FY NY
                                        (try dsimp only at hleY)
                                        (try k_sweep)
                                        (try dsimp only)
                                        walk_at "SW law"
                                        k_dflt (refine' Con.use (addFFT _ _ _ _ _ _ _ _ _) (by k_asm) (by k_asm) (by k_asm) (by k_asm) (by k_asm) (by first | exact rfl | assumption) (by ktr_room) (by ktr_units) ⟨by walk_at "SW tk", ?_⟩)
                                        intro tZ hZ tkZ htZ hleZ FZ NZ
                                        (try dsimp only at hleZ)
                                        (try k_sweep)
                                        (try dsimp only)
                                        walk_at "SW law"
                                        rename News _ _ _ _ => NV
                                        rename Fr _ _ _ _ => FV
                                        have NV1 := news_drop1 NV
                                        have er := mix_next (l := [5, 0, 1]) (sh := sh) (va := va) (st := (st : Int)) hmi
                                        have eg := mix_next (l := [1, 2, 3]) (sh := sh) (va := va) (st := (st : Int)) hmi
                                        have eb := mix_next (l := [3, 4, 5]) (sh := sh) (va := va) (st := (st : Int)) hmi
                                        exact ⟨_, _, _, _, rfl, FV, NV1, hoff2, hmem, ⟨_, _, _, _, map_of5 (by dsimp only; rw [← er]; rfl) (by dsimp only; rw [← eg]; rfl) (by dsimp only; rw [← eb]; rfl) (by intro z h1 h2 h3 h4 h5; simp only [h1, h2, h3, h4, h5, if_false]), rfl, htX, htY, htZ⟩⟩
                                      case doneS10 =>
                                        rintro m₁ nx h tk ⟨u, tr, tg, tb, rfl, rfl, htr, htg, htb⟩ hTk F' N'
                                        (try dsimp only at hTk)
                                        have h1k : 1 ≤ tk := by walk_at "SW tk"
                                        clear hTk
                                        rw [hM.length, List.take_length] at F'
                                        subst hm1
                                        subst hnw
                                        (try dsimp only)
                                        have hshQ := And.intro hsh1 hsh2
                                        have hvaQ := And.intro hva1 hva2
                                        walk_at "SW law"
                                        repeat (rename _ => x9; revert x9)
                                        intros
                                        as_aux_lemma =>
                                          have lm4 : LawM4 := LawM4.mk
                                          rename 1 ≤ _ ∧ _ ≤ 4 => hva
                                          obtain ⟨va, hva0, hva1, hva2⟩ := nm4 hva
                                          subst hva0
                                          clear hva
                                          rename 1 ≤ _ ∧ _ ≤ 4 => hsh
                                          obtain ⟨sh, hsh0, hsh1, hsh2⟩ := nm4 hsh
                                          subst hsh0
                                          clear hsh
                                          obtain ⟨hvaA, hvaB⟩ := four64 hva1 hva2
                                          obtain ⟨hshA, hshB⟩ := four64 hsh1 hsh2
                                          rename _ ∈ kinC => hkc
                                          obtain ⟨ks, hks0, hkc, iK⟩ := pickI hkc (by assumption)
                                          subst hks0
                                          rename _ < 6 => hi
                                          obtain ⟨st, hst0, hst⟩ := nm_lt hi
                                          subst hst0
                                          rename List.length _ ≤ 64 => hkl64
                                          have hdf := dep_fin (st := st) hkl64 ⟨hsh1, hsh2⟩ ⟨hva1, hva2⟩
                                          unfold fracF at hdf
                                          obtain ⟨r, g, b, d, hr, hg, hb, hd, hok⟩ := step_facts hkc hst ⟨hsh1, hsh2⟩ ⟨hva1, hva2⟩
                                          obtain ⟨nz1, nz2, c1, c2, c3, c4⟩ := fin_facts hok
                                          subst hd
                                          unfold fracF at c2 c3 c4
                                          clear hok
                                          k_dflt (refine' Con.use (truedivFT _ _ _ _ _ _ 64 _ _ (by decide) over64) (by k_asm) (by k_asm) (by k_asm) (by k_asm) (by k_asm) (by first | exact rfl | assumption) (by ktr_room) (by ktr_units) ⟨by walk_at "SW tk", ?_⟩)
                                          intro tR hR tkR htR hleR FR NR
                                          (try dsimp only at hleR)
                                          rw [← hr]
                                          (try k_sweep)
                                          (try dsimp only)
                                          walk_at "SW law"
                                          k_dflt (refine' Con.use (truedivFT _ _ _ _ _ _ 64 _ _ (by decide) over64) (by k_asm) (by k_asm) (by k_asm) (by k_asm) (by k_asm) (by first | exact rfl | assumption) (by ktr_room) (by ktr_units) ⟨by walk_at "SW tk", ?_⟩)
                                          intro tG hG tkG htG hleG FG NG
                                          (try dsimp only at hleG)
                                          rw [← hg]
                                          (try k_sweep)
                                          (try dsimp only)
                                          walk_at "SW law"
                                          k_dflt (refine' Con.use (truedivFT _ _ _ _ _ _ 64 _ _ (by decide) over64) (by k_asm) (by k_asm) (by k_asm) (by k_asm) (by k_asm) (by first | exact rfl | assumption) (by ktr_room) (by ktr_units) ⟨by walk_at "SW tk", ?_⟩)
                                          intro tB hB tkB htB hleB FB NB
                                          (try dsimp only at hleB)
                                          rw [← hb]
                                          (try k_sweep)
                                          (try dsimp only)
                                          walk_at "SW law"
                                          all_goals first | (exfalso; (rename (Float64.cmp _ _ != _) = true => hne); rw [bne, c1] at hne; exact absurd hne (by decide)) | skip
                                          refine wpAny_toksQ fun Qk hQk => ?_
                                          k_dflt (refine' Con.use (subFF _ _ _ _ _ _ _ _ _) (by k_asm) (by k_asm) (by k_asm) (by k_asm) (by k_asm) (by first | exact rfl | assumption) (by ktr_room) (by ktr_units) ?_)
                                          intro tS hS tkS FS NS
                                          refine hQk _ _ fun hleS => ?_
                                          clear hQk Qk
                                          (try dsimp only at hleS)
                                          (try dsimp only)
                                          walk_at "SW law"
                                          all_goals first | (exfalso; (rename (Float64.cmp _ _ != _) = true => hne); rw [bne, c2] at hne; exact absurd hne (by decide)) | skip
                                          refine wpAny_toksQ fun Qk hQk => ?_
                                          k_dflt (refine' Con.use (rhsvP _ _ _ _ _ _ _ _ _ _ _ ⟨htR, htG, htB⟩ (t3eq_some c3)) (by k_asm) (by k_asm) (by k_asm) (by k_asm) (by k_asm) (by first | exact rfl | assumption) (by ktr_room) (by ktr_units) ⟨by walk_at "SW tk", ?_⟩)
                                          intro lC oC hC tkC FC NC offC PC
                                          refine hQk _ _ fun hleC => ?_
                                          clear hQk Qk
                                          (try dsimp only at hleC)
                                          (try dsimp only)
                                          obtain ⟨xC, yC, zC, t7, t8, t9, htC, eC, rfl⟩ := PC
                                          walk_at "SW law"
                                          all_goals first | (exfalso; (rename Float64.isZero _ = true => hne); rw [nz1] at hne; exact Bool.noConfusion hne) | skip
                                          rename News _ _ _ _ => NE
                                          rename Fr _ _ _ _ => FE
                                          obtain ⟨q1, q2, q3⟩ := t3eq_of c3 eC
                                          refine ne_tup3 (NE _ (.tail _ (.head _))).1 (show _ = some (tup3 _ _ _ _ _ _) from (NE _ (.head _)).1) (none_booked_of fun a o e => FE.keep _ _ ((show (hd.heap_39 _).In _ by k_asm) a o e)) htC ⟨by walk_at "SW tk", by walk_at "SW tk", by walk_at "SW tk"⟩ (by first | ktr_units | units_room) q1 q2 q3 ?_
                                          clear q1 q2 q3 eC
                                          walk_at "SW law"
                                          repeat (rename _ => x9; revert x9)
                                          intros
                                          as_aux_lemma =>
                                            rename t3eq (rhlsF _ _ _) _ = true => c4
                                            rename Float64.isZero (Float64.add _ _) = false => nz2
                                            refine wpAny_toksQ fun Qk hQk => ?_
                                            k_dflt (refine' Con.use (rhlsP _ _ _ _ _ _ _ _ _ _ _ ⟨by walk_at "SW tk", by walk_at "SW tk", by walk_at "SW tk"⟩ (t3eq_some c4)) (by k_asm) (by k_asm) (by k_asm) (by k_asm) (by k_asm) (by first | exact rfl | assumption) (by ktr_room) (by ktr_units) ⟨by walk_at "SW tk", ?_⟩)
                                            intro lG oG hG tkG FG NG offG PG
                                            refine hQk _ _ fun hleG => ?_
                                            clear hQk Qk
                                            (try dsimp only at hleG)
                                            (try dsimp only)
                                            obtain ⟨xG, yG, zG, t17, t18, t19, htG, eG, rfl⟩ := PG
                                            walk_at "SW law"
                                            all_goals first | (exfalso; (rename Float64.isZero _ = true => hne); rw [nz2] at hne; exact Bool.noConfusion hne) | skip
                                            rename News _ _ _ _ => NE
                                            rename Fr _ _ _ _ => FE
                                            obtain ⟨q1, q2, q3⟩ := t3eq_of c4 eG
                                            refine ne_tup3 (NE _ (.tail _ (.head _))).1 (show _ = some (tup3 _ _ _ _ _ _) from (NE _ (.head _)).1) (none_booked_of fun a o e => FE.keep _ _ ((show (hd.heap_39 _).In _ by k_asm) a o e)) htG ⟨by walk_at "SW tk", by walk_at "SW tk", by walk_at "SW tk"⟩ (by first | ktr_units | units_room) q1 q2 q3 ?_
                                            clear q1 q2 q3 eG
                                            walk_at "SW law"
                                            walk_at "SW step"
                                            walk_at "SW comp"
                                            walk_at "SW law"
                                            rename _ ∈ kinC => hkc
                                            obtain ⟨ks, hks0, hkc, iK⟩ := pickI hkc (by assumption)
                                            subst hks0
                                            rename _ < 6 => hi
                                            obtain ⟨st, hst0, hst⟩ := nm_lt hi
                                            subst hst0
                                            rename IntsAre _ (nowL _ _) => iN
                                            have hns := now_small _ hkc ⟨st, hst⟩
                                            have hnlv := iN.length
                                            have hnl2 := nowL_length ks st
                                            rename List.length _ ≤ 64 => hkl64
                                            refine LCg.CompSrc.ledger (by rfl) (by k_asm) (by k_asm) (by k_mem) (small_fits (by rw [List.size_toArray, hnlv, hnl2]; exact Nat.le_trans hkl64 (by decide))) ?_
                                            intro g'
                                            (try dsimp only)
                                            refine comp_loop (R := fun j ys => IntsAre ys (((nowL ks st).take j).map turnedF)) .nil ?turnS12 ?finS12
                                            case turnS12 =>
                                              rintro j v ys I1 oI C oC D m₂ h tk E' hj hR hP hC hx F' N' off ne
                                              obtain ⟨k, tk1, rfl, hk⟩ := ints_item iN j v (by simpa using hP)
                                              obtain ⟨hk0, hk1⟩ := hns _ (List.mem_of_getElem? hk)
                                              have off0 := off
                                              simp only [LCg.Off3, and_true] at off
                                              walk_at "SW law"
                                              k_dflt (refine' Con.use (turnedC _ _ _ _ _ _ _ hk0 hk1) (by k_asm) (by k_asm) (by k_asm) (by k_asm) (by k_asm) (by first | exact rfl | assumption) (by ktr_room) (by ktr_units) ?_)
                                              intro hup t1 h1 tk2 F1 N1
                                              walk_at "SW law"
                                              rename News _ _ _ _ => NW
                                              rename Fr _ _ _ _ => FW
                                              refine ⟨_, _, _, rfl, FW, NW, off0, .inr ⟨_, by k_mem, rfl, _, rfl⟩, rfl, ?_⟩
                                              rw [map_next hk]
                                              exact ints_snoc hR _ _
                                            case finS12 =>
                                              intro ys hR
                                              have hR1 : IntsAre ys (nowL ks (st + 1)) := by
                                                rw [List.size_toArray, hnlv, List.take_length] at hR
                                                exact hR
                                              clear hR
                                              intro D h' tk' F' N' o1
                                              simp only [LCg.Off1, and_true] at o1
                                              have hG5 : @LT.lt Nat _ _ lG := offG _ (.tail _ (.tail _ (.tail _ (.tail _ (.head _)))))
                                              have hG4 : @LT.lt Nat _ _ lG := offG _ (.tail _ (.tail _ (.tail _ (.tail _ (.tail _ (.head _))))))
                                              clear offG
                                              rename ∀ p ∈ _, Prod.fst p < _ => offC
                                              have hC5 : @LT.lt Nat _ _ _ := offC _ (.tail _ (.tail _ (.head _)))
                                              have hC4 : @LT.lt Nat _ _ _ := offC _ (.tail _ (.tail _ (.tail _ (.head _))))
                                              (try dsimp only at hG5 hG4 hC5 hC4)
                                              (try dsimp only)
                                              k_dflt (refine' storeX_C ?zF ?zN ?zc ?zU ?zd ?_ ?za ?zb; (case za => rfl); (case zb => rfl); (case zF => k_asm); (case zN => k_asm); (case zc => rfl); (case zU => walk_at "SW upd"); (case zd => k_asm); k_whole)
                                              intro h2 oN2 F2 N2 dN2
                                              (try dsimp only at N2)
                                              walk_at "SW law"
                                              have NW := news_now N2
                                              rename Fr _ _ _ _ => FW
                                              rename ∀ p ∈ _ :: _ :: _ :: _, Prod.fst p ≠ _ => hoffI
                                              refine ⟨_, _, _, _, rfl, FW, NW, off_now hoffI ?_, ⟨_, _, _, _, _, _, _, map_of7 (by intro z h1 h2 h3 h4 h5 h6 h7; simp only [h1, h2, h3, h4, h5, h6, h7, if_false]), rfl, hR1, dN2, by assumption, ?_, ?_⟩⟩
                                              all_goals (try dsimp only)
                                              all_goals first | walk_at "SW nef" | skip
                        case doneS7 =>
                          repeat (rename _ => x9; revert x9)
                          intros
                          as_aux_lemma =>
                            intros
                            rename stepJ _ _ _ _ _ _ _ _ => hJ
                            obtain ⟨u, lN, vN, nN, oS, oN, vS, rfl, rfl, hIN, hoN, hoS, hn4, hn5⟩ := hJ
                            (try dsimp only)
                            walk_at "SW law"
                            (try dsimp only)
                            walk_at "SW go"
                            w_end
                            exact endW (by assumption) (by assumption) rfl)
end
end Mine
theorem PySem.Challenge.cw_sw0017_01_holds : PySem.Challenge.rw_sw0017_01.Holds := by
  exact Mine.lawT ()
