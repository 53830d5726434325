import PyProof.Rows.All
import Wide.All
import OpenK.AllK
import Wide.FinOn
import PySem.Challenge.RW_mq0158_01
set_option Elab.async false
set_option linter.unusedVariables false

namespace Mine
section -- HeadA
open PySem PySem.W PyProof.Rows
set_option maxRecDepth 100000
set_option maxHeartbeats 8000000
open_top hd for PySem.Challenge.rw_mq0158_01
end

section -- Con0
open PySem PySem.W PyProof.Rows
set_option maxRecDepth 100000
set_option maxHeartbeats 8000000

/-- a def's end: all that stood at its start stands, and what it made is new -/
noncomputable def LeaveF (g : Heap) (R : Result → Shared → Prop) (v : Value) (s' : Shared) : Prop :=
  ∃ tl : List (Addr × Obj), g.StaysIn s'.heap ∧ (∀ p ∈ tl, s'.heap.get? p.1 = some p.2 ∧ g.get? p.1 = none) ∧
    (g.StaysIn s'.heap → (∀ p ∈ tl, s'.heap.get? p.1 = some p.2 ∧ g.get? p.1 = none) → R (.ok (.ret v)) s')

theorem leaveF_ {g : Heap} {R : Result → Shared → Prop} {v : Value} {s' : Shared} {L' : Addr} {m' : Str → Option Value} {news' : List (Addr × Obj)} (tl : List (Addr × Obj))
    (F : Fr g L' s'.heap m') (N : News g L' s'.heap news') (hs : ∀ p ∈ tl, p ∈ news')
    (k : g.StaysIn s'.heap → (∀ p ∈ tl, s'.heap.get? p.1 = some p.2 ∧ g.get? p.1 = none) → R (.ok (.ret v)) s') : LeaveF g R v s' :=
  ⟨tl, F.keep, fun p hp => ⟨(N p (hs p hp)).1, (N p (hs p hp)).2.2⟩, k⟩

section
variable {prog : Program} {w : World} {A A₀ : Around} {s : Shared} {K : Frag} {L : Addr} {h₀ base : Heap} {m mg mb : Str → Option Value} {p : Program} {loose : List Str} {mean : ExcName → Option Value}
  {env : Env} {outer : List Env} {R : Result → Shared → Prop} {name qual : Str} {params : Arguments} {body : List Stmt} {scope : Scope} {dV kV doc pm cdv ct oc : Value} {an od : Option Addr} {osl : Array (Option Value)} {f : Addr} {args : Args} {binds : List (Str × Value)}

theorem below_fr (B : Below A₀ base outer h₀) (F : Fr h₀ L s.heap m) (hA : A.frames = some (env :: outer)) (hf : env.frame = some L) (hke : env.scope.kind = .function) :
    Below A base (env :: outer) s.heap := ⟨hA, (pushX B F hf hke).stays, (pushX B F hf hke).frames⟩

theorem code_fr (B : Below A₀ base outer h₀) (F : Fr h₀ L s.heap m) (X₀ : K.In h₀) (T : Top p loose mean mg mb h₀) (hA : A.frames = some (env :: outer)) (hf : env.frame = some L) (hke : env.scope.kind = .function)
    (ho : K.lookup f = some ⟨oc, od, .func (fnOf name qual params body scope dV kV doc pm an cdv ct), osl⟩) (hcd : codeIn K cdv qual = true) (hroom : A.depth < recursionLimit)
    (hbind : BindsTo s (fnOf name qual params body scope dV kV doc pm an cdv ct) args binds) (hloc : ∀ y ∈ binds, scope.names.lookup y.1 = some .local)
    (h : ∀ g L' h₁, g = s.heap → Fr g L' h₁ (fun y => binds.reverse.lookup y) → News g L' h₁ [] → Below A base (env :: outer) g → K.In g → Top p loose mean mg mb g →
      wpAny (model prog w) (A.deeper (envOf qual scope L' f cdv)) (execs body (envOf qual scope L' f cdv))
        (fun fl s' => LeaveF g R (match fl with | .ret v => v | _ => .none) s')
        (fun e s' => wpAny (model prog w) (A.deeper (envOf qual scope L' f cdv)) (leaving (envOf qual scope L' f cdv) e) (fun _ s'' => R (.error e) s'') (fun e' s'' => R (.error e') s'') s')
        { s with heap := h₁, toks := s.toks + binds.length })
    (hco : scope.isCoroutine = false) (hgen : scope.isGenerator = false) (hk : scope.kind = .function)
    (hcell : ∀ x ∈ scope.names, x.2 ≠ .cell) : codeAny (model prog w) A (.call (.ref f) args) R s := by
  refine codeAny_call_def (fd := fnOf name qual params body scope dV kV doc pm an cdv ct) (body := body) (binds := binds) hroom ((X₀.keeps F.keep) _ _ ho) rfl (T.nolimit.keeps F.keep) (codeRec_of (X₀.keeps F.keep) hcd) rfl hbind hcell hloc (fun h₁ hns hk₁ => ?_) hco hgen hk
  refine wpAny_mono (h s.heap s.heap.objs.size h₁ rfl ⟨hns, hk₁, Nat.le_refl _⟩ News.nil (below_fr B F hA hf hke) (X₀.keeps F.keep) (T.keeps F.keep)) (fun fl s' hl => ?_) fun _ _ y => y
  obtain ⟨tl, h1, h2, k⟩ := hl
  exact k h1 h2
end

/-- what a call of the def at f gives, whoever calls -/
noncomputable def Con (w : World) (f : Addr) (k : Nat) (vs : List Value) (P : Heap → Prop) (Out : Value → List (Addr × Obj) → Prop) : Prop :=
  ∀ (loose : List Str) (mean : ExcName → Option Value) (mg mb : Str → Option Value) (dp un : Nat) (gd : Option (List Code)) (cn : Str) (cs : Scope) (a : Addr) (ccd : Value) (cl : List (Str × Addr)) (outer : List Env) (A₀ : Around) (base h₀ : Heap) (L : Addr) (m : Str → Option Value) (s : Shared) (Q E : Value → Shared → Prop),
    Below A₀ base outer h₀ → Fr h₀ L s.heap m → (hd.heap_39 w.params).In h₀ → Top hd.view_39 loose mean mg mb h₀ → cs.kind = .function → dp + k < recursionLimit → un + 8 * k < cLine → P s.heap →
    (∀ (r : Value) (tl : List (Addr × Obj)) (h' : Heap) (tk' : Nat), Out r tl → s.heap.StaysIn h' → (∀ p ∈ tl, h'.get? p.1 = some p.2 ∧ s.heap.get? p.1 = none) → Q r { s with heap := h', toks := tk' }) →
    wpAny (model Challenge.rw_mq0158_01.row.prog w) (ktrTop dp un gd cn cs L a ccd cl outer) (call (.ref f) vs) Q E s

theorem con_use {w : World} {f : Addr} {k : Nat} {vs : List Value} {P : Heap → Prop} {Out : Value → List (Addr × Obj) → Prop} (C : Con w f k vs P Out)
    {loose : List Str} {mean : ExcName → Option Value} {mg mb : Str → Option Value} {dp un : Nat} {gd : Option (List Code)} {cn : Str} {cs : Scope} {a : Addr} {ccd : Value} {cl : List (Str × Addr)} {outer : List Env} {A₀ : Around} {base h₀ : Heap} {L : Addr} {m : Str → Option Value} {s : Shared} {news : List (Addr × Obj)} {Q E : Value → Shared → Prop}
    (B : Below A₀ base outer h₀) (F : Fr h₀ L s.heap m) (X : (hd.heap_39 w.params).In h₀) (N : News h₀ L s.heap news) (T : Top hd.view_39 loose mean mg mb h₀) (hk : cs.kind = .function) (hd' : dp + k < recursionLimit) (hu : un + 8 * k < cLine) (hP : P s.heap)
    (ret : ∀ (r : Value) (tl : List (Addr × Obj)) (h' : Heap) (tk' : Nat), Out r tl → Fr h₀ L h' m → News h₀ L h' (tl ++ news) → (∀ p ∈ tl, ∀ q ∈ news, q.1 ≠ p.1) → Q r { s with heap := h', toks := tk' }) :
    wpAny (model Challenge.rw_mq0158_01.row.prog w) (ktrTop dp un gd cn cs L a ccd cl outer) (call (.ref f) vs) Q E s := by
  refine C _ _ _ _ _ _ _ _ _ _ _ _ _ _ _ _ _ _ _ _ _ B F X T hk hd' hu hP fun r tl h' tk' hO hs hn => ret r tl h' tk' hO (F.grownK hs) ?_ fun p hp q hq e => ?_
  · intro p hp
    rcases List.mem_append.mp hp with hp | hp
    · refine ⟨(hn p hp).1, fun e => ?_, ?_⟩
      · obtain ⟨oL, _, _, hL, _⟩ := F.ns
        have := (hn p hp).2
        rw [e, hL] at this; cases this
      · cases q : h₀.get? p.1 with
        | none => rfl
        | some o => have := (hn p hp).2; rw [F.keep _ _ q] at this; cases this
    · exact ⟨hs _ _ (N p hp).1, (N p hp).2⟩
  · have := (N q hq).1
    rw [e, (hn p hp).2] at this; cases this
end

section -- Flo
open PySem PySem.W PyProof.Rows PySem.Flt
set_option maxRecDepth 100000
set_option maxHeartbeats 8000000

@[irreducible] noncomputable def max3 (x y z : UInt64) : UInt64 := if (Float64.cmp x y == some .lt) = true then (if (Float64.cmp y z == some .lt) = true then z else y) else (if (Float64.cmp x z == some .lt) = true then z else x)
@[irreducible] noncomputable def min3 (x y z : UInt64) : UInt64 := if (Float64.cmp y x == some .lt) = true then (if (Float64.cmp z y == some .lt) = true then z else y) else (if (Float64.cmp z x == some .lt) = true then z else x)

section
variable {prog : Program} {w : World} {A : Around} {E : Value → Shared → Prop} {s : Shared} {Q : Value → Shared → Prop} {x y z : UInt64} {t u r : Tok} {h₀ : Heap} {L : Addr} {m : Str → Option Value} {news : List (Addr × Obj)}

theorem max_three_fff (hh : A.handled = none) (F : Fr h₀ L s.heap m) (N : News h₀ L s.heap news)
    (h : ∀ h' tk v, Fr h₀ L h' m → News h₀ L h' news → Q (.float (max3 x y z) v) { s with heap := h', toks := tk }) :
    wpAny (model prog w) A (call (.builtin "max") [.float x t, .float y u, .float z r]) Q E s := by
  have hT : (s.heap.push { cls := .type "tuple", data := .seq #[.float x t, .float y u, .float z r] }).IsTuple s.heap.objs.size #[.float x t, .float y u, .float z r] := ⟨_, Heap.get?_push_size _ rfl, rfl, 0, rfl⟩
  refine call_max_three (wpAny_pyIter_tuple hT ?_)
  have hsz : (s.heap.push { cls := .type "tuple", data := .seq #[.float x t, .float y u, .float z r] }).objs.size = s.heap.objs.size + 1 := Heap.size_push ..
  refine ⟨_, [_, s.heap.objs.size], [_], _, _, _, _, rfl, Walks.tuple (A := A.in1) hh _ s.heap.objs.size (by rw [hsz]; exact Nat.ne_of_lt (Nat.lt_succ_self _)) #[.float x t, .float y u, .float z r],
    ⟨⟨_, Heap.get?_push_size _ rfl, rfl, rfl⟩, hT.push _⟩, fun c hc => ?_, by simp, cmpOf_gt #[.float x t, .float y u, .float z r] (by simp [NumV.float]), fun v h' tk hP hk => ?_⟩
  · show c < ((s.heap.push _).push _).objs.size
    rw [Heap.size_push, hsz]
    rcases List.mem_cons.mp hc with rfl | hc
    · rw [hsz]; exact Nat.lt_succ_self _
    · rcases List.mem_cons.mp hc with rfl | hc
      · exact Nat.lt_succ_of_lt (Nat.lt_succ_self _)
      · cases hc
  · have hold : ∀ d o, s.heap.get? d = some o → h'.get? d = some o := fun d o e => by
      refine hk d o (fun hm => ?_) (Heap.get?_push_of_some _ (Heap.get?_push_of_some _ e))
      rcases List.mem_cons.mp hm with e1 | hm
      · have := Heap.lt_size e; rw [e1, hsz] at this; exact Nat.lt_irrefl _ (Nat.lt_of_succ_lt this)
      · cases hm
    have hv : ∃ q, v = .float (max3 x y z) q := by
      have e1 : ltV (.float x t) (.float y u) = (Float64.cmp x y == some .lt) := rfl
      have e2 : ltV (.float y u) (.float z r) = (Float64.cmp y z == some .lt) := rfl
      have e3 : ltV (.float x t) (.float z r) = (Float64.cmp x z == some .lt) := rfl
      unfold max3
      cases c1 : (Float64.cmp x y == some .lt) <;> cases c2 : (Float64.cmp y z == some .lt) <;> cases c3 : (Float64.cmp x z == some .lt) <;>
        rw [c1] at e1 <;> rw [c2] at e2 <;> rw [c3] at e3 <;> simp [argBest, e1, e2, e3] at hP <;> exact ⟨_, hP.symm⟩
    obtain ⟨q, rfl⟩ := hv
    exact h h' tk q (F.grownK hold) (N.grown hold)

theorem min_three_fff (hh : A.handled = none) (F : Fr h₀ L s.heap m) (N : News h₀ L s.heap news)
    (h : ∀ h' tk v, Fr h₀ L h' m → News h₀ L h' news → Q (.float (min3 x y z) v) { s with heap := h', toks := tk }) :
    wpAny (model prog w) A (call (.builtin "min") [.float x t, .float y u, .float z r]) Q E s := by
  have hT : (s.heap.push { cls := .type "tuple", data := .seq #[.float x t, .float y u, .float z r] }).IsTuple s.heap.objs.size #[.float x t, .float y u, .float z r] := ⟨_, Heap.get?_push_size _ rfl, rfl, 0, rfl⟩
  refine call_min_three (wpAny_pyIter_tuple hT ?_)
  have hsz : (s.heap.push { cls := .type "tuple", data := .seq #[.float x t, .float y u, .float z r] }).objs.size = s.heap.objs.size + 1 := Heap.size_push ..
  refine ⟨_, [_, s.heap.objs.size], [_], _, _, _, _, rfl, Walks.tuple (A := A.in1) hh _ s.heap.objs.size (by rw [hsz]; exact Nat.ne_of_lt (Nat.lt_succ_self _)) #[.float x t, .float y u, .float z r],
    ⟨⟨_, Heap.get?_push_size _ rfl, rfl, rfl⟩, hT.push _⟩, fun c hc => ?_, by simp, cmpOf_lt #[.float x t, .float y u, .float z r] (by simp [NumV.float]), fun v h' tk hP hk => ?_⟩
  · show c < ((s.heap.push _).push _).objs.size
    rw [Heap.size_push, hsz]
    rcases List.mem_cons.mp hc with rfl | hc
    · rw [hsz]; exact Nat.lt_succ_self _
    · rcases List.mem_cons.mp hc with rfl | hc
      · exact Nat.lt_succ_of_lt (Nat.lt_succ_self _)
      · cases hc
  · have hold : ∀ d o, s.heap.get? d = some o → h'.get? d = some o := fun d o e => by
      refine hk d o (fun hm => ?_) (Heap.get?_push_of_some _ (Heap.get?_push_of_some _ e))
      rcases List.mem_cons.mp hm with e1 | hm
      · have := Heap.lt_size e; rw [e1, hsz] at this; exact Nat.lt_irrefl _ (Nat.lt_of_succ_lt this)
      · cases hm
    have hv : ∃ q, v = .float (min3 x y z) q := by
      have e1 : ltV (.float y u) (.float x t) = (Float64.cmp y x == some .lt) := rfl
      have e2 : ltV (.float z r) (.float y u) = (Float64.cmp z y == some .lt) := rfl
      have e3 : ltV (.float z r) (.float x t) = (Float64.cmp z x == some .lt) := rfl
      unfold min3
      cases c1 : (Float64.cmp y x == some .lt) <;> cases c2 : (Float64.cmp z y == some .lt) <;> cases c3 : (Float64.cmp z x == some .lt) <;>
        rw [c1] at e1 <;> rw [c2] at e2 <;> rw [c3] at e3 <;> simp [argBest, e1, e2, e3] at hP <;> exact ⟨_, hP.symm⟩
    obtain ⟨q, rfl⟩ := hv
    exact h h' tk q (F.grownK hold) (N.grown hold)
end
end

section -- Flo2
open PySem PySem.W PyProof.Rows PySem.Flt
set_option maxRecDepth 100000
set_option maxHeartbeats 8000000

noncomputable abbrev tup (vs : Array Value) : Obj := { cls := .type "tuple", data := .seq vs }
/-- a new tuple of three floats -/
noncomputable def Tup3 (x y z : UInt64) (r : Value) (tl : List (Addr × Obj)) : Prop := ∃ a t1 t2 t3, r = .ref a ∧ tl = [(a, tup #[.float x t1, .float y t2, .float z t3])]
noncomputable def Flo1 (x : UInt64) (r : Value) (tl : List (Addr × Obj)) : Prop := ∃ t, r = .float x t ∧ tl = []
theorem Tup3.of {x y z x' y' z' : UInt64} {a : Addr} {t1 t2 t3 : Tok} (h1 : x = x') (h2 : y = y') (h3 : z = z') : Tup3 x' y' z' (.ref a) [(a, tup #[.float x t1, .float y t2, .float z t3])] := by
  subst h1 h2 h3; exact ⟨a, t1, t2, t3, rfl, rfl⟩
theorem Flo1.of {x x' : UInt64} {t : Tok} (h : x = x') : Flo1 x' (.float x t) [] := by subst h; exact ⟨t, rfl, rfl⟩
theorem mem_one {x : Addr × Obj} {l : List (Addr × Obj)} : ∀ p ∈ [x], p ∈ x :: l := fun p hp => by rw [List.mem_singleton.mp hp]; exact .head _
theorem mem_none {l : List (Addr × Obj)} : ∀ p ∈ ([] : List (Addr × Obj)), p ∈ l := fun _ hp => nomatch hp

theorem end3 {g : Heap} {R : Result → Shared → Prop} {s' : Shared} {L' D : Addr} {m' : Str → Option Value} {news' : List (Addr × Obj)} {o : Obj}
    (F : Fr g L' s'.heap m') (N : News g L' s'.heap ((D, o) :: news'))
    (k : g.StaysIn s'.heap → (∀ p ∈ [(D, o)], s'.heap.get? p.1 = some p.2 ∧ g.get? p.1 = none) → R (.ok (.ret (.ref D))) s') : LeaveF g R (.ref D) s' :=
  leaveF_ [(D, o)] F N mem_one k
theorem end0 {g : Heap} {R : Result → Shared → Prop} {s' : Shared} {L' : Addr} {v : Value} {m' : Str → Option Value}
    (F : Fr g L' s'.heap m')
    (k : g.StaysIn s'.heap → (∀ p ∈ ([] : List (Addr × Obj)), s'.heap.get? p.1 = some p.2 ∧ g.get? p.1 = none) → R (.ok (.ret v)) s') : LeaveF g R v s' :=
  leaveF_ [] F News.nil mem_none k

-- the numbers
noncomputable abbrev oneF : UInt64 := 4607182418800017408
noncomputable abbrev twoF : UInt64 := 4611686018427387904
noncomputable abbrev fourF : UInt64 := 4616189618054758400
noncomputable abbrev sixF : UInt64 := 4618441417868443648
noncomputable abbrev halfF : UInt64 := 4602678819172646912
noncomputable abbrev thirdF : UInt64 := 4599676419421066581
noncomputable abbrev sixthF : UInt64 := 4595172819793696085
noncomputable abbrev third2F : UInt64 := 4604180019048437077
noncomputable abbrev ltB (x y : UInt64) : Bool := Float64.cmp x y == some .lt
noncomputable abbrev eqB (x y : UInt64) : Bool := Float64.cmp x y == some .eq

noncomputable abbrev rngF (r g b : UInt64) : UInt64 := Float64.sub (max3 r g b) (min3 r g b)
noncomputable abbrev rcF (r g b : UInt64) : UInt64 := Float64.div (Float64.sub (max3 r g b) r) (rngF r g b)
noncomputable abbrev gcF (r g b : UInt64) : UInt64 := Float64.div (Float64.sub (max3 r g b) g) (rngF r g b)
noncomputable abbrev bcF (r g b : UInt64) : UInt64 := Float64.div (Float64.sub (max3 r g b) b) (rngF r g b)
noncomputable abbrev hueF (h : UInt64) : UInt64 := (Float64.divmod (Float64.div h sixF) oneF).snd
@[irreducible] noncomputable def hsvH (r g b : UInt64) : UInt64 :=
  if eqB (min3 r g b) (max3 r g b) = true then 0 else
  if eqB r (max3 r g b) = true then hueF (Float64.sub (bcF r g b) (gcF r g b)) else
  if eqB g (max3 r g b) = true then hueF (Float64.sub (Float64.add twoF (rcF r g b)) (bcF r g b)) else
  hueF (Float64.sub (Float64.add fourF (gcF r g b)) (rcF r g b))
@[irreducible] noncomputable def hsvS (r g b : UInt64) : UInt64 := if eqB (min3 r g b) (max3 r g b) = true then 0 else Float64.div (rngF r g b) (max3 r g b)
section
variable {r g b : UInt64}
theorem no_tt {c : Bool} (h : c = false) : ¬ (c = true) := by rw [h]; exact Bool.false_ne_true
theorem hsvH_0 (h : eqB (min3 r g b) (max3 r g b) = true) : 0 = hsvH r g b := by unfold hsvH; rw [if_pos h]
theorem hsvH_1 (h : eqB (min3 r g b) (max3 r g b) = false) (h1 : eqB r (max3 r g b) = true) : hueF (Float64.sub (bcF r g b) (gcF r g b)) = hsvH r g b := by
  unfold hsvH; rw [if_neg (no_tt h), if_pos h1]
theorem hsvH_2 (h : eqB (min3 r g b) (max3 r g b) = false) (h1 : eqB r (max3 r g b) = false) (h2 : eqB g (max3 r g b) = true) : hueF (Float64.sub (Float64.add twoF (rcF r g b)) (bcF r g b)) = hsvH r g b := by
  unfold hsvH; rw [if_neg (no_tt h), if_neg (no_tt h1), if_pos h2]
theorem hsvH_3 (h : eqB (min3 r g b) (max3 r g b) = false) (h1 : eqB r (max3 r g b) = false) (h2 : eqB g (max3 r g b) = false) : hueF (Float64.sub (Float64.add fourF (gcF r g b)) (rcF r g b)) = hsvH r g b := by
  unfold hsvH; rw [if_neg (no_tt h), if_neg (no_tt h1), if_neg (no_tt h2)]
theorem hsvS_0 (h : eqB (min3 r g b) (max3 r g b) = true) : 0 = hsvS r g b := by unfold hsvS; rw [if_pos h]
theorem hsvS_1 (h : eqB (min3 r g b) (max3 r g b) = false) : Float64.div (rngF r g b) (max3 r g b) = hsvS r g b := by unfold hsvS; rw [if_neg (no_tt h)]
end

-- rgb_to_hls
noncomputable abbrev sumF (r g b : UInt64) : UInt64 := Float64.add (max3 r g b) (min3 r g b)
noncomputable abbrev hlsL (r g b : UInt64) : UInt64 := Float64.div (sumF r g b) twoF
noncomputable abbrev leB (x y : UInt64) : Bool := Float64.cmp x y == some .lt || Float64.cmp x y == some .eq
end

open PySem PySem.W PyProof.Rows PySem.Flt
section
local macro_rules | `(tactic| walk_at "MY enter") => `(tactic| (refine wpAny_call ?_; k_dflt (refine' code_fr ?k1 ?k2 ?k3 ?k5 ?kA ?kF ?kK ?k6 ?k7 ?k8 ?k9 ?kB ?_ ?c2 ?c3 ?c4 ?c5; (case kA | kF => exact rfl); (case kK => assumption); (case k1 | k2 | k3 | k5 => k_asm); (case k6 | k7 => k_is); (case k8 => ktr_room); (case k9 => exact BindsTo.of_eq rfl); (case c5 => decide); (case kB => exact locs rfl); (case c2 | c3 | c4 => exact rfl); k_whole)))
local macro_rules | `(tactic| walk_at "MY use") => `(tactic| ((case k1 | k2 | k3 => k_asm); (try case k4 => k_asm); (case k5 => k_asm); (case k6 => first | exact rfl | assumption); (case k7 => ktr_room); (case k8 => ktr_units)))
section -- CV1
open PySem PySem.W PyProof.Rows PySem.Flt
set_option maxRecDepth 100000
set_option maxHeartbeats 8000000

noncomputable abbrev modF (h : UInt64) : UInt64 := (Float64.divmod h oneF).snd
@[irreducible] noncomputable def vF (m1 m2 h : UInt64) : UInt64 :=
  if ltB (modF h) sixthF = true then Float64.add m1 (Float64.mul (Float64.mul (Float64.sub m2 m1) (modF h)) sixF) else
  if ltB (modF h) halfF = true then m2 else
  if ltB (modF h) third2F = true then Float64.add m1 (Float64.mul (Float64.mul (Float64.sub m2 m1) (Float64.sub third2F (modF h))) sixF) else m1
section
variable {m1 m2 h : UInt64}
theorem vF_0 (a : ltB (modF h) sixthF = true) : Float64.add m1 (Float64.mul (Float64.mul (Float64.sub m2 m1) (modF h)) sixF) = vF m1 m2 h := by unfold vF; rw [if_pos a]
theorem vF_1 (a : ltB (modF h) sixthF = false) (b : ltB (modF h) halfF = true) : m2 = vF m1 m2 h := by unfold vF; rw [if_neg (no_tt a), if_pos b]
theorem vF_2 (a : ltB (modF h) sixthF = false) (b : ltB (modF h) halfF = false) (c : ltB (modF h) third2F = true) : Float64.add m1 (Float64.mul (Float64.mul (Float64.sub m2 m1) (Float64.sub third2F (modF h))) sixF) = vF m1 m2 h := by unfold vF; rw [if_neg (no_tt a), if_neg (no_tt b), if_pos c]
theorem vF_3 (a : ltB (modF h) sixthF = false) (b : ltB (modF h) halfF = false) (c : ltB (modF h) third2F = false) : m1 = vF m1 m2 h := by unfold vF; rw [if_neg (no_tt a), if_neg (no_tt b), if_neg (no_tt c)]
end
theorem c_v (w : World) (r g b : UInt64) (t1 t2 t3 : Tok) :
    Con w 35 1 [.float r t1, .float g t2, .float b t3] (fun _ => True) (Flo1 (vF r g b)) := by
  unfold Con
  k_fill
  w_top off
  intro loose mean mg mb dp un gd cn cs a ccd cl outer A₀ base h₀ L m s Q E B F X T hk hd' hu hP hret
  walk_at "MY enter"
  intro g' L' h' hg' F' N' B' X' T'
  (try dsimp only)
  (try k_fold)
  k_steps
  all_goals (try k_unfold)
  all_goals (try dsimp only)
  all_goals (refine end0 (by k_asm) ?_; intro hs' hn'; subst hg'; refine hret _ _ _ _ (Flo1.of ?_) hs' hn')
  all_goals first | exact vF_0 (by assumption) | exact vF_1 (by assumption) (by assumption) | exact vF_2 (by assumption) (by assumption) (by assumption) | exact vF_3 (by assumption) (by assumption) (by assumption)
end

section
local macro_rules | `(tactic| walk_at "call builtin:max") => `(tactic| ((with_reducible show wpAny _ _ (call _ [Value.float _ _, Value.float _ _, Value.float _ _]) _ _ _); (rename News _ _ _ _ => N'); (rename Fr _ _ _ _ => F'); refine max_three_fff rfl F' N' ?_; intro _ _ _ _ _; (try k_sweep)))
local macro_rules | `(tactic| walk_at "call builtin:min") => `(tactic| ((with_reducible show wpAny _ _ (call _ [Value.float _ _, Value.float _ _, Value.float _ _]) _ _ _); (rename News _ _ _ _ => N'); (rename Fr _ _ _ _ => F'); refine min_three_fff rfl F' N' ?_; intro _ _ _ _ _; (try k_sweep)))
section -- CV2
open PySem PySem.W PyProof.Rows PySem.Flt
set_option maxRecDepth 100000
set_option maxHeartbeats 8000000

theorem c_hsv (w : World) (r g b : UInt64) (t1 t2 t3 : Tok) (z1 : Float64.isZero (max3 r g b) = false) (z2 : Float64.isZero (rngF r g b) = false) :
    Con w 42 1 [.float r t1, .float g t2, .float b t3] (fun _ => True) (Tup3 (hsvH r g b) (hsvS r g b) (max3 r g b)) := by
  unfold Con
  k_fill
  w_top off
  intro loose mean mg mb dp un gd cn cs a ccd cl outer A₀ base h₀ L m s Q E B F X T hk hd' hu hP hret
  walk_at "MY enter"
  intro g' L' h' hg' F' N' B' X' T'
  (try dsimp only)
  (try k_fold)
  k_steps
  all_goals (first | (exfalso; first | exact no_tt z1 (by assumption) | exact no_tt z2 (by assumption)) | skip)
  all_goals (try k_unfold)
  all_goals (try dsimp only)
  all_goals (refine end3 (by k_asm) (by k_asm) ?_; intro hs' hn'; subst hg'; refine hret _ _ _ _ (Tup3.of ?_ ?_ ?_) hs' hn')
  all_goals first | rfl | exact hsvS_0 (by assumption) | exact hsvS_1 (by assumption) | exact hsvH_0 (by assumption) | exact hsvH_1 (by assumption) (by assumption) | exact hsvH_2 (by assumption) (by assumption) (by assumption) | exact hsvH_3 (by assumption) (by assumption) (by assumption)
end

section -- CV4
open PySem PySem.W PyProof.Rows PySem.Flt
set_option maxRecDepth 100000
set_option maxHeartbeats 8000000

@[irreducible] noncomputable def hlsS (r g b : UInt64) : UInt64 := if eqB (min3 r g b) (max3 r g b) = true then 0 else
  if leB (hlsL r g b) halfF = true then Float64.div (rngF r g b) (sumF r g b) else Float64.div (rngF r g b) (Float64.sub (Float64.sub twoF (max3 r g b)) (min3 r g b))
section
variable {r g b : UInt64}
theorem hlsS_0 (h : eqB (min3 r g b) (max3 r g b) = true) : 0 = hlsS r g b := by unfold hlsS; rw [if_pos h]
theorem hlsS_1 (h : eqB (min3 r g b) (max3 r g b) = false) (h1 : leB (hlsL r g b) halfF = true) : Float64.div (rngF r g b) (sumF r g b) = hlsS r g b := by unfold hlsS; rw [if_neg (no_tt h), if_pos h1]
theorem hlsS_2 (h : eqB (min3 r g b) (max3 r g b) = false) (h1 : leB (hlsL r g b) halfF = false) : Float64.div (rngF r g b) (Float64.sub (Float64.sub twoF (max3 r g b)) (min3 r g b)) = hlsS r g b := by unfold hlsS; rw [if_neg (no_tt h), if_neg (no_tt h1)]
end
theorem c_hls (w : World) (r g b : UInt64) (t1 t2 t3 : Tok) (z1 : Float64.isZero (sumF r g b) = false) (z2 : Float64.isZero (rngF r g b) = false) (z3 : Float64.isZero (Float64.sub (Float64.sub twoF (max3 r g b)) (min3 r g b)) = false) :
    Con w 21 1 [.float r t1, .float g t2, .float b t3] (fun _ => True) (Tup3 (hsvH r g b) (hlsL r g b) (hlsS r g b)) := by
  unfold Con
  k_fill
  w_top off
  intro loose mean mg mb dp un gd cn cs a ccd cl outer A₀ base h₀ L m s Q E B F X T hk hd' hu hP hret
  walk_at "MY enter"
  intro g' L' h' hg' F' N' B' X' T'
  (try dsimp only)
  (try k_fold)
  k_steps
  all_goals (first | (exfalso; first | exact no_tt z1 (by assumption) | exact no_tt z2 (by assumption) | exact no_tt z3 (by assumption)) | skip)
  all_goals (try k_unfold)
  all_goals (try dsimp only)
  all_goals (refine end3 (by k_asm) (by k_asm) ?_; intro hs' hn'; subst hg'; refine hret _ _ _ _ (Tup3.of ?_ ?_ ?_) hs' hn')
  all_goals first | rfl | exact hlsS_0 (by assumption) | exact hlsS_1 (by assumption) (by assumption) | exact hlsS_2 (by assumption) (by assumption) | exact hsvH_0 (by assumption) | exact hsvH_1 (by assumption) (by assumption) | exact hsvH_2 (by assumption) (by assumption) (by assumption) | exact hsvH_3 (by assumption) (by assumption) (by assumption)
end

end

section -- CV3
open PySem PySem.W PyProof.Rows PySem.Flt
set_option maxRecDepth 100000
set_option maxHeartbeats 8000000

noncomputable abbrev iF (h : UInt64) : Int := toInt Float64.truncOf (Float64.mul h sixF)
noncomputable abbrev fF (h : UInt64) : UInt64 := Float64.sub (Float64.mul h sixF) (Float64.ofInt (iF h))
noncomputable abbrev pF (s v : UInt64) : UInt64 := Float64.mul v (Float64.sub oneF s)
noncomputable abbrev qF (h s v : UInt64) : UInt64 := Float64.mul v (Float64.sub oneF (Float64.mul s (fF h)))
noncomputable abbrev tF (h s v : UInt64) : UInt64 := Float64.mul v (Float64.sub oneF (Float64.mul s (Float64.sub oneF (fF h))))
@[irreducible] noncomputable def sr0 (h s v : UInt64) : UInt64 := if eqB s 0 = true then v else if (iF h).fmod 6 = 0 then v else if (iF h).fmod 6 = 1 then qF h s v else if (iF h).fmod 6 = 2 then pF s v else if (iF h).fmod 6 = 3 then pF s v else if (iF h).fmod 6 = 4 then tF h s v else v
@[irreducible] noncomputable def sr1 (h s v : UInt64) : UInt64 := if eqB s 0 = true then v else if (iF h).fmod 6 = 0 then tF h s v else if (iF h).fmod 6 = 1 then v else if (iF h).fmod 6 = 2 then v else if (iF h).fmod 6 = 3 then qF h s v else if (iF h).fmod 6 = 4 then pF s v else pF s v
@[irreducible] noncomputable def sr2 (h s v : UInt64) : UInt64 := if eqB s 0 = true then v else if (iF h).fmod 6 = 0 then pF s v else if (iF h).fmod 6 = 1 then pF s v else if (iF h).fmod 6 = 2 then tF h s v else if (iF h).fmod 6 = 3 then v else if (iF h).fmod 6 = 4 then v else qF h s v
section
variable {h s v : UInt64}
theorem sr0_z (a : eqB s 0 = true) : v = sr0 h s v := by unfold sr0; rw [if_pos a]
theorem sr0_0 (a : eqB s 0 = false)  (b0 : (iF h).fmod 6 = 0) : v = sr0 h s v := by unfold sr0; rw [if_neg (no_tt a), if_pos b0]
theorem sr0_1 (a : eqB s 0 = false) (b0 : (iF h).fmod 6 ≠ 0) (b1 : (iF h).fmod 6 = 1) : qF h s v = sr0 h s v := by unfold sr0; rw [if_neg (no_tt a), if_neg b0, if_pos b1]
theorem sr0_2 (a : eqB s 0 = false) (b0 : (iF h).fmod 6 ≠ 0) (b1 : (iF h).fmod 6 ≠ 1) (b2 : (iF h).fmod 6 = 2) : pF s v = sr0 h s v := by unfold sr0; rw [if_neg (no_tt a), if_neg b0, if_neg b1, if_pos b2]
theorem sr0_3 (a : eqB s 0 = false) (b0 : (iF h).fmod 6 ≠ 0) (b1 : (iF h).fmod 6 ≠ 1) (b2 : (iF h).fmod 6 ≠ 2) (b3 : (iF h).fmod 6 = 3) : pF s v = sr0 h s v := by unfold sr0; rw [if_neg (no_tt a), if_neg b0, if_neg b1, if_neg b2, if_pos b3]
theorem sr0_4 (a : eqB s 0 = false) (b0 : (iF h).fmod 6 ≠ 0) (b1 : (iF h).fmod 6 ≠ 1) (b2 : (iF h).fmod 6 ≠ 2) (b3 : (iF h).fmod 6 ≠ 3) (b4 : (iF h).fmod 6 = 4) : tF h s v = sr0 h s v := by unfold sr0; rw [if_neg (no_tt a), if_neg b0, if_neg b1, if_neg b2, if_neg b3, if_pos b4]
theorem sr0_5 (a : eqB s 0 = false) (b0 : (iF h).fmod 6 ≠ 0) (b1 : (iF h).fmod 6 ≠ 1) (b2 : (iF h).fmod 6 ≠ 2) (b3 : (iF h).fmod 6 ≠ 3) (b4 : (iF h).fmod 6 ≠ 4) (b5 : (iF h).fmod 6 = 5) : v = sr0 h s v := by unfold sr0; rw [if_neg (no_tt a), if_neg b0, if_neg b1, if_neg b2, if_neg b3, if_neg b4]
theorem sr1_z (a : eqB s 0 = true) : v = sr1 h s v := by unfold sr1; rw [if_pos a]
theorem sr1_0 (a : eqB s 0 = false)  (b0 : (iF h).fmod 6 = 0) : tF h s v = sr1 h s v := by unfold sr1; rw [if_neg (no_tt a), if_pos b0]
theorem sr1_1 (a : eqB s 0 = false) (b0 : (iF h).fmod 6 ≠ 0) (b1 : (iF h).fmod 6 = 1) : v = sr1 h s v := by unfold sr1; rw [if_neg (no_tt a), if_neg b0, if_pos b1]
theorem sr1_2 (a : eqB s 0 = false) (b0 : (iF h).fmod 6 ≠ 0) (b1 : (iF h).fmod 6 ≠ 1) (b2 : (iF h).fmod 6 = 2) : v = sr1 h s v := by unfold sr1; rw [if_neg (no_tt a), if_neg b0, if_neg b1, if_pos b2]
theorem sr1_3 (a : eqB s 0 = false) (b0 : (iF h).fmod 6 ≠ 0) (b1 : (iF h).fmod 6 ≠ 1) (b2 : (iF h).fmod 6 ≠ 2) (b3 : (iF h).fmod 6 = 3) : qF h s v = sr1 h s v := by unfold sr1; rw [if_neg (no_tt a), if_neg b0, if_neg b1, if_neg b2, if_pos b3]
theorem sr1_4 (a : eqB s 0 = false) (b0 : (iF h).fmod 6 ≠ 0) (b1 : (iF h).fmod 6 ≠ 1) (b2 : (iF h).fmod 6 ≠ 2) (b3 : (iF h).fmod 6 ≠ 3) (b4 : (iF h).fmod 6 = 4) : pF s v = sr1 h s v := by unfold sr1; rw [if_neg (no_tt a), if_neg b0, if_neg b1, if_neg b2, if_neg b3, if_pos b4]
theorem sr1_5 (a : eqB s 0 = false) (b0 : (iF h).fmod 6 ≠ 0) (b1 : (iF h).fmod 6 ≠ 1) (b2 : (iF h).fmod 6 ≠ 2) (b3 : (iF h).fmod 6 ≠ 3) (b4 : (iF h).fmod 6 ≠ 4) (b5 : (iF h).fmod 6 = 5) : pF s v = sr1 h s v := by unfold sr1; rw [if_neg (no_tt a), if_neg b0, if_neg b1, if_neg b2, if_neg b3, if_neg b4]
theorem sr2_z (a : eqB s 0 = true) : v = sr2 h s v := by unfold sr2; rw [if_pos a]
theorem sr2_0 (a : eqB s 0 = false)  (b0 : (iF h).fmod 6 = 0) : pF s v = sr2 h s v := by unfold sr2; rw [if_neg (no_tt a), if_pos b0]
theorem sr2_1 (a : eqB s 0 = false) (b0 : (iF h).fmod 6 ≠ 0) (b1 : (iF h).fmod 6 = 1) : pF s v = sr2 h s v := by unfold sr2; rw [if_neg (no_tt a), if_neg b0, if_pos b1]
theorem sr2_2 (a : eqB s 0 = false) (b0 : (iF h).fmod 6 ≠ 0) (b1 : (iF h).fmod 6 ≠ 1) (b2 : (iF h).fmod 6 = 2) : tF h s v = sr2 h s v := by unfold sr2; rw [if_neg (no_tt a), if_neg b0, if_neg b1, if_pos b2]
theorem sr2_3 (a : eqB s 0 = false) (b0 : (iF h).fmod 6 ≠ 0) (b1 : (iF h).fmod 6 ≠ 1) (b2 : (iF h).fmod 6 ≠ 2) (b3 : (iF h).fmod 6 = 3) : v = sr2 h s v := by unfold sr2; rw [if_neg (no_tt a), if_neg b0, if_neg b1, if_neg b2, if_pos b3]
theorem sr2_4 (a : eqB s 0 = false) (b0 : (iF h).fmod 6 ≠ 0) (b1 : (iF h).fmod 6 ≠ 1) (b2 : (iF h).fmod 6 ≠ 2) (b3 : (iF h).fmod 6 ≠ 3) (b4 : (iF h).fmod 6 = 4) : v = sr2 h s v := by unfold sr2; rw [if_neg (no_tt a), if_neg b0, if_neg b1, if_neg b2, if_neg b3, if_pos b4]
theorem sr2_5 (a : eqB s 0 = false) (b0 : (iF h).fmod 6 ≠ 0) (b1 : (iF h).fmod 6 ≠ 1) (b2 : (iF h).fmod 6 ≠ 2) (b3 : (iF h).fmod 6 ≠ 3) (b4 : (iF h).fmod 6 ≠ 4) (b5 : (iF h).fmod 6 = 5) : qF h s v = sr2 h s v := by unfold sr2; rw [if_neg (no_tt a), if_neg b0, if_neg b1, if_neg b2, if_neg b3, if_neg b4]
end

theorem lt_big {n : Nat} (h : n < 1000) (h' : 2 ^ 1024 - 2 ^ 970 ≤ n) : False := absurd (Nat.lt_of_le_of_lt h' h) (by decide +kernel)
theorem six_all {n : Int} (b0 : n.fmod 6 ≠ 0) (b1 : n.fmod 6 ≠ 1) (b2 : n.fmod 6 ≠ 2) (b3 : n.fmod 6 ≠ 3) (b4 : n.fmod 6 ≠ 4) (b5 : n.fmod 6 ≠ 5) : False := by
  have h1 := Int.fmod_nonneg_of_pos n (show (0 : Int) < 6 by decide)
  have h2 := Int.fmod_lt_of_pos n (show (0 : Int) < 6 by decide)
  omega
theorem c_hsvrgb (w : World) (h s v : UInt64) (t1 t2 t3 : Tok) (z1 : Float64.isNaN (Float64.mul h sixF) = false) (z2 : Float64.isInf (Float64.mul h sixF) = false) (z3 : (iF h).natAbs < 1000) :
    Con w 49 1 [.float h t1, .float s t2, .float v t3] (fun _ => True) (Tup3 (sr0 h s v) (sr1 h s v) (sr2 h s v)) := by
  unfold Con
  k_fill
  w_top off
  intro loose mean mg mb dp un gd cn cs a ccd cl outer A₀ base h₀ L m s₀ Q E B F X T hk hd' hu hP hret
  walk_at "MY enter"
  intro g' L' h' hg' F' N' B' X' T'
  (try dsimp only)
  (try k_fold)
  k_steps
  all_goals (first | (exfalso; first | exact no_tt z1 (by assumption) | exact no_tt z2 (by assumption) | exact lt_big z3 (by assumption)) | skip)
  all_goals (first | (exfalso; exact six_all (n := iF h) (by assumption) (by assumption) (by assumption) (by assumption) (by assumption) (by assumption)) | skip)
  all_goals (try k_unfold)
  all_goals (try dsimp only)
  all_goals (refine end3 (by k_asm) (by k_asm) ?_; intro hs' hn'; subst hg'; refine hret _ _ _ _ (Tup3.of ?_ ?_ ?_) hs' hn')
  all_goals first | exact sr0_z (by assumption) | exact sr1_z (by assumption) | exact sr2_z (by assumption) | exact sr0_0 (by assumption) (by assumption) | exact sr1_0 (by assumption) (by assumption) | exact sr2_0 (by assumption) (by assumption) | exact sr0_1 (by assumption) (by assumption) (by assumption) | exact sr1_1 (by assumption) (by assumption) (by assumption) | exact sr2_1 (by assumption) (by assumption) (by assumption) | exact sr0_2 (by assumption) (by assumption) (by assumption) (by assumption) | exact sr1_2 (by assumption) (by assumption) (by assumption) (by assumption) | exact sr2_2 (by assumption) (by assumption) (by assumption) (by assumption) | exact sr0_3 (by assumption) (by assumption) (by assumption) (by assumption) (by assumption) | exact sr1_3 (by assumption) (by assumption) (by assumption) (by assumption) (by assumption) | exact sr2_3 (by assumption) (by assumption) (by assumption) (by assumption) (by assumption) | exact sr0_4 (by assumption) (by assumption) (by assumption) (by assumption) (by assumption) (by assumption) | exact sr1_4 (by assumption) (by assumption) (by assumption) (by assumption) (by assumption) (by assumption) | exact sr2_4 (by assumption) (by assumption) (by assumption) (by assumption) (by assumption) (by assumption) | exact sr0_5 (by assumption) (by assumption) (by assumption) (by assumption) (by assumption) (by assumption) (by assumption) | exact sr1_5 (by assumption) (by assumption) (by assumption) (by assumption) (by assumption) (by assumption) (by assumption) | exact sr2_5 (by assumption) (by assumption) (by assumption) (by assumption) (by assumption) (by assumption) (by assumption)
end

section
local macro_rules | `(tactic| walk_at "MY tup") => `(tactic| (intro r9 tl9 h9 tk9 ho9 F9 N9 d9; obtain ⟨a9, t9, t9', t9'', e1, e2⟩ := ho9; subst e1; subst e2; clear d9; (try simp only [List.cons_append, List.nil_append] at N9); (try dsimp only); (try k_sweep)))
section -- CV5
open PySem PySem.W PyProof.Rows PySem.Flt
set_option maxRecDepth 100000
set_option maxHeartbeats 8000000
local macro_rules | `(tactic| walk_at "call ref") => `(tactic| ((with_reducible show wpAny _ _ (call (Value.ref 35) [Value.float _ _, Value.float _ _, Value.float _ _]) _ _ _); k_dflt (refine' con_use (c_v _ _ _ _ _ _ _) ?k1 ?k2 ?k3 ?k4 ?k5 ?k6 ?k7 ?k8 trivial ?_; walk_at "MY use"); intro r9 tl9 h9 tk9 ho9 F9 N9 d9; obtain ⟨t9, e1, e2⟩ := ho9; subst e1; subst e2; clear d9; (try simp only [List.nil_append] at N9); (try dsimp only); (try k_sweep)))

@[irreducible] noncomputable def m2F (l s : UInt64) : UInt64 := if leB l halfF = true then Float64.mul l (Float64.add oneF s) else Float64.sub (Float64.add l s) (Float64.mul l s)
@[irreducible] noncomputable def hr0 (h l s : UInt64) : UInt64 := if eqB s 0 = true then l else vF (Float64.sub (Float64.mul twoF l) (m2F l s)) (m2F l s) (Float64.add h thirdF)
@[irreducible] noncomputable def hr1 (h l s : UInt64) : UInt64 := if eqB s 0 = true then l else vF (Float64.sub (Float64.mul twoF l) (m2F l s)) (m2F l s) h
@[irreducible] noncomputable def hr2 (h l s : UInt64) : UInt64 := if eqB s 0 = true then l else vF (Float64.sub (Float64.mul twoF l) (m2F l s)) (m2F l s) (Float64.sub h thirdF)
section
variable {h l s : UInt64}
noncomputable abbrev m2a (l s : UInt64) : UInt64 := Float64.mul l (Float64.add oneF s)
noncomputable abbrev m2b (l s : UInt64) : UInt64 := Float64.sub (Float64.add l s) (Float64.mul l s)
noncomputable abbrev m1o (l m2 : UInt64) : UInt64 := Float64.sub (Float64.mul twoF l) m2
theorem m2F_a (b : leB l halfF = true) : m2F l s = m2a l s := by unfold m2F; rw [if_pos b]
theorem m2F_b (b : leB l halfF = false) : m2F l s = m2b l s := by unfold m2F; rw [if_neg (no_tt b)]
theorem hr0_0 (a : eqB s 0 = true) : l = hr0 h l s := by unfold hr0; rw [if_pos a]
theorem hr1_0 (a : eqB s 0 = true) : l = hr1 h l s := by unfold hr1; rw [if_pos a]
theorem hr2_0 (a : eqB s 0 = true) : l = hr2 h l s := by unfold hr2; rw [if_pos a]
theorem hr0_1 (a : eqB s 0 = false) (b : leB l halfF = true) : vF (m1o l (m2a l s)) (m2a l s) (Float64.add h thirdF) = hr0 h l s := by unfold hr0; rw [if_neg (no_tt a), m2F_a b]
theorem hr1_1 (a : eqB s 0 = false) (b : leB l halfF = true) : vF (m1o l (m2a l s)) (m2a l s) h = hr1 h l s := by unfold hr1; rw [if_neg (no_tt a), m2F_a b]
theorem hr2_1 (a : eqB s 0 = false) (b : leB l halfF = true) : vF (m1o l (m2a l s)) (m2a l s) (Float64.sub h thirdF) = hr2 h l s := by unfold hr2; rw [if_neg (no_tt a), m2F_a b]
theorem hr0_2 (a : eqB s 0 = false) (b : leB l halfF = false) : vF (m1o l (m2b l s)) (m2b l s) (Float64.add h thirdF) = hr0 h l s := by unfold hr0; rw [if_neg (no_tt a), m2F_b b]
theorem hr1_2 (a : eqB s 0 = false) (b : leB l halfF = false) : vF (m1o l (m2b l s)) (m2b l s) h = hr1 h l s := by unfold hr1; rw [if_neg (no_tt a), m2F_b b]
theorem hr2_2 (a : eqB s 0 = false) (b : leB l halfF = false) : vF (m1o l (m2b l s)) (m2b l s) (Float64.sub h thirdF) = hr2 h l s := by unfold hr2; rw [if_neg (no_tt a), m2F_b b]
end
theorem c_hlsrgb (w : World) (h l s : UInt64) (t1 t2 t3 : Tok) :
    Con w 28 2 [.float h t1, .float l t2, .float s t3] (fun _ => True) (Tup3 (hr0 h l s) (hr1 h l s) (hr2 h l s)) := by
  unfold Con
  k_fill
  w_top off
  intro loose mean mg mb dp un gd cn cs a ccd cl outer A₀ base h₀ L m s₀ Q E B F X T hk hd' hu hP hret
  walk_at "MY enter"
  intro g' L' h' hg' F' N' B' X' T'
  (try dsimp only)
  (try k_fold)
  k_steps
  all_goals (try k_unfold)
  all_goals (try dsimp only)
  all_goals (refine end3 (by k_asm) (by k_asm) ?_; intro hs' hn'; subst hg'; refine hret _ _ _ _ (Tup3.of ?_ ?_ ?_) hs' hn')
  all_goals first | exact hr0_0 (by assumption) | exact hr1_0 (by assumption) | exact hr2_0 (by assumption) | exact hr0_1 (by assumption) (by assumption) | exact hr1_1 (by assumption) (by assumption) | exact hr2_1 (by assumption) (by assumption) | exact hr0_2 (by assumption) (by assumption) | exact hr1_2 (by assumption) (by assumption) | exact hr2_2 (by assumption) (by assumption)
end

section -- T1
open PySem PySem.W PyProof.Rows PySem.Flt
set_option maxRecDepth 100000
set_option maxHeartbeats 8000000
local macro_rules | `(tactic| walk_at "call ref") => `(tactic| ((with_reducible show wpAny _ _ (call (Value.ref 42) [Value.float _ _, Value.float _ _, Value.float _ _]) _ _ _); k_dflt (refine' con_use (c_hsv _ _ _ _ _ _ _ ?q0 ?q1) ?k1 ?k2 ?k3 ?k4 ?k5 ?k6 ?k7 ?k8 trivial ?_; (case q0 | q1 => assumption);  walk_at "MY use"); walk_at "MY tup"))
local macro_rules | `(tactic| walk_at "call ref") => `(tactic| ((with_reducible show wpAny _ _ (call (Value.ref 49) [Value.float _ _, Value.float _ _, Value.float _ _]) _ _ _); k_dflt (refine' con_use (c_hsvrgb _ _ _ _ _ _ _ ?q0 ?q1 ?q2) ?k1 ?k2 ?k3 ?k4 ?k5 ?k6 ?k7 ?k8 trivial ?_; (case q0 | q1 | q2 => assumption);  walk_at "MY use"); walk_at "MY tup"))
local macro_rules | `(tactic| walk_at "call ref") => `(tactic| ((with_reducible show wpAny _ _ (call (Value.ref 21) [Value.float _ _, Value.float _ _, Value.float _ _]) _ _ _); k_dflt (refine' con_use (c_hls _ _ _ _ _ _ _ ?q0 ?q1 ?q2) ?k1 ?k2 ?k3 ?k4 ?k5 ?k6 ?k7 ?k8 trivial ?_; (case q0 | q1 | q2 => assumption);  walk_at "MY use"); walk_at "MY tup"))
local macro_rules | `(tactic| walk_at "call ref") => `(tactic| ((with_reducible show wpAny _ _ (call (Value.ref 28) [Value.float _ _, Value.float _ _, Value.float _ _]) _ _ _); k_dflt (refine' con_use (c_hlsrgb _ _ _ _ _ _ _ ) ?k1 ?k2 ?k3 ?k4 ?k5 ?k6 ?k7 ?k8 trivial ?_;  walk_at "MY use"); walk_at "MY tup"))

noncomputable abbrev quF (n : Int) : UInt64 := Float64.ofFrac (decide (n < 0) != decide ((4 : Int) < 0)) n.natAbs (Int.natAbs 4)
noncomputable abbrev rF (code : Int) : UInt64 := quF (code.fdiv 25)
noncomputable abbrev gF (code : Int) : UInt64 := quF ((code.fdiv 5).fmod 5)
noncomputable abbrev bF (code : Int) : UInt64 := quF (code.fmod 5)
noncomputable abbrev twF (n : Int) : UInt64 := Float64.ofFrac (decide (n < 0) != decide ((12 : Int) < 0)) n.natAbs (Int.natAbs 12)
noncomputable abbrev hueT (code turn : Int) : UInt64 := Float64.add (hsvH (rF code) (gF code) (bF code)) (twF turn)
noncomputable abbrev rndA (x : UInt64) : UInt64 := Float64.add (Float64.mul (Float64.ofInt 4) x) halfF
noncomputable abbrev rndF (x : UInt64) : Int := toInt Float64.truncOf (rndA x)
noncomputable abbrev mxC (code : Int) : UInt64 := max3 (rF code) (gF code) (bF code)
noncomputable abbrev sC (code : Int) : UInt64 := hsvS (rF code) (gF code) (bF code)

noncomputable def fineF (x : UInt64) : Bool := !Float64.isNaN (rndA x) && !Float64.isInf (rndA x)
noncomputable def okV (code turn : Int) : Bool := !Float64.isInf (rF code) && (!Float64.isInf (gF code) && (!Float64.isInf (bF code) && (!Float64.isInf (twF turn) && (!Float64.isZero (mxC code) && (!Float64.isZero (rngF (rF code) (gF code) (bF code)) &&
  (!Float64.isNaN (Float64.mul (hueT code turn) sixF) && (!Float64.isInf (Float64.mul (hueT code turn) sixF) && (decide ((iF (hueT code turn)).natAbs < 1000) &&
  (fineF (sr0 (hueT code turn) (sC code) (mxC code)) && (fineF (sr1 (hueT code turn) (sC code) (mxC code)) && fineF (sr2 (hueT code turn) (sC code) (mxC code))))))))))))
noncomputable def turnV (code turn : Int) : Int := 25 * rndF (sr0 (hueT code turn) (sC code) (mxC code)) + 5 * rndF (sr1 (hueT code turn) (sC code) (mxC code)) + rndF (sr2 (hueT code turn) (sC code) (mxC code))
noncomputable abbrev lC (code : Int) : UInt64 := hlsL (rF code) (gF code) (bF code)
noncomputable abbrev tC (code : Int) : UInt64 := hlsS (rF code) (gF code) (bF code)
noncomputable def okH (code turn : Int) : Bool := !Float64.isInf (rF code) && (!Float64.isInf (gF code) && (!Float64.isInf (bF code) && (!Float64.isInf (twF turn) && (!Float64.isZero (sumF (rF code) (gF code) (bF code)) && (!Float64.isZero (rngF (rF code) (gF code) (bF code)) &&
  (!Float64.isZero (Float64.sub (Float64.sub twoF (max3 (rF code) (gF code) (bF code))) (min3 (rF code) (gF code) (bF code))) &&
  (fineF (hr0 (hueT code turn) (lC code) (tC code)) && (fineF (hr1 (hueT code turn) (lC code) (tC code)) && fineF (hr2 (hueT code turn) (lC code) (tC code))))))))))
noncomputable def turnH (code turn : Int) : Int := 25 * rndF (hr0 (hueT code turn) (lC code) (tC code)) + 5 * rndF (hr1 (hueT code turn) (lC code) (tC code)) + rndF (hr2 (hueT code turn) (lC code) (tC code))
theorem fineF_a {x : UInt64} (h : fineF x = true) : Float64.isNaN (rndA x) = false ∧ Float64.isInf (rndA x) = false := by
  unfold fineF at h
  obtain ⟨h1, h2⟩ := Bool.and_eq_true_iff.mp h
  exact ⟨by simpa using h1, by simpa using h2⟩
theorem nb {c : Bool} (h : (!c) = true) : c = false := by simpa using h
/-- an int -/
noncomputable def Int1 (x : Int) (r : Value) (tl : List (Addr × Obj)) : Prop := ∃ t, r = .int x t ∧ tl = []

theorem c_tv (w : World) (code turn : Int) (t1 t2 : Tok) (h0 : 0 ≤ code) (h1 : code < 125) (h2 : 0 ≤ turn) (h3 : turn < 12) (ok : okV code turn = true) :
    Con w 70 3 [.int code t1, .int turn t2, .bool false] (fun _ => True) (Int1 (turnV code turn)) := by
  unfold okV at ok
  simp only [Bool.and_eq_true] at ok
  obtain ⟨i1, i2, i3, i4, z1, z2, y1, y2, y3, f0, f1, f2⟩ := ok
  have i1 := nb i1
  have i2 := nb i2
  have i3 := nb i3
  have i4 := nb i4
  have z1 := nb z1
  have z2 := nb z2
  have y1 := nb y1
  have y2 := nb y2
  have y3 := of_decide_eq_true y3
  obtain ⟨f0, f0'⟩ := fineF_a f0
  obtain ⟨f1, f1'⟩ := fineF_a f1
  obtain ⟨f2, f2'⟩ := fineF_a f2
  unfold Con
  k_fill
  w_top off
  intro loose mean mg mb dp un gd cn cs a ccd cl outer A₀ base h₀ L m s Q E B F X T hk hd' hu hP hret
  walk_at "MY enter"
  intro g' L' h' hg' F' N' B' X' T'
  (try dsimp only)
  (try k_fold)
  k_steps
  all_goals (first | (exfalso; first | exact no_tt i1 (by assumption) | exact no_tt i2 (by assumption) | exact no_tt i3 (by assumption) | exact no_tt i4 (by assumption) | exact no_tt f0 (by assumption) | exact no_tt f0' (by assumption) | exact no_tt f1 (by assumption) | exact no_tt f1' (by assumption) | exact no_tt f2 (by assumption) | exact no_tt f2' (by assumption)) | skip)
  all_goals (try k_unfold)
  all_goals (try dsimp only)
  all_goals (refine end0 (by k_asm) ?_; intro hs' hn'; subst hg'; exact hret _ _ _ _ ⟨_, rfl, rfl⟩ hs' hn')

theorem c_th (w : World) (code turn : Int) (t1 t2 : Tok) (h0 : 0 ≤ code) (h1 : code < 125) (h2 : 0 ≤ turn) (h3 : turn < 12) (ok : okH code turn = true) :
    Con w 70 3 [.int code t1, .int turn t2, .bool true] (fun _ => True) (Int1 (turnH code turn)) := by
  unfold okH at ok
  simp only [Bool.and_eq_true] at ok
  obtain ⟨i1, i2, i3, i4, z1, z2, z3, f0, f1, f2⟩ := ok
  have i1 := nb i1
  have i2 := nb i2
  have i3 := nb i3
  have i4 := nb i4
  have z1 := nb z1
  have z2 := nb z2
  have z3 := nb z3
  obtain ⟨f0, f0'⟩ := fineF_a f0
  obtain ⟨f1, f1'⟩ := fineF_a f1
  obtain ⟨f2, f2'⟩ := fineF_a f2
  unfold Con
  k_fill
  w_top off
  intro loose mean mg mb dp un gd cn cs a ccd cl outer A₀ base h₀ L m s Q E B F X T hk hd' hu hP hret
  walk_at "MY enter"
  intro g' L' h' hg' F' N' B' X' T'
  (try dsimp only)
  (try k_fold)
  k_steps
  all_goals (first | (exfalso; first | exact no_tt i1 (by assumption) | exact no_tt i2 (by assumption) | exact no_tt i3 (by assumption) | exact no_tt i4 (by assumption) | exact no_tt f0 (by assumption) | exact no_tt f0' (by assumption) | exact no_tt f1 (by assumption) | exact no_tt f1' (by assumption) | exact no_tt f2 (by assumption) | exact no_tt f2' (by assumption)) | skip)
  all_goals (try k_unfold)
  all_goals (try dsimp only)
  all_goals (refine end0 (by k_asm) ?_; intro hs' hn'; subst hg'; exact hret _ _ _ _ ⟨_, rfl, rfl⟩ hs' hn')
end

end

section -- R2x
open PySem PySem.W PyProof.Rows PySem.Flt
set_option maxRecDepth 100000
set_option maxHeartbeats 8000000

noncomputable def NeF (a b : Nat) : Prop := a ≠ b
theorem NeF.out {a b : Nat} (h : NeF a b) : a ≠ b := h
theorem NeF.out' {a b : Nat} (h : NeF a b) : b ≠ a := Ne.symm h
/-- the walk rests here -/
noncomputable def Rest (p : Prop) : Prop := p
theorem rest_ {p : Prop} (h : Rest p) : p := h

noncomputable def ringB : List Int := [50, 55, 60, 35, 10, 11, 12, 7, 2, 27, 52, 51]
/-- a new list of ints -/
noncomputable def ListI (ns : List Int) (r : Value) (tl : List (Addr × Obj)) : Prop := ∃ a vs n, r = .ref a ∧ tl = [(a, W.listOf vs n)] ∧ IntsAre vs.toList ns
theorem ints_cons {x y : Int} {t : Tok} {vs : List Value} {ns : List Int} (h : x = y) (H : IntsAre vs ns) : IntsAre (.int x t :: vs) (y :: ns) := by subst h; exact .cons _ _ H
theorem endL {g : Heap} {R : Result → Shared → Prop} {s' : Shared} {L' D : Addr} {m' : Str → Option Value} {news' : List (Addr × Obj)} {o : Obj}
    (F : Fr g L' s'.heap m') (N : News g L' s'.heap news') (hm : (D, o) ∈ news')
    (k : g.StaysIn s'.heap → (∀ p ∈ [(D, o)], s'.heap.get? p.1 = some p.2 ∧ g.get? p.1 = none) → R (.ok (.ret (.ref D))) s') : LeaveF g R (.ref D) s' :=
  leaveF_ [(D, o)] F N (fun p hp => by rw [List.mem_singleton.mp hp]; exact hm) k
end

section -- Tab1
open PySem PySem.W PyProof.Rows PySem.Flt
set_option maxRecDepth 100000
set_option maxHeartbeats 8000000

noncomputable def ringF (low : Int) (k : Nat) : Int := 31 * low + ringB.getD (k % 12) 0
theorem all_range {n : Nat} {f : Nat → Bool} (h : (List.range n).all f = true) {k : Nat} (hk : k < n) : f k = true := List.all_eq_true.mp h k (List.mem_range.mpr hk)

/-- the twelve hues -/
noncomputable def hueL : List UInt64 := [0, 4590669220166325589, 4595172819793696085, 4598175219545276416, 4599676419421066581, 4601177619296856747, 4602678819172646912, 4603429419110541995, 4604180019048437077, 4604930618986332160, 4605681218924227243, 4606431818862122325]
/-- by the level: saturation, value, lightness, share -/
noncomputable def satL : List UInt64 := [4607182418800017408, 4604180019048437077, 4602678819172646912]
noncomputable def valL : List UInt64 := [4602678819172646912, 4604930618986332160, 4607182418800017408]
noncomputable def lumL : List UInt64 := [4598175219545276416, 4602678819172646912, 4604930618986332160]
noncomputable def shaL : List UInt64 := [4607182418800017408, 4602678819172646912, 4607182418800017408]
/-- every sum of a hue and a turn, and how many twelfths it stands for -/
noncomputable def hsL : List (UInt64 × Nat) := [(0, 0), (4590669220166325589, 1), (4595172819793696085, 2), (4598175219545276416, 3), (4599676419421066581, 4), (4601177619296856747, 5), (4601177619296856746, 5), (4602678819172646912, 6), (4603429419110541995, 7), (4603429419110541994, 7),
  (4604180019048437077, 8), (4604180019048437078, 8), (4604930618986332160, 9), (4605681218924227243, 10), (4605681218924227242, 10), (4606431818862122325, 11), (4606431818862122326, 11), (4607182418800017408, 12), (4607557718768964949, 13), (4607557718768964950, 13),
  (4607933018737912490, 14), (4607933018737912491, 14), (4608308318706860032, 15), (4608683618675807573, 16), (4608683618675807574, 16), (4609058918644755114, 17), (4609058918644755115, 17), (4609434218613702656, 18), (4609809518582650197, 19), (4609809518582650198, 19),
  (4610184818551597738, 20), (4610184818551597739, 20), (4610560118520545280, 21), (4610935418489492821, 22)]

noncomputable def fineV (h s v : UInt64) : Bool := !Float64.isNaN (Float64.mul h sixF) && (!Float64.isInf (Float64.mul h sixF) && (decide ((iF h).natAbs < 1000) && (fineF (sr0 h s v) && (fineF (sr1 h s v) && fineF (sr2 h s v)))))
noncomputable def colV (h s v : UInt64) : Int := 25 * rndF (sr0 h s v) + 5 * rndF (sr1 h s v) + rndF (sr2 h s v)
noncomputable def fineH (h l s : UInt64) : Bool := fineF (hr0 h l s) && (fineF (hr1 h l s) && fineF (hr2 h l s))
noncomputable def colH (h l s : UInt64) : Int := 25 * rndF (hr0 h l s) + 5 * rndF (hr1 h l s) + rndF (hr2 h l s)

/-- a colour of the ring -/
noncomputable def chkA (l k : Nat) : Bool :=
  !Float64.isInf (rF (ringF l k)) && (!Float64.isInf (gF (ringF l k)) && (!Float64.isInf (bF (ringF l k)) && (!Float64.isZero (mxC (ringF l k)) && (!Float64.isZero (rngF (rF (ringF l k)) (gF (ringF l k)) (bF (ringF l k))) &&
  (!Float64.isZero (sumF (rF (ringF l k)) (gF (ringF l k)) (bF (ringF l k))) && (!Float64.isZero (Float64.sub (Float64.sub twoF (max3 (rF (ringF l k)) (gF (ringF l k)) (bF (ringF l k)))) (min3 (rF (ringF l k)) (gF (ringF l k)) (bF (ringF l k)))) &&
  (decide (hsvH (rF (ringF l k)) (gF (ringF l k)) (bF (ringF l k)) = hueL.getD k 0) && (decide (sC (ringF l k) = satL.getD l 0) && (decide (mxC (ringF l k) = valL.getD l 0) && (decide (lC (ringF l k) = lumL.getD l 0) && decide (tC (ringF l k) = shaL.getD l 0)))))))))))
/-- a sum of a hue and a turn -/
noncomputable def chkB (k t : Nat) : Bool := !Float64.isInf (twF t) && hsL.any fun p => Nat.beq p.2 (k + t) && decide (Float64.add (hueL.getD k 0) (twF t) = p.1)
/-- a turned colour -/
noncomputable def chkV (l : Nat) (p : UInt64 × Nat) : Bool := fineV p.1 (satL.getD l 0) (valL.getD l 0) && decide (colV p.1 (satL.getD l 0) (valL.getD l 0) = ringF l p.2)
noncomputable def chkH (l : Nat) (p : UInt64 × Nat) : Bool := fineH p.1 (lumL.getD l 0) (shaL.getD l 0) && decide (colH p.1 (lumL.getD l 0) (shaL.getD l 0) = ringF l p.2)

theorem tabA0 : (List.range 12).all (chkA 0) = true := by decide +kernel
theorem tabA1 : (List.range 12).all (chkA 1) = true := by decide +kernel
theorem tabA2 : (List.range 12).all (chkA 2) = true := by decide +kernel
theorem tabB : (List.range 12).all (fun k => (List.range 12).all (chkB k)) = true := by decide +kernel
theorem tabV0 : hsL.all (chkV 0) = true := by decide +kernel
theorem tabV1 : hsL.all (chkV 1) = true := by decide +kernel
theorem tabV2 : hsL.all (chkV 2) = true := by decide +kernel
theorem tabH0 : hsL.all (chkH 0) = true := by decide +kernel
theorem tabH1 : hsL.all (chkH 1) = true := by decide +kernel
theorem tabH2 : hsL.all (chkH 2) = true := by decide +kernel

theorem inA (l k : Nat) (hl : l < 3) (hk : k < 12) : chkA l k = true := by
  have hl' : l = 0 ∨ l = 1 ∨ l = 2 := by omega
  rcases hl' with rfl | rfl | rfl
  · exact all_range tabA0 hk
  · exact all_range tabA1 hk
  · exact all_range tabA2 hk
theorem inV (l : Nat) (hl : l < 3) {p : UInt64 × Nat} (hp : p ∈ hsL) : chkV l p = true := by
  have hl' : l = 0 ∨ l = 1 ∨ l = 2 := by omega
  rcases hl' with rfl | rfl | rfl
  · exact List.all_eq_true.mp tabV0 p hp
  · exact List.all_eq_true.mp tabV1 p hp
  · exact List.all_eq_true.mp tabV2 p hp
theorem inH (l : Nat) (hl : l < 3) {p : UInt64 × Nat} (hp : p ∈ hsL) : chkH l p = true := by
  have hl' : l = 0 ∨ l = 1 ∨ l = 2 := by omega
  rcases hl' with rfl | rfl | rfl
  · exact List.all_eq_true.mp tabH0 p hp
  · exact List.all_eq_true.mp tabH1 p hp
  · exact List.all_eq_true.mp tabH2 p hp
theorem inB (k t : Nat) (hk : k < 12) (ht : t < 12) : (!Float64.isInf (twF t)) = true ∧ ∃ p ∈ hsL, p.2 = k + t ∧ Float64.add (hueL.getD k 0) (twF t) = p.1 := by
  have h : chkB k t = true := all_range (all_range tabB hk) ht
  unfold chkB at h
  obtain ⟨h1, h2⟩ := Bool.and_eq_true_iff.mp h
  obtain ⟨p, hp, h3⟩ := List.any_eq_true.mp h2
  obtain ⟨h4, h5⟩ := Bool.and_eq_true_iff.mp h3
  exact ⟨h1, p, hp, Nat.eq_of_beq_eq_true h4, of_decide_eq_true h5⟩
theorem ba {a b : Bool} (h : (a && b) = true) : a = true ∧ b = true := Bool.and_eq_true_iff.mp h
theorem ab {a b : Bool} (h1 : a = true) (h2 : b = true) : (a && b) = true := Bool.and_eq_true_iff.mpr ⟨h1, h2⟩
theorem tabV (l k t : Nat) (hl : l < 3) (hk : k < 12) (ht : t < 12) : okV (ringF l k) t = true ∧ turnV (ringF l k) t = ringF l (k + t) := by
  have a := inA l k hl hk
  unfold chkA at a
  obtain ⟨a1, a⟩ := ba a
  obtain ⟨a2, a⟩ := ba a
  obtain ⟨a3, a⟩ := ba a
  obtain ⟨a4, a⟩ := ba a
  obtain ⟨a5, a⟩ := ba a
  obtain ⟨a6, a⟩ := ba a
  obtain ⟨a7, a⟩ := ba a
  obtain ⟨a8, a⟩ := ba a
  obtain ⟨a9, a⟩ := ba a
  obtain ⟨a10, a⟩ := ba a
  replace a8 := of_decide_eq_true a8
  replace a9 := of_decide_eq_true a9
  replace a10 := of_decide_eq_true a10
  obtain ⟨b, p, hp, e2, e1⟩ := inB k t hk ht
  have v := inV l hl hp
  unfold chkV at v
  obtain ⟨v1, v2⟩ := ba v
  replace v2 := of_decide_eq_true v2
  have eh : hueT (ringF l k) t = p.1 := by
    show Float64.add (hsvH (rF (ringF l k)) (gF (ringF l k)) (bF (ringF l k))) (twF t) = p.1
    rw [a8, e1]
  rw [← eh, ← a9, ← a10] at v1 v2
  rw [e2] at v2
  exact ⟨ab a1 (ab a2 (ab a3 (ab b (ab a4 (ab a5 v1))))), v2⟩
theorem tabH (l k t : Nat) (hl : l < 3) (hk : k < 12) (ht : t < 12) : okH (ringF l k) t = true ∧ turnH (ringF l k) t = ringF l (k + t) := by
  have a := inA l k hl hk
  unfold chkA at a
  obtain ⟨a1, a⟩ := ba a
  obtain ⟨a2, a⟩ := ba a
  obtain ⟨a3, a⟩ := ba a
  obtain ⟨a4, a⟩ := ba a
  obtain ⟨a5, a⟩ := ba a
  obtain ⟨a6, a⟩ := ba a
  obtain ⟨a7, a⟩ := ba a
  obtain ⟨a8, a⟩ := ba a
  obtain ⟨a9, a⟩ := ba a
  obtain ⟨a10, a⟩ := ba a
  obtain ⟨a11, a12⟩ := ba a
  replace a8 := of_decide_eq_true a8
  replace a11 := of_decide_eq_true a11
  replace a12 := of_decide_eq_true a12
  obtain ⟨b, p, hp, e2, e1⟩ := inB k t hk ht
  have v := inH l hl hp
  unfold chkH at v
  obtain ⟨v1, v2⟩ := ba v
  replace v2 := of_decide_eq_true v2
  have eh : hueT (ringF l k) t = p.1 := by
    show Float64.add (hsvH (rF (ringF l k)) (gF (ringF l k)) (bF (ringF l k))) (twF t) = p.1
    rw [a8, e1]
  rw [← eh, ← a11, ← a12] at v1 v2
  rw [e2] at v2
  exact ⟨ab a1 (ab a2 (ab a3 (ab b (ab a6 (ab a5 (ab a7 v1)))))), v2⟩
end

section -- Rep0
open PySem PySem.W PyProof.Rows PySem.Flt
set_option maxRecDepth 100000
set_option maxHeartbeats 8000000

section
variable {prog : Program} {w : World} {A A₀ : Around} {s : Shared} {K : Frag} {L : Addr} {h₀ base : Heap} {m mg mb : Str → Option Value} {p : Program} {loose : List Str} {mean : ExcName → Option Value}
  {env : Env} {outer : List Env} {R : Result → Shared → Prop} {name qual : Str} {params : Arguments} {body : List Stmt} {scope : Scope} {dV kV doc pm cdv ct oc : Value} {an od : Option Addr} {osl : Array (Option Value)} {f : Addr} {args : Args} {ws : List Value} {binds : Value → List (Str × Value)}

/-- a def with a star parameter: its tuple is the first thing on the ledger -/
theorem rest_fr (B : Below A₀ base outer h₀) (F : Fr h₀ L s.heap m) (X₀ : K.In h₀) (T : Top p loose mean mg mb h₀) (hA : A.frames = some (env :: outer)) (hf : env.frame = some L) (hke : env.scope.kind = .function)
    (ho : K.lookup f = some ⟨oc, od, .func (fnOf name qual params body scope dV kV doc pm an cdv ct), osl⟩) (hcd : codeIn K cdv qual = true) (hroom : A.depth < recursionLimit)
    (hbind : bindArgs (fnOf name qual params body scope dV kV doc pm an cdv ct) args = (newTuple ws >>= fun D => pure (binds D))) (hz : ws.length ≤ sizeLine) (hloc : ∀ D, ∀ y ∈ binds D, scope.names.lookup y.1 = some .local)
    (h : ∀ g L' D h₁ tk, g = s.heap → Fr g L' h₁ (fun y => (binds (.ref D)).reverse.lookup y) → News g L' h₁ [(D, tup ws.toArray)] → Below A base (env :: outer) g → K.In g → Top p loose mean mg mb g →
      wpAny (model prog w) (A.deeper (envOf qual scope L' f cdv)) (execs body (envOf qual scope L' f cdv))
        (fun fl s' => LeaveF g R (match fl with | .ret v => v | _ => .none) s')
        (fun e s' => wpAny (model prog w) (A.deeper (envOf qual scope L' f cdv)) (leaving (envOf qual scope L' f cdv) e) (fun _ s'' => R (.error e) s'') (fun e' s'' => R (.error e') s'') s')
        { s with heap := h₁, toks := tk })
    (hco : scope.isCoroutine = false) (hgen : scope.isGenerator = false) (hk : scope.kind = .function)
    (hcell : ∀ x ∈ scope.names, x.2 ≠ .cell) : codeAny (model prog w) A (.call (.ref f) args) R s := by
  refine codeAny_call_function (fd := fnOf name qual params body scope dV kV doc pm an cdv ct) (body := body) hroom ((X₀.keeps F.keep) _ _ ho) rfl hco hgen rfl (codeRec_of (X₀.keeps F.keep) hcd) ?_
  rw [hbind]
  refine wpAny_bind (wpAny_newObj_type (wpAny_pure ?_) (by show ws.toArray.size ≤ sizeLine; rw [List.size_toArray]; exact hz))
  have hp : ∀ b o, s.heap.get? b = some o → (s.heap.push (tup ws.toArray)).get? b = some o := fun b o e => Heap.get?_push_of_some _ e
  refine wpAny_newFunctionEnv hcell (hloc _) (fun h₁ hns hsb => ⟨((T.nolimit.keeps F.keep).keeps hp).fresh _ hsb, codeAny_func ?_⟩) hk
  have hz1 : (s.heap.push (tup ws.toArray)).objs.size = s.heap.objs.size + 1 := Heap.size_push ..
  have hk₁ : ∀ b o, (s.heap.push (tup ws.toArray)).get? b = some o → h₁.get? b = some o := fun b o e => hsb.extBut b o (Nat.ne_of_lt (Heap.lt_size e)) (Heap.get?_push_of_some _ e)
  refine wpAny_mono (h s.heap (s.heap.push (tup ws.toArray)).objs.size s.heap.objs.size h₁ _ rfl ⟨hns, fun b o e => hk₁ b o (hp b o e), by rw [hz1]; exact Nat.le_succ _⟩ (fun q hq => ?_) (below_fr B F hA hf hke) (X₀.keeps F.keep) (T.keeps F.keep)) (fun fl s' hl => ?_) fun _ _ y => y
  · rw [List.mem_singleton.mp hq]
    refine ⟨hk₁ _ _ (Heap.get?_push_size _ rfl), ?_, ?_⟩
    · show s.heap.objs.size ≠ _; rw [hz1]; exact Nat.ne_of_lt (Nat.lt_succ_self _)
    · cases e : s.heap.get? s.heap.objs.size with
      | none => rfl
      | some o => exact absurd (Heap.lt_size e) (Nat.lt_irrefl _)
  · obtain ⟨tl, h1, h2, k⟩ := hl
    exact k h1 h2
end

noncomputable def flat : List (Str × Str) → List Str
  | [] => []
  | (a, b) :: r => a :: b :: flat r
noncomputable def replF : Str → List (Str × Str) → Str
  | x, [] => x
  | x, (a, b) :: r => replF (Txt.join b (Txt.split x a)) r
noncomputable def RepOk : Str → List (Str × Str) → Prop
  | _, [] => True
  | x, (a, b) :: r => (a.length == 0) = false ∧ x.length + 2 ≤ 16777216 ∧ ((Txt.split x a).map (·.length)).sum + (Txt.split x a).length * b.length ≤ 16777216 ∧ RepOk (Txt.join b (Txt.split x a)) r
noncomputable def Str1 (x : Str) (r : Value) (tl : List (Addr × Obj)) : Prop := ∃ t, r = .str x t ∧ tl = []

/-- the frame of replace -/
noncomputable def fmR (D : Addr) (x : Str) (t : Tok) : Str → Option Value := fun y => if y = Str.ofString "pairs" then some (.ref D) else if y = Str.ofString "text" then some (.str x t) else none
noncomputable def JR (X : Str) (n : Nat) (m : Str → Option Value) (news : List (Addr × Obj)) : Prop :=
  ∃ ps x t D ws, m = fmR D x t ∧ news = [(D, tup ws.toArray)] ∧ StrsAre ws (flat ps) ∧ ps.length = n ∧ RepOk x ps ∧ replF x ps = X ∧ ws.length ≤ 100
end

section -- Rep1
open PySem PySem.W PyProof.Rows PySem.Flt
set_option maxRecDepth 100000
set_option maxHeartbeats 1000000
section
variable {prog : Program} {w : World} {A : Around} {E : Value → Shared → Prop} {s : Shared} {h₀ : Heap} {L t : Addr} {news : List (Addr × Obj)}
theorem tru_nil {Q : Bool → Shared → Prop} (N : News h₀ L s.heap news) (hm : (t, tup ([] : List Value).toArray) ∈ news) (h : Q false { s with toks := s.toks + 1 + 1 }) : wpAny (model prog w) A (truthy (.ref t)) Q E s :=
  truthy_tuple (News.isTup N hm) (by decide) h
theorem tru_cons {Q : Bool → Shared → Prop} {a : Value} {r : List Value} (N : News h₀ L s.heap news) (hm : (t, tup (a :: r).toArray) ∈ news) (hz : (a :: r).length ≤ 100) (h : Q true { s with toks := s.toks + 1 + 1 }) : wpAny (model prog w) A (truthy (.ref t)) Q E s :=
  truthy_tuple (News.isTup N hm) (by rw [List.size_toArray]; omega) (by simpa using h)
theorem item_0 {value slice : Expr} {a : Value} {r : List Value} {u : Tok} {Q : Value → Shared → Prop} (N : News h₀ L s.heap news) (hm : (t, tup (a :: r).toArray) ∈ news) (h : Q a s)
    (hs : subscripted slice false (.ref t) (.int 0 u) = operate [.ref t, .int 0 u] (getItem (.ref t) (.int 0 u)) := by with_unfolding_all rfl) :
    wpAny (model prog w) A (subscriptTail value slice (.ref t) (.int 0 u)) Q E s :=
  item_tupleT (l := a :: r) (j := 0) (News.isTup N hm) (by decide) (by decide) (by simp [seqIndex?]) rfl h hs
theorem item_1 {value slice : Expr} {a b : Value} {r : List Value} {u : Tok} {Q : Value → Shared → Prop} (N : News h₀ L s.heap news) (hm : (t, tup (a :: b :: r).toArray) ∈ news) (h : Q b s)
    (hs : subscripted slice false (.ref t) (.int 1 u) = operate [.ref t, .int 1 u] (getItem (.ref t) (.int 1 u)) := by with_unfolding_all rfl) :
    wpAny (model prog w) A (subscriptTail value slice (.ref t) (.int 1 u)) Q E s :=
  item_tupleT (l := a :: b :: r) (j := 1) (News.isTup N hm) (by decide) (by decide) (by simp [seqIndex?]; omega) rfl h hs
theorem join_fit {x : Str} {tk : Tok} {D : Addr} {l : List (Str × Tok)} {y z : Str} {Q : Value → Shared → Prop} (hl : s.heap.IsList D (strValues l).toArray) (e : l.map (·.1) = Txt.split y z)
    (hok : ((Txt.split y z).map (·.length)).sum + (Txt.split y z).length * x.length ≤ 16777216)
    (h : ∀ t' k, Q (.str (Txt.join x (Txt.split y z)) t') { s with toks := k }) : wpAny (model prog w) A (call (.builtin "str.join") [.str x tk, .ref D]) Q E s :=
  join_list hl (e ▸ strsAre_of_values l) hok h
end

-- two lines that serve nothing: the walk keeps its table of lines by their count alone, and R2 has as many
local macro_rules | `(tactic| walk_at "truthy ref") => `(tactic| ((with_reducible show wpAny _ _ (truthy (Value.ref _)) _ _ _); k_dflt (first
  | (refine' tru_nil ?k1 ?k2 ?_; (case k1 => k_asm); (case k2 => k_mem))
  | (refine' tru_cons ?k1 ?k2 ?k3 ?_; (case k1 => k_asm); (case k2 => k_mem); (case k3 => assumption)))))
local macro_rules | `(tactic| walk_at "subscriptTail Name Constant ref int") => `(tactic| ((with_reducible show wpAny _ _ (subscriptTail _ _ (Value.ref _) (Value.int 0 _)) _ _ _); refine' item_0 ?k1 ?k2 ?_ ?k3; (case k1 => k_asm); (case k2 => k_mem); (case k3 => with_unfolding_all rfl)))
local macro_rules | `(tactic| walk_at "subscriptTail Name Constant ref int") => `(tactic| ((with_reducible show wpAny _ _ (subscriptTail _ _ (Value.ref _) (Value.int 1 _)) _ _ _); refine' item_1 ?k1 ?k2 ?_ ?k3; (case k1 => k_asm); (case k2 => k_mem); (case k3 => with_unfolding_all rfl)))
local macro_rules | `(tactic| walk_at "call builtin:str.split") => `(tactic| ((with_reducible show wpAny _ _ (call (Value.builtin "str.split") [Value.str _ _, Value.str _ _]) _ _ _); k_dflt (refine' splitN1A ?k1 ?k2 ?k3 ?_ ?k4; (case k1 | k2 => k_asm); (case k3 => assumption); (case k4 => (rw [sizeLine_eq]; assumption))); intro l' h' k' e' a' b' c' F' N'; (try dsimp only)))
local macro_rules | `(tactic| walk_at "call builtin:str.join") => `(tactic| ((with_reducible show wpAny _ _ (call (Value.builtin "str.join") [Value.str _ _, Value.ref _]) _ _ _); k_dflt (refine' join_fit ?k1 ?k2 ?k3 ?_; (case k1 | k2 | k3 => assumption)); intro t' k'; (try dsimp only)))

theorem drop_fit {a b : Value} {r : List Value} : 2 ≤ (a :: b :: r).toArray.size := by rw [List.size_toArray]; simp
local macro_rules | `(tactic| walk_at "subscriptTail Name Slice ref ref") => `(tactic| ((with_reducible show wpAny _ _ (subscriptTail _ _ (Value.ref _) (Value.ref _)) _ _ _); (with_unfolding_all refine' slice_tuple_from (a := 2) ?k1 ?k2 ?k3 ?k4 ?k5 ?_ ?k6 ?k7 ?k8; (case k1 | k2 => k_asm); (case k3 => exact News.isTup (by k_asm) (by k_mem)); (case k4 => decide); (case k5 => exact drop_fit); (case k6 => with_unfolding_all rfl); (case k7 => intro _; with_unfolding_all rfl); (case k8 => (rw [List.size_toArray]; exact Nat.le_trans (by assumption) (by decide)))); intro h' F' N'; (try dsimp only)))
theorem fmR_eq (D : Addr) (x : Str) (t : Tok) (y : Str) : ([(Str.ofString "text", Value.str x t), (Str.ofString "pairs", Value.ref D)] : List (Str × Value)).reverse.lookup y = fmR D x t y := by
  unfold fmR
  show List.lookup y [(Str.ofString "pairs", Value.ref D), (Str.ofString "text", Value.str x t)] = _
  by_cases h1 : y = Str.ofString "pairs"
  · rw [if_pos h1, h1, List.lookup_cons, beq_self_eq_true]
  · rw [if_neg h1, List.lookup_cons, beq_eq_false_iff_ne.mpr h1]
    by_cases h2 : y = Str.ofString "text"
    · rw [if_pos h2, h2, List.lookup_cons, beq_self_eq_true]
    · rw [if_neg h2, List.lookup_cons, beq_eq_false_iff_ne.mpr h2, List.lookup_nil]

theorem fmR_set (D A : Addr) (x X : Str) (t T : Tok) : (fun y => if y = Str.ofString "pairs" then some (Value.ref A) else if y = Str.ofString "text" then some (Value.str X T) else fmR D x t y) = fmR A X T := by
  funext y
  unfold fmR
  by_cases h1 : y = Str.ofString "pairs"
  · rw [if_pos h1, if_pos h1]
  · rw [if_neg h1, if_neg h1, if_neg h1]
    by_cases h2 : y = Str.ofString "text"
    · rw [if_pos h2, if_pos h2]
    · rw [if_neg h2, if_neg h2, if_neg h2]
theorem c_replace (w : World) (x : Str) (t : Tok) (ps : List (Str × Str)) (ws : List Value) (hS : StrsAre ws (flat ps)) (hok : RepOk x ps) (hz : ws.length ≤ 100) :
    Con w 56 1 (.str x t :: ws) (fun _ => True) (Str1 (replF x ps)) := by
  unfold Con
  k_fill
  w_top off
  intro loose mean mg mb dp un gd cn cs a ccd cl outer A₀ base h₀ L m s Q E B F X T hk hd' hu hP hret
  refine wpAny_call ?_
  k_dflt (refine' rest_fr (ws := ws) (binds := fun D => [(Str.ofString "text", .str x t), (Str.ofString "pairs", D)]) ?k1 ?k2 ?k3 ?k5 ?kA ?kF ?kK ?k6 ?k7 ?k8 ?k9 ?kz ?kB ?_ ?c2 ?c3 ?c4 ?c5; (case kA => exact rfl); (case kF => exact rfl); (case kK => assumption); (case k1 => k_asm); (case k2 => k_asm); (case k3 => k_asm); (case k5 => k_asm); (case k6 => k_is); (case k7 => k_is); (case k8 => ktr_room); (case k9 => (cases ws <;> rfl)); (case kz => exact Nat.le_trans hz (by decide)); (case c5 => decide); (case kB => exact fun D => locs rfl); (case c2 => exact rfl); (case c3 => exact rfl); (case c4 => exact rfl); k_whole)
  intro g' L' D h' tk hg' F' N' B' X' T'
  have e : (fun y => ([(Str.ofString "text", Value.str x t), (Str.ofString "pairs", Value.ref D)] : List (Str × Value)).reverse.lookup y) = fmR D x t := funext fun y => fmR_eq D x t y
  have F' : Fr g' L' h' (fmR D x t) := e ▸ F'
  have hJ : JR (replF x ps) ps.length (fmR D x t) [(D, tup ws.toArray)] := ⟨ps, x, t, D, ws, rfl, rfl, hS, rfl, hok, rfl, hz⟩
  clear e
  (try dsimp only)
  (try k_fold)
  walk1
  refine While_inv (JR (replF x ps)) F' N' hJ ?_
  clear hJ F' N'
  rintro n m₁ news₁ h₁ tk₁ F₁ N₁ ⟨ps₁, x₁, t₁, D₁, ws₁, rfl, rfl, hS₁, hn₁, hok₁, hX₁, hz₁⟩
  cases ps₁ with
  | nil =>
    cases hS₁
    simp only [replF] at hX₁
    k_steps
    dsimp only
    refine end0 F₁ ?_
    intro hs' hn'
    subst hg'
    exact hret _ _ _ _ ⟨_, by rw [hX₁], rfl⟩ hs' hn'
  | cons ab r =>
    obtain ⟨a₁, b₁⟩ := ab
    cases hS₁ with
    | @cons _ ta _ _ hS₁ =>
    cases hS₁ with
    | @cons _ tb vs _ hS₁ =>
    obtain ⟨q1, q2, q3, q4⟩ := hok₁
    simp only [replF] at hX₁
    k_steps
    (rename Fr _ _ _ _ => Fz)
    (rename News _ _ _ _ => Nz)
    rw [fmR_set] at Fz
    refine WhileStep.intro (n' := r.length) Fz (cb_drop Nz mem_one) (by rw [← hn₁]; exact Nat.lt_succ_self _) ⟨r, _, _, _, vs, rfl, rfl, hS₁, rfl, q4, hX₁, ?_⟩
    simp only [List.length_cons] at hz₁
    omega
end

section -- For0
open PySem PySem.W PyProof.Rows PySem.Flt
set_option maxRecDepth 100000
set_option maxHeartbeats 2000000

/-- a turn's end -/
noncomputable def StepM (h₀ : Heap) (L I : Addr) (o : Obj) (Jn : (Str → Option Value) → List (Addr × Obj) → Prop) (s : Shared) (f : Flow) (s₂ : Shared) : Prop :=
  f = .next ∧ ∃ h' tk m' news', s₂ = { s with heap := h', toks := tk } ∧ Fr h₀ L h' m' ∧ News h₀ L h' ((I, o) :: news') ∧ (∀ p ∈ news', p.1 ≠ I) ∧ Jn m' news'

section
variable {prog : Program} {w : World} {A : Around} {s : Shared} {env : Env} {h₀ : Heap} {E : Value → Shared → Prop} {Q : Flow → Shared → Prop}
theorem for_core {x : Str} {px : Pos} {body : List Stmt} {I : Addr} {fp : List Addr} {n : Nat} {P : Nat → Value → Prop} {St : Nat → Heap → Prop} {m : Str → Option Value} {news : List (Addr × Obj)}
    (W : Walks prog w A I fp [I] n P St) (hfp : ∀ b ∈ fp, b = I ∨ ∃ o, h₀.get? b = some o) (hLI : env.locals ≠ I) (hI : h₀.get? I = none) (hnw : ∀ p ∈ news, p.1 ≠ I) (hlive : ∀ i h, St i h → ∃ o, h.get? I = some o)
    (hst : St 0 s.heap) (F : Fr h₀ env.locals s.heap m) (N : News h₀ env.locals s.heap news) (J : Nat → (Str → Option Value) → List (Addr × Obj) → Prop) (h0 : J 0 m news)
    (step : ∀ i v m₁ news₁ h tk o, i < n → P i v → J i m₁ news₁ → (∀ p ∈ news₁, p.1 ≠ I) → Fr h₀ env.locals h m₁ → News h₀ env.locals h ((I, o) :: news₁) →
      wpAny (model prog w) A (storeName env x v) (fun _ s' => wpAny (model prog w) A (execs body env) (StepM h₀ env.locals I o (J (i + 1)) s) E s') E { s with heap := h, toks := tk })
    (done : ∀ h tk m' news', J n m' news' → Fr h₀ env.locals h m' → News h₀ env.locals h news' → Q .next { s with heap := h, toks := tk })
    (hE : PassesOwn (model prog w) A env E) :
    codeAny (model prog w) A (.forLoop (.Name x px) (.ref I) body [] env) (fun r s' => match r with | .ok f => Q f s' | .error e => cameBackBy (model prog w) A env E e s') s := by
  refine codeAny_forLoop_any
    (fun k s' => ∃ h' tk m' news' i, s' = { s with heap := h', toks := tk } ∧ St i h' ∧ Fr h₀ env.locals h' m' ∧ News h₀ env.locals h' news' ∧ (∀ p ∈ news', p.1 ≠ I) ∧ J i m' news' ∧ i ≤ n ∧ k = n + 1 - i) ?_ (n + 1)
    ⟨s.heap, s.toks, m, news, 0, rfl, hst, F, N, hnw, h0, Nat.zero_le _, rfl⟩
  rintro k s' ⟨h', tk, m', news', i, rfl, hst', F', N', hnw', hJ, hi, rfl⟩
  have next : ∀ h₁ : Heap, (∀ b o, b ∉ [I] → h'.get? b = some o → h₁.get? b = some o) → Fr h₀ env.locals h₁ m' ∧ News h₀ env.locals h₁ news' := fun h₁ hk₁ =>
    ⟨⟨F'.ns.at' fun o e => hk₁ _ o (by simpa using hLI) e, fun b o e => hk₁ b o (fun q => by rw [List.mem_singleton.mp q, hI] at e; cases e) (F'.keep b o e), F'.above⟩, fun p hp => ⟨hk₁ _ _ (by simpa using hnw' p hp) (N' p hp).1, (N' p hp).2⟩⟩
  by_cases hlt : i < n
  · refine W.item i _ _ _ hlt hst' fun v h₁ tk₁ hP hst₁ hk₁ => ?_
    obtain ⟨F₁, N₁⟩ := next h₁ hk₁
    obtain ⟨o, ho⟩ := hlive _ _ hst₁
    have N₂ : News h₀ env.locals h₁ ((I, o) :: news') := fun p hp => by
      rcases List.mem_cons.mp hp with rfl | hp
      · exact ⟨ho, fun e => hLI e.symm, hI⟩
      · exact N₁ p hp
    dsimp only
    refine wpAny_of_eq (show letOwnedTupleGo (Expr.Name x px) (.ref I) v = pure () from rfl) ?_
    refine wpAny_assign_Name ?_
    refine wpAny_mono (step i v m' news' h₁ tk₁ o hlt hP hJ hnw' F₁ N₂) (fun _ s₂ h₂ => ?_) hE
    refine wpAny_mono h₂ (fun f s₃ h₃ => ?_) hE
    obtain ⟨rfl, h₃, tk₃, m₃, news₃, rfl, F₃, N₃, hn₃, J₃⟩ := h₃
    refine ⟨n + 1 - (i + 1), by omega, h₃, tk₃, m₃, news₃, i + 1, rfl, ?_, F₃, fun p hp => N₃ p (.tail _ hp), hn₃, J₃, hlt, rfl⟩
    refine W.frame _ _ _ hst₁ fun b hb o' e => ?_
    rcases hfp b hb with rfl | ⟨ob, hob⟩
    · rw [ho] at e
      cases e
      exact (N₃ _ (.head _)).1
    · have := F₁.keep b ob hob
      rw [e] at this
      cases this
      exact F₃.keep b _ hob
  · have hin : i = n := by omega
    subst hin
    refine W.done _ _ _ hst' fun h₁ tk₁ hk₁ => wpAny_execs_nil ?_
    obtain ⟨F₁, N₁⟩ := next h₁ hk₁
    exact done h₁ tk₁ m' news' hJ F₁ N₁

/-- for x in a range that was just made -/
theorem iter_rng {x : Str} {px : Pos} {body : List Stmt} {r : Addr} {b : Int} {n : Nat} {t u v : Tok} {m : Str → Option Value} {news : List (Addr × Obj)} (hh : A.handled = none)
    (hr : IsRange s.heap r 0 b 1 t u v) (hb : b = (n : Int)) (hz : n < 1000) (F : Fr h₀ env.locals s.heap m) (N : News h₀ env.locals s.heap news) (J : Nat → (Str → Option Value) → List (Addr × Obj) → Prop) (h0 : J 0 m news)
    (step : ∀ i t m₁ news₁ I h tk o, i < n → J i m₁ news₁ → (∀ p ∈ news₁, p.1 ≠ I) → Fr h₀ env.locals h m₁ → News h₀ env.locals h ((I, o) :: news₁) →
      wpAny (model prog w) A (storeName env x (.int (i : Int) t)) (fun _ s' => wpAny (model prog w) A (execs body env) (StepM h₀ env.locals I o (J (i + 1)) s) E s') E { s with heap := h, toks := tk })
    (done : ∀ h tk m' news', J n m' news' → Fr h₀ env.locals h m' → News h₀ env.locals h news' → Q .next { s with heap := h, toks := tk })
    (hE : PassesOwn (model prog w) A env E) :
    wpAny (model prog w) A (pyIter (.ref r)) (fun it s₂ => codeAny (model prog w) A (.forLoop (.Name x px) it body [] env) (fun r s' => match r with | .ok f => Q f s' | .error e => cameBackBy (model prog w) A env E e s') s₂) E s := by
  have hsz : Builtin.Range.rangeSize 0 b 1 = (n : Int) := by
    rw [rangeSize_one]; split <;> omega
  have hsm : Builtin.Range.small 0 b 1 = true := by
    exact small_one (by omega) (by omega) (by omega) (by omega)
  refine wpAny_pyIter_range hr hsm ?_
  rw [hsz]
  have hIn : h₀.get? s.heap.objs.size = none := by
    cases e : h₀.get? s.heap.objs.size with
    | none => rfl
    | some o => exact absurd (Heap.lt_size (F.keep _ _ e)) (Nat.lt_irrefl _)
  refine for_core (s := { s with heap := s.heap.push { cls := .type "range_iterator", data := .fields #[rawInt 0, rawInt (n : Int), rawInt 1] } }) (Walks.range hh s.heap.objs.size 0 1 n) (fun b hb => .inl (by simpa using hb)) (Nat.ne_of_lt F.ns.lt) hIn (fun p hp => Nat.ne_of_lt (Heap.lt_size (N p hp).1)) (fun i h st => ⟨_, st⟩) ?_ (F.push _) (fun p hp => ⟨Heap.get?_push_of_some _ (N p hp).1, (N p hp).2⟩) J h0 ?_ done hE
  · have e : IsRangeIter (s.heap.push { cls := .type "range_iterator", data := .fields #[rawInt 0, rawInt (n : Int), rawInt 1] }) s.heap.objs.size 0 (n : Int) 1 := Heap.get?_push_size _ rfl
    simpa using e
  · rintro i v m₁ news₁ h tk o hi ⟨t, rfl⟩ hJ hn F₁ N₁
    simp only [Int.zero_add, Int.mul_one]
    exact step i t m₁ news₁ _ h tk o hi hJ hn F₁ N₁
end
end

section -- For1
open PySem PySem.W PyProof.Rows PySem.Flt PySem.Calls
set_option maxRecDepth 100000
set_option maxHeartbeats 2000000
section
variable {prog : Program} {w : World} {A A₀ : Around} {s : Shared} {K : Frag} {L : Addr} {h₀ base : Heap} {m mg mb : Str → Option Value} {p : Program} {loose : List Str} {mean : ExcName → Option Value}
  {env : Env} {outer : List Env} {R : Result → Shared → Prop} {name qual : Str} {params : Arguments} {body : List Stmt} {scope : Scope} {dV kV doc pm cdv ct oc : Value} {an od : Option Addr} {osl : Array (Option Value)} {f : Addr} {args : Args} {binds : List (Str × Value)}

/-- a def some of whose names are cells -/
theorem code_frC (B : Below A₀ base outer h₀) (F : Fr h₀ L s.heap m) (X₀ : K.In h₀) (T : Top p loose mean mg mb h₀) (hA : A.frames = some (env :: outer)) (hf : env.frame = some L) (hke : env.scope.kind = .function)
    (ho : K.lookup f = some ⟨oc, od, .func (fnOf name qual params body scope dV kV doc pm an cdv ct), osl⟩) (hcd : codeIn K cdv qual = true) (hroom : A.depth < recursionLimit)
    (hbind : BindsTo s (fnOf name qual params body scope dV kV doc pm an cdv ct) args binds) (hkind : (binds.all fun y => scope.names.lookup y.1 == some .local || scope.names.lookup y.1 == some .cell) = true)
    (hnd : ((cellsFrom 0 scope.names []).map (·.1)).Nodup)
    (h : ∀ g L' h₁ tk cells, g = s.heap → Fr g L' h₁ (bindL (envOfC qual scope L' f cdv).kindOf binds fun _ => none) → News g L' h₁ cells →
      CellsAre (bindC (envOfC qual scope L' f cdv).kindOf binds fun _ => none) (cellsFrom (L' + 1) scope.names []) cells → Below A base (env :: outer) g → K.In g → Top p loose mean mg mb g →
      wpAny (model prog w) (A.deeper (envOfC qual scope L' f cdv)) (execs body (envOfC qual scope L' f cdv))
        (fun fl s' => LeaveF g R (match fl with | .ret v => v | _ => .none) s')
        (fun e s' => wpAny (model prog w) (A.deeper (envOfC qual scope L' f cdv)) (leaving (envOfC qual scope L' f cdv) e) (fun _ s'' => R (.error e) s'') (fun e' s'' => R (.error e') s'') s')
        { s with heap := h₁, toks := tk })
    (hco : scope.isCoroutine = false) (hgen : scope.isGenerator = false) (hk : scope.kind = .function) : codeAny (model prog w) A (.call (.ref f) args) R s := by
  refine codeAny_call_function (fd := fnOf name qual params body scope dV kV doc pm an cdv ct) (body := body) hroom ((X₀.keeps F.keep) _ _ ho) rfl hco hgen rfl (codeRec_of (X₀.keeps F.keep) hcd) (hbind _ _ _ _ ?_)
  refine wpAny_newFunctionEnv_cells hk (kindsX hkind _) fun env' he s' x => ?_
  subst he
  refine ⟨(T.nolimit.keeps F.keep).keeps x.toInCall.keep, codeAny_func ?_⟩
  obtain ⟨h₁, tk, rfl, _⟩ := x.done
  obtain ⟨cells, NC, Y⟩ := Cl.news (h₀ := s.heap) (Nat.le_refl _) fun n c hm => ⟨x.cell n c (lookup_of_mem_nodup (cellsFrom_names scope.names 0 (s.heap.objs.size + 1) [] [] rfl ▸ hnd) hm), x.above n c hm⟩
  refine wpAny_mono (h s.heap s.heap.objs.size h₁ tk cells rfl ⟨x.toInCall.ns, x.toInCall.keep, Nat.le_refl _⟩ NC Y (below_fr B F hA hf hke) (X₀.keeps F.keep) (T.keeps F.keep)) (fun fl s' hl => ?_) fun _ _ y => y
  obtain ⟨tl, h1, h2, k⟩ := hl
  exact k h1 h2
end
end

section -- Cmp0
open PySem PySem.W PyProof.Rows PySem.Flt PySem.Calls
set_option maxRecDepth 100000
set_option maxHeartbeats 2000000

/-- an element's end: an int, and all that stood stands -/
noncomputable def GotI (x : Int) (s₂ : Shared) (y : Value) (s₃ : Shared) : Prop := (∃ t, y = .int x t) ∧ Keeps s₂ s₃
noncomputable def GotS (x : Str) (s₂ : Shared) (y : Value) (s₃ : Shared) : Prop := (∃ t, y = .str x t) ∧ Keeps s₂ s₃
theorem GotI.to {x y : Int} {s₂ : Shared} {t : Tok} {h : Heap} {tk : Nat} (e : y = x) (k : ∀ b o, s₂.heap.get? b = some o → h.get? b = some o) : GotI x s₂ (.int y t) { s₂ with heap := h, toks := tk } := ⟨⟨t, by rw [e]⟩, h, tk, rfl, k⟩
theorem GotS.to {x y : Str} {s₂ : Shared} {t : Tok} {h : Heap} {tk : Nat} (e : y = x) (k : ∀ b o, s₂.heap.get? b = some o → h.get? b = some o) : GotS x s₂ (.str y t) { s₂ with heap := h, toks := tk } := ⟨⟨t, by rw [e]⟩, h, tk, rfl, k⟩
/-- what a comprehension or a loop may run over -/
inductive Src (s : Shared) : Value → Nat → (Nat → Value → Prop) → Prop
  | list {ax : Addr} {vs : List Value} (h : s.heap.IsList ax vs.toArray) : Src s (.ref ax) vs.length (fun i v => vs[i]? = some v)
  | range {r : Addr} {b : Int} {n : Nat} {t u v : Tok} (h : IsRange s.heap r 0 b 1 t u v) (hb : b = (n : Int)) (hz : n < 1000) : Src s (.ref r) n (fun i v => i < n ∧ ∃ t, v = .int (i : Int) t)

section
variable {prog : Program} {w : World} {A : Around} {s : Shared} {E : Value → Shared → Prop}
theorem Src.iter {xv : Value} {n : Nat} {P : Nat → Value → Prop} {Q : Value → Shared → Prop} (hh : A.handled = none) (S : Src s xv n P)
    (h : ∀ fp St o, Walks prog w A s.heap.objs.size fp [s.heap.objs.size] n P St → (∀ b ∈ fp, b = s.heap.objs.size ∨ ∃ o, s.heap.get? b = some o) → (∀ i h, St i h → ∃ o, h.get? s.heap.objs.size = some o) → o.isFreed = false → St 0 (s.heap.push o) → Q (.ref s.heap.objs.size) { s with heap := s.heap.push o }) :
    wpAny (model prog w) A (pyIter xv) Q E s := by
  cases S with
  | @list ax vs hl =>
    have hlt : ax < s.heap.objs.size := by obtain ⟨_, e, _⟩ := hl; exact Heap.lt_size e
    refine wpAny_pyIter_list hl ?_
    have W := Walks.list (prog := prog) (w := w) hh s.heap.objs.size ax (Nat.ne_of_lt hlt) vs.toArray
    rw [List.size_toArray] at W
    simp only [List.getElem?_toArray] at W
    refine h _ _ _ W (fun b hb => ?_) (fun i h st => ?_) rfl ⟨⟨_, Heap.get?_push_size _ rfl, rfl, rfl⟩, hl.push _⟩
    · rcases List.mem_cons.mp hb with rfl | hb
      · exact .inl rfl
      · rw [List.mem_singleton.mp hb]; obtain ⟨o, e, _⟩ := hl; exact .inr ⟨o, e⟩
    · obtain ⟨⟨o, e, _⟩, _⟩ := st; exact ⟨o, e⟩
  | @range r b n t u v hr hb hz =>
    have hsz : Builtin.Range.rangeSize 0 b 1 = (n : Int) := by rw [rangeSize_one]; split <;> omega
    refine wpAny_pyIter_range hr (small_one (by omega) (by omega) (by omega) (by omega)) ?_
    rw [hsz]
    have W := Walks.range (prog := prog) (w := w) hh s.heap.objs.size 0 1 n
    simp only [Int.zero_add, Int.mul_one] at W
    refine h _ _ _ { W with item := fun i s Q E hi st hQ => W.item i s Q E hi st fun v h' tk hp => hQ v h' tk ⟨hi, hp⟩ } (fun b hb => .inl (by simpa using hb)) (fun i h st => ⟨_, st⟩) rfl ?_
    have e : IsRangeIter (s.heap.push { cls := .type "range_iterator", data := .fields #[rawInt 0, rawInt (n : Int), rawInt 1] }) s.heap.objs.size 0 (n : Int) 1 := Heap.get?_push_size _ rfl
    simpa using e
end

theorem paired_at {α β : Type} {G : α → β → Prop} : ∀ {l₁ : List α} {l₂ : List β}, Paired G l₁ l₂ → l₂.length = l₁.length ∧ ∀ (i : Nat) a b, l₁[i]? = some a → l₂[i]? = some b → G a b
  | _, _, .nil => ⟨rfl, fun i a b h => by simp at h⟩
  | _, _, .cons (a := a) (b := b) h r => by
    obtain ⟨h1, h2⟩ := paired_at r
    refine ⟨by simp [h1], fun i a' b' e1 e2 => ?_⟩
    cases i with
    | zero => simp at e1 e2; subst e1 e2; exact h
    | succ i => exact h2 i a' b' (by simpa using e1) (by simpa using e2)

section
variable {prog : Program} {w : World} {A : Around} {s : Shared} {env : Env} {h₀ : Heap} {E : Value → Shared → Prop} {L : Addr} {m : Str → Option Value} {news : List (Addr × Obj)}

/-- an element, wherever the comprehension stands: what it gives for the i-th thing -/
noncomputable def EltOk (prog : Program) (w : World) (A : Around) (env : Env) (scope : Scope) (cl : List (Str × Addr)) (x : Str) (elt : Expr) (n : Nat) (P : Nat → Value → Prop) (G : Nat → Value → Prop) (s₁ : Shared) : Prop :=
  ∀ C i v s₂ m₂ E', i < n → P i v → Fr s₁.heap C s₂.heap m₂ → m₂ x = some v → wpAny (model prog w) A (eval elt (compEnvC scope cl C env)) (fun y s₃ => G i y ∧ Keeps s₂ s₃) E' s₂

theorem elt_quiet {scope : Scope} {cl : List (Str × Addr)} {x : Str} {elt : Expr} {n : Nat} {P : Nat → Value → Prop} {G : Nat → Value → Prop} {o : Obj} (hlt : ∀ i v, P i v → i < n) (hG : EltOk prog w A env scope cl x elt n P G s) :
    QuietOnC prog w A env scope cl x [] elt [s.heap.objs.size] P (fun _ => true) (fun v y => ∃ i, P i v ∧ G i y) { s with heap := s.heap.push o } := by
  have up : ∀ (s₃ : Shared), (∀ b o', b ∉ [s.heap.objs.size] → (s.heap.push o).get? b = some o' → s₃.heap.get? b = some o') → ∀ b o', s.heap.get? b = some o' → s₃.heap.get? b = some o' :=
    fun s₃ hk b o' e => hk b o' (fun hm => by rw [List.mem_singleton.mp hm] at e; exact Nat.lt_irrefl _ (Heap.lt_size e)) (Heap.get?_push_of_some _ e)
  refine ⟨fun C i v s₃ m₃ E' hC hP hn hm hk _ => ?_, fun C i v s₃ m₃ E' hC hP _ hn hm hk _ => ?_⟩
  · simp only [List.forIn_nil]
    exact wpAny_pure ⟨rfl, s₃.heap, s₃.toks, rfl, fun _ _ e => e⟩
  · have hC' : s.heap.objs.size ≤ C := Nat.le_of_succ_le (by simpa [Heap.size_push] using hC)
    exact wpAny_mono (hG C i v s₃ m₃ E' (hlt i v hP) hP ⟨hn, up s₃ hk, hC'⟩ hm) (fun y s₄ h₄ => ⟨⟨i, hP, h₄.1⟩, h₄.2⟩) fun _ _ e => e

/-- where the source's places are told apart by their values, or its values decide -/
noncomputable def Apart (P : Nat → Value → Prop) (G : Nat → Value → Prop) : Prop := ∀ i j v y, P i v → P j v → G i y → G j y

/-- where a comprehension's source stands -/
noncomputable def CompAt (prog : Program) (w : World) (A : Around) (env : Env) (scope : Scope) (cl : List (Str × Addr)) (x : Str) (elt : Expr) (h₀ : Heap) (L : Addr) (m : Str → Option Value) (m' : Addr → Str → Option Value) (K : Addr → Shared → Prop) (xv : Value) (s₁ : Shared) : Prop :=
  ∃ (n : Nat) (P G : Nat → Value → Prop) (news : List (Addr × Obj)), Src s₁ xv n P ∧ n ≤ 1000 ∧ (∀ i v, P i v → i < n) ∧ Apart P G ∧ Fr h₀ L s₁.heap m ∧ News h₀ L s₁.heap news ∧ EltOk prog w A env scope cl x elt n P G s₁ ∧
      (∀ (D : Addr) (ys : List Value) (k : Nat) (h' : Heap) (tk : Nat), ys.length = n → (∀ (i : Nat) y, ys[i]? = some y → G i y) → Fr h₀ L h' (m' D) → News h₀ L h' ((D, W.listOf ys.toArray k) :: news) → (∀ p ∈ news, p.1 ≠ D) → K D { s₁ with heap := h', toks := tk })

theorem compE {elt iter : Expr} {x : Str} {px : Pos} {scope : Scope} {cl : List (Str × Addr)} {pos : Pos} {Q : Value → Shared → Prop} (hh : A.handled = none)
    (hclos : closureFor scope env = pure cl) (hcell : ∀ y ∈ scope.names, y.2 ≠ .cell) (hkind : scope.kind = .function)
    (hnames : ∀ y ∈ scope.names, y.2 = .local → scope.names.lookup y.1 = some .local) (hx : scope.names.lookup x = some .local)
    (_F : Fr h₀ L s.heap m)
    (h : wpAny (model prog w) A (eval iter env) (CompAt prog w A env scope cl x elt h₀ L m (fun _ => m) (fun D => Q (.ref D))) E s)
    (hs : ∀ x, foldedSetIterable iter env x = pure x) :
    wpAny (model prog w) A (eval (.ListComp elt [⟨.Name x px, iter, [], 0⟩] scope pos) env) Q E s := by
  refine wpAny_mono (Q := Q) ?_ (fun _ _ h => h) fun _ _ e => e
  rw [eval_ListComp]
  refine wpAny_comprehension_free (use := none) rfl hs hclos hkind hnames (wpAny_mono h (fun xv s₁ h₁ => ?_) fun _ _ e => e)
  obtain ⟨n, P, G, news, S, hz, hlt, hap, F, N, hG, hQ⟩ := h₁
  refine S.iter hh fun fp St o W hfp hlive hfr hst => ?_
  have hz' : n ≤ sizeLine := Nat.le_trans hz (by decide)
  have hfp' : ∀ b ∈ fp, b < (s₁.heap.push o).objs.size := fun b hb => by
    rw [Heap.size_push]
    rcases hfp b hb with rfl | ⟨o', e⟩
    · exact Nat.lt_succ_self _
    · exact Nat.lt_succ_of_lt (Heap.lt_size e)
  refine comp_block_walkC (s₂ := { s₁ with heap := s₁.heap.push o }) (RR := fun acc C => compPost (model prog w) A E none Q acc C) W hz' (fun _ => true) _ hcell hkind hx hst hfp' (elt_quiet hlt hG) ?_
  intro D C h' tk m' ys vs hD hC hDC hn hl hpl hlen hP hF hk
  refine ⟨m', hn, fun h'' hs'' => ?_⟩
  have hpl'' := hpl.extBut hs''.extBut hDC
  have keep : ∀ b o', s₁.heap.get? b = some o' → h''.get? b = some o' := fun b o' e => by
    have e' : (s₁.heap.push o).get? b = some o' := Heap.get?_push_of_some _ e
    refine hs''.extBut b o' (by rintro rfl; rw [hC] at e'; cases e') (hk b o' (fun hm => ?_) e')
    rw [List.mem_singleton.mp hm] at e; exact Nat.lt_irrefl _ (Heap.lt_size e)
  have hD1 : s₁.heap.get? D = none := by
    cases e : s₁.heap.get? D with
    | none => rfl
    | some o' => rw [Heap.get?_push_of_some _ e] at hD; cases hD
  obtain ⟨k, hk'⟩ := hpl''
  rw [List.filter_eq_self.mpr (fun _ _ => rfl)] at hF
  obtain ⟨q1, q2⟩ := paired_at hF
  refine hQ D ys.toList k h'' tk (by rw [q1, hlen]) (fun i y hy => ?_) (F.grownK keep) ?_ ?_
  · have hi : i < vs.length := by
      have := (List.getElem?_eq_some_iff.mp hy).1
      omega
    have hv := List.getElem?_eq_getElem hi
    obtain ⟨j, hj, hg⟩ := q2 i _ y hv hy
    exact hap j i _ y hj (hP i _ hv) hg
  · intro p hp
    rcases List.mem_cons.mp hp with rfl | hp
    · refine ⟨by simpa using hk', fun e => ?_, ?_⟩
      · obtain ⟨oL, _, _, hL, _⟩ := F.ns
        rw [show L = D from e.symm, hD1] at hL; cases hL
      · cases e : h₀.get? D with
        | none => rfl
        | some o' => rw [F.keep _ _ e] at hD1; cases hD1
    · exact ⟨keep _ _ (N p hp).1, (N p hp).2⟩
  · intro p hp e
    have := (N p hp).1
    rw [e, hD1] at this; cases this

theorem compA {elt iter : Expr} {x y : Str} {px py : Pos} {scope : Scope} {cl : List (Str × Addr)} {pos spos : Pos} {Q : Flow → Shared → Prop} (hh : A.handled = none)
    (hsw : swapsWith (.ListComp elt [⟨.Name x px, iter, [], 0⟩] scope pos) (some (.Name y py)) spos.line env = pure true) (hL : env.locals = L)
    (hclos : closureFor scope env = pure cl) (hcell : ∀ y ∈ scope.names, y.2 ≠ .cell) (hkind : scope.kind = .function)
    (hnames : ∀ y ∈ scope.names, y.2 = .local → scope.names.lookup y.1 = some .local) (hx : scope.names.lookup x = some .local)
    (hy : env.kindOf y = some .local) (hp : (env.scope.kind == .class || (env.scope.kind == .module && env.locals != env.globals)) = false)
    (_F : Fr h₀ L s.heap m)
    (h : wpAny (model prog w) A (eval iter env) (CompAt prog w A env scope cl x elt h₀ L m (fun D z => if z = y then some (.ref D) else m z) (fun _ => Q .next)) E s)
    (hs : ∀ x, foldedSetIterable iter env x = pure x) :
    wpAny (model prog w) A (exec (.Assign [.Name y py] (.ListComp elt [⟨.Name x px, iter, [], 0⟩] scope pos) spos) env) Q E s := by
  subst hL
  rw [exec_Assign_Name_used _ _ _ _ hsw]
  refine wpAny_bind (wpAny_standAt (wpAny_bind ?_))
  show wpAny _ A (do let _ ← comprehension (.ListComp elt [⟨.Name x px, iter, [], 0⟩] scope pos) scope env _ (newList []) false (eval iter env) (some (assign (.Name y py) env))) _ _ s
  refine wpAny_bind (wpAny_mono (wpAny_comprehension_free (use := some (assign (.Name y py) env)) (Q := fun _ s' => Q .next s') rfl hs hclos hkind hnames
    (wpAny_mono h (fun xv s₁ h₁ => ?_) fun _ _ e => e)) (fun _ s' hq => wpAny_pure (wpAny_pure hq)) fun _ _ e => e)
  obtain ⟨n, P, G, news, S, hz, hlt, hap, F, N, hG, hQ⟩ := h₁
  refine S.iter hh fun fp St o W hfp hlive hfr hst => ?_
  have hz' : n ≤ sizeLine := Nat.le_trans hz (by decide)
  have hfp' : ∀ b ∈ fp, b < (s₁.heap.push o).objs.size := fun b hb => by
    rw [Heap.size_push]
    rcases hfp b hb with rfl | ⟨o', e⟩
    · exact Nat.lt_succ_self _
    · exact Nat.lt_succ_of_lt (Heap.lt_size e)
  refine comp_block_walkC (s₂ := { s₁ with heap := s₁.heap.push o }) (RR := fun acc C => compPost (model prog w) A E (some (assign (.Name y py) env)) (fun _ s' => Q .next s') acc C) W hz' (fun _ => true) _ hcell hkind hx hst hfp' (elt_quiet hlt hG) ?_
  intro D C h' tk m' ys vs hD hC hDC hnC hlD hplD hlen hP hF hk
  have hn : (s₁.heap.push o).Ns env.locals m := F.ns.push _
  have hLw : env.locals ∉ [s₁.heap.objs.size] := fun hm => Nat.lt_irrefl _ ((List.mem_singleton.mp hm) ▸ F.ns.lt)
  have hLC : env.locals ≠ C := by rintro rfl; obtain ⟨o, _, _, ho, _⟩ := hn; rw [hC] at ho; cases ho
  have hLD : env.locals ≠ D := by rintro rfl; obtain ⟨o, _, _, ho, _⟩ := hn; rw [hD] at ho; cases ho
  show wpAny _ A (assign (.Name y py) env (.ref D)) _ _ _
  refine wpAny_assign_Name (wpAny_storeName_local hy (hn.at' fun o e => hk _ o hLw e) (fun h₂ hn₂ hs₂ => ?_) hp)
  refine ⟨m', hnC.sameBut hs₂ (Ne.symm hLC), fun h₃ hs₃ => ?_⟩
  have hpl₃ := (hplD.extBut hs₂.extBut (Ne.symm hLD)).extBut hs₃.extBut hDC
  have keep : ∀ b o', b ≠ env.locals → s₁.heap.get? b = some o' → h₃.get? b = some o' := fun b o' hbL e => by
    have e' : (s₁.heap.push o).get? b = some o' := Heap.get?_push_of_some _ e
    refine hs₃.extBut b o' (by rintro rfl; rw [hC] at e'; cases e') (hs₂.extBut b o' hbL (hk b o' (fun hm => ?_) e'))
    rw [List.mem_singleton.mp hm] at e; exact Nat.lt_irrefl _ (Heap.lt_size e)
  have hD1 : s₁.heap.get? D = none := by
    cases e : s₁.heap.get? D with
    | none => rfl
    | some o' => rw [Heap.get?_push_of_some _ e] at hD; cases hD
  obtain ⟨k, hk'⟩ := hpl₃
  rw [List.filter_eq_self.mpr (fun _ _ => rfl)] at hF
  obtain ⟨q1, q2⟩ := paired_at hF
  refine hQ D ys.toList k h₃ _ (by rw [q1, hlen]) (fun i y hy => ?_) ⟨hn₂.sameBut hs₃ hLC, fun b o' e => keep b o' (Nat.ne_of_lt (Nat.lt_of_lt_of_le (Heap.lt_size e) F.above)) (F.keep b o' e), F.above⟩ ?_ ?_
  · have hi : i < vs.length := by
      have := (List.getElem?_eq_some_iff.mp hy).1
      omega
    have hv := List.getElem?_eq_getElem hi
    obtain ⟨j, hj, hg⟩ := q2 i _ y hv hy
    exact hap j i _ y hj (hP i _ hv) hg
  · intro p hp
    rcases List.mem_cons.mp hp with rfl | hp
    · refine ⟨by simpa using hk', fun e => hLD e.symm, ?_⟩
      cases e : h₀.get? D with
      | none => rfl
      | some o' => rw [F.keep _ _ e] at hD1; cases hD1
    · exact ⟨keep _ _ (N p hp).2.1 (N p hp).1, (N p hp).2⟩
  · intro p hp e
    have := (N p hp).1
    rw [e, hD1] at this; cases this

theorem ints_of_all {f : Nat → Int} : ∀ {ys : List Value}, (∀ (i : Nat) y, ys[i]? = some y → ∃ t, y = .int (f i) t) → IntsAre ys ((List.range ys.length).map f)
  | [], _ => .nil
  | y :: r, h => by
    obtain ⟨t, rfl⟩ := h 0 y rfl
    have := ints_of_all (f := fun i => f (i + 1)) (ys := r) fun i y' e => h (i + 1) y' (by simpa using e)
    rw [List.length_cons, List.range_succ_eq_map, List.map_cons, List.map_map]
    exact .cons _ _ this
theorem ints_of_list {f : Int → Int} : ∀ {vs : List Value} {ns : List Int} {ys : List Value}, IntsAre vs ns → ys.length = vs.length → (∀ (i : Nat) y, ys[i]? = some y → ∃ n t, ns[i]? = some n ∧ y = .int (f n) t) → IntsAre ys (ns.map f)
  | _, _, [], .nil, _, _ => .nil
  | _, _, y :: r, .cons n t H, hl, h => by
    obtain ⟨n', t', e1, rfl⟩ := h 0 y rfl
    cases e1
    exact .cons _ _ (ints_of_list H (by simpa using hl) fun i y' e => by simpa using h (i + 1) y' (by simpa using e))
theorem strs_of_list {f : Int → Str} : ∀ {vs : List Value} {ns : List Int} {ys : List Value}, IntsAre vs ns → ys.length = vs.length → (∀ (i : Nat) y, ys[i]? = some y → ∃ n t, ns[i]? = some n ∧ y = .str (f n) t) → StrsAre ys (ns.map f)
  | _, _, [], .nil, _, _ => .nil
  | _, _, y :: r, .cons n t H, hl, h => by
    obtain ⟨n', t', e1, rfl⟩ := h 0 y rfl
    cases e1
    exact .cons _ _ (strs_of_list H (by simpa using hl) fun i y' e => by simpa using h (i + 1) y' (by simpa using e))
theorem ints_at : ∀ {vs : List Value} {ns : List Int} {i : Nat} {v : Value}, IntsAre vs ns → vs[i]? = some v → ∃ n t, ns[i]? = some n ∧ v = .int n t
  | _, _, 0, v, .cons n t H, e => by simp at e; exact ⟨n, t, rfl, e.symm⟩
  | _, _, i + 1, v, .cons n t H, e => by
    obtain ⟨n', t', e1, e2⟩ := ints_at H (i := i) (v := v) (by simpa using e)
    exact ⟨n', t', by simpa using e1, e2⟩
  | _, _, _, _, .nil, e => by simp at e

section
variable {scope : Scope} {cl : List (Str × Addr)} {x : Str} {elt : Expr} {m' : Addr → Str → Option Value} {K : Addr → Shared → Prop}
theorem CompAt.rng {r : Addr} {b : Int} {n : Nat} {t u v : Tok} (f : Nat → Int) (R : IsRange s.heap r 0 b 1 t u v) (hb : b = (n : Int)) (hz : n < 1000) (F : Fr h₀ L s.heap m) (N : News h₀ L s.heap news)
    (helt : ∀ C i t s₂ m₂ E', i < n → Fr s.heap C s₂.heap m₂ → News s.heap C s₂.heap [] → m₂ x = some (.int (i : Int) t) → wpAny (model prog w) A (eval elt (compEnvC scope cl C env)) (GotI (f i) s₂) E' s₂)
    (cont : ∀ (D : Addr) (ys : List Value) (k : Nat) (h' : Heap) (tk : Nat), IntsAre ys ((List.range n).map f) → Fr h₀ L h' (m' D) → News h₀ L h' ((D, W.listOf ys.toArray k) :: news) → (∀ p ∈ news, p.1 ≠ D) → K D { s with heap := h', toks := tk }) :
    CompAt prog w A env scope cl x elt h₀ L m m' K (.ref r) s := by
  refine ⟨n, fun i v => i < n ∧ ∃ t, v = .int (i : Int) t, fun i y => ∃ t, y = .int (f i) t, news, ?_, by omega, fun i v h => h.1, ?_, F, N, ?_, ?_⟩
  · exact Src.range R hb hz
  · rintro i j v y ⟨_, t, rfl⟩ ⟨_, t', e⟩ hy
    have e' : (i : Int) = (j : Int) := by injection e
    rwa [show i = j by omega] at hy
  · rintro C i v s₂ m₂ E' hi ⟨_, t, rfl⟩ F₂ hm
    exact helt C i t s₂ m₂ E' hi F₂ News.nil hm
  · intro D ys k h' tk hl hy F' N' hn
    exact cont D ys k h' tk (by rw [← hl]; exact ints_of_all hy) F' N' hn

theorem CompAt.lst {ax : Addr} {vs : List Value} {ns : List Int} (f : Int → Int) (hl : s.heap.IsList ax vs.toArray) (hi : IntsAre vs ns) (hz : ns.length ≤ 1000) (F : Fr h₀ L s.heap m) (N : News h₀ L s.heap news)
    (helt : ∀ C k t s₂ m₂ E', k ∈ ns → Fr s.heap C s₂.heap m₂ → News s.heap C s₂.heap [] → m₂ x = some (.int k t) → wpAny (model prog w) A (eval elt (compEnvC scope cl C env)) (GotI (f k) s₂) E' s₂)
    (cont : ∀ (D : Addr) (ys : List Value) (k : Nat) (h' : Heap) (tk : Nat), IntsAre ys (ns.map f) → Fr h₀ L h' (m' D) → News h₀ L h' ((D, W.listOf ys.toArray k) :: news) → (∀ p ∈ news, p.1 ≠ D) → K D { s with heap := h', toks := tk }) :
    CompAt prog w A env scope cl x elt h₀ L m m' K (.ref ax) s := by
  refine ⟨vs.length, fun i v => vs[i]? = some v, fun i y => ∃ n t, ns[i]? = some n ∧ y = .int (f n) t, news, .list hl, by rw [hi.length]; exact hz, fun i v h => (List.getElem?_eq_some_iff.mp h).1, ?_, F, N, ?_, ?_⟩
  · rintro i j v y h1 h2 ⟨n, t, e1, rfl⟩
    obtain ⟨n1, t1, a1, b1⟩ := ints_at hi h1
    obtain ⟨n2, t2, a2, b2⟩ := ints_at hi h2
    have e3 : n1 = n2 := by rw [b1] at b2; injection b2
    rw [e1] at a1
    cases a1
    exact ⟨n2, t, a2, by rw [e3]⟩
  · rintro C i v s₂ m₂ E' _ hv F₂ hm
    obtain ⟨n, t, e1, rfl⟩ := ints_at hi hv
    exact wpAny_mono (helt C n t s₂ m₂ E' (List.mem_of_getElem? e1) F₂ News.nil hm) (fun y s₃ h => ⟨⟨n, h.1.choose, e1, h.1.choose_spec⟩, h.2⟩) fun _ _ e => e
  · intro D ys k h' tk hlen hy F' N' hn
    exact cont D ys k h' tk (ints_of_list hi hlen hy) F' N' hn
theorem CompAt.lstS {ax : Addr} {vs : List Value} {ns : List Int} (f : Int → Str) (hl : s.heap.IsList ax vs.toArray) (hi : IntsAre vs ns) (hz : ns.length ≤ 1000) (F : Fr h₀ L s.heap m) (N : News h₀ L s.heap news)
    (helt : ∀ C k t s₂ m₂ E', k ∈ ns → Fr s.heap C s₂.heap m₂ → News s.heap C s₂.heap [] → m₂ x = some (.int k t) → wpAny (model prog w) A (eval elt (compEnvC scope cl C env)) (GotS (f k) s₂) E' s₂)
    (cont : ∀ (D : Addr) (ys : List Value) (k : Nat) (h' : Heap) (tk : Nat), StrsAre ys (ns.map f) → Fr h₀ L h' (m' D) → News h₀ L h' ((D, W.listOf ys.toArray k) :: news) → (∀ p ∈ news, p.1 ≠ D) → K D { s with heap := h', toks := tk }) :
    CompAt prog w A env scope cl x elt h₀ L m m' K (.ref ax) s := by
  refine ⟨vs.length, fun i v => vs[i]? = some v, fun i y => ∃ n t, ns[i]? = some n ∧ y = .str (f n) t, news, .list hl, by rw [hi.length]; exact hz, fun i v h => (List.getElem?_eq_some_iff.mp h).1, ?_, F, N, ?_, ?_⟩
  · rintro i j v y h1 h2 ⟨n, t, e1, rfl⟩
    obtain ⟨n1, t1, a1, b1⟩ := ints_at hi h1
    obtain ⟨n2, t2, a2, b2⟩ := ints_at hi h2
    have e3 : n1 = n2 := by rw [b1] at b2; injection b2
    rw [e1] at a1
    cases a1
    exact ⟨n2, t, a2, by rw [e3]⟩
  · rintro C i v s₂ m₂ E' _ hv F₂ hm
    obtain ⟨n, t, e1, rfl⟩ := ints_at hi hv
    exact wpAny_mono (helt C n t s₂ m₂ E' (List.mem_of_getElem? e1) F₂ News.nil hm) (fun y s₃ h => ⟨⟨n, h.1.choose, e1, h.1.choose_spec⟩, h.2⟩) fun _ _ e => e
  · intro D ys k h' tk hlen hy F' N' hn
    exact cont D ys k h' tk (strs_of_list hi hlen hy) F' N' hn
end
end
end

section
local macro_rules | `(tactic| walk_at "eval Name") => `(tactic| (k_here; k_dflt (refine' nameX_L ?F ?v ?_ ?a ?b; (case F => k_asm); (case a | b => rfl); (case v => assumption); k_whole)))
local macro_rules | `(tactic| walk_at "call builtin:list.append") => `(tactic| ((with_reducible show wpAny _ _ (call (Value.builtin _) [Value.ref _, _]) _ _ _); k_dflt (refine' append_K ?k1 ?k2 ?k3 ?_ ?z; (case k1 | k2 => k_asm); (case k3 => k_upd); (case z => (rw [List.size_toArray, sizeLine_eq]; omega))); intro h' F' N'; (try k_sweep)))
section -- R5x
open PySem PySem.W PyProof.Rows PySem.Flt
set_option maxRecDepth 100000
set_option maxHeartbeats 8000000

local macro_rules | `(tactic| walk_at "exec For Name Call cons nil") => `(tactic| (refine wpAny_For ?_ (fun _ => rfl)))
local macro_rules | `(tactic| walk_at "exec For Tuple List cons nil") => `(tactic| (refine wpAny_For ?_ (fun _ => rfl)))
local macro_rules | `(tactic| walk_at "pyIter ref") => `(tactic| (refine rest_ ?_))
local macro_rules | `(tactic| k_ne) => `(tactic| (refine neN ?_; (try dsimp only); first | exact NeF.out (by with_reducible assumption) | exact NeF.out' (by with_reducible assumption)))

theorem stepG {g h' : Heap} {L I : Addr} {oI : Obj} (pre : List (Addr × Obj)) {rest : List (Addr × Obj)} {J : (Str → Option Value) → List (Addr × Obj) → Prop} {m' : Str → Option Value} {s : Shared} {tk : Nat}
    (F : Fr g L h' m') (N : News g L h' (pre ++ (I, oI) :: rest)) (hne : ∀ p ∈ rest, p.1 ≠ I) (hJ : J m' rest) : StepM g L I oI J s .next { s with heap := h', toks := tk } :=
  ⟨rfl, h', tk, m', rest, rfl, F, cb_drop N (fun p hp => List.mem_append.mpr (.inr hp)), hne, hJ⟩
theorem ints_snoc : ∀ {vs : List Value} {ns : List Int} {x y : Int} {t : Tok}, IntsAre vs ns → x = y → IntsAre (vs ++ [.int x t]) (ns ++ [y])
  | _, _, _, _, _, .nil, e => by subst e; exact .cons _ _ .nil
  | _, _, _, _, _, .cons y t H, e => .cons y t (ints_snoc H e)
section
variable {prog : Program} {w : World} {A : Around} {s : Shared} {env : Env} {h₀ : Heap} {E : Value → Shared → Prop} {Q : Flow → Shared → Prop}
/-- a loop with any target over a list of the ledger -/
theorem for_tgt {tgt : Expr} {body : List Stmt} {I : Addr} {fp : List Addr} {n : Nat} {P : Nat → Value → Prop} {St : Nat → Heap → Prop} {m : Str → Option Value} {news : List (Addr × Obj)}
    (W : Walks prog w A I fp [I] n P St) (J : Nat → (Str → Option Value) → List (Addr × Obj) → Prop) (hfp : ∀ b ∈ fp, b = I ∨ ∃ o, ∀ i m' news', J i m' news' → (b, o) ∈ news') (hLI : env.locals ≠ I) (hI : h₀.get? I = none) (hnw : ∀ p ∈ news, p.1 ≠ I) (hlive : ∀ i h, St i h → ∃ o, h.get? I = some o)
    (hgo : ∀ i (s' : Shared) v (Q' : Unit → Shared → Prop) (E' : Value → Shared → Prop), P i v → St (i + 1) s'.heap → Q' () s' → wpAny (model prog w) A (letOwnedTupleGo tgt (.ref I) v) Q' E' s')
    (hst : St 0 s.heap) (F : Fr h₀ env.locals s.heap m) (N : News h₀ env.locals s.heap news) (h0 : J 0 m news)
    (step : ∀ i v m₁ news₁ h tk o, i < n → P i v → J i m₁ news₁ → (∀ p ∈ news₁, p.1 ≠ I) → Fr h₀ env.locals h m₁ → News h₀ env.locals h ((I, o) :: news₁) →
      wpAny (model prog w) A (assign tgt env v) (fun _ s' => wpAny (model prog w) A (execs body env) (StepM h₀ env.locals I o (J (i + 1)) s) E s') E { s with heap := h, toks := tk })
    (done : ∀ h tk m' news', J n m' news' → Fr h₀ env.locals h m' → News h₀ env.locals h news' → Q .next { s with heap := h, toks := tk })
    (hE : PassesOwn (model prog w) A env E) :
    codeAny (model prog w) A (.forLoop tgt (.ref I) body [] env) (fun r s' => match r with | .ok f => Q f s' | .error e => cameBackBy (model prog w) A env E e s') s := by
  refine codeAny_forLoop_any
    (fun k s' => ∃ h' tk m' news' i, s' = { s with heap := h', toks := tk } ∧ St i h' ∧ Fr h₀ env.locals h' m' ∧ News h₀ env.locals h' news' ∧ (∀ p ∈ news', p.1 ≠ I) ∧ J i m' news' ∧ i ≤ n ∧ k = n + 1 - i) ?_ (n + 1)
    ⟨s.heap, s.toks, m, news, 0, rfl, hst, F, N, hnw, h0, Nat.zero_le _, rfl⟩
  rintro k s' ⟨h', tk, m', news', i, rfl, hst', F', N', hnw', hJ, hi, rfl⟩
  have next : ∀ h₁ : Heap, (∀ b o, b ∉ [I] → h'.get? b = some o → h₁.get? b = some o) → Fr h₀ env.locals h₁ m' ∧ News h₀ env.locals h₁ news' := fun h₁ hk₁ =>
    ⟨⟨F'.ns.at' fun o e => hk₁ _ o (by simpa using hLI) e, fun b o e => hk₁ b o (fun q => by rw [List.mem_singleton.mp q, hI] at e; cases e) (F'.keep b o e), F'.above⟩, fun p hp => ⟨hk₁ _ _ (by simpa using hnw' p hp) (N' p hp).1, (N' p hp).2⟩⟩
  by_cases hlt : i < n
  · refine W.item i _ _ _ hlt hst' fun v h₁ tk₁ hP hst₁ hk₁ => ?_
    obtain ⟨F₁, N₁⟩ := next h₁ hk₁
    obtain ⟨o, ho⟩ := hlive _ _ hst₁
    have N₂ : News h₀ env.locals h₁ ((I, o) :: news') := fun p hp => by
      rcases List.mem_cons.mp hp with rfl | hp
      · exact ⟨ho, fun e => hLI e.symm, hI⟩
      · exact N₁ p hp
    dsimp only
    refine hgo i _ v _ _ hP hst₁ ?_
    refine wpAny_mono (step i v m' news' h₁ tk₁ o hlt hP hJ hnw' F₁ N₂) (fun _ s₂ h₂ => ?_) hE
    refine wpAny_mono h₂ (fun f s₃ h₃ => ?_) hE
    obtain ⟨rfl, h₃, tk₃, m₃, news₃, rfl, F₃, N₃, hn₃, J₃⟩ := h₃
    refine ⟨n + 1 - (i + 1), by omega, h₃, tk₃, m₃, news₃, i + 1, rfl, ?_, F₃, fun p hp => N₃ p (.tail _ hp), hn₃, J₃, hlt, rfl⟩
    refine W.frame _ _ _ hst₁ fun b hb o' e => ?_
    rcases hfp b hb with rfl | ⟨ob, hob⟩
    · rw [ho] at e
      cases e
      exact (N₃ _ (.head _)).1
    · have h1 := (N₁ _ (hob _ _ _ hJ)).1
      rw [show h₁.get? b = some ob from h1] at e
      cases e
      exact (N₃ _ (.tail _ (hob _ _ _ J₃))).1
  · have hin : i = n := by omega
    subst hin
    refine W.done _ _ _ hst' fun h₁ tk₁ hk₁ => wpAny_execs_nil ?_
    obtain ⟨F₁, N₁⟩ := next h₁ hk₁
    exact done h₁ tk₁ m' news' hJ F₁ N₁
/-- for a, b in a list of tuples of the ledger -/
theorem iter_tup {elts : List Expr} {k9 : Nat} {tp : Pos} {body : List Stmt} {ax : Addr} {vs : List Value} {ka : Nat} {m : Str → Option Value} {news : List (Addr × Obj)} (hh : A.handled = none)
    (F : Fr h₀ env.locals s.heap m) (N : News h₀ env.locals s.heap news) (ha : (ax, W.listOf vs.toArray ka) ∈ news) (hv : ∀ v ∈ vs, ∃ T, v = .ref T) (J : Nat → (Str → Option Value) → List (Addr × Obj) → Prop) (hJa : ∀ i m' news', J i m' news' → (ax, W.listOf vs.toArray ka) ∈ news') (h0 : J 0 m news)
    (step : ∀ i v m₁ news₁ I h tk o, i < vs.length → vs[i]? = some v → J i m₁ news₁ → (∀ p ∈ news₁, p.1 ≠ I) → Fr h₀ env.locals h m₁ → News h₀ env.locals h ((I, o) :: news₁) →
      wpAny (model prog w) A (assign (.Tuple elts k9 tp) env v) (fun _ s' => wpAny (model prog w) A (execs body env) (StepM h₀ env.locals I o (J (i + 1)) s) E s') E { s with heap := h, toks := tk })
    (done : ∀ h tk m' news', J vs.length m' news' → Fr h₀ env.locals h m' → News h₀ env.locals h news' → Q .next { s with heap := h, toks := tk })
    (hE : PassesOwn (model prog w) A env E) :
    wpAny (model prog w) A (pyIter (.ref ax)) (fun it s₂ => codeAny (model prog w) A (.forLoop (.Tuple elts k9 tp) it body [] env) (fun r s' => match r with | .ok f => Q f s' | .error e => cameBackBy (model prog w) A env E e s') s₂) E s := by
  have hls : s.heap.IsList ax vs.toArray := News.isList N ha
  have hlt : ax < s.heap.objs.size := by obtain ⟨_, e, _⟩ := hls; exact Heap.lt_size e
  refine wpAny_pyIter_list hls ?_
  have W := Walks.list (prog := prog) (w := w) hh s.heap.objs.size ax (Nat.ne_of_lt hlt) vs.toArray
  rw [List.size_toArray] at W
  simp only [List.getElem?_toArray] at W
  have hIn : h₀.get? s.heap.objs.size = none := by
    cases e : h₀.get? s.heap.objs.size with
    | none => rfl
    | some o => exact absurd (Heap.lt_size (F.keep _ _ e)) (Nat.lt_irrefl _)
  refine for_tgt (s := { s with heap := s.heap.push { cls := .type "list_iterator", data := .fields #[.ref ax, .int 0 0] } }) W J (fun b hb => ?_) (Nat.ne_of_lt F.ns.lt) hIn (fun p hp => Nat.ne_of_lt (Heap.lt_size (N p hp).1)) (fun i h st => ?_) (fun i s' v Q' E' hP st hQ => ?_) ⟨⟨_, Heap.get?_push_size _ rfl, rfl, rfl⟩, hls.push _⟩ (F.push _) (fun p hp => ⟨Heap.get?_push_of_some _ (N p hp).1, (N p hp).2⟩) h0 ?_ done hE
  · rcases List.mem_cons.mp hb with rfl | hb
    · exact .inl rfl
    · rw [List.mem_singleton.mp hb]; exact .inr ⟨_, hJa⟩
  · obtain ⟨⟨o, e, _⟩, _⟩ := st; exact ⟨o, e⟩
  · obtain ⟨T, rfl⟩ := hv v (List.mem_of_getElem? hP)
    exact wpAny_letOwnedTupleGo_listiter st.1 hQ
  · intro i v m₁ news₁ h tk o hi hv hJ hn F₁ N₁
    exact step i v m₁ news₁ _ h tk o hi hv hJ hn F₁ N₁
end

/-- part and step of the ring's j-th turn -/
noncomputable def prtL : List (Int × Int) := [(1, 1), (0, -1), (2, 1), (1, -1), (0, 1), (2, -1)]
noncomputable def prtN (j : Nat) : Int := (prtL.getD j (0, 0)).1
noncomputable def stpN (j : Nat) : Int := (prtL.getD j (0, 0)).2
/-- the walker ahead of the k-th step, less the level -/
noncomputable def offL : List (List Int) := [[2, 0, 0], [2, 1, 0], [2, 2, 0], [1, 2, 0], [0, 2, 0], [0, 2, 1], [0, 2, 2], [0, 1, 2], [0, 0, 2], [1, 0, 2], [2, 0, 2], [2, 0, 1], [2, 0, 0]]
noncomputable def wnF (low : Int) (k : Nat) : List Int := (offL.getD k []).map (low + ·)
noncomputable def rgF (low : Int) (n : Nat) : List Int := (List.range n).map fun k => 31 * low + ringB.getD k 0
theorem k_cases {P : Nat → Prop} (h : P 0 ∧ P 1 ∧ P 2 ∧ P 3 ∧ P 4 ∧ P 5 ∧ P 6 ∧ P 7 ∧ P 8 ∧ P 9 ∧ P 10 ∧ P 11) {k : Nat} (hk : k < 12) : P k := by
  obtain ⟨h0, h1, h2, h3, h4, h5, h6, h7, h8, h9, h10, h11⟩ := h
  have : k = 0 ∨ k = 1 ∨ k = 2 ∨ k = 3 ∨ k = 4 ∨ k = 5 ∨ k = 6 ∨ k = 7 ∨ k = 8 ∨ k = 9 ∨ k = 10 ∨ k = 11 := by omega
  rcases this with rfl | rfl | rfl | rfl | rfl | rfl | rfl | rfl | rfl | rfl | rfl | rfl <;> assumption
theorem wn_len (low : Int) {k : Nat} (hk : k < 12) : (wnF low k).length = 3 := k_cases (P := fun k => (wnF low k).length = 3) ⟨rfl, rfl, rfl, rfl, rfl, rfl, rfl, rfl, rfl, rfl, rfl, rfl⟩ hk
theorem wn_in {low : Int} (h0 : 0 ≤ low) (h2 : low ≤ 2) {k p : Nat} (hk : k < 12) (hp : p < 3) : 0 ≤ (wnF low k).getD p 0 ∧ (wnF low k).getD p 0 ≤ 4 := by
  have hp' : p = 0 ∨ p = 1 ∨ p = 2 := by omega
  rcases hp' with rfl | rfl | rfl
  · refine k_cases (P := fun k => 0 ≤ (wnF low k).getD 0 0 ∧ (wnF low k).getD 0 0 ≤ 4) ?_ hk
    simp only [wnF, offL, List.getD_cons_zero, List.getD_cons_succ, List.map_cons]
    omega
  · refine k_cases (P := fun k => 0 ≤ (wnF low k).getD 1 0 ∧ (wnF low k).getD 1 0 ≤ 4) ?_ hk
    simp only [wnF, offL, List.getD_cons_zero, List.getD_cons_succ, List.map_cons]
    omega
  · refine k_cases (P := fun k => 0 ≤ (wnF low k).getD 2 0 ∧ (wnF low k).getD 2 0 ≤ 4) ?_ hk
    simp only [wnF, offL, List.getD_cons_zero, List.getD_cons_succ, List.map_cons]
    omega
theorem wn_val (low : Int) {k : Nat} (hk : k < 12) : 25 * (wnF low k).getD 0 0 + 5 * (wnF low k).getD 1 0 + (wnF low k).getD 2 0 = 31 * low + ringB.getD k 0 := by
  refine k_cases (P := fun k => 25 * (wnF low k).getD 0 0 + 5 * (wnF low k).getD 1 0 + (wnF low k).getD 2 0 = 31 * low + ringB.getD k 0) ?_ hk
  simp only [wnF, offL, ringB, List.getD_cons_zero, List.getD_cons_succ, List.map_cons]
  omega
theorem prt_in {j : Nat} (hj : j < 6) : 0 ≤ prtN j ∧ prtN j < 3 := by
  have : j = 0 ∨ j = 1 ∨ j = 2 ∨ j = 3 ∨ j = 4 ∨ j = 5 := by omega
  rcases this with rfl | rfl | rfl | rfl | rfl | rfl <;> decide
theorem wn_set (low : Int) {j i : Nat} (hj : j < 6) (hi : i < 2) : (wnF low (2 * j + i)).set (prtN j).toNat ((wnF low (2 * j + i)).getD (prtN j).toNat 0 + stpN j) = wnF low (2 * j + i + 1) := by
  have hj' : j = 0 ∨ j = 1 ∨ j = 2 ∨ j = 3 ∨ j = 4 ∨ j = 5 := by omega
  have hi' : i = 0 ∨ i = 1 := by omega
  rcases hj' with rfl | rfl | rfl | rfl | rfl | rfl <;> rcases hi' with rfl | rfl <;> simp [wnF, offL, prtN, stpN, prtL] <;> omega
theorem rg_snoc {rv : List Value} {low v : Int} {n : Nat} {t : Tok} (h : IntsAre rv (rgF low n)) (e : v = 31 * low + ringB.getD n 0) : IntsAre (rv ++ [.int v t]) (rgF low (n + 1)) := by
  unfold rgF at h ⊢
  rw [List.range_succ, List.map_append, List.map_singleton]
  exact ints_snoc h e
/-- between the turns of the ring's outer loop -/
noncomputable def JO (low : Int) (R Wk ax d1 d2 d3 d4 d5 d6 : Addr) (oa o1 o2 o3 o4 o5 o6 : Obj) (j : Nat) (m : Str → Option Value) (news : List (Addr × Obj)) : Prop :=
  ∃ rv wv kr kw, m (Str.ofString "ring") = some (.ref R) ∧ m (Str.ofString "walker") = some (.ref Wk) ∧ IntsAre rv (rgF low (2 * j)) ∧ IntsAre wv (wnF low (2 * j)) ∧
    news = [(ax, oa), (d6, o6), (d5, o5), (d4, o4), (d3, o3), (d2, o2), (d1, o1), (R, W.listOf (rv : List Value).toArray kr), (Wk, W.listOf (wv : List Value).toArray kw)]
/-- between the turns of its inner loop -/
noncomputable def JK (low : Int) (R Wk ax d1 d2 d3 d4 d5 d6 I : Addr) (oa o1 o2 o3 o4 o5 o6 oI : Obj) (j : Nat) (tp ts : Tok) (i : Nat) (m : Str → Option Value) (news : List (Addr × Obj)) : Prop :=
  ∃ rv wv kr kw, m (Str.ofString "ring") = some (.ref R) ∧ m (Str.ofString "walker") = some (.ref Wk) ∧ m (Str.ofString "part") = some (.int (prtN j) tp) ∧ m (Str.ofString "step") = some (.int (stpN j) ts) ∧ IntsAre rv (rgF low (2 * j + i)) ∧ IntsAre wv (wnF low (2 * j + i)) ∧
    news = [(I, oI), (ax, oa), (d6, o6), (d5, o5), (d4, o4), (d3, o3), (d2, o2), (d1, o1), (R, W.listOf (rv : List Value).toArray kr), (Wk, W.listOf (wv : List Value).toArray kw)]

theorem c_ring (w : World) (low : Int) (h0 : 0 ≤ low) (h2 : low ≤ 2) (t1 : Tok) :
    Con w 63 2 [.int low t1] (fun _ => True) (ListI (ringB.map (31 * low + ·))) := by
  unfold Con
  k_fill
  w_top off
  intro loose mean mg mb dp un gd cn cs a ccd cl outer A₀ base h₀ L m s Q E B F X T hk hd' hu hP hret
  walk_at "MY enter"
  intro g' L' h' hg' F' N' B' X' T'
  generalize hm0 : (fun _ => _) = m0 at F'
  have n1 : m0 (Str.ofString "low") = some (.int low t1) := by rw [← hm0]; rfl
  clear hm0
  (try dsimp only)
  (try k_fold)
  k_steps
  (rename Fr _ _ _ _ => F1)
  (rename News _ _ _ _ => N1)
  unfold Rest
  refine iter_tup rfl F1 N1 (.head _) ?_ (JO low _ _ _ _ _ _ _ _ _ _ _ _ _ _ _ _) ?_ ⟨[], _, _, _, rfl, rfl, .nil, ?hw, rfl⟩ ?_ ?_ (by passes_own)
  case hw =>
    show IntsAre _ [low + 2, low + 0, low + 0]
    exact ints_cons rfl (ints_cons (by omega) (ints_cons (by omega) .nil))
  · intro v hv
    simp only [List.mem_cons, List.not_mem_nil, or_false] at hv
    rcases hv with rfl | rfl | rfl | rfl | rfl | rfl <;> exact ⟨_, rfl⟩
  · rintro i m' news' ⟨rv, wv, kr, kw, -, -, -, -, rfl⟩
    exact .head _
  · rintro j v m₁ news₁ Io h₁ tk₁ oIo hj hv ⟨rv, wv, kr, kw, e1, e2, hI, hW, rfl⟩ hnI F₁ N₁
    have hj6 : j < 6 := hj
    simp only [List.mem_cons, List.not_mem_nil, or_false, forall_eq_or_imp, forall_eq] at hnI
    obtain ⟨j1, j2, j3, j4, j5, j6, j7, j8, j9⟩ := hnI
    replace j1 : NeF _ _ := j1
    replace j2 : NeF _ _ := j2
    replace j3 : NeF _ _ := j3
    replace j4 : NeF _ _ := j4
    replace j5 : NeF _ _ := j5
    replace j6 : NeF _ _ := j6
    replace j7 : NeF _ _ := j7
    replace j8 : NeF _ _ := j8
    replace j9 : NeF _ _ := j9
    replace F₁ : Fr g' L' h₁ m₁ := F₁
    replace N₁ : News g' L' h₁ _ := N₁
    clear F1 N1
    have hT : ∃ T tA tB, v = .ref T ∧ IsTup h₁ T #[.int (prtN j) tA, .int (stpN j) tB] := by
      have hc : j = 0 ∨ j = 1 ∨ j = 2 ∨ j = 3 ∨ j = 4 ∨ j = 5 := by omega
      rcases hc with rfl | rfl | rfl | rfl | rfl | rfl
      · have hv' : some (Value.ref _) = some v := hv
        cases hv'
        exact ⟨_, _, _, rfl, News.isTup N₁ (.tail _ (.tail _ (.tail _ (.tail _ (.tail _ (.tail _ (.tail _ (.head _))))))))⟩
      · have hv' : some (Value.ref _) = some v := hv
        cases hv'
        exact ⟨_, _, _, rfl, News.isTup N₁ (.tail _ (.tail _ (.tail _ (.tail _ (.tail _ (.tail _ (.head _)))))))⟩
      · have hv' : some (Value.ref _) = some v := hv
        cases hv'
        exact ⟨_, _, _, rfl, News.isTup N₁ (.tail _ (.tail _ (.tail _ (.tail _ (.tail _ (.head _))))))⟩
      · have hv' : some (Value.ref _) = some v := hv
        cases hv'
        exact ⟨_, _, _, rfl, News.isTup N₁ (.tail _ (.tail _ (.tail _ (.tail _ (.head _)))))⟩
      · have hv' : some (Value.ref _) = some v := hv
        cases hv'
        exact ⟨_, _, _, rfl, News.isTup N₁ (.tail _ (.tail _ (.tail _ (.head _))))⟩
      · have hv' : some (Value.ref _) = some v := hv
        cases hv'
        exact ⟨_, _, _, rfl, News.isTup N₁ (.tail _ (.tail _ (.head _)))⟩
    obtain ⟨T, tA, tB, rfl, hT⟩ := hT
    clear hv
    obtain ⟨p0, p1⟩ := prt_in hj6
    (try k_fold)
    k_steps
    (rename Fr _ _ _ _ => F2)
    (rename News _ _ _ _ => N2)
    (rename IsRange _ _ _ _ _ _ _ _ => R2)
    clear hT
    unfold Rest
    refine iter_rng (n := 2) rfl R2 rfl (by decide) F2 N2 (JK low _ _ _ _ _ _ _ _ _ _ _ _ _ _ _ _ _ _ j tA tB) ⟨rv, wv, kr, kw, e1, e2, rfl, rfl, hI, hW, rfl⟩ ?_ ?_ (by passes_own)
    · rintro i ti m₂ news₂ I h₂ tk₂ oI hi ⟨rv, wv, kr, kw, e1, e2, e3, e4, hI, hW, rfl⟩ hnI F₂ N₂
      simp only [List.mem_cons, List.not_mem_nil, or_false, forall_eq_or_imp, forall_eq] at hnI
      obtain ⟨i1, i2, i3, i4, i5, i6, i7, i8, i9, i10⟩ := hnI
      replace i1 : NeF _ _ := i1
      replace i2 : NeF _ _ := i2
      replace i3 : NeF _ _ := i3
      replace i4 : NeF _ _ := i4
      replace i5 : NeF _ _ := i5
      replace i6 : NeF _ _ := i6
      replace i7 : NeF _ _ := i7
      replace i8 : NeF _ _ := i8
      replace i9 : NeF _ _ := i9
      replace i10 : NeF _ _ := i10
      replace F₂ : Fr g' L' h₂ m₂ := F₂
      replace N₂ : News g' L' h₂ _ := N₂
      clear F2 N2 R2
      have hk : 2 * j + i < 12 := by omega
      have hlen : rv.length ≤ 12 := by rw [hI.length]; unfold rgF; rw [List.length_map, List.length_range]; omega
      have hw3 := wn_len low hk
      obtain ⟨b0, b1⟩ : 0 ≤ (wnF low (2 * j + i)).getD (0 : Int).toNat 0 ∧ (wnF low (2 * j + i)).getD (0 : Int).toNat 0 ≤ 4 := wn_in h0 h2 hk (by decide)
      obtain ⟨b2, b3⟩ : 0 ≤ (wnF low (2 * j + i)).getD (1 : Int).toNat 0 ∧ (wnF low (2 * j + i)).getD (1 : Int).toNat 0 ≤ 4 := wn_in h0 h2 hk (by decide)
      (try k_fold)
      k_steps
      (rename Fr _ _ _ _ => F₃)
      (rename News _ _ _ _ => N₃)
      (try rw [List.push_toArray] at N₃)
      (rename IntsAre (List.set _ _ _) _ => hW')
      rw [wn_set low hj6 hi] at hW'
      refine stepG [] F₃ N₃ ?_ ⟨_, _, _, _, e1, e2, e3, e4, rg_snoc hI (wn_val low hk), hW', rfl⟩
      intro p hp
      simp only [List.mem_cons, List.not_mem_nil, or_false] at hp
      rcases hp with rfl | rfl | rfl | rfl | rfl | rfl | rfl | rfl | rfl | rfl
      · exact i1
      · exact i2
      · exact i3
      · exact i4
      · exact i5
      · exact i6
      · exact i7
      · exact i8
      · exact i9
      · exact i10
    · rintro h₂ tk₂ m₂ news₂ ⟨rv, wv, kr, kw, e1, e2, e3, e4, hI, hW, rfl⟩ F₂ N₂
      replace F₂ : Fr g' L' h₂ m₂ := F₂
      replace N₂ : News g' L' h₂ _ := N₂
      clear F2 N2 R2
      dsimp only
      (try k_fold)
      k_steps
      refine stepG [] F₂ N₂ ?_ ⟨_, _, _, _, e1, e2, hI, hW, rfl⟩
      intro p hp
      simp only [List.mem_cons, List.not_mem_nil, or_false] at hp
      rcases hp with rfl | rfl | rfl | rfl | rfl | rfl | rfl | rfl | rfl
      · exact j1
      · exact j2
      · exact j3
      · exact j4
      · exact j5
      · exact j6
      · exact j7
      · exact j8
      · exact j9
  · rintro h₁ tk₁ m₁ news₁ ⟨rv, wv, kr, kw, e1, e2, hI, hW, rfl⟩ F₁ N₁
    replace F₁ : Fr g' L' h₁ m₁ := F₁
    replace N₁ : News g' L' h₁ _ := N₁
    clear F1 N1
    dsimp only
    (try k_fold)
    k_steps
    (try dsimp only)
    (try k_unfold)
    (try dsimp only)
    refine endL (by k_asm) (by k_asm) (by k_mem) ?_
    intro hs' hn'
    subst hg'
    exact hret _ _ _ _ ⟨_, _, _, rfl, rfl, hI⟩ hs' hn'
end

section -- D3h
open PySem PySem.W PyProof.Rows PySem.Flt
set_option maxRecDepth 100000
set_option maxHeartbeats 8000000
section
variable {M : Model} {A : Around} {E : Value → Shared → Prop} {s : Shared} {h₁ : Heap} {C c : Addr} {m : Str → Option Value} {env : Env} {scope : Scope} {cl : List (Str × Addr)} {x : Str} {pos : Pos} {v : Value} {o : Obj} {Q : Value → Shared → Prop}
theorem nameC_L (F : Fr h₁ C s.heap m) (hv : m x = some v) (h : Q v s) (hk : (compEnvC scope cl C env).scope.kind = .function) (hx : (compEnvC scope cl C env).kindOf x = some .local) (hd : (x == ("__debug__" : Str)) = false) :
    wpAny M A (eval (.Name x pos) (compEnvC scope cl C env)) Q E s := wpAny_Name (wpAny_loadName_local hk hx F.ns hv h) hd
theorem nameC_C (F : Fr h₁ C s.heap m) (hc : cl.lookup x = some c) (hg : h₁.get? c = some o) (hd : o.data = .cell (some v)) (h : Q v s) (hk : (compEnvC scope cl C env).scope.kind = .function) (hx : (compEnvC scope cl C env).kindOf x = some .cell) (hb : (x == ("__debug__" : Str)) = false) :
    wpAny M A (eval (.Name x pos) (compEnvC scope cl C env)) Q E s := wpAny_Name (wpAny_loadName_cell hk hx hc ⟨o, F.keep _ _ hg, hd⟩ h) hb
end
end

section
local macro_rules | `(tactic| walk_at "eval Name") => `(tactic| ((with_reducible show wpAny _ _ (eval (Expr.Name _ _) (compEnvC _ _ _ _)) _ _ _); k_dflt (first
  | (refine' nameC_L ?F ?v ?_ ?a ?b ?d; (case F => k_asm); (case a | b => rfl); (case d => decide); (case v => assumption))
  | (refine' nameC_C ?F ?c ?g ?d ?_ ?a ?b ?e; (case F => k_asm); (case a | b => rfl); (case e => decide); (case c => rfl); (case g | d => assumption)))))
local macro_rules | `(tactic| walk_at "binaryOp Pow int int") => `(tactic| (refine pow_int_small ?kb1 ?kb2 ?kb3 ?_; (case kb1 | kb2 | kb3 => omega)))
local macro_rules | `(tactic| walk_at "binaryOp FloorDiv int int") => `(tactic| (refine floordiv_int ?kb1 ?_ ?kb2; (case kb1 => omega); (case kb2 => exact Or.inl (PyProof.noPylong_small (by omega)))))
local macro_rules | `(tactic| walk_at "binaryOp Mod int int") => `(tactic| (refine mod_int' ?kb1 ?_; (case kb1 => omega)))
local macro_rules | `(tactic| walk_at "subscriptTail Name") => `(tactic| ((with_reducible show wpAny _ _ (subscriptTail _ _ (Value.ref _) (Value.int _ _)) _ _ _); (with_unfolding_all refine' item_list_ints ?k1 ?k2 ?k3 ?k4 ?k5 ?_ ?k6 ?k7; (case k1 => is_list); (case k2 => assumption); (case k3 | k4 | k5 => omega); (case k6 => with_unfolding_all rfl); (case k7 => intro _; with_unfolding_all rfl)); intro _))
local macro_rules | `(tactic| walk_at "exec Assign cons ListComp") => `(tactic| (k_dflt (refine' compA ?hh ?hsw ?hL ?hclos ?hcell ?hkind ?hnames ?hx ?hy ?hp ?hF ?_ ?hs; (case hh => exact rfl); (case hsw => with_unfolding_all rfl); (case hL => exact rfl); (case hclos => with_unfolding_all rfl); (case hcell => decide); (case hkind => exact rfl); (case hnames => decide); (case hx | hy | hp => exact rfl); (case hF => k_asm); (case hs => intro _; with_unfolding_all rfl))))
local macro_rules | `(tactic| walk_at "eval ListComp") => `(tactic| (k_dflt (refine' compE ?hh ?hclos ?hcell ?hkind ?hnames ?hx ?hF ?_ ?hs; (case hh => exact rfl); (case hclos => with_unfolding_all rfl); (case hcell => decide); (case hkind => exact rfl); (case hnames => decide); (case hx => exact rfl); (case hF => k_asm); (case hs => intro _; with_unfolding_all rfl))))
local macro_rules | `(tactic| walk_at "MY enterC") => `(tactic| (refine wpAny_call ?_; k_dflt (refine' code_frC ?k1 ?k2 ?k3 ?k5 ?kA ?kF ?kK ?k6 ?k7 ?k8 ?k9 ?kB ?kD ?_ ?c2 ?c3 ?c4; (case kA | kF => exact rfl); (case kK => assumption); (case k1 | k2 | k3 | k5 => k_asm); (case k6 | k7 => k_is); (case k8 => ktr_room); (case k9 => exact BindsTo.of_eq rfl); (case kB => exact rfl); (case kD => decide +kernel); (case c2 | c3 | c4 => exact rfl); k_whole)))
section -- D3x
open PySem PySem.W PyProof.Rows PySem.Flt
set_option maxRecDepth 100000
set_option maxHeartbeats 8000000


noncomputable abbrev lenI (l : List Int) : Int := (l.length : Int)
noncomputable def figF (c : Int) (i : Nat) (p : Nat) : Int := ((i : Int).fdiv (c ^ p)).fmod c
noncomputable def plcF (row turns : List Int) (r : Int) (i : Nat) : Int := row.getD ((i : Int).fdiv (lenI turns ^ r.toNat)).toNat 0 + ((List.range r.toNat).map (fun p => turns.getD (figF (lenI turns) i p).toNat 0)).sum
noncomputable def sgnF (lt : Str) (row turns : List Int) (r : Int) (i : Nat) : Str := Txt.item lt ((plcF row turns r i).fmod 12)
theorem powB (c : Int) (e : Nat) (h1 : 1 ≤ c) (h3 : c ≤ 3) (he : e ≤ 3) : 1 ≤ c ^ e ∧ c ^ e ≤ 27 := by
  have hc : c = 1 ∨ c = 2 ∨ c = 3 := by omega
  have he' : e = 0 ∨ e = 1 ∨ e = 2 ∨ e = 3 := by omega
  rcases hc with rfl | rfl | rfl <;> rcases he' with rfl | rfl | rfl | rfl <;> decide
theorem idx0 {i : Nat} {p : Int} (hp : 1 ≤ p) : 0 ≤ (i : Int).fdiv p := Int.fdiv_nonneg (by omega) (by omega)
theorem idx1 {i : Nat} {a p : Int} (hp : 1 ≤ p) (h : i < (a * p).toNat) : (i : Int).fdiv p < a := by
  rw [Int.fdiv_eq_ediv_of_nonneg _ (by omega)]
  refine Int.ediv_lt_of_lt_mul (by omega) ?_
  omega
theorem fig_in {turns : List Int} {i : Nat} {n : Nat} {k : Int} (c1 : 1 ≤ turns.length) (h : k ∈ (List.range n).map (figF (lenI turns) i)) : 0 ≤ k ∧ k < (turns.length : Int) := by
  obtain ⟨p, _, rfl⟩ := List.mem_map.mp h
  have hc : (0 : Int) < lenI turns := by show (0 : Int) < (turns.length : Int); omega
  exact ⟨Int.fmod_nonneg_of_pos _ hc, Int.fmod_lt_of_pos _ hc⟩
noncomputable def JD (aR : Addr) (r : Int) (tr : Tok) (lt : Str) (S L' : Addr) (oC oT : Obj) (row turns : List Int) (i : Nat) (m : Str → Option Value) (news : List (Addr × Obj)) : Prop :=
  ∃ tl oN x sv k, m (Str.ofString "row") = some (.ref aR) ∧ m (Str.ofString "rounds") = some (.int r tr) ∧ m (Str.ofString "letters") = some (.str lt tl) ∧ m (Str.ofString "signs") = some (.ref S) ∧
    news = [(S, W.listOf (sv : List Value).toArray k), (L' + 1 + 1 + 1, oN), (L' + 1 + 1, oC), (L' + 1, oT)] ∧ oN.data = .cell x ∧ StrsAre sv ((List.range i).map (sgnF lt row turns r))

noncomputable def ltF (r : Int) : Str := if r.fmod 2 = 1 then Str.ofString "ABCDEFGHIJKL" else Str.ofString "abcdefghijkl"
noncomputable def dueN (row turns : List Int) (r : Int) : Nat := (lenI row * lenI turns ^ r.toNat).toNat
noncomputable def dueF (row turns : List Int) (r : Int) : Str := Txt.join (Str.ofString "") ((List.range (dueN row turns r)).map (sgnF (ltF r) row turns r))
theorem strs_snoc : ∀ {vs : List Value} {ys : List Str} {x y : Str} {t : Tok}, StrsAre vs ys → x = y → StrsAre (vs ++ [.str x t]) (ys ++ [y])
  | _, _, _, _, _, .nil, e => by subst e; exact .cons _ _ .nil
  | _, _, _, _, _, .cons y t H, e => .cons y t (strs_snoc H e)
theorem dueB {row turns : List Int} {r : Int} (r0 : 0 ≤ r) (r3 : r ≤ 3) (c1 : 1 ≤ turns.length) (c3 : turns.length ≤ 3) (w2 : row.length ≤ 2) : (0 : Int) ≤ lenI row * lenI turns ^ r.toNat ∧ lenI row * lenI turns ^ r.toNat < 1000 := by
  have p := powB (lenI turns) r.toNat (by show (1 : Int) ≤ (turns.length : Int); omega) (by show (turns.length : Int) ≤ 3; omega) (by omega)
  have h0 : 0 ≤ lenI row := by show (0 : Int) ≤ (row.length : Int); omega
  have h2 : lenI row ≤ 2 := by show (row.length : Int) ≤ 2; omega
  generalize lenI turns ^ r.toNat = q at p ⊢
  generalize lenI row = a at h0 h2 ⊢
  have : a = 0 ∨ a = 1 ∨ a = 2 := by omega
  rcases this with rfl | rfl | rfl <;> omega
theorem sum_le_one {ys : List Str} (h : ∀ y ∈ ys, y.length ≤ 1) : (ys.map (·.length)).sum ≤ ys.length := by
  induction ys with
  | nil => simp
  | cons y r ih =>
    have h1 := h y (.head _)
    have h2 := ih fun z hz => h z (.tail _ hz)
    simp only [List.map_cons, List.sum_cons, List.length_cons]
    omega
section
variable {prog : Program} {w : World} {A : Around} {E : Value → Shared → Prop} {s : Shared} {h₀ : Heap} {L D : Addr} {news : List (Addr × Obj)}
theorem join_due {sv : List Value} {k n : Nat} {f : Nat → Str} {t : Tok} {Q : Value → Shared → Prop} (N : News h₀ L s.heap news) (hm : (D, W.listOf sv.toArray k) ∈ news) (hS : StrsAre sv ((List.range n).map f)) (hf : ∀ i, (f i).length ≤ 1) (hn : n < 1000)
    (h : ∀ t' k, Q (.str (Txt.join (Str.ofString "") ((List.range n).map f)) t') { s with toks := k }) : wpAny (model prog w) A (call (.builtin "str.join") [.str (Str.ofString "") t, .ref D]) Q E s := by
  refine join_list (News.isList N hm) (by simpa using hS) ?_ h
  have h1 : (((List.range n).map f).map (·.length)).sum ≤ ((List.range n).map f).length := sum_le_one fun y hy => by obtain ⟨i, _, rfl⟩ := List.mem_map.mp hy; exact hf i
  rw [List.length_map, List.length_range] at h1 ⊢
  have h2 : (Str.ofString "").length = 0 := by decide +kernel
  rw [h2]
  omega
end
theorem stepD {g h' : Heap} {L I D D₂ : Addr} {oI o1 o2 : Obj} {rest : List (Addr × Obj)} {J : (Str → Option Value) → List (Addr × Obj) → Prop} {m' : Str → Option Value} {s : Shared} {tk : Nat}
    (F : Fr g L h' m') (N : News g L h' ((D₂, o2) :: (D, o1) :: (I, oI) :: rest)) (hne : ∀ p ∈ rest, p.1 ≠ I) (hJ : J m' rest) : StepM g L I oI J s .next { s with heap := h', toks := tk } :=
  ⟨rfl, h', tk, m', rest, rfl, F, cb_drop N (fun p hp => .tail _ (.tail _ hp)), hne, hJ⟩
theorem Str1.of {x y : Str} {t : Tok} (e : x = y) : Str1 y (.str x t) [] := ⟨t, by rw [e], rfl⟩
theorem sgn_len (lt : Str) (row turns : List Int) (r : Int) (i : Nat) : (sgnF lt row turns r i).length ≤ 1 := Nat.le_of_eq (len_item _ _)
local macro_rules | `(tactic| walk_at "call builtin:str.join") => `(tactic| ((with_reducible show wpAny _ _ (call (Value.builtin "str.join") [Value.str _ _, Value.ref _]) _ _ _); k_dflt (refine' join_due ?k1 ?k2 ?k3 ?k4 ?k5 ?_; (case k1 => k_asm); (case k2 => k_mem); (case k3 => assumption); (case k4 => exact sgn_len _ _ _ _); (case k5 => omega)); intro t' k'; (try dsimp only)))

theorem c_due (w : World) (aR aT : Addr) (rv tv : List Value) (row turns : List Int) (r : Int) (tr : Tok) (hR : IntsAre rv row) (hT : IntsAre tv turns) (r0 : 0 ≤ r) (r3 : r ≤ 3) (c1 : 1 ≤ turns.length) (c3 : turns.length ≤ 3) (w2 : row.length ≤ 2) :
    Con w 80 3 [.ref aR, .ref aT, .int r tr] (fun h => h.IsList aR rv.toArray ∧ h.IsList aT tv.toArray) (Str1 (dueF row turns r)) := by
  unfold Con
  k_fill
  w_top off
  intro loose mean mg mb dp un gd cn cs a ccd cl outer A₀ base h₀ L m s Q E B F X T hk hd' hu hP hret
  walk_at "MY enterC"
  intro g' L' h' tk cells hg' F' N' Y' B' X' T'
  obtain ⟨o1, o2, o3, hE, d1, d2, d3⟩ := CellsAre.three Y'
  subst hE
  have d1 : o1.data = .cell none := d1
  have d2 : o2.data = .cell none := d2
  have d3 : o3.data = .cell (some (.ref aT)) := d3
  generalize hm0 : bindL _ _ _ = m0 at F'
  have n1 : m0 (Str.ofString "row") = some (.ref aR) := by rw [← hm0]; rfl
  have n2 : m0 (Str.ofString "rounds") = some (.int r tr) := by rw [← hm0]; rfl
  clear hm0 Y'
  (try dsimp only [List.cons_append, List.nil_append] at N')
  (try k_fold)
  obtain ⟨p1, p2⟩ := hP
  rw [← hg'] at p1 p2
  have hb := dueB r0 r3 c1 c3 w2
  k_steps
  all_goals (refine wpAny_For ?_ (fun _ => rfl))
  all_goals k_steps
  all_goals (
    (rename Fr _ _ _ _ => Fz)
    (rename News _ _ _ _ => Nz)
    (rename IsRange _ _ _ _ _ _ _ _ => Rz)
    refine iter_rng (n := dueN row turns r) rfl Rz (Int.toNat_of_nonneg hb.1).symm (by show (lenI row * lenI turns ^ r.toNat).toNat < 1000; omega) Fz Nz (JD aR r tr _ _ L' _ o3 row turns) ⟨_, o1, _, [], 0, n1, n2, rfl, rfl, rfl, d1, .nil⟩ ?_ ?_ (by passes_own)
    · rintro i ti m₁ news₁ I h₁ tk₁ oI hi ⟨tl, oN, x, sv, k, e1, e2, e3, e4, rfl, dN, hS⟩ hnI F₁ N₁
      simp only [List.mem_cons, List.not_mem_nil, or_false, forall_eq_or_imp, forall_eq] at hnI
      obtain ⟨hI1, hI2, hI3, hI4⟩ := hnI
      replace hI1 := neN hI1
      replace hI2 := neN hI2
      replace hI3 := neN hI3
      replace hI4 := neN hI4
      replace F₁ : Fr g' L' h₁ m₁ := F₁
      replace N₁ : News g' L' h₁ _ := N₁
      clear Fz Nz
      have pwr := powB (turns.length : Int) r.toNat (by omega) (by omega) (by omega)
      have hx0 : 0 ≤ (i : Int).fdiv ((turns.length : Int) ^ r.toNat) := idx0 pwr.1
      have hx1 : (i : Int).fdiv ((turns.length : Int) ^ r.toNat) < (row.length : Int) := idx1 pwr.1 hi
      have hi2 : i < 1000 := by unfold dueN at hi; omega
      have hsv : sv.length = i := by rw [hS.length, List.length_map, List.length_range]
      (try k_fold)
      k_steps
      (rename Fr _ _ _ _ => F₂)
      (rename News _ _ _ _ => N₂)
      (rename IsRange _ _ _ _ _ _ _ _ => R₂)
      have gN := News.get N₂ (a := L' + 1 + 1 + 1) (by k_mem)
      have gC := News.get N₂ (a := L' + 1 + 1) (by k_mem)
      refine CompAt.rng (n := r.toNat) (figF (lenI turns) i) R₂ (by omega) (by omega) F₂ N₂ ?_ ?_
      · intro C p tp s₂ m₂ E' hp FC NC hm
        have pwp := powB (turns.length : Int) (p : Int).toNat (by omega) (by omega) (by omega)
        k_steps
        exact GotI.to (by unfold figF; simp only [Int.toNat_natCast]) fun _ _ e => e
      · intro D ys k₂ h₂ tk₂ hys F₃ N₃ hD
        simp only [List.mem_cons, List.not_mem_nil, or_false, forall_eq_or_imp, forall_eq] at hD
        obtain ⟨hD1, hD2, hD3, hD4, hD5⟩ := hD
        replace hD1 := neN hD1
        replace hD2 := neN hD2
        replace hD3 := neN hD3
        replace hD4 := neN hD4
        replace hD5 := neN hD5
        replace F₃ : Fr g' L' h₂ _ := F₃
        replace N₃ : News g' L' h₂ _ := N₃
        k_steps
        (rename Fr _ _ _ _ => F₄)
        (rename News _ _ _ _ => N₄)
        have gT := News.get N₄ (a := L' + 1) (by k_mem)
        have gD := News.isList N₄ (a := D) (by k_mem)
        refine CompAt.lst (fun k => turns.getD k.toNat 0) gD hys (by rw [List.length_map, List.length_range]; omega) F₄ N₄ ?_ ?_
        · intro C p tp s₂ m₂ E' hp FC NC hm
          obtain ⟨hp0, hp1⟩ := fig_in c1 hp
          have pT := p2.at fun o e => FC.keep _ o (F₄.keep _ o e)
          k_steps
          exact GotI.to rfl fun _ _ e => e
        · intro D₂ ys₂ k₃ h₃ tk₃ hys₂ F₅ N₅ hD'
          simp only [List.mem_cons, List.not_mem_nil, or_false, forall_eq_or_imp, forall_eq] at hD'
          obtain ⟨q1, q2, q3, q4, q5, q6⟩ := hD'
          replace q1 := neN q1
          replace q2 := neN q2
          replace q3 := neN q3
          replace q4 := neN q4
          replace q5 := neN q5
          replace q6 := neN q6
          replace F₅ : Fr g' L' h₃ _ := F₅
          replace N₅ : News g' L' h₃ _ := N₅
          k_steps
          (rename Fr _ _ _ _ => F₆)
          (rename News _ _ _ _ => N₆)
          rw [List.push_toArray] at N₆
          refine stepD F₆ N₆ ?_ ⟨tl, _, _, _, k + 1, e1, e2, e3, e4, rfl, by assumption, ?_⟩
          · intro p hp
            simp only [List.mem_cons, List.not_mem_nil, or_false] at hp
            rcases hp with rfl | rfl | rfl | rfl
            · exact hI1
            · exact hI2
            · exact hI3
            · exact hI4
          · rw [List.range_succ, List.map_append, List.map_singleton]
            exact strs_snoc hS (by unfold sgnF plcF; rw [List.map_map]; rfl)
    · rintro h₁ tk₁ m₁ news₁ ⟨tl, oN, x, sv, k, e1, e2, e3, e4, rfl, dN, hS⟩ F₁ N₁
      replace F₁ : Fr g' L' h₁ m₁ := F₁
      replace N₁ : News g' L' h₁ _ := N₁
      have hn : dueN row turns r < 1000 := by unfold dueN; omega
      clear Fz Nz
      dsimp only
      k_steps
      (try dsimp only)
      (try k_unfold)
      (try dsimp only)
      refine end0 (by k_asm) ?_
      intro hs' hn'
      subst hg'
      refine hret _ _ _ _ (Str1.of ?_) hs' hn'
      unfold dueF ltF
      first
        | rw [if_pos (by assumption)]
        | rw [if_neg (by assumption)])
end

section -- Rnd0
open PySem PySem.W PyProof.Rows PySem.Flt PySem.Calls
set_option maxRecDepth 100000
set_option maxHeartbeats 2000000

theorem low_cases {low : Int} (h0 : 0 ≤ low) (h2 : low ≤ 2) : ∃ l : Nat, l < 3 ∧ low = (l : Int) := ⟨low.toNat, by omega, by omega⟩
theorem ringF_B (l : Int) (k : Nat) (hk : k < 12) (h0 : 0 ≤ l) (h2 : l ≤ 2) : 0 ≤ ringF l k ∧ ringF l k < 125 := by
  have : 2 ≤ ringB.getD (k % 12) 0 ∧ ringB.getD (k % 12) 0 ≤ 60 := by
    have := Nat.mod_lt k (show 0 < 12 by decide)
    generalize k % 12 = j at this
    have : j = 0 ∨ j = 1 ∨ j = 2 ∨ j = 3 ∨ j = 4 ∨ j = 5 ∨ j = 6 ∨ j = 7 ∨ j = 8 ∨ j = 9 ∨ j = 10 ∨ j = 11 := by omega
    rcases this with rfl | rfl | rfl | rfl | rfl | rfl | rfl | rfl | rfl | rfl | rfl | rfl <;> decide
  unfold ringF
  omega

/-- the turned colour, by either road -/
theorem c_turned (w : World) (low : Int) (k : Nat) (turn : Int) (b : Bool) (t1 t2 : Tok) (h0 : 0 ≤ low) (h2 : low ≤ 2) (hk : k < 12) (q0 : 0 ≤ turn) (q1 : turn < 12) :
    Con w 70 3 [.int (ringF low k) t1, .int turn t2, .bool b] (fun _ => True) (Int1 (ringF low (k + turn.toNat))) := by
  obtain ⟨l, hl, rfl⟩ := low_cases h0 h2
  obtain ⟨t, rfl⟩ : ∃ t : Nat, turn = (t : Int) := ⟨turn.toNat, by omega⟩
  have hB := ringF_B (l : Int) k hk h0 h2
  have ht : t < 12 := by omega
  rw [Int.toNat_natCast]
  cases b with
  | false =>
    obtain ⟨a, e⟩ := tabV l k t hl hk ht
    rw [← e]
    exact c_tv w _ _ t1 t2 hB.1 hB.2 q0 q1 a
  | true =>
    obtain ⟨a, e⟩ := tabH l k t hl hk ht
    rw [← e]
    exact c_th w _ _ t1 t2 hB.1 hB.2 q0 q1 a
end

section -- Rnd1
open PySem PySem.W PyProof.Rows PySem.Flt PySem.Calls PySem.Spec PyProof.V
set_option maxRecDepth 100000
set_option maxHeartbeats 2000000

/-- a dict of ints to texts, as a comprehension over a range made it -/
noncomputable def IsTab (prog : Program) (w : World) (kf : Int → Int) (vf : Int → Str) (n : Nat) (o : Obj) : Prop :=
  ∃ kvs, o.IsDictOf (intKind prog w) kvs ∧ FlatPairs PyData.int kvs (putAll PyData.int kf (fun i => PyData.str (vf i)) ((List.range n).map (fun (i : Nat) => (i : Int))))

theorem leN {a b : Nat} (h : a ≤ b) : a ≤ b := h
theorem eqN {a b : Nat} (h : a = b) : a = b := h
noncomputable def KeyOk (x : Int) (s₂ : Shared) (y : Value) (s₃ : Shared) : Prop := GotI x s₂ y s₃

section
variable {prog : Program} {w : World} {A : Around} {s : Shared} {env : Env} {h₀ : Heap} {E : Value → Shared → Prop} {L : Addr} {m : Str → Option Value} {news : List (Addr × Obj)}
noncomputable def DCompAt (prog : Program) (w : World) (A : Around) (env : Env) (scope : Scope) (cl : List (Str × Addr)) (x : Str) (kx vx : Expr) (h₀ : Heap) (L : Addr) (m : Str → Option Value) (Q : Value → Shared → Prop) (xv : Value) (s₁ : Shared) : Prop :=
  ∃ (n : Nat) (kf : Int → Int) (vf : Int → Str) (r : Addr) (b : Int) (t u v : Tok) (news : List (Addr × Obj)), xv = .ref r ∧ IsRange s₁.heap r 0 b 1 t u v ∧ b = (n : Int) ∧ n < 1000 ∧ h₀.NoLimit ∧ Fr h₀ L s₁.heap m ∧ News h₀ L s₁.heap news ∧
    (∀ C (i : Nat) t s₂ m₂ E', i < n → Fr s₁.heap C s₂.heap m₂ → News s₁.heap C s₂.heap [] → m₂ x = some (.int (i : Int) t) → wpAny (model prog w) A (eval kx (compEnvC scope cl C env)) (GotI (kf (i : Int)) s₂) E' s₂) ∧
    (∀ C (i : Nat) t s₂ m₂ E', i < n → Fr s₁.heap C s₂.heap m₂ → News s₁.heap C s₂.heap [] → m₂ x = some (.int (i : Int) t) → wpAny (model prog w) A (eval vx (compEnvC scope cl C env)) (GotS (vf (i : Int)) s₂) E' s₂) ∧
    (∀ (D : Addr) (o : Obj) (h' : Heap) (tk : Nat), IsTab prog w kf vf n o → (D == sysModules) = false → Fr h₀ L h' m → News h₀ L h' ((D, o) :: news) → (∀ p ∈ news, p.1 ≠ D) → Q (.ref D) { s₁ with heap := h', toks := tk })

theorem areOf_range {n : Nat} {vs : List Value} (hlen : vs.length = n) (hP : ∀ (j : Nat) v, vs[j]? = some v → j < n ∧ ∃ t, v = .int (j : Int) t) : AreOf .int vs ((List.range n).map (fun (i : Nat) => (i : Int))) := by
  have h := ints_of_all (f := fun i => (i : Int)) (ys := vs) fun i y e => (hP i y e).2
  rw [hlen] at h
  exact h.areOf

/-- the block of a dict comprehension: the dict is the next object, the names' table the one behind it -/
theorem dblock {K : Type} [DecidableEq K] {knd : KeyKind prog w K} {kx vx iter : Expr} {x : Str} {px : Pos} {scope : Scope} {cl : List (Str × Addr)} {pos : Pos} {s₂ : Shared} {I : Addr} {fp wr : List Addr} {n : Nat} {P : Nat → Value → Prop}
    {St : Nat → Heap → Prop} (W : Walks prog w A I fp wr n P St) (hsz : n ≤ sizeLine) (FK : Value → K → Prop) (FV : Value → Value → Prop) {Q : Value → Shared → Prop}
    (hcell : ∀ y ∈ scope.names, y.2 ≠ .cell) (hkind : scope.kind = .function) (hx : scope.names.lookup x = some .local) (hst : St 0 s₂.heap) (hfp : ∀ b ∈ fp, b < s₂.heap.objs.size)
    (hkey : ∀ i v s₃ m₃ E', P i v → s₃.heap.Ns (s₂.heap.objs.size + 1) m₃ → m₃ x = some v → (∀ b o, b ∉ wr → s₂.heap.get? b = some o → s₃.heap.get? b = some o) →
      wpAny (model prog w) A (eval kx (compEnvC scope cl (s₂.heap.objs.size + 1) env)) (fun key s₄ => (∃ k, knd.is k key = true ∧ FK v k) ∧ Keeps s₃ s₄) E' s₃)
    (hval : ∀ i v s₃ m₃ E', P i v → s₃.heap.Ns (s₂.heap.objs.size + 1) m₃ → m₃ x = some v → (∀ b o, b ∉ wr → s₂.heap.get? b = some o → s₃.heap.get? b = some o) →
      wpAny (model prog w) A (eval vx (compEnvC scope cl (s₂.heap.objs.size + 1) env)) (fun y s₄ => FV v y ∧ Keeps s₃ s₄) E' s₃)
    (hQ : ∀ h' tk kvs (vs : List Value), h'.DictOf knd s₂.heap.objs.size kvs → vs.length = n → (∀ j v, vs[j]? = some v → P j v) → StoredAll FK FV vs kvs →
      (∀ b o, b ∉ wr → s₂.heap.get? b = some o → h'.get? b = some o) → Q (.ref s₂.heap.objs.size) { s₂ with heap := h', toks := tk }) :
    wpAny (model prog w) A newDict (fun acc s₃ => wpAny (model prog w) A (newFunctionEnv scope env.globals cl [] env.qual none .none (some env)) (fun cenv s₄ =>
      codeAny (model prog w) A (.compStart (.DictComp kx vx [⟨.Name x px, iter, [], 0⟩] scope pos) 0 (.ref I) acc { cenv with scope := relabel scope env }) (compPost (model prog w) A E none Q acc cenv.locals) s₄) E s₃) E s₂ := by
  have hz1 : (s₂.heap.push { cls := .type "dict", dict := none, data := .dict #[] }).objs.size = s₂.heap.objs.size + 1 := Heap.size_push ..
  refine wpAny_newObj_type (wpAny_newFunctionEnv hcell (by intro y hy; simp at hy) (fun h₁ hns₁ hsb₁ => ?_) hkind)
  have hnew : (s₂.heap.push { cls := .type "dict", dict := none, data := .dict #[] }).DictOf knd s₂.heap.objs.size [] := Heap.DictOf.new s₂.heap
  dsimp only at hns₁ hsb₁ ⊢
  generalize hH : s₂.heap.push { cls := .type "dict", dict := none, data := .dict #[] } = H at hz1 hns₁ hsb₁ hnew ⊢
  rw [hz1] at hns₁ hsb₁ ⊢
  have low : ∀ b o, s₂.heap.get? b = some o → b ≠ s₂.heap.objs.size + 1 ∧ b ≠ s₂.heap.objs.size := fun b o e => ⟨neN (by have := ltN (Heap.lt_size e); omega), neN (by have := ltN (Heap.lt_size e); omega)⟩
  have old : ∀ b o, s₂.heap.get? b = some o → h₁.get? b = some o := fun b o e => hsb₁.extBut b o (low b o e).1 (Heap.get?_push_of_some _ (hH ▸ Heap.get?_push_of_some _ e))
  have hacc : h₁.DictOf knd s₂.heap.objs.size [] := hnew.at fun o e => hsb₁.extBut _ _ (neN (by omega)) (Heap.get?_push_of_some _ e)
  have hst₁ : St 0 h₁ := W.frame _ _ _ hst fun b _ o e => old b o e
  have loop : ∀ s₃ : Shared, s₃ = { s₂ with heap := h₁, toks := s₂.toks + ([] : List (Str × Value)).length } →
      codeAny (model prog w) A (.compLoop (.DictComp kx vx [⟨.Name x px, iter, [], 0⟩] scope pos) 0 (.ref I) (.ref s₂.heap.objs.size) (compEnvC scope cl (s₂.heap.objs.size + 1) env))
        (compPost (model prog w) A E none Q (.ref s₂.heap.objs.size) (s₂.heap.objs.size + 1)) s₃ := by
    rintro s₃ rfl
    refine codeAny_compLoop_walkD (hsz := hsz) (knd := knd) (cenv := compEnvC scope cl (s₂.heap.objs.size + 1) env) W (fun _ => true) FK FV (lookup_relabel_local hx) (by simp [compEnvC, relabel, hkind]) (by show s₂.heap.objs.size ≠ s₂.heap.objs.size + 1; omega)
      (fun hm => Nat.lt_irrefl _ (hfp _ hm)) (fun hm => by have : s₂.heap.objs.size + 1 < s₂.heap.objs.size := hfp _ hm; omega) hst₁ hacc hns₁
      (fun i v s₃ m₃ hv hn hm hk => by simp only [List.forIn_nil]; exact wpAny_pure ⟨rfl, s₃.heap, s₃.toks, rfl, fun _ _ e => e⟩)
      (fun i v s₃ m₃ hv hpv hn hm hk => hkey i v s₃ m₃ _ hv hn hm fun b o hbf e => hk b o (low b o e).1 hbf (low b o e).2 (old b o e))
      (fun i v s₃ m₃ hv hpv hn hm hk => hval i v s₃ m₃ _ hv hn hm fun b o hbf e => hk b o (low b o e).1 hbf (low b o e).2 (old b o e)) fun h' tk m' kvs vs hn ha hlen hP hF hk => ?_
    rw [List.filter_eq_self.mpr (fun _ _ => rfl)] at hF
    refine ⟨m', hn, fun h'' hs'' => hQ h'' tk kvs vs (ha.extBut hs''.extBut (by show s₂.heap.objs.size ≠ s₂.heap.objs.size + 1; omega)) hlen hP hF fun b o hbf e => ?_⟩
    exact hs''.extBut b o (low b o e).1 (hk b o (low b o e).1 hbf (low b o e).2 (old b o e))
  exact codeAny_compStart_dict (loop _ rfl) (W.self 0 _ _ _ hst₁ (loop _ rfl))

theorem dcompE {kx vx iter : Expr} {x : Str} {px : Pos} {scope : Scope} {cl : List (Str × Addr)} {pos : Pos} {Q : Value → Shared → Prop} (hh : A.handled = none)
    (hclos : closureFor scope env = pure cl) (hcell : ∀ y ∈ scope.names, y.2 ≠ .cell) (hkind : scope.kind = .function)
    (hnames : ∀ y ∈ scope.names, y.2 = .local → scope.names.lookup y.1 = some .local) (hx : scope.names.lookup x = some .local)
    (_F : Fr h₀ L s.heap m)
    (h : wpAny (model prog w) A (eval iter env) (DCompAt prog w A env scope cl x kx vx h₀ L m Q) E s)
    (hs : ∀ x, foldedSetIterable iter env x = pure x) :
    wpAny (model prog w) A (eval (.DictComp kx vx [⟨.Name x px, iter, [], 0⟩] scope pos) env) Q E s := by
  rw [arm_eval_DictComp]
  refine wpAny_comprehension_free (use := none) rfl hs hclos hkind hnames (wpAny_mono h (fun xv s₁ h₁ => ?_) fun _ _ e => e)
  obtain ⟨n, kf, vf, r, b, t, u, v, news, rfl, R, hb, hz, hlim, F, N, hkey, hval, hQ⟩ := h₁
  refine (Src.range R hb hz).iter hh fun fp St o W hfp hlive hfr hst => ?_
  have hz' : n ≤ sizeLine := Nat.le_trans (Nat.le_of_lt hz) (by decide)
  have hfp' : ∀ b ∈ fp, b < (s₁.heap.push o).objs.size := fun b hb => by
    rw [Heap.size_push]
    rcases hfp b hb with rfl | ⟨o', e⟩
    · exact Nat.lt_succ_self _
    · exact Nat.lt_succ_of_lt (Heap.lt_size e)
  have up : ∀ (s₃ : Shared), (∀ b o', b ∉ [s₁.heap.objs.size] → (s₁.heap.push o).get? b = some o' → s₃.heap.get? b = some o') → ∀ b o', s₁.heap.get? b = some o' → s₃.heap.get? b = some o' :=
    fun s₃ hk b o' e => hk b o' (fun hm => by rw [List.mem_singleton.mp hm] at e; exact Nat.lt_irrefl _ (Heap.lt_size e)) (Heap.get?_push_of_some _ e)
  have hCl : s₁.heap.objs.size ≤ (s₁.heap.push o).objs.size + 1 := by rw [Heap.size_push]; omega
  refine dblock (knd := intKind prog w) (s₂ := { s₁ with heap := s₁.heap.push o }) W hz' (fun v k => ∃ a, ItemKind.int.is a v ∧ k = kf a) (fun v y => ∃ a, ItemKind.int.is a v ∧ Carried y (PyData.str (vf a))) hcell hkind hx hst hfp' ?_ ?_ ?_
  · rintro i v s₃ m₃ E' ⟨hi, t, rfl⟩ hn hm hk
    refine wpAny_mono (hkey _ i t s₃ m₃ E' hi ⟨hn, up s₃ hk, hCl⟩ News.nil hm) (fun y s₄ h₄ => ?_) fun _ _ e => e
    obtain ⟨⟨t', rfl⟩, hk⟩ := h₄
    exact ⟨⟨kf i, intKind_is prog w _ _, (i : Int), ⟨t, rfl⟩, rfl⟩, hk⟩
  · rintro i v s₃ m₃ E' ⟨hi, t, rfl⟩ hn hm hk
    refine wpAny_mono (hval _ i t s₃ m₃ E' hi ⟨hn, up s₃ hk, hCl⟩ News.nil hm) (fun y s₄ h₄ => ?_) fun _ _ e => e
    obtain ⟨⟨t', rfl⟩, hk⟩ := h₄
    exact ⟨⟨(i : Int), ⟨t, rfl⟩, .str _ _⟩, hk⟩
  · intro h' tk kvs vs hl hlen hP hF hk
    have keep : ∀ b o', s₁.heap.get? b = some o' → h'.get? b = some o' := up { s₁ with heap := h' } hk
    have hzD : (s₁.heap.push o).objs.size = s₁.heap.objs.size + 1 := Heap.size_push ..
    have hD1 : s₁.heap.get? (s₁.heap.push o).objs.size = none := by
      cases e : s₁.heap.get? (s₁.heap.push o).objs.size with
      | none => rfl
      | some o' => have := ltN (Heap.lt_size e); omega
    obtain ⟨oD, hoD, hdD⟩ := Heap.dictOf_iff.mp hl
    refine hQ _ oD h' tk ⟨kvs, hdD, storedAll_flat same_int hF _ (areOf_range hlen hP)⟩ ?_ (F.grownK keep) ?_ ?_
    · have h1 := ltN (modules_low hlim)
      have h2 := leN F.above
      have h3 := ltN F.ns.lt
      refine beq_eq_false_iff_ne.mpr (neN ?_)
      dsimp only
      omega
    · intro p hp
      rcases List.mem_cons.mp hp with rfl | hp
      · refine ⟨hoD, fun e => ?_, ?_⟩
        · have h3 := ltN F.ns.lt
          have := eqN e
          dsimp only at this
          omega
        · cases e : h₀.get? (s₁.heap.push o).objs.size with
          | none => rfl
          | some o' => rw [F.keep _ _ e] at hD1; cases hD1
      · exact ⟨keep _ _ (N p hp).1, (N p hp).2⟩
    · intro p hp e
      have := (N p hp).1
      rw [e] at this
      rw [hD1] at this; cases this
end
end

section -- Rnd2
open PySem PySem.W PyProof.Rows PySem.Flt PySem.Calls PySem.Spec PyProof.V
set_option maxRecDepth 100000
set_option maxHeartbeats 2000000

noncomputable abbrev smLt : Str := Str.ofString "abcdefghijkl"
noncomputable abbrev grLt : Str := Str.ofString "ABCDEFGHIJKL"
noncomputable def kfR (low : Int) (j : Int) : Int := ringF low j.toNat
noncomputable def vfR (lt : Str) (j : Int) : Str := Txt.item lt ((j.toNat % 12 : Nat) : Int)
noncomputable def letN (lt : Str) (k : Nat) : Str := Txt.item lt ((k % 12 : Nat) : Int)
/-- the place of a colour on the ring -/
noncomputable def posR (low n : Int) : Nat := ringB.idxOf (n - 31 * low)
theorem ringB_pos : ∀ j, j < 12 → ringB.idxOf (ringB.getD j 0) = j := by decide
theorem posR_ring (low : Int) (k : Nat) : posR low (ringF low k) = k % 12 := by
  unfold posR ringF
  rw [show 31 * low + ringB.getD (k % 12) 0 - 31 * low = ringB.getD (k % 12) 0 by omega]
  exact ringB_pos _ (Nat.mod_lt _ (by decide))
theorem kfR_inj {low a b : Int} (h : kfR low a = kfR low b) : a.toNat % 12 = b.toNat % 12 := by
  have := congrArg (posR low) h
  unfold kfR at this
  rwa [posR_ring, posR_ring] at this
theorem ringF_mod (low : Int) (k : Nat) : ringF low (k % 12) = ringF low k := by unfold ringF; rw [Nat.mod_mod]
theorem look_ring (low : Int) (lt : Str) (k : Nat) : lookup (.int (ringF low k)) (putAll PyData.int (kfR low) (fun i => PyData.str (vfR lt i)) ((List.range 12).map (fun (i : Nat) => (i : Int)))) = some (.str (letN lt k)) := by
  have hk := Nat.mod_lt k (show 0 < 12 by decide)
  have h := lookup_putAll (enc := PyData.int) (kf := kfR low) (d := fun i => PyData.str (vfR lt i)) keyEnc_int (fun a b e => by show PyData.str (vfR lt a) = PyData.str (vfR lt b); unfold vfR; rw [kfR_inj e]) (a := ((k % 12 : Nat) : Int)) ((List.range 12).map (fun (i : Nat) => (i : Int)))
    (List.mem_map.mpr ⟨k % 12, List.mem_range.mpr hk, rfl⟩)
  have e1 : kfR low ((k % 12 : Nat) : Int) = ringF low k := by unfold kfR; rw [Int.toNat_natCast, ringF_mod]
  have e2 : vfR lt ((k % 12 : Nat) : Int) = letN lt k := by unfold vfR letN; rw [Int.toNat_natCast, Nat.mod_mod]
  rw [e1] at h
  simp only [e2] at h
  exact h

section
variable {prog : Program} {w : World} {A : Around} {E : Value → Shared → Prop} {s : Shared} {h₀ : Heap} {L D : Addr} {news : List (Addr × Obj)} {low : Int} {lt : Str} {k : Nat} {t : Tok} {o : Obj}
theorem tab_at {h : Heap} (ho : h.get? D = some o) (T : IsTab prog w (kfR low) (vfR lt) 12 o) (lo : (D == sysModules) = false) :
    IntTab prog w h D (putAll PyData.int (kfR low) (fun i => PyData.str (vfR lt i)) ((List.range 12).map (fun (i : Nat) => (i : Int)))) := by
  obtain ⟨kvs, h1, h2⟩ := T
  exact TabAt.ofObj lo ho h1 h2
theorem tab_item {value slice : Expr} {Q : Value → Shared → Prop} (ho : s.heap.get? D = some o) (T : IsTab prog w (kfR low) (vfR lt) 12 o) (lo : (D == sysModules) = false) (h : ∀ t', Q (.str (letN lt k) t') { s with toks := s.toks + 1 })
    (hs : subscripted slice false (.ref D) (.int (ringF low k) t) = operate [.ref D, .int (ringF low k) t] (getItem (.ref D) (.int (ringF low k) t))) (hg : ∀ r, letTemporaryGo value (.ref D) r = pure ()) :
    wpAny (model prog w) A (subscriptTail value slice (.ref D) (.int (ringF low k) t)) Q E s :=
  item_intTab (tab_at ho T lo) (look_ring low lt k) (fun v hv => by obtain ⟨t', rfl⟩ := hv.str_inv; exact h t') hs hg
theorem tab_meth {pl : Sem Bool} {Q : Value × List Value → Shared → Prop} (ho : s.heap.get? D = some o) (T : IsTab prog w (kfR low) (vfR lt) 12 o) (lo : (D == sysModules) = false) (h : Q (.builtin "dict.get", [.ref D]) s) :
    wpAny (model prog w) A (getMethod (.ref D) "get" pl) Q E s := getMethod_intTab_get (tab_at ho T lo) h
theorem tab_get {x : Str} {u : Tok} {Q : Value → Shared → Prop} (ho : s.heap.get? D = some o) (T : IsTab prog w (kfR low) (vfR lt) 12 o) (lo : (D == sysModules) = false) (h : ∀ t', Q (.str (letN lt k) t') { s with toks := s.toks + 1 }) :
    wpAny (model prog w) A (call (.builtin "dict.get") [.ref D, .int (ringF low k) t, .str x u]) Q E s :=
  call_get2_intTab (tab_at ho T lo) (Flat.str x u) (fun v hv => by rw [look_ring] at hv; obtain ⟨t', rfl⟩ := Flat.str_inv hv; exact h t')
theorem letN_len (lt : Str) (k : Nat) : (letN lt k).length = 1 := len_item _ _
theorem join_few {sv : List Value} {ys : List Str} {Q : Value → Shared → Prop} (hl : s.heap.IsList D sv.toArray) (hS : StrsAre sv ys) (hf : ∀ y ∈ ys, y.length ≤ 1) (hn : ys.length < 1000)
    (h : ∀ t' k, Q (.str (Txt.join (Str.ofString "") ys) t') { s with toks := k }) : wpAny (model prog w) A (call (.builtin "str.join") [.str (Str.ofString "") t, .ref D]) Q E s := by
  refine join_list hl (by simpa using hS) ?_ h
  have h1 := sum_le_one hf
  have h2 : (Str.ofString "").length = 0 := by decide +kernel
  rw [h2]
  omega
theorem ext_few {m : Str → Option Value} {news' : List (Addr × Obj)} {b : Addr} {vs ws : List Value} {n n2 : Nat} {Q : Value → Shared → Prop} (F : Fr h₀ L s.heap m) (N : News h₀ L s.heap news) (hb : (b, W.listOf ws.toArray n2) ∈ news) (hne : ws.length ≠ 0)
    (U : Upd D (W.listOf vs.toArray n) (W.listOf (vs ++ ws).toArray (n + 1)) news news') (hz : vs.length + ws.length ≤ 1000)
    (h : ∀ h', Fr h₀ L h' m → News h₀ L h' news' → Q .none { s with heap := h' }) : wpAny (model prog w) A (call (.builtin "list.extend") [.ref D, .ref b]) Q E s := by
  refine kl_extend (l := vs ++ ws) F N hb rfl hne U ?_ ?_ ?_ h
  · have : Builtin.List.listTooLong (vs.toArray.size + ws.toArray.size) = false := by
      simp only [List.size_toArray]
      unfold Builtin.List.listTooLong
      have h9 := sizeLine_eq
      simp
      omega
    rw [this]; simp
  · show vs.length ≤ sizeLine
    rw [sizeLine_eq]; omega
  · simp only [List.size_toArray]
    rw [sizeLine_eq]; omega
end

theorem CellsAre.five {cm : Str → Option Value} {n₁ n₂ n₃ n₄ n₅ : Str} {c₁ c₂ c₃ c₄ c₅ : Addr} {cells : List (Addr × Obj)} (x : CellsAre cm [(n₁, c₁), (n₂, c₂), (n₃, c₃), (n₄, c₄), (n₅, c₅)] cells) :
    ∃ o₁ o₂ o₃ o₄ o₅, cells = [(c₁, o₁), (c₂, o₂), (c₃, o₃), (c₄, o₄), (c₅, o₅)] ∧ o₁.data = .cell (cm n₁) ∧ o₂.data = .cell (cm n₂) ∧ o₃.data = .cell (cm n₃) ∧ o₄.data = .cell (cm n₄) ∧ o₅.data = .cell (cm n₅) := by
  cases x with | cons h r => obtain ⟨o₂, o₃, o₄, o₅, rfl, h₂, h₃, h₄, h₅⟩ := r.four; exact ⟨_, o₂, o₃, o₄, o₅, rfl, h, h₂, h₃, h₄, h₅⟩

section
variable {prog : Program} {w : World} {A : Around} {s : Shared} {env : Env} {h₀ : Heap} {E : Value → Shared → Prop} {Q : Flow → Shared → Prop}
/-- for x in a list that stood -/
theorem iter_lst {x : Str} {px : Pos} {body : List Stmt} {ax : Addr} {vs : List Value} {m : Str → Option Value} {news : List (Addr × Obj)} (hh : A.handled = none)
    (hl : h₀.IsList ax vs.toArray) (F : Fr h₀ env.locals s.heap m) (N : News h₀ env.locals s.heap news) (J : Nat → (Str → Option Value) → List (Addr × Obj) → Prop) (h0 : J 0 m news)
    (step : ∀ i v m₁ news₁ I h tk o, i < vs.length → vs[i]? = some v → J i m₁ news₁ → (∀ p ∈ news₁, p.1 ≠ I) → Fr h₀ env.locals h m₁ → News h₀ env.locals h ((I, o) :: news₁) →
      wpAny (model prog w) A (storeName env x v) (fun _ s' => wpAny (model prog w) A (execs body env) (StepM h₀ env.locals I o (J (i + 1)) s) E s') E { s with heap := h, toks := tk })
    (done : ∀ h tk m' news', J vs.length m' news' → Fr h₀ env.locals h m' → News h₀ env.locals h news' → Q .next { s with heap := h, toks := tk })
    (hE : PassesOwn (model prog w) A env E) :
    wpAny (model prog w) A (pyIter (.ref ax)) (fun it s₂ => codeAny (model prog w) A (.forLoop (.Name x px) it body [] env) (fun r s' => match r with | .ok f => Q f s' | .error e => cameBackBy (model prog w) A env E e s') s₂) E s := by
  have hls : s.heap.IsList ax vs.toArray := hl.at fun o e => F.keep _ o e
  have hlt : ax < s.heap.objs.size := by obtain ⟨_, e, _⟩ := hls; exact Heap.lt_size e
  refine wpAny_pyIter_list hls ?_
  have W := Walks.list (prog := prog) (w := w) hh s.heap.objs.size ax (Nat.ne_of_lt hlt) vs.toArray
  rw [List.size_toArray] at W
  simp only [List.getElem?_toArray] at W
  have hIn : h₀.get? s.heap.objs.size = none := by
    cases e : h₀.get? s.heap.objs.size with
    | none => rfl
    | some o => exact absurd (Heap.lt_size (F.keep _ _ e)) (Nat.lt_irrefl _)
  refine for_core (s := { s with heap := s.heap.push { cls := .type "list_iterator", data := .fields #[.ref ax, .int 0 0] } }) W (fun b hb => ?_) (Nat.ne_of_lt F.ns.lt) hIn (fun p hp => Nat.ne_of_lt (Heap.lt_size (N p hp).1)) (fun i h st => ?_) ⟨⟨_, Heap.get?_push_size _ rfl, rfl, rfl⟩, hls.push _⟩ (F.push _) (fun p hp => ⟨Heap.get?_push_of_some _ (N p hp).1, (N p hp).2⟩) J h0 ?_ done hE
  · rcases List.mem_cons.mp hb with rfl | hb
    · exact .inl rfl
    · rw [List.mem_singleton.mp hb]; obtain ⟨o, e, _⟩ := hl; exact .inr ⟨o, e⟩
  · obtain ⟨⟨o, e, _⟩, _⟩ := st; exact ⟨o, e⟩
  · intro i v m₁ news₁ h tk o hi hv hJ hn F₁ N₁
    exact step i v m₁ news₁ _ h tk o hi hv hJ hn F₁ N₁
end
end

section -- N2h
open PySem PySem.W PyProof.Rows PySem.Flt PySem.Calls PySem.Spec PyProof.V
set_option maxRecDepth 100000
set_option maxHeartbeats 8000000
theorem nameC_K {M : Model} {A : Around} {E : Value → Shared → Prop} {s : Shared} {K : Frag} {h₁ : Heap} {C : Addr} {m mg mb : Str → Option Value} {env : Env} {scope : Scope} {cl : List (Str × Addr)} {p : Program} {loose : List Str} {x : Str} {pos : Pos} {v : Value} {Q : Value → Shared → Prop}
    (F : Fr h₁ C s.heap m) (X : K.In h₁) (T : TopRead p loose mg mb h₁) (e : nsIn K mainGlobals x = some (some v)) (h : Q v s) (hg : env.globals = mainGlobals) (hk : (compEnvC scope cl C env).scope.kind = .function) (hx : (compEnvC scope cl C env).kindOf x = some .globalImplicit) (hd : (x == ("__debug__" : Str)) = false) :
    wpAny M A (eval (.Name x pos) (compEnvC scope cl C env)) Q E s := Name_function_global hk hx (loadGlobal_global (env := compEnvC scope cl C env) (by show s.heap.Ns env.globals mg; rw [hg]; exact T.g.keeps F.keep) (mg_of X T.g e) h) hd
end

section
local macro_rules | `(tactic| walk_at "eval Name") => `(tactic| ((with_reducible show wpAny _ _ (eval (Expr.Name _ _) (compEnvC _ _ _ _)) _ _ _); k_dflt (refine' nameC_K ?F ?X ?T ?e ?_ ?g ?a ?b ?d; (case a | b | g => rfl); (case d => decide); (case F | X | T => k_asm); (case e => k_is))))
section -- N2x
open PySem PySem.W PyProof.Rows PySem.Flt PySem.Calls PySem.Spec PyProof.V
set_option maxRecDepth 100000
set_option maxHeartbeats 8000000

local macro_rules | `(tactic| k_ne) => `(tactic| (refine neN ?_; (try dsimp only); first | exact NeF.out (by assumption) | exact NeF.out' (by assumption)))
local macro_rules | `(tactic| walk_at "eval DictComp") => `(tactic| (k_dflt (refine' dcompE ?hh ?hclos ?hcell ?hkind ?hnames ?hx ?hF ?_ ?hs; (case hh => exact rfl); (case hclos => with_unfolding_all rfl); (case hcell => decide); (case hkind => exact rfl); (case hnames => decide); (case hx => exact rfl); (case hF => k_asm); (case hs => intro _; with_unfolding_all rfl))))
local macro_rules | `(tactic| walk_at "subscriptTail Name") => `(tactic| ((with_reducible show wpAny _ _ (subscriptTail _ _ (Value.ref _) (Value.int (ringF _ _) _)) _ _ _); k_dflt (refine' tab_item ?k1 ?k2 ?k3 ?_ ?k6 ?k7; (case k1 => first | assumption | exact News.get (by k_asm) (by k_mem)); (case k2 | k3 => assumption); (case k6 => with_unfolding_all rfl); (case k7 => intro _; with_unfolding_all rfl)); intro _; (try dsimp only)))
local macro_rules | `(tactic| walk_at "getMethod ref") => `(tactic| ((with_reducible show wpAny _ _ (getMethod (Value.ref _) _ _) _ _ _); k_dflt (refine' tab_meth ?k1 ?k2 ?k3 ?_; (case k1 | k2 | k3 => assumption))))
local macro_rules | `(tactic| walk_at "call builtin:dict.get") => `(tactic| ((with_reducible show wpAny _ _ (call (Value.builtin "dict.get") [Value.ref _, Value.int (ringF _ _) _, Value.str _ _]) _ _ _); k_dflt (refine' tab_get ?k1 ?k2 ?k3 ?_; (case k1 | k2 | k3 => assumption)); intro _; (try dsimp only)))
local macro_rules | `(tactic| walk_at "call builtin:str.join") => `(tactic| ((with_reducible show wpAny _ _ (call (Value.builtin "str.join") [Value.str _ _, Value.ref _]) _ _ _); k_dflt (refine' join_few ?k1 ?k3 ?k4 ?k5 ?_; (case k1 => exact News.isList (by k_asm) (by k_mem)); (case k3 | k4 => assumption); (case k5 => omega)); intro t' k'; (try dsimp only)))
local macro_rules | `(tactic| walk_at "call builtin:list.extend") => `(tactic| ((with_reducible show wpAny _ _ (call (Value.builtin _) [Value.ref _, Value.ref _]) _ _ _); k_dflt (refine' ext_few ?k1 ?k2 ?k3 ?k4 ?k5 ?k6 ?_; (case k1 | k2 => k_asm); (case k3 => k_mem); (case k5 => k_upd); (case k4 => (simp only [List.length_cons]; omega)); (case k6 => (simp only [List.length_cons, List.length_nil]; omega))); intro h' F' N'; (try k_sweep)))
local macro_rules | `(tactic| walk_at "call ref") => `(tactic| ((with_reducible show wpAny _ _ (call (Value.ref 70) [Value.int (ringF _ _) _, Value.int _ _, Value.bool _]) (GotI _ _) _ _); k_dflt (refine' (c_turned _ _ _ _ _ _ _ ?p0 ?p1 ?p2 ?p3 ?p4) _ _ _ _ _ _ _ _ _ _ _ _ _ _ _ _ _ _ _ _ _ ?k1 ?k2 ?k3 ?k5 ?k6 ?k7 ?k8 trivial ?_; (case p0 | p1 | p2 | p3 | p4 => assumption); walk_at "MY use")))

theorem key_eq {low : Int} {i : Nat} (hi : i < 12) : ((List.range 12).map (ringF low)).getD ((i : Int)).toNat 0 = kfR low (i : Int) := by
  unfold kfR
  rw [Int.toNat_natCast, List.getD_eq_getElem?_getD, List.getElem?_map, List.getElem?_range hi]
  rfl
theorem val_eq {lt : Str} {i : Nat} (hi : i < 12) : Txt.item lt (i : Int) = vfR lt (i : Int) := by
  unfold vfR
  rw [Int.toNat_natCast, Nat.mod_eq_of_lt hi]
noncomputable def thrF (turns : List Int) (k : Nat) : Str × Str := (letN smLt k, Txt.join (Str.ofString "") (turns.map fun t => letN grLt (k + t.toNat)))
noncomputable def bckF (turns : List Int) (k : Nat) : Str × Str := (letN grLt k, Txt.join (Str.ofString "") (turns.map fun t => letN smLt (k + t.toNat)))
noncomputable def JN (T Bk Dg Ds L' : Addr) (og os oG oS oT oR : Obj) (turns : List Int) (i : Nat) (m : Str → Option Value) (news : List (Addr × Obj)) : Prop :=
  ∃ oC x tv bv kt kb, m (Str.ofString "there") = some (.ref T) ∧ m (Str.ofString "back") = some (.ref Bk) ∧
    news = [(Bk, W.listOf (bv : List Value).toArray kb), (T, W.listOf (tv : List Value).toArray kt), (Dg, og), (Ds, os), (L' + 1 + 1 + 1 + 1 + 1, oC), (L' + 1 + 1 + 1 + 1, oG), (L' + 1 + 1 + 1, oS), (L' + 1 + 1, oT), (L' + 1, oR)] ∧ oC.data = .cell x ∧
    StrsAre tv (flat ((List.range i).map (thrF turns))) ∧ StrsAre bv (flat ((List.range i).map (bckF turns)))

/-- a new list of texts -/
noncomputable def ListS (ys : List Str) (r : Value) (tl : List (Addr × Obj)) : Prop := ∃ a vs n, r = .ref a ∧ tl = [(a, W.listOf (vs : List Value).toArray n)] ∧ StrsAre vs ys
theorem ring_at {low : Int} {i : Nat} {n : Int} (h : ((List.range 12).map (ringF low))[i]? = some n) : i < 12 ∧ n = ringF low i := by
  have hi : i < 12 := by
    have := (List.getElem?_eq_some_iff.mp h).1
    rwa [List.length_map, List.length_range] at this
  rw [List.getElem?_map, List.getElem?_range hi] at h
  exact ⟨hi, by simpa using h.symm⟩
theorem turn_in {turns : List Int} (ht : ∀ t ∈ turns, 0 ≤ t ∧ t < 12) {p : Nat} (hp : p < turns.length) : 0 ≤ turns.getD ((p : Int)).toNat 0 ∧ turns.getD ((p : Int)).toNat 0 < 12 := by
  rw [Int.toNat_natCast, List.getD_eq_getElem?_getD, List.getElem?_eq_getElem hp]
  exact ht _ (List.getElem_mem hp)

theorem letN_mod (lt : Str) (k : Nat) : letN lt (k % 12) = letN lt k := by unfold letN; rw [Nat.mod_mod]
theorem pos_let (low : Int) (lt : Str) (k : Nat) : letN lt (posR low (ringF low k)) = letN lt k := by rw [posR_ring, letN_mod]
theorem flat_len (f : Nat → Str × Str) (i : Nat) : (flat ((List.range i).map f)).length = 2 * i := by
  have h : ∀ l : List (Str × Str), (flat l).length = 2 * l.length := by
    intro l
    induction l with
    | nil => rfl
    | cons a r ih => obtain ⟨x, y⟩ := a; simp only [flat, List.length_cons, ih]; omega
  rw [h, List.length_map, List.length_range]
theorem others_eq (low : Int) (lt : Str) (turns : List Int) (i : Nat) :
    ((List.range turns.length).map (fun j => ringF low (i + (turns.getD j 0).toNat))).map (fun n => letN lt (posR low n)) = turns.map (fun t => letN lt (i + t.toNat)) := by
  refine List.ext_getElem (by simp) fun j h1 h2 => ?_
  simp only [List.length_map, List.length_range] at h1
  simp only [List.getElem_map, List.getElem_range, pos_let]
  rw [List.getD_eq_getElem?_getD, List.getElem?_eq_getElem h1]
  rfl
theorem few_len (lt : Str) (turns : List Int) (i : Nat) : ∀ y ∈ turns.map (fun t => letN lt (i + t.toNat)), y.length ≤ 1 := fun y hy => by
  obtain ⟨t, _, rfl⟩ := List.mem_map.mp hy
  exact Nat.le_of_eq (letN_len _ _)
theorem flat_snoc : ∀ (l : List (Str × Str)) (a b : Str), flat (l ++ [(a, b)]) = flat l ++ [a, b]
  | [], _, _ => rfl
  | (x, y) :: r, a, b => by simp only [List.cons_append, flat, flat_snoc r a b]
theorem strs_app : ∀ {vs ws : List Value} {ys zs : List Str}, StrsAre vs ys → StrsAre ws zs → StrsAre (vs ++ ws) (ys ++ zs)
  | _, _, _, _, .nil, h => h
  | _, _, _, _, .cons y t H, h => .cons y t (strs_app H h)
theorem flat_step {vs : List Value} {f : Nat → Str × Str} {i : Nat} {a b : Str} {t t' : Tok} (h : StrsAre vs (flat ((List.range i).map f))) (e : f i = (a, b)) : StrsAre (vs ++ [.str a t, .str b t']) (flat ((List.range (i + 1)).map f)) := by
  rw [List.range_succ, List.map_append, List.map_singleton, e, flat_snoc]
  exact strs_app h (.cons _ _ (.cons _ _ .nil))
section
variable {prog : Program} {w : World} {A : Around} {E : Value → Shared → Prop} {s : Shared} {h₀ : Heap} {L a b : Addr} {news : List (Addr × Obj)} {m : Str → Option Value}
theorem add_few {vs ws : List Value} {k n : Nat} {Q : Value → Shared → Prop} (F : Fr h₀ L s.heap m) (N : News h₀ L s.heap news) (ha : (a, W.listOf vs.toArray k) ∈ news) (hb : (b, W.listOf ws.toArray n) ∈ news) (hz : vs.length + ws.length ≤ 1000)
    (h : ∀ D h', Fr h₀ L h' m → News h₀ L h' ((D, W.listOf (vs ++ ws).toArray 0) :: news) → (∀ p ∈ news, p.1 < D) → Q (.ref D) { s with heap := h' }) : wpAny (model prog w) A (binaryOp .Add (.ref a) (.ref b)) Q E s :=
  kmk_add_lit F N (News.isList N ha) (News.isList N hb) rfl h (by show vs.length + ws.length ≤ sizeLine; rw [sizeLine_eq]; omega)
end
local macro_rules | `(tactic| walk_at "binaryOp Add ref ref") => `(tactic| ((with_reducible show wpAny _ _ (binaryOp _ (Value.ref _) (Value.ref _)) _ _ _); k_dflt (refine' add_few ?k1 ?k2 ?k3 ?k4 ?k5 ?_; (case k1 | k2 => k_asm); (case k3 | k4 => k_mem); (case k5 => ((try simp only [List.length_append]); omega))); intro D' h' F' N' l1; (try k_lt l1); (try k_sweep)))

theorem c_rounds (w : World) (aG aT : Addr) (gv tv : List Value) (low : Int) (turns : List Int) (h0 : 0 ≤ low) (h2 : low ≤ 2) (hG : IntsAre gv ((List.range 12).map (ringF low))) (hT : IntsAre tv turns) (c1 : 1 ≤ turns.length) (c3 : turns.length ≤ 3) (ht : ∀ t ∈ turns, 0 ≤ t ∧ t < 12) :
    Con w 75 4 [.ref aG, .ref aT] (fun h => h.IsList aG gv.toArray ∧ h.IsList aT tv.toArray) (ListS (flat ((List.range 12).map (thrF turns)) ++ flat ((List.range 12).map (bckF turns)) ++ flat ((List.range 12).map (thrF turns)))) := by
  unfold Con
  k_fill
  w_top off
  intro loose mean mg mb dp un gd cn cs a ccd cl outer A₀ base h₀ L m s Q E B F X T hk hd' hu hP hret
  walk_at "MY enterC"
  intro g' L' h' tk cells hg' F' N' Y' B' X' T'
  obtain ⟨o1, o2, o3, o4, o5, hE, d1, d2, d3, d4, d5⟩ := CellsAre.five Y'
  subst hE
  have d1 : o1.data = .cell none := d1
  have d2 : o2.data = .cell none := d2
  have d3 : o3.data = .cell none := d3
  have d4 : o4.data = .cell (some (.ref aT)) := d4
  have d5 : o5.data = .cell (some (.ref aG)) := d5
  generalize hm0 : bindL _ _ _ = m0 at F'
  clear hm0 Y'
  (try dsimp only [List.cons_append, List.nil_append] at N')
  (try k_fold)
  obtain ⟨p1, p2⟩ := hP
  rw [← hg'] at p1 p2
  have hlen : ((List.range 12).map (ringF low)).length = 12 := by rw [List.length_map, List.length_range]
  k_steps
  (rename Fr _ _ _ _ => F1)
  (rename News _ _ _ _ => N1)
  (rename IsRange _ _ _ _ _ _ _ _ => R1)
  have gR := News.get N1 (a := L' + 1) (by k_mem)
  refine ⟨12, kfR low, vfR smLt, _, _, _, _, _, _, rfl, R1, rfl, by decide, T'.nolimit, F1, N1, ?_, ?_, ?_⟩
  · intro C i t s₂ m₂ E' hi FC NC hm
    have pG := p1.at fun o e => FC.keep _ o (F1.keep _ o e)
    k_steps
    exact GotI.to (key_eq hi) fun _ _ e => e
  · intro C i t s₂ m₂ E' hi FC NC hm
    k_steps
    exact GotS.to (val_eq hi) fun _ _ e => e
  intro D oS h₂ tk₂ hTS hloS F2 N2 hD
  simp only [List.mem_cons, List.not_mem_nil, or_false, forall_eq_or_imp, forall_eq] at hD
  obtain ⟨q1, q2, q3, q4, q5⟩ := hD
  replace q1 : NeF _ _ := q1
  replace q2 : NeF _ _ := q2
  replace q3 : NeF _ _ := q3
  replace q4 : NeF _ _ := q4
  replace q5 : NeF _ _ := q5
  replace F2 : Fr g' L' h₂ _ := F2
  replace N2 : News g' L' h₂ _ := N2
  clear F1 N1 R1 gR
  k_steps
  (rename Fr _ _ _ _ => F1)
  (rename News _ _ _ _ => N1)
  (rename IsRange _ _ _ _ _ _ _ _ => R1)
  have gR := News.get N1 (a := L' + 1) (by k_mem)
  refine ⟨12, kfR low, vfR grLt, _, _, _, _, _, _, rfl, R1, rfl, by decide, T'.nolimit, F1, N1, ?_, ?_, ?_⟩
  · intro C i t s₂ m₂ E' hi FC NC hm
    have pG := p1.at fun o e => FC.keep _ o (F1.keep _ o e)
    k_steps
    exact GotI.to (key_eq hi) fun _ _ e => e
  · intro C i t s₂ m₂ E' hi FC NC hm
    k_steps
    exact GotS.to (val_eq hi) fun _ _ e => e
  intro D₂ oG h₃ tk₃ hTG hloG F3 N3 hD'
  simp only [List.mem_cons, List.not_mem_nil, or_false, forall_eq_or_imp, forall_eq] at hD'
  obtain ⟨r1, r2, r3, r4, r5, r6⟩ := hD'
  replace r1 : NeF _ _ := r1
  replace r2 : NeF _ _ := r2
  replace r3 : NeF _ _ := r3
  replace r4 : NeF _ _ := r4
  replace r5 : NeF _ _ := r5
  replace r6 : NeF _ _ := r6
  replace F3 : Fr g' L' h₃ _ := F3
  replace N3 : News g' L' h₃ _ := N3
  clear F1 N1 R1 gR
  k_steps
  refine wpAny_For ?_ (fun _ => rfl)
  k_steps
  (rename Fr _ _ _ _ => Fz)
  (rename News _ _ _ _ => Nz)
  refine iter_lst rfl p1 Fz Nz (JN _ _ D₂ D L' oG oS _ _ o4 o5 turns) ⟨o1, _, [], [], 0, 0, rfl, rfl, rfl, d1, .nil, .nil⟩ ?_ ?_ (by passes_own)
  · rintro i v m₁ news₁ I h₁ tk₁ oI hi hv ⟨oC, x, tv', bv, kt, kb, e1, e2, rfl, dC, hS1, hS2⟩ hnI F₁ N₁
    obtain ⟨n, tn, en, rfl⟩ := ints_at hG hv
    obtain ⟨hi12, rfl⟩ := ring_at en
    simp only [List.mem_cons, List.not_mem_nil, or_false, forall_eq_or_imp, forall_eq] at hnI
    obtain ⟨i1, i2, i3, i4, i5, i6, i7, i8, i9⟩ := hnI
    replace i1 : NeF _ _ := i1
    replace i2 : NeF _ _ := i2
    replace i3 : NeF _ _ := i3
    replace i4 : NeF _ _ := i4
    replace i5 : NeF _ _ := i5
    replace i6 : NeF _ _ := i6
    replace i7 : NeF _ _ := i7
    replace i8 : NeF _ _ := i8
    replace i9 : NeF _ _ := i9
    replace F₁ : Fr g' L' h₁ m₁ := F₁
    replace N₁ : News g' L' h₁ _ := N₁
    clear Fz Nz
    have w1 := few_len grLt turns i
    have w2 := few_len smLt turns i
    have w3 : (turns.map (fun t => letN grLt (i + t.toNat))).length = turns.length := List.length_map _
    have w4 : (turns.map (fun t => letN smLt (i + t.toNat))).length = turns.length := List.length_map _
    have w5 : tv'.length = 2 * i := by rw [hS1.length]; exact flat_len _ _
    have w6 : bv.length = 2 * i := by rw [hS2.length]; exact flat_len _ _
    (try k_fold)
    k_steps
    (rename Fr _ _ _ _ => F₂)
    (rename News _ _ _ _ => N₂)
    (rename IsRange _ _ _ _ _ _ _ _ => R₂)
    have gC := News.get N₂ (a := L' + 1 + 1 + 1 + 1 + 1) (by k_mem)
    have gT := News.get N₂ (a := L' + 1 + 1) (by k_mem)
    refine CompAt.rng (n := turns.length) (fun j => ringF low (i + (turns.getD j 0).toNat)) R₂ rfl (by omega) F₂ N₂ ?_ ?_
    · intro C p tp s₂ m₂ E' hp FC NC hm
      obtain ⟨hq0, hq1⟩ := turn_in ht hp
      have pT := p2.at fun o e => FC.keep _ o (F₂.keep _ o e)
      have FF := F₂.grownK FC.keep
      have XC := X'.keeps F₂.keep
      have TC := T'.keeps F₂.keep
      k_steps
      (rename Int1 _ _ _ => hO)
      (rename Heap.StaysIn _ _ => hst)
      obtain ⟨t', rfl, rfl⟩ := hO
      exact GotI.to (by rw [Int.toNat_natCast]) hst
    · intro D₃ ys k₂ h₄ tk₄ hys F₃ N₃ hD
      simp only [List.mem_cons, List.not_mem_nil, or_false, forall_eq_or_imp, forall_eq] at hD
      obtain ⟨j1, j2, j3, j4, j5, j6, j7, j8, j9, j10⟩ := hD
      replace j1 : NeF _ _ := j1
      replace j2 : NeF _ _ := j2
      replace j3 : NeF _ _ := j3
      replace j4 : NeF _ _ := j4
      replace j5 : NeF _ _ := j5
      replace j6 : NeF _ _ := j6
      replace j7 : NeF _ _ := j7
      replace j8 : NeF _ _ := j8
      replace j9 : NeF _ _ := j9
      replace j10 : NeF _ _ := j10
      replace F₃ : Fr g' L' h₄ _ := F₃
      replace N₃ : News g' L' h₄ _ := N₃
      clear F₂ N₂ R₂ gC gT
      k_steps
      (rename Fr _ _ _ _ => F₄)
      (rename News _ _ _ _ => N₄)
      have gG := News.get N₄ (a := L' + 1 + 1 + 1 + 1) (by k_mem)
      have gDG := News.get N₄ (a := D₂) (by k_mem)
      have gO := News.isList N₄ (a := D₃) (by k_mem)
      refine CompAt.lstS (fun n => letN grLt (posR low n)) gO hys (by rw [List.length_map, List.length_range]; omega) F₄ N₄ ?_ ?_
      · intro C p tp s₂ m₂ E' hp FC NC hm
        obtain ⟨j, _, rfl⟩ := List.mem_map.mp hp
        (try dsimp only at hm)
        have gDG := FC.keep _ _ gDG
        k_steps
        exact GotS.to (pos_let _ _ _).symm fun _ _ e => e
      intro D₄ ys₂ k₃ h₅ tk₅ hys₂ F₅ N₅ hD'
      rw [others_eq] at hys₂
      simp only [List.mem_cons, List.not_mem_nil, or_false, forall_eq_or_imp, forall_eq] at hD'
      obtain ⟨m1, m2, m3, m4, m5, m6, m7, m8, m9, m10, m11⟩ := hD'
      replace m1 : NeF _ _ := m1
      replace m2 : NeF _ _ := m2
      replace m3 : NeF _ _ := m3
      replace m4 : NeF _ _ := m4
      replace m5 : NeF _ _ := m5
      replace m6 : NeF _ _ := m6
      replace m7 : NeF _ _ := m7
      replace m8 : NeF _ _ := m8
      replace m9 : NeF _ _ := m9
      replace m10 : NeF _ _ := m10
      replace m11 : NeF _ _ := m11
      replace F₅ : Fr g' L' h₅ _ := F₅
      replace N₅ : News g' L' h₅ _ := N₅
      clear F₄ N₄ gG gDG gO
      k_steps
      (rename Fr _ _ _ _ => F₄)
      (rename News _ _ _ _ => N₄)
      have gG := News.get N₄ (a := L' + 1 + 1 + 1) (by k_mem)
      have gDG := News.get N₄ (a := D) (by k_mem)
      have gO := News.isList N₄ (a := D₃) (by k_mem)
      refine CompAt.lstS (fun n => letN smLt (posR low n)) gO hys (by rw [List.length_map, List.length_range]; omega) F₄ N₄ ?_ ?_
      · intro C p tp s₂ m₂ E' hp FC NC hm
        obtain ⟨j, _, rfl⟩ := List.mem_map.mp hp
        (try dsimp only at hm)
        have gDG := FC.keep _ _ gDG
        k_steps
        exact GotS.to (pos_let _ _ _).symm fun _ _ e => e
      intro D₅ ys₃ k₄ h₅ tk₅ hys₂ F₅ N₅ hD'
      rw [others_eq] at hys₂
      simp only [List.mem_cons, List.not_mem_nil, or_false, forall_eq_or_imp, forall_eq] at hD'
      obtain ⟨u1, u2, u3, u4, u5, u6, u7, u8, u9, u10, u11, u12, u13⟩ := hD'
      replace u1 : NeF _ _ := u1
      replace u2 : NeF _ _ := u2
      replace u3 : NeF _ _ := u3
      replace u4 : NeF _ _ := u4
      replace u5 : NeF _ _ := u5
      replace u6 : NeF _ _ := u6
      replace u7 : NeF _ _ := u7
      replace u8 : NeF _ _ := u8
      replace u9 : NeF _ _ := u9
      replace u10 : NeF _ _ := u10
      replace u11 : NeF _ _ := u11
      replace u12 : NeF _ _ := u12
      replace u13 : NeF _ _ := u13
      replace F₅ : Fr g' L' h₅ _ := F₅
      replace N₅ : News g' L' h₅ _ := N₅
      clear F₄ N₄ gG gDG gO
      k_steps
      (rename Fr _ _ _ _ => F₆)
      (rename News _ _ _ _ => N₆)
      refine stepG [_, _, _, _, _] F₆ N₆ ?_ ⟨_, _, _, _, kt + 1, kb + 1, e1, e2, rfl, by assumption, flat_step hS1 rfl, flat_step hS2 rfl⟩
      intro p hp
      simp only [List.mem_cons, List.not_mem_nil, or_false] at hp
      rcases hp with rfl | rfl | rfl | rfl | rfl | rfl | rfl | rfl | rfl
      · exact i1
      · exact i2
      · exact i3
      · exact i4
      · exact i5
      · exact i6
      · exact i7
      · exact i8
      · exact i9
  · rintro h₁ tk₁ m₁ news₁ ⟨oC, x, tv', bv, kt, kb, e1, e2, rfl, dC, hS1, hS2⟩ F₁ N₁
    replace F₁ : Fr g' L' h₁ m₁ := F₁
    replace N₁ : News g' L' h₁ _ := N₁
    clear Fz Nz
    have hg12 : gv.length = 12 := by rw [hG.length, hlen]
    rw [hg12] at hS1 hS2
    have w5 : tv'.length = 24 := by rw [hS1.length]; exact flat_len _ _
    have w6 : bv.length = 24 := by rw [hS2.length]; exact flat_len _ _
    dsimp only
    k_steps
    (try dsimp only)
    (try k_unfold)
    (try dsimp only)
    refine endL (by k_asm) (by k_asm) (by k_mem) ?_
    intro hs' hn'
    subst hg'
    exact hret _ _ _ _ ⟨_, _, _, rfl, rfl, strs_app (strs_app hS1 hS2) hS1⟩ hs' hn'
end

section -- Plain
open PySem PySem.W PyProof.Rows PySem.Flt PySem.Calls PySem.Spec PyProof.V
set_option maxRecDepth 100000
set_option maxHeartbeats 2000000

noncomputable abbrev toL (x : Str) : List Nat := x.cps.toList
theorem str_ext {x y : Str} (h : toL x = toL y) : x = y := by
  obtain ⟨⟨a⟩⟩ := x
  obtain ⟨⟨b⟩⟩ := y
  simp only [toL] at h
  subst h
  rfl
noncomputable def joinL (z : List Nat) : List (List Nat) → List Nat
  | [] => []
  | [p] => p
  | p :: q :: r => p ++ z ++ joinL z (q :: r)
theorem toL_join (z : Str) : ∀ ps : List Str, toL (Str.join z ps) = joinL (toL z) (ps.map toL)
  | [] => rfl
  | [p] => rfl
  | p :: q :: r => by
    show toL (p ++ z ++ Str.join z (q :: r)) = _
    have ih := toL_join z (q :: r)
    simp only [toL] at ih ⊢
    rw [Str.cps_append, Str.cps_append, Array.toList_append, Array.toList_append, ih]
    rfl
theorem txt_join (z : Str) (ps : List Str) : Txt.join z ps = Str.join z ps := by
  unfold Txt.join
  exact StrLaws.glued_eq_join _ _
/-- one sign gives way to a text -/
noncomputable def sub1 (c : Nat) (z : List Nat) (x : List Nat) : List Nat := x.flatMap fun d => if d = c then z else [d]
theorem sub1_free {c : Nat} {z : List Nat} : ∀ {p : List Nat}, c ∉ p → sub1 c z p = p
  | [], _ => rfl
  | d :: r, h => by
    have h1 : d ≠ c := fun e => h (by rw [e]; exact .head _)
    have h2 := sub1_free (z := z) (p := r) fun e => h (.tail _ e)
    unfold sub1 at h2 ⊢
    rw [List.flatMap_cons, if_neg h1, h2]
    rfl
theorem sub1_app (c : Nat) (z a b : List Nat) : sub1 c z (a ++ b) = sub1 c z a ++ sub1 c z b := List.flatMap_append
theorem join_sub {c : Nat} {z : List Nat} : ∀ {ps : List (List Nat)}, (∀ p ∈ ps, c ∉ p) → sub1 c z (joinL [c] ps) = joinL z ps
  | [], _ => rfl
  | [p], h => sub1_free (h p (.head _))
  | p :: q :: r, h => by
    show sub1 c z (p ++ [c] ++ joinL [c] (q :: r)) = p ++ z ++ joinL z (q :: r)
    rw [sub1_app, sub1_app, sub1_free (h p (.head _)), join_sub fun x hx => h x (.tail _ hx)]
    have : sub1 c z [c] = z := by simp [sub1]
    rw [this]
theorem rep_one (x z : Str) (c : Nat) : toL (Txt.join z (Txt.split x ⟨#[c]⟩)) = sub1 c (toL z) (toL x) := by
  have h1 := StrLaws.join_split x ⟨#[c]⟩
  have h2 := StrLaws.split_free x c
  rw [txt_join, toL_join]
  have h3 : toL x = joinL [c] ((Txt.split x ⟨#[c]⟩).map toL) := by
    rw [← h1, toL_join, h1]
  rw [h3, join_sub]
  intro p hp
  obtain ⟨q, hq, rfl⟩ := List.mem_map.mp hp
  exact h2 q hq

theorem replF_app : ∀ (ps qs : List (Str × Str)) (x : Str), replF x (ps ++ qs) = replF (replF x ps) qs
  | [], _, _ => rfl
  | (a, b) :: r, qs, x => replF_app r qs _
/-- the first j of twelve signs from b on give way to texts -/
noncomputable def subB (b j : Nat) (z : Nat → List Nat) (x : List Nat) : List Nat := x.flatMap fun d => if b ≤ d ∧ d < b + j then z (d - b) else [d]
theorem subB_step {b j : Nat} {z : Nat → List Nat} (hz : ∀ k, b + j ∉ z k) (x : List Nat) : sub1 (b + j) (z j) (subB b j z x) = subB b (j + 1) z x := by
  unfold subB
  induction x with
  | nil => rfl
  | cons d r ih =>
    rw [List.flatMap_cons, List.flatMap_cons, sub1_app, ih]
    congr 1
    by_cases h1 : b ≤ d ∧ d < b + j
    · rw [if_pos h1, if_pos ⟨h1.1, by omega⟩, sub1_free (hz _)]
    · rw [if_neg h1]
      by_cases h2 : d = b + j
      · rw [if_pos ⟨by omega, by omega⟩]
        subst h2
        simp [sub1]
      · rw [if_neg (by omega)]
        simp [sub1, h2]
theorem rep_all {b : Nat} {P : Nat → Str × Str} {z : Nat → List Nat} (h1 : ∀ k, k < 12 → (P k).1 = ⟨#[b + k]⟩) (h2 : ∀ k, toL (P k).2 = z k) (hz : ∀ j k, j < 12 → b + j ∉ z k) (x : Str) :
    ∀ j, j ≤ 12 → toL (replF x ((List.range j).map P)) = subB b j z (toL x)
  | 0, _ => by
    show toL x = _
    unfold subB
    induction toL x with
    | nil => rfl
    | cons d r ih => rw [List.flatMap_cons, if_neg (by omega), ← ih]; rfl
  | j + 1, hj => by
    rw [List.range_succ, List.map_append, List.map_singleton, replF_app]
    have ih := rep_all h1 h2 hz x j (by omega)
    have e : P j = (⟨#[b + j]⟩, (P j).2) := by rw [← h1 j (by omega)]
    rw [e]
    show toL (Txt.join (P j).2 (Txt.split (replF x ((List.range j).map P)) ⟨#[b + j]⟩)) = _
    rw [rep_one, ih, h2, subB_step (fun k => hz j k (by omega))]

/-- letters of a case (65 great, 97 small) by places on the ring -/
noncomputable def encL (b : Nat) (ks : List Int) : List Nat := ks.map fun k => b + (k.fmod 12).toNat
noncomputable def stepI (turns : List Int) (ks : List Int) : List Int := ks.flatMap fun k => turns.map fun t => k + t
theorem mod_in (k : Int) : 0 ≤ k.fmod 12 ∧ k.fmod 12 < 12 := ⟨Int.fmod_nonneg_of_pos _ (by decide), Int.fmod_lt_of_pos _ (by decide)⟩
theorem fmod_e (k : Int) : k.fmod 12 = k % 12 := Int.fmod_eq_emod_of_nonneg _ (by decide)
noncomputable def zF (b' : Nat) (turns : List Int) (j : Nat) : List Nat := turns.map fun t => b' + (j + t.toNat) % 12
theorem sub_enc (b b' : Nat) (turns : List Int) (ht : ∀ t ∈ turns, 0 ≤ t) : ∀ ks, subB b 12 (zF b' turns) (encL b ks) = encL b' (stepI turns ks)
  | [] => rfl
  | k :: r => by
    have ih := sub_enc b b' turns ht r
    unfold subB encL stepI at ih ⊢
    rw [List.map_cons, List.flatMap_cons, List.flatMap_cons, List.map_append, ih]
    congr 1
    have hk := mod_in k
    rw [if_pos ⟨by omega, by omega⟩, Nat.add_sub_cancel_left]
    unfold zF
    rw [List.map_map]
    refine List.map_congr_left fun t hm => ?_
    have h0 := ht t hm
    show b' + ((k.fmod 12).toNat + t.toNat) % 12 = b' + ((k + t).fmod 12).toNat
    rw [fmod_e, fmod_e]
    omega
theorem letN_sm : ∀ k, letN smLt k = ⟨#[97 + k % 12]⟩ := by
  intro k
  unfold letN
  have h := Nat.mod_lt k (show 0 < 12 by decide)
  generalize k % 12 = j at h
  have : j = 0 ∨ j = 1 ∨ j = 2 ∨ j = 3 ∨ j = 4 ∨ j = 5 ∨ j = 6 ∨ j = 7 ∨ j = 8 ∨ j = 9 ∨ j = 10 ∨ j = 11 := by omega
  rcases this with rfl | rfl | rfl | rfl | rfl | rfl | rfl | rfl | rfl | rfl | rfl | rfl <;> decide +kernel
theorem letN_gr : ∀ k, letN grLt k = ⟨#[65 + k % 12]⟩ := by
  intro k
  unfold letN
  have h := Nat.mod_lt k (show 0 < 12 by decide)
  generalize k % 12 = j at h
  have : j = 0 ∨ j = 1 ∨ j = 2 ∨ j = 3 ∨ j = 4 ∨ j = 5 ∨ j = 6 ∨ j = 7 ∨ j = 8 ∨ j = 9 ∨ j = 10 ∨ j = 11 := by omega
  rcases this with rfl | rfl | rfl | rfl | rfl | rfl | rfl | rfl | rfl | rfl | rfl | rfl <;> decide +kernel
theorem joinL_nil : ∀ l : List (List Nat), joinL [] l = l.flatten
  | [] => rfl
  | [p] => by simp [joinL]
  | p :: q :: r => by simp [joinL, joinL_nil (q :: r)]
theorem toL_join0 (ys : List Str) : toL (Txt.join (Str.ofString "") ys) = (ys.map toL).flatten := by
  rw [txt_join, toL_join, show toL (Str.ofString "") = [] by decide +kernel, joinL_nil]
theorem thr_round (turns : List Int) (ht : ∀ t ∈ turns, 0 ≤ t) (x : Str) (ks : List Int) (hx : toL x = encL 97 ks) : toL (replF x ((List.range 12).map (thrF turns))) = encL 65 (stepI turns ks) := by
  rw [rep_all (b := 97) (z := zF 65 turns) ?_ ?_ ?_ x 12 (Nat.le_refl _), hx, sub_enc _ _ _ ht]
  · intro k hk
    show letN smLt k = _
    rw [letN_sm, Nat.mod_eq_of_lt hk]
  · intro k
    show toL (Txt.join (Str.ofString "") (turns.map fun t => letN grLt (k + t.toNat))) = _
    rw [toL_join0, List.map_map]
    unfold zF
    induction turns with
    | nil => rfl
    | cons t r ih =>
      rw [List.map_cons, List.map_cons, List.flatten_cons, ih fun t h => ht t (.tail _ h)]
      show toL (letN grLt (k + t.toNat)) ++ _ = _
      rw [letN_gr]
      rfl
  · intro j k hj hm
    obtain ⟨t, _, e⟩ := List.mem_map.mp hm
    omega
theorem bck_round (turns : List Int) (ht : ∀ t ∈ turns, 0 ≤ t) (x : Str) (ks : List Int) (hx : toL x = encL 65 ks) : toL (replF x ((List.range 12).map (bckF turns))) = encL 97 (stepI turns ks) := by
  rw [rep_all (b := 65) (z := zF 97 turns) ?_ ?_ ?_ x 12 (Nat.le_refl _), hx, sub_enc _ _ _ ht]
  · intro k hk
    show letN grLt k = _
    rw [letN_gr, Nat.mod_eq_of_lt hk]
  · intro k
    show toL (Txt.join (Str.ofString "") (turns.map fun t => letN smLt (k + t.toNat))) = _
    rw [toL_join0, List.map_map]
    unfold zF
    induction turns with
    | nil => rfl
    | cons t r ih =>
      rw [List.map_cons, List.map_cons, List.flatten_cons, ih fun t h => ht t (.tail _ h)]
      show toL (letN smLt (k + t.toNat)) ++ _ = _
      rw [letN_sm]
      rfl
  · intro j k hj hm
    obtain ⟨t, _, e⟩ := List.mem_map.mp hm
    omega
end

section -- Plain2
open PySem PySem.W PyProof.Rows PySem.Flt PySem.Calls PySem.Spec PyProof.V
set_option maxRecDepth 100000
set_option maxHeartbeats 2000000

theorem map_getD (l : List Int) (f : Int → Int) : l.map f = (List.range l.length).map fun j => f (l.getD j 0) := by
  refine List.ext_getElem (by simp) fun j h1 h2 => ?_
  simp only [List.length_map] at h1
  simp only [List.getElem_map, List.getElem_range]
  rw [List.getD_eq_getElem?_getD, List.getElem?_eq_getElem h1]
  rfl
theorem step_range (turns : List Int) (f : Nat → Int) (hc : 0 < turns.length) : ∀ n, stepI turns ((List.range n).map f) = (List.range (n * turns.length)).map fun i => f (i / turns.length) + turns.getD (i % turns.length) 0
  | 0 => by simp [stepI]
  | n + 1 => by
    have ih := step_range turns f hc n
    unfold stepI at ih ⊢
    rw [List.range_succ, List.map_append, List.flatMap_append, ih, Nat.succ_mul, List.range_add, List.map_append]
    congr 1
    rw [List.map_singleton, List.flatMap_singleton, map_getD, List.map_map]
    refine List.map_congr_left fun j hj => ?_
    have hj := List.mem_range.mp hj
    show f n + turns.getD j 0 = f ((n * turns.length + j) / turns.length) + turns.getD ((n * turns.length + j) % turns.length) 0
    rw [Nat.mul_comm n, Nat.mul_add_div hc, Nat.div_eq_of_lt hj, Nat.add_zero, Nat.mul_add_mod, Nat.mod_eq_of_lt hj]
noncomputable def plcN (row turns : List Int) (r i : Nat) : Int := row.getD (i / turns.length ^ r) 0 + ((List.range r).map fun p => turns.getD (i / turns.length ^ p % turns.length) 0).sum
theorem plcN_succ (row turns : List Int) (r i : Nat) : plcN row turns (r + 1) i = plcN row turns r (i / turns.length) + turns.getD (i % turns.length) 0 := by
  unfold plcN
  rw [List.range_succ_eq_map, List.map_cons, List.sum_cons, List.map_map]
  have e1 : i / turns.length / turns.length ^ r = i / turns.length ^ (r + 1) := by rw [Nat.div_div_eq_div_mul, Nat.pow_succ, Nat.mul_comm]
  have e2 : ((fun p => turns.getD (i / turns.length ^ p % turns.length) 0) ∘ Nat.succ) = fun p => turns.getD (i / turns.length / turns.length ^ p % turns.length) 0 := by
    funext p
    show turns.getD (i / turns.length ^ (p + 1) % turns.length) 0 = _
    rw [Nat.div_div_eq_div_mul, Nat.pow_succ, Nat.mul_comm]
  rw [e1, e2, Nat.pow_zero, Nat.div_one]
  omega
noncomputable def posN (row turns : List Int) (r : Nat) : List Int := (List.range (row.length * turns.length ^ r)).map (plcN row turns r)
theorem posN_succ (row turns : List Int) (hc : 0 < turns.length) (r : Nat) : posN row turns (r + 1) = stepI turns (posN row turns r) := by
  unfold posN
  rw [step_range _ _ hc, Nat.pow_succ, ← Nat.mul_assoc]
  exact List.map_congr_left fun i _ => plcN_succ row turns r i
theorem plc_eq (row turns : List Int) (r i : Nat) : plcF row turns (r : Int) i = plcN row turns r i := by
  unfold plcF plcN figF
  rw [Int.toNat_natCast]
  have e : ∀ p : Nat, (i : Int).fdiv (lenI turns ^ p) = ((i / turns.length ^ p : Nat) : Int) := fun p => by
    show (i : Int).fdiv ((turns.length : Int) ^ p) = _
    rw [Int.fdiv_eq_ediv_of_nonneg _ (by rw [← Int.natCast_pow]; exact Int.natCast_nonneg _), ← Int.natCast_pow]
    rfl
  have e2 : ∀ n : Nat, ((n : Int)).fmod (lenI turns) = ((n % turns.length : Nat) : Int) := fun n => by
    show ((n : Int)).fmod (turns.length : Int) = _
    rw [Int.fmod_eq_emod_of_nonneg _ (Int.natCast_nonneg _)]
    rfl
  simp only [e, e2, Int.toNat_natCast]
theorem dueN_eq (row turns : List Int) (r : Nat) : dueN row turns (r : Int) = row.length * turns.length ^ r := by
  unfold dueN
  rw [Int.toNat_natCast]
  show ((row.length : Int) * (turns.length : Int) ^ r).toNat = _
  rw [← Int.natCast_pow, ← Int.natCast_mul, Int.toNat_natCast]
noncomputable def bas (r : Nat) : Nat := if r % 2 = 1 then 65 else 97
theorem item_let (lt : Str) (p : Int) : Txt.item lt (p.fmod 12) = letN lt (p.fmod 12).toNat := by
  unfold letN
  have h := mod_in p
  rw [Nat.mod_eq_of_lt (by omega), Int.toNat_of_nonneg h.1]
theorem sgn_toL (row turns : List Int) (r i : Nat) : toL (sgnF (ltF (r : Int)) row turns (r : Int) i) = [bas r + ((plcN row turns r i).fmod 12).toNat] := by
  unfold sgnF
  rw [plc_eq, item_let]
  have h := mod_in (plcN row turns r i)
  have e : (r : Int).fmod 2 = ((r % 2 : Nat) : Int) := by rw [Int.fmod_eq_emod_of_nonneg _ (by decide)]; rfl
  unfold ltF bas
  rw [e]
  by_cases hr : r % 2 = 1
  · rw [if_pos (by omega), if_pos hr]
    show toL (letN grLt _) = _
    rw [letN_gr, Nat.mod_eq_of_lt (by omega)]
  · rw [if_neg (by omega), if_neg hr]
    show toL (letN smLt _) = _
    rw [letN_sm, Nat.mod_eq_of_lt (by omega)]
theorem due_toL (row turns : List Int) (r : Nat) : toL (dueF row turns (r : Int)) = encL (bas r) (posN row turns r) := by
  unfold dueF posN encL
  rw [toL_join0, dueN_eq, List.map_map, List.map_map]
  generalize row.length * turns.length ^ r = n
  induction n with
  | zero => rfl
  | succ n ih =>
    rw [List.range_succ, List.map_append, List.map_append, List.flatten_append, ih]
    congr 1
    show (toL (sgnF (ltF (r : Int)) row turns (r : Int) n) ++ []) = _
    rw [sgn_toL]
    rfl

/-- all the pairs of the three rounds -/
noncomputable def allP (turns : List Int) : List (Str × Str) := (List.range 12).map (thrF turns) ++ (List.range 12).map (bckF turns) ++ (List.range 12).map (thrF turns)
noncomputable def rndP (turns : List Int) : Nat → List (Str × Str)
  | 0 => []
  | 1 => (List.range 12).map (thrF turns)
  | 2 => (List.range 12).map (thrF turns) ++ (List.range 12).map (bckF turns)
  | _ => allP turns
theorem law_plain (row turns : List Int) (hc : 0 < turns.length) (ht : ∀ t ∈ turns, 0 ≤ t) (r : Nat) (hr : r < 4) : replF (dueF row turns 0) (rndP turns r) = dueF row turns (r : Int) := by
  have d0 := due_toL row turns 0
  have p1 := posN_succ row turns hc 0
  have p2 := posN_succ row turns hc 1
  have p3 := posN_succ row turns hc 2
  have r1 := thr_round turns ht (dueF row turns ((0 : Nat) : Int)) _ d0
  rw [← p1] at r1
  have r2 := bck_round turns ht _ _ r1
  rw [← p2] at r2
  have r3 := thr_round turns ht _ _ r2
  rw [← p3] at r3
  refine str_ext ?_
  rw [due_toL]
  have : r = 0 ∨ r = 1 ∨ r = 2 ∨ r = 3 := by omega
  rcases this with rfl | rfl | rfl | rfl
  · exact d0
  · exact r1
  · show toL (replF _ ((List.range 12).map (thrF turns) ++ (List.range 12).map (bckF turns))) = _
    rw [replF_app]
    exact r2
  · show toL (replF _ ((List.range 12).map (thrF turns) ++ (List.range 12).map (bckF turns) ++ (List.range 12).map (thrF turns))) = _
    rw [replF_app, replF_app]
    exact r3
end

section -- Plain3
open PySem PySem.W PyProof.Rows PySem.Flt PySem.Calls PySem.Spec PyProof.V
set_option maxRecDepth 100000
set_option maxHeartbeats 2000000

theorem len_toL (x : Str) : x.length = (toL x).length := rfl
theorem joinL_len (c : Nat) : ∀ ps : List (List Nat), (ps.map List.length).sum ≤ (joinL [c] ps).length ∧ ps.length ≤ (joinL [c] ps).length + 1
  | [] => by simp [joinL]
  | [p] => by simp [joinL]
  | p :: q :: r => by
    have ih := joinL_len c (q :: r)
    simp only [joinL, List.length_append, List.map_cons, List.sum_cons, List.length_cons, List.length_nil] at ih ⊢
    omega
theorem split_len (x : Str) (c : Nat) : ((Txt.split x ⟨#[c]⟩).map (·.length)).sum ≤ (toL x).length ∧ (Txt.split x ⟨#[c]⟩).length ≤ (toL x).length + 1 := by
  have h1 := StrLaws.join_split x ⟨#[c]⟩
  have h3 : toL x = joinL [c] ((Txt.split x ⟨#[c]⟩).map toL) := by
    rw [← h1, toL_join, h1]
  have h := joinL_len c ((Txt.split x ⟨#[c]⟩).map toL)
  rw [← h3, List.map_map, List.length_map] at h
  exact h
theorem one_ok {x b : Str} {c : Nat} (hx : (toL x).length ≤ 1000) (hb : b.length ≤ 3) : RepOk x [(⟨#[c]⟩, b)] := by
  obtain ⟨h1, h2⟩ := split_len x c
  refine ⟨rfl, by rw [len_toL]; omega, ?_, trivial⟩
  have h3 := Nat.mul_le_mul h2 hb
  omega
theorem repOk_app : ∀ (ps qs : List (Str × Str)) (x : Str), RepOk x ps → RepOk (replF x ps) qs → RepOk x (ps ++ qs)
  | [], _, _, _, h => h
  | (a, b) :: r, qs, x, ⟨h1, h2, h3, h4⟩, h => ⟨h1, h2, h3, repOk_app r qs _ h4 h⟩
theorem subB_len {b j : Nat} {z : Nat → List Nat} (hz : ∀ k, (z k).length ≤ 3) (x : List Nat) : (subB b j z x).length ≤ 3 * x.length := by
  unfold subB
  induction x with
  | nil => exact Nat.le_refl _
  | cons d r ih =>
    rw [List.flatMap_cons, List.length_append, List.length_cons]
    have : (if b ≤ d ∧ d < b + j then z (d - b) else [d]).length ≤ 3 := by
      split
      · exact hz _
      · simp
    omega
theorem ok_all {b : Nat} {P : Nat → Str × Str} {z : Nat → List Nat} (h1 : ∀ k, k < 12 → (P k).1 = ⟨#[b + k]⟩) (h2 : ∀ k, toL (P k).2 = z k) (hz : ∀ j k, j < 12 → b + j ∉ z k) (hl : ∀ k, (z k).length ≤ 3) (x : Str) (hx : (toL x).length ≤ 300) :
    ∀ j, j ≤ 12 → RepOk x ((List.range j).map P)
  | 0, _ => trivial
  | j + 1, hj => by
    rw [List.range_succ, List.map_append, List.map_singleton]
    refine repOk_app _ _ _ (ok_all h1 h2 hz hl x hx j (by omega)) ?_
    have e : P j = (⟨#[b + j]⟩, (P j).2) := by rw [← h1 j (by omega)]
    rw [e]
    refine one_ok ?_ (by rw [len_toL, h2]; exact hl _)
    rw [rep_all h1 h2 hz x j (by omega)]
    have := subB_len (b := b) (j := j) hl (toL x)
    omega
theorem thr_z (turns : List Int) (k : Nat) : toL (thrF turns k).2 = zF 65 turns k := by
  show toL (Txt.join (Str.ofString "") (turns.map fun t => letN grLt (k + t.toNat))) = _
  rw [toL_join0, List.map_map]
  unfold zF
  induction turns with
  | nil => rfl
  | cons t r ih =>
    rw [List.map_cons, List.map_cons, List.flatten_cons, ih]
    show toL (letN grLt (k + t.toNat)) ++ _ = _
    rw [letN_gr]
    rfl
theorem bck_z (turns : List Int) (k : Nat) : toL (bckF turns k).2 = zF 97 turns k := by
  show toL (Txt.join (Str.ofString "") (turns.map fun t => letN smLt (k + t.toNat))) = _
  rw [toL_join0, List.map_map]
  unfold zF
  induction turns with
  | nil => rfl
  | cons t r ih =>
    rw [List.map_cons, List.map_cons, List.flatten_cons, ih]
    show toL (letN smLt (k + t.toNat)) ++ _ = _
    rw [letN_sm]
    rfl
theorem zF_len {turns : List Int} (c3 : turns.length ≤ 3) (b k : Nat) : (zF b turns k).length ≤ 3 := by unfold zF; rw [List.length_map]; exact c3
theorem thr_ok {turns : List Int} (c3 : turns.length ≤ 3) (x : Str) (hx : (toL x).length ≤ 300) : RepOk x ((List.range 12).map (thrF turns)) := by
  refine ok_all (b := 97) (z := zF 65 turns) ?_ (thr_z turns) ?_ (zF_len c3 _) x hx 12 (Nat.le_refl _)
  · intro k hk
    show letN smLt k = _
    rw [letN_sm, Nat.mod_eq_of_lt hk]
  · intro j k hj hm
    obtain ⟨t, _, e⟩ := List.mem_map.mp hm
    omega
theorem bck_ok {turns : List Int} (c3 : turns.length ≤ 3) (x : Str) (hx : (toL x).length ≤ 300) : RepOk x ((List.range 12).map (bckF turns)) := by
  refine ok_all (b := 65) (z := zF 97 turns) ?_ (bck_z turns) ?_ (zF_len c3 _) x hx 12 (Nat.le_refl _)
  · intro k hk
    show letN grLt k = _
    rw [letN_gr, Nat.mod_eq_of_lt hk]
  · intro j k hj hm
    obtain ⟨t, _, e⟩ := List.mem_map.mp hm
    omega
theorem due_len {row turns : List Int} (w2 : row.length ≤ 2) (c3 : turns.length ≤ 3) (r : Nat) (hr : r < 4) : (toL (dueF row turns (r : Int))).length ≤ 300 := by
  rw [due_toL]
  unfold encL posN
  rw [List.length_map, List.length_map, List.length_range]
  have h : turns.length ^ r ≤ 3 ^ 3 := Nat.le_trans (Nat.pow_le_pow_left c3 r) (Nat.pow_le_pow_right (by decide) (by omega))
  exact Nat.le_trans (Nat.mul_le_mul w2 h) (by decide)
theorem law_ok (row turns : List Int) (w2 : row.length ≤ 2) (hc : 0 < turns.length) (c3 : turns.length ≤ 3) (ht : ∀ t ∈ turns, 0 ≤ t) (r : Nat) (hr : r < 4) : RepOk (dueF row turns 0) (rndP turns r) := by
  have e1 := law_plain row turns hc ht 1 (by decide)
  have e2 := law_plain row turns hc ht 2 (by decide)
  have o1 := thr_ok c3 (dueF row turns ((0 : Nat) : Int)) (due_len w2 c3 0 (by decide))
  have o2 := bck_ok c3 (dueF row turns ((1 : Nat) : Int)) (due_len w2 c3 1 (by decide))
  have o3 := thr_ok c3 (dueF row turns ((2 : Nat) : Int)) (due_len w2 c3 2 (by decide))
  rw [← e1] at o2
  rw [← e2] at o3
  have o12 : RepOk (dueF row turns 0) (rndP turns 2) := repOk_app _ _ _ o1 o2
  have : r = 0 ∨ r = 1 ∨ r = 2 ∨ r = 3 := by omega
  rcases this with rfl | rfl | rfl | rfl
  · trivial
  · exact o1
  · exact o12
  · exact repOk_app _ _ _ o12 o3
theorem flat_app : ∀ (ps qs : List (Str × Str)), flat (ps ++ qs) = flat ps ++ flat qs
  | [], _ => rfl
  | (a, b) :: r, qs => by simp only [List.cons_append, flat, flat_app r qs]
theorem flat_take (turns : List Int) (r : Nat) (hr : r < 4) :
    (flat ((List.range 12).map (thrF turns)) ++ flat ((List.range 12).map (bckF turns)) ++ flat ((List.range 12).map (thrF turns))).take (24 * r) = flat (rndP turns r) := by
  have l1 := flat_len (thrF turns) 12
  have l2 := flat_len (bckF turns) 12
  have : r = 0 ∨ r = 1 ∨ r = 2 ∨ r = 3 := by omega
  rcases this with rfl | rfl | rfl | rfl
  · rfl
  · rw [List.append_assoc]
    exact List.take_left' l1
  · show _ = flat (_ ++ _)
    rw [flat_app]
    exact List.take_left' (by rw [List.length_append, l1, l2])
  · show _ = flat (_ ++ _ ++ _)
    rw [flat_app, flat_app]
    exact List.take_of_length_le (by rw [List.length_append, List.length_append, l1, l2]; exact Nat.le_refl _)
theorem rnd_len (turns : List Int) (r : Nat) (hr : r < 4) : (flat (rndP turns r)).length = 24 * r := by
  rw [← flat_take turns r hr, List.length_take]
  have l1 := flat_len (thrF turns) 12
  have l2 := flat_len (bckF turns) 12
  rw [List.length_append, List.length_append, l1, l2]
  omega
end

section -- Sl0
open PySem PySem.W PyProof.Rows PySem.Flt PySem.Calls PySem.Spec PyProof.V
set_option maxRecDepth 100000
set_option maxHeartbeats 2000000

/-- the first b things of a short list -/
theorem slice_few {prog : Program} {w : World} {A : Around} {s : Shared} {L : Addr} {h₀ : Heap} {m : Str → Option Value} {E : Value → Shared → Prop} {news : List (Addr × Obj)} {value slice : Expr} {l : Addr} {vs : List Value} {n : Int} {t : Tok} {b : Nat} {Q : Value → Shared → Prop}
    (F : Fr h₀ L s.heap m) (N : News h₀ L s.heap news) (hl : s.heap.IsList l vs.toArray) (hb : n = (b : Int)) (hz : vs.length ≤ 1000)
    (h : ∀ D h', Fr h₀ L h' m → News h₀ L h' ((D, W.listOf (vs.take b).toArray 0) :: news) → (∀ p ∈ news, p.1 < D) → Q (.ref D) { s with heap := h' })
    (hs : subscripted slice false (.ref l) (.ref s.heap.objs.size) = operate [.ref s.heap.objs.size, .ref l] (getItem (.ref l) (.ref s.heap.objs.size))) (ht : ∀ r, letTemporaryGo value (.ref l) r = pure ()) :
    wpAny (model prog w) A (subscriptTail value slice (.ref l) (.ref s.heap.objs.size)) Q E { s with heap := s.heap.push { cls := .type "slice", data := .fields #[.none, .int n t, .none] } } := by
  subst hb
  refine kmk_slice_lit (zs := vs.take b) F N hl .none (.int _ _) ?_ h hs ht (by rw [List.size_toArray, sizeLine_eq]; omega)
  rw [slicePick_upto']
end

section -- Lw0
open PySem PySem.W PyProof.Rows PySem.Flt PySem.Calls PySem.Spec PyProof.V
set_option maxRecDepth 100000
set_option maxHeartbeats 2000000

/-- what holds of the numbers -/
noncomputable def NumsOk (nums : List Int) : Prop := 1 ≤ nums.length ∧ nums.length ≤ 3 ∧ ∀ x ∈ nums, 0 ≤ x ∧ x < 432
theorem numsOk_two : NumsOk [190, 83] := by refine ⟨by decide, by decide, ?_⟩; decide
theorem numsOk_take {ns : List Int} (h : ns ≠ []) : NumsOk ((ns.take 3).map fun x => x.fmod 432) := by
  have : 0 < ns.length := List.length_pos_iff.mpr h
  refine ⟨by rw [List.length_map, List.length_take]; omega, by rw [List.length_map, List.length_take]; omega, ?_⟩
  intro x hx
  obtain ⟨y, _, rfl⟩ := List.mem_map.mp hx
  exact ⟨Int.fmod_nonneg_of_pos _ (by decide), Int.fmod_lt_of_pos _ (by decide)⟩
theorem take3_len (ns : List Int) : (ns.take 3).length ≤ 1000 := by rw [List.length_take]; omega
noncomputable def rowF (nums : List Int) : List Int := (nums.take 2).map fun x => x.fmod 12
noncomputable def turnF (nums : List Int) (k : Nat) : Int := ((nums.getD k 0).fdiv 12 + (k : Int)).fmod 12
noncomputable def turnsF (nums : List Int) : List Int := (List.range nums.length).map (turnF nums)
theorem row_len (nums : List Int) : (rowF nums).length ≤ 2 := by unfold rowF; rw [List.length_map, List.length_take]; omega
theorem turns_len (nums : List Int) : (turnsF nums).length = nums.length := by unfold turnsF; rw [List.length_map, List.length_range]
theorem turns_in (nums : List Int) : ∀ t ∈ turnsF nums, 0 ≤ t ∧ t < 12 := by
  intro t h
  obtain ⟨k, _, rfl⟩ := List.mem_map.mp h
  exact ⟨Int.fmod_nonneg_of_pos _ (by decide), Int.fmod_lt_of_pos _ (by decide)⟩
theorem num_in {nums : List Int} (h : NumsOk nums) {k : Nat} (hk : k < nums.length) : 0 ≤ nums.getD k 0 ∧ nums.getD k 0 < 432 := by
  rw [List.getD_eq_getElem?_getD, List.getElem?_eq_getElem hk]
  exact h.2.2 _ (List.getElem_mem hk)
theorem num_inI {nums : List Int} (h : NumsOk nums) {k : Nat} (hk : k < nums.length) : 0 ≤ nums.getD ((k : Int)).toNat 0 ∧ nums.getD ((k : Int)).toNat 0 < 432 := by
  rw [Int.toNat_natCast]
  exact num_in h hk
noncomputable def lowF (nums : List Int) : Int := (nums.getD 0 0).fdiv 144
theorem low_in {nums : List Int} (h : NumsOk nums) : 0 ≤ lowF nums ∧ lowF nums ≤ 2 := by
  have hn := num_in h (k := 0) h.1
  unfold lowF
  rw [Int.fdiv_eq_ediv_of_nonneg _ (by decide)]
  omega
theorem ring_eq (low : Int) : ringB.map (31 * low + ·) = (List.range 12).map (ringF low) := rfl

section
variable {M : Model} {A : Around} {E : Value → Shared → Prop} {s : Shared} {h₀ : Heap} {L : Addr} {m : Str → Option Value} {news : List (Addr × Obj)}
/-- the numbers are made -/
noncomputable def NumPost (h₀ : Heap) (L : Addr) (m : Str → Option Value) (news : List (Addr × Obj)) (s : Shared) (v : Value) (s' : Shared) : Prop :=
  ∃ l nv nums k h' tk, v = .ref l ∧ s' = { s with heap := h', toks := tk } ∧ NumsOk nums ∧ IntsAre nv nums ∧ Fr h₀ L h' m ∧ News h₀ L h' ((l, W.listOf nv.toArray k) :: news) ∧ (∀ p ∈ news, p.1 ≠ l)
theorem num_join {t : Sem Value} {Q : Value → Shared → Prop} (F : Fr h₀ L s.heap m) (N : News h₀ L s.heap news) (h1 : Fr h₀ L s.heap m → News h₀ L s.heap news → wpAny M A t (NumPost h₀ L m news s) E s)
    (h2 : ∀ l nv nums k h' tk, NumsOk nums → IntsAre nv nums → Fr h₀ L h' m → News h₀ L h' ((l, W.listOf nv.toArray k) :: news) → (∀ p ∈ news, p.1 ≠ l) → Q (.ref l) { s with heap := h', toks := tk }) : wpAny M A t Q E s :=
  wpAny_mono (h1 F N) (fun _ _ ⟨l, nv, nums, k, h', tk, e1, e2, a, b, c, d, e⟩ => by subst e1; subst e2; exact h2 l nv nums k h' tk a b c d e) fun _ _ e => e
theorem num_end {s₁ : Shared} {l : Addr} {nv : List Value} {nums : List Int} {k : Nat} {h' : Heap} {tk : Nat} {ns' : List (Addr × Obj)} (hO : NumsOk nums) (hI : IntsAre nv nums) (F : Fr h₀ L h' m) (N : News h₀ L h' ns') (hl : (l, W.listOf nv.toArray k) ∈ ns') (hs : ∀ p ∈ news, p ∈ ns') (hn : ∀ p ∈ news, p.1 ≠ l) (e : s₁ = { s with heap := h', toks := tk }) :
    NumPost h₀ L m news s (.ref l) s₁ :=
  ⟨l, nv, nums, k, h', tk, rfl, e, hO, hI, F, cb_drop (news := (l, W.listOf nv.toArray k) :: news) N (fun p hp => (List.mem_cons.mp hp).elim (fun e => e ▸ hl) (hs p)), hn⟩
end
section
variable {prog : Program} {w : World} {A : Around} {s : Shared} {L : Addr} {h₀ : Heap} {m : Str → Option Value} {E : Value → Shared → Prop} {news : List (Addr × Obj)} {value slice : Expr} {l : Addr} {vs : List Value} {t : Tok} {Q : Value → Shared → Prop}
theorem slice_two (F : Fr h₀ L s.heap m) (N : News h₀ L s.heap news) (hl : s.heap.IsList l vs.toArray) (hz : vs.length ≤ 1000)
    (h : ∀ D h', Fr h₀ L h' m → News h₀ L h' ((D, W.listOf (vs.take 2).toArray 0) :: news) → (∀ p ∈ news, p.1 < D) → Q (.ref D) { s with heap := h' })
    (hs : subscripted slice false (.ref l) (.ref s.heap.objs.size) = operate [.ref s.heap.objs.size, .ref l] (getItem (.ref l) (.ref s.heap.objs.size))) (ht : ∀ r, letTemporaryGo value (.ref l) r = pure ()) :
    wpAny (model prog w) A (subscriptTail value slice (.ref l) (.ref s.heap.objs.size)) Q E { s with heap := s.heap.push { cls := .type "slice", data := .fields #[.none, .int 2 t, .none] } } :=
  slice_few (b := 2) F N hl rfl hz h hs ht
theorem slice_rnd {r : Nat} (F : Fr h₀ L s.heap m) (N : News h₀ L s.heap news) (hl : s.heap.IsList l vs.toArray) (hz : vs.length ≤ 1000)
    (h : ∀ D h', Fr h₀ L h' m → News h₀ L h' ((D, W.listOf (vs.take (24 * r)).toArray 0) :: news) → (∀ p ∈ news, p.1 < D) → Q (.ref D) { s with heap := h' })
    (hs : subscripted slice false (.ref l) (.ref s.heap.objs.size) = operate [.ref s.heap.objs.size, .ref l] (getItem (.ref l) (.ref s.heap.objs.size))) (ht : ∀ r, letTemporaryGo value (.ref l) r = pure ()) :
    wpAny (model prog w) A (subscriptTail value slice (.ref l) (.ref s.heap.objs.size)) Q E { s with heap := s.heap.push { cls := .type "slice", data := .fields #[.none, .int (24 * (r : Int)) t, .none] } } :=
  slice_few (b := 24 * r) F N hl (by omega) hz h hs ht
end
section
variable {prog : Program} {w : World} {A : Around} {s : Shared} {L D : Addr} {h₀ : Heap} {E : Value → Shared → Prop} {news : List (Addr × Obj)} {nv : List Value} {nums : List Int} {k : Nat} {Q : Value → Shared → Prop}
theorem len_nums (N : News h₀ L s.heap news) (hm : (D, W.listOf nv.toArray k) ∈ news) (hI : IntsAre nv nums) (hO : NumsOk nums) (h : Q (.int (nums.length : Nat) (s.toks + 1)) { s with toks := s.toks + 1 + 1 }) :
    wpAny (model prog w) A (call (.builtin "len") [.ref D]) Q E s := by
  have e : nv.toArray.size = nums.length := by rw [List.size_toArray, hI.length]
  have := hO.2.1
  refine Calls.call_len_list (News.isList N hm) (by rw [e]; omega) ?_
  rw [e]
  exact h
end
theorem strs_take : ∀ {vs : List Value} {ys : List Str}, StrsAre vs ys → ∀ k : Nat, StrsAre (vs.take k) (ys.take k)
  | _, _, _, 0 => .nil
  | _, _, .nil, _ + 1 => .nil
  | _, _, .cons y t H, k + 1 => .cons y t (strs_take H k)
end

section -- Lw1x
open PySem PySem.W PyProof.Rows PySem.Flt PySem.Calls PySem.Spec PyProof.V
set_option maxRecDepth 100000
set_option maxHeartbeats 2000000

noncomputable def pairsF (nums : List Int) : List Str := flat ((List.range 12).map (thrF (turnsF nums))) ++ flat ((List.range 12).map (bckF (turnsF nums))) ++ flat ((List.range 12).map (thrF (turnsF nums)))
theorem pairs_len (nums : List Int) : (pairsF nums).length = 72 := by
  unfold pairsF
  rw [List.length_append, List.length_append, flat_len, flat_len]
section
variable {w : World} {loose : List Str} {mean : ExcName → Option Value} {mg mb : Str → Option Value} {dp un : Nat} {gd : Option (List Code)} {cn : Str} {cs : Scope} {a : Addr} {ccd : Value} {cl : List (Str × Addr)} {outer : List Env} {A₀ : Around} {base h₀ : Heap} {L : Addr} {m : Str → Option Value} {s : Shared} {news : List (Addr × Obj)} {Q E : Value → Shared → Prop} {nums : List Int}
theorem use_ring {x : Int} {t : Tok} (hO : NumsOk nums) (e : x = lowF nums)
    (B : Below A₀ base outer h₀) (F : Fr h₀ L s.heap m) (X : (hd.heap_39 w.params).In h₀) (N : News h₀ L s.heap news) (T : Top hd.view_39 loose mean mg mb h₀) (hk : cs.kind = .function) (hd' : dp + 2 < recursionLimit) (hu : un + 8 * 2 < cLine)
    (ret : ∀ D gv n h' tk', IntsAre gv ((List.range 12).map (ringF (lowF nums))) → Fr h₀ L h' m → News h₀ L h' ((D, W.listOf gv.toArray n) :: news) → Q (.ref D) { s with heap := h', toks := tk' }) :
    wpAny (model Challenge.rw_mq0158_01.row.prog w) (ktrTop dp un gd cn cs L a ccd cl outer) (call (.ref 63) [.int x t]) Q E s := by
  subst e
  obtain ⟨h0, h2⟩ := low_in hO
  refine con_use (c_ring w (lowF nums) h0 h2 t) B F X N T hk hd' hu trivial fun r tl h' tk' hOut F' N' _ => ?_
  obtain ⟨D, gv, n, rfl, rfl, hI⟩ := hOut
  refine ret D gv.toList n h' tk' hI F' ?_
  rw [Array.toArray_toList]
  exact N'
theorem use_rounds {aG aT : Addr} {gv tv : List Value} (hO : NumsOk nums) (hG : IntsAre gv ((List.range 12).map (ringF (lowF nums)))) (hT : IntsAre tv (turnsF nums)) (pG : s.heap.IsList aG gv.toArray) (pT : s.heap.IsList aT tv.toArray)
    (B : Below A₀ base outer h₀) (F : Fr h₀ L s.heap m) (X : (hd.heap_39 w.params).In h₀) (N : News h₀ L s.heap news) (T : Top hd.view_39 loose mean mg mb h₀) (hk : cs.kind = .function) (hd' : dp + 4 < recursionLimit) (hu : un + 8 * 4 < cLine)
    (ret : ∀ D pv n h' tk', StrsAre pv (pairsF nums) → Fr h₀ L h' m → News h₀ L h' ((D, W.listOf pv.toArray n) :: news) → Q (.ref D) { s with heap := h', toks := tk' }) :
    wpAny (model Challenge.rw_mq0158_01.row.prog w) (ktrTop dp un gd cn cs L a ccd cl outer) (call (.ref 75) [.ref aG, .ref aT]) Q E s := by
  obtain ⟨h0, h2⟩ := low_in hO
  refine con_use (c_rounds w aG aT gv tv (lowF nums) (turnsF nums) h0 h2 hG hT (by rw [turns_len]; exact hO.1) (by rw [turns_len]; exact hO.2.1) (turns_in nums)) B F X N T hk hd' hu ⟨pG, pT⟩ fun r tl h' tk' hOut F' N' _ => ?_
  obtain ⟨D, pv, n, rfl, rfl, hS⟩ := hOut
  exact ret D pv n h' tk' hS F' N'
theorem use_due {r : Nat} {x : Int} {t : Tok} {aR aT : Addr} {rv tv : List Value} (e : x = (r : Int)) (hr : r < 4) (hO : NumsOk nums) (hR : IntsAre rv (rowF nums)) (hT : IntsAre tv (turnsF nums)) (pR : s.heap.IsList aR rv.toArray) (pT : s.heap.IsList aT tv.toArray)
    (B : Below A₀ base outer h₀) (F : Fr h₀ L s.heap m) (X : (hd.heap_39 w.params).In h₀) (N : News h₀ L s.heap news) (T : Top hd.view_39 loose mean mg mb h₀) (hk : cs.kind = .function) (hd' : dp + 3 < recursionLimit) (hu : un + 8 * 3 < cLine)
    (ret : ∀ t' h' tk', Fr h₀ L h' m → News h₀ L h' news → Q (.str (dueF (rowF nums) (turnsF nums) (r : Int)) t') { s with heap := h', toks := tk' }) :
    wpAny (model Challenge.rw_mq0158_01.row.prog w) (ktrTop dp un gd cn cs L a ccd cl outer) (call (.ref 80) [.ref aR, .ref aT, .int x t]) Q E s := by
  subst e
  refine con_use (c_due w aR aT rv tv (rowF nums) (turnsF nums) (r : Int) t hR hT (by omega) (by omega) (by rw [turns_len]; exact hO.1) (by rw [turns_len]; exact hO.2.1) (row_len nums)) B F X N T hk hd' hu ⟨pR, pT⟩ fun v tl h' tk' hOut F' N' _ => ?_
  obtain ⟨t', rfl, rfl⟩ := hOut
  exact ret t' h' tk' F' N'
theorem use_repl {r : Nat} {t : Tok} {ws : List Value} (hr : r < 4) (hO : NumsOk nums) (hS : StrsAre ws ((pairsF nums).take (24 * r)))
    (B : Below A₀ base outer h₀) (F : Fr h₀ L s.heap m) (X : (hd.heap_39 w.params).In h₀) (N : News h₀ L s.heap news) (T : Top hd.view_39 loose mean mg mb h₀) (hk : cs.kind = .function) (hd' : dp + 1 < recursionLimit) (hu : un + 8 * 1 < cLine)
    (ret : ∀ t' h' tk', Fr h₀ L h' m → News h₀ L h' news → Q (.str (dueF (rowF nums) (turnsF nums) (r : Int)) t') { s with heap := h', toks := tk' }) :
    wpAny (model Challenge.rw_mq0158_01.row.prog w) (ktrTop dp un gd cn cs L a ccd cl outer) (call (.ref 56) (.str (dueF (rowF nums) (turnsF nums) ((0 : Nat) : Int)) t :: ws)) Q E s := by
  have hlen : ws.length ≤ 100 := by
    rw [hS.length, List.length_take, pairs_len]
    omega
  have hS' : StrsAre ws (flat (rndP (turnsF nums) r)) := by
    rw [← flat_take (turnsF nums) r hr]
    exact hS
  have hc : 0 < (turnsF nums).length := by rw [turns_len]; exact hO.1
  have hc3 : (turnsF nums).length ≤ 3 := by rw [turns_len]; exact hO.2.1
  have ht : ∀ t ∈ turnsF nums, 0 ≤ t := fun t h => (turns_in nums t h).1
  refine con_use (c_replace w (dueF (rowF nums) (turnsF nums) 0) t (rndP (turnsF nums) r) ws hS' (law_ok _ _ (row_len nums) hc hc3 ht r hr) hlen) B F X N T hk hd' hu trivial fun v tl h' tk' hOut F' N' _ => ?_
  obtain ⟨t', rfl, rfl⟩ := hOut
  rw [law_plain _ _ hc ht r hr]
  exact ret t' h' tk' F' N'
end
section
variable {prog : Program} {w : World} {A : Around} {E : Value → Shared → Prop} {s : Shared} {h₀ : Heap} {L a : Addr} {m : Str → Option Value} {news : List (Addr × Obj)}
theorem star_few {vs : List Value} {k : Nat} {Q : List Value → Shared → Prop} (F : Fr h₀ L s.heap m) (N : News h₀ L s.heap news) (ha : (a, W.listOf vs.toArray k) ∈ news) (hz : vs.length ≤ 1000)
    (h : ∀ h', Fr h₀ L h' m → News h₀ L h' news → Q vs { s with heap := h' }) : StarOf (model prog w) A E (.ref a) Q s :=
  star_seq F N ha rfl rfl (.inl rfl) (by simp) (by rw [List.size_toArray, sizeLine_eq]; omega) h
end
/-- between the rounds -/
noncomputable def JL (D2 D3 Dp : Addr) (news₀ : List (Addr × Obj)) (_ : Nat) (m : Str → Option Value) (news : List (Addr × Obj)) : Prop :=
  m (Str.ofString "row") = some (.ref D2) ∧ m (Str.ofString "turns") = some (.ref D3) ∧ m (Str.ofString "pairs") = some (.ref Dp) ∧ news = news₀
theorem ne_same (x : Str) : (x != x) = false := by simp
end

section -- LW1
open PySem PySem.W PyProof.Rows PySem.Flt PySem.Calls PySem.Spec PyProof.V
set_option maxRecDepth 100000
set_option maxHeartbeats 8000000
local macro_rules | `(tactic| k_ne) => `(tactic| (refine neN ?_; (try dsimp only); first | exact NeF.out (by with_reducible assumption) | exact NeF.out' (by with_reducible assumption)))
local macro_rules | `(tactic| walk_at "subscriptTail Name Slice ref ref") => `(tactic| ((with_reducible show wpAny _ _ (subscriptTail _ _ (Value.ref _) (Value.ref _)) _ _ _); (with_unfolding_all refine' slice_two ?k1 ?k2 ?k3 ?k4 ?_ ?k6 ?k7; (case k1 | k2 => k_asm); (case k3 => is_list); (case k4 => assumption); (case k6 => with_unfolding_all rfl); (case k7 => intro _; with_unfolding_all rfl)); intro D' h' F' N' l1; (try k_lt l1); (try dsimp only)))
local macro_rules | `(tactic| walk_at "call builtin:len") => `(tactic| ((with_reducible show wpAny _ _ (call (Value.builtin "len") [Value.ref _]) _ _ _); k_dflt (refine' len_nums ?k1 ?k2 ?k3 ?k4 ?_; (case k1 => k_asm); (case k2 => k_mem); (case k3 | k4 => assumption))))
local macro_rules | `(tactic| walk_at "call ref") => `(tactic| ((with_reducible show wpAny _ _ (call (Value.ref 63) [Value.int _ _]) _ _ _); k_dflt (refine' use_ring ?p0 ?p1 ?k1 ?k2 ?k3 ?k4 ?k5 ?k6 ?k7 ?k8 ?_; (case p0 => assumption); (case p1 => exact rfl); walk_at "MY use"); intro D' gv' n' h' tk' hG' F' N'; (try dsimp only)))
local macro_rules | `(tactic| walk_at "call ref") => `(tactic| ((with_reducible show wpAny _ _ (call (Value.ref 75) [Value.ref _, Value.ref _]) _ _ _); k_dflt (refine' use_rounds ?p0 ?p1 ?p2 ?p3 ?p4 ?k1 ?k2 ?k3 ?k4 ?k5 ?k6 ?k7 ?k8 ?_; (case p0 | p1 | p2 => assumption); (case p3 | p4 => exact News.isList (by k_asm) (by k_mem)); walk_at "MY use"); intro D' gv' n' h' tk' hG' F' N'; (try dsimp only)))
local macro_rules | `(tactic| walk_at "call ref") => `(tactic| ((with_reducible show wpAny _ _ (call (Value.ref 80) [Value.ref _, Value.ref _, Value.int (Nat.cast _) _]) _ _ _); k_dflt (refine' use_due (r := _) ?p0 ?p1 ?p2 ?p3 ?p4 ?p5 ?p6 ?k1 ?k2 ?k3 ?k4 ?k5 ?k6 ?k7 ?k8 ?_; (case p0 => exact rfl); (case p1 | p2 | p3 | p4 => assumption); (case p5 | p6 => exact News.isList (by k_asm) (by k_mem)); walk_at "MY use"); intro t' h' tk' F' N'; (try dsimp only)))
local macro_rules | `(tactic| walk_at "call ref") => `(tactic| ((with_reducible show wpAny _ _ (call (Value.ref 80) [Value.ref _, Value.ref _, Value.int 0 _]) _ _ _); k_dflt (refine' use_due (r := 0) ?p0 ?p1 ?p2 ?p3 ?p4 ?p5 ?p6 ?k1 ?k2 ?k3 ?k4 ?k5 ?k6 ?k7 ?k8 ?_; (case p0 => exact rfl); (case p1 => decide); (case p2 | p3 | p4 => assumption); (case p5 | p6 => exact News.isList (by k_asm) (by k_mem)); walk_at "MY use"); intro t' h' tk' F' N'; (try dsimp only)))
local macro_rules | `(tactic| walk_at "call ref") => `(tactic| ((with_reducible show wpAny _ _ (call (Value.ref 56) (Value.str (dueF _ _ _) _ :: _)) _ _ _); k_dflt (refine' use_repl ?p0 ?p1 ?p2 ?k1 ?k2 ?k3 ?k4 ?k5 ?k6 ?k7 ?k8 ?_; (case p0 | p1 => assumption); (case p2 => (rw [List.append_nil]; exact strs_take (by assumption) _)); walk_at "MY use"); intro t' h' tk' F' N'; (try dsimp only)))
local macro_rules | `(tactic| walk_at "StarOf ref") => `(tactic| (k_dflt (refine' star_few ?k1 ?k2 ?m ?z ?_; (case k1 | k2 => k_asm); (case m => k_mem); (case z => (rw [List.length_take]; omega))); intro h' F' N'; (try k_sweep); (try dsimp only [List.nil_append, List.cons_append])))
local macro_rules | `(tactic| walk_at "exec For Name Call cons nil") => `(tactic| (refine wpAny_For ?_ (fun _ => rfl)))
local macro_rules | `(tactic| walk_at "pyIter ref") => `(tactic| (refine rest_ ?_))
local macro_rules | `(tactic| walk_at "subscriptTail Name Slice ref ref") => `(tactic| ((with_reducible show wpAny _ _ (subscriptTail _ _ (Value.ref _) (Value.ref _)) _ _ _); (with_unfolding_all refine' slice_rnd ?k1 ?k2 ?k3 ?k4 ?_ ?k6 ?k7; (case k1 | k2 => k_asm); (case k3 => is_list); (case k4 => assumption); (case k6 => with_unfolding_all rfl); (case k7 => intro _; with_unfolding_all rfl)); intro D' h' F' N' l1; (try k_lt l1); (try dsimp only)))

theorem law_w : PySem.Challenge.rw_mq0158_01.Holds := hd (by
  w_strict (k_go0; (all_goals try k_fold); walk1; walk1)
  clear law_w
  rename_i ns hs hlay0 hLy hr1 hl2 w5 w4 aS vs w1 hLs ra ww1 r0 hI0 hr hc1 hc2 K0 hDD h₁ tk₁ F0 wO dO N0 X0
  (try clear hs)
  (try clear hlay0)
  (try clear hLy)
  (try clear hr1)
  (try clear hl2)
  (try clear hr)
  (try clear ra)
  (try clear ww1)
  (try clear r0)
  (try clear hDD)
  (try clear hc2)
  refine num_join F0 N0 ?_ ?_
  · clear F0 N0
    intro F0 N0
    w_strict k_steps
    · (rename Fr _ _ _ _ => F1)
      (rename News _ _ _ _ => N1)
      refine num_end numsOk_two (.cons _ _ (.cons _ _ .nil)) F1 N1 (.head _) (fun p hp => .tail _ (.tail _ hp)) (fun p hp => ?_) rfl
      rw [List.mem_singleton.mp hp]
      (rename _ ∧ _ => hlt)
      exact Nat.ne_of_lt hlt.2
    · (rename Fr _ _ _ _ => F1)
      (rename News _ _ _ _ => N1)
      (rename _ = false => hem)
      (rename IntsAre _ (List.take 3 ns) => hI1)
      refine CompAt.lst (fun x => x.fmod 432) (News.isList N1 (by k_mem)) hI1 (take3_len _) F1 N1 ?_ ?_
      · intro C p tp s₂ m₂ E' hp FC NC hm
        (try dsimp only at hm)
        w_strict k_steps
        exact GotI.to rfl fun _ _ e => e
      · intro D ys k h' tk hI F N hD
        have hne : ns ≠ [] := of_decide_eq_false hem
        exact num_end (numsOk_take hne) hI F N (.head _) (fun p hp => .tail _ (.tail _ (.tail _ hp))) (fun p hp => hD _ (.tail _ (.tail _ hp))) rfl
  · clear F0 N0
    intro l nv nums k h' tk hO hI F1 N1 hne
    have hz : nv.length ≤ 1000 := by rw [hI.length]; have := hO.2.1; omega
    w_strict k_steps
    (rename Fr _ _ _ _ => F2)
    (rename News _ _ _ _ => N2)
    (rename _ = Data.cell (some (Value.ref l)) => dC)
    refine CompAt.lst (ns := nums.take 2) (fun x => x.fmod 12) (News.isList N2 (.head _)) (hI.take 2) (by rw [List.length_take]; omega) F2 N2 ?_ ?_
    · intro C p tp s₂ m₂ E' hp FC NC hm
      (try dsimp only at hm)
      w_strict k_steps
      exact GotI.to rfl fun _ _ e => e
    · intro D2 rv k2 h2 tk2 hR F3 N3 hD
      replace hR : IntsAre rv (rowF nums) := hR
      replace F3 : Fr _ (Array.size _) h2 _ := F3
      replace N3 : News _ (Array.size _) h2 [(D2, _), (l, _), (_ + 1, _)] := cb_drop N3 fun p hp => (List.mem_cons.mp hp).elim (fun e => e ▸ .head _) fun h => .tail _ (.tail _ h)
      clear F2 N2 hD
      (try clear F1)
      (try clear N1)
      w_strict k_steps
      (rename Fr _ _ _ _ => F4)
      (rename News _ _ _ _ => N4)
      (rename IsRange _ _ _ _ _ _ _ _ => R4)
      have gC := News.get N4 (a := _ + 1) (by k_mem)
      have gN := News.isList N4 (a := l) (by k_mem)
      have hlt := hO.2.1
      refine CompAt.rng (n := nums.length) (turnF nums) R4 rfl (by omega) F4 N4 ?_ ?_
      · intro C i ti s₂ m₂ E' hi FC NC hm
        (try dsimp only at hm)
        have gC := FC.keep _ _ gC
        have gN := gN.at fun o e => FC.keep _ o e
        obtain ⟨b0, b1⟩ := num_inI hO hi
        w_strict k_steps
        exact GotI.to (by rw [Int.toNat_natCast]; rfl) fun _ _ e => e
      · intro D3 tv k3 h3 tk3 hT F5 N5 hD3
        replace hT : IntsAre tv (turnsF nums) := hT
        replace F5 : Fr _ (Array.size _) h3 _ := F5
        replace N5 : News _ (Array.size _) h3 [(D3, _), (D2, _), (l, _), (_ + 1, _)] := N5
        clear F4 N4 R4 gC gN hD3
        have hl0 := hO.1
        have bz : 0 ≤ nums.getD (0 : Int).toNat 0 ∧ nums.getD (0 : Int).toNat 0 < 432 := num_in hO hO.1
        obtain ⟨bz0, bz1⟩ := bz
        w_strict k_steps
        (rename Fr _ _ _ _ => F6)
        (rename News _ _ _ _ => N6)
        (rename IsRange _ _ _ _ _ _ _ _ => R6)
        (rename StrsAre _ _ => hS)
        rename_i Dp pv np hA tkA hB FB NB hC tkC tB uB vB hst
        have hz72 : pv.length ≤ 1000 := by rw [hS.length, pairs_len]; decide
        clear hst FB NB F5 N5 bz0 bz1
        unfold Rest
        refine iter_rng (n := 4) rfl R6 rfl (by decide) F6 (cb_drop (news := [(Dp, W.listOf pv.toArray np), (D3, W.listOf tv.toArray k3), (D2, W.listOf rv.toArray k2)]) N6 (fun p hp => ?_)) (JL D2 D3 Dp [(Dp, W.listOf pv.toArray np), (D3, W.listOf tv.toArray k3), (D2, W.listOf rv.toArray k2)]) ⟨rfl, rfl, rfl, rfl⟩ ?_ ?_ (by passes_own)
        · rcases List.mem_cons.mp hp with rfl | hp
          · exact .head _
          · rcases List.mem_cons.mp hp with rfl | hp
            · exact .tail _ (.tail _ (.head _))
            · rw [List.mem_singleton.mp hp]
              exact .tail _ (.tail _ (.tail _ (.head _)))
        · rintro i ti m₁ news₁ I hh₁ tkk₁ oI hi ⟨e1, e2, e3, rfl⟩ hnI F₁ N₁
          replace F₁ : Fr _ (Array.size _) hh₁ m₁ := F₁
          replace N₁ : News _ (Array.size _) hh₁ _ := N₁
          clear F6 N6 R6
          (try k_fold)
          w_strict k_steps
          · (rename _ = true => hq)
            rw [ne_same] at hq
            cases hq
          · (rename Fr _ _ _ _ => F₂)
            (rename News _ _ _ _ => N₂)
            exact stepG [_] F₂ N₂ hnI ⟨e1, e2, e3, rfl⟩
        · rintro hh₁ tkk₁ m₁ news₁ ⟨e1, e2, e3, rfl⟩ F₁ N₁
          replace F₁ : Fr _ (Array.size _) hh₁ m₁ := F₁
          replace N₁ : News _ (Array.size _) hh₁ _ := N₁
          clear F6 N6 R6
          dsimp only
          (try k_fold)
          w_strict k_steps)
end

end

end

end

end

end Mine

theorem PySem.Challenge.cw_mq0158_01_holds : PySem.Challenge.rw_mq0158_01.Holds := by
  exact Mine.law_w
