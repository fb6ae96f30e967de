import PyProof.Rows.All
import Wide.All
import OpenK.AllK
import Wide.FinOn
import PySem.Challenge.RW_mq0172_02
open PySem PySem.W PyProof.Rows
set_option Elab.async false
section
open PySem PySem.W PyProof.Rows PySem.Calls
set_option maxRecDepth 100000
namespace Mine
@[reducible] def ar (dp u : Nat) (gd : Option (List Code)) (outer : List Env) : Around := { handled := none, depth := dp, frames := some outer, guards := gd, units := u }

/-- a call of a def that changes nothing that stood: it may read the objects `objs` of the ledger, and hands back a value and some new objects -/
def Pure (prog : Program) (w : World) (K : Frag) (loose : List Str) (mean : ExcName → Option Value) (mg mb : Str → Option Value) (dn un : Nat) (f : Value) (vs : List Value) (objs : List (Addr × Obj)) (P : Value → List (Addr × Obj) → Prop) : Prop :=
  ∀ (dp u : Nat) (gd : Option (List Code)) (env : Env) (outer : List Env) (A₀ : Around) (base h₀ : Heap) (L : Addr) (m : Str → Option Value) (news : List (Addr × Obj)) (s : Shared) (Q E : Value → Shared → Prop),
    Below A₀ base outer h₀ → Fr h₀ L s.heap m → News h₀ L s.heap news → K.In h₀ → Top topProg loose mean mg mb h₀ → env.frame = some L → env.scope.kind = .function → (∀ p ∈ objs, p ∈ news) →
    dp + dn < recursionLimit → u + un < cLine →
    (∀ v made h' tk, P v made → Fr h₀ L h' m → News h₀ L h' (made ++ news) → (∀ q ∈ news, ∀ p ∈ made, @Ne Nat q.1 p.1) → Q v { s with heap := h', toks := tk }) →
    wpAny (model prog w) (ar dp u gd (env :: outer)) (call f vs) Q E s

/-- the callee's ground: what stands, but the objects that it is handed -/
def grnd (h : Heap) (objs : List (Addr × Obj)) : Heap := hideAll h (objs.map (·.1))

section
variable {prog : Program} {w : World} {A₀ A : Around} {base h₀ : Heap} {outer : List Env} {L : Addr} {m : Str → Option Value} {news objs : List (Addr × Obj)} {s : Shared} {env : Env} {K : Frag} {p : Program} {loose : List Str} {mean : ExcName → Option Value} {mg mb : Str → Option Value}

theorem off_objs (N : News h₀ L s.heap news) (ho : ∀ p ∈ objs, p ∈ news) {b : Addr} {o : Obj} (e : h₀.get? b = some o) : b ∉ objs.map (·.1) := fun q => by
  obtain ⟨p, hp, rfl⟩ := List.mem_map.mp q
  rw [(N p (ho p hp)).2.2] at e; cases e
theorem L_off (N : News h₀ L s.heap news) (ho : ∀ p ∈ objs, p ∈ news) : L ∉ objs.map (·.1) := fun q => by
  obtain ⟨p, hp, e⟩ := List.mem_map.mp q
  exact (N p (ho p hp)).2.1 e
theorem grnd_stays (F : Fr h₀ L s.heap m) (N : News h₀ L s.heap news) (ho : ∀ p ∈ objs, p ∈ news) : h₀.StaysIn (grnd s.heap objs) := fun b o e => hideAll_get _ (F.keep b o e) (off_objs N ho e)
theorem grnd_below (B : Below A₀ base outer h₀) (F : Fr h₀ L s.heap m) (N : News h₀ L s.heap news) (ho : ∀ p ∈ objs, p ∈ news) (hA : A.frames = some (env :: outer)) (hf : env.frame = some L) (hke : env.scope.kind = .function) :
    Below A base (env :: outer) (grnd s.heap objs) := by
  have st := grnd_stays F N ho
  obtain ⟨oL, es, ep, hL, hLd, hLk, hLf⟩ := F.ns
  have hLg : (grnd s.heap objs).get? L = some oL := hideAll_get _ hL (L_off N ho)
  have hn : base.get? L = none := by
    cases hq : base.get? L with
    | none => rfl
    | some o => exact absurd (Nat.lt_of_lt_of_le (Heap.lt_size (B.stays L o hq)) F.above) (Nat.lt_irrefl _)
  refine ⟨hA, fun b o e => st b o (B.stays b o e), ?_⟩
  exact .cons (by rw [hke]; decide) hf ⟨oL, es, ep, hLg, hLd, hLk, hLf⟩ hn (B.frames.of_keeps fun b o e _ => ⟨o, st b o e, rfl⟩)

/-- what the caller has when the callee has left -/
theorem back_news {h' : Heap} {L' : Addr} {m' : Str → Option Value} {made : List (Addr × Obj)} (F : Fr h₀ L s.heap m) (N : News h₀ L s.heap news) (ho : ∀ p ∈ objs, p ∈ news)
    (F' : Fr (grnd s.heap objs) L' h' m') (N' : News (grnd s.heap objs) L' h' (made ++ objs)) :
    Fr h₀ L h' m ∧ News h₀ L h' (made ++ news) := by
  have st := grnd_stays F N ho
  obtain ⟨oL, es, ep, hL, hLd, hLk, hLf⟩ := F.ns
  have hLg : (grnd s.heap objs).get? L = some oL := hideAll_get _ hL (L_off N ho)
  refine ⟨⟨⟨oL, es, ep, F'.keep L oL hLg, hLd, hLk, hLf⟩, fun b o e => F'.keep b o (st b o e), F.above⟩, fun p hp => ?_⟩
  rcases List.mem_append.mp hp with hm | hn
  · have z := N' p (List.mem_append_left _ hm)
    refine ⟨z.1, fun q => ?_, ?_⟩
    · have := z.2.2; rw [q, hLg] at this; cases this
    · cases q : h₀.get? p.1 with
      | none => rfl
      | some o => have := z.2.2; rw [st _ _ q] at this; cases this
  · have z := N p hn
    refine ⟨?_, z.2⟩
    by_cases q : p.1 ∈ objs.map (·.1)
    · obtain ⟨r, hr, e⟩ := List.mem_map.mp q
      have y := (N r (ho r hr)).1
      have x := (N' r (List.mem_append_right _ hr)).1
      rw [e] at y x
      rw [x, ← y, z.1]
    · exact F'.keep _ _ (hideAll_get _ z.1 q)

/-- into a def of the written part -/
theorem enter {R : Result → Shared → Prop} {name qual : Str} {params : Arguments} {body : List Stmt} {scope : Scope} {dV kV doc pm cdv ct oc : Value} {an od : Option Addr} {osl : Array (Option Value)} {f : Addr} {args : Args} {binds : List (Str × Value)}
    (B : Below A₀ base outer h₀) (F : Fr h₀ L s.heap m) (N : News h₀ L s.heap news) (X : K.In h₀) (T : Top p loose mean mg mb h₀) (hf : env.frame = some L) (hke : env.scope.kind = .function) (ho : ∀ p ∈ objs, p ∈ news) (hA : A.frames = some (env :: outer))
    (hk : K.lookup f = some ⟨oc, od, .func (fnOf name qual params body scope dV kV doc pm an cdv ct), osl⟩) (hcd : codeIn K cdv qual = true) (hroom : A.depth < recursionLimit)
    (hbind : BindsTo s (fnOf name qual params body scope dV kV doc pm an cdv ct) args binds) (hloc : ∀ y ∈ binds, scope.names.lookup y.1 = some .local)
    (h : ∀ g L' h₁, g = grnd s.heap objs → Fr g L' h₁ (fun y => binds.reverse.lookup y) → News g L' h₁ objs → Below A base (env :: outer) g → K.In g → Top p loose mean mg mb g →
      wpAny (model prog w) (A.deeper (envOf qual scope L' f cdv)) (execs body (envOf qual scope L' f cdv))
        (fun fl s' => R (.ok (.ret (match fl with | .ret v => v | _ => .none))) s')
        (fun e s' => wpAny (model prog w) (A.deeper (envOf qual scope L' f cdv)) (leaving (envOf qual scope L' f cdv) e) (fun _ s'' => R (.error e) s'') (fun e' s'' => R (.error e') s'') s')
        { s with heap := h₁, toks := s.toks + binds.length })
    (hco : scope.isCoroutine = false) (hgen : scope.isGenerator = false) (hk' : scope.kind = .function)
    (hcell : ∀ x ∈ scope.names, x.2 ≠ .cell) : codeAny (model prog w) A (.call (.ref f) args) R s := by
  have st := grnd_stays F N ho
  have X' := X.keeps F.keep
  refine codeAny_call_def (fd := fnOf name qual params body scope dV kV doc pm an cdv ct) (body := body) (binds := binds) hroom (X' _ _ hk) rfl (T.nolimit.keeps F.keep) (codeRec_of X' hcd) rfl hbind hcell hloc
    (fun h₁ hns hk₁ => h _ _ h₁ rfl ⟨hns, fun b o e => hk₁ b o (of_hideAll _ e), Nat.le_of_eq (hideAll_size _ _)⟩ (fun p hp => ?_) (grnd_below B F N ho hA hf hke) (X.keeps st) (T.keeps st)) hco hgen hk'
  have z := N p (ho p hp)
  exact ⟨hk₁ _ _ z.1, Nat.ne_of_lt (Heap.lt_size z.1), hideAll_none _ (List.mem_map_of_mem hp)⟩

/-- the callee's end -/
theorem leave {P : Value → List (Addr × Obj) → Prop} {Q : Value → Shared → Prop} {g h' : Heap} {L' : Addr} {m' : Str → Option Value} {all : List (Addr × Obj)} {v : Value} {tk : Nat} (F : Fr h₀ L s.heap m) (N : News h₀ L s.heap news) (ho : ∀ p ∈ objs, p ∈ news) (hg : g = grnd s.heap objs)
    (hret : ∀ v made h' tk, P v made → Fr h₀ L h' m → News h₀ L h' (made ++ news) → (∀ q ∈ news, ∀ p ∈ made, @Ne Nat q.1 p.1) → Q v { s with heap := h', toks := tk })
    (F' : Fr g L' h' m') (N' : News g L' h' all) (made : List (Addr × Obj)) (hs : ∀ p ∈ made ++ objs, p ∈ all) (hlt : ∀ p ∈ made, ∀ q ∈ objs, @Ne Nat q.1 p.1) (hP : P v made) : Q v { s with heap := h', toks := tk } := by
  subst hg
  have z := back_news F N ho F' (made := made) fun p hp => N' p (hs p hp)
  refine hret v made h' tk hP z.1 z.2 fun q hq p hp e => ?_
  have y := (N' p (hs p (List.mem_append_left _ hp))).2.2
  have x := (N q hq).1
  by_cases c : q.1 ∈ objs.map (·.1)
  · obtain ⟨r, hr, e'⟩ := List.mem_map.mp c
    exact hlt p hp r hr (e'.trans e)
  · have := hideAll_get (objs.map (·.1)) x c
    rw [e] at this
    rw [show (hideAll s.heap (objs.map (·.1))).get? p.1 = none from y] at this
    cases this
end
end Mine
end
section
open PySem PySem.W PyProof.Rows PySem.Calls
set_option maxRecDepth 100000
namespace Mine
/-- a token handed on: not nought, if the three are not -/
def Nz (t u v r : Nat) : Prop := t ≠ 0 → u ≠ 0 → v ≠ 0 → r ≠ 0
theorem nz_use {t u v r : Nat} (h : Nz t u v r) (h1 : t ≠ 0) (h2 : u ≠ 0) (h3 : v ≠ 0) : r ≠ 0 := h h1 h2 h3
theorem keep_tok {α : Type} {M : Model} {A : Around} {t : Sem α} {Q : α → Shared → Prop} {E : Value → Shared → Prop} {h : Heap} {g : Array GenState} {d : Drawn} {o : OsState} {tk : Nat} (hz : tk ≠ 0) (k : ∀ tk' : Nat, tk' ≠ 0 → wpAny M A t Q E ⟨h, g, d, tk', o⟩) : wpAny M A t Q E ⟨h, g, d, tk, o⟩ := k tk hz
def Tk3 (t u v : Nat) : Prop := t ≠ 0 ∧ u ≠ 0 ∧ v ≠ 0
def mx (x y : UInt64) : UInt64 := if (Float64.cmp x y == some .lt) = true then y else x
def mn (x y : UInt64) : UInt64 := if (Float64.cmp y x == some .lt) = true then y else x
section
variable {prog : Program} {w : World} {A : Around} {E : Value → Shared → Prop} {s : Shared} {Q : Value → Shared → Prop} {x y z : UInt64} {t u v : Tok} {h₀ : Heap} {L : Addr} {m : Str → Option Value} {news : List (Addr × Obj)}
theorem max3_num (hh : A.handled = none) (F : Fr h₀ L s.heap m) (N : News h₀ L s.heap news)
    (k : ∀ h' tk r, Nz t u v r → Fr h₀ L h' m → News h₀ L h' news → Q (.float (mx (mx x y) z) r) { s with heap := h', toks := tk }) :
    wpAny (model prog w) A (call (.builtin "max") [.float x t, .float y u, .float z v]) Q E s := by
  have hT : (s.heap.push { cls := .type "tuple", data := .seq #[.float x t, .float y u, .float z v] }).IsTuple s.heap.objs.size #[.float x t, .float y u, .float z v] := ⟨_, Heap.get?_push_size _ rfl, rfl, 0, rfl⟩
  have hsz : (s.heap.push { cls := .type "tuple", data := .seq #[.float x t, .float y u, .float z v] }).objs.size = s.heap.objs.size + 1 := Heap.size_push ..
  refine call_max_three (wpAny_pyIter_tuple hT ⟨_, [_, s.heap.objs.size], [_], _, _, _, _, rfl, Walks.tuple (A := A.in1) hh _ s.heap.objs.size (by rw [hsz]; exact Nat.ne_of_lt (Nat.lt_succ_self _)) #[.float x t, .float y u, .float z v],
    ⟨⟨_, Heap.get?_push_size _ rfl, rfl, rfl⟩, hT.push _⟩, fun d hd => ?_, by simp, Flt.cmpOf_gt #[.float x t, .float y u, .float z v] (by intro q hq; simp only [List.mem_toArray, List.mem_cons, List.not_mem_nil, or_false] at hq; rcases hq with rfl | rfl | rfl <;> exact .float _ _), fun r h' tk hP hk => ?_⟩)
  · show d < ((s.heap.push _).push _).objs.size
    rw [Heap.size_push, hsz]
    rcases List.mem_cons.mp hd with rfl | hd
    · rw [hsz]; exact Nat.lt_succ_self _
    · rw [List.mem_singleton.mp hd]; exact Nat.lt_succ_of_lt (Nat.lt_succ_self _)
  · have keep : ∀ d o, s.heap.get? d = some o → h'.get? d = some o := fun d o e => by
      refine hk d o (fun hm => ?_) (Heap.get?_push_of_some _ (Heap.get?_push_of_some _ e))
      rw [List.mem_singleton, hsz] at hm
      have := Heap.lt_size e
      rw [hm] at this
      exact Nat.lt_irrefl _ (Nat.lt_of_succ_lt this)
    have key := fun r hr => k h' tk r hr (F.grownK keep) (N.grown keep)
    unfold mx at key
    cases h1 : (Float64.cmp x y == some .lt) <;> cases h2 : (Float64.cmp y z == some .lt) <;> cases h3 : (Float64.cmp x z == some .lt) <;> simp [h1, h2, h3] at key <;> simp [argBest, Flt.ltV, h1, h2, h3] at hP <;> subst hP <;> exact key _ (fun h1 h2 h3 => by first | exact h1 | exact h2 | exact h3)
theorem min3_num (hh : A.handled = none) (F : Fr h₀ L s.heap m) (N : News h₀ L s.heap news)
    (k : ∀ h' tk r, Nz t u v r → Fr h₀ L h' m → News h₀ L h' news → Q (.float (mn (mn x y) z) r) { s with heap := h', toks := tk }) :
    wpAny (model prog w) A (call (.builtin "min") [.float x t, .float y u, .float z v]) Q E s := by
  have hT : (s.heap.push { cls := .type "tuple", data := .seq #[.float x t, .float y u, .float z v] }).IsTuple s.heap.objs.size #[.float x t, .float y u, .float z v] := ⟨_, Heap.get?_push_size _ rfl, rfl, 0, rfl⟩
  have hsz : (s.heap.push { cls := .type "tuple", data := .seq #[.float x t, .float y u, .float z v] }).objs.size = s.heap.objs.size + 1 := Heap.size_push ..
  refine call_min_three (wpAny_pyIter_tuple hT ⟨_, [_, s.heap.objs.size], [_], _, _, _, _, rfl, Walks.tuple (A := A.in1) hh _ s.heap.objs.size (by rw [hsz]; exact Nat.ne_of_lt (Nat.lt_succ_self _)) #[.float x t, .float y u, .float z v],
    ⟨⟨_, Heap.get?_push_size _ rfl, rfl, rfl⟩, hT.push _⟩, fun d hd => ?_, by simp, Flt.cmpOf_lt #[.float x t, .float y u, .float z v] (by intro q hq; simp only [List.mem_toArray, List.mem_cons, List.not_mem_nil, or_false] at hq; rcases hq with rfl | rfl | rfl <;> exact .float _ _), fun r h' tk hP hk => ?_⟩)
  · show d < ((s.heap.push _).push _).objs.size
    rw [Heap.size_push, hsz]
    rcases List.mem_cons.mp hd with rfl | hd
    · rw [hsz]; exact Nat.lt_succ_self _
    · rw [List.mem_singleton.mp hd]; exact Nat.lt_succ_of_lt (Nat.lt_succ_self _)
  · have keep : ∀ d o, s.heap.get? d = some o → h'.get? d = some o := fun d o e => by
      refine hk d o (fun hm => ?_) (Heap.get?_push_of_some _ (Heap.get?_push_of_some _ e))
      rw [List.mem_singleton, hsz] at hm
      have := Heap.lt_size e
      rw [hm] at this
      exact Nat.lt_irrefl _ (Nat.lt_of_succ_lt this)
    have key := fun r hr => k h' tk r hr (F.grownK keep) (N.grown keep)
    unfold mn at key
    cases h1 : (Float64.cmp y x == some .lt) <;> cases h2 : (Float64.cmp z y == some .lt) <;> cases h3 : (Float64.cmp z x == some .lt) <;> simp [h1, h2, h3] at key <;> simp [argBest, Flt.ltV, h1, h2, h3] at hP <;> subst hP <;> exact key _ (fun h1 h2 h3 => by first | exact h1 | exact h2 | exact h3)
end
end Mine
namespace Mine
section
variable {prog : Program} {w : World} {A : Around} {E : Value → Shared → Prop} {s : Shared} {Q : Value → Shared → Prop} {a b : UInt64} {t u : Tok}
theorem div_ok (hA : A.handled = none) (hz : Float64.isZero b = false) (h : Q (.float (Float64.div a b) s.toks) { s with toks := s.toks + 1 }) : wpAny (model prog w) A (binaryOp .Div (.float a t) (.float b u)) Q E s :=
  truediv_float_or hA (fun e => by rw [hz] at e; cases e) fun _ => h
theorem mod_ok (hA : A.handled = none) (hz : Float64.isZero b = false) (h : Q (.float (Float64.divmod a b).2 s.toks) { s with toks := s.toks + 1 }) : wpAny (model prog w) A (binaryOp .Mod (.float a t) (.float b u)) Q E s :=
  Flt.mod_ff hA (fun e => by rw [hz] at e; cases e) fun _ => h
end
end Mine
end
section
open PySem PySem.W PyProof.Rows PySem.Calls
set_option maxRecDepth 100000
namespace Mine
abbrev tup2 (a b : Value) : Obj := { cls := .type "tuple", data := .seq #[a, b] }
abbrev tup3 (a b c : Value) : Obj := { cls := .type "tuple", data := .seq #[a, b, c] }
/-- the hue as both systems reckon it -/
def hueF (r g b : UInt64) : UInt64 :=
  let M := mx (mx r g) b
  let d := Float64.sub M (mn (mn r g) b)
  let rc := Float64.div (Float64.sub M r) d
  let gc := Float64.div (Float64.sub M g) d
  let bc := Float64.div (Float64.sub M b) d
  (Float64.divmod (Float64.div (if (Float64.cmp r M == some .eq) = true then Float64.sub bc gc else if (Float64.cmp g M == some .eq) = true then Float64.sub (Float64.add 4611686018427387904 rc) bc else Float64.sub (Float64.add 4616189618054758400 gc) rc) 4618441417868443648) 4607182418800017408).2
def hsvF (r g b : UInt64) : UInt64 × UInt64 × UInt64 :=
  let M := mx (mx r g) b
  let m := mn (mn r g) b
  if (Float64.cmp m M == some .eq) = true then (0, 0, M) else (hueF r g b, Float64.div (Float64.sub M m) M, M)
/-- no division by nought -/
def hsvOk (r g b : UInt64) : Bool :=
  let M := mx (mx r g) b
  let m := mn (mn r g) b
  (Float64.cmp m M == some .eq) || (!Float64.isZero M && !Float64.isZero (Float64.sub M m))
end Mine
namespace Mine
section
variable {h₀ : Heap} {L : Addr} {m : Str → Option Value} {news objs : List (Addr × Obj)} {s : Shared}
/-- the end of a def that hands back one new object -/
theorem leave1 {P : Value → List (Addr × Obj) → Prop} {Q : Value → Shared → Prop} {g h' : Heap} {L' : Addr} {m' : Str → Option Value} {all : List (Addr × Obj)} {q : Addr × Obj} {v : Value} {tk : Nat} (F : Fr h₀ L s.heap m) (N : News h₀ L s.heap news) (ho : ∀ p ∈ objs, p ∈ news)
    (hret : ∀ v made h' tk, P v made → Fr h₀ L h' m → News h₀ L h' (made ++ news) → (∀ q ∈ news, ∀ p ∈ made, @Ne Nat q.1 p.1) → Q v { s with heap := h', toks := tk })
    (hg : g = grnd s.heap objs) (F' : Fr g L' h' m') (N' : News g L' h' (q :: all)) (hs : ∀ p ∈ objs, p ∈ all) (hlt : ∀ r ∈ objs, @Ne Nat r.1 q.1) (hP : P v [q]) : Q v { s with heap := h', toks := tk } :=
  leave F N ho hg hret F' N' [q] (fun p hp => by
    rcases List.mem_append.mp hp with hp | hp
    · rw [List.mem_singleton.mp hp]; exact List.mem_cons_self
    · exact List.mem_cons_of_mem _ (hs p hp)) (fun p hp r hr => by rw [List.mem_singleton.mp hp]; exact hlt r hr) hP
end
/-- a new tuple of three floats -/
def RetF3 (p : UInt64 × UInt64 × UInt64) (v : Value) (made : List (Addr × Obj)) : Prop := ∃ a t1 t2 t3, v = .ref a ∧ made = [(a, tup3 (.float p.1 t1) (.float p.2.1 t2) (.float p.2.2 t3))] ∧ Tk3 t1 t2 t3
theorem RetF3.of {p : UInt64 × UInt64 × UInt64} {x y z : UInt64} {a : Addr} {t1 t2 t3 : Tok} (h : p = (x, y, z)) (h1 : @Ne Nat t1 0) (h2 : @Ne Nat t2 0) (h3 : @Ne Nat t3 0) : RetF3 p (.ref a) [(a, tup3 (.float x t1) (.float y t2) (.float z t3))] := by subst h; exact ⟨_, _, _, _, rfl, rfl, h1, h2, h3⟩
end Mine
namespace Mine
section
variable {prog : Program} {w : World} {A : Around} {E : Value → Shared → Prop} {s : Shared} {Q : Value → Shared → Prop} {x : UInt64} {n : Int} {t u : Tok}
theorem int_ok (hA : A.handled = none) (hf : Float64.isFinite x = true) (h : Q (.int (Flt.toInt Float64.truncOf x) s.toks) { s with toks := s.toks + 1 }) : wpAny (model prog w) A (call (.type "int") [.float x t]) Q E s :=
  Flt.call_int_float3 hA (fun e => absurd hf (by rw [Bool.not_eq_true]; exact Flt.not_finite_of_nan e)) (fun e => absurd hf (by rw [Bool.not_eq_true]; exact Flt.not_finite_of_inf e)) fun _ => h
end
def hlsF (r g b : UInt64) : UInt64 × UInt64 × UInt64 :=
  let M := mx (mx r g) b
  let m := mn (mn r g) b
  let l := Float64.div (Float64.add M m) 4611686018427387904
  if (Float64.cmp m M == some .eq) = true then (0, l, 0) else
    (hueF r g b, l, if (Float64.cmp l 4602678819172646912 == some .lt || Float64.cmp l 4602678819172646912 == some .eq) = true then Float64.div (Float64.sub M m) (Float64.add M m) else Float64.div (Float64.sub M m) (Float64.sub (Float64.sub 4611686018427387904 M) m))
def hlsOk (r g b : UInt64) : Bool :=
  let M := mx (mx r g) b
  let m := mn (mn r g) b
  (Float64.cmp m M == some .eq) || (!Float64.isZero (Float64.sub M m) && !Float64.isZero (Float64.add M m) && !Float64.isZero (Float64.sub (Float64.sub 4611686018427387904 M) m))
/-- hsv_to_rgb, where the share is not nought -/
def rgbF (h s v : UInt64) : UInt64 × UInt64 × UInt64 :=
  let z := Float64.mul h 4618441417868443648
  let n := Flt.toInt Float64.truncOf z
  let f := Float64.sub z (Float64.ofInt n)
  let p := Float64.mul v (Float64.sub 4607182418800017408 s)
  let q := Float64.mul v (Float64.sub 4607182418800017408 (Float64.mul s f))
  let t := Float64.mul v (Float64.sub 4607182418800017408 (Float64.mul s (Float64.sub 4607182418800017408 f)))
  let i := Int.fmod n 6
  if (Float64.cmp s 0 == some .eq) = true then (v, v, v) else
  if i = 0 then (v, t, p) else if i = 1 then (q, v, p) else if i = 2 then (p, v, t) else if i = 3 then (p, q, v) else if i = 4 then (t, p, v) else (v, p, q)
def rgbOk (h : UInt64) : Bool :=
  Float64.isFinite (Float64.mul h 4618441417868443648) && Nat.blt (Flt.toInt Float64.truncOf (Float64.mul h 4618441417868443648)).natAbs 1000
end Mine
namespace Mine
section
variable {prog : Program} {w : World} {K : Frag} {loose : List Str} {mean : ExcName → Option Value} {mg mb : Str → Option Value} {dn un : Nat} {f : Value} {vs : List Value} {objs : List (Addr × Obj)}
  {dp u : Nat} {gd : Option (List Code)} {env : Env} {outer : List Env} {A₀ : Around} {base h₀ : Heap} {L : Addr} {m : Str → Option Value} {news : List (Addr × Obj)} {s : Shared} {Q E : Value → Shared → Prop}
theorem use {P : Value → List (Addr × Obj) → Prop} (C : Pure prog w K loose mean mg mb dn un f vs objs P) (B : Below A₀ base outer h₀) (F : Fr h₀ L s.heap m) (N : News h₀ L s.heap news) (X : K.In h₀) (T : Top topProg loose mean mg mb h₀) (hf : env.frame = some L) (hk : env.scope.kind = .function) (ho : ∀ p ∈ objs, p ∈ news)
    (hd : dp + dn < recursionLimit) (hu : u + un < cLine) (ret : ∀ v made h' tk, P v made → Fr h₀ L h' m → News h₀ L h' (made ++ news) → (∀ q ∈ news, ∀ p ∈ made, @Ne Nat q.1 p.1) → Q v { s with heap := h', toks := tk }) :
    wpAny (model prog w) (ar dp u gd (env :: outer)) (call f vs) Q E s := C dp u gd env outer A₀ base h₀ L m news s Q E B F N X T hf hk ho hd hu ret
def AllNe (a : Nat) : List (Addr × Obj) → Prop
  | [] => True
  | p :: r => (@Ne Nat p.1 a) ∧ AllNe a r
theorem allNe_of {a : Nat} : ∀ {l : List (Addr × Obj)}, (∀ q ∈ l, @Ne Nat q.1 a) → AllNe a l
  | [], _ => trivial
  | _ :: _, h => ⟨h _ List.mem_cons_self, allNe_of fun q hq => h q (List.mem_cons_of_mem _ hq)⟩
theorem useF3 {p : UInt64 × UInt64 × UInt64} (C : Pure prog w K loose mean mg mb dn un f vs objs (RetF3 p)) (B : Below A₀ base outer h₀) (F : Fr h₀ L s.heap m) (N : News h₀ L s.heap news) (X : K.In h₀) (T : Top topProg loose mean mg mb h₀) (hf : env.frame = some L) (hk : env.scope.kind = .function) (ho : ∀ p ∈ objs, p ∈ news)
    (hd : dp + dn < recursionLimit) (hu : u + un < cLine) (ret : ∀ a t1 t2 t3 h' tk, Tk3 t1 t2 t3 → Fr h₀ L h' m → News h₀ L h' ((a, { cls := .type "tuple", data := .seq #[.float p.1 t1, .float p.2.1 t2, .float p.2.2 t3] }) :: news) → AllNe a news → Q (.ref a) { s with heap := h', toks := tk }) :
    wpAny (model prog w) (ar dp u gd (env :: outer)) (call f vs) Q E s := C dp u gd env outer A₀ base h₀ L m news s Q E B F N X T hf hk ho hd hu (by
  rintro v made h' tk ⟨a, t1, t2, t3, rfl, rfl, ht⟩ F' N' ne
  exact ret a t1 t2 t3 h' tk ht F' N' (allNe_of fun q hq => ne q hq _ List.mem_cons_self))
end
end Mine
end
section
open PySem PySem.W PyProof.Rows PySem.Calls
set_option maxRecDepth 100000
namespace Mine
section
variable {prog : Program} {w : World} {A₀ A : Around} {base h₀ : Heap} {outer : List Env} {L : Addr} {m : Str → Option Value} {news objs : List (Addr × Obj)} {s : Shared} {env : Env} {K : Frag} {p : Program} {loose : List Str} {mean : ExcName → Option Value} {mg mb : Str → Option Value}
/-- into a def that has cells -/
theorem enterC {R : Result → Shared → Prop} {name qual : Str} {params : Arguments} {body : List Stmt} {scope : Scope} {dV kV doc pm cdv ct oc : Value} {an od : Option Addr} {osl : Array (Option Value)} {f : Addr} {args : Args} {binds : List (Str × Value)}
    (B : Below A₀ base outer h₀) (F : Fr h₀ L s.heap m) (N : News h₀ L s.heap news) (X : K.In h₀) (T : Top p loose mean mg mb h₀) (hf : env.frame = some L) (hke : env.scope.kind = .function) (ho : ∀ p ∈ objs, p ∈ news) (hA : A.frames = some (env :: outer))
    (hk : K.lookup f = some ⟨oc, od, .func (fnOf name qual params body scope dV kV doc pm an cdv ct), osl⟩) (hcd : codeIn K cdv qual = true) (hroom : A.depth < recursionLimit)
    (hbind : BindsTo s (fnOf name qual params body scope dV kV doc pm an cdv ct) args binds) (hkind : (binds.all fun y => scope.names.lookup y.1 == some .local || scope.names.lookup y.1 == some .cell) = true)
    (hnd : ((cellsFrom 0 scope.names []).map (·.1)).Nodup)
    (h : ∀ g L' h₁ tk cells, g = grnd s.heap objs → Fr g L' h₁ (bindL (envOfC qual scope L' f cdv).kindOf binds fun _ => none) → News g L' h₁ (cells ++ objs) →
      CellsAre (bindC (envOfC qual scope L' f cdv).kindOf binds fun _ => none) (cellsFrom (L' + 1) scope.names []) cells → Below A base (env :: outer) g → K.In g → Top p loose mean mg mb g → (∀ p ∈ objs, p.1 < L') →
      wpAny (model prog w) (A.deeper (envOfC qual scope L' f cdv)) (execs body (envOfC qual scope L' f cdv))
        (fun fl s' => R (.ok (.ret (match fl with | .ret v => v | _ => .none))) s')
        (fun e s' => wpAny (model prog w) (A.deeper (envOfC qual scope L' f cdv)) (leaving (envOfC qual scope L' f cdv) e) (fun _ s'' => R (.error e) s'') (fun e' s'' => R (.error e') s'') s')
        { s with heap := h₁, toks := tk })
    (hco : scope.isCoroutine = false) (hgen : scope.isGenerator = false) (hk' : scope.kind = .function) : codeAny (model prog w) A (.call (.ref f) args) R s := by
  have st := grnd_stays F N ho
  have X' := X.keeps F.keep
  have hlim := T.nolimit.keeps F.keep
  refine codeAny_call_function hroom (X' _ _ hk) rfl hco hgen rfl (codeRec_of X' hcd) (hbind _ _ _ _ ?_)
  refine wpAny_newFunctionEnv_cells hk' (kindsX hkind _) fun env' he s' x => ?_
  subst he
  refine ⟨hlim.keeps x.toInCall.keep, codeAny_func ?_⟩
  obtain ⟨h₁, tk, rfl, _⟩ := x.done
  have hk₁ := x.toInCall.keep
  obtain ⟨cells, NC, Y⟩ := Cl.news (h₀ := s.heap) (Nat.le_refl _) fun n c hm => ⟨x.cell n c (lookup_of_mem_nodup (cellsFrom_names scope.names 0 (s.heap.objs.size + 1) [] [] rfl ▸ hnd) hm), x.above n c hm⟩
  refine h _ s.heap.objs.size h₁ tk cells rfl ⟨x.toInCall.ns, fun b o e => hk₁ b o (of_hideAll _ e), Nat.le_of_eq (hideAll_size _ _)⟩ (fun p hp => ?_) Y (grnd_below B F N ho hA hf hke) (X.keeps st) (T.keeps st) (fun p hp => Heap.lt_size (N p (ho p hp)).1)
  rcases List.mem_append.mp hp with hp | hp
  · refine ⟨(NC p hp).1, (NC p hp).2.1, ?_⟩
    cases q : (grnd s.heap objs).get? p.1 with
    | none => rfl
    | some o => have := of_hideAll _ q; rw [(NC p hp).2.2] at this; cases this
  · have z := N p (ho p hp)
    exact ⟨hk₁ _ _ z.1, Nat.ne_of_lt (Heap.lt_size z.1), hideAll_none _ (List.mem_map_of_mem hp)⟩
end
end Mine
namespace Mine
open PyProof.Rows.LCg
section
variable {prog : Program} {w : World} {A : Around} {E : Value → Shared → Prop} {s : Shared} {h₀ : Heap} {L : Addr} {m : Str → Option Value} {env : Env}
end
end Mine
namespace Mine
section
variable {prog : Program} {w : World} {A : Around} {E : Value → Shared → Prop} {s : Shared} {Q : Value → Shared → Prop} {x : UInt64} {n k : Int} {t u : Tok}
/-- the float of a quotient of two ints -/
def fr (a b : Int) : UInt64 := Float64.ofFrac (decide (a < 0) != decide (b < 0)) a.natAbs b.natAbs
theorem small_fits {n : Int} (h : n.natAbs < 2 ^ 64) : n.natAbs < 2 ^ 1023 := Nat.lt_trans h (Nat.pow_lt_pow_right (by decide) (by decide))
theorem div_ii_ok (hA : A.handled = none) (hf : n.natAbs < 2 ^ 64) (h0 : k ≠ 0) (h : Q (.float (fr n k) s.toks) { s with toks := s.toks + 1 }) : wpAny (model prog w) A (binaryOp .Div (.int n t) (.int k u)) Q E s :=
  Flt.div_ii_fits hA (small_fits hf) (fun e => absurd e h0) fun _ _ => h
theorem div_fi_ok (hA : A.handled = none) (hf : n.natAbs < 2 ^ 64) (h0 : n ≠ 0) (h : Q (.float (Float64.div x (Float64.ofInt n)) s.toks) { s with toks := s.toks + 1 }) : wpAny (model prog w) A (binaryOp .Div (.float x t) (.int n u)) Q E s :=
  Flt.truediv_fi hA (fun e => absurd e (by
    have h1 : n.natAbs < 2 ^ 1023 := small_fits hf
    have h2 : (2 : Nat) ^ 1023 ≤ 2 ^ 1024 - 2 ^ 970 := by decide +kernel
    intro o
    have h3 : 2 ^ 1024 - 2 ^ 970 ≤ n.natAbs := o
    exact absurd (Nat.lt_of_lt_of_le h1 (Nat.le_trans h2 h3)) (Nat.lt_irrefl _))) (fun e => absurd e h0) fun _ _ => h
theorem sub_fi_ok (hf : n.natAbs < 2 ^ 64) (h : Q (.float (Float64.sub x (Float64.ofInt n)) s.toks) { s with toks := s.toks + 1 }) : wpAny (model prog w) A (binaryOp .Sub (.float x t) (.int n u)) Q E s := sub_fi_fits (small_fits hf) h
theorem mul_if_ok (hf : n.natAbs < 2 ^ 64) (h : Q (.float (Float64.mul (Float64.ofInt n) x) s.toks) { s with toks := s.toks + 1 }) : wpAny (model prog w) A (binaryOp .Mult (.int n u) (.float x t)) Q E s := mul_if_fits (small_fits hf) h
end
end Mine
end
section
open PySem PySem.W PyProof.Rows PySem.Calls
set_option maxRecDepth 100000
namespace Mine
def reck (hue times white k n : Int) : Int × Int × Int :=
  if k < 2 then (Int.fmod (hue + n) 16, times, white) else if k = 2 then (Int.fmod (-hue) 16, times, white) else if k = 3 then (Int.fmod (hue + 8) 16, times, 1 - white) else (hue, times + 1, if times = 0 then 1 else white)
end Mine
namespace Mine
section
variable {prog : Program} {w : World} {A : Around} {E : Value → Shared → Prop} {s : Shared} {h₀ : Heap} {L : Addr} {m : Str → Option Value} {news : List (Addr × Obj)} {Q : Value → Shared → Prop} {a b k : Int} {t u : Tok}
def mnI (a b : Int) : Int := if b < a then b else a
def mxI (a b : Int) : Int := if b > a then b else a
theorem min2_gen (hh : A.handled = none) (F : Fr h₀ L s.heap m) (N : News h₀ L s.heap news) (h1 : -100000 ≤ a) (h2 : a ≤ 100000) (h3 : -100000 ≤ b) (h4 : b ≤ 100000)
    (h : ∀ r t h' tk, r = mnI a b → -100000 ≤ r → r ≤ 100000 → Fr h₀ L h' m → News h₀ L h' news → Q (.int r t) { s with heap := h', toks := tk }) :
    wpAny (model prog w) A (call (.builtin "min") [.int a t, .int b u]) Q E s :=
  min_two_N hh F N fun h' tk F' N' => h _ _ h' tk rfl (by split <;> omega) (by split <;> omega) F' N'
theorem mod48_gen (h : ∀ r, r = Int.fmod a 48 → 0 ≤ r → r < 48 → Q (.int r s.toks) { s with toks := s.toks + 1 }) : wpAny (model prog w) A (binaryOp .Mod (.int a t) (.int 48 u)) Q E s :=
  mod_int' (by decide) (h _ rfl (Int.fmod_nonneg_of_pos _ (by decide)) (Int.fmod_lt_of_pos _ (by decide)))
end
def fallI (hue corner : Int) : Int := mnI (mxI (mnI (Int.fmod (3 * hue - corner) 48) (48 - Int.fmod (3 * hue - corner) 48) - 8) 0) 8
end Mine
end
section
open PySem PySem.W PyProof.Rows PySem.Calls
set_option maxRecDepth 100000
namespace Mine
abbrev lstO (its : List Value) (n : Nat) : Obj := { cls := .type "list", data := .seq its.toArray n }
abbrev litO (ax : Addr) (j : Nat) : Obj := { cls := .type "list_iterator", data := .fields #[.ref ax, .int j 0] }
section
variable {prog : Program} {w : World} {A : Around} {E : Value → Shared → Prop} {s : Shared} {env : Env} {h₀ : Heap} {x : Str} {body : List Stmt} {Q : Flow → Shared → Prop}
theorem walks_from (hh : A.handled = none) (I ax : Addr) (hne : ax ≠ I) (items : Array Value) (j : Nat) (hj : j ≤ items.size) :
    Walks prog w A I [I, ax] [I] (items.size - j) (fun i v => items[i + j]? = some v) (fun i h => h.IsListIter I ax (i + j) ∧ h.IsList ax items) :=
  let W := Walks.list (prog := prog) (w := w) (A := A) hh I ax hne items
  { sub := W.sub
    frame := fun i h h' st hk => W.frame (i + j) h h' st hk
    item := fun i s Q E hi st hQ => W.item (i + j) s Q E (by omega) st fun v h' tk hP hst hk => hQ v h' tk hP (by rw [show i + 1 + j = i + j + 1 by omega]; exact hst) hk
    done := fun s Q E st hQ => W.done s Q E (by rw [show items.size - j + j = items.size by omega] at st; exact st) hQ
    self := fun i s Q E st hQ => W.self (i + j) s Q E st hQ }
/-- a turn's end -/
def TurnEnd (h₀ : Heap) (L I : Addr) (oI : Obj) (J : (Str → Option Value) → List (Addr × Obj) → Prop) (s₁ s₂ : Shared) : Prop :=
  ∃ h' tk m' nw, s₂ = { s₁ with heap := h', toks := tk } ∧ Fr h₀ L h' m' ∧ News h₀ L h' ((I, oI) :: nw) ∧ (∀ p ∈ nw, @Ne Nat p.1 I) ∧ J m' nw
def TurnPost (h₀ : Heap) (L I : Addr) (oI : Obj) (J : (Str → Option Value) → List (Addr × Obj) → Prop) (s₁ : Shared) (Q : Flow → Shared → Prop) (f : Flow) (s₂ : Shared) : Prop :=
  match f with
  | .ret v => Q (.ret v) s₂
  | .brk => Q .next s₂
  | _ => TurnEnd h₀ L I oI J s₁ s₂
/-- a loop over an iterator of a list of the ledger, from the place where it stands -/
theorem loop_from {I ax : Addr} {its : List Value} {n j : Nat} {m₀ : Str → Option Value} {news : List (Addr × Obj)} (J : Nat → (Str → Option Value) → List (Addr × Obj) → Prop)
    (hh : A.handled = none) (F : Fr h₀ env.locals s.heap m₀) (N : News h₀ env.locals s.heap ((I, litO ax j) :: news)) (hl : (ax, lstO its n) ∈ news) (hI : ∀ p ∈ news, @Ne Nat p.1 I) (hj : j ≤ its.length) (h0 : J j m₀ news)
    (hJ : ∀ i m nw, J i m nw → (ax, lstO its n) ∈ nw)
    (turn : ∀ i v m₁ nw h tk oI, its[i]? = some v → j ≤ i → J i m₁ nw → Fr h₀ env.locals h (fun y => if y = x then some v else m₁ y) → News h₀ env.locals h ((I, oI) :: nw) → (∀ p ∈ nw, @Ne Nat p.1 I) →
      wpAny (model prog w) A (execs body env) (TurnPost h₀ env.locals I oI (J (i + 1)) { s with heap := h, toks := tk } Q) E { s with heap := h, toks := tk })
    (done : ∀ m₁ nw h tk, J its.length m₁ nw → Fr h₀ env.locals h m₁ → News h₀ env.locals h nw → Q .next { s with heap := h, toks := tk }) :
    LoopAtV prog w A h₀ env x body Q E (.ref I) s := by
  have hax : ax ≠ I := hI _ hl
  have NI := N (I, litO ax j) List.mem_cons_self
  have Nn : News h₀ env.locals s.heap news := fun p hp => N p (List.mem_cons_of_mem _ hp)
  have Nl := Nn _ hl
  have W := walks_from (prog := prog) (w := w) hh I ax hax its.toArray j (by simpa using hj)
  have hsz : its.toArray.size = its.length := by simp
  refine ⟨I, _, _, _, _, _, m₀, news, fun i => J (i + j), rfl, W, ?_, ?_, ?_, ⟨⟨_, NI.1, rfl, by rw [Nat.zero_add]⟩, ⟨_, Nl.1, rfl, n, rfl⟩⟩, F, Nn, by show J (0 + j) m₀ news; rw [Nat.zero_add]; exact h0, ?_, ?_⟩
  · intro hm
    rcases List.mem_cons.mp hm with e | hm
    · exact NI.2.1 e.symm
    · exact Nl.2.1 (List.mem_singleton.mp hm).symm
  · intro b hb
    rw [List.mem_singleton.mp hb]; exact NI.2.2
  · intro p hp hm
    exact hI p hp (List.mem_singleton.mp hm)
  · rintro i v m₁ news₁ s₁ own ⟨h, tk, rfl⟩ hi hP hJi hoff hsub hget hall hst F₁ N₁
    obtain ⟨oI, hoI, _⟩ := hst.1
    have mI : (I, oI) ∈ own := hall I (by simp) NI.2.2 oI hoI
    have hv : its[i + j]? = some v := by simpa using hP
    have ne₁ : ∀ p ∈ news₁, @Ne Nat p.1 I := fun p hp e => hoff p hp (by rw [show p.1 = I from e]; simp)
    have N₂ : News h₀ env.locals h ((I, oI) :: news₁) := fun p hp => by
      rcases List.mem_cons.mp hp with rfl | hp
      · exact N₁ _ (List.mem_append_left _ mI)
      · exact N₁ _ (List.mem_append_right _ hp)
    refine wpAny_mono (turn (i + j) v m₁ news₁ h tk oI hv (by omega) hJi F₁ N₂ ne₁) (fun f s₂ hp => ?_) fun _ _ e => e
    have fin : TurnEnd h₀ env.locals I oI (J (i + j + 1)) { s with heap := h, toks := tk } s₂ → LoopStepU h₀ env.locals [I] own (fun m nw => J (i + 1 + j) m nw) { s with heap := h, toks := tk } .next s₂ := by
      rintro ⟨h', tk', m', nw, e, F', N', ne', hJ'⟩
      refine ⟨rfl, h', tk', m', nw, e, F', fun p hp => ?_, fun p hp hm => ne' p hp (List.mem_singleton.mp hm), by rw [show i + 1 + j = i + j + 1 by omega]; exact hJ'⟩
      rcases List.mem_append.mp hp with ho | hn
      · have g := hget p ho
        rcases List.mem_cons.mp (hsub p ho) with e1 | e1
        · have : p = (I, oI) := Prod.ext e1 (Option.some.inj (g.symm.trans (by rw [e1]; exact hoI)))
          rw [this]; exact N' _ List.mem_cons_self
        · have e1 := List.mem_singleton.mp e1
          have hl' := hJ _ _ _ hJ'
          have hl₁ := hJ _ _ _ hJi
          have g₁ := (N₁ _ (List.mem_append_right _ hl₁)).1
          have : p = (ax, lstO its n) := Prod.ext e1 (Option.some.inj (g.symm.trans (by rw [e1]; exact g₁)))
          rw [this]; exact N' _ (List.mem_cons_of_mem _ hl')
      · exact N' _ (List.mem_cons_of_mem _ hn)
    cases f with
    | ret v => exact .ret hp
    | brk => exact .brk hp
    | next => exact .next (fin hp)
    | cont => exact .cont (fin hp)
  · intro h' tk m' nw F' N' _ hJn
    rw [show its.toArray.size - j + j = its.length by rw [hsz]; omega] at hJn
    exact done m' nw h' tk hJn F' N'
theorem for_list {ax : Addr} {its : List Value} {n : Nat} {m₀ : Str → Option Value} {news : List (Addr × Obj)} (J : Nat → (Str → Option Value) → List (Addr × Obj) → Prop)
    (hh : A.handled = none) (F : Fr h₀ env.locals s.heap m₀) (N : News h₀ env.locals s.heap news) (hl : (ax, lstO its n) ∈ news) (h0 : J 0 m₀ news)
    (hJ : ∀ i m nw, J i m nw → (ax, lstO its n) ∈ nw)
    (turn : ∀ I i v m₁ nw h tk oI, its[i]? = some v → J i m₁ nw → Fr h₀ env.locals h (fun y => if y = x then some v else m₁ y) → News h₀ env.locals h ((I, oI) :: nw) → (∀ p ∈ nw, @Ne Nat p.1 I) →
      wpAny (model prog w) A (execs body env) (TurnPost h₀ env.locals I oI (J (i + 1)) { s with heap := h, toks := tk } Q) E { s with heap := h, toks := tk })
    (done : ∀ m₁ nw h tk, J its.length m₁ nw → Fr h₀ env.locals h m₁ → News h₀ env.locals h nw → Q .next { s with heap := h, toks := tk }) :
    wpAny (model prog w) A (pyIter (.ref ax)) (fun it s₂ => LoopAtV prog w A h₀ env x body Q E it s₂) E s := by
  refine wpAny_pyIter_list ⟨_, (N _ hl).1, rfl, n, rfl⟩ ?_
  have F' := F.push (litO ax 0)
  have N' := News.push F N (litO ax 0)
  exact loop_from (s := { s with heap := s.heap.push (litO ax 0) }) (I := s.heap.objs.size) (j := 0) J hh F' N' hl (fun p hp => Nat.ne_of_lt (Heap.lt_size (N p hp).1)) (Nat.zero_le _) h0 hJ (fun i v m₁ nw h tk oI hv _ hJi F₁ N₁ ne => turn _ i v m₁ nw h tk oI hv hJi F₁ N₁ ne) done
end
section
variable {prog : Program} {w : World} {A : Around} {E : Value → Shared → Prop} {s : Shared} {h₀ : Heap} {L : Addr} {m : Str → Option Value} {news : List (Addr × Obj)} {Q : Value → Shared → Prop}
/-- iter of a list of the ledger -/
theorem iter_list {ax : Addr} {its : List Value} {n : Nat} (F : Fr h₀ L s.heap m) (N : News h₀ L s.heap news) (hl : (ax, lstO its n) ∈ news)
    (h : ∀ I h', Fr h₀ L h' m → News h₀ L h' ((I, litO ax 0) :: news) → (∀ p ∈ news, @Ne Nat p.1 I) → Q (.ref I) { s with heap := h' }) :
    wpAny (model prog w) A (call (.builtin "iter") [.ref ax]) Q E s := by
  refine call_function_entry (by decide +kernel) (by decide +kernel) kdk_entry_iter (kdk_args_iter _) ?_
  unfold Builtin.«iter»
  refine wpAny_bind (m := someArgs "iter" 1 2 _) (wpAny_of_eq (a := [Value.ref ax]) (by first | rfl | kernel_rfl!) ?_)
  show wpAny _ _ (pyIter (.ref ax) >>= _) _ _ _
  refine wpAny_bind (wpAny_pyIter_list ⟨_, (N _ hl).1, rfl, n, rfl⟩ ?_)
  exact wpAny_pure ⟨_, rfl, h _ _ (F.push _) (News.push F N _ rfl) (fun q hq => Nat.ne_of_lt (Heap.lt_size (N q hq).1))⟩
end
end Mine
end
section
open PySem PySem.W PyProof.Rows PySem.Calls
set_option maxRecDepth 100000
namespace Mine
section
variable {prog : Program} {w : World} {A : Around} {E : Value → Shared → Prop} {s : Shared} {h₀ : Heap} {L : Addr} {m : Str → Option Value} {news : List (Addr × Obj)} {Q : Value → Shared → Prop}
theorem last_item {value slice : PySem.Expr} {a : Addr} {ys : List Value} {v : Value} {n : Nat} {u : Tok} (N : News h₀ L s.heap news) (hl : (a, lstO (ys ++ [v]) n) ∈ news) (h : Q v s)
    (hs : subscripted slice false (.ref a) (.int (-1) u) = operate [.ref a, .int (-1) u] (getItem (.ref a) (.int (-1) u)) := by with_unfolding_all rfl) :
    wpAny (model prog w) A (subscriptTail value slice (.ref a) (.int (-1) u)) Q E s := by
  have hL : s.heap.IsList a (ys ++ [v]).toArray := ⟨_, (N _ hl).1, rfl, n, rfl⟩
  refine tail_any hL.typeIs slot_list_getitem.lookup (wpAny_getItem_list_neg hL (by decide) ?_ (by decide) ?_ h) hs
  · simp; omega
  · have : ((-1 : Int) + ((ys ++ [v]).toArray.size : Int)).toNat = ys.length := by simp; omega
    rw [this]; simp
end
/-- two lists, item by item -/
inductive All2 {α β : Type} (P : α → β → Prop) : List α → List β → Prop where
  | nil : All2 P [] []
  | cons {a : α} {b : β} {l : List α} {r : List β} : P a b → All2 P l r → All2 P (a :: l) (b :: r)
section
variable {α β : Type} {P P' : α → β → Prop}
theorem All2.imp (h : ∀ a b, P a b → P' a b) {l : List α} {r : List β} (x : All2 P l r) : All2 P' l r := by
  induction x with
  | nil => exact .nil
  | cons p _ ih => exact .cons (h _ _ p) ih
theorem All2.length {l : List α} {r : List β} (x : All2 P l r) : l.length = r.length := by
  induction x with
  | nil => rfl
  | cons _ _ ih => rw [List.length_cons, List.length_cons, ih]
theorem All2.append {l l' : List α} {r r' : List β} (x : All2 P l r) (y : All2 P l' r') : All2 P (l ++ l') (r ++ r') := by
  induction x with
  | nil => exact y
  | cons p _ ih => exact .cons p ih
theorem All2.get {l : List α} {r : List β} (x : All2 P l r) : ∀ {i : Nat} {a : α}, l[i]? = some a → ∃ b, r[i]? = some b ∧ P a b := by
  induction x with
  | nil => intro i a h; simp at h
  | cons p _ ih =>
    intro i a h
    cases i with
    | zero => simp at h; subst h; exact ⟨_, rfl, p⟩
    | succ i => simp at h; simpa using ih h
end
abbrev C3 := UInt64 × UInt64 × UInt64
def IsCol (tl : List (Addr × Obj)) (v : Value) (p : C3) : Prop := ∃ a t1 t2 t3, v = .ref a ∧ (a, tup3 (.float p.1 t1) (.float p.2.1 t2) (.float p.2.2 t3)) ∈ tl ∧ Tk3 t1 t2 t3
theorem IsCol.mono {tl tl' : List (Addr × Obj)} {v : Value} {p : C3} (h : ∀ q ∈ tl, q ∈ tl') : IsCol tl v p → IsCol tl' v p := fun ⟨a, t1, t2, t3, e, hm, ht⟩ => ⟨a, t1, t2, t3, e, h _ hm, ht⟩
end Mine
end
section
open PySem PySem.W PyProof.Rows PySem.Calls
set_option maxRecDepth 100000
namespace Mine
abbrev xV : Str := Str.ofString "value"
abbrev xE : Str := Str.ofString "element"
theorem app_ne {l l' : List (Addr × Obj)} {b : Nat} (h : ∀ p ∈ l, @Ne Nat p.1 b) (hl : ∀ p ∈ l', @Ne Nat p.1 b) : ∀ p ∈ l ++ l', @Ne Nat p.1 b := fun p hp => by
  rcases List.mem_append.mp hp with hp | hp
  · exact h p hp
  · exact hl p hp
end Mine
end
section
open PySem PySem.W PyProof.Rows PySem.Calls
set_option maxRecDepth 100000
namespace Mine
open PyProof.Rows.LCg
section
variable {prog : Program} {w : World} {A : Around} {E : Value → Shared → Prop} {s : Shared} {h₀ : Heap} {L : Addr} {m : Str → Option Value} {env : Env}
/-- a comprehension's turns by what holds of what is built -/
theorem rest_inv {elt : Expr} {x : Str} {scope : Scope} {cl : List (Str × Addr)} {S : List (Addr × Obj) → Prop} {P : Nat → Value → Prop} {Fin : List Value → List (Addr × Obj) → Prop} {n : Nat} (Inv : Nat → List Value → List (Addr × Obj) → Prop)
    (step : ∀ i v I oI C oC D m₂ h tk (E' : Value → Shared → Prop) ys nw, i < n → P i v → Inv i ys nw → NsObj oC m₂ → m₂ x = some v → Fr h₀ L h m → News h₀ L h ((I, oI) :: (C, oC) :: (D, lst ys) :: nw) → Off3 I C D nw → ((@Ne Nat I C) ∧ (@Ne Nat I D) ∧ (@Ne Nat C D)) →
      wpAny (model prog w) A (eval elt (compEnvC scope cl C env)) (CompEnd h₀ L m { s with heap := h, toks := tk } I oI C oC D (lst ys) S (fun y nw' => Inv (i + 1) (ys ++ [y]) nw')) E' { s with heap := h, toks := tk })
    (fin : ∀ ys nw, Inv n ys nw → Fin ys nw) : ∀ k i ys nw, i + k = n → Inv i ys nw → CompRest prog w A h₀ L m env elt x scope cl s S P Fin k i ys nw := by
  intro k
  induction k with
  | zero => intro i ys nw e h; rw [Nat.add_zero] at e; subst e; exact CompRest.zero (fin ys nw h)
  | succ k ih =>
    intro i ys nw e hI
    refine CompRest.succ fun v I oI C oC D m₂ h tk E' hP hC hx F N off ne => ?_
    refine wpAny_mono (step i v I oI C oC D m₂ h tk E' ys nw (by omega) hP hI hC hx F N off ne) (fun y s₂ hq => ?_) fun _ _ e => e
    obtain ⟨h', tk', nw', e1, F', N', off', hS, hI'⟩ := hq
    exact ⟨h', tk', nw', e1, F', N', off', hS, ih (i + 1) _ nw' (by omega) hI'⟩
end
section
variable {α : Type} {a b c d e f : α} {l nw : List α}
theorem mem0 (h : nw = a :: l) : a ∈ nw := h ▸ .head _
theorem mem1 (h : nw = a :: b :: l) : b ∈ nw := h ▸ .tail _ (.head _)
theorem mem2 (h : nw = a :: b :: c :: l) : c ∈ nw := h ▸ .tail _ (.tail _ (.head _))
end
theorem ints_of : ∀ {vs : List Value}, (∀ v ∈ vs, ∃ z t, v = .int z t) → ∃ zs, IntsAre vs zs
  | [], _ => ⟨[], .nil⟩
  | v :: vs, h => by
    obtain ⟨z, t, rfl⟩ := h v List.mem_cons_self
    obtain ⟨zs, hz⟩ := ints_of fun x hx => h x (List.mem_cons_of_mem _ hx)
    exact ⟨z :: zs, .cons z t hz⟩
theorem ints_mem {vs : List Value} {ns : List Int} (h : IntsAre vs ns) : ∀ v ∈ vs, ∃ z t, v = .int z t := by
  induction h with
  | nil => intro v hv; cases hv
  | cons n t _ ih =>
    intro v hv
    rcases List.mem_cons.mp hv with rfl | hv
    · exact ⟨_, _, rfl⟩
    · exact ih v hv
theorem pick_ints {items : Array Value} {lo hi st : Option Int} (h : ∀ v ∈ items.toList, ∃ z t, v = Value.int z t) : ∀ v ∈ (slicePick items lo hi st).toList, ∃ z t, v = Value.int z t := by
  intro v hv
  unfold slicePick at hv
  rw [List.toList_toArray, List.mem_filterMap] at hv
  obtain ⟨i, _, hi⟩ := hv
  exact h v (by rw [Array.mem_toList_iff]; exact Array.mem_of_getElem? hi)
section
variable {prog : Program} {w : World} {A : Around} {E : Value → Shared → Prop} {s : Shared} {h₀ : Heap} {L : Addr} {m : Str → Option Value} {news : List (Addr × Obj)} {Q : Value → Shared → Prop}
theorem sum_any {l : Addr} {its : Array Value} {n : Nat} (F : Fr h₀ L s.heap m) (N : News h₀ L s.heap news) (hh : A.handled = none) (hm : (l, ({ cls := .type "list", data := .seq its n } : Obj)) ∈ news) (hi : ∀ v ∈ its.toList, ∃ z t, v = Value.int z t)
    (h : ∀ z h' tk t', Fr h₀ L h' m → News h₀ L h' news → Q (.int z t') { s with heap := h', toks := tk }) : wpAny (model prog w) A (call (.builtin "sum") [.ref l]) Q E s := by
  obtain ⟨zs, hz⟩ := ints_of hi
  exact LSm.sum_ints F N hh (vs := its.toList) ⟨_, (N _ hm).1, rfl, n, by rw [Array.toArray_toList]⟩ hz fun h' tk t' F' N' => h _ h' tk t' F' N'
end
end Mine
namespace Mine
def IsInt (v : Value) : Prop := ∃ z t, v = .int z t
/-- a new list of n ints -/
def RetInts (n : Nat) (v : Value) (made : List (Addr × Obj)) : Prop := ∃ a ys k, v = .ref a ∧ made = [(a, lstO ys k)] ∧ ys.length = n ∧ ∀ y ∈ ys, IsInt y
end Mine
namespace Mine
open PyProof.Rows.LCg
section
variable {prog : Program} {w : World} {A : Around} {E : Value → Shared → Prop} {s : Shared} {h₀ : Heap} {L : Addr} {m : Str → Option Value} {env : Env}
/-- the same, under names that no line of the walk knows -/
def CompSrcW (prog : Program) (w : World) (A : Around) (h₀ : Heap) (L : Addr) (m : Str → Option Value) (env : Env) (elt : Expr) (x : Str) (scope : Scope) (cl : List (Str × Addr)) (Fin : Shared → List Value → List (Addr × Obj) → Prop) (xv : Value) (s₁ : Shared) : Prop := CompSrc prog w A h₀ L m env elt x scope cl Fin xv s₁
def CompEndW (h₀ : Heap) (L : Addr) (m : Str → Option Value) (s₁ : Shared) (I : Addr) (oI : Obj) (C : Addr) (oC : Obj) (D : Addr) (oD : Obj) (S : List (Addr × Obj) → Prop) (rest : Value → List (Addr × Obj) → Prop) (y : Value) (s₂ : Shared) : Prop := CompEnd h₀ L m s₁ I oI C oC D oD S rest y s₂
theorem CompEndW.of {I C D : Addr} {s₁ : Shared} {oI oC oD : Obj} {S : List (Addr × Obj) → Prop} {rest : Value → List (Addr × Obj) → Prop} {y : Value} {h' : Heap} {tk : Nat} {all : List (Addr × Obj)}
    (F : Fr h₀ L h' m) (N : News h₀ L h' all) (nw : List (Addr × Obj)) (sub : ∀ p ∈ (I, oI) :: (C, oC) :: (D, oD) :: nw, p ∈ all) (off : Off3 I C D nw) (hS : S nw) (r : rest y nw) :
    CompEndW h₀ L m s₁ I oI C oC D oD S rest y { s₁ with heap := h', toks := tk } := CompEnd.intro F N nw sub off hS r
theorem rest_invW {elt : Expr} {x : Str} {scope : Scope} {cl : List (Str × Addr)} {S : List (Addr × Obj) → Prop} {P : Nat → Value → Prop} {Fin : List Value → List (Addr × Obj) → Prop} {n : Nat} {news : List (Addr × Obj)} (Inv : Nat → List Value → List (Addr × Obj) → Prop) (h0 : Inv 0 [] news)
    (step : ∀ i v I oI C oC D m₂ h tk (E' : Value → Shared → Prop) ys nw, i < n → P i v → Inv i ys nw → NsObj oC m₂ → m₂ x = some v → Fr h₀ L h m → News h₀ L h ((I, oI) :: (C, oC) :: (D, lst ys) :: nw) → Off3 I C D nw → ((@Ne Nat I C) ∧ (@Ne Nat I D) ∧ (@Ne Nat C D)) →
      wpAny (model prog w) A (eval elt (compEnvC scope cl C env)) (CompEndW h₀ L m { s with heap := h, toks := tk } I oI C oC D (lst ys) S (fun y nw' => Inv (i + 1) (ys ++ [y]) nw')) E' { s with heap := h, toks := tk })
    (fin : ∀ ys nw, Inv n ys nw → Fin ys nw) : CompRest prog w A h₀ L m env elt x scope cl s S P Fin n 0 [] news := rest_inv Inv step fin n 0 [] news (by omega) h0
theorem ListComp_W {elt iter : Expr} {x : Str} {px : Pos} {scope : Scope} {cl : List (Str × Addr)} {pos : Pos} {Q : Value → Shared → Prop} (F₀ : Fr h₀ L s.heap m)
    (hclos : closureFor scope env = pure cl) (hcell : ∀ y ∈ scope.names, y.2 ≠ .cell) (hkind : scope.kind = .function)
    (hnames : ∀ y ∈ scope.names, y.2 = .local → scope.names.lookup y.1 = some .local) (hx : scope.names.lookup x = some .local)
    (h : wpAny (model prog w) A (eval iter env) (CompSrcW prog w A h₀ L m env elt x scope cl (fun s₂ => FinE h₀ L m s₂ Q)) E s)
    (hs : ∀ x, foldedSetIterable iter env x = pure x := by intro _; rfl) :
    wpAny (model prog w) A (eval (.ListComp elt [⟨.Name x px, iter, [], 0⟩] scope pos) env) Q E s := ListComp_U F₀ hclos hcell hkind hnames hx h hs
end
end Mine
namespace Mine
section
variable {prog : Program} {w : World} {A : Around} {E : Value → Shared → Prop} {s : Shared} {h₀ : Heap} {L : Addr} {m : Str → Option Value} {news : List (Addr × Obj)} {Q : Value → Shared → Prop}
theorem item_int {value slice : PySem.Expr} {l : Addr} {its : List Value} {n : Nat} {k : Int} {u : Tok} (N : News h₀ L s.heap news) (hm : (l, lstO its n) ∈ news) (hi : ∃ zs, IntsAre its zs) (h0 : 0 ≤ k) (hk : k.toNat < its.length) (hb : k < 2 ^ 63) (h : ∀ z t, Q (.int z t) s)
    (hs : subscripted slice false (.ref l) (.int k u) = operate [.ref l, .int k u] (getItem (.ref l) (.int k u)) := by with_unfolding_all rfl) :
    wpAny (model prog w) A (subscriptTail value slice (.ref l) (.int k u)) Q E s := by
  have hL : s.heap.IsList l its.toArray := ⟨_, (N _ hm).1, rfl, n, rfl⟩
  obtain ⟨zs, hz⟩ := hi
  obtain ⟨z, t, e⟩ := ints_mem hz _ (List.getElem_mem hk)
  exact tail_any hL.typeIs slot_list_getitem.lookup (wpAny_getItem_list hL h0 hb (by simp [hk, e]) (h z t)) hs
end
end Mine
namespace Mine
def isIntB : Value → Bool
  | .int _ _ => true
  | _ => false
theorem ints_ofB {its : List Value} (h : its.all isIntB = true) : ∃ zs, IntsAre its zs := ints_of fun v hv => by
  have := List.all_eq_true.mp h v hv
  cases v with
  | int z t => exact ⟨z, t, rfl⟩
  | _ => cases this
end Mine
end
section
open PySem PySem.W PyProof.Rows PySem.Calls
set_option maxRecDepth 100000
namespace Mine
theorem ints_cons {n : Nat} {ys : List Value} (h : ys.length = n + 1) (hi : ∀ y ∈ ys, IsInt y) : ∃ z t ys', ys = .int z t :: ys' ∧ ys'.length = n ∧ ∀ y ∈ ys', IsInt y := by
  cases ys with
  | nil => cases h
  | cons y ys =>
    obtain ⟨z, t, rfl⟩ := hi y List.mem_cons_self
    exact ⟨z, t, ys, rfl, by simpa using h, fun y hy => hi y (List.mem_cons_of_mem _ hy)⟩
end Mine
namespace Mine
section
variable {prog : Program} {w : World} {A : Around} {E : Value → Shared → Prop} {s : Shared} {env : Env} {h₀ : Heap} {x : Str} {body : List Stmt} {Q : Flow → Shared → Prop}
/-- the loop's rest, under a name that no line of the walk knows -/
def LoopW (prog : Program) (w : World) (A : Around) (h₀ : Heap) (env : Env) (x : Str) (body : List Stmt) (Q : Flow → Shared → Prop) (E : Value → Shared → Prop) (xv : Value) (s₁ : Shared) : Prop :=
  wpAny (model prog w) A (pyIter xv) (fun it s₂ => LoopAtV prog w A h₀ env x body Q E it s₂) E s₁
theorem For_W {m : Str → Option Value} {px pos : Pos} {iter : Expr} (F : Fr h₀ env.locals s.heap m) (hx : env.kindOf x = some .local)
    (hp : (env.scope.kind == .class || (env.scope.kind == .module && env.locals != env.globals)) = false)
    (h : wpAny (model prog w) A (eval iter env) (LoopW prog w A h₀ env x body Q E) E s)
    (hs : ∀ x, foldedSetIterable iter env x = pure x := by intro _; rfl)
    (hE : PassesOwn (model prog w) A env E := by passes_own) :
    wpAny (model prog w) A (exec (.For (.Name x px) iter body [] pos) env) Q E s := For_invVF F hx hp h hs hE
end
/-- a value is a deed, all in a list are -/
theorem take_get {α : Type} {l : List α} {i : Nat} {a : α} (h : l[i]? = some a) : l.take (i + 1) = l.take i ++ [a] := by rw [List.take_add_one, h]; rfl
end Mine
namespace Mine
/-- a place where the walk halts -/
def Stop (P : Prop) : Prop := P
theorem Stop.mk {P : Prop} (h : P) : Stop P := h
theorem Stop.out {P : Prop} (h : Stop P) : P := h
end Mine
namespace Mine
open PyProof.Rows.LCg
section
variable {h₀ h' : Heap} {L I C D : Addr} {m : Str → Option Value} {s₁ : Shared} {oI oC oD t : Obj} {S : List (Addr × Obj) → Prop} {rest : Value → List (Addr × Obj) → Prop} {y : Value} {tk : Nat} {nw made : List (Addr × Obj)}
end
end Mine
namespace Mine
section
variable {prog : Program} {w : World} {A : Around} {E : Value → Shared → Prop} {s : Shared} {h₀ : Heap} {L : Addr} {m : Str → Option Value} {news : List (Addr × Obj)} {Q : Value → Shared → Prop}
theorem item_lit {value slice : PySem.Expr} {l : Addr} {its : List Value} {n : Nat} {k : Int} {u : Tok} {v : Value} (N : News h₀ L s.heap news) (hm : (l, lstO its n) ∈ news) (h0 : 0 ≤ k) (hb : k < 2 ^ 63) (hx : its[k.toNat]? = some v) (h : Q v s)
    (hs : subscripted slice false (.ref l) (.int k u) = operate [.ref l, .int k u] (getItem (.ref l) (.int k u)) := by with_unfolding_all rfl) :
    wpAny (model prog w) A (subscriptTail value slice (.ref l) (.int k u)) Q E s := by
  have hL : s.heap.IsList l its.toArray := ⟨_, (N _ hm).1, rfl, n, rfl⟩
  exact tail_any hL.typeIs slot_list_getitem.lookup (wpAny_getItem_list hL h0 hb (by simpa using hx) h) hs
end
end Mine
namespace Mine
section
variable {prog : Program} {w : World} {K : Frag} {loose : List Str} {mean : ExcName → Option Value} {mg mb : Str → Option Value} {dn un : Nat} {f : Value} {vs : List Value} {objs : List (Addr × Obj)}
  {dp u : Nat} {gd : Option (List Code)} {env : Env} {outer : List Env} {A₀ : Around} {base h₀ : Heap} {L : Addr} {m : Str → Option Value} {news : List (Addr × Obj)} {s : Shared} {Q E : Value → Shared → Prop}
end
end Mine
end
section
open PySem
set_option maxRecDepth 100000
namespace Mine
open PySem.Float64
theorem V_inj {a b : Nat} (h : V a = V b) : a = b := by
  rcases Nat.lt_trichotomy a b with q | q | q
  · have := V_lt q; omega
  · exact q
  · have := V_lt q; omega
/-- the float of n / 2 ^ k, told exactly -/
def Ex (x : UInt64) (n : Int) (k : Nat) : Prop := ∃ t, t < infMag ∧ x = pack (decide (n < 0)) t ∧ V t * 2 ^ k = n.natAbs * 2 ^ 1074
theorem Ex.scale {x : UInt64} {n : Int} {k : Nat} (j : Nat) : Ex x n k ↔ Ex x (n * 2 ^ j) (k + j) := by
  have hp : (0 : Int) < 2 ^ j := Int.pow_pos (by decide)
  have hs : decide (n * 2 ^ j < 0) = decide (n < 0) := by
    apply decide_eq_decide.mpr
    constructor
    · intro h
      by_cases q : n < 0
      · exact q
      · have := Int.mul_nonneg (show 0 ≤ n by omega) (Int.le_of_lt hp); omega
    · intro h; exact Int.mul_neg_of_neg_of_pos h hp
  have ha : (n * 2 ^ j).natAbs = n.natAbs * 2 ^ j := by rw [Int.natAbs_mul, Int.natAbs_pow]; rfl
  unfold Ex
  rw [hs, ha]
  constructor
  · rintro ⟨t, h1, h2, h3⟩
    refine ⟨t, h1, h2, ?_⟩
    rw [Nat.pow_add, ← Nat.mul_assoc, h3, Nat.mul_right_comm]
  · rintro ⟨t, h1, h2, h3⟩
    refine ⟨t, h1, h2, Nat.eq_of_mul_eq_mul_right (Nat.two_pow_pos j) ?_⟩
    rw [Nat.mul_assoc, ← Nat.pow_add, h3, Nat.mul_right_comm]
theorem Ex.decode {x : UInt64} {n : Int} {k : Nat} (h : Ex x n k) : ∃ m e, Float64.decode x = .fin (decide (n < 0)) m e ∧ val x * 2 ^ k = n * 2 ^ 1074 := by
  obtain ⟨t, ht, rfl, e⟩ := h
  obtain ⟨m, e', hd, hv⟩ := decode_pack (decide (n < 0)) ht
  refine ⟨m, e', hd, ?_⟩
  rw [val_pack _ ht]
  have e2 : ((V t * 2 ^ k : Nat) : Int) = ((n.natAbs * 2 ^ 1074 : Nat) : Int) := by rw [e]
  rw [Int.natCast_mul, Int.natCast_mul, Int.natCast_pow, Int.natCast_pow] at e2
  unfold sgn
  by_cases q : n < 0
  · simp only [q, decide_true, if_true]
    rw [Int.neg_mul, show ((2 : Int) ^ k) = ((2 : Nat) : Int) ^ k from rfl, e2, ← Int.neg_mul]
    congr 1
    omega
  · simp only [q, decide_false, Bool.false_eq_true, if_false]
    rw [show ((2 : Int) ^ k) = ((2 : Nat) : Int) ^ k from rfl, e2]
    congr 1
    omega
/-- there is such a float -/
theorem at_exists {n k : Nat} (hn : n < 2 ^ 53) (hk : k ≤ 1000) : ∃ t, t < infMag ∧ V t * 2 ^ k = n * 2 ^ 1074 ∧ V t < 2 ^ 2000 := by
  have hi : infMag = 2047 * 2 ^ 52 := rfl
  have bound : ∀ v : Nat, v * 2 ^ k = n * 2 ^ 1074 → v < 2 ^ 2000 := fun v e => by
    have h1 : v ≤ v * 2 ^ k := Nat.le_mul_of_pos_right _ (Nat.two_pow_pos _)
    have h2 : n * 2 ^ 1074 < 2 ^ 53 * 2 ^ 1074 := Nat.mul_lt_mul_of_pos_right hn (Nat.two_pow_pos _)
    rw [← Nat.pow_add] at h2
    have h3 : (2 : Nat) ^ (53 + 1074) ≤ 2 ^ 2000 := Nat.pow_le_pow_right (by decide) (by decide)
    exact Nat.lt_of_le_of_lt h1 (Nat.lt_of_lt_of_le (e ▸ h2) h3)
  by_cases h0 : n = 0
  · subst h0
    refine ⟨0, by rw [hi]; decide, ?_, ?_⟩
    · rw [show V 0 = 0 from rfl, Nat.zero_mul, Nat.zero_mul]
    · rw [show V 0 = 0 from rfl]; exact Nat.two_pow_pos _
  · have l1 : 2 ^ n.log2 ≤ n := Nat.log2_self_le h0
    have l2 : n < 2 ^ (n.log2 + 1) := Nat.lt_log2_self
    have l3 : n.log2 ≤ 52 := by
      rcases Nat.lt_or_ge 52 n.log2 with q | q
      · have : (2 : Nat) ^ 53 ≤ 2 ^ n.log2 := Nat.pow_le_pow_right (by decide) q
        omega
      · exact q
    have q1 : 2 ^ 52 ≤ n * 2 ^ (52 - n.log2) := by
      have : (2 : Nat) ^ n.log2 * 2 ^ (52 - n.log2) = 2 ^ 52 := by rw [← Nat.pow_add]; congr 1; omega
      rw [← this]; exact Nat.mul_le_mul_right _ l1
    have q2 : n * 2 ^ (52 - n.log2) ≤ 2 ^ 53 := by
      have : (2 : Nat) ^ (n.log2 + 1) * 2 ^ (52 - n.log2) = 2 ^ 53 := by rw [← Nat.pow_add]; congr 1; omega
      rw [← this]; exact Nat.mul_le_mul_right _ (Nat.le_of_lt l2)
    have hv := V_at (k := 1022 - k + n.log2) (q := n * 2 ^ (52 - n.log2)) q2 (.inl q1)
    have key : V ((1022 - k + n.log2) * 2 ^ 52 + n * 2 ^ (52 - n.log2)) * 2 ^ k = n * 2 ^ 1074 := by
      rw [hv, Nat.mul_assoc, Nat.mul_assoc, ← Nat.pow_add, ← Nat.pow_add]
      congr 2
      omega
    refine ⟨(1022 - k + n.log2) * 2 ^ 52 + n * 2 ^ (52 - n.log2), ?_, key, bound _ key⟩
    have : (1022 - k + n.log2) * 2 ^ 52 ≤ 1074 * 2 ^ 52 := Nat.mul_le_mul_right _ (by omega)
    rw [hi]
    omega
theorem right_exact {r : UInt64} {neg : Bool} {W D t₀ : Nat} (h : Right r neg W D) (hD : 0 < D) (ht : t₀ < infMag) (hb : V t₀ < 2 ^ 2000) (e : W = D * V t₀) : r = pack neg t₀ := by
  obtain ⟨t, rfl, hle, hinf, hn⟩ := h
  have hne : t ≠ infMag := fun q => by
    have := hinf.mp q
    rw [e, Nat.mul_left_comm 2 D] at this
    have h1 := Nat.le_of_mul_le_mul_left this hD
    have h2 : (2 : Nat) * 2 ^ 2000 ≤ (2 ^ 54 - 1) * 2 ^ 2045 := by decide +kernel
    have h3 : 2 * V t₀ < 2 * 2 ^ 2000 := Nat.mul_lt_mul_of_pos_left hb (by decide)
    exact absurd (Nat.lt_of_lt_of_le h3 (Nat.le_trans h2 h1)) (Nat.lt_irrefl _)
  have hlt : t < infMag := Nat.lt_of_le_of_ne hle hne
  have := (hn hlt t₀).1
  rw [← e] at this
  have z : dist W W = 0 := by unfold dist; omega
  rw [z] at this
  have : dist W (D * V t) = 0 := Nat.le_zero.mp this
  unfold dist at this
  have eq : D * V t = D * V t₀ := by rw [← e]; omega
  rw [V_inj (Nat.eq_of_mul_eq_mul_left hD eq)]
section
variable {x y : UInt64} {a b c : Int} {k l j : Nat}
theorem val_abs (h : Ex x a k) : (val x).natAbs * 2 ^ k = a.natAbs * 2 ^ 1074 := by
  obtain ⟨m, e, _, hv⟩ := h.decode
  have := congrArg Int.natAbs hv
  rw [Int.natAbs_mul, Int.natAbs_mul, Int.natAbs_pow, Int.natAbs_pow] at this
  exact this
/-- a sum's or a difference's last step -/
theorem ex_of_right {r : UInt64} {v : Int} (hk : k ≤ 1000) (hc : c.natAbs < 2 ^ 53) (e : v * 2 ^ k = c * 2 ^ 1074) (z : v = 0 → r = zero false) (nz : v ≠ 0 → Right r (decide (v < 0)) v.natAbs 1) : Ex r c k := by
  have hp : (0 : Int) < 2 ^ k := Int.pow_pos (by decide)
  have hq : (0 : Int) < 2 ^ 1074 := Int.pow_pos (by decide)
  by_cases h0 : v = 0
  · rw [h0, Int.zero_mul] at e
    have hc0 : c = 0 := by
      rcases Int.mul_eq_zero.mp e.symm with q | q
      · exact q
      · omega
    subst hc0
    refine ⟨0, by decide, ?_, ?_⟩
    · rw [z h0]; rfl
    · rw [show V 0 = 0 from rfl, Nat.zero_mul]; rfl
  · obtain ⟨t, ht, hv, hb⟩ := at_exists hc hk
    have hs : decide (v < 0) = decide (c < 0) := by
      apply decide_eq_decide.mpr
      constructor
      · intro h
        have : c * 2 ^ 1074 < 0 := e ▸ Int.mul_neg_of_neg_of_pos h hp
        by_cases q : c < 0
        · exact q
        · have := Int.mul_nonneg (show 0 ≤ c by omega) (Int.le_of_lt hq); omega
      · intro h
        have : v * 2 ^ k < 0 := e ▸ Int.mul_neg_of_neg_of_pos h hq
        by_cases q : v < 0
        · exact q
        · have := Int.mul_nonneg (show 0 ≤ v by omega) (Int.le_of_lt hp); omega
    refine ⟨t, ht, ?_, hv⟩
    rw [← hs]
    refine right_exact (nz h0) (by decide) ht hb ?_
    rw [Nat.one_mul]
    apply Nat.eq_of_mul_eq_mul_right (Nat.two_pow_pos k)
    rw [hv]
    have := congrArg Int.natAbs e
    rw [Int.natAbs_mul, Int.natAbs_mul, Int.natAbs_pow, Int.natAbs_pow] at this
    exact this
theorem add_ex (hx : Ex x a k) (hy : Ex y b k) (hk : k ≤ 1000) (hc : (a + b).natAbs < 2 ^ 53) : Ex (add x y) (a + b) k := by
  obtain ⟨m, e, d1, v1⟩ := hx.decode
  obtain ⟨m', e', d2, v2⟩ := hy.decode
  have R := add_right d1 d2
  have ev : (val x + val y) * 2 ^ k = (a + b) * 2 ^ 1074 := by rw [Int.add_mul, Int.add_mul, v1, v2]
  refine ex_of_right hk hc ev (fun h0 => ?_) R.2
  rw [R.1 h0]
  congr 1
  rw [h0, Int.zero_mul] at ev
  have : a + b = 0 := by
    rcases Int.mul_eq_zero.mp ev.symm with q | q
    · exact q
    · exact absurd q (Int.ne_of_gt (Int.pow_pos (by decide)))
  rw [Bool.and_eq_false_iff, decide_eq_false_iff_not, decide_eq_false_iff_not]
  omega
theorem sub_ex (hx : Ex x a k) (hy : Ex y b k) (hk : k ≤ 1000) (hc : (a - b).natAbs < 2 ^ 53) : Ex (sub x y) (a - b) k := by
  obtain ⟨m, e, d1, v1⟩ := hx.decode
  obtain ⟨m', e', d2, v2⟩ := hy.decode
  have R := sub_right d1 d2
  have ev : (val x - val y) * 2 ^ k = (a - b) * 2 ^ 1074 := by rw [Int.sub_mul, Int.sub_mul, v1, v2]
  refine ex_of_right hk hc ev (fun h0 => ?_) R.2
  rw [R.1 h0]
  congr 1
  rw [h0, Int.zero_mul] at ev
  have : a - b = 0 := by
    rcases Int.mul_eq_zero.mp ev.symm with q | q
    · exact q
    · exact absurd q (Int.ne_of_gt (Int.pow_pos (by decide)))
  rw [Bool.and_eq_false_iff, decide_eq_false_iff_not, Bool.not_eq_false', decide_eq_true_eq]
  omega
theorem mul_ex (hx : Ex x a k) (hy : Ex y b l) (ha : 0 ≤ a) (hb : 0 ≤ b) (hk : k + l ≤ 1000) (hc : (a * b).natAbs < 2 ^ 53) : Ex (mul x y) (a * b) (k + l) := by
  obtain ⟨m, e, d1, _⟩ := hx.decode
  obtain ⟨m', e', d2, _⟩ := hy.decode
  have R := mul_right d1 d2
  obtain ⟨t, ht, hv, hb'⟩ := at_exists hc hk
  refine ⟨t, ht, ?_, hv⟩
  have hs : decide (a * b < 0) = (decide (a < 0) != decide (b < 0)) := by
    have := Int.mul_nonneg ha hb
    rw [decide_eq_false (by omega), decide_eq_false (show ¬ a < 0 by omega), decide_eq_false (show ¬ b < 0 by omega)]; rfl
  rw [hs]
  refine right_exact R (Nat.two_pow_pos _) ht hb' ?_
  apply Nat.eq_of_mul_eq_mul_right (Nat.two_pow_pos (k + l))
  rw [Nat.mul_assoc (2 ^ 1074), hv, Nat.pow_add, Int.natAbs_mul]
  have h1 := val_abs hx
  have h2 := val_abs hy
  calc (val x).natAbs * (val y).natAbs * (2 ^ k * 2 ^ l) = ((val x).natAbs * 2 ^ k) * ((val y).natAbs * 2 ^ l) := by ac_rfl
    _ = (a.natAbs * 2 ^ 1074) * (b.natAbs * 2 ^ 1074) := by rw [h1, h2]
    _ = 2 ^ 1074 * (a.natAbs * b.natAbs * 2 ^ 1074) := by ac_rfl
theorem div_ex (hx : Ex x a k) (hy : Ex y b l) (hb : 0 < b) (hj : j ≤ 1000) (hc : c.natAbs < 2 ^ 53) (e : a * 2 ^ (l + j) = c * b * 2 ^ k) : Ex (div x y) c j := by
  obtain ⟨m, e1, d1, _⟩ := hx.decode
  obtain ⟨m', e2, d2, v2⟩ := hy.decode
  have hp : ∀ n : Nat, (0 : Int) < 2 ^ n := fun n => Int.pow_pos (by decide)
  have hy0 : (val y).natAbs ≠ 0 := fun q => by
    have := val_abs hy
    rw [q, Nat.zero_mul] at this
    rcases Nat.mul_eq_zero.mp this.symm with r | r
    · omega
    · exact absurd r (Nat.ne_of_gt (Nat.two_pow_pos _))
  have hm' : m' ≠ 0 := fun q => by
    rw [val_natAbs d2, q, Nat.zero_mul] at hy0; exact hy0 rfl
  have R := div_right d1 d2 hm'
  obtain ⟨t, ht, hv, hb'⟩ := at_exists hc hj
  refine ⟨t, ht, ?_, hv⟩
  have hs : decide (c < 0) = (decide (a < 0) != decide (b < 0)) := by
    rw [decide_eq_false (show ¬ b < 0 by omega), Bool.bne_false]
    apply decide_eq_decide.mpr
    constructor
    · intro h
      have : c * b * 2 ^ k < 0 := Int.mul_neg_of_neg_of_pos (Int.mul_neg_of_neg_of_pos h hb) (hp k)
      by_cases q : a < 0
      · exact q
      · have := Int.mul_nonneg (show 0 ≤ a by omega) (Int.le_of_lt (hp (l + j))); omega
    · intro h
      have : a * 2 ^ (l + j) < 0 := Int.mul_neg_of_neg_of_pos h (hp _)
      by_cases q : c < 0
      · exact q
      · have := Int.mul_nonneg (Int.mul_nonneg (show 0 ≤ c by omega) (Int.le_of_lt hb)) (Int.le_of_lt (hp k)); omega
  rw [hs]
  refine right_exact R (Nat.pos_of_ne_zero hy0) ht hb' ?_
  have e' : a.natAbs * 2 ^ (l + j) = c.natAbs * b.natAbs * 2 ^ k := by
    have := congrArg Int.natAbs e
    rw [Int.natAbs_mul, Int.natAbs_mul, Int.natAbs_mul, Int.natAbs_pow, Int.natAbs_pow] at this
    exact this
  have h1 := val_abs hx
  have h2 := val_abs hy
  apply Nat.eq_of_mul_eq_mul_right (Nat.two_pow_pos (k + l + j))
  generalize (val x).natAbs = X at *
  generalize (val y).natAbs = Y at *
  generalize (2 : Nat) ^ 1074 = K at *
  rw [Nat.pow_add] at e'
  rw [Nat.pow_add, Nat.pow_add]
  calc X * K * (2 ^ k * 2 ^ l * 2 ^ j) = (X * 2 ^ k) * K * (2 ^ l * 2 ^ j) := by ac_rfl
    _ = (a.natAbs * (2 ^ l * 2 ^ j)) * K * K := by rw [h1]; ac_rfl
    _ = (c.natAbs * b.natAbs * 2 ^ k) * K * K := by rw [e']
    _ = 2 ^ k * (b.natAbs * K) * (c.natAbs * K) := by ac_rfl
    _ = 2 ^ k * (Y * 2 ^ l) * (V t * 2 ^ j) := by rw [h2, hv]
    _ = Y * V t * (2 ^ k * 2 ^ l * 2 ^ j) := by ac_rfl
theorem frac_ex {n d : Nat} {neg : Bool} (hd : 0 < d) (hj : j ≤ 1000) (hc : c.natAbs < 2 ^ 53) (e : n * 2 ^ j = c.natAbs * d) (hs : neg = decide (c < 0)) : Ex (ofFrac neg n d) c j := by
  obtain ⟨t, ht, hv, hb'⟩ := at_exists hc hj
  refine ⟨t, ht, ?_, hv⟩
  rw [← hs]
  have R : Right (ofFrac neg n d) neg (n * 2 ^ 1074) d := ofFrac_right hd (by ac_rfl) hd
  refine right_exact R hd ht hb' ?_
  apply Nat.eq_of_mul_eq_mul_right (Nat.two_pow_pos j)
  rw [Nat.mul_assoc d, hv, Nat.mul_right_comm, e]
  ac_rfl
theorem ofInt_ex (hc : a.natAbs < 2 ^ 53) : Ex (ofInt a) a 0 := by
  unfold ofInt
  exact frac_ex (by decide) (by decide) hc (by simp) rfl
theorem cmp_ex (hx : Ex x a k) (hy : Ex y b k) : cmp x y = some (compare a b) := by
  obtain ⟨m, e, d1, v1⟩ := hx.decode
  obtain ⟨m', e', d2, v2⟩ := hy.decode
  rw [cmp_right d1 d2]
  have hp : (0 : Int) < 2 ^ k := Int.pow_pos (by decide)
  have hq : (0 : Int) < 2 ^ 1074 := Int.pow_pos (by decide)
  congr 1
  rcases Int.lt_trichotomy a b with h | h | h
  · rw [Int.compare_eq_lt.mpr h, Int.compare_eq_lt]
    exact Int.lt_of_mul_lt_mul_right (by rw [v1, v2]; exact Int.mul_lt_mul_of_pos_right h hq) (Int.le_of_lt hp)
  · subst h
    rw [Int.eq_of_mul_eq_mul_right (Int.ne_of_gt hp) (v1.trans v2.symm)]
    simp
  · rw [Int.compare_eq_gt.mpr h, Int.compare_eq_gt]
    exact Int.lt_of_mul_lt_mul_right (by rw [v1, v2]; exact Int.mul_lt_mul_of_pos_right h hq) (Int.le_of_lt hp)
theorem isZero_ex (hx : Ex x a k) (ha : a ≠ 0) : isZero x = false := by
  obtain ⟨m, e, d1, v1⟩ := hx.decode
  unfold isZero
  rw [d1]
  cases m with
  | succ m => rfl
  | zero =>
    have := val_abs hx
    rw [val_natAbs d1, Nat.zero_mul, Nat.zero_mul] at this
    rcases Nat.mul_eq_zero.mp this.symm with r | r
    · omega
    · exact absurd r (Nat.ne_of_gt (Nat.two_pow_pos _))
end
theorem ex_0 : Ex 0 0 0 := ⟨0, by decide, by decide, by decide⟩
theorem ex_1 : Ex 4607182418800017408 1 0 := ⟨1023 * 2 ^ 52, by decide +kernel, by decide +kernel, by decide +kernel⟩
theorem ex_2 : Ex 4611686018427387904 2 0 := ⟨1024 * 2 ^ 52, by decide +kernel, by decide +kernel, by decide +kernel⟩
end Mine
end
section
open PySem PySem.W
set_option maxRecDepth 100000
namespace Mine
open PySem.Float64
section
variable {x y z : UInt64} {a b c : Int} {k : Nat}
theorem mx_ex (hx : Ex x a k) (hy : Ex y b k) : Ex (mx x y) (max a b) k := by
  unfold mx
  rw [cmp_ex hx hy]
  rcases Int.lt_trichotomy a b with h | h | h
  · rw [Int.compare_eq_lt.mpr h, if_pos (by decide), Int.max_eq_right (Int.le_of_lt h)]; exact hy
  · subst h; rw [show compare a a = .eq by simp, if_neg (by decide), Int.max_self]; exact hx
  · rw [Int.compare_eq_gt.mpr h, if_neg (by decide), Int.max_eq_left (Int.le_of_lt h)]; exact hx
theorem mn_ex (hx : Ex x a k) (hy : Ex y b k) : Ex (mn x y) (min a b) k := by
  unfold mn
  rw [cmp_ex hy hx]
  rcases Int.lt_trichotomy b a with h | h | h
  · rw [Int.compare_eq_lt.mpr h, if_pos (by decide), Int.min_eq_right (Int.le_of_lt h)]; exact hy
  · subst h; rw [show compare b b = .eq by simp, if_neg (by decide), Int.min_self]; exact hx
  · rw [Int.compare_eq_gt.mpr h, if_neg (by decide), Int.min_eq_left (Int.le_of_lt h)]; exact hx
theorem eq_ex (hx : Ex x a k) (hy : Ex y b k) : (Float64.cmp x y == some .eq) = decide (a = b) := by
  rw [cmp_ex hx hy]
  rcases Int.lt_trichotomy a b with h | h | h
  · rw [Int.compare_eq_lt.mpr h, decide_eq_false (Int.ne_of_lt h)]; rfl
  · subst h; rw [show compare a a = .eq by simp, decide_eq_true rfl]; rfl
  · rw [Int.compare_eq_gt.mpr h, decide_eq_false (Int.ne_of_gt h)]; rfl
theorem lt_ex (hx : Ex x a k) (hy : Ex y b k) : (Float64.cmp x y == some .lt) = decide (a < b) := by
  rw [cmp_ex hx hy]
  rcases Int.lt_trichotomy a b with h | h | h
  · rw [Int.compare_eq_lt.mpr h, decide_eq_true h]; rfl
  · subst h; rw [show compare a a = .eq by simp, decide_eq_false (Int.lt_irrefl _)]; rfl
  · rw [Int.compare_eq_gt.mpr h, decide_eq_false (Int.not_lt.mpr (Int.le_of_lt h))]; rfl
theorem Ex.up {j : Nat} (h : Ex x a k) (m : Nat) (e : b = a * 2 ^ m) (ej : j = k + m) : Ex x b j := by subst e ej; exact (Ex.scale m).mp h
theorem Ex.down {j : Nat} (m : Nat) (h : Ex x b j) (e : b = a * 2 ^ m) (ej : j = k + m) : Ex x a k := by subst e ej; exact (Ex.scale m).mpr h
theorem fr_ex {d j : Nat} (hj : j ≤ 1000) (hc : c.natAbs < 2 ^ 53) (hd : 0 < d) (e : a * 2 ^ j = c * d) : Ex (fr a d) c j := by
  unfold fr
  have hp : (0 : Int) < 2 ^ j := Int.pow_pos (by decide)
  refine frac_ex (by omega) hj hc ?_ ?_
  · have := congrArg Int.natAbs e
    rw [Int.natAbs_mul, Int.natAbs_mul, Int.natAbs_pow] at this
    exact this
  · rw [decide_eq_false (show ¬ (d : Int) < 0 by omega), Bool.bne_false]
    apply decide_eq_decide.mpr
    constructor
    · intro h
      have : a * 2 ^ j < 0 := Int.mul_neg_of_neg_of_pos h hp
      by_cases q : c < 0
      · exact q
      · have := Int.mul_nonneg (show 0 ≤ c by omega) (show (0 : Int) ≤ d by omega); omega
    · intro h
      have : c * d < 0 := Int.mul_neg_of_neg_of_pos h (by omega)
      by_cases q : a < 0
      · exact q
      · have := Int.mul_nonneg (show 0 ≤ a by omega) (Int.le_of_lt hp); omega
end
section
variable {r g b : UInt64} {N f0 f1 f2 : Int} {K : Nat} (hr : Ex r (N - f0) K) (hg : Ex g (N - f1) K) (hb : Ex b (N - f2) K) (h0 : min (min f0 f1) f2 = 0) (h8 : max (max f0 f1) f2 = 8) (hN : 8 ≤ N) (hN2 : N ≤ 2 ^ 40) (hK : K ≤ 40)
include hr hg hb h0 in
/-- the hue in eighths of a sixth -/
def hueI (f0 f1 f2 : Int) : Int := if f0 = 0 then f2 - f1 else if f1 = 0 then 16 + f0 - f2 else 32 + f1 - f0
include hr hg hb h0 h8 hK in
end
end Mine
end
section
open PySem PySem.W
set_option maxRecDepth 100000
namespace Mine
open PySem.Float64
section
variable {r g b : UInt64} {N f0 f1 f2 : Int} {K : Nat} (hr : Ex r (N - f0) K) (hg : Ex g (N - f1) K) (hb : Ex b (N - f2) K) (h0 : min (min f0 f1) f2 = 0) (h8 : max (max f0 f1) f2 = 8) (hN : 8 ≤ N) (hN2 : N ≤ 2 ^ 40) (hK : K ≤ 40) (hK3 : 3 ≤ K)
include hr hg hb h0 h8 hN hN2 hK in
end
/-- the sixteen hues: the falls of the three parts -/
theorem falls (h : Int) (h1 : 0 ≤ h) (h2 : h < 16) : min (min (fallI h 0) (fallI h 16)) (fallI h 32) = 0 ∧ max (max (fallI h 0) (fallI h 16)) (fallI h 32) = 8 ∧ (hueI (fallI h 0) (fallI h 16) (fallI h 32) = 3 * h ∨ hueI (fallI h 0) (fallI h 16) (fallI h 32) = 3 * (h - 16)) := by
  have : h = 0 ∨ h = 1 ∨ h = 2 ∨ h = 3 ∨ h = 4 ∨ h = 5 ∨ h = 6 ∨ h = 7 ∨ h = 8 ∨ h = 9 ∨ h = 10 ∨ h = 11 ∨ h = 12 ∨ h = 13 ∨ h = 14 ∨ h = 15 := by omega
  rcases this with rfl | rfl | rfl | rfl | rfl | rfl | rfl | rfl | rfl | rfl | rfl | rfl | rfl | rfl | rfl | rfl <;> decide +kernel
section
variable {h t w : Int}
end
end Mine
end
section
open PySem PySem.W
set_option maxRecDepth 100000
namespace Mine
open PySem.Float64
/-- the hue's sixth and the rest of it, for hues up to three turns -/
def turnFacts (j : Int) : Bool := rgbOk (fr j 16) && decide (Flt.toInt Float64.truncOf (Float64.mul (fr j 16) 4618441417868443648) = Int.fdiv (3 * j) 8) && decide (Float64.sub (Float64.mul (fr j 16) 4618441417868443648) (Float64.ofInt (Int.fdiv (3 * j) 8)) = fr (Int.fmod (3 * j) 8) 8)
theorem turns48 : ((List.range 48).all fun j => turnFacts (j : Int)) = true := by decide +kernel
theorem turn_at {j : Int} (h1 : 0 ≤ j) (h2 : j < 48) : rgbOk (fr j 16) = true ∧ Flt.toInt Float64.truncOf (Float64.mul (fr j 16) 4618441417868443648) = Int.fdiv (3 * j) 8 ∧ Float64.sub (Float64.mul (fr j 16) 4618441417868443648) (Float64.ofInt (Int.fdiv (3 * j) 8)) = fr (Int.fmod (3 * j) 8) 8 := by
  have := List.all_eq_true.mp turns48 j.toNat (List.mem_range.mpr (by omega))
  rw [show ((j.toNat : Nat) : Int) = j by omega] at this
  unfold turnFacts at this
  simp only [Bool.and_eq_true, decide_eq_true_eq] at this
  exact ⟨this.1.1, this.1.2, this.2⟩
/-- the falls by the sixth and its rest -/
def arr (i e : Int) : Int × Int × Int := if i = 0 then (0, 8 - e, 8) else if i = 1 then (e, 0, 8) else if i = 2 then (8, 0, 8 - e) else if i = 3 then (8, e, 0) else if i = 4 then (8 - e, 8, 0) else (0, 8, e)
theorem arrs48 : ((List.range 48).all fun j => decide ((fallI (Int.fmod (j : Int) 16) 0, fallI (Int.fmod (j : Int) 16) 16, fallI (Int.fmod (j : Int) 16) 32) = arr (Int.fmod (Int.fdiv (3 * (j : Int)) 8) 6) (Int.fmod (3 * (j : Int)) 8))) = true := by decide +kernel
theorem arr_at {j : Int} (h1 : 0 ≤ j) (h2 : j < 48) : (fallI (Int.fmod j 16) 0, fallI (Int.fmod j 16) 16, fallI (Int.fmod j 16) 32) = arr (Int.fmod (Int.fdiv (3 * j) 8) 6) (Int.fmod (3 * j) 8) := by
  have := List.all_eq_true.mp arrs48 j.toNat (List.mem_range.mpr (by omega))
  rw [show ((j.toNat : Nat) : Int) = j by omega] at this
  exact of_decide_eq_true this
section
variable {h t w : Int}
end
end Mine
end
section
open PySem PySem.W PyProof.Rows PySem.Calls PySem.SeqAt
set_option maxRecDepth 100000
namespace Mine
section
variable {M : Model} {A : Around} {E : Value → Shared → Prop} {s : Shared}
theorem isSame_float {x y : UInt64} {u v : Tok} {Q : Bool → Shared → Prop}
    (h0 : (u == 0 || v == 0) = false) (hb : NoneBooked s.heap) (hq : ∀ b, Q b s) : wpAny M A (isSame (.float x u) (.float y v)) Q E s := by
  show wpAny M A (isSame.created (x == y && !Float64.isNaN x) u v) Q E s
  unfold isSame.created
  refine wpAny_ite ?_
  split
  · rename_i h; rw [h0] at h; exact absurd h Bool.false_ne_true
  refine wpAny_ite ?_
  split
  · exact wpAny_pure (hq _)
  refine wpAny_ite ?_
  split
  · exact wpAny_pure (hq _)
  refine wpAny_bind (wpAny_sharingNotTold_none hb ?_)
  first | rw [if_neg Bool.false_ne_true] | simp only [Bool.false_eq_true, if_false]
  refine wpAny_bind (wpAny_sharingNotTold_none hb ?_)
  first | rw [if_neg Bool.false_ne_true] | simp only [Bool.false_eq_true, if_false]
  exact wpAny_bind (wpAny_rule (wpAny_bind (wpAny_askSetting (wpAny_pure (hq _)))))
/-- two floats that are equal, as a list's or a tuple's items -/
theorem eqAt_float {x y : UInt64} {t u : Tok} (hb : NoneBooked s.heap) (ht : @Ne Nat t 0) (hu : @Ne Nat u 0) (hc : (Float64.cmp x y == some .eq) = true) : EqAt A s (.float x t) (.float y u) true := fun prog w E Q h => by
  have h0 : (t == 0 || u == 0) = false := by
    rw [Bool.or_eq_false_iff]
    exact ⟨beq_eq_false_iff_ne.mpr ht, beq_eq_false_iff_ne.mpr hu⟩
  unfold eqBool
  refine wpAny_holding ?_
  refine wpAny_ite_split (fun _ => ?_) (fun _ => ?_)
  · exact wpAny_bind (wpAny_rule (wpAny_pure h))
  · refine wpAny_bind (isSame_float h0 hb fun b => ?_)
    cases b with
    | true => exact wpAny_pure h
    | false =>
      refine wpAny_bind (AutoFloatOps.eq_0 (wpAny_truthy_bool ?_))
      rw [hc]; exact h
/-- two lists, item by item -/
theorem eq_lists {prog : Program} {w : World} {l b : Addr} {vs ws : List Value} {n k : Nat} {Q : Value → Shared → Prop} {h₀ : Heap} {L : Addr} {tl : List (Addr × Obj)} (N : News h₀ L s.heap tl) (hl : (l, lstO vs n) ∈ tl) (hb : (b, lstO ws k) ∈ tl) (hu : A.units < cLine)
    (he : All2 (fun v w => EqAt A.in1 s v w true) vs ws) (h : Q (.bool true) s) : wpAny (model prog w) A (compareOp .Eq (.ref l) (.ref b)) Q E s := by
  have hlen := he.length
  refine eq_listAt (e := fun _ => true) (items := vs.toArray) (items2 := ws.toArray) ⟨_, (N _ hl).1, rfl, n, rfl⟩ ⟨_, (N _ hb).1, rfl, k, rfl⟩ (by simpa using hlen) hu (fun j h1 h2 => ?_) ?_
  · have g1 : vs[j]? = some vs.toArray[j] := by simp at h1; simp [h1]
    obtain ⟨w, hw, e⟩ := he.get g1
    have g2 : ws.toArray[j] = w := by simp at h2; simpa [h2] using hw
    rw [g2]; exact e
  · have : (List.range vs.toArray.size).all (fun _ => true) = true := List.all_eq_true.mpr fun _ _ => rfl
    rw [this]; exact h
end
theorem noneBooked {K : Frag} {h : Heap} (X : K.In h) (hk : K.lookup 2 = some { cls := Value.none, data := Data.dict #[] }) : NoneBooked h :=
  ⟨fun _ => none, ⟨_, #[], 0, X _ _ hk, rfl, fun e he => by simp at he, fun _ => rfl⟩, rfl⟩
end Mine
end
section
open PySem PySem.W PyProof.Rows PySem.Calls
set_option maxRecDepth 100000
namespace Mine
def halfF (x y : UInt64) : UInt64 := Float64.div (Float64.add x y) (Float64.ofInt 2)
/-- value and least part, as _law_ends reckons them -/
def endsF (c : C3) : UInt64 × UInt64 := ((hsvF c.1 c.2.1 c.2.2).2.2, Float64.sub (Float64.mul (Float64.ofInt 2) (hlsF c.1 c.2.1 c.2.2).2.1) (hsvF c.1 c.2.1 c.2.2).2.2)
/-- a float handed back -/
def RetF (p : UInt64) (v : Value) (made : List (Addr × Obj)) : Prop := ∃ t, v = .float p t ∧ made = [] ∧ @Ne Nat t 0
theorem RetF.of {p x : UInt64} {t : Tok} (h : p = x) (h1 : @Ne Nat t 0) : RetF p (.float x t) [] := by subst h; exact ⟨_, rfl, rfl, h1⟩
/-- a new tuple of two floats -/
def RetF2 (p : UInt64 × UInt64) (v : Value) (made : List (Addr × Obj)) : Prop := ∃ a t1 t2, v = .ref a ∧ made = [(a, tup2 (.float p.1 t1) (.float p.2 t2))] ∧ @Ne Nat t1 0 ∧ @Ne Nat t2 0
theorem RetF2.of {p : UInt64 × UInt64} {x y : UInt64} {a : Addr} {t1 t2 : Tok} (h : p = (x, y)) (h1 : @Ne Nat t1 0) (h2 : @Ne Nat t2 0) : RetF2 p (.ref a) [(a, tup2 (.float x t1) (.float y t2))] := by subst h; exact ⟨_, _, _, rfl, rfl, h1, h2⟩
section
variable {prog : Program} {w : World} {K : Frag} {loose : List Str} {mean : ExcName → Option Value} {mg mb : Str → Option Value} {dn un : Nat} {f : Value} {vs : List Value} {objs : List (Addr × Obj)}
  {dp u : Nat} {gd : Option (List Code)} {env : Env} {outer : List Env} {A₀ : Around} {base h₀ : Heap} {L : Addr} {m : Str → Option Value} {news : List (Addr × Obj)} {s : Shared} {Q E : Value → Shared → Prop}
theorem useF {p : UInt64} (C : Pure prog w K loose mean mg mb dn un f vs objs (RetF p)) (B : Below A₀ base outer h₀) (F : Fr h₀ L s.heap m) (N : News h₀ L s.heap news) (X : K.In h₀) (T : Top topProg loose mean mg mb h₀) (hf : env.frame = some L) (hk : env.scope.kind = .function) (ho : ∀ p ∈ objs, p ∈ news)
    (hd : dp + dn < recursionLimit) (hu : u + un < cLine) (ret : ∀ t h' tk, @Ne Nat t 0 → Fr h₀ L h' m → News h₀ L h' news → Q (.float p t) { s with heap := h', toks := tk }) :
    wpAny (model prog w) (ar dp u gd (env :: outer)) (call f vs) Q E s := C dp u gd env outer A₀ base h₀ L m news s Q E B F N X T hf hk ho hd hu (by
  rintro v made h' tk ⟨t, rfl, rfl, ht⟩ F' N' ne
  exact ret t h' tk ht F' N')
theorem useF2 {p : UInt64 × UInt64} (C : Pure prog w K loose mean mg mb dn un f vs objs (RetF2 p)) (B : Below A₀ base outer h₀) (F : Fr h₀ L s.heap m) (N : News h₀ L s.heap news) (X : K.In h₀) (T : Top topProg loose mean mg mb h₀) (hf : env.frame = some L) (hk : env.scope.kind = .function) (ho : ∀ p ∈ objs, p ∈ news)
    (hd : dp + dn < recursionLimit) (hu : u + un < cLine) (ret : ∀ a t1 t2 h' tk, (@Ne Nat t1 0 ∧ @Ne Nat t2 0) → Fr h₀ L h' m → News h₀ L h' ((a, { cls := .type "tuple", data := .seq #[.float p.1 t1, .float p.2 t2] }) :: news) → AllNe a news → Q (.ref a) { s with heap := h', toks := tk }) :
    wpAny (model prog w) (ar dp u gd (env :: outer)) (call f vs) Q E s := C dp u gd env outer A₀ base h₀ L m news s Q E B F N X T hf hk ho hd hu (by
  rintro v made h' tk ⟨a, t1, t2, rfl, rfl, h1, h2⟩ F' N' ne
  exact ret a t1 t2 h' tk ⟨h1, h2⟩ F' N' (allNe_of fun q hq => ne q hq _ List.mem_cons_self))
end
end Mine
end
section
open PySem PySem.W PyProof.Rows PySem.Calls
set_option maxRecDepth 100000
namespace Mine
/-- an iterator of a list, at its place -/
def ItAt (o : Obj) (ax : Addr) (j : Nat) : Prop := o.cls = .type "list_iterator" ∧ o.data = .fields #[.ref ax, .int j 0]
section
variable {prog : Program} {w : World} {A : Around} {E : Value → Shared → Prop} {s : Shared} {h₀ : Heap} {L : Addr} {m : Str → Option Value} {news : List (Addr × Obj)}
theorem next_list {Q : Value → Shared → Prop} {I ax : Addr} {oI : Obj} {its : List Value} {n j : Nat} {v : Value} (F : Fr h₀ L s.heap m) (N : News h₀ L s.heap ((I, oI) :: news)) (hi : ItAt oI ax j) (hl : (ax, lstO its n) ∈ news) (hI : ∀ p ∈ news, @Ne Nat p.1 I) (hx : its[j]? = some v)
    (h : ∀ h' o', ItAt o' ax (j + 1) → Fr h₀ L h' m → News h₀ L h' ((I, o') :: news) → Q v { s with heap := h' }) :
    wpAny (model prog w) A (call (.builtin "next") [.ref I]) Q E s := by
  have NI := N (I, oI) (.head _)
  have Nl := N _ (.tail _ hl)
  have hit : s.heap.IsListIter I ax j := ⟨oI, NI.1, hi.1, hi.2⟩
  have hL : s.heap.IsList ax its.toArray := ⟨_, Nl.1, rfl, n, rfl⟩
  obtain ⟨o, ho, hc, hd⟩ := id hit
  obtain ⟨ol, hol, _, nl, hdl⟩ := id hL
  refine call_function_entry (by decide +kernel) (by decide +kernel) kdk_entry_next (kdk_args_next _) ?_
  unfold Builtin.«next»
  refine wpAny_bind (m := someArgs "next" 1 2 _) (wpAny_of_eq (a := [Value.ref I]) (by first | rfl | kernel_rfl!) ?_)
  dsimp only
  refine wpAny_bind (wpAny_specialOf (name := Str.ofString "__next__") hit.typeIs slot_listiter_next.lookup ?_)
  refine wpAny_ite_split (fun hab => absurd hab (by decide)) (fun _ => ?_)
  refine wpAny_bind (wpAny_callSpecial?_slot (name := Str.ofString "__next__") hit.typeIs slot_listiter_next
    (wpAny_call_entry slot_listiter_next hit.typeIs entry_listiter_next ?_ (args_listiter_next _)))
  show wpAny _ _ (field (.ref I) 0 >>= _) _ _ s
  refine wpAny_bind (wpAny_field ho hd (x := .ref ax) rfl ?_)
  show wpAny _ _ (if (Value.ref ax == Value.none) = true then _ else _) _ _ s
  rw [if_neg (show ¬ ((Value.ref ax == Value.none) = true) from Bool.false_ne_true)]
  show wpAny _ _ (field (.ref I) 1 >>= _) _ _ s
  refine wpAny_bind (wpAny_field ho hd (x := .int j 0) rfl ?_)
  show wpAny _ _ (seqItems? (.ref ax) >>= _) _ _ s
  refine wpAny_bind (wpAny_seqItems hol hdl ?_)
  have hx' : its.toArray[j]? = some v := by simpa using hx
  simp only [Int.toNat_natCast, hx']
  have hS : Heap.SameBut I s.heap (s.heap.update I (Obj.mapFields (·.setIfInBounds 1 (rawInt ((j : Int) + 1))))) := Heap.SameBut.update ..
  have hg : (s.heap.update I (Obj.mapFields (·.setIfInBounds 1 (rawInt ((j : Int) + 1))))).get? I = some (Obj.mapFields (·.setIfInBounds 1 (rawInt ((j : Int) + 1))) o) := Heap.get?_update_self _ ho (Obj.isFreed_of_fields (Obj.data_mapFields hd _))
  refine wpAny_bind (wpAny_setField ho hd (by simp) (wpAny_pure ⟨v, rfl, wpAny_pure ⟨v, rfl, ?_⟩⟩))
  exact h _ _ ⟨(Obj.cls_mapFields ..).trans hc, by rw [Obj.data_mapFields hd]; simp [rawInt]⟩ (F.change hS NI.2.1 NI.2.2) (News.setIn (own := []) N (fun _ h => nomatch h) hI hS hg)
end
section
variable {prog : Program} {w : World} {A : Around} {E : Value → Shared → Prop} {s : Shared} {env : Env} {h₀ : Heap} {x : Str} {body : List Stmt} {Q : Flow → Shared → Prop}
/-- for over an iterator of a list of the ledger, from the place where it stands -/
theorem for_iter2 {I ax : Addr} {oI₀ : Obj} {its : List Value} {n j : Nat} {m₀ : Str → Option Value} {news : List (Addr × Obj)} (J : Nat → (Str → Option Value) → List (Addr × Obj) → Prop)
    (hh : A.handled = none) (F : Fr h₀ env.locals s.heap m₀) (N : News h₀ env.locals s.heap ((I, oI₀) :: news)) (hit : ItAt oI₀ ax j) (hl : (ax, lstO its n) ∈ news) (hI : ∀ p ∈ news, @Ne Nat p.1 I) (hj : j ≤ its.length) (h0 : J j m₀ news)
    (hJ : ∀ i m nw, J i m nw → (ax, lstO its n) ∈ nw)
    (turn : ∀ i v m₁ nw h tk oI, its[i]? = some v → j ≤ i → J i m₁ nw → Fr h₀ env.locals h (fun y => if y = x then some v else m₁ y) → News h₀ env.locals h ((I, oI) :: nw) → (∀ p ∈ nw, @Ne Nat p.1 I) →
      wpAny (model prog w) A (execs body env) (TurnPost h₀ env.locals I oI (J (i + 1)) { s with heap := h, toks := tk } Q) E { s with heap := h, toks := tk })
    (done : ∀ m₁ nw h tk, J its.length m₁ nw → Fr h₀ env.locals h m₁ → News h₀ env.locals h nw → Q .next { s with heap := h, toks := tk }) :
    wpAny (model prog w) A (pyIter (.ref I)) (fun it s₂ => LoopAtV prog w A h₀ env x body Q E it s₂) E s := by
  have NI := N (I, oI₀) List.mem_cons_self
  refine wpAny_pyIter_listiter ⟨_, NI.1, hit.1, hit.2⟩ ?_
  have hax : ax ≠ I := hI _ hl
  have Nn : News h₀ env.locals s.heap news := fun p hp => N p (List.mem_cons_of_mem _ hp)
  have Nl := Nn _ hl
  have W := walks_from (prog := prog) (w := w) hh I ax hax its.toArray j (by simpa using hj)
  have hsz : its.toArray.size = its.length := by simp
  refine ⟨I, _, _, _, _, _, m₀, news, fun i => J (i + j), rfl, W, ?_, ?_, ?_, ⟨⟨_, NI.1, hit.1, by rw [Nat.zero_add]; exact hit.2⟩, ⟨_, Nl.1, rfl, n, rfl⟩⟩, F, Nn, by show J (0 + j) m₀ news; rw [Nat.zero_add]; exact h0, ?_, ?_⟩
  · intro hm
    rcases List.mem_cons.mp hm with e | hm
    · exact NI.2.1 e.symm
    · exact Nl.2.1 (List.mem_singleton.mp hm).symm
  · intro b hb
    rw [List.mem_singleton.mp hb]; exact NI.2.2
  · intro p hp hm
    exact hI p hp (List.mem_singleton.mp hm)
  · rintro i v m₁ news₁ s₁ own ⟨h, tk, rfl⟩ hi hP hJi hoff hsub hget hall hst F₁ N₁
    obtain ⟨oI, hoI, _⟩ := hst.1
    have mI : (I, oI) ∈ own := hall I (by simp) NI.2.2 oI hoI
    have hv : its[i + j]? = some v := by simpa using hP
    have ne₁ : ∀ p ∈ news₁, @Ne Nat p.1 I := fun p hp e => hoff p hp (by rw [show p.1 = I from e]; simp)
    have N₂ : News h₀ env.locals h ((I, oI) :: news₁) := fun p hp => by
      rcases List.mem_cons.mp hp with rfl | hp
      · exact N₁ _ (List.mem_append_left _ mI)
      · exact N₁ _ (List.mem_append_right _ hp)
    refine wpAny_mono (turn (i + j) v m₁ news₁ h tk oI hv (by omega) hJi F₁ N₂ ne₁) (fun f s₂ hp => ?_) fun _ _ e => e
    have fin : TurnEnd h₀ env.locals I oI (J (i + j + 1)) { s with heap := h, toks := tk } s₂ → LoopStepU h₀ env.locals [I] own (fun m nw => J (i + 1 + j) m nw) { s with heap := h, toks := tk } .next s₂ := by
      rintro ⟨h', tk', m', nw, e, F', N', ne', hJ'⟩
      refine ⟨rfl, h', tk', m', nw, e, F', fun p hp => ?_, fun p hp hm => ne' p hp (List.mem_singleton.mp hm), by rw [show i + 1 + j = i + j + 1 by omega]; exact hJ'⟩
      rcases List.mem_append.mp hp with ho | hn
      · have g := hget p ho
        rcases List.mem_cons.mp (hsub p ho) with e1 | e1
        · have : p = (I, oI) := Prod.ext e1 (Option.some.inj (g.symm.trans (by rw [e1]; exact hoI)))
          rw [this]; exact N' _ List.mem_cons_self
        · have e1 := List.mem_singleton.mp e1
          have hl' := hJ _ _ _ hJ'
          have hl₁ := hJ _ _ _ hJi
          have g₁ := (N₁ _ (List.mem_append_right _ hl₁)).1
          have : p = (ax, lstO its n) := Prod.ext e1 (Option.some.inj (g.symm.trans (by rw [e1]; exact g₁)))
          rw [this]; exact N' _ (List.mem_cons_of_mem _ hl')
      · exact N' _ (List.mem_cons_of_mem _ hn)
    cases f with
    | ret v => exact .ret hp
    | brk => exact .brk hp
    | next => exact .next (fin hp)
    | cont => exact .cont (fin hp)
  · intro h' tk m' nw F' N' _ hJn
    rw [show its.toArray.size - j + j = its.length by rw [hsz]; omega] at hJn
    exact done m' nw h' tk hJn F' N'
end
section
variable {h₀ : Heap} {L : Addr} {m : Str → Option Value} {news objs : List (Addr × Obj)} {s : Shared}
/-- the end of a def: all that it has made is handed back -/
theorem leaveAll {P : Value → List (Addr × Obj) → Prop} {Q : Value → Shared → Prop} {g h' : Heap} {L' : Addr} {m' : Str → Option Value} {nw : List (Addr × Obj)} {v : Value} {tk : Nat} (F : Fr h₀ L s.heap m) (N : News h₀ L s.heap news) (ho : ∀ p ∈ objs, p ∈ news)
    (hret : ∀ v made h' tk, P v made → Fr h₀ L h' m → News h₀ L h' (made ++ news) → (∀ q ∈ news, ∀ p ∈ made, @Ne Nat q.1 p.1) → Q v { s with heap := h', toks := tk })
    (hg : g = grnd s.heap objs) (F' : Fr g L' h' m') (N' : News g L' h' nw) (hobj : ∀ p ∈ objs, p ∈ nw) (hP : ∀ made, (∀ p ∈ nw, p ∈ made ++ objs) → P v made) : Q v { s with heap := h', toks := tk } := by
  classical
  refine leave F N ho hg hret F' N' (nw.filter fun p => decide (¬ ∃ q ∈ objs, @Eq Nat q.1 p.1)) (fun p hp => ?_) (fun p hp q hq e => ?_) (hP _ fun p hp => ?_)
  · rcases List.mem_append.mp hp with hp | hp
    · exact (List.mem_filter.mp hp).1
    · exact hobj p hp
  · have := (List.mem_filter.mp hp).2
    exact of_decide_eq_true this ⟨q, hq, e⟩
  · by_cases c : ∃ q ∈ objs, @Eq Nat q.1 p.1
    · obtain ⟨q, hq, e⟩ := c
      refine List.mem_append_right _ ?_
      have x := (N' p hp).1
      have y := (N' q (hobj q hq)).1
      have e' : q.1 = p.1 := e
      rw [e', x] at y
      rw [show p = q from Prod.ext e'.symm (Option.some.inj y)]; exact hq
    · exact List.mem_append_left _ (List.mem_filter.mpr ⟨hp, decide_eq_true c⟩)
end
section
variable {prog : Program} {w : World} {A : Around} {E : Value → Shared → Prop} {s : Shared} {env : Env} {h₀ : Heap} {body : List Stmt} {Q : Flow → Shared → Prop}
/-- a turn of reduce, its end -/
def TurnR {α : Type} (Rel : List (Addr × Obj) → Value → α → Prop) (h₀ : Heap) (L I : Addr) (oI : Obj) (m₀ : Str → Option Value) (va ve : Value) (r : α) (nw : List (Addr × Obj)) (s₁ : Shared) (f : Flow) (s₂ : Shared) : Prop :=
  f = .next ∧ ∃ h' tk v' made, s₂ = { s₁ with heap := h', toks := tk } ∧ Fr h₀ L h' (fun y => if y = xV then some v' else if y = xE then some ve else if y = xV then some va else m₀ y) ∧ News h₀ L h' (made ++ (I, oI) :: nw) ∧ Rel (made ++ nw) v' r ∧ (∀ p ∈ made, @Ne Nat p.1 I)
theorem red_any {α : Type} (Rel : List (Addr × Obj) → Value → α → Prop) (mono : ∀ {tl tl' v b}, (∀ q ∈ tl, q ∈ tl') → Rel tl v b → Rel tl' v b) (op : α → α → α) {I al : Addr} {oI₀ : Obj} {w0 v0 : Value} {ws : List Value} {n : Nat} {m₀ : Str → Option Value} {rest : List (Addr × Obj)} {a0 : α} {xs : List α}
    (hh : A.handled = none) (F : Fr h₀ env.locals s.heap m₀) (N : News h₀ env.locals s.heap ((I, oI₀) :: rest)) (hit : ItAt oI₀ al 1) (hI : ∀ p ∈ rest, @Ne Nat p.1 I) (hal : (al, lstO (w0 :: ws) n) ∈ rest)
    (hm : m₀ xV = some v0) (h0 : Rel rest v0 a0) (hall : All2 (Rel rest) ws xs)
    (turn : ∀ (va ve : Value) (a e : α) (nw : List (Addr × Obj)) (h : Heap) (tk : Nat) (oI : Obj), Rel nw va a → Rel nw ve e → (∀ p ∈ rest, p ∈ nw) → Fr h₀ env.locals h (fun y => if y = xE then some ve else if y = xV then some va else m₀ y) → News h₀ env.locals h ((I, oI) :: nw) → (∀ p ∈ nw, @Ne Nat p.1 I) →
      wpAny (model prog w) A (execs body env) (TurnR Rel h₀ env.locals I oI m₀ va ve (op a e) nw { s with heap := h, toks := tk }) E { s with heap := h, toks := tk })
    (done : ∀ (v : Value) (u : Str → Option Value) (nw : List (Addr × Obj)) (h : Heap) (tk : Nat), Rel nw v (xs.foldl op a0) → (∀ p ∈ rest, p ∈ nw) → Fr h₀ env.locals h (fun y => if y = xE then u y else if y = xV then some v else m₀ y) → News h₀ env.locals h nw → Q .next { s with heap := h, toks := tk }) :
    wpAny (model prog w) A (pyIter (.ref I)) (fun it s₂ => LoopAtV prog w A h₀ env xE body Q E it s₂) E s := by
  have hne : xV ≠ xE := by decide
  refine for_iter2 (fun i m nw => ∃ (v : Value) (u : Str → Option Value), m = (fun y => if y = xE then u y else if y = xV then some v else m₀ y) ∧ Rel nw v ((xs.take (i - 1)).foldl op a0) ∧ ∀ p ∈ rest, p ∈ nw)
    hh F N hit hal hI (Nat.succ_le_of_lt (Nat.succ_pos _)) ⟨v0, m₀, ?_, h0, fun _ h => h⟩ (fun i m nw hJ => ?_) ?_ ?_
  · funext y
    by_cases h1 : y = xE
    · rw [if_pos h1]
    · rw [if_neg h1]
      by_cases h2 : y = xV
      · rw [if_pos h2, h2]; exact hm
      · rw [if_neg h2]
  · obtain ⟨_, _, _, _, hs⟩ := hJ
    exact hs _ hal
  · rintro i v m₁ nw h tk oI hv hi ⟨va, u, rfl, hr, hs⟩ F₁ N₁ ne
    obtain ⟨k, rfl⟩ : ∃ k, i = k + 1 := ⟨i - 1, by omega⟩
    rw [List.getElem?_cons_succ] at hv
    obtain ⟨e, he, hre⟩ := hall.get hv
    have hF : (fun y => if y = xE then some v else (fun y => if y = xE then u y else if y = xV then some va else m₀ y) y) = fun y => if y = xE then some v else if y = xV then some va else m₀ y := by
      funext y
      by_cases h1 : y = xE
      · simp [h1]
      · simp [h1]
    rw [hF] at F₁
    rw [Nat.add_sub_cancel] at hr
    refine wpAny_mono (turn va v _ e nw h tk oI hr (mono hs hre) hs F₁ N₁ ne) (fun f s₂ hp => ?_) fun _ _ e => e
    obtain ⟨rfl, h', tk', v', made, rfl, F', N', hv', hmI⟩ := hp
    refine ⟨h', tk', _, made ++ nw, rfl, F', fun p hp => N' p ?_, fun p hp => ?_, v', (fun y => if y = xE then some v else none), ?_, ?_, fun p hp => List.mem_append_right _ (hs p hp)⟩
    · rcases List.mem_cons.mp hp with rfl | hp
      · exact List.mem_append_right _ (.head _)
      · rcases List.mem_append.mp hp with hp | hp
        · exact List.mem_append_left _ hp
        · exact List.mem_append_right _ (.tail _ hp)
    · rcases List.mem_append.mp hp with hp | hp
      · exact hmI p hp
      · exact ne p hp
    · funext y
      by_cases h2 : y = xV
      · subst h2
        rw [if_pos rfl, if_neg hne, if_pos rfl]
      · rw [if_neg h2, if_neg h2]
        by_cases h1 : y = xE
        · rw [if_pos h1, if_pos h1]; show _ = if y = xE then _ else _; rw [if_pos h1]
        · rw [if_neg h1, if_neg h1, if_neg h2]
    · rw [show k + 1 + 1 - 1 = k + 1 by omega, take_get he, List.foldl_append]
      exact hv'
  · rintro m₁ nw h tk ⟨v, u, rfl, hr, hs⟩ F₁ N₁
    have e : ws.length = xs.length := hall.length
    rw [List.length_cons, Nat.add_sub_cancel, e, List.take_length] at hr
    exact done v u nw h tk hr hs F₁ N₁
end
theorem TurnR.of {α : Type} {Rel : List (Addr × Obj) → Value → α → Prop} {h₀ h' : Heap} {L I : Addr} {oI : Obj} {m₀ : Str → Option Value} {va ve v' : Value} {r : α} {nw made : List (Addr × Obj)} {s₁ : Shared} {tk : Nat}
    (F : Fr h₀ L h' (fun y => if y = xV then some v' else if y = xE then some ve else if y = xV then some va else m₀ y)) (N : News h₀ L h' (made ++ (I, oI) :: nw)) (hr : Rel (made ++ nw) v' r) (hm : ∀ p ∈ made, @Ne Nat p.1 I) :
    TurnR Rel h₀ L I oI m₀ va ve r nw s₁ .next { s₁ with heap := h', toks := tk } := ⟨rfl, h', tk, v', made, rfl, F, N, hr, hm⟩
end Mine
end
section
open PySem PySem.W PyProof.Rows PySem.Calls
set_option maxRecDepth 100000
namespace Mine
/-- the level and the share that a number tells, in quarters -/
def lev (z : Int) : Int := Int.fmod (Int.fdiv z 80) 5
def shr (z : Int) : Int := Int.fmod (Int.fdiv z 16) 5
def hue (z : Int) : Int := Int.fmod z 16
theorem lev_bd (z : Int) : 0 ≤ lev z ∧ lev z < 5 := ⟨Int.fmod_nonneg_of_pos _ (by decide), Int.fmod_lt_of_pos _ (by decide)⟩
theorem shr_bd (z : Int) : 0 ≤ shr z ∧ shr z < 5 := ⟨Int.fmod_nonneg_of_pos _ (by decide), Int.fmod_lt_of_pos _ (by decide)⟩
theorem hue_bd (z : Int) : 0 ≤ hue z ∧ hue z < 16 := ⟨Int.fmod_nonneg_of_pos _ (by decide), Int.fmod_lt_of_pos _ (by decide)⟩
/-- the weighed sum of levels -/
def wsum : Int → List Int → Int
  | _, [] => 0
  | k, z :: zs => lev z * k + wsum (2 * k) zs
def weighI : List Int → Int
  | [] => 0
  | z :: zs => lev z + wsum 1 zs
def unitI (zs : List Int) : Int := 4 * 2 ^ (zs.length - 1)
theorem ints_list {vs : List Value} {zs : List Int} (h : IntsAre vs zs) : vs.length = zs.length := by
  induction h with
  | nil => rfl
  | cons _ _ _ ih => rw [List.length_cons, List.length_cons, ih]
end Mine
namespace Mine
section
variable {prog : Program} {w : World} {A : Around} {E : Value → Shared → Prop} {s : Shared} {Q : Value → Shared → Prop} {a k : Int} {t u : Tok}
theorem mod5_gen (h : ∀ r, r = Int.fmod a 5 → 0 ≤ r → r < 5 → Q (.int r s.toks) { s with toks := s.toks + 1 }) : wpAny (model prog w) A (binaryOp .Mod (.int a t) (.int 5 u)) Q E s :=
  mod_int' (by decide) (h _ rfl (Int.fmod_nonneg_of_pos _ (by decide)) (Int.fmod_lt_of_pos _ (by decide)))
theorem mod16_gen (h : ∀ r, r = Int.fmod a 16 → 0 ≤ r → r < 16 → Q (.int r s.toks) { s with toks := s.toks + 1 }) : wpAny (model prog w) A (binaryOp .Mod (.int a t) (.int 16 u)) Q E s :=
  mod_int' (by decide) (h _ rfl (Int.fmod_nonneg_of_pos _ (by decide)) (Int.fmod_lt_of_pos _ (by decide)))
theorem pow2_at (p : Int) (j : Nat) (hk : k = (j : Int)) (hj : j < 12) (hp : (2 : Int) ^ j = p) (h : Q (.int p s.toks) { s with toks := s.toks + 1 }) :
    wpAny (model prog w) A (binaryOp .Pow (.int 2 t) (.int k u)) Q E s := by
  subst hk
  subst hp
  exact pow_int_small (by omega) (by omega) (by decide) (by rw [Int.toNat_natCast]; exact h)
end
theorem fr_eq {a b c d : Int} (h1 : a = c) (h2 : b = d) : fr a b = fr c d := by rw [h1, h2]
end Mine
end
section
open PySem PySem.W PyProof.Rows PySem.Calls
set_option maxRecDepth 100000
namespace Mine
abbrev xNum : Str := Str.ofString "number"
theorem ints_at {vs : List Value} {zs : List Int} (h : IntsAre vs zs) : ∀ {i : Nat} {v : Value}, vs[i]? = some v → ∃ z, zs[i]? = some z ∧ ∃ t, v = .int z t := by
  induction h with
  | nil => intro i v hv; simp at hv
  | cons z t _ ih =>
    intro i v hv
    cases i with
    | zero => simp at hv; subst hv; exact ⟨z, rfl, t, rfl⟩
    | succ i => simp at hv; simpa using ih hv
def wayI (z c : Int) : Int := mnI (Int.fmod (3 * hue z - c) 48) (Int.fmod (c - 3 * hue z) 48)
def actB (z : Int) : Bool := decide (shr z * lev z ≠ 0)
def waysZ (zs : List Int) : List Int := zs.filter actB
/-- a value is the list of a number's ways to the three corners -/
def IsWay (tl : List (Addr × Obj)) (v : Value) (z : Int) : Prop := ∃ a k t0 t1 t2, v = .ref a ∧ (a, lstO [.int (wayI z 0) t0, .int (wayI z 16) t1, .int (wayI z 32) t2] k) ∈ tl
theorem IsWay.mono {tl tl' : List (Addr × Obj)} {v : Value} {z : Int} (h : ∀ q ∈ tl, q ∈ tl') : IsWay tl v z → IsWay tl' v z := fun ⟨a, k, t0, t1, t2, e, hm⟩ => ⟨a, k, t0, t1, t2, e, h _ hm⟩
end Mine
namespace Mine
section
variable {prog : Program} {w : World} {A : Around} {E : Value → Shared → Prop} {s : Shared} {env : Env} {h₀ : Heap} {body : List Stmt} {Q : Flow → Shared → Prop}
def WaysEnd (h₀ : Heap) (L I : Addr) (oI : Obj) (m₀ : Str → Option Value) (aw ce : Addr) (v : Value) (ws : List Value) (z : Int) (nw : List (Addr × Obj)) (s₁ : Shared) (f : Flow) (s₂ : Shared) : Prop :=
  f = .next ∧ ∃ h' tk oc x k all, s₂ = { s₁ with heap := h', toks := tk } ∧ Fr h₀ L h' (fun y => if y = xNum then some v else m₀ y) ∧ News h₀ L h' all ∧ (I, oI) ∈ all ∧ (ce, oc) ∈ all ∧ oc.data = .cell x ∧ (∀ p ∈ nw, p ∈ all) ∧
    ((actB z = false ∧ (aw, lstO ws k) ∈ all) ∨ (actB z = true ∧ ∃ D n t0 t1 t2, (aw, lstO (ws ++ [.ref D]) k) ∈ all ∧ (D, lstO [.int (wayI z 0) t0, .int (wayI z 16) t1, .int (wayI z 32) t2] n) ∈ all ∧ @Ne Nat D I ∧ @Ne Nat D aw ∧ @Ne Nat D ce))
theorem ways_loop {al aw ce : Addr} {vs : List Value} {n : Nat} {oc₀ : Obj} {x₀ : Option Value} {m₀ : Str → Option Value} {nw₀ : List (Addr × Obj)} {zs : List Int}
    (hh : A.handled = none) (F : Fr h₀ env.locals s.heap m₀) (N : News h₀ env.locals s.heap ((aw, lstO [] 0) :: (ce, oc₀) :: nw₀)) (hoc : oc₀.data = .cell x₀) (hal : (al, lstO vs n) ∈ nw₀) (hi : IntsAre vs zs)
    (h1 : @Ne Nat aw ce) (h2 : ∀ p ∈ nw₀, @Ne Nat p.1 aw) (h3 : ∀ p ∈ nw₀, @Ne Nat p.1 ce)
    (turn : ∀ (i : Nat) (z : Int) (t : Tok) (ws : List Value) (k : Nat) (oc : Obj) (x : Option Value) (nw : List (Addr × Obj)) (h : Heap) (tk : Nat) (I : Addr) (oI : Obj), ws.length ≤ i → i < zs.length → oc.data = .cell x → (∀ p ∈ nw, @Ne Nat p.1 aw) → (∀ p ∈ nw, @Ne Nat p.1 ce) → (∀ p ∈ nw, @Ne Nat p.1 I) → @Ne Nat aw ce → @Ne Nat aw I → @Ne Nat ce I →
      Fr h₀ env.locals h (fun y => if y = xNum then some (.int z t) else m₀ y) → News h₀ env.locals h ((I, oI) :: (aw, lstO ws k) :: (ce, oc) :: nw) →
      wpAny (model prog w) A (execs body env) (WaysEnd h₀ env.locals I oI m₀ aw ce (.int z t) ws z nw { s with heap := h, toks := tk }) E { s with heap := h, toks := tk })
    (done : ∀ (u : Str → Option Value) (ws : List Value) (k : Nat) (oc : Obj) (nw : List (Addr × Obj)) (h : Heap) (tk : Nat), (∀ p ∈ nw₀, p ∈ nw) → All2 (IsWay nw) ws (waysZ zs) →
      Fr h₀ env.locals h (fun y => if y = xNum then u y else m₀ y) → News h₀ env.locals h ((aw, lstO ws k) :: (ce, oc) :: nw) → Q .next { s with heap := h, toks := tk }) :
    LoopW prog w A h₀ env xNum body Q E (.ref al) s := by
  refine for_list (fun i m nw => ∃ (u : Str → Option Value) (ws : List Value) (k : Nat) (oc : Obj) (x : Option Value) (nw' : List (Addr × Obj)), m = (fun y => if y = xNum then u y else m₀ y) ∧ nw = (aw, lstO ws k) :: (ce, oc) :: nw' ∧ oc.data = .cell x ∧
      (∀ p ∈ nw', @Ne Nat p.1 aw) ∧ (∀ p ∈ nw', @Ne Nat p.1 ce) ∧ (∀ p ∈ nw₀, p ∈ nw') ∧ ws.length ≤ i ∧ All2 (IsWay nw') ws (waysZ (zs.take i)))
    hh F N (.tail _ (.tail _ hal)) ⟨m₀, [], 0, oc₀, x₀, nw₀, ?_, rfl, hoc, h2, h3, fun _ h => h, Nat.le_refl _, .nil⟩ (fun i m nw hJ => ?_) ?_ ?_
  · funext y
    by_cases h1 : y = xNum
    · rw [if_pos h1]
    · rw [if_neg h1]
  · obtain ⟨_, _, _, _, _, _, _, rfl, _, _, _, hs, _⟩ := hJ
    exact .tail _ (.tail _ (hs _ hal))
  · rintro I i v m₁ nw h tk oI hv ⟨u, ws, k, oc, x, nw', rfl, rfl, hx, g1, g2, hs, hl, hws⟩ F₁ N₁ ne
    have hil : i < vs.length := by
      rcases Nat.lt_or_ge i vs.length with q | q
      · exact q
      · rw [List.getElem?_eq_none q] at hv; cases hv
    have hlz := ints_list hi
    obtain ⟨z, hz, t, rfl⟩ := ints_at hi hv
    have hF : (fun y => if y = xNum then some (Value.int z t) else (fun y => if y = xNum then u y else m₀ y) y) = fun y => if y = xNum then some (Value.int z t) else m₀ y := by
      funext y
      by_cases h1 : y = xNum
      · simp [h1]
      · simp [h1]
    rw [hF] at F₁
    refine wpAny_mono (turn i z t ws k oc x nw' h tk I oI hl (by omega) hx g1 g2 (fun p hp => ne p (.tail _ (.tail _ hp))) h1 (ne _ (.head _)) (ne _ (.tail _ (.head _))) F₁ N₁) (fun f s₂ hp => ?_) fun _ _ e => e
    obtain ⟨rfl, h', tk', oc', x', k', all, rfl, F', N', mI, mc, hx', hsub, hcase⟩ := hp
    have e0 : (fun y => if y = xNum then some (Value.int z t) else m₀ y) = fun y => if y = xNum then (fun _ => some (Value.int z t)) y else m₀ y := rfl
    rcases hcase with ⟨ha, hw⟩ | ⟨ha, D, nD, d0, d1, d2, hw, hD, n1, n2, n3⟩
    · refine ⟨h', tk', _, (aw, lstO ws k') :: (ce, oc') :: nw', rfl, F', fun p hp => ?_, fun p hp => ?_, _, ws, k', oc', x', nw', e0, rfl, hx', g1, g2, hs, Nat.le_succ_of_le hl, ?_⟩
      · rcases List.mem_cons.mp hp with rfl | hp
        · exact N' _ mI
        · rcases List.mem_cons.mp hp with rfl | hp
          · exact N' _ hw
          · rcases List.mem_cons.mp hp with rfl | hp
            · exact N' _ mc
            · exact N' _ (hsub p hp)
      · rcases List.mem_cons.mp hp with rfl | hp
        · exact ne (aw, lstO ws k) (.head _)
        · rcases List.mem_cons.mp hp with rfl | hp
          · exact ne (ce, oc) (.tail _ (.head _))
          · exact ne p (.tail _ (.tail _ hp))
      · rw [take_get hz]
        unfold waysZ
        rw [List.filter_append, show [z].filter actB = [] by simp [ha], List.append_nil]
        exact hws
    · refine ⟨h', tk', _, (aw, lstO (ws ++ [.ref D]) k') :: (ce, oc') :: ((D, lstO [.int (wayI z 0) d0, .int (wayI z 16) d1, .int (wayI z 32) d2] nD) :: nw'), rfl, F', fun p hp => ?_, fun p hp => ?_, _, _, k', oc', x', _, e0, rfl, hx', ?_, ?_, fun p hp => .tail _ (hs p hp), ?_, ?_⟩
      · rcases List.mem_cons.mp hp with rfl | hp
        · exact N' _ mI
        · rcases List.mem_cons.mp hp with rfl | hp
          · exact N' _ hw
          · rcases List.mem_cons.mp hp with rfl | hp
            · exact N' _ mc
            · rcases List.mem_cons.mp hp with rfl | hp
              · exact N' _ hD
              · exact N' _ (hsub p hp)
      · rcases List.mem_cons.mp hp with rfl | hp
        · exact ne (aw, lstO ws k) (.head _)
        · rcases List.mem_cons.mp hp with rfl | hp
          · exact ne (ce, oc) (.tail _ (.head _))
          · rcases List.mem_cons.mp hp with rfl | hp
            · exact n1
            · exact ne p (.tail _ (.tail _ hp))
      · intro p hp
        rcases List.mem_cons.mp hp with rfl | hp
        · exact n2
        · exact g1 p hp
      · intro p hp
        rcases List.mem_cons.mp hp with rfl | hp
        · exact n3
        · exact g2 p hp
      · rw [List.length_append]; simp only [List.length_singleton]; omega
      · rw [take_get hz]
        unfold waysZ
        rw [List.filter_append, show [z].filter actB = [z] by simp [ha]]
        exact All2.append (hws.imp fun _ _ => IsWay.mono fun q hq => .tail _ hq) (.cons ⟨D, nD, d0, d1, d2, rfl, .head _⟩ .nil)
  · rintro m₁ nw h tk ⟨u, ws, k, oc, x, nw', rfl, rfl, hx, g1, g2, hs, hl, hws⟩ F₁ N₁
    rw [ints_list hi, List.take_length] at hws
    exact done u ws k oc nw' h tk hs hws F₁ N₁
end
end Mine
namespace Mine
section
variable {h₀ h' : Heap} {L I aw ce D l : Addr} {oI oc ol : Obj} {m₀ : Str → Option Value} {v : Value} {ws : List Value} {z : Int} {nw : List (Addr × Obj)} {s₁ : Shared} {tk k : Nat} {x : Option Value}
theorem WaysEnd.no (F : Fr h₀ L h' (fun y => if y = xNum then some v else m₀ y)) (N : News h₀ L h' ((I, oI) :: (aw, lstO ws k) :: (ce, oc) :: nw)) (hd : oc.data = .cell x) (ha : actB z = false) :
    WaysEnd h₀ L I oI m₀ aw ce v ws z nw s₁ .next { s₁ with heap := h', toks := tk } :=
  ⟨rfl, h', tk, oc, x, k, _, rfl, F, N, .head _, .tail _ (.tail _ (.head _)), hd, fun p hp => .tail _ (.tail _ (.tail _ hp)), .inl ⟨ha, .tail _ (.head _)⟩⟩
theorem WaysEnd.yes {a b c : Int} {t0 t1 t2 : Tok} (F : Fr h₀ L h' (fun y => if y = xNum then some v else m₀ y)) (N : News h₀ L h' ((D, LCg.lst [.int a t0, .int b t1, .int c t2]) :: (l, ol) :: (I, oI) :: (aw, { cls := .type "list", data := .seq (ws.toArray.push (.ref D)) k }) :: (ce, oc) :: nw)) (hd : oc.data = .cell x)
    (o1 : @Ne Nat l D ∧ @Ne Nat I D ∧ @Ne Nat aw D ∧ @Ne Nat ce D ∧ LCg.Off1 D nw) (ha : actB z = true) (ea : a = wayI z 0) (eb : b = wayI z 16) (ec : c = wayI z 32) :
    WaysEnd h₀ L I oI m₀ aw ce v ws z nw s₁ .next { s₁ with heap := h', toks := tk } := by
  rw [List.push_toArray] at N
  subst ea eb ec
  exact ⟨rfl, h', tk, oc, x, k, _, rfl, F, N, .tail _ (.tail _ (.head _)), .tail _ (.tail _ (.tail _ (.tail _ (.head _)))), hd, fun p hp => .tail _ (.tail _ (.tail _ (.tail _ (.tail _ hp)))),
    .inr ⟨ha, D, _, t0, t1, t2, .tail _ (.tail _ (.tail _ (.head _))), .head _, Ne.symm o1.2.1, Ne.symm o1.2.2.1, Ne.symm o1.2.2.2.1⟩⟩
end
theorem act_yes {z a b : Int} (ea : a = Int.fmod (Int.fdiv z 16) 5) (eb : b = Int.fmod (Int.fdiv z 80) 5) (h : a * b ≠ 0) : actB z = true := by subst ea eb; exact decide_eq_true h
theorem act_no {z a b : Int} (ea : a = Int.fmod (Int.fdiv z 16) 5) (eb : b = Int.fmod (Int.fdiv z 80) 5) (h : a * b = 0) : actB z = false := by subst ea eb; exact decide_eq_false (fun q => q h)
theorem way_eq {z c p q r a : Int} (ea : a = Int.fmod z 16) (ep : p = Int.fmod (3 * a - c) 48) (eq : q = Int.fmod (c - 3 * a) 48) (er : r = mnI p q) : r = wayI z c := by subst ea ep eq er; rfl
end Mine
end
section
open PySem PySem.W PyProof.Rows PySem.Calls PyProof.Rows.LCg
set_option maxRecDepth 100000
namespace Mine
section
variable {prog : Program} {w : World} {A : Around} {E : Value → Shared → Prop} {s : Shared} {env : Env} {h₀ : Heap} {x : Str} {body : List Stmt} {Q : Flow → Shared → Prop}
/-- the end of a turn, by what the next turn needs -/
theorem unr_mono {L : Addr} {s₁ s₂ : Shared} {I : Addr} {it : Obj} {f : Flow} {r r' : (Str → Option Value) → List (Addr × Obj) → Prop} (h : ∀ m nw, r m nw → r' m nw) (p : UnrPost h₀ L s₁ I it r Q f s₂) : UnrPost h₀ L s₁ I it r' Q f s₂ := by
  have z : UnrEnd h₀ L s₁ I it r s₂ → UnrEnd h₀ L s₁ I it r' s₂ := fun ⟨h', tk, m', nw', e, F, N, o, q⟩ => ⟨h', tk, m', nw', e, F, N, o, h _ _ q⟩
  cases f with
  | ret v => exact p
  | brk => exact p
  | next => exact z p
  | cont => exact z p
/-- a for loop over a range by an invariant -/
theorem range_inv {I : Addr} {a : Int} {n : Nat} (J : Nat → (Str → Option Value) → List (Addr × Obj) → Prop)
    (step : ∀ i m nw t h tk, i < n → J i m nw → Fr h₀ env.locals h (fun y => if y = x then some (.int (a + (i : Int)) t) else m y) → News h₀ env.locals h ((I, itR (a + ((i + 1 : Nat) : Int)) ((n : Int) - ((i + 1 : Nat) : Int))) :: nw) →
      wpAny (model prog w) A (execs body env) (UnrPost h₀ env.locals { s with heap := h, toks := tk } I (itR (a + ((i + 1 : Nat) : Int)) ((n : Int) - ((i + 1 : Nat) : Int))) (J (i + 1)) Q) E { s with heap := h, toks := tk })
    (fin : ∀ m nw h tk, J n m nw → Fr h₀ env.locals h m → News h₀ env.locals h nw → Q .next { s with heap := h, toks := tk }) :
    ∀ k i m nw, i + k = n → J i m nw → RangeRest prog w A E h₀ env x body Q s I a n k i m nw
  | 0, i, m, nw, e, hJ => RangeRest.zero fun h tk F N => fin m nw h tk ((show i = n by omega) ▸ hJ) F N
  | k + 1, i, m, nw, e, hJ => RangeRest.succ fun t h tk F N => wpAny_mono (step i m nw t h tk (by omega) hJ F N) (fun _ _ p => unr_mono (fun m nw hj => range_inv J step fin k (i + 1) m nw (by omega) hj) p) fun _ _ e => e
end
theorem range_one {a b : Int} (h0 : 0 ≤ a) (h1 : a ≤ b) (h2 : b ≤ 100) : Builtin.Range.rangeSize a b 1 = b - a ∧ Builtin.Range.small a b 1 = true := by
  have e : Builtin.Range.rangeSize a b 1 = b - a := by
    unfold Builtin.Range.rangeSize
    by_cases c : a < b
    · rw [if_pos (by decide), if_pos c, Int.ediv_one]; omega
    · rw [if_pos (by decide), if_neg c]; omega
  refine ⟨e, ?_⟩
  unfold Builtin.Range.small
  rw [e]
  have f : ∀ z : Int, 0 ≤ z → z ≤ 101 → Builtin.Range.rangeFitsLong z = true := fun z z1 z2 => by
    unfold Builtin.Range.rangeFitsLong
    simp only [Bool.and_eq_true, decide_eq_true_eq]
    omega
  rw [f a h0 (by omega), f b (by omega) (by omega), f 1 (by decide) (by decide), f (b - a) (by omega) (by omega), if_pos (by decide), f (b + (1 - 1)) (by omega) (by omega), Bool.or_true]
  rfl
abbrev xWhole : Str := Str.ofString "whole"
abbrev xPlace : Str := Str.ofString "place"
theorem wsum_snoc (z : Int) : ∀ (k : Int) (zs : List Int), wsum k (zs ++ [z]) = wsum k zs + lev z * (k * 2 ^ zs.length)
  | k, [] => by simp [wsum]
  | k, y :: zs => by
    rw [List.cons_append, wsum, wsum, wsum_snoc z (2 * k) zs, List.length_cons, Int.pow_succ, Int.mul_comm 2 k, Int.mul_assoc k 2, Int.mul_comm 2 (2 ^ zs.length), Int.add_assoc]
theorem weigh_snoc {zs : List Int} {i : Nat} {z : Int} (h : zs[i + 1]? = some z) : weighI (zs.take (i + 2)) = weighI (zs.take (i + 1)) + lev z * 2 ^ i := by
  cases zs with
  | nil => simp at h
  | cons y zs =>
    have h' : zs[i]? = some z := by simpa using h
    obtain ⟨hi, e⟩ := List.getElem?_eq_some_iff.mp h'
    rw [List.take_succ_cons, List.take_succ_cons, weighI, weighI, List.take_add_one, h', Option.toList_some, wsum_snoc, List.length_take, Nat.min_eq_left (by omega), Int.one_mul, Int.add_assoc]
theorem pow2_le {i : Nat} (h : i ≤ 3) : (0 : Int) ≤ 2 ^ i ∧ (2 : Int) ^ i ≤ 8 := by
  obtain rfl | rfl | rfl | rfl : i = 0 ∨ i = 1 ∨ i = 2 ∨ i = 3 := by omega
  all_goals decide
theorem weigh_bd (zs : List Int) : ∀ i, i ≤ 4 → 0 ≤ weighI (zs.take (i + 1)) ∧ weighI (zs.take (i + 1)) ≤ 4 + 32 * i
  | 0, _ => by
    cases zs with
    | nil => simp [weighI]
    | cons z zs =>
      have := lev_bd z
      rw [List.take_succ_cons, List.take_zero, weighI, wsum]
      omega
  | i + 1, h => by
    have ih := weigh_bd zs i (by omega)
    cases e : zs[i + 1]? with
    | none =>
      have hl := List.getElem?_eq_none_iff.mp e
      rw [List.take_of_length_le (by omega)] at ih ⊢
      omega
    | some z =>
      rw [weigh_snoc e]
      have b := lev_bd z
      have p := pow2_le (i := i) (by omega)
      have q : 0 ≤ lev z * 2 ^ i ∧ lev z * 2 ^ i ≤ 4 * 8 := ⟨Int.mul_nonneg b.1 p.1, Int.mul_le_mul (by omega) p.2 p.1 (by decide)⟩
      omega
theorem weigh_fits (zs : List Int) (h : zs.length ≤ 5) : (weighI zs).natAbs < 2 ^ 64 := by
  have z := weigh_bd zs 4 (by decide)
  rw [List.take_of_length_le (by omega)] at z
  omega
section
variable {prog : Program} {w : World} {A : Around} {E : Value → Shared → Prop} {s : Shared} {t u : Tok}
theorem pow2_pl {Q : Value → Shared → Prop} {i : Nat} (hi : i < 12) (h : Q (.int (2 ^ i) s.toks) { s with toks := s.toks + 1 }) :
    wpAny (model prog w) A (binaryOp .Pow (.int 2 t) (.int (1 + (i : Int) - 1) u)) Q E s := pow2_at _ i (by omega) hi rfl h
theorem pow2_len {Q : Value → Shared → Prop} {l : Nat} (h1 : 1 ≤ l) (hi : l < 12) (h : Q (.int (2 ^ (l - 1)) s.toks) { s with toks := s.toks + 1 }) :
    wpAny (model prog w) A (binaryOp .Pow (.int 2 t) (.int ((l : Int) - 1) u)) Q E s := pow2_at _ (l - 1) (by omega) (by omega) rfl h
end
theorem unit_ne (l : Nat) : (4 : Int) * 2 ^ l ≠ 0 := by
  have := Int.pow_pos (n := 2) (m := l) (by decide)
  omega
theorem len_lst {prog : Program} {w : World} {A : Around} {E : Value → Shared → Prop} {s : Shared} {h₀ : Heap} {L : Addr} {Q : Value → Shared → Prop} {al : Addr} {vs : List Value} {n l : Nat} {news : List (Addr × Obj)} (N : News h₀ L s.heap news) (hm : (al, lstO vs n) ∈ news) (e : vs.length = l) (hz : l ≤ 100)
    (h : Q (.int (l : Int) (s.toks + 1)) { s with toks := s.toks + 1 + 1 }) : wpAny (model prog w) A (call (.builtin "len") [.ref al]) Q E s :=
  kun_lenL (News.isList N hm) (by simp [e]) (by omega) h
section
variable {prog : Program} {w : World} {A : Around} {E : Value → Shared → Prop} {s : Shared} {env : Env} {h₀ : Heap} {body : List Stmt} {Q : Flow → Shared → Prop}
def WeighEnd (h₀ : Heap) (L I : Addr) (it : Obj) (m₀ : Str → Option Value) (x : Int) (nw : List (Addr × Obj)) (s₁ : Shared) (f : Flow) (s₂ : Shared) : Prop :=
  f = .next ∧ ∃ h' tk m' all t, s₂ = { s₁ with heap := h', toks := tk } ∧ Fr h₀ L h' m' ∧ (∀ y, y ≠ xWhole → y ≠ xPlace → m' y = m₀ y) ∧ m' xWhole = some (.int x t) ∧ News h₀ L h' all ∧ (∀ p ∈ (I, it) :: nw, p ∈ all)
theorem WeighEnd.of {L I : Addr} {it : Obj} {m₀ m' : Str → Option Value} {x x' : Int} {t : Tok} {nw all : List (Addr × Obj)} {s₁ : Shared} {h' : Heap} {tk : Nat} (F : Fr h₀ L h' m') (hm : ∀ y, y ≠ xWhole → y ≠ xPlace → m' y = m₀ y) (hx : m' xWhole = some (.int x' t)) (e : x' = x)
    (N : News h₀ L h' all) (sub : ∀ p ∈ (I, it) :: nw, p ∈ all) : WeighEnd h₀ L I it m₀ x nw s₁ .next { s₁ with heap := h', toks := tk } := by
  subst e; exact ⟨rfl, h', tk, m', all, t, rfl, F, hm, hx, N, sub⟩
theorem weigh_loop {r : Addr} {b x₀ : Int} {t₀ u₀ v₀ tx : Tok} {vs : List Value} {zs : List Int} {m₀ : Str → Option Value} {nw : List (Addr × Obj)} (hh : A.handled = none) (hr : IsRange s.heap r 1 b 1 t₀ u₀ v₀) (hb : b = (vs.length : Int)) (hi : IntsAre vs zs) (l1 : 1 ≤ zs.length) (l5 : zs.length ≤ 5)
    (hx : x₀ = weighI (zs.take 1)) (F : Fr h₀ env.locals s.heap (fun y => if y = xWhole then some (.int x₀ tx) else m₀ y)) (N : News h₀ env.locals s.heap nw)
    (turn : ∀ (i : Nat) (z x : Int) (u t tx : Tok) (h : Heap) (tk : Nat) (I : Addr) (it : Obj), i < 4 → vs[((1 : Int) + (i : Int)).toNat]? = some (.int z u) → Fr h₀ env.locals h (fun y => if y = xPlace then some (.int (1 + (i : Int)) t) else if y = xWhole then some (.int x tx) else m₀ y) →
      News h₀ env.locals h ((I, it) :: nw) → wpAny (model prog w) A (execs body env) (WeighEnd h₀ env.locals I it m₀ (x + lev z * 2 ^ i) nw { s with heap := h, toks := tk }) E { s with heap := h, toks := tk })
    (done : ∀ (u : Str → Option Value) (t : Tok) (h : Heap) (tk : Nat), Fr h₀ env.locals h (fun y => if y = xPlace then u y else if y = xWhole then some (.int (weighI zs) t) else m₀ y) → News h₀ env.locals h nw → Q .next { s with heap := h, toks := tk }) :
    wpAny (model prog w) A (pyIter (.ref r)) (fun it s₂ => LoopAtV prog w A h₀ env xPlace body Q E it s₂) E s := by
  have hlz := ints_list hi
  have hb' : b = (((vs.length - 1 : Nat) : Int) + 1) := by omega
  have norm : ∀ (m : Str → Option Value) (x : Int) (t : Tok), (∀ y, y ≠ xWhole → y ≠ xPlace → m y = m₀ y) → m xWhole = some (.int x t) → ∀ v : Option Value, (fun y => if y = xPlace then v else m y) = fun y => if y = xPlace then v else if y = xWhole then some (.int x t) else m₀ y := fun m x t hm hx v => by
    funext y
    by_cases a1 : y = xPlace
    · rw [if_pos a1, if_pos a1]
    · rw [if_neg a1, if_neg a1]
      by_cases a2 : y = xWhole
      · rw [if_pos a2, a2]; exact hx
      · rw [if_neg a2]; exact hm y a2 a1
  have norm' : ∀ (m : Str → Option Value) (x : Int) (t : Tok), (∀ y, y ≠ xWhole → y ≠ xPlace → m y = m₀ y) → m xWhole = some (.int x t) → m = fun y => if y = xPlace then m y else if y = xWhole then some (.int x t) else m₀ y := fun m x t hm hx => by
    funext y
    by_cases a1 : y = xPlace
    · rw [if_pos a1]
    · rw [if_neg a1]
      by_cases a2 : y = xWhole
      · rw [if_pos a2, a2]; exact hx
      · rw [if_neg a2]; exact hm y a2 a1
  refine iter_rangeUnr (n := vs.length - 1) hh hr ?_ ?_ F N fun I hI => range_inv (fun i m nw' => nw' = nw ∧ (∀ y, y ≠ xWhole → y ≠ xPlace → m y = m₀ y) ∧ ∃ t, m xWhole = some (.int (weighI (zs.take (i + 1))) t)) ?_ ?_ _ 0 _ _ (Nat.zero_add _) ⟨rfl, fun y h1 _ => if_neg h1, tx, ?_⟩
  · exact (range_one (by decide) (by omega) (by omega)).2
  · rw [(range_one (by decide) (by omega) (by omega)).1]; omega
  · rintro i m nw' t h tk hin ⟨rfl, hm, tw, hx⟩ F₁ N₁
    have hlt : 1 + i < vs.length := by omega
    obtain ⟨z, hz, u, hv⟩ := ints_at hi (List.getElem?_eq_getElem hlt)
    have hv' : vs[((1 : Int) + (i : Int)).toNat]? = some (.int z u) := by
      rw [show ((1 : Int) + (i : Int)).toNat = 1 + i by omega, List.getElem?_eq_getElem hlt, hv]
    rw [norm m _ tw hm hx] at F₁
    refine wpAny_mono (turn i z _ u t tw h tk I _ (by omega) hv' F₁ N₁) (fun f s₂ hp => ?_) fun _ _ e => e
    obtain ⟨rfl, h', tk', m', all, t', rfl, F', hm', hx', N', sub⟩ := hp
    refine ⟨h', tk', m', nw', rfl, F', fun p hp => N' p (sub p hp), fun p hp e => ?_, rfl, hm', t', ?_⟩
    · exact absurd (e ▸ hI p hp) (Nat.lt_irrefl _)
    · rw [hx', weigh_snoc (by rw [Nat.add_comm]; exact hz)]
  · rintro m nw' h tk ⟨rfl, hm, tw, hx⟩ F₁ N₁
    rw [List.take_of_length_le (by omega)] at hx
    rw [norm' m _ tw hm hx] at F₁
    exact done m tw h tk F₁ N₁
  · rw [if_pos rfl, hx]
end
end Mine
end
section
open PySem PySem.W PyProof.Rows PySem.Calls PyProof.Rows.LCg
set_option maxRecDepth 100000
namespace Mine
section
variable {M : Model} {A : Around} {E : Value → Shared → Prop} {s : Shared} {env : Env}
theorem newEnv_cell {scope : Scope} {cl : List (Str × Addr)} {x : Str} {Q : Env → Shared → Prop} (hcf : ∀ k, cellsFrom k scope.names cl = (x, k) :: cl) (hpc : ∀ h, pushCells h scope.names = h.push { cls := .type "cell", data := .cell none })
    (h : Q (newEnv scope s.heap.objs.size env.globals ((x, s.heap.objs.size + 1) :: cl) env.qual none .none (some env) builtinsNs) { s with heap := (s.heap.push { cls := .type "dict", data := .dict #[] }).push { cls := .type "cell", data := .cell none } }) :
    wpAny M A (newFunctionEnv scope env.globals cl [] env.qual none .none (some env)) Q E s := by
  simp only [newFunctionEnv, Option.isSome_some, if_true]
  refine wpAny_bind (wpAny_alloc ?_)
  refine wpAny_bind (wpAny_layCells _ (fun name kind cells => by cases hkc : kind == NameKind.cell <;> simp [hkc]) _ _ _ _ ?_)
  have e : ({ s with heap := s.heap.push { cls := .type "dict", data := .dict #[] } } : Shared).heap.objs.size = s.heap.objs.size + 1 := Heap.size_push ..
  rw [e, hcf, show ({ s with heap := s.heap.push { cls := .type "dict", data := .dict #[] } } : Shared).heap = s.heap.push { cls := .type "dict", data := .dict #[] } from rfl, hpc]
  rw [List.forIn_nil]
  exact wpAny_bind (wpAny_pure (wpAny_pure h))
end
def Off4 (I C K D : Addr) (l : List (Addr × Obj)) : Prop := ∀ p ∈ l, @Ne Nat p.1 I ∧ @Ne Nat p.1 C ∧ @Ne Nat p.1 K ∧ @Ne Nat p.1 D
def TEnd (h₀ : Heap) (L : Addr) (m : Str → Option Value) (s₁ : Shared) (I : Addr) (oI : Obj) (C : Addr) (oC : Obj) (K : Addr) (oK : Obj) (D : Addr) (oD : Obj) (R : List (Addr × Obj) → Prop) (s₂ : Shared) : Prop :=
  ∃ h' tk nw', s₂ = { s₁ with heap := h', toks := tk } ∧ Fr h₀ L h' m ∧ News h₀ L h' ((I, oI) :: (C, oC) :: (K, oK) :: (D, oD) :: nw') ∧ Off4 I C K D nw' ∧ R nw'
section
variable {prog : Program} {w : World} {A : Around} {E : Value → Shared → Prop} {s : Shared} {h₀ : Heap} {L : Addr} {m : Str → Option Value} {env : Env}
/-- a block whose variable lies in a cell (a block within it closes over it), with one test -/
theorem block_TC {ct elt iter : Expr} {x : Str} {px : Pos} {scope : Scope} {cl : List (Str × Addr)} {pos : Pos} {s₂ : Shared} {I : Addr} {n : Nat} {P : Nat → Value → Prop} {St : Nat → Heap → Prop} {news : List (Addr × Obj)}
    {RR : Value → Addr → Result → Shared → Prop} (Inv : Nat → List Value → List (Addr × Obj) → Prop)
    (W : Walks prog w A I [I] [I] n P St) (hsz : n ≤ sizeLine) (hIo : ∀ i h, St i h → ∃ o, h.get? I = some o) (hSt : ∀ i h h' o, St i h → h.get? I = some o → h'.get? I = some o → St i h')
    (hcf : ∀ k, cellsFrom k scope.names cl = (x, k) :: cl) (hpc : ∀ h, pushCells h scope.names = h.push { cls := .type "cell", data := .cell none })
    (hkind : scope.kind = .function) (hx : (relabel scope env).names.lookup x = some .cell) (hst : St 0 s₂.heap) (hIlt : I < s₂.heap.objs.size)
    (F : Fr h₀ L s₂.heap m) (N : News h₀ L s₂.heap news) (hIL : L ≠ I) (hI₀ : h₀.get? I = none) (off : ∀ p ∈ news, p.1 ≠ I) (h0 : Inv 0 [] news)
    (step : ∀ i v I oI C oC K oK D m₂ h tk (E' : Value → Shared → Prop) ys nw, i < n → P i v → Inv i ys nw → NsObj oC m₂ → oK.data = .cell (some v) → Fr h₀ L h m → News h₀ L h ((I, oI) :: (C, oC) :: (K, oK) :: (D, lst ys) :: nw) → Off4 I C K D nw →
      ((@Ne Nat I C) ∧ (@Ne Nat I K) ∧ (@Ne Nat I D) ∧ (@Ne Nat C K) ∧ (@Ne Nat C D) ∧ (@Ne Nat K D)) →
      wpAny (model prog w) A (isTrue ct (compEnvC scope ((x, K) :: cl) C env) (eval ct (compEnvC scope ((x, K) :: cl) C env))) (fun ok s' => if ok = true then
        wpAny (model prog w) A (eval elt (compEnvC scope ((x, K) :: cl) C env)) (fun y s₃ => TEnd h₀ L m { s₂ with heap := h, toks := tk } I oI C oC K oK D (lst ys) (Inv (i + 1) (ys ++ [y])) s₃) E' s'
        else TEnd h₀ L m { s₂ with heap := h, toks := tk } I oI C oC K oK D (lst ys) (Inv (i + 1) ys) s') E' { s₂ with heap := h, toks := tk })
    (hRR : ∀ D C h tk m' ys nw, Fr h₀ L h m → News h₀ L h ((D, lst ys) :: nw) → Off1 D nw → h.Ns C m' → h₀.get? C = none → h₀.get? D = none → C ≠ L → D ≠ L → C ≠ D → (∀ p ∈ nw, p.1 ≠ C) → Inv n ys nw → RR (.ref D) C (.ok .next) { s₂ with heap := h, toks := tk }) :
    wpAny (model prog w) A (newList []) (fun acc s₃ => wpAny (model prog w) A (newFunctionEnv scope env.globals cl [] env.qual none .none (some env)) (fun cenv s₄ =>
      codeAny (model prog w) A (.compStart (.ListComp elt [⟨.Name x px, iter, [ct], 0⟩] scope pos) 0 (.ref I) acc { cenv with scope := relabel scope env }) (RR acc cenv.locals) s₄) E s₃) E s₂ := by
  refine wpAny_newObj_type (newEnv_cell hcf hpc ?_)
  dsimp only
  generalize hH2 : s₂.heap.push { cls := .type "list", dict := none, data := .seq ([] : List Value).toArray } = H2
  have hC : H2.objs.size = s₂.heap.objs.size + 1 := by rw [← hH2, Heap.size_push]
  generalize hH3 : H2.push { cls := .type "dict", data := .dict #[] } = H3
  have hK : H3.objs.size = H2.objs.size + 1 := by rw [← hH3, Heap.size_push]
  generalize hH4 : H3.push { cls := .type "cell", data := .cell none } = h₁
  have hDC : s₂.heap.objs.size ≠ H2.objs.size := by rw [hC]; exact Nat.ne_of_lt (Nat.lt_succ_self _)
  have hDK : s₂.heap.objs.size ≠ H2.objs.size + 1 := by rw [hC]; exact Nat.ne_of_lt (Nat.lt_succ_of_lt (Nat.lt_succ_self _))
  have hCK : H2.objs.size ≠ H2.objs.size + 1 := Nat.ne_of_lt (Nat.lt_succ_self _)
  have below : ∀ b, b < s₂.heap.objs.size → b ≠ H2.objs.size ∧ b ≠ H2.objs.size + 1 ∧ b ≠ s₂.heap.objs.size := fun b hb =>
    ⟨by rw [hC]; exact Nat.ne_of_lt (Nat.lt_succ_of_lt hb), by rw [hC]; exact Nat.ne_of_lt (Nat.lt_succ_of_lt (Nat.lt_succ_of_lt hb)), Nat.ne_of_lt hb⟩
  have old : ∀ b o, s₂.heap.get? b = some o → h₁.get? b = some o := fun b o e => by
    rw [← hH4]; refine Heap.get?_push_of_some _ ?_
    rw [← hH3]; refine Heap.get?_push_of_some _ ?_
    rw [← hH2]; exact Heap.get?_push_of_some _ e
  have hacc : h₁.get? s₂.heap.objs.size = some (lst []) := by
    rw [← hH4]; refine Heap.get?_push_of_some _ ?_
    rw [← hH3]; refine Heap.get?_push_of_some _ ?_
    rw [← hH2]; exact Heap.get?_push_size _ rfl
  have hns₁ : h₁.Ns H2.objs.size (fun _ => none) := (Heap.Ns.new H2 (.type "dict")).keeps fun b o e => by
    rw [← hH4]; refine Heap.get?_push_of_some _ ?_
    rw [← hH3]; exact e
  have hcell₁ : ∃ oK xo, h₁.get? (H2.objs.size + 1) = some oK ∧ oK.data = .cell xo := ⟨_, none, by rw [← hH4, ← hK]; exact Heap.get?_push_size _ rfl, rfl⟩
  have hst₁ : St 0 h₁ := W.frame _ _ _ hst fun b _ o e => old b o e
  have fresh : ∀ a, s₂.heap.objs.size ≤ a → s₂.heap.get? a = none := fun a ha => by
    cases e : s₂.heap.get? a with
    | none => rfl
    | some o' => exact absurd (Heap.lt_size e) (Nat.not_lt.mpr ha)
  have fresh₀ : ∀ a, s₂.heap.objs.size ≤ a → h₀.get? a = none := fun a ha => by
    cases e : h₀.get? a with
    | none => rfl
    | some o' => have := F.keep a o' e; rw [fresh a ha] at this; cases this
  have hD₀ : h₀.get? s₂.heap.objs.size = none := fresh₀ _ (Nat.le_refl _)
  have hC₀ : h₀.get? H2.objs.size = none := fresh₀ _ (by rw [hC]; exact Nat.le_succ _)
  have hK₀ : h₀.get? (H2.objs.size + 1) = none := fresh₀ _ (by rw [hC]; exact Nat.le_succ_of_le (Nat.le_succ _))
  have hLlt : L < s₂.heap.objs.size := F.ns.lt
  have hDL : s₂.heap.objs.size ≠ L := Ne.symm (below L hLlt).2.2
  have hCL : H2.objs.size ≠ L := Ne.symm (below L hLlt).1
  have hKL : H2.objs.size + 1 ≠ L := Ne.symm (below L hLlt).2.1
  have hCI : I ≠ H2.objs.size := (below I hIlt).1
  have hKI : I ≠ H2.objs.size + 1 := (below I hIlt).2.1
  have hDI : I ≠ s₂.heap.objs.size := (below I hIlt).2.2
  have off₀ : Off4 I H2.objs.size (H2.objs.size + 1) s₂.heap.objs.size news := fun p hp => ⟨off p hp, (below _ (Heap.lt_size (N p hp).1)).1, (below _ (Heap.lt_size (N p hp).1)).2.1, (below _ (Heap.lt_size (N p hp).1)).2.2⟩
  have loop : ∀ s₃ : Shared, s₃ = { s₂ with heap := h₁ } →
      codeAny (model prog w) A (.compLoop (.ListComp elt [⟨.Name x px, iter, [ct], 0⟩] scope pos) 0 (.ref I) (.ref s₂.heap.objs.size) (compEnvC scope ((x, H2.objs.size + 1) :: cl) H2.objs.size env))
        (RR (.ref s₂.heap.objs.size) H2.objs.size) s₃ := by
    rintro s₃ rfl
    refine codeAny_compLoop_tests
      (fun k s' => ∃ h' tk i ys m' nw, s' = { s₂ with heap := h', toks := tk } ∧ i ≤ n ∧ k = n + 1 - i ∧ ys.length ≤ i ∧ St i h' ∧ Fr h₀ L h' m ∧ h'.Ns H2.objs.size m' ∧ (∃ oK xo, h'.get? (H2.objs.size + 1) = some oK ∧ oK.data = .cell xo) ∧ News h₀ L h' ((s₂.heap.objs.size, lst ys) :: nw) ∧
        Off4 I H2.objs.size (H2.objs.size + 1) s₂.heap.objs.size nw ∧ Inv i ys nw) ?_ (n + 1)
      ⟨h₁, _, 0, [], _, news, rfl, Nat.zero_le _, rfl, Nat.le_refl _, hst₁, F.keeps old, hns₁, hcell₁, fun p hp => ?_, off₀, h0⟩
    · rintro k s' ⟨h', tk, i, ys, m', nw, rfl, hi, rfl, hyl, hst', F', hn', ⟨oK', xo, hK', hKd⟩, N', off', R'⟩
      by_cases hlt : i < n
      · refine W.item i _ _ _ hlt hst' fun v h₂ tk₂ hPv hst₂ hk₂ => ?_
        have hK2 : h₂.IsCell (H2.objs.size + 1) xo := ⟨oK', hk₂ _ _ (by simpa using Ne.symm hKI) hK', hKd⟩
        refine wpAny_assign_Name (wpAny_storeName_cell (by simp [compEnvC, relabel, hkind]) hx (c := H2.objs.size + 1) (by simp [compEnvC, List.lookup_cons]) hK2 (fun h₃ hc₃ hs₃ => ?_))
        refine wpAny_tests_one ?_
        have hn₂ : h₂.Ns H2.objs.size m' := hn'.at' fun o e => hk₂ _ o (by simpa using Ne.symm hCI) e
        have hn₃ : h₃.Ns H2.objs.size m' := hn₂.sameBut hs₃ hCK
        have hst₃ : St (i + 1) h₃ := W.frame _ _ _ hst₂ fun b hb o e => (hs₃.2 b (by rw [List.mem_singleton.mp hb]; exact hKI)).trans e
        obtain ⟨oI, heI⟩ := hIo _ _ hst₃
        obtain ⟨oC, heC, hoC⟩ := ns_obj hn₃
        obtain ⟨oK, heK, hoK⟩ := hc₃
        have F₃ : Fr h₀ L h₃ m := (fr_but F' hk₂ hIL hI₀).change hs₃ hKL hK₀
        have N₂ : News h₀ L h₂ ((s₂.heap.objs.size, lst ys) :: nw) := news_but N' hk₂ fun p hp => by
          rcases List.mem_cons.mp hp with rfl | hp
          · exact Ne.symm hDI
          · exact (off' p hp).1
        have N₃ : News h₀ L h₃ ((I, oI) :: (H2.objs.size, oC) :: (H2.objs.size + 1, oK) :: (s₂.heap.objs.size, lst ys) :: nw) := fun p hp => by
          rcases List.mem_cons.mp hp with rfl | hp
          · exact ⟨heI, Ne.symm hIL, hI₀⟩
          · rcases List.mem_cons.mp hp with rfl | hp
            · exact ⟨heC, hCL, hC₀⟩
            · rcases List.mem_cons.mp hp with rfl | hp
              · exact ⟨heK, hKL, hK₀⟩
              · have z := N₂ p hp
                refine ⟨(hs₃.2 p.1 ?_).trans z.1, z.2⟩
                rcases List.mem_cons.mp hp with rfl | hp
                · exact hDK
                · exact (off' p hp).2.2.1
        refine wpAny_mono (step i v I oI H2.objs.size oC (H2.objs.size + 1) oK s₂.heap.objs.size _ h₃ _ _ ys nw hlt hPv R' hoC hoK F₃ N₃ off' ⟨hCI, hKI, hDI, hCK, Ne.symm hDC, Ne.symm hDK⟩) (fun ok s₄ h₄ => ?_) fun _ _ e => e
        cases ok with
        | true =>
          simp only [if_true] at h₄ ⊢
          refine wpAny_mono h₄ (fun y s₅ h₅ => ?_) fun _ _ e => e
          obtain ⟨h₄, tk₄, nw₄, rfl, F₄, N₄, off₄, R₄⟩ := h₅
          have zI := (N₄ (I, oI) List.mem_cons_self).1
          have zC := (N₄ (H2.objs.size, oC) (.tail _ (.head _))).1
          have zK := (N₄ (H2.objs.size + 1, oK) (.tail _ (.tail _ (.head _)))).1
          have zD := (N₄ (s₂.heap.objs.size, lst ys) (.tail _ (.tail _ (.tail _ (.head _))))).1
          have N₄' : News h₀ L h₄ nw₄ := fun p hp => N₄ p (.tail _ (.tail _ (.tail _ (.tail _ hp))))
          have hst₄ : St (i + 1) h₄ := hSt _ _ _ _ hst₃ heI zI
          refine append_at (hsz := by show ys.toArray.size ≤ sizeLine; rw [List.size_toArray]; exact Nat.le_trans (Nat.le_trans hyl hi) hsz) zD fun h₅ hs₅ hD₅ => ?_
          refine ⟨n + 1 - (i + 1), by omega, h₅, tk₄, i + 1, ys ++ [y], _, nw₄, rfl, hlt, rfl, by rw [List.length_append, List.length_singleton]; exact Nat.succ_le_succ hyl, W.frame _ _ _ hst₄ fun b hb o e => hs₅.extBut b o (by rw [List.mem_singleton.mp hb]; exact hDI) e, F₄.change hs₅ hDL hD₀,
            (hoC.ns zC).sameBut hs₅ (Ne.symm hDC), ⟨oK, _, hs₅.extBut _ _ (Ne.symm hDK) zK, hoK⟩, fun p hp => ?_, off₄, R₄⟩
          rcases List.mem_cons.mp hp with rfl | hp
          · exact ⟨hD₅.trans (congrArg some (lst_snoc ys y)), hDL, hD₀⟩
          · exact ⟨hs₅.extBut _ _ (off₄ p hp).2.2.2 (N₄' p hp).1, (N₄' p hp).2⟩
        | false =>
          simp only [Bool.false_eq_true, if_false] at h₄ ⊢
          obtain ⟨h₅, tk₄, nw₄, rfl, F₄, N₄, off₄, R₄⟩ := h₄
          have zI := (N₄ (I, oI) List.mem_cons_self).1
          have zC := (N₄ (H2.objs.size, oC) (.tail _ (.head _))).1
          have zK := (N₄ (H2.objs.size + 1, oK) (.tail _ (.tail _ (.head _)))).1
          have N₄' : News h₀ L h₅ nw₄ := fun p hp => N₄ p (.tail _ (.tail _ (.tail _ (.tail _ hp))))
          have hst₄ : St (i + 1) h₅ := hSt _ _ _ _ hst₃ heI zI
          refine ⟨n + 1 - (i + 1), by omega, h₅, tk₄, i + 1, ys, _, nw₄, rfl, hlt, rfl, Nat.le_succ_of_le hyl, hst₄, F₄, hoC.ns zC, ⟨oK, _, zK, hoK⟩, fun p hp => ?_, off₄, R₄⟩
          rcases List.mem_cons.mp hp with rfl | hp
          · exact N₄ _ (.tail _ (.tail _ (.tail _ (.head _))))
          · exact N₄' p hp
      · obtain rfl : i = n := Nat.le_antisymm hi (Nat.not_lt.mp hlt)
        refine W.done _ _ _ hst' fun h₂ tk₂ hk₂ => ?_
        exact hRR _ _ h₂ tk₂ _ ys nw (fr_but F' hk₂ hIL hI₀) (news_but N' hk₂ fun p hp => by
          rcases List.mem_cons.mp hp with rfl | hp
          · exact Ne.symm hDI
          · exact (off' p hp).1) (Off3.one (I := I) (C := H2.objs.size) (Off3.of fun p hp => ⟨(off' p hp).1, (off' p hp).2.1, (off' p hp).2.2.2⟩)) (hn'.at' fun o e => hk₂ _ o (by simpa using Ne.symm hCI) e) hC₀ hD₀ hCL hDL (Ne.symm hDC) (fun p hp => (off' p hp).2.1) R'
    · rcases List.mem_cons.mp hp with rfl | hp
      · exact ⟨hacc, hDL, hD₀⟩
      · exact ⟨old _ _ (N p hp).1, (N p hp).2⟩
  exact codeAny_compStart_list (loop _ rfl) (W.self 0 _ _ _ hst₁ (loop _ rfl))
end
end Mine
end
section
open PySem PySem.W PyProof.Rows PySem.Calls PyProof.Rows.LCg PySem.SeqAt
set_option maxRecDepth 100000
namespace Mine
section
variable {prog : Program} {w : World} {A : Around} {E : Value → Shared → Prop} {s : Shared} {Q : Value → Shared → Prop} {h₀ : Heap} {L : Addr} {tl : List (Addr × Obj)} {l b : Addr} {vs : List Value} {n k : Nat}
theorem eq_nil (N : News h₀ L s.heap tl) (hl : (l, lstO vs n) ∈ tl) (hb : (b, lstO [] k) ∈ tl) (hu : A.units < cLine) (h : Q (.bool vs.isEmpty) s) : wpAny (model prog w) A (compareOp .Eq (.ref l) (.ref b)) Q E s := by
  have h1 : s.heap.IsList l vs.toArray := ⟨_, (N _ hl).1, rfl, n, rfl⟩
  have h2 : s.heap.IsList b ([] : List Value).toArray := ⟨_, (N _ hb).1, rfl, k, rfl⟩
  cases vs with
  | nil => exact eq_listAt (e := fun _ => true) h1 h2 rfl hu (fun j h1 _ => absurd h1 (Nat.not_lt_zero _)) h
  | cons v vs => exact eq_list_lengthsAt h1 h2 (by simp) hu h
theorem ne_nil (N : News h₀ L s.heap tl) (hl : (l, lstO vs n) ∈ tl) (hb : (b, lstO [] k) ∈ tl) (hu : A.units < cLine) (h : Q (.bool (!vs.isEmpty)) s) : wpAny (model prog w) A (compareOp .NotEq (.ref l) (.ref b)) Q E s := by
  have h1 : s.heap.IsList l vs.toArray := ⟨_, (N _ hl).1, rfl, n, rfl⟩
  have h2 : s.heap.IsList b ([] : List Value).toArray := ⟨_, (N _ hb).1, rfl, k, rfl⟩
  refine cmp_ofNotEq ?_
  cases vs with
  | nil => exact RcNeAt.lists (e := fun _ => true) h1 h2 rfl hu (fun j h1 _ => absurd h1 (Nat.not_lt_zero _)) prog w E Q h
  | cons v vs => exact RcNeAt.lists_lengths h1 h2 (by simp) hu prog w E Q h
/-- two tuples of two that are equal -/
theorem ne_t2 {x y x' y' : Value} (N : News h₀ L s.heap tl) (hl : (l, tup2 x y) ∈ tl) (hb : (b, tup2 x' y') ∈ tl) (hu : A.units < cLine) (e1 : EqAt A.in1 s x x' true) (e2 : EqAt A.in1 s y y' true) (h : Q (.bool false) s) :
    wpAny (model prog w) A (compareOp .NotEq (.ref l) (.ref b)) Q E s := by
  refine cmp_ofNotEq ?_
  refine RcNeAt.tuples (A := A) (s := s) (items := #[x, y]) (items2 := #[x', y']) (e := fun _ => true) ⟨_, (N _ hl).1, rfl, 0, rfl⟩ ⟨_, (N _ hb).1, rfl, 0, rfl⟩ hu (fun j h1 h2 => by
      match j, h1 with
      | 0, _ => exact e1
      | 1, _ => exact e2) prog w E Q h
end
section
variable {prog : Program} {w : World} {A : Around} {E : Value → Shared → Prop} {s : Shared} {h₀ : Heap} {L : Addr} {m : Str → Option Value} {env : Env}
/-- a comprehension with one test, by what holds of what is built; names that no line of the walk knows -/
def CompSrcTW (prog : Program) (w : World) (A : Around) (h₀ : Heap) (L : Addr) (m : Str → Option Value) (env : Env) (ct elt : Expr) (x : Str) (scope : Scope) (cl : List (Str × Addr)) (Fin : Shared → List Value → List (Addr × Obj) → Prop) (xv : Value) (s₁ : Shared) : Prop := LCt.CompSrcT prog w A h₀ L m env ct elt x scope cl Fin xv s₁
theorem ListComp_TW {ct elt iter : Expr} {x : Str} {px : Pos} {scope : Scope} {cl : List (Str × Addr)} {pos : Pos} {Q : Value → Shared → Prop} (F₀ : Fr h₀ L s.heap m)
    (hclos : closureFor scope env = pure cl) (hcell : ∀ y ∈ scope.names, y.2 ≠ .cell) (hkind : scope.kind = .function)
    (hnames : ∀ y ∈ scope.names, y.2 = .local → scope.names.lookup y.1 = some .local) (hx : scope.names.lookup x = some .local)
    (h : wpAny (model prog w) A (eval iter env) (CompSrcTW prog w A h₀ L m env ct elt x scope cl (fun s₂ => FinE h₀ L m s₂ Q)) E s)
    (hs : ∀ x, foldedSetIterable iter env x = pure x := by intro _; rfl) :
    wpAny (model prog w) A (eval (.ListComp elt [⟨.Name x px, iter, [ct], 0⟩] scope pos) env) Q E s := LCt.ListComp_T F₀ hclos hcell hkind hnames hx h hs
theorem rest_invTW {ct elt : Expr} {x : Str} {scope : Scope} {cl : List (Str × Addr)} {S : List (Addr × Obj) → Prop} {P : Nat → Value → Prop} {Fin : List Value → List (Addr × Obj) → Prop} {n : Nat} (Inv : Nat → List Value → List (Addr × Obj) → Prop)
    (step : ∀ i v I oI C oC D m₂ h tk (E' : Value → Shared → Prop) ys nw, i < n → P i v → Inv i ys nw → NsObj oC m₂ → m₂ x = some v → Fr h₀ L h m → News h₀ L h ((I, oI) :: (C, oC) :: (D, lst ys) :: nw) → Off3 I C D nw → ((@Ne Nat I C) ∧ (@Ne Nat I D) ∧ (@Ne Nat C D)) →
      wpAny (model prog w) A (isTrue ct (compEnvC scope cl C env) (eval ct (compEnvC scope cl C env))) (fun ok s' => if ok = true then
        wpAny (model prog w) A (eval elt (compEnvC scope cl C env)) (CompEndW h₀ L m { s with heap := h, toks := tk } I oI C oC D (lst ys) S (fun y nw' => Inv (i + 1) (ys ++ [y]) nw')) E' s'
        else CompEndW h₀ L m { s with heap := h, toks := tk } I oI C oC D (lst ys) S (fun _ nw' => Inv (i + 1) ys nw') Value.none s') E' { s with heap := h, toks := tk })
    (fin : ∀ ys nw, Inv n ys nw → Fin ys nw) : ∀ k i ys nw, i + k = n → Inv i ys nw → LCt.CompRestT prog w A h₀ L m env ct elt x scope cl s S P Fin k i ys nw := by
  intro k
  induction k with
  | zero => intro i ys nw e h; rw [Nat.add_zero] at e; subst e; exact LCt.CompRestT.zero (fin ys nw h)
  | succ k ih =>
    intro i ys nw e hI
    refine LCt.CompRestT.succ fun v I oI C oC D m₂ h tk E' hP hC hx F N off ne => ?_
    refine wpAny_mono (step i v I oI C oC D m₂ h tk E' ys nw (by omega) hP hI hC hx F N off ne) (fun ok s₂ hq => ?_) fun _ _ e => e
    cases ok with
    | true =>
      simp only [if_true] at hq ⊢
      refine wpAny_mono hq (fun y s₃ hr => ?_) fun _ _ e => e
      obtain ⟨h', tk', nw', e1, F', N', off', hS, hI'⟩ := hr
      exact ⟨h', tk', nw', e1, F', N', off', hS, ih (i + 1) _ nw' (by omega) hI'⟩
    | false =>
      simp only [Bool.false_eq_true, if_false] at hq ⊢
      obtain ⟨h', tk', nw', e1, F', N', off', hS, hI'⟩ := hq
      exact ⟨h', tk', nw', e1, F', N', off', hS, ih (i + 1) _ nw' (by omega) hI'⟩
/-- a written range of n as the source of a block whose variable lies in a cell -/
def SrcTC (prog : Program) (w : World) (A : Around) (h₀ : Heap) (L : Addr) (m : Str → Option Value) (env : Env) (ct elt : Expr) (x : Str) (scope : Scope) (cl : List (Str × Addr)) (n : Nat) (Fin : Shared → List Value → List (Addr × Obj) → Prop) (xv : Value) (s₁ : Shared) : Prop :=
  ∃ r t u v news, xv = .ref r ∧ A.handled = none ∧ Fr h₀ L s₁.heap m ∧ News h₀ L s₁.heap news ∧ IsRange s₁.heap r 0 n 1 t u v ∧
    ∀ g : Heap, ∃ Inv : Nat → List Value → List (Addr × Obj) → Prop, Inv 0 [] news ∧
    (∀ i v I oI C oC K oK D m₂ h tk (E' : Value → Shared → Prop) ys nw, i < n → (∃ t, v = Value.int (i : Int) t) → Inv i ys nw → NsObj oC m₂ → oK.data = .cell (some v) → Fr h₀ L h m → News h₀ L h ((I, oI) :: (C, oC) :: (K, oK) :: (D, lst ys) :: nw) → Off4 I C K D nw →
      ((@Ne Nat I C) ∧ (@Ne Nat I K) ∧ (@Ne Nat I D) ∧ (@Ne Nat C K) ∧ (@Ne Nat C D) ∧ (@Ne Nat K D)) →
      wpAny (model prog w) A (isTrue ct (compEnvC scope ((x, K) :: cl) C env) (eval ct (compEnvC scope ((x, K) :: cl) C env))) (fun ok s' => if ok = true then
        wpAny (model prog w) A (eval elt (compEnvC scope ((x, K) :: cl) C env)) (fun y s₃ => TEnd h₀ L m { s₁ with heap := h, toks := tk } I oI C oC K oK D (lst ys) (Inv (i + 1) (ys ++ [y])) s₃) E' s'
        else TEnd h₀ L m { s₁ with heap := h, toks := tk } I oI C oC K oK D (lst ys) (Inv (i + 1) ys) s') E' { s₁ with heap := h, toks := tk }) ∧
    (∀ ys nw, Inv n ys nw → Fin { s₁ with heap := g } ys nw)
theorem Assign_ListComp_TC {ct elt iter : Expr} {x y : Str} {px py : Pos} {scope : Scope} {cl : List (Str × Addr)} {pos spos : Pos} {Q : Flow → Shared → Prop} (n : Nat) (F₀ : Fr h₀ L s.heap m) (hLe : env.locals = L)
    (hsw : swapsWith (.ListComp elt [⟨.Name x px, iter, [ct], 0⟩] scope pos) (some (.Name y py)) spos.line env = pure true)
    (hclos : closureFor scope env = pure cl) (hcf : ∀ k, cellsFrom k scope.names cl = (x, k) :: cl) (hpc : ∀ h, pushCells h scope.names = h.push { cls := .type "cell", data := .cell none })
    (hkind : scope.kind = .function) (hnames : ∀ z ∈ scope.names, z.2 = .local → scope.names.lookup z.1 = some .local) (hx : (relabel scope env).names.lookup x = some .cell)
    (hy : env.kindOf y = some .local) (hp : (env.scope.kind == .class || (env.scope.kind == .module && env.locals != env.globals)) = false)
    (hsm : Builtin.Range.small 0 n 1 = true) (hn : Builtin.Range.rangeSize 0 n 1 = ((n : Nat) : Int)) (hsz : n ≤ sizeLine)
    (h : wpAny (model prog w) A (eval iter env) (SrcTC prog w A h₀ L m env ct elt x scope cl n (fun s₂ => FinA h₀ L m s₂ y Q)) E s)
    (hs : ∀ x, foldedSetIterable iter env x = pure x := by intro _; rfl) :
    wpAny (model prog w) A (exec (.Assign [.Name y py] (.ListComp elt [⟨.Name x px, iter, [ct], 0⟩] scope pos) spos) env) Q E s := by
  subst hLe
  rw [exec_Assign_Name_used _ _ _ _ hsw]
  refine wpAny_bind (wpAny_standAt (wpAny_bind ?_))
  show wpAny _ A (do let _ ← comprehension (.ListComp elt [⟨.Name x px, iter, [ct], 0⟩] scope pos) scope env _ (newList []) false (eval iter env) (some (assign (.Name y py) env))) _ _ s
  refine wpAny_bind (wpAny_mono (wpAny_comprehension_free (use := some (assign (.Name y py) env)) (Q := fun _ s' => Q .next s') rfl hs hclos hkind hnames
    (wpAny_mono h (fun xv s₁ h₁ => ?_) fun _ _ e => e)) (fun _ s' hq => wpAny_pure (wpAny_pure hq)) fun _ _ e => e)
  obtain ⟨r, t, u, v, news, rfl, hh, F, N, hr, R⟩ := h₁
  refine wpAny_pyIter_range hr hsm ?_
  obtain ⟨Inv, i0, step, fin⟩ := R (s₁.heap.push { cls := .type "range_iterator", data := .fields #[.int 0 0, .int (Builtin.Range.rangeSize 0 n 1) 0, .int 1 0] })
  refine block_TC (P := fun i v => ∃ t, v = .int ((0 : Int) + (i : Int)) t) Inv (range_walks hh 0 n) hsz (fun i h st => ⟨_, st⟩) (fun i h h' o st e e' => by have st' : h.get? _ = some _ := st; show h'.get? _ = some _; rw [e', ← e]; exact st') hcf hpc hkind hx (by show IsRangeIter _ _ _ _ _; rw [hn]; simpa using Heap.get?_push_size _ rfl) ?_
      (F.keeps fun _ _ e => Heap.get?_push_of_some _ e) (N.grown fun _ _ e => Heap.get?_push_of_some _ e) (Nat.ne_of_lt F.ns.lt) (next_is_new F) (fun p hp => Nat.ne_of_lt (Heap.lt_size (N p hp).1)) i0 (fun i v I oI C oC K oK D m₂ h tk E' ys nw hi hP => step i v I oI C oC K oK D m₂ h tk E' ys nw hi (by obtain ⟨t, rfl⟩ := hP; exact ⟨t, by rw [Int.zero_add]⟩)) ?_
  · show s₁.heap.objs.size < (s₁.heap.push _).objs.size
    rw [Heap.size_push]; exact Nat.lt_succ_self _
  · intro D C h' tk m' ys nw F' N' o1 hn hC₀ hD₀ hCL hDL hCD offC hI
    show wpAny _ A (assign (.Name y py) env (.ref D)) _ _ _
    refine wpAny_assign_Name (wpAny_storeName_local hy F'.ns (fun h₂ hn₂ hs₂ => ?_) hp)
    have hL₀ : h₀.get? env.locals = none := Heap.get?_none_of_le F'.above
    have F₂ : Fr h₀ env.locals h₂ (fun z => if z = y then some (.ref D) else m z) := ⟨hn₂, fun b o e => hs₂.extBut b o (fun q => by rw [q, hL₀] at e; cases e) (F'.keep b o e), F'.above⟩
    refine ⟨m', hn.sameBut hs₂ hCL, fun h'' hs'' => fin ys nw hI D h'' _ (F₂.change hs'' hCL hC₀) (fun p hp => ?_) o1⟩
    have z : h₂.get? p.1 = some p.2 := hs₂.extBut _ _ (N' p hp).2.1 (N' p hp).1
    refine ⟨hs''.extBut _ _ ?_ z, (N' p hp).2⟩
    rcases List.mem_cons.mp hp with rfl | hp
    · exact Ne.symm hCD
    · exact offC p hp
end
end Mine
end
section
open PySem PySem.W PyProof.Rows PySem.Calls PyProof.Rows.LCg
set_option maxRecDepth 100000
namespace Mine
theorem Pure.weak {prog : Program} {w : World} {K : Frag} {loose : List Str} {mean : ExcName → Option Value} {mg mb : Str → Option Value} {dn un dn' un' : Nat} {f : Value} {vs : List Value} {objs objs' : List (Addr × Obj)} {P P' : Value → List (Addr × Obj) → Prop}
    (C : Pure prog w K loose mean mg mb dn un f vs objs P) (hd : dn ≤ dn') (hu : un ≤ un') (ho : ∀ p ∈ objs, p ∈ objs') (hP : ∀ v made, P v made → P' v made) : Pure prog w K loose mean mg mb dn' un' f vs objs' P' :=
  fun dp u gd env outer A₀ base h₀ L m news s Q E B F N X T hf hk ho' h1 h2 ret => C dp u gd env outer A₀ base h₀ L m news s Q E B F N X T hf hk (fun p hp => ho' p (ho p hp)) (by omega) (by omega) fun v made h' tk hp => ret v made h' tk (hP v made hp)
def overC (c d : C3) : C3 := (halfF c.1 d.1, halfF c.2.1 d.2.1, halfF c.2.2 d.2.2)
abbrev E2 := UInt64 × UInt64
def IsEnd (tl : List (Addr × Obj)) (v : Value) (d : E2) : Prop := ∃ a t1 t2, v = .ref a ∧ (a, tup2 (.float d.1 t1) (.float d.2 t2)) ∈ tl ∧ @Ne Nat t1 0 ∧ @Ne Nat t2 0
def IsFl (_ : List (Addr × Obj)) (v : Value) (x : UInt64) : Prop := ∃ t, v = .float x t ∧ @Ne Nat t 0
theorem IsEnd.mono {tl tl' : List (Addr × Obj)} {v : Value} {d : E2} (h : ∀ q ∈ tl, q ∈ tl') : IsEnd tl v d → IsEnd tl' v d := fun ⟨a, t1, t2, e, hm, k⟩ => ⟨a, t1, t2, e, h _ hm, k⟩
theorem IsFl.mono {tl tl' : List (Addr × Obj)} {v : Value} {x : UInt64} (_ : ∀ q ∈ tl, q ∈ tl') : IsFl tl v x → IsFl tl' v x := id
theorem ends_mono {l l' : List (Addr × Obj)} {vs : List Value} {cs : List E2} (h : All2 (IsEnd l) vs cs) (hl : ∀ p ∈ l, p ∈ l') : All2 (IsEnd l') vs cs := h.imp fun _ _ => IsEnd.mono hl
theorem cols_mono' {l l' : List (Addr × Obj)} {vs : List Value} {cs : List C3} (h : All2 (IsCol l) vs cs) (hl : ∀ p ∈ l, p ∈ l') : All2 (IsCol l') vs cs := h.imp fun _ _ => IsCol.mono hl
section
variable {prog : Program} {w : World} {A : Around} {E : Value → Shared → Prop} {h₀ : Heap} {L : Addr} {m : Str → Option Value} {env : Env}
/-- one turn of a comprehension that makes nothing -/
def PickEnd (h₀ : Heap) (L : Addr) (m : Str → Option Value) (s₁ : Shared) (led : List (Addr × Obj)) (R : Value → Prop) (y : Value) (s₂ : Shared) : Prop :=
  ∃ h' tk, s₂ = { s₁ with heap := h', toks := tk } ∧ Fr h₀ L h' m ∧ News h₀ L h' led ∧ R y
theorem PickEnd.of {s₁ : Shared} {led : List (Addr × Obj)} {R : Value → Prop} {y : Value} {h' : Heap} {tk : Nat} (F : Fr h₀ L h' m) (N : News h₀ L h' led) (r : R y) : PickEnd h₀ L m s₁ led R y { s₁ with heap := h', toks := tk } := ⟨h', tk, rfl, F, N, r⟩
theorem comp_pick {β : Type} {elt : Expr} {x : Str} {scope : Scope} {cl : List (Str × Addr)} {Fin : Shared → List Value → List (Addr × Obj) → Prop} {ax : Addr} {vs : List Value} {k : Nat} {base : List (Addr × Obj)} {s₁ : Shared}
    (R : List (Addr × Obj) → Value → β → Prop) (bs : List β) (hlen : vs.length = bs.length) (hsz : vs.length ≤ 1000)
    (hh : A.handled = none) (F : Fr h₀ L s₁.heap m) (N : News h₀ L s₁.heap base) (hm : (ax, lstO vs k) ∈ base)
    (step : ∀ (i : Nat) (v : Value) (b : β) I oI C oC D m₂ h tk (E' : Value → Shared → Prop) ys, vs[i]? = some v → bs[i]? = some b → NsObj oC m₂ → m₂ x = some v → Fr h₀ L h m → News h₀ L h ((I, oI) :: (C, oC) :: (D, lst ys) :: base) → Off3 I C D base → ((@Ne Nat I C) ∧ (@Ne Nat I D) ∧ (@Ne Nat C D)) →
      wpAny (model prog w) A (eval elt (compEnvC scope cl C env)) (PickEnd h₀ L m { s₁ with heap := h, toks := tk } ((I, oI) :: (C, oC) :: (D, lst ys) :: base) (fun y => R base y b)) E' { s₁ with heap := h, toks := tk })
    (fin : ∀ ys g, All2 (R base) ys bs → Fin { s₁ with heap := g } ys base) :
    CompSrcW prog w A h₀ L m env elt x scope cl Fin (.ref ax) s₁ := by
  refine CompSrc.ledger (its := vs.toArray) (k := k) hh F N hm (by rw [sizeLine_eq]; exact Nat.le_trans (by simpa using hsz) (Nat.le_of_ble_eq_true rfl)) ?_
  intro g
  refine rest_invW (n := vs.toArray.size) (fun i ys nw => nw = base ∧ All2 (R base) ys (bs.take i)) ⟨rfl, .nil⟩ ?_ ?_
  · rintro i v I oI C oC D m₂ h tk E' ys nw hi hP ⟨rfl, hall⟩ hC hx F' N' off ne
    have hv : vs[i]? = some v := by simpa using hP
    have hil : i < bs.length := by rw [← hlen]; simpa using hi
    have hbi : bs[i]? = some bs[i] := List.getElem?_eq_getElem hil
    refine wpAny_mono (step i v bs[i] I oI C oC D m₂ h tk E' ys hv hbi hC hx F' N' off ne) (fun y s₂ q => ?_) fun _ _ e => e
    obtain ⟨h', tk', rfl, F'', N'', r⟩ := q
    exact CompEndW.of F'' N'' nw (fun p hp => hp) off (Or.inr ⟨_, hm, rfl, _, rfl⟩) ⟨rfl, by rw [take_get hbi]; exact hall.append (.cons r .nil)⟩
  · rintro ys nw ⟨rfl, hall⟩
    refine fin ys g ?_
    rwa [List.take_of_length_le (by simp [hlen])] at hall
end
/-- what the law needs of a run's floats -/
def nearB (zs : List Int) : Bool := (List.range 3).any fun c => (waysZ zs).all fun z => decide (wayI z (16 * (c : Int)) ≤ 8)
def farB (zs : List Int) : Bool := (List.range 3).any fun c => (waysZ zs).all fun z => decide (16 ≤ wayI z (16 * (c : Int)))
structure RightOk (zs : List Int) (P : C3) (V W : UInt64) : Prop where
  hsv : hsvOk P.1 P.2.1 P.2.2 = true
  hls : hlsOk P.1 P.2.1 P.2.2 = true
  weigh : (Float64.cmp V (fr (weighI zs) (unitI zs)) == some .eq) = true
  gt : (Float64.cmp (endsF P).1 V == some .gt) = false
  lt : (Float64.cmp (endsF P).2 W == some .lt) = false
  near : (Float64.cmp (endsF P).1 V == some .eq) = nearB zs
  far : (Float64.cmp (endsF P).2 W == some .eq) = farB zs
end Mine
namespace Mine
theorem News_mid {h₀ h : Heap} {L : Addr} {a : Addr × Obj} {made l : List (Addr × Obj)} (N : News h₀ L h (made ++ a :: l)) : ∃ base, base = made ++ l ∧ News h₀ L h (a :: base) := ⟨_, rfl, fun p hp => N p (by
  simp only [List.mem_cons, List.mem_append] at hp ⊢
  rcases hp with h | h | h
  · exact .inr (.inl h)
  · exact .inl h
  · exact .inr (.inr h))⟩
theorem News_mid2 {h₀ h : Heap} {L : Addr} {a d : Addr × Obj} {made l : List (Addr × Obj)} (N : News h₀ L h (made ++ d :: a :: l)) : ∃ base, base = made ++ d :: l ∧ News h₀ L h (a :: base) := ⟨_, rfl, fun p hp => N p (by
  simp only [List.mem_cons, List.mem_append] at hp ⊢
  rcases hp with h | h | h | h
  · exact .inr (.inr (.inl h))
  · exact .inl h
  · exact .inr (.inl h)
  · exact .inr (.inr (.inr h)))⟩
end Mine
namespace Mine
theorem News_mid3 {h₀ h : Heap} {L : Addr} {a d e : Addr × Obj} {made l : List (Addr × Obj)} (N : News h₀ L h (made ++ d :: e :: a :: l)) : ∃ base, base = made ++ d :: e :: l ∧ News h₀ L h (a :: base) := ⟨_, rfl, fun p hp => N p (by
  simp only [List.mem_cons, List.mem_append] at hp ⊢
  rcases hp with h | h | h | h | h
  · exact .inr (.inr (.inr (.inl h)))
  · exact .inl h
  · exact .inr (.inl h)
  · exact .inr (.inr (.inl h))
  · exact .inr (.inr (.inr (.inr h))))⟩
theorem cons_ne' {a : Addr × Obj} {l : List (Addr × Obj)} {b : Nat} (h : @Ne Nat a.1 b) (hl : ∀ p ∈ l, @Ne Nat p.1 b) : ∀ p ∈ a :: l, @Ne Nat p.1 b := List.forall_mem_cons.mpr ⟨h, hl⟩
theorem ends_fst {tl : List (Addr × Obj)} {vs : List Value} {ds : List E2} {i : Nat} {v : Value} {b : UInt64} (f : E2 → UInt64) (h : All2 (IsEnd tl) vs ds) (hv : vs[i]? = some v) (hb : (ds.map f)[i]? = some b) : ∃ d, b = f d ∧ IsEnd tl v d := by
  obtain ⟨d, hd, he⟩ := h.get hv
  rw [List.getElem?_map, hd] at hb
  cases hb
  exact ⟨d, rfl, he⟩
theorem fl_cons {tl : List (Addr × Obj)} {ys : List Value} {x : UInt64} {xs : List UInt64} (h : All2 (IsFl tl) ys (x :: xs)) : ∃ y yr, ys = y :: yr ∧ (∀ t2, IsFl t2 y x) ∧ (∀ t2, All2 (IsFl t2) yr xs) := by
  cases h with
  | cons p q => exact ⟨_, _, rfl, fun _ => p, fun _ => q⟩
end Mine
namespace Mine
theorem way_at {a0 a1 a2 : Int} {t0 t1 t2 : Tok} {z : Int} {i : Nat} (hi : i < 3) (e0 : a0 = wayI z 0) (e1 : a1 = wayI z 16) (e2 : a2 = wayI z 32) : ∃ t, [Value.int a0 t0, Value.int a1 t1, Value.int a2 t2][((i : Nat) : Int).toNat]? = some (.int (wayI z (16 * (i : Int))) t) := by
  subst e0 e1 e2
  match i, hi with
  | 0, _ => exact ⟨t0, rfl⟩
  | 1, _ => exact ⟨t1, rfl⟩
  | 2, _ => exact ⟨t2, rfl⟩
def InvO (good : Nat → Bool) (base : List (Addr × Obj)) (i : Nat) (ys : List Value) (nw : List (Addr × Obj)) : Prop := nw = base ∧ ys.isEmpty = !((List.range i).any good)
def InvI (tests : List Bool) (led : List (Addr × Obj)) (j : Nat) (ys : List Value) (nw : List (Addr × Obj)) : Prop := nw = led ∧ ys.isEmpty = (tests.take j).all id
theorem InvO.yes {good : Nat → Bool} {base : List (Addr × Obj)} {i : Nat} {ys : List Value} {v : Value} (h : good i = true) : InvO good base (i + 1) (ys ++ [v]) base := ⟨rfl, by
  rw [List.range_succ, List.any_append]
  simp [h]⟩
theorem InvO.no {good : Nat → Bool} {base : List (Addr × Obj)} {i : Nat} {ys : List Value} (h0 : ys.isEmpty = !((List.range i).any good)) (h : good i = false) : InvO good base (i + 1) ys base := ⟨rfl, by
  rw [List.range_succ, List.any_append, h0]
  simp [h]⟩
theorem InvI.yes {tests : List Bool} {led : List (Addr × Obj)} {j : Nat} {ys : List Value} {v : Value} (hj : tests[j]? = some false) : InvI tests led (j + 1) (ys ++ [v]) led := ⟨rfl, by
  rw [take_get hj, List.all_append]
  simp⟩
theorem InvI.no {tests : List Bool} {led : List (Addr × Obj)} {j : Nat} {ys : List Value} (h0 : ys.isEmpty = (tests.take j).all id) (hj : tests[j]? = some true) : InvI tests led (j + 1) ys led := ⟨rfl, by
  rw [take_get hj, List.all_append, h0]
  simp⟩
theorem test_at {f : Int → Bool} {l : List Int} {j : Nat} {z : Int} {b : Bool} (h : l[j]? = some z) (hb : f z = b) : (l.map f)[j]? = some b := by rw [List.getElem?_map, h, ← hb]; rfl
theorem InvI.all {f : Int → Bool} {l : List Int} {led nw : List (Addr × Obj)} {ys : List Value} {n : Nat} (hn : n = l.length) (h : InvI (l.map f) led n ys nw) : ys.isEmpty = l.all f := by
  have e := h.2
  rw [hn, List.take_of_length_le (by simp)] at e
  rw [e, List.all_map]
  rfl
theorem TEnd.of {h₀ h' : Heap} {L I C K D : Addr} {m : Str → Option Value} {s₁ : Shared} {oI oC oK oD : Obj} {R : List (Addr × Obj) → Prop} {nw all : List (Addr × Obj)} {tk : Nat} (F : Fr h₀ L h' m) (N : News h₀ L h' all) (sub : ∀ p ∈ (I, oI) :: (C, oC) :: (K, oK) :: (D, oD) :: nw, p ∈ all) (off : Off4 I C K D nw) (r : R nw) :
    TEnd h₀ L m s₁ I oI C oC K oK D oD R { s₁ with heap := h', toks := tk } := ⟨h', tk, nw, rfl, F, fun p hp => N p (sub p hp), off, r⟩
end Mine
end
section
open PySem PySem.W
set_option maxRecDepth 100000
namespace Mine
open PySem.Float64
theorem gt_ex {x y : UInt64} {a b : Int} {k : Nat} (hx : Ex x a k) (hy : Ex y b k) : (Float64.cmp x y == some .gt) = decide (b < a) := by
  rw [cmp_ex hx hy]
  rcases Int.lt_trichotomy a b with h | h | h
  · rw [Int.compare_eq_lt.mpr h, decide_eq_false (by omega)]; rfl
  · subst h; rw [show compare a a = .eq by simp, decide_eq_false (Int.lt_irrefl _)]; rfl
  · rw [Int.compare_eq_gt.mpr h, decide_eq_true h]; rfl
theorem pow_le40 {K : Nat} (hK : K ≤ 40) : (1 : Int) ≤ 2 ^ K ∧ (2 : Int) ^ K ≤ 2 ^ 40 := by
  have e : ((2 ^ K : Nat) : Int) = (2 : Int) ^ K := by rw [Int.natCast_pow]; rfl
  have h1 : (2 : Nat) ^ K ≤ 2 ^ 40 := Nat.pow_le_pow_right (by decide) hK
  have h2 := Nat.one_le_two_pow (n := K)
  omega
/-- a colour's three parts, exactly -/
def Cx (c : C3) (a b d : Int) (K : Nat) : Prop := Ex c.1 a K ∧ Ex c.2.1 b K ∧ Ex c.2.2 d K
theorem col_ok {c : C3} {a b d : Int} {K : Nat} (h : Cx c a b d K) (hK : K ≤ 40) (a0 : 0 ≤ a) (a1 : a ≤ 2 ^ K) (b0 : 0 ≤ b) (b1 : b ≤ 2 ^ K) (d0 : 0 ≤ d) (d1 : d ≤ 2 ^ K) :
    hsvOk c.1 c.2.1 c.2.2 = true ∧ hlsOk c.1 c.2.1 c.2.2 = true ∧ Ex (endsF c).1 (max (max a b) d) K ∧ Ex (endsF c).2 (min (min a b) d) K := by
  have p2 := (pow_le40 hK).2
  have hM := mx_ex (mx_ex h.1 h.2.1) h.2.2
  have hm := mn_ex (mn_ex h.1 h.2.1) h.2.2
  have hb : 0 ≤ min (min a b) d ∧ min (min a b) d ≤ max (max a b) d ∧ max (max a b) d ≤ 2 ^ K := by omega
  clear a0 a1 b0 b1 d0 d1
  generalize max (max a b) d = M at *
  generalize min (min a b) d = m at *
  obtain ⟨b0, b1, b2⟩ := hb
  have c1 : (M - m).natAbs < 2 ^ 53 := by omega
  have c2 : (M + m).natAbs < 2 ^ 53 := by omega
  have hd := sub_ex hM hm (by omega) c1
  have hs := add_ex hM hm (by omega) c2
  have t1 := sub_ex (ex_2.up (b := 2 * 2 ^ K) (j := K) K rfl (by omega)) hM (by omega) (by omega)
  have t2 := sub_ex t1 hm (by omega) (by omega)
  have he := eq_ex hm hM
  have hl : Ex (hlsF c.1 c.2.1 c.2.2).2.1 (M + m) (K + 1) := by
    have z := div_ex (c := M + m) (j := K + 1) hs ex_2 (by decide) (by omega) c2 (by rw [Nat.zero_add, Int.pow_succ, Int.mul_comm (2 ^ K) 2, ← Int.mul_assoc])
    unfold hlsF
    dsimp only
    split
    · exact z
    · exact z
  have hv : (hsvF c.1 c.2.1 c.2.2).2.2 = mx (mx c.1 c.2.1) c.2.2 := by
    unfold hsvF
    dsimp only
    split <;> rfl
  refine ⟨?_, ?_, ?_, ?_⟩
  · unfold hsvOk
    dsimp only
    rw [he]
    by_cases q : m = M
    · rw [decide_eq_true q]; rfl
    · rw [isZero_ex hM (by omega), isZero_ex hd (by omega), decide_eq_false q]; rfl
  · unfold hlsOk
    dsimp only
    rw [he]
    by_cases q : m = M
    · rw [decide_eq_true q]; rfl
    · rw [isZero_ex hd (by omega), isZero_ex hs (by omega), isZero_ex t2 (by omega), decide_eq_false q]; rfl
  · show Ex (hsvF c.1 c.2.1 c.2.2).2.2 _ _
    rw [hv]; exact hM
  · show Ex (Float64.sub (Float64.mul (Float64.ofInt 2) (hlsF c.1 c.2.1 c.2.2).2.1) (hsvF c.1 c.2.1 c.2.2).2.2) _ _
    rw [hv]
    have m1 := (mul_ex (ofInt_ex (a := 2) (by decide)) hl (by decide) (by omega) (by omega) (by omega)).down (a := M + m) (k := K) 1 (by omega) (by omega)
    have m2 := sub_ex m1 hM (by omega) (by omega)
    rwa [show M + m - M = m by omega] at m2
theorem half_ex {x y : UInt64} {a b : Int} {K : Nat} (hx : Ex x a K) (hy : Ex y b K) (hK : K ≤ 40) (h : (a + b).natAbs < 2 ^ 53) : Ex (halfF x y) (a + b) (K + 1) :=
  div_ex (add_ex hx hy (by omega) h) (ofInt_ex (a := 2) (by decide)) (by decide) (by omega) h (by rw [Nat.zero_add, Int.pow_succ, Int.mul_comm (2 ^ K) 2, ← Int.mul_assoc])
/-- a layer, its parts and its ends over 128 -/
def layC (z : Int) : C3 := rgbF (fr (hue z) 16) (fr (shr z) 4) (fr (lev z) 4)
def endC (z : Int) : E2 := endsF (layC z)
def chan (c z : Int) : Int := lev z * (32 - shr z * fallI (hue z) c)
def valI (z : Int) : Int := lev z * 32
def lstI (z : Int) : Int := lev z * (32 - shr z * 8)
theorem mul_bd {l s e : Int} (l0 : 0 ≤ l) (l1 : l < 5) (s0 : 0 ≤ s) (s1 : s < 5) (e0 : 0 ≤ e) (e1 : e ≤ 8) : 0 ≤ s * e ∧ s * e ≤ 32 ∧ 0 ≤ l * (32 - s * e) ∧ l * (32 - s * e) ≤ l * 32 ∧ l * (32 - s * 8) ≤ l * (32 - s * e) := by
  have h1 : 0 ≤ s * e := Int.mul_nonneg s0 e0
  have h2 : s * e ≤ 4 * 8 := Int.mul_le_mul (by omega) e1 e0 (by decide)
  have h3 : s * e ≤ s * 8 := Int.mul_le_mul_of_nonneg_left e1 s0
  exact ⟨h1, h2, Int.mul_nonneg l0 (by omega), Int.mul_le_mul_of_nonneg_left (by omega) l0, Int.mul_le_mul_of_nonneg_left (by omega) l0⟩
theorem lay_cx (z : Int) : Cx (layC z) (chan 0 z) (chan 16 z) (chan 32 z) 7 := by
  obtain ⟨l0, l1⟩ := lev_bd z
  obtain ⟨s0, s1⟩ := shr_bd z
  obtain ⟨h0, h1⟩ := hue_bd z
  obtain ⟨_, e2, e3⟩ := turn_at h0 (show hue z < 48 by omega)
  have ea := arr_at h0 (show hue z < 48 by omega)
  rw [show Int.fmod (hue z) 16 = hue z from Int.fmod_eq_of_lt h0 h1] at ea
  have he : 0 ≤ Int.fmod (3 * hue z) 8 := Int.fmod_nonneg_of_pos _ (by decide)
  have he' : Int.fmod (3 * hue z) 8 < 8 := Int.fmod_lt_of_pos _ (by decide)
  have hi : 0 ≤ Int.fmod (Int.fdiv (3 * hue z) 8) 6 := Int.fmod_nonneg_of_pos _ (by decide)
  have hi' : Int.fmod (Int.fdiv (3 * hue z) 8) 6 < 6 := Int.fmod_lt_of_pos _ (by decide)
  have hf : Ex (fr (Int.fmod (3 * hue z) 8) 8) (Int.fmod (3 * hue z) 8) 3 := fr_ex (d := 8) (by decide) (by omega) (by decide) (by omega)
  have hs : Ex (fr (shr z) 4) (shr z) 2 := fr_ex (d := 4) (by decide) (by omega) (by decide) (by omega)
  have hv : Ex (fr (lev z) 4) (lev z) 2 := fr_ex (d := 4) (by decide) (by omega) (by decide) (by omega)
  have one2 : Ex 4607182418800017408 4 2 := ex_1.up 2 rfl rfl
  have one3 : Ex 4607182418800017408 8 3 := ex_1.up 3 rfl rfl
  have one5 : Ex 4607182418800017408 32 5 := ex_1.up 5 rfl rfl
  have hp := mul_ex hv (sub_ex one2 hs (by decide) (by omega)) l0 (by omega) (by decide) (by
    have : lev z * (4 - shr z) ≤ 4 * 4 := Int.mul_le_mul (by omega) (by omega) (by omega) (by decide)
    have : 0 ≤ lev z * (4 - shr z) := Int.mul_nonneg l0 (by omega)
    omega)
  have hp7 : Ex (Float64.mul (fr (lev z) 4) (Float64.sub 4607182418800017408 (fr (shr z) 4))) (lev z * (32 - shr z * 8)) 7 := hp.up 3 (by rw [Int.mul_assoc]; congr 1; omega) rfl
  have gen : ∀ {x : UInt64} {e : Int}, Ex x e 3 → 0 ≤ e → e ≤ 8 → Ex (Float64.mul (fr (lev z) 4) (Float64.sub 4607182418800017408 (Float64.mul (fr (shr z) 4) x))) (lev z * (32 - shr z * e)) 7 := fun {x e} hx g0 g1 => by
    obtain ⟨m0, m1, m2, m3, _⟩ := mul_bd l0 l1 s0 s1 g0 g1
    have k1 := mul_ex hs hx s0 g0 (by decide) (by omega)
    have k2 := sub_ex one5 k1 (by decide) (by omega)
    exact mul_ex hv k2 l0 (by omega) (by decide) (by omega)
  have hq := gen hf he (by omega)
  have ht := gen (sub_ex one3 hf (by decide) (by omega)) (show 0 ≤ 8 - Int.fmod (3 * hue z) 8 by omega) (by omega)
  have hv7 : Ex (fr (lev z) 4) (lev z * 32) 7 := hv.up 5 rfl rfl
  have hvz : shr z = 0 → ∀ c, Ex (fr (lev z) 4) (chan c z) 7 := fun q c => by
    unfold chan
    rw [q, Int.zero_mul]
    exact hv7
  unfold layC rgbF Cx
  dsimp only
  rw [e2, e3, eq_ex hs (ex_0.up (b := 0) (j := 2) 2 (by omega) rfl)]
  by_cases q : shr z = 0
  · rw [decide_eq_true q, if_pos rfl]
    exact ⟨hvz q _, hvz q _, hvz q _⟩
  · rw [decide_eq_false q, if_neg (by decide)]
    unfold chan
    generalize Int.fmod (Int.fdiv (3 * hue z) 8) 6 = i at *
    generalize Int.fmod (3 * hue z) 8 = e at *
    have sub0 : 32 - shr z * 0 = 32 := by omega
    unfold arr at ea
    have : i = 0 ∨ i = 1 ∨ i = 2 ∨ i = 3 ∨ i = 4 ∨ i = 5 := by omega
    rcases this with rfl | rfl | rfl | rfl | rfl | rfl <;> simp at ea ⊢ <;> obtain ⟨a0, a1, a2⟩ := ea <;> rw [a0, a1, a2] <;> (try rw [sub0])
    · exact ⟨hv7, ht, hp7⟩
    · exact ⟨hq, hv7, hp7⟩
    · exact ⟨hp7, hv7, ht⟩
    · exact ⟨hp7, hq, hv7⟩
    · exact ⟨ht, hp7, hv7⟩
    · exact ⟨hv7, hp7, hq⟩
end Mine
end
section
open PySem PySem.W
set_option maxRecDepth 100000
namespace Mine
open PySem.Float64
theorem fall_bd (z : Int) : (0 ≤ fallI (hue z) 0 ∧ fallI (hue z) 0 ≤ 8) ∧ (0 ≤ fallI (hue z) 16 ∧ fallI (hue z) 16 ≤ 8) ∧ (0 ≤ fallI (hue z) 32 ∧ fallI (hue z) 32 ≤ 8) ∧ min (min (fallI (hue z) 0) (fallI (hue z) 16)) (fallI (hue z) 32) = 0 ∧ max (max (fallI (hue z) 0) (fallI (hue z) 16)) (fallI (hue z) 32) = 8 := by
  have := falls (hue z) (hue_bd z).1 (hue_bd z).2
  omega
theorem chan_bd {c z : Int} (h0 : 0 ≤ fallI (hue z) c) (h1 : fallI (hue z) c ≤ 8) : 0 ≤ lstI z ∧ lstI z ≤ chan c z ∧ chan c z ≤ valI z ∧ valI z ≤ 128 := by
  obtain ⟨m0, m1, m2, m3, m4⟩ := mul_bd (lev_bd z).1 (lev_bd z).2 (shr_bd z).1 (shr_bd z).2 h0 h1
  obtain ⟨_, _, k2, _, _⟩ := mul_bd (lev_bd z).1 (lev_bd z).2 (shr_bd z).1 (shr_bd z).2 (show (0 : Int) ≤ 8 by decide) (show (8 : Int) ≤ 8 by decide)
  exact ⟨k2, m4, m3, by have := lev_bd z; unfold valI; omega⟩
/-- what the two systems tell of a layer -/
theorem lay_ok (z : Int) : rgbOk (fr (hue z) 16) = true ∧ hsvOk (layC z).1 (layC z).2.1 (layC z).2.2 = true ∧ hlsOk (layC z).1 (layC z).2.1 (layC z).2.2 = true ∧ Ex (endC z).1 (valI z) 7 ∧ Ex (endC z).2 (lstI z) 7 := by
  obtain ⟨⟨b0, b1⟩, ⟨b2, b3⟩, ⟨b4, b5⟩, b6, b7⟩ := fall_bd z
  obtain ⟨c0, c1, c2, c3⟩ := chan_bd b0 b1
  obtain ⟨_, c5, c6, _⟩ := chan_bd b2 b3
  obtain ⟨_, c9, c10, _⟩ := chan_bd b4 b5
  obtain ⟨o1, o2, o3, o4⟩ := col_ok (lay_cx z) (by decide) (by omega) (by omega) (by omega) (by omega) (by omega) (by omega)
  refine ⟨(turn_at (hue_bd z).1 (by have := (hue_bd z).2; omega)).1, o1, o2, ?_, ?_⟩
  · have e : max (max (chan 0 z) (chan 16 z)) (chan 32 z) = valI z := by
      have : fallI (hue z) 0 = 0 ∨ fallI (hue z) 16 = 0 ∨ fallI (hue z) 32 = 0 := by omega
      have k : ∀ c, fallI (hue z) c = 0 → chan c z = valI z := fun c q => by unfold chan valI; rw [q, Int.mul_zero]; rfl
      rcases this with q | q | q
      · have := k _ q; omega
      · have := k _ q; omega
      · have := k _ q; omega
    rw [← e]; exact o3
  · have e : min (min (chan 0 z) (chan 16 z)) (chan 32 z) = lstI z := by
      have : fallI (hue z) 0 = 8 ∨ fallI (hue z) 16 = 8 ∨ fallI (hue z) 32 = 8 := by omega
      have k : ∀ c, fallI (hue z) c = 8 → chan c z = lstI z := fun c q => by unfold chan lstI; rw [q]
      rcases this with q | q | q
      · have := k _ q; omega
      · have := k _ q; omega
      · have := k _ q; omega
    rw [← e]; exact o4
theorem lay_told (z : Int) : (Float64.cmp (endC z).1 (fr (lev z) 4) == some .eq) = true ∧ (Float64.cmp (endC z).2 (fr (lev z * (4 - shr z)) 16) == some .eq) = true := by
  obtain ⟨_, _, _, h1, h2⟩ := lay_ok z
  obtain ⟨l0, l1⟩ := lev_bd z
  obtain ⟨s0, s1⟩ := shr_bd z
  have hb : 0 ≤ lev z * (4 - shr z) := Int.mul_nonneg l0 (by omega)
  have hb' : lev z * (4 - shr z) ≤ 4 * 4 := Int.mul_le_mul (by omega) (by omega) (by omega) (by decide)
  have k1 : Ex (fr (lev z) 4) (valI z) 7 := (fr_ex (c := lev z) (d := 4) (j := 2) (by decide) (by omega) (by decide) (by omega)).up 5 rfl rfl
  have k2 : Ex (fr (lev z * (4 - shr z)) 16) (lstI z) 7 := (fr_ex (c := lev z * (4 - shr z)) (d := 16) (j := 4) (by decide) (by omega) (by decide) (by omega)).up 3 (by unfold lstI; rw [Int.mul_assoc]; congr 1; omega) rfl
  rw [eq_ex h1 k1, eq_ex h2 k2]
  exact ⟨decide_eq_true rfl, decide_eq_true rfl⟩
/-- the ways to a corner, and the fall -/
def wayH (h c : Int) : Int := mnI (Int.fmod (3 * h - c) 48) (Int.fmod (c - 3 * h) 48)
def wayFacts (h c : Int) : Bool := decide (fallI h c = 0) == decide (wayH h c ≤ 8) && decide (fallI h c = 8) == decide (16 ≤ wayH h c)
theorem ways16 : ((List.range 16).all fun h => wayFacts (h : Int) 0 && wayFacts (h : Int) 16 && wayFacts (h : Int) 32) = true := by decide +kernel
theorem way_fall (z : Int) {c : Int} (hc : c = 0 ∨ c = 16 ∨ c = 32) : (fallI (hue z) c = 0 ↔ wayI z c ≤ 8) ∧ (fallI (hue z) c = 8 ↔ 16 ≤ wayI z c) := by
  obtain ⟨h0, h1⟩ := hue_bd z
  have := List.all_eq_true.mp ways16 (hue z).toNat (List.mem_range.mpr (by omega))
  rw [show (((hue z).toNat : Nat) : Int) = hue z by omega] at this
  simp only [Bool.and_eq_true] at this
  have k : wayFacts (hue z) c = true := by
    rcases hc with rfl | rfl | rfl
    · exact this.1.1
    · exact this.1.2
    · exact this.2
  unfold wayFacts at k
  simp only [Bool.and_eq_true, beq_iff_eq, decide_eq_decide] at k
  exact k
theorem act_iff (z : Int) : actB z = true ↔ lev z ≠ 0 ∧ shr z ≠ 0 := by
  unfold actB
  rw [decide_eq_true_eq]
  constructor
  · intro h
    exact ⟨fun q => h (by rw [q, Int.mul_zero]), fun q => h (by rw [q, Int.zero_mul])⟩
  · rintro ⟨h1, h2⟩ q
    rcases Int.mul_eq_zero.mp q with q | q
    · exact h2 q
    · exact h1 q
theorem chan_val (z : Int) {c : Int} (hc : c = 0 ∨ c = 16 ∨ c = 32) : chan c z = valI z ↔ (actB z = true → wayI z c ≤ 8) := by
  rw [← (way_fall z hc).1, act_iff]
  unfold chan valI
  constructor
  · rintro h ⟨h1, h2⟩
    have : 32 - shr z * fallI (hue z) c = 32 := Int.eq_of_mul_eq_mul_left h1 h
    rcases Int.mul_eq_zero.mp (show shr z * fallI (hue z) c = 0 by omega) with q | q
    · exact absurd q h2
    · exact q
  · intro h
    by_cases h1 : lev z = 0
    · rw [h1, Int.zero_mul, Int.zero_mul]
    · by_cases h2 : shr z = 0
      · rw [h2, Int.zero_mul]; rfl
      · rw [h ⟨h1, h2⟩, Int.mul_zero]; rfl
theorem chan_lst (z : Int) {c : Int} (hc : c = 0 ∨ c = 16 ∨ c = 32) : chan c z = lstI z ↔ (actB z = true → 16 ≤ wayI z c) := by
  rw [← (way_fall z hc).2, act_iff]
  unfold chan lstI
  constructor
  · rintro h ⟨h1, h2⟩
    have e : 32 - shr z * fallI (hue z) c = 32 - shr z * 8 := Int.eq_of_mul_eq_mul_left h1 h
    exact Int.eq_of_mul_eq_mul_left h2 (show shr z * fallI (hue z) c = shr z * 8 by omega)
  · intro h
    by_cases h1 : lev z = 0
    · rw [h1, Int.zero_mul, Int.zero_mul]
    · by_cases h2 : shr z = 0
      · rw [h2, Int.zero_mul, Int.zero_mul]
      · rw [h ⟨h1, h2⟩]
/-- the weighed sum of a run: the first number once, then 1, 2, 4 .. times -/
def psum (f : Int → Int) : Nat → List Int → Int
  | _, [] => 0
  | k, z :: zs => f z * 2 ^ k + psum f (k + 1) zs
theorem pos_pow (k : Nat) : (0 : Int) < 2 ^ k := Int.pow_pos (by decide)
theorem psum_le {f g : Int → Int} (h : ∀ z, f z ≤ g z) : ∀ (k : Nat) (l : List Int), psum f k l ≤ psum g k l
  | _, [] => Int.le_refl _
  | k, z :: zs => by
    have := psum_le h (k + 1) zs
    have := Int.mul_le_mul_of_nonneg_right (h z) (Int.le_of_lt (pos_pow k))
    show _ + _ ≤ _ + _
    omega
theorem psum_eq {f g : Int → Int} (h : ∀ z, f z ≤ g z) : ∀ (k : Nat) (l : List Int), psum f k l = psum g k l ↔ ∀ z ∈ l, f z = g z
  | _, [] => ⟨fun _ _ h => (nomatch h), fun _ => rfl⟩
  | k, z :: zs => by
    have h1 := psum_le h (k + 1) zs
    have h2 := Int.mul_le_mul_of_nonneg_right (h z) (Int.le_of_lt (pos_pow k))
    have ih := psum_eq h (k + 1) zs
    constructor
    · intro e
      have e' : f z * 2 ^ k + psum f (k + 1) zs = g z * 2 ^ k + psum g (k + 1) zs := e
      have e1 : f z * 2 ^ k = g z * 2 ^ k := by omega
      have e2 : psum f (k + 1) zs = psum g (k + 1) zs := by omega
      intro y hy
      rcases List.mem_cons.mp hy with rfl | hy
      · exact Int.eq_of_mul_eq_mul_right (Int.ne_of_gt (pos_pow k)) e1
      · exact ih.mp e2 y hy
    · intro e
      show f z * 2 ^ k + psum f (k + 1) zs = g z * 2 ^ k + psum g (k + 1) zs
      rw [e z List.mem_cons_self, ih.mpr fun y hy => e y (List.mem_cons_of_mem _ hy)]
theorem psum_bd {f : Int → Int} (h0 : ∀ z, 0 ≤ f z) (h1 : ∀ z, f z ≤ 128) : ∀ (k : Nat) (l : List Int), 0 ≤ psum f k l ∧ psum f k l ≤ 128 * 2 ^ (k + l.length) - 128 * 2 ^ k
  | k, [] => by simp [psum]
  | k, z :: zs => by
    obtain ⟨a, b⟩ := psum_bd h0 h1 (k + 1) zs
    have hp := pos_pow k
    have c := Int.mul_nonneg (h0 z) (Int.le_of_lt hp)
    have d := Int.mul_le_mul_of_nonneg_right (h1 z) (Int.le_of_lt hp)
    have e : (2 : Int) ^ (k + 1) = 2 * 2 ^ k := by rw [Int.pow_succ, Int.mul_comm]
    rw [e] at b
    rw [show k + 1 + zs.length = k + (zs.length + 1) by omega] at b
    rw [List.length_cons]
    show 0 ≤ f z * 2 ^ k + psum f (k + 1) zs ∧ f z * 2 ^ k + psum f (k + 1) zs ≤ _
    omega
/-- reduce over halves, exactly -/
theorem fold_half {g : Int → UInt64} {f : Int → Int} (hg : ∀ z, Ex (g z) (f z) 7) (h0 : ∀ z, 0 ≤ f z) (h1 : ∀ z, f z ≤ 128) : ∀ (l : List Int) (k : Nat) (x : UInt64) (a : Int), Ex x a (7 + k) → 0 ≤ a → a ≤ 128 * 2 ^ k → k + l.length ≤ 20 →
    Ex ((l.map g).foldl halfF x) (a + psum f k l) (7 + (k + l.length))
  | [], k, x, a, hx, _, _, _ => by
    show Ex x (a + 0) (7 + (k + 0))
    rw [Int.add_zero]; exact hx
  | z :: zs, k, x, a, hx, a0, a1, hk => by
    rw [List.length_cons] at hk
    have hp := pos_pow k
    have hp2 : (2 : Int) ^ k ≤ 2 ^ 40 := (pow_le40 (by omega)).2
    have hp3 : (2 : Int) ^ k ≤ 2 ^ 20 := by
      have e : ((2 ^ k : Nat) : Int) = (2 : Int) ^ k := by rw [Int.natCast_pow]; rfl
      have h1 : (2 : Nat) ^ k ≤ 2 ^ 20 := Nat.pow_le_pow_right (by decide) (by omega)
      omega
    have c := Int.mul_nonneg (h0 z) (Int.le_of_lt hp)
    have d := Int.mul_le_mul_of_nonneg_right (h1 z) (Int.le_of_lt hp)
    have e : (2 : Int) ^ (k + 1) = 2 * 2 ^ k := by rw [Int.pow_succ, Int.mul_comm]
    have hy : Ex (g z) (f z * 2 ^ k) (7 + k) := (hg z).up k rfl rfl
    have hh := half_ex hx hy (by omega) (by omega)
    have ih := fold_half hg h0 h1 zs (k + 1) (halfF x (g z)) (a + f z * 2 ^ k) hh (by omega) (by rw [e]; omega) (by omega)
    show Ex ((zs.map g).foldl halfF (halfF x (g z))) (a + (f z * 2 ^ k + psum f (k + 1) zs)) _
    rw [← Int.add_assoc, List.length_cons, show k + (zs.length + 1) = k + 1 + zs.length by omega]
    exact ih
theorem fold_over : ∀ (l : List Int) (c : C3), (l.map layC).foldl overC c = ((l.map fun z => (layC z).1).foldl halfF c.1, (l.map fun z => (layC z).2.1).foldl halfF c.2.1, (l.map fun z => (layC z).2.2).foldl halfF c.2.2)
  | [], _ => rfl
  | z :: zs, c => fold_over zs (overC c (layC z))
theorem wsum_val : ∀ (l : List Int) (k : Nat), psum valI k l = 32 * wsum (2 ^ k) l
  | [], _ => rfl
  | z :: zs, k => by
    show valI z * 2 ^ k + psum valI (k + 1) zs = 32 * (lev z * 2 ^ k + wsum (2 * 2 ^ k) zs)
    rw [wsum_val zs (k + 1), show (2 : Int) ^ (k + 1) = 2 * 2 ^ k by rw [Int.pow_succ, Int.mul_comm], Int.mul_add]
    unfold valI
    rw [show lev z * 32 * 2 ^ k = 32 * (lev z * 2 ^ k) by rw [Int.mul_comm (lev z) 32, Int.mul_assoc]]
end Mine
end
section
open PySem PySem.W
set_option maxRecDepth 100000
namespace Mine
open PySem.Float64
theorem all_ways (zs : List Int) (f : Int → Bool) : (waysZ zs).all f = true ↔ ∀ z ∈ zs, actB z = true → f z = true := by
  unfold waysZ
  rw [List.all_eq_true]
  constructor
  · intro h z hz ha
    exact h z (List.mem_filter.mpr ⟨hz, ha⟩)
  · intro h z hz
    exact h z (List.mem_filter.mp hz).1 (List.mem_filter.mp hz).2
theorem near_iff (zs : List Int) : nearB zs = true ↔ (∀ z ∈ zs, actB z = true → wayI z 0 ≤ 8) ∨ (∀ z ∈ zs, actB z = true → wayI z 16 ≤ 8) ∨ (∀ z ∈ zs, actB z = true → wayI z 32 ≤ 8) := by
  have e : nearB zs = ((waysZ zs).all (fun z => decide (wayI z 0 ≤ 8)) || ((waysZ zs).all (fun z => decide (wayI z 16 ≤ 8)) || ((waysZ zs).all (fun z => decide (wayI z 32 ≤ 8)) || false))) := rfl
  rw [e, Bool.or_eq_true, Bool.or_eq_true, Bool.or_false, all_ways, all_ways, all_ways]
  simp only [decide_eq_true_eq]
theorem far_iff (zs : List Int) : farB zs = true ↔ (∀ z ∈ zs, actB z = true → 16 ≤ wayI z 0) ∨ (∀ z ∈ zs, actB z = true → 16 ≤ wayI z 16) ∨ (∀ z ∈ zs, actB z = true → 16 ≤ wayI z 32) := by
  have e : farB zs = ((waysZ zs).all (fun z => decide (16 ≤ wayI z 0)) || ((waysZ zs).all (fun z => decide (16 ≤ wayI z 16)) || ((waysZ zs).all (fun z => decide (16 ≤ wayI z 32)) || false))) := rfl
  rw [e, Bool.or_eq_true, Bool.or_eq_true, Bool.or_false, all_ways, all_ways, all_ways]
  simp only [decide_eq_true_eq]
theorem chan_all {c : Int} (hc : c = 0 ∨ c = 16 ∨ c = 32) (z : Int) : 0 ≤ lstI z ∧ lstI z ≤ chan c z ∧ chan c z ≤ valI z ∧ valI z ≤ 128 := by
  obtain ⟨⟨b0, b1⟩, ⟨b2, b3⟩, ⟨b4, b5⟩, _⟩ := fall_bd z
  rcases hc with rfl | rfl | rfl
  · exact chan_bd b0 b1
  · exact chan_bd b2 b3
  · exact chan_bd b4 b5
def sumI (f : Int → Int) (z0 : Int) (zr : List Int) : Int := f z0 + psum f 0 zr
theorem sum_le {f g : Int → Int} (h : ∀ z, f z ≤ g z) (z0 : Int) (zr : List Int) : sumI f z0 zr ≤ sumI g z0 zr := by
  have := psum_le h 0 zr
  have := h z0
  unfold sumI; omega
theorem sum_eq {f g : Int → Int} (h : ∀ z, f z ≤ g z) (z0 : Int) (zr : List Int) : sumI f z0 zr = sumI g z0 zr ↔ ∀ z ∈ z0 :: zr, f z = g z := by
  have h1 := psum_le h 0 zr
  have h2 := h z0
  have h3 := psum_eq h 0 zr
  unfold sumI
  constructor
  · intro e z hz
    rcases List.mem_cons.mp hz with rfl | hz
    · omega
    · exact h3.mp (by omega) z hz
  · intro e
    rw [e z0 List.mem_cons_self, h3.mpr fun y hy => e y (List.mem_cons_of_mem _ hy)]
theorem sum_bd {f : Int → Int} (h0 : ∀ z, 0 ≤ f z) (h1 : ∀ z, f z ≤ 128) (z0 : Int) (zr : List Int) : 0 ≤ sumI f z0 zr ∧ sumI f z0 zr ≤ 2 ^ (7 + (0 + zr.length)) := by
  obtain ⟨a, b⟩ := psum_bd h0 h1 0 zr
  have := h0 z0
  have := h1 z0
  have e : (2 : Int) ^ (7 + (0 + zr.length)) = 128 * 2 ^ (0 + zr.length) := by rw [Int.pow_add]; rfl
  rw [e]
  unfold sumI
  have : (128 : Int) * 2 ^ 0 = 128 := rfl
  omega
theorem sum_ex {g : Int → UInt64} {f : Int → Int} (hg : ∀ z, Ex (g z) (f z) 7) (h0 : ∀ z, 0 ≤ f z) (h1 : ∀ z, f z ≤ 128) (z0 : Int) (zr : List Int) (hl : zr.length ≤ 4) : Ex ((zr.map g).foldl halfF (g z0)) (sumI f z0 zr) (7 + (0 + zr.length)) :=
  fold_half hg h0 h1 zr 0 (g z0) (f z0) (hg z0) (h0 z0) (by have := h1 z0; omega) (by omega)
theorem right_ok (z0 : Int) (zr : List Int) (hl : zr.length ≤ 4) : RightOk (z0 :: zr) ((zr.map layC).foldl overC (layC z0)) (((zr.map endC).map (·.1)).foldl halfF (endC z0).1) (((zr.map endC).map (·.2)).foldl halfF (endC z0).2) := by
  have H0 := chan_all (c := 0) (.inl rfl)
  have H1 := chan_all (c := 16) (.inr (.inl rfl))
  have H2 := chan_all (c := 32) (.inr (.inr rfl))
  have K : 7 + (0 + zr.length) ≤ 40 := by omega
  have x0 := sum_ex (g := fun z => (layC z).1) (f := chan 0) (fun z => (lay_cx z).1) (fun z => by have := H0 z; omega) (fun z => by have := H0 z; omega) z0 zr hl
  have x1 := sum_ex (g := fun z => (layC z).2.1) (f := chan 16) (fun z => (lay_cx z).2.1) (fun z => by have := H1 z; omega) (fun z => by have := H1 z; omega) z0 zr hl
  have x2 := sum_ex (g := fun z => (layC z).2.2) (f := chan 32) (fun z => (lay_cx z).2.2) (fun z => by have := H2 z; omega) (fun z => by have := H2 z; omega) z0 zr hl
  have xv := sum_ex (g := fun z => (endC z).1) (f := valI) (fun z => (lay_ok z).2.2.2.1) (fun z => by have := H0 z; omega) (fun z => by have := H0 z; omega) z0 zr hl
  have xw := sum_ex (g := fun z => (endC z).2) (f := lstI) (fun z => (lay_ok z).2.2.2.2) (fun z => by have := H0 z; omega) (fun z => by have := H0 z; omega) z0 zr hl
  have d0 := sum_bd (f := chan 0) (fun z => by have := H0 z; omega) (fun z => by have := H0 z; omega) z0 zr
  have d1 := sum_bd (f := chan 16) (fun z => by have := H1 z; omega) (fun z => by have := H1 z; omega) z0 zr
  have d2 := sum_bd (f := chan 32) (fun z => by have := H2 z; omega) (fun z => by have := H2 z; omega) z0 zr
  have dv := sum_bd (f := valI) (fun z => by have := H0 z; omega) (fun z => by have := H0 z; omega) z0 zr
  have eP : Cx ((zr.map layC).foldl overC (layC z0)) (sumI (chan 0) z0 zr) (sumI (chan 16) z0 zr) (sumI (chan 32) z0 zr) (7 + (0 + zr.length)) := by
    rw [fold_over]; exact ⟨x0, x1, x2⟩
  obtain ⟨o1, o2, o3, o4⟩ := col_ok eP K d0.1 d0.2 d1.1 d1.2 d2.1 d2.2
  have eV : ((zr.map endC).map (·.1)) = zr.map fun z => (endC z).1 := by rw [List.map_map]; rfl
  have eW : ((zr.map endC).map (·.2)) = zr.map fun z => (endC z).2 := by rw [List.map_map]; rfl
  have v0 := sum_le (f := chan 0) (g := valI) (fun z => (H0 z).2.2.1) z0 zr
  have v1 := sum_le (f := chan 16) (g := valI) (fun z => (H1 z).2.2.1) z0 zr
  have v2 := sum_le (f := chan 32) (g := valI) (fun z => (H2 z).2.2.1) z0 zr
  have w0 := sum_le (f := lstI) (g := chan 0) (fun z => (H0 z).2.1) z0 zr
  have w1 := sum_le (f := lstI) (g := chan 16) (fun z => (H1 z).2.1) z0 zr
  have w2 := sum_le (f := lstI) (g := chan 32) (fun z => (H2 z).2.1) z0 zr
  have nv : ∀ {c : Int} (hc : c = 0 ∨ c = 16 ∨ c = 32), sumI (chan c) z0 zr = sumI valI z0 zr ↔ ∀ z ∈ z0 :: zr, actB z = true → wayI z c ≤ 8 := fun {c} hc => by
    rw [sum_eq (fun z => (chan_all hc z).2.2.1)]
    exact ⟨fun h z hz => (chan_val z hc).mp (h z hz), fun h z hz => (chan_val z hc).mpr (h z hz)⟩
  have nw : ∀ {c : Int} (hc : c = 0 ∨ c = 16 ∨ c = 32), sumI lstI z0 zr = sumI (chan c) z0 zr ↔ ∀ z ∈ z0 :: zr, actB z = true → 16 ≤ wayI z c := fun {c} hc => by
    rw [sum_eq (fun z => (chan_all hc z).2.1)]
    exact ⟨fun h z hz => (chan_lst z hc).mp (h z hz).symm, fun h z hz => ((chan_lst z hc).mpr (h z hz)).symm⟩
  rw [eV, eW]
  refine ⟨o1, o2, ?_, ?_, ?_, ?_, ?_⟩
  · have hs : sumI valI z0 zr = 32 * weighI (z0 :: zr) := by
      show valI z0 + psum valI 0 zr = 32 * (lev z0 + wsum 1 zr)
      rw [wsum_val zr 0, Int.mul_add]
      unfold valI
      rw [Int.mul_comm (lev z0) 32]; rfl
    have hu : unitI (z0 :: zr) = ((4 * 2 ^ zr.length : Nat) : Int) := by
      show (4 : Int) * 2 ^ (zr.length + 1 - 1) = _
      rw [Nat.add_sub_cancel, Int.natCast_mul, Int.natCast_pow]; rfl
    rw [hu]
    obtain ⟨p1, p2⟩ := pow_le40 K
    have xf : Ex (fr (weighI (z0 :: zr)) ((4 * 2 ^ zr.length : Nat) : Int)) (sumI valI z0 zr) (7 + (0 + zr.length)) := by
      refine fr_ex (by omega) (by omega) (Nat.mul_pos (by decide) (Nat.pow_pos (by decide))) ?_
      rw [hs, Int.pow_add, Int.natCast_mul, Int.natCast_pow, Nat.zero_add]
      show weighI (z0 :: zr) * (128 * 2 ^ zr.length) = 32 * weighI (z0 :: zr) * (4 * 2 ^ zr.length)
      rw [Int.mul_comm 32, Int.mul_assoc, ← Int.mul_assoc 32]
      rfl
    rw [eq_ex xv xf]; exact decide_eq_true rfl
  · rw [gt_ex o3 xv]; exact decide_eq_false (by omega)
  · rw [lt_ex o4 xw]; exact decide_eq_false (by omega)
  · rw [eq_ex o3 xv]
    refine Bool.eq_iff_iff.mpr ?_
    rw [decide_eq_true_eq, near_iff, ← nv (.inl rfl), ← nv (.inr (.inl rfl)), ← nv (.inr (.inr rfl))]
    omega
  · rw [eq_ex o4 xw]
    refine Bool.eq_iff_iff.mpr ?_
    rw [decide_eq_true_eq, far_iff, ← nw (.inl rfl), ← nw (.inr (.inl rfl)), ← nw (.inr (.inr rfl))]
    omega
end Mine
end
section
open PySem PySem.W PyProof.Rows PySem.Calls PyProof.Rows.LCg
set_option maxRecDepth 100000
namespace Mine
theorem ints5 {ys : List Value} (h : ys.length = 5) (hi : ∀ y ∈ ys, IsInt y) : ∃ z0 t0 z1 t1 z2 t2 z3 t3 z4 t4, ys = [.int z0 t0, .int z1 t1, .int z2 t2, .int z3 t3, .int z4 t4] := by
  obtain ⟨z0, t0, y, rfl, h, hi⟩ := ints_cons h hi
  obtain ⟨z1, t1, y, rfl, h, hi⟩ := ints_cons h hi
  obtain ⟨z2, t2, y, rfl, h, hi⟩ := ints_cons h hi
  obtain ⟨z3, t3, y, rfl, h, hi⟩ := ints_cons h hi
  obtain ⟨z4, t4, y, rfl, h, hi⟩ := ints_cons h hi
  cases y with
  | nil => exact ⟨z0, t0, z1, t1, z2, t2, z3, t3, z4, t4, rfl⟩
  | cons _ _ => cases h
section
variable {prog : Program} {w : World} {A : Around} {E : Value → Shared → Prop} {s : Shared} {Q : Value → Shared → Prop} {z : Int} {t u : Tok}
theorem mod16_hue (h : Q (.int (hue z) s.toks) { s with toks := s.toks + 1 }) : wpAny (model prog w) A (binaryOp .Mod (.int z t) (.int 16 u)) Q E s := mod16_gen fun r e _ _ => e ▸ h
theorem mod5_shr (h : Q (.int (shr z) s.toks) { s with toks := s.toks + 1 }) : wpAny (model prog w) A (binaryOp .Mod (.int (Int.fdiv z 16) t) (.int 5 u)) Q E s := mod5_gen fun r e _ _ => e ▸ h
theorem mod5_lev (h : Q (.int (lev z) s.toks) { s with toks := s.toks + 1 }) : wpAny (model prog w) A (binaryOp .Mod (.int (Int.fdiv z 80) t) (.int 5 u)) Q E s := mod5_gen fun r e _ _ => e ▸ h
end
section
variable {prog : Program} {w : World} {K : Frag} {loose : List Str} {mean : ExcName → Option Value} {mg mb : Str → Option Value} {dn un : Nat} {f : Value} {vs : List Value} {objs : List (Addr × Obj)}
  {dp u : Nat} {gd : Option (List Code)} {env : Env} {outer : List Env} {A₀ : Around} {base h₀ : Heap} {L : Addr} {m : Str → Option Value} {news : List (Addr × Obj)} {s : Shared} {Q E : Value → Shared → Prop}
theorem useT (C : Pure prog w K loose mean mg mb dn un f vs objs (fun v _ => v = .bool true)) (B : Below A₀ base outer h₀) (F : Fr h₀ L s.heap m) (N : News h₀ L s.heap news) (X : K.In h₀) (T : Top topProg loose mean mg mb h₀) (hf : env.frame = some L) (hk : env.scope.kind = .function) (ho : ∀ p ∈ objs, p ∈ news)
    (hd : dp + dn < recursionLimit) (hu : u + un < cLine) (ret : ∀ h' tk, Fr h₀ L h' m → News h₀ L h' news → Q (.bool true) { s with heap := h', toks := tk }) :
    wpAny (model prog w) (ar dp u gd (env :: outer)) (call f vs) Q E s := C dp u gd env outer A₀ base h₀ L m news s Q E B F N X T hf hk ho hd hu (by
  rintro v made h' tk rfl F' N' ne
  exact ret h' tk F' fun p hp => N' p (List.mem_append_right _ hp))
end
abbrev xShare : Str := Str.ofString "share"
abbrev xLevel : Str := Str.ofString "level"
section
variable {prog : Program} {w : World} {A : Around} {E : Value → Shared → Prop} {s : Shared} {env : Env} {h₀ : Heap} {body : List Stmt} {Q : Flow → Shared → Prop}
def LayEnd (h₀ : Heap) (L I : Addr) (oI : Obj) (m₀ : Str → Option Value) (al ae : Addr) (ls es : List Value) (z : Int) (nw : List (Addr × Obj)) (s₁ : Shared) (f : Flow) (s₂ : Shared) : Prop :=
  f = .next ∧ ∃ h' tk m' all k1 k2 a b t1 t2 t3 t4 t5, s₂ = { s₁ with heap := h', toks := tk } ∧ Fr h₀ L h' m' ∧ (∀ y, y ≠ xNum → y ≠ xShare → y ≠ xLevel → m' y = m₀ y) ∧ News h₀ L h' all ∧ (I, oI) ∈ all ∧ (∀ p ∈ nw, p ∈ all) ∧
    (ae, lstO (es ++ [.ref b]) k2) ∈ all ∧ (al, lstO (ls ++ [.ref a]) k1) ∈ all ∧ (a, tup3 (.float (layC z).1 t1) (.float (layC z).2.1 t2) (.float (layC z).2.2 t3)) ∈ all ∧ Tk3 t1 t2 t3 ∧ (b, tup2 (.float (endC z).1 t4) (.float (endC z).2 t5)) ∈ all ∧ @Ne Nat t4 0 ∧ @Ne Nat t5 0 ∧
    (@Ne Nat a I ∧ @Ne Nat a al ∧ @Ne Nat a ae) ∧ (@Ne Nat b I ∧ @Ne Nat b al ∧ @Ne Nat b ae)
theorem lay_loop {an al ae : Addr} {vs : List Value} {n : Nat} {m₀ : Str → Option Value} {nw₀ : List (Addr × Obj)} {zs : List Int}
    (hh : A.handled = none) (F : Fr h₀ env.locals s.heap m₀) (N : News h₀ env.locals s.heap ((ae, lstO [] 0) :: (al, lstO [] 0) :: nw₀)) (han : (an, lstO vs n) ∈ nw₀) (hi : IntsAre vs zs)
    (h1 : @Ne Nat al ae) (h2 : ∀ p ∈ nw₀, @Ne Nat p.1 al) (h3 : ∀ p ∈ nw₀, @Ne Nat p.1 ae)
    (turn : ∀ (i : Nat) (z : Int) (t : Tok) (ls es : List Value) (k1 k2 : Nat) (u : Str → Option Value) (nw : List (Addr × Obj)) (h : Heap) (tk : Nat) (I : Addr) (oI : Obj), ls.length ≤ i → es.length ≤ i → i < zs.length → (∀ p ∈ nw, @Ne Nat p.1 al) → (∀ p ∈ nw, @Ne Nat p.1 ae) → (∀ p ∈ nw, @Ne Nat p.1 I) → @Ne Nat al ae → @Ne Nat al I → @Ne Nat ae I →
      Fr h₀ env.locals h (fun y => if y = xNum then some (.int z t) else if y = xShare then u y else if y = xLevel then u y else m₀ y) → News h₀ env.locals h ((I, oI) :: (ae, lstO es k2) :: (al, lstO ls k1) :: nw) →
      wpAny (model prog w) A (execs body env) (LayEnd h₀ env.locals I oI m₀ al ae ls es z nw { s with heap := h, toks := tk }) E { s with heap := h, toks := tk })
    (done : ∀ (u : Str → Option Value) (ls es : List Value) (k1 k2 : Nat) (nw : List (Addr × Obj)) (h : Heap) (tk : Nat), (∀ p ∈ nw₀, p ∈ nw) → (∀ p ∈ nw, @Ne Nat p.1 al) → (∀ p ∈ nw, @Ne Nat p.1 ae) → All2 (IsCol nw) ls (zs.map layC) → All2 (IsEnd nw) es (zs.map endC) →
      Fr h₀ env.locals h (fun y => if y = xNum then u y else if y = xShare then u y else if y = xLevel then u y else m₀ y) → News h₀ env.locals h ((ae, lstO es k2) :: (al, lstO ls k1) :: nw) → Q .next { s with heap := h, toks := tk }) :
    LoopW prog w A h₀ env xNum body Q E (.ref an) s := by
  have norm : ∀ m : Str → Option Value, (∀ y, y ≠ xNum → y ≠ xShare → y ≠ xLevel → m y = m₀ y) → m = fun y => if y = xNum then m y else if y = xShare then m y else if y = xLevel then m y else m₀ y := fun m hm => by
    funext y
    by_cases a1 : y = xNum
    · rw [if_pos a1]
    · rw [if_neg a1]
      by_cases a2 : y = xShare
      · rw [if_pos a2]
      · rw [if_neg a2]
        by_cases a3 : y = xLevel
        · rw [if_pos a3]
        · rw [if_neg a3]; exact hm y a1 a2 a3
  refine for_list (fun i m nw => ∃ (ls es : List Value) (k1 k2 : Nat) (nw' : List (Addr × Obj)), (∀ y, y ≠ xNum → y ≠ xShare → y ≠ xLevel → m y = m₀ y) ∧ nw = (ae, lstO es k2) :: (al, lstO ls k1) :: nw' ∧
      (∀ p ∈ nw', @Ne Nat p.1 al) ∧ (∀ p ∈ nw', @Ne Nat p.1 ae) ∧ (∀ p ∈ nw₀, p ∈ nw') ∧ ls.length ≤ i ∧ es.length ≤ i ∧ All2 (IsCol nw') ls ((zs.take i).map layC) ∧ All2 (IsEnd nw') es ((zs.take i).map endC))
    hh F N (.tail _ (.tail _ han)) ⟨[], [], 0, 0, nw₀, fun _ _ _ _ => rfl, rfl, h2, h3, fun _ h => h, Nat.le_refl _, Nat.le_refl _, .nil, .nil⟩ (fun i m nw hJ => ?_) ?_ ?_
  · obtain ⟨_, _, _, _, _, _, rfl, _, _, hs, _⟩ := hJ
    exact .tail _ (.tail _ (hs _ han))
  · rintro I i v m₁ nw h tk oI hv ⟨ls, es, k1, k2, nw', hm, rfl, g1, g2, hs, hl1, hl2, hls, hes⟩ F₁ N₁ ne
    have hil : i < vs.length := by
      rcases Nat.lt_or_ge i vs.length with q | q
      · exact q
      · rw [List.getElem?_eq_none q] at hv; cases hv
    have hlz := ints_list hi
    obtain ⟨z, hz, t, rfl⟩ := ints_at hi hv
    have hF : (fun y => if y = xNum then some (Value.int z t) else m₁ y) = fun y => if y = xNum then some (Value.int z t) else if y = xShare then m₁ y else if y = xLevel then m₁ y else m₀ y := by
      funext y
      by_cases a1 : y = xNum
      · rw [if_pos a1, if_pos a1]
      · rw [if_neg a1, if_neg a1]
        by_cases a2 : y = xShare
        · rw [if_pos a2]
        · rw [if_neg a2]
          by_cases a3 : y = xLevel
          · rw [if_pos a3]
          · rw [if_neg a3]; exact hm y a1 a2 a3
    rw [hF] at F₁
    refine wpAny_mono (turn i z t ls es k1 k2 m₁ nw' h tk I oI hl1 hl2 (by omega) g1 g2 (fun p hp => ne p (.tail _ (.tail _ hp))) h1 (ne _ (.tail _ (.head _))) (ne _ (.head _)) F₁ N₁) (fun f s₂ hp => ?_) fun _ _ e => e
    obtain ⟨rfl, h', tk', m', all, k1', k2', a, b, t1, t2, t3, t4, t5, rfl, F', hm', N', mI, hsub, mae, mal, ma, hk, mb, z4, z5, na, nb⟩ := hp
    refine ⟨h', tk', m', (ae, lstO (es ++ [.ref b]) k2') :: (al, lstO (ls ++ [.ref a]) k1') :: ((a, tup3 (.float (layC z).1 t1) (.float (layC z).2.1 t2) (.float (layC z).2.2 t3)) :: (b, tup2 (.float (endC z).1 t4) (.float (endC z).2 t5)) :: nw'), rfl, F', fun p hp => ?_, fun p hp => ?_, _, _, k1', k2', _, hm', rfl, ?_, ?_, fun p hp => .tail _ (.tail _ (hs p hp)), ?_, ?_, ?_, ?_⟩
    · simp only [List.mem_cons] at hp
      rcases hp with rfl | rfl | rfl | rfl | rfl | hp
      · exact N' _ mI
      · exact N' _ mae
      · exact N' _ mal
      · exact N' _ ma
      · exact N' _ mb
      · exact N' _ (hsub p hp)
    · simp only [List.mem_cons] at hp
      rcases hp with rfl | rfl | rfl | rfl | hp
      · exact ne (ae, lstO es k2) (.head _)
      · exact ne (al, lstO ls k1) (.tail _ (.head _))
      · exact na.1
      · exact nb.1
      · exact ne p (.tail _ (.tail _ hp))
    · intro p hp
      simp only [List.mem_cons] at hp
      rcases hp with rfl | rfl | hp
      · exact na.2.1
      · exact nb.2.1
      · exact g1 p hp
    · intro p hp
      simp only [List.mem_cons] at hp
      rcases hp with rfl | rfl | hp
      · exact na.2.2
      · exact nb.2.2
      · exact g2 p hp
    · rw [List.length_append]; simp only [List.length_singleton]; omega
    · rw [List.length_append]; simp only [List.length_singleton]; omega
    · rw [take_get hz, List.map_append]
      exact All2.append (hls.imp fun _ _ => IsCol.mono fun q hq => .tail _ (.tail _ hq)) (.cons ⟨a, t1, t2, t3, rfl, .head _, hk⟩ .nil)
    · rw [take_get hz, List.map_append]
      exact All2.append (hes.imp fun _ _ => IsEnd.mono fun q hq => .tail _ (.tail _ hq)) (.cons ⟨b, t4, t5, rfl, .tail _ (.head _), z4, z5⟩ .nil)
  · rintro m₁ nw h tk ⟨ls, es, k1, k2, nw', hm, rfl, g1, g2, hs, hl1, hl2, hls, hes⟩ F₁ N₁
    rw [ints_list hi, List.take_length] at hls hes
    rw [norm m₁ hm] at F₁
    exact done m₁ ls es k1 k2 nw' h tk hs g1 g2 hls hes F₁ N₁
end
end Mine
namespace Mine
/-- the top's facts without its text -/
theorem top_plain {p : Program} {loose : List Str} {mean : ExcName → Option Value} {mg mb : Str → Option Value} {h : Heap} (T : Top p loose mean mg mb h) :
    Top topProg (loose ++ (recsOf p).map (·.name) ++ (litsOf p).map (·.1) ++ (clssOf p loose).map (·.name)) mean mg mb h where
  g := T.g
  b := T.b
  nolimit := T.nolimit
  nodigits := T.nodigits
  fn := fun d hd => absurd (show d ∈ ([] : List DefRec) from hd) List.not_mem_nil
  own := fun o ho => absurd (show o ∈ ([] : List OwnSpec) from ho) List.not_mem_nil
  const := fun x d e => by cases (show (none : Option PyData) = some d from e)
  free := fun x h1 h2 _ _ _ => T.free x h1 (fun q => h2 (List.mem_append_left _ (List.mem_append_left _ (List.mem_append_left _ q))))
    (fun q => h2 (List.mem_append_left _ (List.mem_append_left _ (List.mem_append_right _ q)))) (fun q => h2 (List.mem_append_left _ (List.mem_append_right _ q))) fun q => h2 (List.mem_append_right _ q)
  builtins := T.builtins
  tab := fun d hd => absurd (show d ∈ ([] : List DefRec) from hd) List.not_mem_nil
  bmain := T.bmain
  seer := fun e => absurd (show false = true from e) Bool.false_ne_true
end Mine
namespace Mine
theorem LayEnd.of {h₀ h' : Heap} {L I al ae a b : Addr} {oI : Obj} {x y : Addr × Obj} {m₀ m' : Str → Option Value} {ls es : List Value} {z : Int} {nw : List (Addr × Obj)} {s₁ : Shared} {tk k1 k2 : Nat} {t1 t2 t3 t4 t5 : Tok} (F : Fr h₀ L h' m') (hm : ∀ y, y ≠ xNum → y ≠ xShare → y ≠ xLevel → m' y = m₀ y)
    (N : News h₀ L h' (x :: (b, tup2 (.float (endC z).1 t4) (.float (endC z).2 t5)) :: (a, tup3 (.float (layC z).1 t1) (.float (layC z).2.1 t2) (.float (layC z).2.2 t3)) :: y :: (I, oI) :: (ae, lstO (es ++ [.ref b]) k2) :: (al, lstO (ls ++ [.ref a]) k1) :: nw))
    (hk : Tk3 t1 t2 t3) (z45 : @Ne Nat t4 0 ∧ @Ne Nat t5 0) (na : @Ne Nat y.1 a ∧ @Ne Nat I a ∧ @Ne Nat ae a ∧ @Ne Nat al a ∧ AllNe a nw) (nb : @Ne Nat a b ∧ @Ne Nat y.1 b ∧ @Ne Nat I b ∧ @Ne Nat ae b ∧ @Ne Nat al b ∧ AllNe b nw) :
    LayEnd h₀ L I oI m₀ al ae ls es z nw s₁ .next { s₁ with heap := h', toks := tk } :=
  ⟨rfl, h', tk, m', _, k1, k2, a, b, t1, t2, t3, t4, t5, rfl, F, hm, N, .tail _ (.tail _ (.tail _ (.tail _ (.head _)))), fun p hp => .tail _ (.tail _ (.tail _ (.tail _ (.tail _ (.tail _ (.tail _ hp)))))),
    .tail _ (.tail _ (.tail _ (.tail _ (.tail _ (.head _))))), .tail _ (.tail _ (.tail _ (.tail _ (.tail _ (.tail _ (.head _)))))), .tail _ (.tail _ (.head _)), hk, .tail _ (.head _), z45.1, z45.2,
    ⟨Ne.symm na.2.1, Ne.symm na.2.2.2.1, Ne.symm na.2.2.1⟩, ⟨Ne.symm nb.2.2.1, Ne.symm nb.2.2.2.2.1, Ne.symm nb.2.2.2.1⟩⟩
end Mine
namespace Mine
theorem all2_five {α β : Type} {P : α → β → Prop} {l : List α} {b0 b1 b2 b3 b4 : β} (h : All2 P l [b0, b1, b2, b3, b4]) : ∃ a0 a1 a2 a3 a4, l = [a0, a1, a2, a3, a4] ∧ P a0 b0 ∧ P a1 b1 ∧ P a2 b2 ∧ P a3 b3 ∧ P a4 b4 := by
  cases h with
  | cons p0 h => cases h with
    | cons p1 h => cases h with
      | cons p2 h => cases h with
        | cons p3 h => cases h with
          | cons p4 h => cases h with
            | nil => exact ⟨_, _, _, _, _, rfl, p0, p1, p2, p3, p4⟩
end Mine
namespace Mine
section
variable {prog : Program} {w : World} {A : Around} {E : Value → Shared → Prop} {s : Shared} {Q : Value → Shared → Prop} {a : Int} {t u : Tok}
theorem add2_at (p : Int) (hp : a + 2 = p) (h : Q (.int p s.toks) { s with toks := s.toks + 1 }) : wpAny (model prog w) A (binaryOp .Add (.int a t) (.int 2 u)) Q E s := by
  subst hp; exact add_int h
end
end Mine
namespace Mine
/-- a run of the layers -/
def RunAt (nw : List (Addr × Obj)) (vs : List Value) (lv : Value) (ls : List Value) (ev : Value) (es : List Value) : Prop :=
  ∃ z0 zr, IntsAre vs (z0 :: zr) ∧ 1 ≤ zr.length ∧ zr.length ≤ 4 ∧ All2 (IsCol nw) (lv :: ls) ((z0 :: zr).map layC) ∧ All2 (IsEnd nw) (ev :: es) ((z0 :: zr).map endC)
theorem run2 {nw : List (Addr × Obj)} {z0 z1 : Int} {t0 t1 : Tok} {l0 l1 e0 e1 : Value} (c0 : IsCol nw l0 (layC z0)) (c1 : IsCol nw l1 (layC z1)) (d0 : IsEnd nw e0 (endC z0)) (d1 : IsEnd nw e1 (endC z1)) : RunAt nw [.int z0 t0, .int z1 t1] l0 [l1] e0 [e1] :=
  ⟨z0, [z1], (.cons _ _ (.cons _ _ .nil)), Nat.le_of_ble_eq_true rfl, Nat.le_of_ble_eq_true rfl, (.cons c0 (.cons c1 .nil)), (.cons d0 (.cons d1 .nil))⟩
theorem run3 {nw : List (Addr × Obj)} {z0 z1 z2 : Int} {t0 t1 t2 : Tok} {l0 l1 l2 e0 e1 e2 : Value} (c0 : IsCol nw l0 (layC z0)) (c1 : IsCol nw l1 (layC z1)) (c2 : IsCol nw l2 (layC z2)) (d0 : IsEnd nw e0 (endC z0)) (d1 : IsEnd nw e1 (endC z1)) (d2 : IsEnd nw e2 (endC z2)) : RunAt nw [.int z0 t0, .int z1 t1, .int z2 t2] l0 [l1, l2] e0 [e1, e2] :=
  ⟨z0, [z1, z2], (.cons _ _ (.cons _ _ (.cons _ _ .nil))), Nat.le_of_ble_eq_true rfl, Nat.le_of_ble_eq_true rfl, (.cons c0 (.cons c1 (.cons c2 .nil))), (.cons d0 (.cons d1 (.cons d2 .nil)))⟩
theorem run4 {nw : List (Addr × Obj)} {z0 z1 z2 z3 : Int} {t0 t1 t2 t3 : Tok} {l0 l1 l2 l3 e0 e1 e2 e3 : Value} (c0 : IsCol nw l0 (layC z0)) (c1 : IsCol nw l1 (layC z1)) (c2 : IsCol nw l2 (layC z2)) (c3 : IsCol nw l3 (layC z3)) (d0 : IsEnd nw e0 (endC z0)) (d1 : IsEnd nw e1 (endC z1)) (d2 : IsEnd nw e2 (endC z2)) (d3 : IsEnd nw e3 (endC z3)) : RunAt nw [.int z0 t0, .int z1 t1, .int z2 t2, .int z3 t3] l0 [l1, l2, l3] e0 [e1, e2, e3] :=
  ⟨z0, [z1, z2, z3], (.cons _ _ (.cons _ _ (.cons _ _ (.cons _ _ .nil)))), Nat.le_of_ble_eq_true rfl, Nat.le_of_ble_eq_true rfl, (.cons c0 (.cons c1 (.cons c2 (.cons c3 .nil)))), (.cons d0 (.cons d1 (.cons d2 (.cons d3 .nil))))⟩
theorem run5 {nw : List (Addr × Obj)} {z0 z1 z2 z3 z4 : Int} {t0 t1 t2 t3 t4 : Tok} {l0 l1 l2 l3 l4 e0 e1 e2 e3 e4 : Value} (c0 : IsCol nw l0 (layC z0)) (c1 : IsCol nw l1 (layC z1)) (c2 : IsCol nw l2 (layC z2)) (c3 : IsCol nw l3 (layC z3)) (c4 : IsCol nw l4 (layC z4)) (d0 : IsEnd nw e0 (endC z0)) (d1 : IsEnd nw e1 (endC z1)) (d2 : IsEnd nw e2 (endC z2)) (d3 : IsEnd nw e3 (endC z3)) (d4 : IsEnd nw e4 (endC z4)) : RunAt nw [.int z0 t0, .int z1 t1, .int z2 t2, .int z3 t3, .int z4 t4] l0 [l1, l2, l3, l4] e0 [e1, e2, e3, e4] :=
  ⟨z0, [z1, z2, z3, z4], (.cons _ _ (.cons _ _ (.cons _ _ (.cons _ _ (.cons _ _ .nil))))), Nat.le_of_ble_eq_true rfl, Nat.le_of_ble_eq_true rfl, (.cons c0 (.cons c1 (.cons c2 (.cons c3 (.cons c4 .nil))))), (.cons d0 (.cons d1 (.cons d2 (.cons d3 (.cons d4 .nil)))))⟩
end Mine
namespace Mine
section
variable {h₀ h' : Heap} {L I : Addr} {it : Obj} {rest : (Str → Option Value) → List (Addr × Obj) → Prop} {s₁ : Shared} {tk : Nat} {m' : Str → Option Value} {a b c : Addr × Obj} {l : List (Addr × Obj)}
theorem unr3 (F : Fr h₀ L h' m') (N : News h₀ L h' (a :: b :: c :: (I, it) :: l)) (off : AllLt I l) (r : rest m' l) : UnrEnd h₀ L s₁ I it rest { s₁ with heap := h', toks := tk } :=
  UnrEnd.intro F N l (fun _ hp => .tail _ (.tail _ (.tail _ hp))) (fun p hp => Nat.ne_of_lt (ktn_ltOf off p hp)) r
theorem unr0 (F : Fr h₀ L h' m') (N : News h₀ L h' ((I, it) :: l)) (off : AllLt I l) (r : rest m' l) : UnrEnd h₀ L s₁ I it rest { s₁ with heap := h', toks := tk } :=
  UnrEnd.intro F N l (fun _ hp => hp) (fun p hp => Nat.ne_of_lt (ktn_ltOf off p hp)) r
end
end Mine
end
section
open PySem PySem.W PyProof.Rows PySem.Calls PyProof.Rows.LCg
set_option maxRecDepth 100000
namespace Mine
abbrev xBegin : Str := Str.ofString "begin"
abbrev xBehind : Str := Str.ofString "behind"
theorem slice_pick {prog : Program} {w : World} {A : Around} {E : Value → Shared → Prop} {s : Shared} {h₀ : Heap} {L l : Addr} {m : Str → Option Value} {news : List (Addr × Obj)} {value slice : PySem.Expr} {its zs : List Value} {n : Nat} {x y : Int} {t u : Tok} {Q : Value → Shared → Prop}
    (F : Fr h₀ L s.heap m) (N : News h₀ L s.heap news) (hl : (l, lstO its n) ∈ news) (e : kms_pick its (some x) (some y) = zs) (hz : its.length ≤ 100)
    (h : ∀ D h', Fr h₀ L h' m → News h₀ L h' ((D, lstO zs 0) :: news) → (∀ p ∈ news, p.1 < D) → Q (.ref D) { s with heap := h' })
    (hs : subscripted slice false (.ref l) (.ref s.heap.objs.size) = operate [.ref s.heap.objs.size, .ref l] (getItem (.ref l) (.ref s.heap.objs.size))) (ht : ∀ r, letTemporaryGo value (.ref l) r = pure ()) :
    wpAny (model prog w) A (subscriptTail value slice (.ref l) (.ref s.heap.objs.size)) Q E { s with heap := s.heap.push { cls := .type "slice", data := .fields #[.int x t, .int y u, .none] } } :=
  kms_slice_lit F N (News.isList N hl) (IsPart.int _ _) (IsPart.int _ _) e h hs ht (by rw [sizeLine_eq, List.size_toArray]; exact Nat.le_trans hz (Nat.le_of_ble_eq_true rfl))
theorem run_pick {nw : List (Addr × Obj)} {v0 v1 v2 v3 v4 l0 l1 l2 l3 l4 e0 e1 e2 e3 e4 : Value} (r02 : RunAt nw [v0, v1] l0 [l1] e0 [e1]) (r03 : RunAt nw [v0, v1, v2] l0 [l1, l2] e0 [e1, e2]) (r04 : RunAt nw [v0, v1, v2, v3] l0 [l1, l2, l3] e0 [e1, e2, e3]) (r05 : RunAt nw [v0, v1, v2, v3, v4] l0 [l1, l2, l3, l4] e0 [e1, e2, e3, e4])
    (r13 : RunAt nw [v1, v2] l1 [l2] e1 [e2]) (r14 : RunAt nw [v1, v2, v3] l1 [l2, l3] e1 [e2, e3]) (r15 : RunAt nw [v1, v2, v3, v4] l1 [l2, l3, l4] e1 [e2, e3, e4]) (r24 : RunAt nw [v2, v3] l2 [l3] e2 [e3]) (r25 : RunAt nw [v2, v3, v4] l2 [l3, l4] e2 [e3, e4]) (r35 : RunAt nw [v3, v4] l3 [l4] e3 [e4])
    (b e : Int) (h0 : 0 ≤ b) (h1 : b + 2 ≤ e) (h2 : e ≤ 5) : ∃ lv ls ev es, kms_pick [l0, l1, l2, l3, l4] (some b) (some e) = lv :: ls ∧ kms_pick [e0, e1, e2, e3, e4] (some b) (some e) = ev :: es ∧ RunAt nw (kms_pick [v0, v1, v2, v3, v4] (some b) (some e)) lv ls ev es := by
  obtain ⟨b, rfl⟩ := Int.eq_ofNat_of_zero_le h0
  obtain ⟨j, hj⟩ := Int.eq_ofNat_of_zero_le (show 0 ≤ e - (b + 2) by omega)
  obtain rfl : e = ((b + 2 + j : Nat) : Int) := by omega
  have hbj : b + j ≤ 3 := by omega
  clear h0 h1 h2 hj
  match b, j, hbj with
  | 0, 0, _ => exact ⟨_, _, _, _, rfl, rfl, r02⟩
  | 0, 1, _ => exact ⟨_, _, _, _, rfl, rfl, r03⟩
  | 0, 2, _ => exact ⟨_, _, _, _, rfl, rfl, r04⟩
  | 0, 3, _ => exact ⟨_, _, _, _, rfl, rfl, r05⟩
  | 1, 0, _ => exact ⟨_, _, _, _, rfl, rfl, r13⟩
  | 1, 1, _ => exact ⟨_, _, _, _, rfl, rfl, r14⟩
  | 1, 2, _ => exact ⟨_, _, _, _, rfl, rfl, r15⟩
  | 2, 0, _ => exact ⟨_, _, _, _, rfl, rfl, r24⟩
  | 2, 1, _ => exact ⟨_, _, _, _, rfl, rfl, r25⟩
  | 3, 0, _ => exact ⟨_, _, _, _, rfl, rfl, r35⟩
  | 0, j + 4, h => exact absurd h (by omega)
  | 1, j + 3, h => exact absurd h (by omega)
  | 2, j + 2, h => exact absurd h (by omega)
  | 3, j + 1, h => exact absurd h (by omega)
  | b + 4, j, h => exact absurd h (by omega)
section
variable {prog : Program} {w : World} {A : Around} {E : Value → Shared → Prop} {s : Shared} {env : Env} {h₀ : Heap} {body : List Stmt} {Q : Flow → Shared → Prop}
/-- the end of a turn that leaves the frame as it was -/
def SameEnd (h₀ : Heap) (L : Addr) (m : Str → Option Value) (nw : List (Addr × Obj)) (s₁ : Shared) (f : Flow) (s₂ : Shared) : Prop :=
  f = .next ∧ ∃ h' tk all, s₂ = { s₁ with heap := h', toks := tk } ∧ Fr h₀ L h' m ∧ News h₀ L h' all ∧ ∀ p ∈ nw, p ∈ all
theorem SameEnd.of {L : Addr} {m : Str → Option Value} {nw all : List (Addr × Obj)} {s₁ : Shared} {h' : Heap} {tk : Nat} (F : Fr h₀ L h' m) (N : News h₀ L h' all) (sub : ∀ p ∈ nw, p ∈ all) : SameEnd h₀ L m nw s₁ .next { s₁ with heap := h', toks := tk } := ⟨rfl, h', tk, all, rfl, F, N, sub⟩
theorem behind_loop {r : Addr} {a b : Int} {t₀ u₀ v₀ t : Tok} {u m₀ : Str → Option Value} {nw : List (Addr × Obj)} (hh : A.handled = none) (hr : IsRange s.heap r a 6 1 t₀ u₀ v₀) (h0 : 0 ≤ b) (h1 : b < 5) (hab : a = b + 2)
    (F : Fr h₀ env.locals s.heap (fun y => if y = xBegin then some (.int b t) else if y = xBehind then u y else m₀ y)) (N : News h₀ env.locals s.heap nw)
    (turn : ∀ (e : Int) (t' : Tok) (h : Heap) (tk : Nat) (I : Addr) (it : Obj), b + 2 ≤ e → e ≤ 5 → Fr h₀ env.locals h (fun y => if y = xBehind then some (.int e t') else if y = xBegin then some (.int b t) else m₀ y) → News h₀ env.locals h ((I, it) :: nw) →
      wpAny (model prog w) A (execs body env) (SameEnd h₀ env.locals (fun y => if y = xBehind then some (.int e t') else if y = xBegin then some (.int b t) else m₀ y) ((I, it) :: nw) { s with heap := h, toks := tk }) E { s with heap := h, toks := tk })
    (done : ∀ (u : Str → Option Value) (h : Heap) (tk : Nat), Fr h₀ env.locals h (fun y => if y = xBehind then u y else if y = xBegin then some (.int b t) else m₀ y) → News h₀ env.locals h nw → Q .next { s with heap := h, toks := tk }) :
    wpAny (model prog w) A (pyIter (.ref r)) (fun it s₂ => LoopAtV prog w A h₀ env xBehind body Q E it s₂) E s := by
  obtain ⟨n, hn⟩ : ∃ n : Nat, (n : Int) = 6 - a := ⟨(6 - a).toNat, by omega⟩
  have g := range_one (a := a) (b := 6) (by omega) (by omega) (by decide)
  refine iter_rangeUnr (n := n) hh hr g.2 (g.1.trans hn.symm) F N fun I hI => range_inv (fun i m nw' => nw' = nw ∧ ∃ u : Str → Option Value, m = fun y => if y = xBehind then u y else if y = xBegin then some (.int b t) else m₀ y) ?_ ?_ _ 0 _ _ (Nat.zero_add _) ⟨rfl, fun y => if y = xBegin then some (.int b t) else if y = xBehind then u y else m₀ y, ?_⟩
  · rintro i m nw' t' h tk hin ⟨rfl, u, rfl⟩ F₁ N₁
    have e1 : (fun y => if y = xBehind then some (Value.int (a + (i : Int)) t') else (fun y => if y = xBehind then u y else if y = xBegin then some (.int b t) else m₀ y) y) = fun y => if y = xBehind then some (Value.int (a + (i : Int)) t') else if y = xBegin then some (.int b t) else m₀ y := by
      funext y
      by_cases a1 : y = xBehind
      · rw [if_pos a1, if_pos a1]
      · rw [if_neg a1, if_neg a1]; exact if_neg a1
    rw [e1] at F₁
    refine wpAny_mono (turn (a + i) t' h tk I _ (by omega) (by omega) F₁ N₁) (fun f s₂ hp => ?_) fun _ _ e => e
    obtain ⟨rfl, h', tk', all, rfl, F', N', sub⟩ := hp
    exact ⟨h', tk', _, nw', rfl, F', fun p hp => N' p (sub p hp), fun p hp e => absurd (e ▸ hI p hp) (Nat.lt_irrefl _), rfl, fun _ => some (.int (a + i) t'), rfl⟩
  · rintro m nw' h tk ⟨rfl, u, rfl⟩ F₁ N₁
    exact done u h tk F₁ N₁
  · funext y
    by_cases a1 : y = xBehind
    · exact (if_pos a1).symm
    · simp only [if_neg a1]
/-- the end of an outer turn -/
def RunsEnd (h₀ : Heap) (L : Addr) (m₀ : Str → Option Value) (nw : List (Addr × Obj)) (s₁ : Shared) (f : Flow) (s₂ : Shared) : Prop :=
  f = .next ∧ ∃ h' tk m all, s₂ = { s₁ with heap := h', toks := tk } ∧ Fr h₀ L h' m ∧ (∀ y, y ≠ xBegin → y ≠ xBehind → m y = m₀ y) ∧ News h₀ L h' all ∧ ∀ p ∈ nw, p ∈ all
theorem RunsEnd.of {L : Addr} {m m₀ : Str → Option Value} {nw all : List (Addr × Obj)} {s₁ : Shared} {h' : Heap} {tk : Nat} (F : Fr h₀ L h' m) (hm : ∀ y, y ≠ xBegin → y ≠ xBehind → m y = m₀ y) (N : News h₀ L h' all) (sub : ∀ p ∈ nw, p ∈ all) : RunsEnd h₀ L m₀ nw s₁ .next { s₁ with heap := h', toks := tk } := ⟨rfl, h', tk, m, all, rfl, F, hm, N, sub⟩
theorem begin_loop {r : Addr} {t₀ u₀ v₀ : Tok} {m₀ : Str → Option Value} {nw : List (Addr × Obj)} (hh : A.handled = none) (hr : IsRange s.heap r 0 5 1 t₀ u₀ v₀) (F : Fr h₀ env.locals s.heap m₀) (N : News h₀ env.locals s.heap nw)
    (turn : ∀ (b : Int) (t : Tok) (u : Str → Option Value) (h : Heap) (tk : Nat) (I : Addr) (it : Obj), 0 ≤ b → b < 5 → Fr h₀ env.locals h (fun y => if y = xBegin then some (.int b t) else if y = xBehind then u y else m₀ y) → News h₀ env.locals h ((I, it) :: nw) →
      wpAny (model prog w) A (execs body env) (RunsEnd h₀ env.locals m₀ ((I, it) :: nw) { s with heap := h, toks := tk }) E { s with heap := h, toks := tk })
    (done : ∀ (u : Str → Option Value) (h : Heap) (tk : Nat), Fr h₀ env.locals h (fun y => if y = xBegin then u y else if y = xBehind then u y else m₀ y) → News h₀ env.locals h nw → Q .next { s with heap := h, toks := tk }) :
    wpAny (model prog w) A (pyIter (.ref r)) (fun it s₂ => LoopAtV prog w A h₀ env xBegin body Q E it s₂) E s := by
  refine iter_rangeUnr (n := 5) hh hr (by decide) (by decide) F N fun I hI => range_inv (fun i m nw' => nw' = nw ∧ ∀ y, y ≠ xBegin → y ≠ xBehind → m y = m₀ y) ?_ ?_ _ 0 _ _ (Nat.zero_add _) ⟨rfl, fun _ _ _ => rfl⟩
  · rintro i m nw' t h tk hin ⟨rfl, hm⟩ F₁ N₁
    have e1 : (fun y => if y = xBegin then some (Value.int (0 + (i : Int)) t) else m y) = fun y => if y = xBegin then some (Value.int (0 + (i : Int)) t) else if y = xBehind then m y else m₀ y := by
      funext y
      by_cases a1 : y = xBegin
      · rw [if_pos a1, if_pos a1]
      · rw [if_neg a1, if_neg a1]
        by_cases a2 : y = xBehind
        · rw [if_pos a2]
        · rw [if_neg a2]; exact hm y a1 a2
    rw [e1] at F₁
    refine wpAny_mono (turn (0 + i) t m h tk I _ (by omega) (by omega) F₁ N₁) (fun f s₂ hp => ?_) fun _ _ e => e
    obtain ⟨rfl, h', tk', m', all, rfl, F', hm', N', sub⟩ := hp
    exact ⟨h', tk', m', nw', rfl, F', fun p hp => N' p (sub p hp), fun p hp e => absurd (e ▸ hI p hp) (Nat.lt_irrefl _), rfl, hm'⟩
  · rintro m nw' h tk ⟨rfl, hm⟩ F₁ N₁
    have e1 : m = fun y => if y = xBegin then m y else if y = xBehind then m y else m₀ y := by
      funext y
      by_cases a1 : y = xBegin
      · rw [if_pos a1]
      · rw [if_neg a1]
        by_cases a2 : y = xBehind
        · rw [if_pos a2]
        · rw [if_neg a2]; exact hm y a1 a2
    rw [e1] at F₁
    exact done m h tk F₁ N₁
end
end Mine
end
section
namespace Mine
open PySem PySem.W PyProof.Rows
set_option maxRecDepth 100000 in
set_option maxHeartbeats 8000000 in
open_top hd for PySem.Challenge.rw_mq0172_02

end Mine
end
section
open PySem PySem.W PyProof.Rows PySem.Calls
set_option maxRecDepth 100000
set_option maxHeartbeats 8000000
namespace Mine
local macro_rules | `(tactic| walk_at "P std") => `(tactic| ((case uB => k_asm); (case uF => k_asm); (case uN => k_asm); (case uX => k_asm); (case uT => k_asm); (case uf => exact rfl); (case uk => exact rfl)))
local macro_rules | `(tactic| walk_at "P rm") => `(tactic| ((case ud => ((try simp only [depth_deeper]); (try dsimp only); omega)); (case uu => ((try simp only [units_deeper]); (try dsimp only); omega))))
local macro_rules | `(tactic| k_room) => `(tactic| ((try simp only [depth_mark, depth_under_make, depth_under_kw, depth_in1, depth_deeper, depth_caller]); omega))
local macro_rules | `(tactic| walk_at "call builtin:max") => `(tactic| ((with_reducible show wpAny _ _ (call _ [Value.float _ _, Value.float _ _, Value.float _ _]) _ _ _); (rename News _ _ _ _ => N'); (rename Fr _ _ _ _ => F'); refine max3_num rfl F' N' ?_; clear N'; intro _ _ _ _ _ _))
local macro_rules | `(tactic| walk_at "call builtin:min") => `(tactic| ((with_reducible show wpAny _ _ (call _ [Value.float _ _, Value.float _ _, Value.float _ _]) _ _ _); (rename News _ _ _ _ => N'); (rename Fr _ _ _ _ => F'); refine min3_num rfl F' N' ?_; clear N'; intro _ _ _ _ _ _))
local macro_rules | `(tactic| walk_at "binaryOp Div float float") => `(tactic| (with_plain (refine div_ok rfl ?hz ?_; (case hz => first | (with_reducible assumption) | decide +kernel); (try dsimp only))))
local macro_rules | `(tactic| walk_at "binaryOp Mod float float") => `(tactic| (with_plain (refine mod_ok rfl ?hz ?_; (case hz => first | (with_reducible assumption) | decide +kernel); (try dsimp only))))
local macro_rules | `(tactic| walk_at "call type:int") => `(tactic| ((with_reducible show wpAny _ _ (call _ [Value.float _ _]) _ _ _); with_plain (refine int_ok rfl ?hz ?_; (case hz => with_reducible assumption); (try dsimp only))))
local macro_rules | `(tactic| walk_at "P fit") => `(tactic| first | (with_reducible assumption) | (exact Nat.le_of_ble_eq_true rfl) | omega)
local macro_rules | `(tactic| walk_at "binaryOp Sub float int") => `(tactic| (with_plain (refine sub_fi_ok ?hz ?_; (case hz => walk_at "P fit"); (try dsimp only))))
local macro_rules | `(tactic| walk_at "binaryOp Mult int float") => `(tactic| (with_plain (refine mul_if_ok ?hz ?_; (case hz => walk_at "P fit"); (try dsimp only))))
local macro_rules | `(tactic| walk_at "binaryOp Div int int") => `(tactic| (with_plain (refine div_ii_ok rfl ?hz ?hy ?_; (case hz => walk_at "P fit"); (case hy => first | decide | omega); (try dsimp only))))
local macro_rules | `(tactic| walk_at "binaryOp Div float int") => `(tactic| (with_plain (refine div_fi_ok rfl ?hz ?hy ?_; (case hz => walk_at "P fit"); (case hy => first | decide | omega); (try dsimp only))))
local macro_rules | `(tactic| walk_at "P off") => `(tactic| first | exact List.forall_mem_nil _ | (refine List.forall_mem_cons.mpr ⟨?a, ?b⟩; (case a => (refine neN ?_; (try dsimp only); omega)); (case b => walk_at "P off")))
local macro_rules | `(tactic| walk_at "P enter") => `(tactic| (
  refine wpAny_call ?_
  k_dflt (refine' enter ?k0 ?k1 ?k2 ?k3 ?k4 ?k5 ?kf ?ko ?kA ?k6 ?k7 ?k8 ?k9 ?kB ?_ ?c2 ?c3 ?c4 ?c5; (case kA => exact rfl); (case k0 => k_asm); (case k1 => k_asm); (case k2 => k_asm); (case k3 => k_asm); (case k4 => k_asm); (case k5 => assumption); (case kf => assumption); (case ko => assumption); (case k6 => k_is); (case k7 => k_is); (case k8 => (show _ < _; dsimp only; omega)); (case k9 => exact BindsTo.of_eq rfl); (case c5 => decide); (case kB => exact locs rfl); (case c2 => exact rfl); (case c3 => exact rfl); (case c4 => exact rfl); k_whole; intro g' L' h' G' F' N' B' X' T'; (try dsimp only); (try k_fold))))
local macro_rules | `(tactic| walk_at "P enterC") => `(tactic| (
  refine wpAny_call ?_
  k_dflt (refine' enterC ?k0 ?k1 ?k2 ?k3 ?k4 ?k5 ?kf ?ko ?kA ?k6 ?k7 ?k8 ?k9 ?kB ?kD ?_ ?c2 ?c3 ?c4; (case kA => exact rfl); (case k0 => k_asm); (case k1 => k_asm); (case k2 => k_asm); (case k3 => k_asm); (case k4 => k_asm); (case k5 => assumption); (case kf => assumption); (case ko => assumption); (case k6 => k_is); (case k7 => k_is); (case k8 => (show _ < _; dsimp only; omega)); (case k9 => exact BindsTo.of_eq rfl); (case kB => exact rfl); (case kD => decide +kernel); (case c2 => exact rfl); (case c3 => exact rfl); (case c4 => exact rfl); k_whole; intro g' L' h' tk' cells' G' F' N' Y' B' X' T' l1; (try k_lt l1); k_cells Y'; (try simp only [List.cons_append, List.nil_append] at N'); (try dsimp only); (try k_fold))))
local macro_rules | `(tactic| walk_at "P nz") => `(tactic| first | (with_reducible assumption) | exact Nat.succ_ne_zero _ | (refine nz_use (by assumption) ?_ ?_ ?_ <;> assumption) | (dsimp only; omega))
local macro_rules | `(tactic| walk_at "execs cons") => `(tactic| (k_here; (refine keep_tok (by walk_at "P nz") ?_); intro tk' z'; (with_reducible refine wpAny_execs_cons ?_); (try dsimp only)))
section
/-- the walk of the top is over -/
theorem off0 : True := by
  w_top off
  trivial
theorem rgb_to_hsv_spec (w : World) (loose : List Str) (mean : ExcName → Option Value) (mg mb : Str → Option Value) (r g b : UInt64) (tr tg tb : Tok) (ok : hsvOk r g b = true) (zr : @Ne Nat tr 0) (zg : @Ne Nat tg 0) (zb : @Ne Nat tb 0) :
    Pure Challenge.rw_mq0172_02.row.prog w (hd.heap_39 w.params) loose mean mg mb 2 20 (.ref 28) [.float r tr, .float g tg, .float b tb] [] (RetF3 (hsvF r g b)) := by
  k_fill
  intro dp u gd env outer A₀ base h₀ L m news s Q E B F N X T hef hek ho hdp hu hret
  unfold hsvOk at ok
  dsimp only at ok
  walk_at "P enter"
  cases hm : (Float64.cmp (mn (mn r g) b) (mx (mx r g) b) == some .eq)
  · rw [hm] at ok
    simp only [Bool.false_or, Bool.and_eq_true, Bool.not_eq_true'] at ok
    obtain ⟨z1, z2⟩ := ok
    k_steps
    all_goals ((rename News _ _ _ _ => N'); refine leave1 (s := s) F N ho hret (by assumption) (by assumption) N' (List.forall_mem_nil _) (List.forall_mem_nil _) (RetF3.of ?_ (by walk_at "P nz") (by walk_at "P nz") (by walk_at "P nz")))
    all_goals simp only [hsvF, hueF, *, if_true, if_false, Bool.false_eq_true]
  · clear ok
    k_steps
    (rename News _ _ _ _ => N'); refine leave1 (s := s) F N ho hret (by assumption) (by assumption) N' (List.forall_mem_nil _) (List.forall_mem_nil _) (RetF3.of ?_ (by walk_at "P nz") (by walk_at "P nz") (by walk_at "P nz"))
    simp only [hsvF, hm, if_true]
theorem rgb_to_hls_spec (w : World) (loose : List Str) (mean : ExcName → Option Value) (mg mb : Str → Option Value) (r g b : UInt64) (tr tg tb : Tok) (ok : hlsOk r g b = true) :
    Pure Challenge.rw_mq0172_02.row.prog w (hd.heap_39 w.params) loose mean mg mb 2 20 (.ref 21) [.float r tr, .float g tg, .float b tb] [] (RetF3 (hlsF r g b)) := by
  k_fill
  intro dp u gd env outer A₀ base h₀ L m news s Q E B F N X T hef hek ho hdp hu hret
  unfold hlsOk at ok
  dsimp only at ok
  walk_at "P enter"
  cases hm : (Float64.cmp (mn (mn r g) b) (mx (mx r g) b) == some .eq)
  · rw [hm] at ok
    simp only [Bool.false_or, Bool.and_eq_true, Bool.not_eq_true'] at ok
    obtain ⟨⟨z1, z2⟩, z3⟩ := ok
    k_steps
    all_goals ((rename News _ _ _ _ => N'); refine leave1 (s := s) F N ho hret (by assumption) (by assumption) N' (List.forall_mem_nil _) (List.forall_mem_nil _) (RetF3.of ?_ (by walk_at "P nz") (by walk_at "P nz") (by walk_at "P nz")))
    all_goals simp only [hlsF, hueF, *, if_true, if_false, Bool.false_eq_true]
  · clear ok
    k_steps
    (rename News _ _ _ _ => N'); refine leave1 (s := s) F N ho hret (by assumption) (by assumption) N' (List.forall_mem_nil _) (List.forall_mem_nil _) (RetF3.of ?_ (by walk_at "P nz") (by walk_at "P nz") (by walk_at "P nz"))
    simp only [hlsF, hm, if_true]
theorem hsv_to_rgb_spec (w : World) (loose : List Str) (mean : ExcName → Option Value) (mg mb : Str → Option Value) (h' s' v' : UInt64) (tr tg tb : Tok) (ok : rgbOk h' = true) (zb : @Ne Nat tb 0) :
    Pure Challenge.rw_mq0172_02.row.prog w (hd.heap_39 w.params) loose mean mg mb 2 20 (.ref 35) [.float h' tr, .float s' tg, .float v' tb] [] (RetF3 (rgbF h' s' v')) := by
  k_fill
  intro dp u gd env outer A₀ base h₀ L m news s Q E B F N X T hef hek ho hdp hu hret
  unfold rgbOk at ok
  rw [Bool.and_eq_true] at ok
  obtain ⟨z1, z2⟩ := ok
  have z3 : (Flt.toInt Float64.truncOf (Float64.mul h' 4618441417868443648)).natAbs < 2 ^ 64 := Nat.lt_of_lt_of_le (Nat.le_of_ble_eq_true z2) (by decide +kernel)
  clear z2
  walk_at "P enter"
  k_steps
  all_goals first | ((rename News _ _ _ _ => N'); refine leave1 (s := s) F N ho hret (by assumption) (by assumption) N' (List.forall_mem_nil _) (List.forall_mem_nil _) (RetF3.of ?_ (by walk_at "P nz") (by walk_at "P nz") (by walk_at "P nz"))) | exfalso
  all_goals clear N F ho hret B T X z1 z3
  all_goals first
    | (unfold rgbF; simp [*]; done)
    | (have y1 := Int.fmod_lt_of_pos (Flt.toInt Float64.truncOf (Float64.mul h' 4618441417868443648)) (show (0 : Int) < 6 by decide); have y2 := Int.fmod_nonneg_of_pos (Flt.toInt Float64.truncOf (Float64.mul h' 4618441417868443648)) (show (0 : Int) < 6 by decide); omega)
end
section
/-- the walk of the top is over -/
theorem off1 : True := by
  w_top off
  trivial
local macro_rules | `(tactic| walk_at "eval ListComp") => `(tactic| (k_here; k_dflt (refine ListComp_W (F₀ := by k_asm) (by with_unfolding_all rfl) (by decide) (by rfl) (by decide) (by rfl) ?_)))
local macro_rules | `(tactic| walk_at "call builtin:sum") => `(tactic| (k_here; k_dflt (refine sum_any (by k_asm) (by k_asm) rfl (by k_mem) (pick_ints (by assumption)) ?_); intro z' h' tk' t' F' N'; (try dsimp only)))
local macro_rules | `(tactic| k_mem) => `(tactic| assumption)
local macro_rules | `(tactic| walk_at "subscriptTail Name Name ref int") => `(tactic| (k_here; (with_unfolding_all refine' item_int ?iN ?im ?ii ?i0 ?ik ?ib ?_ ?is; (case iN => k_asm); (case im => k_mem); (case is => with_unfolding_all rfl); (case ii => exact ints_ofB rfl); (case i0 => omega); (case ik => ((simp only [List.length_cons, List.length_nil]); omega)); (case ib => omega)); intro z' t'; (try dsimp only)))
theorem law_numbers_spec (w : World) (loose : List Str) (mean : ExcName → Option Value) (mg mb : Str → Option Value) (asc : Addr) (vs : List Value) (ns : List Int) (hi : IntsAre vs ns) (hlay : (PyData.list (ns.map PyData.int)).layable0 = true) (hlen : ns.length ≤ 63)
    (dp u : Nat) (gd : Option (List Code)) (env : Env) (outer : List Env) (A₀ : Around) (base h₀ : Heap) (L : Addr) (m : Str → Option Value) (news : List (Addr × Obj)) (s : Shared) (Q E : Value → Shared → Prop)
    (B : Below A₀ base outer h₀) (F : Fr h₀ L s.heap m) (N : News h₀ L s.heap news) (X : (hd.heap_39 w.params).In h₀) (T : Top topProg loose mean mg mb h₀) (hl : h₀.IsList asc vs.toArray) (hef : env.frame = some L) (hek : env.scope.kind = .function)
    (hdp : dp + 20 < recursionLimit) (hu : u + 200 < cLine)
    (hret : ∀ v made h' tk, RetInts 5 v made → Fr h₀ L h' m → News h₀ L h' (made ++ news) → (∀ q ∈ news, ∀ p ∈ made, @Ne Nat q.1 p.1) → Q v { s with heap := h', toks := tk }) :
    wpAny (model Challenge.rw_mq0172_02.row.prog w) (ar dp u gd (env :: outer)) (call (.ref 49) [.ref asc]) Q E s := by
  revert X
  k_fill
  intro X
  have ho : ∀ p ∈ ([] : List (Addr × Obj)), p ∈ news := fun _ h => nomatch h
  have hl2 : (grnd s.heap []).IsList asc vs.toArray := hl.at fun o e => grnd_stays F N ho _ o e
  walk_at "P enterC"
  rename (_ = grnd _ _) => G'
  rw [← G'] at hl2
  have hint : ∀ v ∈ vs.toArray.toList, ∃ z t, v = Value.int z t := ints_mem hi
  k_steps
  rename Fr _ _ _ _ => F1
  rename News _ _ _ _ => N1
  obtain ⟨nw0, hE, N1⟩ : ∃ nw0, nw0 = _ ∧ News _ _ _ nw0 := ⟨_, rfl, N1⟩
  have m0 := mem0 hE
  have m1 := mem1 hE
  have m2 := mem2 hE
  refine LCg.CompSrc.range (n := 5) rfl F1 N1 (by assumption) (by decide) (by rfl) (by rw [sizeLine_eq]; decide) ?_
  clear F1 N1
  intro g1
  refine rest_invW (fun i ys nw => nw = nw0 ∧ ys.length = i ∧ ∀ y ∈ ys, IsInt y) ⟨rfl, rfl, fun _ h => nomatch h⟩ ?_ ?_
  · rintro i v I oI C oC D m₂ h tk E' ys nw hi' ⟨t, rfl⟩ ⟨rfl, hy1, hy2⟩ hC' hx' F2 N2 off2 ne2
    k_steps
    rename Fr _ _ _ _ => F9
    rename News _ _ _ _ => N9
    with_unfolding_all exact CompEndW.of F9 N9 _ (fun p hp => List.Mem.tail _ hp) off2 trivial ⟨rfl, by rw [List.length_append, hy1]; rfl, fun y hy => (List.mem_append.mp hy).elim (hy2 y) fun h => by rw [List.mem_singleton.mp h]; exact ⟨_, _, rfl⟩⟩
  · rintro ys nw ⟨rfl, hy1, hy2⟩
    intro D h tk F3 N3 off3
    with_unfolding_all exact leave1 (s := s) F N ho hret G' F3 N3 (fun _ h => nomatch h) (fun _ h => nomatch h) ⟨_, _, _, rfl, rfl, hy1, hy2⟩
end
section
/-- the walk of the top is over -/
theorem off2 : True := by
  w_top off
  trivial
theorem law_half_spec (w : World) (loose : List Str) (mean : ExcName → Option Value) (mg mb : Str → Option Value) (x y : UInt64) (t u : Tok) :
    Pure Challenge.rw_mq0172_02.row.prog w (hd.heap_39 w.params) loose mean mg mb 2 20 (.ref 56) [.float x t, .float y u] [] (RetF (halfF x y)) := by
  k_fill
  intro dp u gd env outer A₀ base h₀ L m news s Q E B F N X T hef hek ho hdp hu hret
  walk_at "P enter"
  k_steps
  (rename News _ _ _ _ => N'); refine leave (s := s) F N ho ?ha hret (by assumption) N' [] ?hs (List.forall_mem_nil _) (RetF.of ?_ (by walk_at "P nz"))
  case ha => assumption
  case hs => exact List.forall_mem_nil _
  rfl
local macro_rules | `(tactic| walk_at "call ref") => `(tactic| (k_here; (with_reducible show wpAny _ _ (call (Value.ref 56) [Value.float _ _, Value.float _ _]) _ _ _); k_dflt (refine' useF (law_half_spec _ _ _ _ _ _ _ _ _) ?uB ?uF ?uN ?uX ?uT ?uf ?uk ?uo ?ud ?uu ?_; walk_at "P std"; (case uo => exact List.forall_mem_nil _); walk_at "P rm"; k_whole; intro t' h' tk' z' F' N'; (try dsimp only))))
local macro_rules | `(tactic| walk_at "CompSrc") => `(tactic| (k_here; k_dflt ((refine LCg.CompSrc.range (by rfl) (by k_asm) (by k_asm) (by assumption) (by first | decide | rfl) (by first | rfl | decide) (by first | size_fits | exact Nat.le_of_ble_eq_true rfl) ?_; intro g'; lcg_lit))))
theorem law_over_spec (w : World) (loose : List Str) (mean : ExcName → Option Value) (mg mb : Str → Option Value) (c d : C3) (a b : Addr) (t1 t2 t3 u1 u2 u3 : Tok) :
    Pure Challenge.rw_mq0172_02.row.prog w (hd.heap_39 w.params) loose mean mg mb 6 60 (.ref 61) [.ref a, .ref b] [(a, tup3 (.float c.1 t1) (.float c.2.1 t2) (.float c.2.2 t3)), (b, tup3 (.float d.1 u1) (.float d.2.1 u2) (.float d.2.2 u3))] (RetF3 (halfF c.1 d.1, halfF c.2.1 d.2.1, halfF c.2.2 d.2.2)) := by
  k_fill
  intro dp u gd env outer A₀ base h₀ L m news s Q E B F N X T hef hek ho hdp hu hret
  walk_at "P enterC"
  k_steps
  ((rename News _ _ _ _ => N'); refine leave1 (s := s) F N ho hret (by assumption) (by assumption) N' (by lcg_sub) (by walk_at "P off") (RetF3.of ?_ (by walk_at "P nz") (by walk_at "P nz") (by walk_at "P nz")))
  rfl
local macro_rules | `(tactic| walk_at "P use") => `(tactic| (walk_at "P std"; (case uo => lcg_sub); walk_at "P rm"; k_whole; intro a' t1' t2' t3' h' tk' q' F' N' ne'; (have z1' := q'.1); (have z2' := q'.2.1); (have z3' := q'.2.2); (try simp only [AllNe, and_true] at ne'); (try dsimp only)))
local macro_rules | `(tactic| walk_at "call ref") => `(tactic| (k_here; (with_reducible show wpAny _ _ (call (Value.ref 28) _) _ _ _); k_dflt (refine' useF3 (rgb_to_hsv_spec _ _ _ _ _ _ _ _ _ _ _ (by assumption) (by walk_at "P nz") (by walk_at "P nz") (by walk_at "P nz")) ?uB ?uF ?uN ?uX ?uT ?uf ?uk ?uo ?ud ?uu ?_; walk_at "P use")))
local macro_rules | `(tactic| walk_at "call ref") => `(tactic| (k_here; (with_reducible show wpAny _ _ (call (Value.ref 21) _) _ _ _); k_dflt (refine' useF3 (rgb_to_hls_spec _ _ _ _ _ _ _ _ _ _ _ (by assumption)) ?uB ?uF ?uN ?uX ?uT ?uf ?uk ?uo ?ud ?uu ?_; walk_at "P use")))
local macro_rules | `(tactic| walk_at "call ref") => `(tactic| (k_here; (with_reducible show wpAny _ _ (call (Value.ref 35) _) _ _ _); k_dflt (refine' useF3 (hsv_to_rgb_spec _ _ _ _ _ _ _ _ _ _ _ (by assumption) (by walk_at "P nz")) ?uB ?uF ?uN ?uX ?uT ?uf ?uk ?uo ?ud ?uu ?_; walk_at "P use")))
theorem law_ends_spec (w : World) (loose : List Str) (mean : ExcName → Option Value) (mg mb : Str → Option Value) (c : C3) (a : Addr) (t1 t2 t3 : Tok) (ok : hsvOk c.1 c.2.1 c.2.2 = true) (ok2 : hlsOk c.1 c.2.1 c.2.2 = true) (z1 : @Ne Nat t1 0) (z2 : @Ne Nat t2 0) (z3 : @Ne Nat t3 0) :
    Pure Challenge.rw_mq0172_02.row.prog w (hd.heap_39 w.params) loose mean mg mb 4 40 (.ref 68) [.ref a] [(a, tup3 (.float c.1 t1) (.float c.2.1 t2) (.float c.2.2 t3))] (RetF2 (endsF c)) := by
  k_fill
  intro dp u gd env outer A₀ base h₀ L m news s Q E B F N X T hef hek ho hdp hu hret
  walk_at "P enter"
  k_steps
  ((rename News _ _ _ _ => N'); refine leave1 (s := s) F N ho hret (by assumption) (by assumption) N' (by lcg_sub) (by walk_at "P off") (RetF2.of ?_ (by walk_at "P nz") (by walk_at "P nz")))
  rfl
end
section
/-- the walk of the top is over -/
theorem off3 : True := by
  w_top off
  trivial
local macro_rules | `(tactic| k_mem) => `(tactic| assumption)
local macro_rules | `(tactic| walk_at "call builtin:iter") => `(tactic| (k_here; (with_reducible show wpAny _ _ (call (Value.builtin "iter") [Value.ref _]) _ _ _); k_dflt (refine iter_list (by k_asm) (by k_asm) (by k_mem) ?_); intro I' h' F' N' ne'))
local macro_rules | `(tactic| walk_at "P enterD") => `(tactic| (
  refine wpAny_call ?_
  k_dflt (refine' enter ?k0 ?k1 ?k2 ?k3 ?k4 ?k5 ?kf ?ko ?kA ?k6 ?k7 ?k8 ?k9 ?kB ?_ ?c2 ?c3 ?c4 ?c5; (case kA => exact rfl); (case k0 => k_asm); (case k1 => k_asm); (case k2 => k_asm); (case k3 => k_asm); (case k4 => k_asm); (case k5 => assumption); (case kf => assumption); (case ko => assumption); (case k6 => k_is); (case k7 => k_is); (case k8 => (show _ < _; dsimp only; omega)); (case k9 => first | exact BindsTo.of_eq rfl | exact binds_K (by k_in) rfl (by k_is) rfl rfl rfl); (case c5 => decide); (case kB => exact locs rfl); (case c2 => exact rfl); (case c3 => exact rfl); (case c4 => exact rfl); k_whole; intro g' L' h' G' F' N' B' X' T'; (try dsimp only); (try k_fold))))
local macro_rules | `(tactic| k_all) => `(tactic| assumption)
local macro_rules | `(tactic| walk_at "call builtin:next") => `(tactic| (k_here; (with_reducible show wpAny _ _ (call (Value.builtin "next") [Value.ref _]) _ _ _); k_dflt (refine next_list (by k_asm) (by k_asm) ⟨rfl, rfl⟩ (by k_mem) (by assumption) rfl ?_); intro h' o' hit' F' N'))
local macro_rules | `(tactic| walk_at "call ref") => `(tactic| (k_here; (with_reducible show wpAny _ _ (call (Value.ref _) [_, _]) _ _ _); refine Stop.out ?_))
local macro_rules | `(tactic| walk_at "callWith ref") => `(tactic| (k_here; (with_reducible show wpAny _ _ (callWith _ (Value.ref _) _ (backTo _ (starEach (_ :: _ :: _) _)) []) _ _ _); k_dflt (refine' callWith_K ?k1 ?k2 ?_; (case k1 => k_asm); (case k2 => assumption); k_whole)))
theorem reduce_spec {α : Type} (Rel : List (Addr × Obj) → Value → α → Prop) (mono : ∀ {tl tl' v b}, (∀ q ∈ tl, q ∈ tl') → Rel tl v b → Rel tl' v b) (op : α → α → α) (w : World) (loose : List Str) (mean : ExcName → Option Value) (mg mb : Str → Option Value) (fa : Addr) (hk : keepIn (hd.heap_39 w.params) (.ref fa) = true)
    (hf : ∀ objs va vb a b, Rel objs va a → Rel objs vb b → Pure Challenge.rw_mq0172_02.row.prog w (hd.heap_39 w.params) loose mean mg mb 8 80 (.ref fa) [va, vb] objs (fun v made => Rel (made ++ objs) v (op a b)))
    (al : Addr) (w0 : Value) (ws : List Value) (n : Nat) (x0 : α) (xs : List α) (objs : List (Addr × Obj)) (hal : (al, lstO (w0 :: ws) n) ∈ objs) (h0 : Rel objs w0 x0) (hall : All2 (Rel objs) ws xs) :
    Pure Challenge.rw_mq0172_02.row.prog w (hd.heap_39 w.params) loose mean mg mb 12 120 (.ref 44) [.ref fa, .ref al] objs (fun v made => Rel (made ++ objs) v (xs.foldl op x0)) := by
  revert hf hk
  k_fill
  intro hk hf dp u gd env outer A₀ base h₀ L m news s Q E B F N X T hef hek ho hdp hu hret
  walk_at "P enterD"
  rename (_ = grnd _ _) => G'
  k_steps
  rename Fr _ _ _ _ => F1
  rename News _ _ _ _ => N1
  rename ItAt _ _ _ => hit1
  rename (∀ _ ∈ _, _ ≠ _) => hI1
  (with_unfolding_all refine' For_invVF F1 ?k1 ?k2 ?_; (case k1 => exact rfl); (case k2 => exact rfl); k_whole)
  k_steps
  (with_unfolding_all refine red_any Rel mono op rfl F1 N1 hit1 hI1 hal rfl h0 hall ?_ ?_)
  · clear F1 N1 hit1 hI1
    intro va ve a e nw h tk oI ha he hs F2 N2 ne2
    k_steps
    refine Stop.mk ?_
    k_dflt (refine' use (hf nw va ve a e ha he) ?uB ?uF ?uN ?uX ?uT ?uf ?uk ?uo ?ud ?uu ?_; walk_at "P std"; (case uo => exact fun p hp => List.Mem.tail _ hp); walk_at "P rm"; k_whole)
    intro v9 made9 h9 tk9 hr9 F3 N3 ne3
    k_steps
    rename Fr _ _ _ _ => F4
    rename News _ _ _ _ => N4
    with_unfolding_all exact TurnR.of F4 N4 hr9 (fun p hp => Ne.symm (ne3 _ List.mem_cons_self p hp))
  · clear F1 N1 hit1 hI1
    intro v u9 nw h tk hr9 hs9 F2 N2
    k_steps
    with_unfolding_all exact leaveAll (s := s) F N ho hret G' (by assumption) (by assumption) hs9 fun made hm => mono hm hr9
end
section
/-- the walk of the top is over -/
theorem off4 : True := by
  w_top off
  trivial
local macro_rules | `(tactic| k_mem) => `(tactic| assumption)
local macro_rules | `(tactic| walk_at "binaryOp Mod int int") => `(tactic| ((with_reducible show wpAny _ _ (binaryOp _ (Value.int _ _) (Value.int 5 _)) _ _ _); with_plain (refine mod5_gen ?_); intro r' e' b1' b2'; (try dsimp only)))
local macro_rules | `(tactic| walk_at "binaryOp Pow int int") => `(tactic| (k_here; (with_reducible show wpAny _ _ (binaryOp _ _ (Value.int (1 + _ - 1) _)) _ _ _); k_dflt (refine pow2_pl (by omega) ?_); (try dsimp only)))
local macro_rules | `(tactic| walk_at "binaryOp Pow int int") => `(tactic| (k_here; (with_reducible show wpAny _ _ (binaryOp _ _ (Value.int (Nat.cast _ - 1) _)) _ _ _); k_dflt (refine pow2_len (by assumption) (by omega) ?_); (try dsimp only)))
local macro_rules | `(tactic| walk_at "binaryOp Div int int") => `(tactic| (with_plain (refine div_ii_ok rfl ?hz ?hy ?_; (case hz => assumption); (case hy => exact unit_ne _); (try dsimp only))))
local macro_rules | `(tactic| walk_at "subscriptTail") => `(tactic| (k_here; (with_unfolding_all refine' item_lit ?iN ?im ?i0 ?ib ?ix ?_ ?is; (case iN => k_asm); (case im => k_mem); (case is => with_unfolding_all rfl); (case i0 => omega); (case ib => omega); (case ix => first | assumption | with_unfolding_all rfl); k_whole)))
local macro_rules | `(tactic| walk_at "subscriptTail Name Constant ref int") => `(tactic| walk_at "subscriptTail")
local macro_rules | `(tactic| walk_at "subscriptTail Name Name ref int") => `(tactic| walk_at "subscriptTail")
local macro_rules | `(tactic| walk_at "pyIter ref") => `(tactic| ((with_reducible show wpAny _ _ (pyIter (Value.ref _)) (fun it s₂ => LoopAtV _ _ _ _ _ _ _ _ _ it s₂) _ _); k_here; refine Stop.out ?_))
local macro_rules | `(tactic| walk_at "call builtin:len") => `(tactic| (k_here; (with_reducible show wpAny _ _ (call (Value.builtin "len") [Value.ref _]) _ _ _); k_dflt (refine' len_lst ?k1 ?k2 ?k3 ?k4 ?_; (case k1 => k_asm); (case k2 => k_mem); (case k3 => assumption); (case k4 => omega); k_whole)))
theorem law_weighed_spec (w : World) (loose : List Str) (mean : ExcName → Option Value) (mg mb : Str → Option Value) (al : Addr) (n : Nat) (vs : List Value) (zs : List Int) (hi : IntsAre vs zs) (l2 : 2 ≤ zs.length) (l5 : zs.length ≤ 5) :
    Pure Challenge.rw_mq0172_02.row.prog w (hd.heap_39 w.params) loose mean mg mb 2 20 (.ref 75) [.ref al] [(al, lstO vs n)] (RetF (fr (weighI zs) (unitI zs))) := by
  have hlz := ints_list hi
  have hwf := weigh_fits zs l5
  obtain ⟨l, hl⟩ : ∃ l, vs.length = l := ⟨_, rfl⟩
  have l1 : 1 ≤ l := by omega
  have hl5 : l ≤ 5 := by omega
  have hun : unitI zs = 4 * 2 ^ (l - 1) := by rw [unitI, ← hlz, hl]
  obtain ⟨z0, t0, vr, zr, rfl, rfl⟩ : ∃ z0 t0 vr zr, vs = .int z0 t0 :: vr ∧ zs = z0 :: zr := by
    cases hi with
    | nil => simp at l2
    | cons z t h => exact ⟨_, _, _, _, rfl, rfl⟩
  clear hlz
  k_fill
  intro dp u gd env outer A₀ base h₀ L m news s Q E B F N X T hef hek ho hdp hu hret
  walk_at "P enter"
  k_steps
  refine Stop.mk ?_
  rename Fr _ _ _ _ => F1
  rename News _ _ _ _ => N1
  rename IsRange _ _ _ _ _ _ _ _ => R1
  (with_unfolding_all refine weigh_loop rfl R1 ?_ hi (by omega) l5 ?_ F1 N1 ?_ ?_)
  · rw [← hl]
  · subst_vars; simp only [List.take_succ_cons, List.take_zero, weighI, wsum, lev, Int.add_zero]
  · clear F1 N1 R1
    intro i z x u t tx h tk I it hi4 hv F2 N2
    k_steps
    rename Fr _ _ _ _ => F9
    rename News _ _ _ _ => N9
    have z9 := fun s₁ tk => WeighEnd.of (s₁ := s₁) (tk := tk) F9 (fun y h1 h2 => (if_neg h1).trans ((if_neg h2).trans (if_neg h1))) (if_pos rfl) (by subst_vars; rfl) N9 (fun p hp => hp)
    exact z9 _ _
  · clear F1 N1 R1
    intro u t h tk F2 N2
    k_steps
    rename News _ _ _ _ => N9
    refine leave (s := s) F N ho ?ha hret (by assumption) N9 [] (fun p hp => hp) (List.forall_mem_nil _) (RetF.of (fr_eq rfl ?_) (by walk_at "P nz"))
    case ha => assumption
    rw [hun]
end
section
/-- the walk of the top is over -/
theorem off5 : True := by
  w_top off
  trivial
local macro_rules | `(tactic| walk_at "exec For") => `(tactic| (k_here; (with_reducible show wpAny _ _ (exec (Stmt.For _ _ _ [] _) _) _ _ _); (rename Fr _ _ _ _ => lF'); (with_unfolding_all refine' For_W lF' ?k1 ?k2 ?_; (case k1 => exact rfl); (case k2 => exact rfl); k_whole)))
local macro_rules | `(tactic| walk_at "exec For Name Name cons nil") => `(tactic| walk_at "exec For")
local macro_rules | `(tactic| walk_at "binaryOp Mod int int") => `(tactic| ((with_reducible show wpAny _ _ (binaryOp _ (Value.int _ _) (Value.int 5 _)) _ _ _); with_plain (refine mod5_gen ?_); intro r' e' b1' b2'; (try dsimp only)))
local macro_rules | `(tactic| walk_at "binaryOp Mod int int") => `(tactic| ((with_reducible show wpAny _ _ (binaryOp _ (Value.int _ _) (Value.int 16 _)) _ _ _); with_plain (refine mod16_gen ?_); intro r' e' b1' b2'; (try dsimp only)))
local macro_rules | `(tactic| walk_at "binaryOp Mod int int") => `(tactic| ((with_reducible show wpAny _ _ (binaryOp _ (Value.int _ _) (Value.int 48 _)) _ _ _); with_plain (refine mod48_gen ?_); intro r' e' b1' b2'; (try dsimp only)))
local macro_rules | `(tactic| walk_at "call builtin:min") => `(tactic| ((with_reducible show wpAny _ _ (call _ [Value.int _ _, Value.int _ _]) _ _ _); (rename News _ _ _ _ => N'); (rename Fr _ _ _ _ => F'); with_plain (refine min2_gen rfl F' N' (by omega) (by omega) (by omega) (by omega) ?_); clear N'; intro r' _ _ _ e' b1' b2' _ _))
local macro_rules | `(tactic| k_all) => `(tactic| assumption)
local macro_rules | `(tactic| k_ne) => `(tactic| first | assumption | exact Ne.symm (by assumption))
local macro_rules | `(tactic| walk_at "CompSrc") => `(tactic| (k_here; k_dflt ((refine LCg.CompSrc.ledger (by rfl) (by k_asm) (by k_asm) (by k_mem) (by first | size_fits | exact Nat.le_of_ble_eq_true rfl) ?_; intro g'; lcg_lit))))
local macro_rules | `(tactic| walk_at "CompEnd") => `(tactic| (k_here; (rename News _ _ _ _ => N'); (with_unfolding_all refine LCg.CompEnd.intro (by k_asm) N' _ (fun _ hp => hp) (by assumption) (by lcg_src) ?_)))
theorem law_ways_spec (w : World) (loose : List Str) (mean : ExcName → Option Value) (mg mb : Str → Option Value) (al : Addr) (n : Nat) (vs : List Value) (zs : List Int) (hi : IntsAre vs zs) (hlen : zs.length ≤ 100) :
    Pure Challenge.rw_mq0172_02.row.prog w (hd.heap_39 w.params) loose mean mg mb 2 20 (.ref 80) [.ref al] [(al, lstO vs n)] (fun v made => ∃ a ws k, v = .ref a ∧ (a, lstO ws k) ∈ made ++ [(al, lstO vs n)] ∧ All2 (IsWay (made ++ [(al, lstO vs n)])) ws (waysZ zs)) := by
  k_fill
  intro dp u gd env outer A₀ base h₀ L m news s Q E B F N X T hef hek ho hdp hu hret
  walk_at "P enterC"
  rename (_ = grnd _ _) => G'
  k_steps
  rename Fr _ _ _ _ => F1
  rename News _ _ _ _ => N1
  rename (_ = Data.cell _) => hoc1
  (with_unfolding_all refine ways_loop (n := n) (vs := vs) rfl F1 N1 hoc1 (.head _) hi (by refine neN ?_; (try dsimp only); omega) (by walk_at "P off") (by walk_at "P off") ?_ ?_)
  · clear F1 N1 hoc1
    intro i z t ws k oc x nw h tk I oI hws hi' hx g1 g2 g3 n1 n2 n3 F2 N2
    k_steps
    all_goals rename Fr _ _ _ _ => F9
    all_goals rename News _ _ _ _ => N9
    · rename (_ ∧ _ ∧ _ ∧ _ ∧ LCg.Off1 _ _) => o9
      have z9 := fun s₁ tk => WaysEnd.yes (s₁ := s₁) (tk := tk) F9 N9 (by assumption) o9 (act_yes (by assumption) (by assumption) (by assumption)) (way_eq (by assumption) (by assumption) (by assumption) (by assumption)) (way_eq (by assumption) (by assumption) (by assumption) (by assumption)) (way_eq (by assumption) (by assumption) (by assumption) (by assumption))
      exact z9 _ _
    · have z9 := fun s₁ tk => WaysEnd.no (s₁ := s₁) (tk := tk) F9 N9 (by assumption) (act_no (z := z) (by assumption) (by assumption) (by assumption))
      exact z9 _ _
  · clear F1 N1 hoc1
    intro u ws k oc nw h tk hs hws F2 N2
    k_steps
    with_unfolding_all exact leaveAll (s := s) F N ho hret G' F2 N2 (fun p hp => .tail _ (.tail _ (hs p hp))) fun made hm => ⟨_, ws, k, rfl, hm _ (.head _), hws.imp fun _ _ => IsWay.mono fun q hq => hm q (.tail _ (.tail _ hq))⟩
end
section
/-- the walk of the top is over -/
theorem off6 : True := by
  w_top off
  trivial
theorem over_rel (w : World) (loose : List Str) (mean : ExcName → Option Value) (mg mb : Str → Option Value) (objs : List (Addr × Obj)) (va vb : Value) (a b : C3) (ha : IsCol objs va a) (hb : IsCol objs vb b) :
    Pure Challenge.rw_mq0172_02.row.prog w (hd.heap_39 w.params) loose mean mg mb 8 80 (.ref 61) [va, vb] objs (fun v made => IsCol (made ++ objs) v (overC a b)) := by
  obtain ⟨a1, t1, t2, t3, rfl, hm, -⟩ := ha
  obtain ⟨b1, u1, u2, u3, rfl, hn, -⟩ := hb
  refine (law_over_spec w loose mean mg mb a b a1 b1 t1 t2 t3 u1 u2 u3).weak (by decide) (by decide) (List.forall_mem_cons.mpr ⟨hm, List.forall_mem_cons.mpr ⟨hn, List.forall_mem_nil _⟩⟩) ?_
  rintro v made ⟨r, x1, x2, x3, rfl, rfl, hx⟩
  exact ⟨r, x1, x2, x3, rfl, .head _, hx⟩
theorem half_rel (w : World) (loose : List Str) (mean : ExcName → Option Value) (mg mb : Str → Option Value) (objs : List (Addr × Obj)) (va vb : Value) (a b : UInt64) (ha : IsFl objs va a) (hb : IsFl objs vb b) :
    Pure Challenge.rw_mq0172_02.row.prog w (hd.heap_39 w.params) loose mean mg mb 8 80 (.ref 56) [va, vb] objs (fun v made => IsFl (made ++ objs) v (halfF a b)) := by
  obtain ⟨t, rfl, -⟩ := ha
  obtain ⟨u, rfl, -⟩ := hb
  refine (law_half_spec w loose mean mg mb a b t u).weak (by decide) (by decide) (List.forall_mem_nil _) ?_
  rintro v made ⟨r, rfl, rfl, hr⟩
  exact ⟨r, rfl, hr⟩
local macro_rules | `(tactic| walk_at "P use") => `(tactic| (walk_at "P std"; (case uo => lcg_sub); walk_at "P rm"; k_whole; intro a' t1' t2' t3' h' tk' q' F' N' ne'; (have z1' := q'.1); (have z2' := q'.2.1); (have z3' := q'.2.2); (try simp only [AllNe, and_true] at ne'); (try dsimp only)))
local macro_rules | `(tactic| walk_at "call ref") => `(tactic| (k_here; (with_reducible show wpAny _ _ (call (Value.ref 28) _) _ _ _); k_dflt (refine' useF3 (rgb_to_hsv_spec _ _ _ _ _ _ _ _ _ _ _ (by assumption) (by walk_at "P nz") (by walk_at "P nz") (by walk_at "P nz")) ?uB ?uF ?uN ?uX ?uT ?uf ?uk ?uo ?ud ?uu ?_; walk_at "P use")))
local macro_rules | `(tactic| walk_at "call ref") => `(tactic| (k_here; (with_reducible show wpAny _ _ (call (Value.ref 21) _) _ _ _); k_dflt (refine' useF3 (rgb_to_hls_spec _ _ _ _ _ _ _ _ _ _ _ (by assumption)) ?uB ?uF ?uN ?uX ?uT ?uf ?uk ?uo ?ud ?uu ?_; walk_at "P use")))
local macro_rules | `(tactic| walk_at "call ref") => `(tactic| (k_here; (with_reducible show wpAny _ _ (call (Value.ref 35) _) _ _ _); k_dflt (refine' useF3 (hsv_to_rgb_spec _ _ _ _ _ _ _ _ _ _ _ (by assumption) (by walk_at "P nz")) ?uB ?uF ?uN ?uX ?uT ?uf ?uk ?uo ?ud ?uu ?_; walk_at "P use")))
local macro_rules | `(tactic| walk_at "call ref") => `(tactic| (k_here; (with_reducible show wpAny _ _ (call (Value.ref 56) [Value.float _ _, Value.float _ _]) _ _ _); k_dflt (refine' useF (law_half_spec _ _ _ _ _ _ _ _ _) ?uB ?uF ?uN ?uX ?uT ?uf ?uk ?uo ?ud ?uu ?_; walk_at "P std"; (case uo => exact List.forall_mem_nil _); walk_at "P rm"; k_whole; intro t' h' tk' z' F' N'; (try dsimp only))))
local macro_rules | `(tactic| walk_at "call ref") => `(tactic| (k_here; (with_reducible show wpAny _ _ (call (Value.ref 68) _) _ _ _); k_dflt (refine' useF2 (law_ends_spec _ _ _ _ _ _ _ _ _ _ ?o1 ?o2 ?z1 ?z2 ?z3) ?uB ?uF ?uN ?uX ?uT ?uf ?uk ?uo ?ud ?uu ?_; walk_at "P std"; (case o1 => assumption); (case o2 => assumption); (case uo => lcg_sub); (case z1 => assumption); (case z2 => assumption); (case z3 => assumption); walk_at "P rm"; k_whole; intro a' t1' t2' h' tk' q' F' N' ne'; (have z1' := q'.1); (have z2' := q'.2); (try simp only [AllNe, and_true] at ne'); (try dsimp only))))
local macro_rules | `(tactic| walk_at "call ref") => `(tactic| (k_here; (with_reducible show wpAny _ _ (call (Value.ref 75) _) _ _ _); k_dflt (refine' useF (law_weighed_spec _ _ _ _ _ _ _ _ _ ?hi ?h2 ?h5) ?uB ?uF ?uN ?uX ?uT ?uf ?uk ?uo ?ud ?uu ?_; walk_at "P std"; (case hi => assumption); (case h2 => assumption); (case h5 => assumption); (case uo => lcg_sub); walk_at "P rm"; k_whole; intro t' h' tk' z' F' N'; (try dsimp only))))
local macro_rules | `(tactic| k_mem) => `(tactic| assumption)
local macro_rules | `(tactic| k_all) => `(tactic| assumption)
local macro_rules | `(tactic| k_ne) => `(tactic| first | assumption | exact Ne.symm (by assumption))
local macro_rules | `(tactic| walk_at "eval ListComp") => `(tactic| (k_here; k_dflt (refine ListComp_W (F₀ := by k_asm) (by with_unfolding_all rfl) (by decide) (by rfl) (by decide) (by rfl) ?_)))
local macro_rules | `(tactic| walk_at "call ref") => `(tactic| (k_here; (with_reducible show wpAny _ _ (call (Value.ref 44) _) _ _ _); refine Stop.out ?_))
local macro_rules | `(tactic| walk_at "call ref") => `(tactic| (k_here; (with_reducible show wpAny _ _ (call (Value.ref 80) _) _ _ _); refine Stop.out ?_))
local macro_rules | `(tactic| walk_at "P useR") => `(tactic| (walk_at "P std"; walk_at "P rm"))
local macro_rules | `(tactic| walk_at "exec Assign cons ListComp") => `(tactic| (k_here; k_dflt (refine Assign_ListComp_TC 3 (F₀ := by k_asm) (by rfl) (by with_unfolding_all rfl) (by with_unfolding_all rfl) (fun _ => rfl) (fun _ => rfl) (by rfl) (by decide) (by rfl) (by rfl) (by rfl) (by decide) (by rfl) (by rw [sizeLine_eq]; decide) ?_)))
local macro_rules | `(tactic| walk_at "eval ListComp") => `(tactic| (k_here; (with_reducible show wpAny _ _ (eval (Expr.ListComp _ _ _ _) (compEnvC _ _ _ _)) _ _ _); k_dflt (refine ListComp_TW (F₀ := by k_asm) (by with_unfolding_all rfl) (by decide) (by rfl) (by decide) (by rfl) ?_)))
local macro_rules | `(tactic| walk_at "subscriptTail Name Name ref int") => `(tactic| (k_here; (with_unfolding_all refine' item_lit ?iN ?im ?i0 ?ib ?ix ?_ ?is; (case iN => k_asm); (case im => k_mem); (case is => with_unfolding_all rfl); (case ix => assumption); (case i0 => omega); (case ib => omega); k_whole)))
local macro_rules | `(tactic| walk_at "compareOp Eq ref ref") => `(tactic| (k_here; k_dflt (refine' eq_nil ?eN ?el ?eb ?eu ?_; (case eN => k_asm); (case el => k_mem); (case eb => k_mem); (case eu => ke_room); k_whole)))
local macro_rules | `(tactic| walk_at "compareOp NotEq ref ref") => `(tactic| (k_here; k_dflt (refine' ne_nil ?eN ?el ?eb ?eu ?_; (case eN => k_asm); (case el => k_mem); (case eb => k_mem); (case eu => ke_room); k_whole)))
theorem law_right_spec (w : World) (loose : List Str) (mean : ExcName → Option Value) (mg mb : Str → Option Value) (an al ae : Addr) (k1 k2 k3 : Nat) (vs : List Value) (zs : List Int) (hi : IntsAre vs zs) (l2 : 2 ≤ zs.length) (l5 : zs.length ≤ 5)
    (lv : Value) (ls : List Value) (c0 : C3) (cs : List C3) (ev : Value) (es : List Value) (d0 : E2) (ds : List E2) (objs : List (Addr × Obj)) (han : (an, lstO vs k1) ∈ objs) (hal : (al, lstO (lv :: ls) k2) ∈ objs) (hae : (ae, lstO (ev :: es) k3) ∈ objs)
    (hl : All2 (IsCol objs) (lv :: ls) (c0 :: cs)) (he : All2 (IsEnd objs) (ev :: es) (d0 :: ds)) (hes : es.length ≤ 100) (R : RightOk zs (cs.foldl overC c0) ((ds.map (·.1)).foldl halfF d0.1) ((ds.map (·.2)).foldl halfF d0.2)) :
    Pure Challenge.rw_mq0172_02.row.prog w (hd.heap_39 w.params) loose mean mg mb 20 300 (.ref 85) [.ref an, .ref al, .ref ae] objs (fun v _ => v = .bool true) := by
  k_fill
  intro dp u gd env outer A₀ base h₀ L m news s Q E B F N X T hef hek ho hdp hu hret
  obtain ⟨P, hP⟩ : ∃ P, P = cs.foldl overC c0 := ⟨_, rfl⟩
  obtain ⟨V, hV⟩ : ∃ V, V = (ds.map (·.1)).foldl halfF d0.1 := ⟨_, rfl⟩
  obtain ⟨W, hW⟩ : ∃ W, W = (ds.map (·.2)).foldl halfF d0.2 := ⟨_, rfl⟩
  rw [← hP, ← hV, ← hW] at R
  obtain ⟨R1, R2, R3, R4, R5, R6, R7⟩ := R
  have hl0 : IsCol objs lv c0 := by cases hl; assumption
  have hl1 : All2 (IsCol objs) ls cs := by cases hl; assumption
  have he0 : IsEnd objs ev d0 := by cases he; assumption
  have he1 : All2 (IsEnd objs) es ds := by cases he; assumption
  walk_at "P enterC"
  rename (_ = grnd _ _) => G'
  rename (∀ _ ∈ _, _ < _) => hlt
  k_steps
  refine Stop.mk ?_
  k_dflt (refine' use (reduce_spec IsCol IsCol.mono overC w loose mean mg mb 61 ?hk (over_rel w loose mean mg mb) al lv ls k2 c0 cs objs hal hl0 hl1) ?uB ?uF ?uN ?uX ?uT ?uf ?uk ?uo ?ud ?uu ?_; (case hk => k_is); walk_at "P useR"; (case uo => exact fun p hp => List.Mem.tail _ hp); k_whole)
  intro v1 made1 h1 tk1 hr1 F1 N1 ne1
  rw [← hP] at hr1
  obtain ⟨a1, t1, t2, t3, rfl, hm1, ⟨z1, z2, z3⟩⟩ := hr1
  obtain ⟨b1, hb1, N2⟩ := News_mid N1
  have s1 : ∀ p ∈ objs, p ∈ b1 := fun p hp => hb1 ▸ List.mem_append_right _ hp
  have n1 : ∀ p ∈ b1, @Ne Nat p.1 _ := hb1 ▸ app_ne (fun p hp => Ne.symm (ne1 _ (List.mem_cons_self ..) p hp)) (fun p hp => Nat.ne_of_lt (Nat.lt_succ_of_lt (hlt p hp)))
  rw [← hb1] at hm1
  clear N1 ne1 hb1
  k_steps
  rename Fr _ _ _ _ => F3
  rename News _ _ _ _ => N3
  rename (_ ≠ _ ∧ AllNe _ _) => ne3
  have nA := Ne.symm ne3.1
  clear ne3
  have heb := ends_mono he s1
  refine comp_pick IsFl ((d0 :: ds).map (·.1)) (by rw [he.length, List.length_map]) (by rw [List.length_cons]; omega) rfl F3 N3 (.tail _ (.tail _ (s1 _ hae))) ?_ ?_
  · clear F3 N3
    intro i v b I oI C oC D m₂ h tk E' ys hv hb hC' hx' F4 N4 off4 ne4
    obtain ⟨d, rfl, aE, t4, t5, rfl, hm4, z4, z5⟩ := ends_fst _ heb hv hb
    k_steps
    rename Fr _ _ _ _ => F9
    rename News _ _ _ _ => N9
    with_unfolding_all exact PickEnd.of F9 N9 ⟨_, rfl, z4⟩
  clear F3 N3
  intro ys g hys
  obtain ⟨y0, yr, rfl, hy0, hy1⟩ := fl_cons hys
  intro D5 h5 tk5 F5 N5 off5
  have nD := Ne.symm off5.2.1
  k_steps
  refine Stop.mk ?_
  k_dflt (refine' use (reduce_spec IsFl IsFl.mono halfF w loose mean mg mb 56 ?hk (half_rel w loose mean mg mb) D5 y0 yr _ d0.1 (ds.map (·.1)) [(D5, lstO (y0 :: yr) (y0 :: yr).length)] (.head _) (hy0 _) (hy1 _)) ?uB ?uF ?uN ?uX ?uT ?uf ?uk ?uo ?ud ?uu ?_; (case hk => k_is); walk_at "P useR"; (case uo => exact List.forall_mem_cons.mpr ⟨.head _, List.forall_mem_nil _⟩); k_whole)
  intro v6 made6 h6 tk6 hr6 F6 N6 ne6
  rw [← hV] at hr6
  obtain ⟨tV, rfl, zV⟩ := hr6
  obtain ⟨b2, hb2, N7⟩ := News_mid3 N6
  have s2 : ∀ p ∈ objs, p ∈ b2 := fun p hp => hb2 ▸ List.mem_append_right _ (.tail _ (.tail _ (s1 p hp)))
  have n2 : ∀ p ∈ b2, @Ne Nat p.1 _ := hb2 ▸ app_ne (fun p hp => Ne.symm (ne6 _ (.tail _ (.tail _ (.head _))) p hp)) (cons_ne' nD (cons_ne' nA n1))
  clear N6 ne6 hb2 nD nA off5 hy0 hy1 hys heb n1 s1 F5 N5 hm1
  k_steps
  rename Fr _ _ _ _ => F3
  rename News _ _ _ _ => N3
  have heb := ends_mono he s2
  refine comp_pick IsFl ((d0 :: ds).map (·.2)) (by rw [he.length, List.length_map]) (by rw [List.length_cons]; omega) rfl F3 N3 (.tail _ (s2 _ hae)) ?_ ?_
  · clear F3 N3
    intro i v b I oI C oC D m₂ h tk E' ys hv hb hC' hx' F4 N4 off4 ne4
    obtain ⟨d, rfl, aE, t4, t5, rfl, hm4, z4, z5⟩ := ends_fst _ heb hv hb
    k_steps
    rename Fr _ _ _ _ => F9
    rename News _ _ _ _ => N9
    with_unfolding_all exact PickEnd.of F9 N9 ⟨_, rfl, z5⟩
  clear F3 N3
  intro ys g hys
  obtain ⟨y0, yr, rfl, hy0, hy1⟩ := fl_cons hys
  intro D5 h5 tk5 F5 N5 off5
  have nD := Ne.symm off5.1
  k_steps
  refine Stop.mk ?_
  k_dflt (refine' use (reduce_spec IsFl IsFl.mono halfF w loose mean mg mb 56 ?hk (half_rel w loose mean mg mb) D5 y0 yr _ d0.2 (ds.map (·.2)) [(D5, lstO (y0 :: yr) (y0 :: yr).length)] (.head _) (hy0 _) (hy1 _)) ?uB ?uF ?uN ?uX ?uT ?uf ?uk ?uo ?ud ?uu ?_; (case hk => k_is); walk_at "P useR"; (case uo => exact List.forall_mem_cons.mpr ⟨.head _, List.forall_mem_nil _⟩); k_whole)
  intro v6 made6 h6 tk6 hr6 F6 N6 ne6
  rw [← hW] at hr6
  obtain ⟨tW, rfl, zW⟩ := hr6
  obtain ⟨b3, hb3, N7⟩ := News_mid2 N6
  have s3 : ∀ p ∈ objs, p ∈ b3 := fun p hp => hb3 ▸ List.mem_append_right _ (.tail _ (s2 p hp))
  have n3 : ∀ p ∈ b3, @Ne Nat p.1 _ := hb3 ▸ app_ne (fun p hp => Ne.symm (ne6 _ (.tail _ (.head _)) p hp)) (cons_ne' nD n2)
  clear N6 ne6 hb3 nD off5 hy0 hy1 hys heb n2 s2 F5 N5
  have han3 := s3 _ han
  have R3' : (Float64.cmp V (fr (weighI zs) (unitI zs)) != some Ordering.eq) = false := by rw [bne, R3]; rfl
  k_steps
  refine Stop.mk ?_
  k_dflt (refine' use (law_ways_spec w loose mean mg mb an k1 vs zs hi (by omega)) ?uB ?uF ?uN ?uX ?uT ?uf ?uk ?uo ?ud ?uu ?_; walk_at "P useR"; (case uo => exact List.forall_mem_cons.mpr ⟨.tail _ han3, List.forall_mem_nil _⟩); k_whole)
  rintro v8 made8 h8 tk8 ⟨aw, ws, kw, rfl, haw, hws⟩ F8 N8 ne8
  obtain ⟨b4, hb4, N9⟩ := News_mid N8
  have s4 : ∀ p ∈ made8 ++ [(an, lstO vs k1)], p ∈ b4 := fun p hp => by
    rw [hb4]
    rcases List.mem_append.mp hp with hp | hp
    · exact List.mem_append_left _ hp
    · rw [List.mem_singleton.mp hp]; exact List.mem_append_right _ han3
  have s5 : ∀ p ∈ objs, p ∈ b4 := fun p hp => hb4 ▸ List.mem_append_right _ (s3 p hp)
  have n4 : ∀ p ∈ b4, @Ne Nat p.1 _ := hb4 ▸ app_ne (fun p hp => Ne.symm (ne8 _ (.head _) p hp)) n3
  replace haw := s4 _ haw
  replace hws := hws.imp fun _ _ => IsWay.mono s4
  clear N8 ne8 hb4 n3 s3 s4 han3
  dsimp only at n4
  k_steps
  rename IsRange _ _ _ _ _ _ _ _ => hr9
  rename Fr _ _ _ _ => F10
  rename News _ _ _ _ => N10
  have hlw : ws.length ≤ 5 := by rw [hws.length]; exact Nat.le_trans (List.length_filter_le _ _) l5
  refine ⟨_, _, _, _, _, rfl, rfl, F10, N10, hr9, fun g9 => ⟨InvO (fun c => (waysZ zs).all fun z => decide (wayI z (16 * (c : Int)) ≤ 8)) _, ⟨rfl, rfl⟩, ?_, ?_⟩⟩
  · clear F10 N10 hr9
    rintro i v I oI C oC K oK D m₂ h tk E' ys nw hi3 ⟨tv, rfl⟩ ⟨rfl, hys⟩ hC hKd F11 N11 off11 ne11
    k_steps
    refine LCt.CompSrcT.ledger (its := ws.toArray) (k := kw) rfl F11 N11 (.tail _ (.tail _ (.tail _ (.tail _ (.tail _ haw))))) (by rw [sizeLine_eq, List.size_toArray]; exact Nat.le_trans hlw (Nat.le_of_ble_eq_true rfl)) ?_
    intro g12
    refine rest_invTW (n := ws.toArray.size) (InvI ((waysZ zs).map fun z => decide (wayI z (16 * (i : Int)) ≤ 8)) _) ?_ ?_ _ 0 [] _ (Nat.zero_add _) ⟨rfl, rfl⟩
    · clear F11 N11
      rintro j v I2 oI2 C2 oC2 D2 m2 h tk E2 ys2 nw hj hP ⟨rfl, hy2⟩ hC2 hx2 F12 N12 off12 ne12
      obtain ⟨z, hz, aW, kW, t0, t1, t2, rfl, hmW⟩ := hws.get (show ws[j]? = some v by simpa using hP)
      obtain ⟨tq, hat⟩ := way_at (t0 := t0) (t1 := t1) (t2 := t2) (z := z) hi3 rfl rfl rfl
      k_steps
      · exact CompEndW.of F12 N12 _ (fun p hp => hp) off12 (Or.inr ⟨_, .tail _ (.tail _ (.tail _ (.tail _ (.tail _ haw)))), rfl, _, rfl⟩) (InvI.yes (test_at hz (decide_eq_false (by omega))))
      · exact CompEndW.of F12 N12 _ (fun p hp => hp) off12 (Or.inr ⟨_, .tail _ (.tail _ (.tail _ (.tail _ (.tail _ haw)))), rfl, _, rfl⟩) (InvI.no hy2 (test_at hz (decide_eq_true (by omega))))
    · clear F11 N11
      intro ys2 nw hI2
      have hy2 := InvI.all (by rw [List.size_toArray]; exact hws.length) hI2
      obtain ⟨rfl, -⟩ := hI2
      intro D3 h3 tk3 F13 N13 off13
      k_steps
      all_goals rename Fr _ _ _ _ => F15
      all_goals rename News _ _ _ _ => N15
      · exact TEnd.of F15 N15 (fun p hp => .tail _ (.tail _ hp)) off11 (InvO.yes (hy2.symm.trans (by assumption)))
      · exact TEnd.of F15 N15 (fun p hp => .tail _ (.tail _ hp)) off11 (InvO.no hys (hy2.symm.trans (by assumption)))
  clear F10 N10 hr9
  rintro nys nw ⟨rfl, hnear⟩
  intro Dn hn tkn F14 N14 off14
  k_steps
  rename IsRange _ _ _ _ _ _ _ _ => hr9
  rename Fr _ _ _ _ => F10
  rename News _ _ _ _ => N10
  refine ⟨_, _, _, _, _, rfl, rfl, F10, N10, hr9, fun g9 => ⟨InvO (fun c => (waysZ zs).all fun z => decide (16 ≤ wayI z (16 * (c : Int)))) _, ⟨rfl, rfl⟩, ?_, ?_⟩⟩
  · clear F10 N10 hr9
    rintro i v I oI C oC K oK D m₂ h tk E' ys nw hi3 ⟨tv, rfl⟩ ⟨rfl, hys⟩ hC hKd F11 N11 off11 ne11
    k_steps
    refine LCt.CompSrcT.ledger (its := ws.toArray) (k := kw) rfl F11 N11 (.tail _ (.tail _ (.tail _ (.tail _ (.tail _ (.tail _ haw)))))) (by rw [sizeLine_eq, List.size_toArray]; exact Nat.le_trans hlw (Nat.le_of_ble_eq_true rfl)) ?_
    intro g12
    refine rest_invTW (n := ws.toArray.size) (InvI ((waysZ zs).map fun z => decide (16 ≤ wayI z (16 * (i : Int)))) _) ?_ ?_ _ 0 [] _ (Nat.zero_add _) ⟨rfl, rfl⟩
    · clear F11 N11
      rintro j v I2 oI2 C2 oC2 D2 m2 h tk E2 ys2 nw hj hP ⟨rfl, hy2⟩ hC2 hx2 F12 N12 off12 ne12
      obtain ⟨z, hz, aW, kW, t0, t1, t2, rfl, hmW⟩ := hws.get (show ws[j]? = some v by simpa using hP)
      obtain ⟨tq, hat⟩ := way_at (t0 := t0) (t1 := t1) (t2 := t2) (z := z) hi3 rfl rfl rfl
      k_steps
      · exact CompEndW.of F12 N12 _ (fun p hp => hp) off12 (Or.inr ⟨_, .tail _ (.tail _ (.tail _ (.tail _ (.tail _ (.tail _ haw))))), rfl, _, rfl⟩) (InvI.yes (test_at hz (decide_eq_false (by omega))))
      · exact CompEndW.of F12 N12 _ (fun p hp => hp) off12 (Or.inr ⟨_, .tail _ (.tail _ (.tail _ (.tail _ (.tail _ (.tail _ haw))))), rfl, _, rfl⟩) (InvI.no hy2 (test_at hz (decide_eq_true (by omega))))
    · clear F11 N11
      intro ys2 nw hI2
      have hy2 := InvI.all (by rw [List.size_toArray]; exact hws.length) hI2
      obtain ⟨rfl, -⟩ := hI2
      intro D3 h3 tk3 F13 N13 off13
      k_steps
      all_goals rename Fr _ _ _ _ => F15
      all_goals rename News _ _ _ _ => N15
      · exact TEnd.of F15 N15 (fun p hp => .tail _ (.tail _ hp)) off11 (InvO.yes (hy2.symm.trans (by assumption)))
      · exact TEnd.of F15 N15 (fun p hp => .tail _ (.tail _ hp)) off11 (InvO.no hys (hy2.symm.trans (by assumption)))
  clear F10 N10 hr9
  rintro fys nw ⟨rfl, hfar⟩
  intro Df hf tkf F16 N16 off16
  have e1 : ((Float64.cmp (endsF P).1 V == some Ordering.eq) == !nys.isEmpty) = true := by
    rw [R6, hnear]
    show (nearB zs == !!(nearB zs)) = true
    rw [Bool.not_not]; exact beq_self_eq_true _
  have e2 : ((Float64.cmp (endsF P).2 W == some Ordering.eq) == !fys.isEmpty) = true := by
    rw [R7, hfar]
    show (farB zs == !!(farB zs)) = true
    rw [Bool.not_not]; exact beq_self_eq_true _
  k_steps
  rename Fr _ _ _ _ => F17
  rename News _ _ _ _ => N17
  with_unfolding_all exact leaveAll (s := s) F N ho hret G' F17 N17 (fun p hp => .tail _ (.tail _ (.tail _ (.tail _ (.tail _ (s5 p hp)))))) fun made hm => congrArg Value.bool e2
end
section
/-- the walk of the top is over -/
theorem off7 : True := by
  w_top off
  trivial
local macro_rules | `(tactic| walk_at "P none") => `(tactic| fail)
theorem right_run (w : World) (loose : List Str) (mean : ExcName → Option Value) (mg mb : Str → Option Value) (nw : List (Addr × Obj)) (vs : List Value) (z0 : Int) (zr : List Int) (hi : IntsAre vs (z0 :: zr)) (h1 : 1 ≤ zr.length) (h4 : zr.length ≤ 4)
    (lv ev : Value) (ls es : List Value) (hl : All2 (IsCol nw) (lv :: ls) ((z0 :: zr).map layC)) (he : All2 (IsEnd nw) (ev :: es) ((z0 :: zr).map endC)) (an al ae : Addr) (k1 k2 k3 : Nat) :
    Pure Challenge.rw_mq0172_02.row.prog w (hd.heap_39 w.params) loose mean mg mb 20 300 (.ref 85) [.ref an, .ref al, .ref ae] ((an, lstO vs k1) :: (al, lstO (lv :: ls) k2) :: (ae, lstO (ev :: es) k3) :: nw) (fun v _ => v = .bool true) := by
  have he' := he.length
  simp only [List.length_cons, List.map_cons, List.length_map] at he'
  exact law_right_spec w loose mean mg mb an al ae k1 k2 k3 vs (z0 :: zr) hi (by rw [List.length_cons]; omega) (by rw [List.length_cons]; omega) lv ls (layC z0) (zr.map layC) ev es (endC z0) (zr.map endC) _ (.head _) (.tail _ (.head _)) (.tail _ (.tail _ (.head _)))
    (cols_mono' hl fun p hp => .tail _ (.tail _ (.tail _ hp))) (ends_mono he fun p hp => .tail _ (.tail _ (.tail _ hp))) (by omega) (right_ok z0 zr h4)
theorem use_right (w : World) {loose : List Str} {mean : ExcName → Option Value} {mg mb : Str → Option Value} {nw : List (Addr × Obj)} {vs : List Value} {lv ev : Value} {ls es : List Value} {an al ae : Addr} {k1 k2 k3 : Nat}
    {dp u : Nat} {gd : Option (List Code)} {env : Env} {outer : List Env} {A₀ : Around} {base h₀ : Heap} {L : Addr} {m : Str → Option Value} {news : List (Addr × Obj)} {s : Shared} {Q E : Value → Shared → Prop}
    (hA : (an, lstO vs k1) ∈ news) (hB : (al, lstO (lv :: ls) k2) ∈ news) (hC : (ae, lstO (ev :: es) k3) ∈ news) (hr : RunAt nw vs lv ls ev es) (hn : ∀ p ∈ nw, p ∈ news)
    (B : Below A₀ base outer h₀) (F : Fr h₀ L s.heap m) (N : News h₀ L s.heap news) (X : (hd.heap_39 w.params).In h₀) (T : Top topProg loose mean mg mb h₀) (hf : env.frame = some L) (hk : env.scope.kind = .function) (hd : dp + 20 < recursionLimit) (hu : u + 300 < cLine)
    (ret : ∀ h' tk, Fr h₀ L h' m → News h₀ L h' news → Q (.bool true) { s with heap := h', toks := tk }) :
    wpAny (model Challenge.rw_mq0172_02.row.prog w) (ar dp u gd (env :: outer)) (call (.ref 85) [.ref an, .ref al, .ref ae]) Q E s := by
  obtain ⟨z0, zr, hi, h1, h4, hl, he⟩ := hr
  exact useT (right_run w loose mean mg mb nw vs z0 zr hi h1 h4 lv ev ls es hl he an al ae k1 k2 k3) B F N X T hf hk (List.forall_mem_cons.mpr ⟨hA, List.forall_mem_cons.mpr ⟨hB, List.forall_mem_cons.mpr ⟨hC, hn⟩⟩⟩) hd hu ret
local macro_rules | `(tactic| walk_at "P room") => `(tactic| first | ((try simp only [depth_mark, depth_under_make, depth_under_kw, depth_in1, depth_deeper, depth_caller]); decide) | omega)
local macro_rules | `(tactic| k_room) => `(tactic| walk_at "P room")
local macro_rules | `(tactic| k_mem) => `(tactic| assumption)
local macro_rules | `(tactic| k_all) => `(tactic| assumption)
local macro_rules | `(tactic| k_ne) => `(tactic| first | assumption | exact Ne.symm (by assumption))
local macro_rules | `(tactic| walk_at "call ref") => `(tactic| (k_here; (with_reducible show wpAny _ _ (call (Value.ref 49) _) _ _ _); k_dflt (refine' law_numbers_spec _ _ _ _ _ _ _ _ ?ai ?al ?an _ _ _ _ _ _ _ _ _ _ _ _ _ _ ?uB ?uF ?uN ?uX ?uT ?ul ?uf ?uk ?ud ?uu (Stop.out ?_); (case uB => k_asm); (case uF => k_asm); (case uN => k_asm); (case uX => k_asm); (case uT => k_asm); (case ul => assumption); (case ai => assumption); (case al => assumption); (case an => omega); (case uf => exact rfl); (case uk => exact rfl); (case ud => walk_at "P room"); (case uu => exact Nat.le_of_ble_eq_true rfl); k_whole)))
local macro_rules | `(tactic| walk_at "exec For Name Name cons nil") => `(tactic| (k_here; (with_reducible show wpAny _ _ (exec (Stmt.For _ _ _ [] _) _) _ _ _); (rename Fr _ _ _ _ => lF'); (with_unfolding_all refine' For_W lF' ?k1 ?k2 ?_; (case k1 => exact rfl); (case k2 => exact rfl); k_whole)))
local macro_rules | `(tactic| walk_at "binaryOp Mod int int") => `(tactic| ((with_reducible show wpAny _ _ (binaryOp _ (Value.int _ _) (Value.int 16 _)) _ _ _); with_plain (refine mod16_hue ?_); (try dsimp only)))
local macro_rules | `(tactic| walk_at "binaryOp Mod int int") => `(tactic| ((with_reducible show wpAny _ _ (binaryOp _ (Value.int (Int.fdiv _ 16) _) (Value.int 5 _)) _ _ _); with_plain (refine mod5_shr ?_); (try dsimp only)))
local macro_rules | `(tactic| walk_at "binaryOp Mod int int") => `(tactic| ((with_reducible show wpAny _ _ (binaryOp _ (Value.int (Int.fdiv _ 80) _) (Value.int 5 _)) _ _ _); with_plain (refine mod5_lev ?_); (try dsimp only)))
local macro_rules | `(tactic| walk_at "call ref") => `(tactic| (k_here; (with_reducible show wpAny _ _ (call (Value.ref 35) _) _ _ _); k_dflt (refine' useF3 (hsv_to_rgb_spec _ _ _ _ _ _ _ _ _ _ _ ?o1 ?o2) ?uB ?uF ?uN ?uX ?uT ?uf ?uk ?uo ?ud ?uu ?_; (case o1 => assumption); (case o2 => walk_at "P nz"); walk_at "P std"; (case uo => exact List.forall_mem_nil _); (case ud => walk_at "P room"); (case uu => exact Nat.le_of_ble_eq_true rfl); k_whole; intro a' t1' t2' t3' h' tk' q' F' N' ne'; (have z1' := q'.1); (have z2' := q'.2.1); (have z3' := q'.2.2); (try simp only [AllNe, and_true] at ne'); (try dsimp only))))
local macro_rules | `(tactic| walk_at "call ref") => `(tactic| (k_here; (with_reducible show wpAny _ _ (call (Value.ref 68) _) _ _ _); k_dflt (refine' useF2 (law_ends_spec _ _ _ _ _ _ _ _ _ _ ?o1 ?o2 ?z1 ?z2 ?z3) ?uB ?uF ?uN ?uX ?uT ?uf ?uk ?uo ?ud ?uu ?_; walk_at "P std"; (case o1 => assumption); (case o2 => assumption); (case uo => lcg_sub); (case z1 => assumption); (case z2 => assumption); (case z3 => assumption); (case ud => walk_at "P room"); (case uu => exact Nat.le_of_ble_eq_true rfl); k_whole; intro a' t1' t2' h' tk' q' F' N' ne'; (have z1' := q'.1); (have z2' := q'.2); (try simp only [AllNe, and_true] at ne'); (try dsimp only))))
local macro_rules | `(tactic| walk_at "subscriptTail Name UnaryOp ref int") => `(tactic| (k_here; (with_reducible show wpAny _ _ (subscriptTail _ _ (Value.ref _) (Value.int _ _)) _ _ _); refine Stop.out ?_))
local macro_rules | `(tactic| walk_at "compareOp NotEq ref ref") => `(tactic| (k_here; (with_reducible show wpAny _ _ (compareOp _ (Value.ref _) (Value.ref _)) _ _ _); refine Stop.out ?_))
local macro_rules | `(tactic| walk_at "call ref") => `(tactic| (k_here; (with_reducible show wpAny _ _ (call (Value.ref 85) _) _ _ _); refine Stop.out ?_))
local macro_rules | `(tactic| walk_at "P tails") => `(tactic| first | assumption | (refine List.Mem.tail _ ?_; walk_at "P tails"))
local macro_rules | `(tactic| walk_at "subscriptTail Name Slice ref ref") => `(tactic| (k_here; k_dflt (refine' slice_pick ?F ?N ?l ?e ?z ?_ ?s ?t; (case F => k_asm); (case N => k_asm); (case l => k_mem); (case e => assumption); (case z => exact Nat.le_of_ble_eq_true rfl); (case s => with_unfolding_all rfl); (case t => kmk_pure)); intro D' h' F' N' l1; (try k_lt l1)))
local macro_rules | `(tactic| walk_at "pyIter ref") => `(tactic| ((with_reducible show wpAny _ _ (pyIter (Value.ref _)) (fun it s₂ => LoopAtV _ _ _ _ _ _ _ _ _ it s₂) _ _); k_here; refine Stop.out ?_))
local macro_rules | `(tactic| walk_at "call ref") => `(tactic| (k_here; (with_reducible show wpAny _ _ (call (Value.ref 85) [Value.ref _, Value.ref _, Value.ref _]) _ _ _); k_dflt (refine' use_right _ ?hA ?hB ?hC ?hr ?hn ?uB ?uF ?uN ?uX ?uT ?uf ?uk ?ud ?uu ?_; (case uN => k_asm); (case uB => k_asm); (case uF => k_asm); (case hA => k_mem); (case hB => k_mem); (case hC => k_mem); (case hr => assumption); (case hn => (intro q9' hq9'; walk_at "P tails")); (case uX => k_asm); (case uT => k_asm); (case uf => exact rfl); (case uk => exact rfl); (case ud => walk_at "P room"); (case uu => exact Nat.le_of_ble_eq_true rfl); k_whole; intro h' tk' F' N'; (try dsimp only))))
local macro_rules | `(tactic| walk_at "call type:range") => `(tactic| (k_here; (rename Fr _ _ _ _ => F'); (rename News _ _ _ _ => N'); (with_unfolding_all first | (refine range1_rows F' N' ?_) | (refine range2_rows F' N' ?_)); intro _ _ _ _ _ _ _ _ _))
theorem law_walk : Challenge.rw_mq0172_02.Holds := by
  refine hd ?_
  k_go0
  rename Top _ _ _ _ _ _ => TT
  have TP := top_plain TT
  k_steps
  refine Stop.mk ?_
  rintro v made h' tk ⟨an, ys, kn, rfl, rfl, hl1, hi1⟩ F1 N1 ne1
  obtain ⟨z0, t0, z1, t1, z2, t2, z3, t3, z4, t4, rfl⟩ := ints5 hl1 hi1
  clear hl1 hi1
  simp only [List.cons_append, List.nil_append] at N1
  k_steps
  rename Fr _ _ _ _ => F2
  rename News _ _ _ _ => N2
  have hi5 : IntsAre [Value.int z0 t0, Value.int z1 t1, Value.int z2 t2, Value.int z3 t3, Value.int z4 t4] [z0, z1, z2, z3, z4] := .cons _ _ (.cons _ _ (.cons _ _ (.cons _ _ (.cons _ _ .nil))))
  rename Frag.In _ _ => XK
  (with_unfolding_all refine lay_loop (n := kn) (zs := [z0, z1, z2, z3, z4]) rfl F2 N2 (.head _) hi5 (by refine neN ?_; (try dsimp only); omega) (by walk_at "P off") (by walk_at "P off") ?_ ?_)
  · clear F2 N2
    intro i z t ls es k1 k2 u nw h tk I oI hl1 hl2 hi' g1 g2 g3 n1 n2 n3 F3 N3
    obtain ⟨lo1, lo2, lo3, -, -⟩ := lay_ok z
    unfold layC at lo2 lo3
    obtain ⟨lt1, lt2⟩ := lay_told z
    have b1 := hue_bd z
    have b2 := shr_bd z
    have b3 := lev_bd z
    have b4 : 0 ≤ lev z * (4 - shr z) ∧ lev z * (4 - shr z) ≤ 16 := ⟨Int.mul_nonneg b3.1 (by omega), Int.le_trans (Int.mul_le_mul (show lev z ≤ 4 by omega) (show 4 - shr z ≤ 4 by omega) (by omega) (by decide)) (by decide)⟩
    k_steps
    refine Stop.mk ?_
    rename News _ _ _ _ => N4
    simp only [List.push_toArray] at N4
    with_unfolding_all refine last_item N4 (by k_mem) ?_
    k_steps
    refine Stop.mk ?_
    rename News _ _ _ _ => N5
    simp only [List.push_toArray] at N5
    with_unfolding_all refine last_item N5 (by k_mem) ?_
    k_steps
    refine Stop.mk ?_
    rename Fr _ _ _ _ => F6
    rename News _ _ _ _ => N6
    have NB := noneBooked (XK.keeps F6.keep) (by k_is)
    refine ne_t2 N6 (by k_mem) (by k_mem) ?hu (eqAt_float NB (by assumption) (by walk_at "P nz") lt1) (eqAt_float NB (by assumption) (by walk_at "P nz") lt2) ?_
    case hu => exact Nat.le_of_ble_eq_true rfl
    k_steps
    rename Tk3 _ _ _ => q9
    rename (_ ≠ 0 ∧ _ ≠ 0) => q8
    rename (_ ≠ _ ∧ _ ≠ _ ∧ _ ≠ _ ∧ _ ≠ _ ∧ _ ≠ _ ∧ AllNe _ _) => nb9
    rename (_ ≠ _ ∧ _ ≠ _ ∧ _ ≠ _ ∧ _ ≠ _ ∧ AllNe _ _) => na9
    have z9 := fun s₁ tk => LayEnd.of (z := z) (s₁ := s₁) (tk := tk) F6 (fun y h1 h2 h3 => (if_neg h2).trans ((if_neg h3).trans ((if_neg h1).trans ((if_neg h2).trans (if_neg h3))))) N6 q9 q8 na9 nb9
    exact z9 _ _
  clear F2 N2
  intro u ls es k1 k2 nw h tk hs g1 g2 hls hes F7 N7
  have han := hs _ (List.Mem.head _)
  clear hs g1 g2
  obtain ⟨l0, l1, l2, l3, l4, rfl, c0, c1, c2, c3, c4⟩ := all2_five hls
  obtain ⟨e0, e1, e2, e3, e4, rfl, d0, d1, d2, d3, d4⟩ := all2_five hes
  clear hls hes hi5
  have r02 : RunAt nw [Value.int z0 t0, Value.int z1 t1] l0 [l1] e0 [e1] := run2 c0 c1 d0 d1
  have r03 : RunAt nw [Value.int z0 t0, Value.int z1 t1, Value.int z2 t2] l0 [l1, l2] e0 [e1, e2] := run3 c0 c1 c2 d0 d1 d2
  have r04 : RunAt nw [Value.int z0 t0, Value.int z1 t1, Value.int z2 t2, Value.int z3 t3] l0 [l1, l2, l3] e0 [e1, e2, e3] := run4 c0 c1 c2 c3 d0 d1 d2 d3
  have r05 : RunAt nw [Value.int z0 t0, Value.int z1 t1, Value.int z2 t2, Value.int z3 t3, Value.int z4 t4] l0 [l1, l2, l3, l4] e0 [e1, e2, e3, e4] := run5 c0 c1 c2 c3 c4 d0 d1 d2 d3 d4
  have r13 : RunAt nw [Value.int z1 t1, Value.int z2 t2] l1 [l2] e1 [e2] := run2 c1 c2 d1 d2
  have r14 : RunAt nw [Value.int z1 t1, Value.int z2 t2, Value.int z3 t3] l1 [l2, l3] e1 [e2, e3] := run3 c1 c2 c3 d1 d2 d3
  have r15 : RunAt nw [Value.int z1 t1, Value.int z2 t2, Value.int z3 t3, Value.int z4 t4] l1 [l2, l3, l4] e1 [e2, e3, e4] := run4 c1 c2 c3 c4 d1 d2 d3 d4
  have r24 : RunAt nw [Value.int z2 t2, Value.int z3 t3] l2 [l3] e2 [e3] := run2 c2 c3 d2 d3
  have r25 : RunAt nw [Value.int z2 t2, Value.int z3 t3, Value.int z4 t4] l2 [l3, l4] e2 [e3, e4] := run3 c2 c3 c4 d2 d3 d4
  have r35 : RunAt nw [Value.int z3 t3, Value.int z4 t4] l3 [l4] e3 [e4] := run2 c3 c4 d3 d4
  clear c0 c1 c2 c3 c4 d0 d1 d2 d3 d4
  have RP := run_pick r02 r03 r04 r05 r13 r14 r15 r24 r25 r35
  clear r02 r03 r04 r05 r13 r14 r15 r24 r25 r35
  k_steps
  refine Stop.mk ?_
  rename Fr _ _ _ _ => F1
  rename News _ _ _ _ => N1
  rename IsRange _ _ _ _ _ _ _ _ => R1
  (with_unfolding_all refine begin_loop rfl R1 F1 N1 ?_ ?_)
  · clear F1 N1 R1
    intro b t u h tk I it hb0 hb5 F2 N2
    k_steps
    refine Stop.mk ?_
    rename Fr _ _ _ _ => F3
    rename News _ _ _ _ => N3
    rename IsRange _ _ _ _ _ _ _ _ => R3
    (with_unfolding_all refine behind_loop rfl R3 hb0 hb5 rfl F3 N3 ?_ ?_)
    · clear F3 N3 R3
      intro e t' h tk I' it' he0 he5 F4 N4
      obtain ⟨lv, ls, ev, es, pl, pe, pr⟩ := RP b e hb0 he0 he5
      obtain ⟨vs', pv⟩ := (⟨_, rfl⟩ : ∃ vs', kms_pick [Value.int z0 t0, Value.int z1 t1, Value.int z2 t2, Value.int z3 t3, Value.int z4 t4] (some b) (some e) = vs')
      rw [pv] at pr
      k_steps
      rename Fr _ _ _ _ => F9
      rename News _ _ _ _ => N9
      have z9 := fun s₁ tk => SameEnd.of (s₁ := s₁) (tk := tk) F9 N9 (fun p hp => .tail _ (.tail _ (.tail _ hp)))
      exact z9 _ _
    · clear F3 N3 R3
      intro u h tk F5 N5
      k_steps
      rename Fr _ _ _ _ => F9
      rename News _ _ _ _ => N9
      have z9 := fun s₁ tk => RunsEnd.of (s₁ := s₁) (tk := tk) F9 (fun y h1 h2 => (if_neg h2).trans (if_neg h1)) N9 (fun p hp => hp)
      exact z9 _ _
  · clear F1 N1 R1
    intro u h tk F6 N6
    k_steps
end
end Mine
end
theorem PySem.Challenge.cw_mq0172_02_holds : PySem.Challenge.rw_mq0172_02.Holds := by
  exact Mine.law_walk
