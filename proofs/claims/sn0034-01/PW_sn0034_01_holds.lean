import PyProof.Rows.All
import Wide.All
import OpenK.AllK
import Wide.FinOn
import PySem.Challenge.RW_sn0034_01
open PySem PySem.W PyProof.Rows PySem.Calls
set_option Elab.async false
set_option maxRecDepth 100000 in
set_option maxHeartbeats 8000000 in
open_top hd for PySem.Challenge.rw_sn0034_01
namespace Mine
theorem walk_plain : True := by
  w_top off
  trivial
end Mine
local macro_rules | `(tactic| walk_at $s:str) => `(tactic| k_extra $s)
section Part_P1
namespace Mine
structure Cx (w : World) (mean : ExcName → Option Value) (mg mb : Str → Option Value) (cs : Scope) (outer : List Env) (A₀ : Around) (base h₀ : Heap) (L : Addr) (m : Str → Option Value) (s : Shared) (news : List (Addr × Obj)) : Prop where
  B : Below A₀ base outer h₀
  F : Fr h₀ L s.heap m
  X : (hd.heap_39 w.params).In h₀
  N : News h₀ L s.heap news
  T : Top topProg ((looseW hd.view_39 [Str.ofString "ONE_THIRD", Str.ofString "ONE_SIXTH", Str.ofString "TWO_THIRD", Str.ofString "_twin_re_1", Str.ofString "_twin_re_2"]) ++ (recsOf hd.view_39).map (·.name) ++ (litsOf hd.view_39).map (·.1) ++ (clssOf hd.view_39 (looseW hd.view_39 [Str.ofString "ONE_THIRD", Str.ofString "ONE_SIXTH", Str.ofString "TWO_THIRD", Str.ofString "_twin_re_1", Str.ofString "_twin_re_2"])).map (·.name)) mean mg mb h₀
  k : cs.kind = .function
theorem kf (w : World) (h : Heap) : (hd.heap_39 w.params).In h → PySem.Challenge.rw_sn0034_01.row.prog = PySem.Challenge.rw_sn0034_01.row.prog → True := by
  k_fill
  intros
  trivial

/-! max, min of three floats -/
def gtF (x y : UInt64) : Bool := Float64.cmp x y == some Ordering.gt
def ltF (x y : UInt64) : Bool := Float64.cmp x y == some Ordering.lt
def bestF (bt : UInt64 → UInt64 → Bool) (a b c : UInt64) : UInt64 := if bt b a then (if bt c b then c else b) else (if bt c a then c else a)
def fItems (a b c : UInt64) (t u x : Tok) : Array Value := #[.float a t, .float b u, .float c x]
def fAt (a b c : UInt64) (i : Nat) : UInt64 := match i with | 0 => a | 1 => b | _ => c
theorem fItems_at {a b c : UInt64} {t u x : Tok} {i : Nat} {v : Value} (h : (fItems a b c t u x)[i]? = some v) : ∃ k, v = .float (fAt a b c i) k := by
  match i, h with
  | 0, h => exact ⟨t, (Option.some.inj h).symm⟩
  | 1, h => exact ⟨u, (Option.some.inj h).symm⟩
  | 2, h => exact ⟨x, (Option.some.inj h).symm⟩
  | n + 3, h => simp [fItems] at h
theorem best_pick {a b c : UInt64} {t u x : Tok} {v : Value} (bt : UInt64 → UInt64 → Bool) (h : (fItems a b c t u x)[argBest (fun i j => bt (fAt a b c i) (fAt a b c j)) 2]? = some v) : ∃ k, v = .float (bestF bt a b c) k := by
  obtain ⟨k, rfl⟩ := fItems_at h
  refine ⟨k, ?_⟩
  by_cases p : bt b a <;> by_cases q : bt c b <;> by_cases r : bt c a <;> simp [argBest, fAt, bestF, p, q, r]
section
variable {prog : Program} {w : World} {A : Around} {E : Value → Shared → Prop} {s : Shared} {a b c : UInt64} {t u x : Tok} {Q : Value → Shared → Prop}
theorem cmpOf_gt {P : Nat → Value → Prop} (f : Nat → UInt64) (hP : ∀ i v, P i v → ∃ k, v = .float (f i) k) : CmpOf prog w A .Gt P (fun i j => gtF (f i) (f j)) := fun i j vi vj s Q E hi hj h => by
  obtain ⟨k, rfl⟩ := hP i vi hi
  obtain ⟨l, rfl⟩ := hP j vj hj
  exact richCompare_gives (op := .Gt) (AutoFloatOps.typeIs_float s _ k) (AutoFloatOps.typeIs_float s _ l) F.slot_float_gt F.entry_float_gt (F.args_float_gt_2 _ _) (AutoFloatG4.float___gt___float_float_0 _ k _ l) (fun z => nomatch z) h
theorem cmpOf_lt {P : Nat → Value → Prop} (f : Nat → UInt64) (hP : ∀ i v, P i v → ∃ k, v = .float (f i) k) : CmpOf prog w A .Lt P (fun i j => ltF (f i) (f j)) := fun i j vi vj s Q E hi hj h => by
  obtain ⟨k, rfl⟩ := hP i vi hi
  obtain ⟨l, rfl⟩ := hP j vj hj
  exact richCompare_gives (op := .Lt) (AutoFloatOps.typeIs_float s _ k) (AutoFloatOps.typeIs_float s _ l) F.slot_float_lt F.entry_float_lt (F.args_float_lt_2 _ _) (AutoFloatG5.float___lt___float_float_0 _ k _ l) (fun z => nomatch z) h

theorem size3 {h : Heap} {o : Obj} : ∀ d ∈ [(h.push o).objs.size, h.objs.size], d < ((h.push o).push { cls := .type "tuple_iterator", data := .fields #[.ref h.objs.size, .int 0 0] }).objs.size := by
  intro d hd
  simp only [Heap.size_push] at *
  rcases List.mem_cons.mp hd with rfl | hd
  · omega
  · rcases List.mem_cons.mp hd with rfl | hd
    · omega
    · cases hd
theorem old3 {h h' : Heap} {o p : Obj} (hk : ∀ b x, b ∉ [(h.push o).objs.size] → ((h.push o).push p).get? b = some x → h'.get? b = some x) : ∀ b x, h.get? b = some x → h'.get? b = some x := fun b x e => by
  refine hk b x (fun hm => ?_) (Heap.get?_push_of_some _ (Heap.get?_push_of_some _ e))
  have := Heap.lt_size e
  rw [List.mem_singleton.mp hm, Heap.size_push] at this
  exact Nat.lt_irrefl _ (Nat.lt_of_succ_lt this)
theorem max3F {Q : Value → Shared → Prop} (hh : A.handled = none) (h : ∀ k h' tk, (∀ d o, s.heap.get? d = some o → h'.get? d = some o) → Q (.float (bestF gtF a b c) k) { s with heap := h', toks := tk }) :
    wpAny (model prog w) A (call (.builtin "max") [.float a t, .float b u, .float c x]) Q E s := by
  have hT : (s.heap.push { cls := .type "tuple", data := .seq #[.float a t, .float b u, .float c x] }).IsTuple s.heap.objs.size (fItems a b c t u x) := ⟨_, Heap.get?_push_size _ rfl, rfl, 0, rfl⟩
  refine call_max_three (wpAny_pyIter_tuple hT ?_)
  refine ⟨_, [_, s.heap.objs.size], [_], _, _, _, _, rfl, Walks.tuple (A := A.in1) hh _ s.heap.objs.size (by rw [Heap.size_push]; exact Nat.ne_of_lt (Nat.lt_succ_self _)) (fItems a b c t u x), ⟨⟨_, Heap.get?_push_size _ rfl, rfl, rfl⟩, hT.push _⟩, size3, by simp [fItems], cmpOf_gt (fAt a b c) (fun _ _ => fItems_at), fun v h' tk hP hk => ?_⟩
  obtain ⟨k, rfl⟩ := best_pick gtF hP
  exact h k h' tk (old3 hk)
theorem min3F {Q : Value → Shared → Prop} (hh : A.handled = none) (h : ∀ k h' tk, (∀ d o, s.heap.get? d = some o → h'.get? d = some o) → Q (.float (bestF ltF a b c) k) { s with heap := h', toks := tk }) :
    wpAny (model prog w) A (call (.builtin "min") [.float a t, .float b u, .float c x]) Q E s := by
  have hT : (s.heap.push { cls := .type "tuple", data := .seq #[.float a t, .float b u, .float c x] }).IsTuple s.heap.objs.size (fItems a b c t u x) := ⟨_, Heap.get?_push_size _ rfl, rfl, 0, rfl⟩
  refine call_min_three (wpAny_pyIter_tuple hT ?_)
  refine ⟨_, [_, s.heap.objs.size], [_], _, _, _, _, rfl, Walks.tuple (A := A.in1) hh _ s.heap.objs.size (by rw [Heap.size_push]; exact Nat.ne_of_lt (Nat.lt_succ_self _)) (fItems a b c t u x), ⟨⟨_, Heap.get?_push_size _ rfl, rfl, rfl⟩, hT.push _⟩, size3, by simp [fItems], cmpOf_lt (fAt a b c) (fun _ _ => fItems_at), fun v h' tk hP hk => ?_⟩
  obtain ⟨k, rfl⟩ := best_pick ltF hP
  exact h k h' tk (old3 hk)
theorem max3N {h₀ : Heap} {L : Addr} {m : Str → Option Value} {news : List (Addr × Obj)} {Q : Value → Shared → Prop} (hh : A.handled = none) (F : Fr h₀ L s.heap m) (N : News h₀ L s.heap news) (h : ∀ k h' tk, Fr h₀ L h' m → News h₀ L h' news → Q (.float (bestF gtF a b c) k) { s with heap := h', toks := tk }) :
    wpAny (model prog w) A (call (.builtin "max") [.float a t, .float b u, .float c x]) Q E s := max3F hh fun k h' tk hk => h k h' tk (F.grownK hk) (N.grown hk)
theorem min3N {h₀ : Heap} {L : Addr} {m : Str → Option Value} {news : List (Addr × Obj)} {Q : Value → Shared → Prop} (hh : A.handled = none) (F : Fr h₀ L s.heap m) (N : News h₀ L s.heap news) (h : ∀ k h' tk, Fr h₀ L h' m → News h₀ L h' news → Q (.float (bestF ltF a b c) k) { s with heap := h', toks := tk }) :
    wpAny (model prog w) A (call (.builtin "min") [.float a t, .float b u, .float c x]) Q E s := min3F hh fun k h' tk hk => h k h' tk (F.grownK hk) (N.grown hk)
end
end Mine
end Part_P1
section Part_P1b
set_option maxRecDepth 100000
namespace Mine
def Done (R : Result → Shared → Prop) (v : Value) (s' : Shared) : Prop := R (.ok (.ret v)) s'
/-- a call of a def of the text: the whole heap of the call is the new base, the ledger starts empty -/
theorem enter_ {w : World} {mean : ExcName → Option Value} {mg mb : Str → Option Value} {cs : Scope} {outer : List Env} {A₀ A : Around} {base h₀ : Heap} {L : Addr} {m : Str → Option Value} {s : Shared} {news : List (Addr × Obj)}
    {cn : Str} {a : Addr} {ccd : Value} {cl : List (Str × Addr)} {R : Result → Shared → Prop} {name qual : Str} {params : Arguments} {body : List Stmt} {scope : Scope} {dV kV doc pm cdv ct oc : Value} {an od : Option Addr} {osl : Array (Option Value)} {f : Addr} {args : Args} {binds : List (Str × Value)} {prog : Program}
    (C : Cx w mean mg mb cs outer A₀ base h₀ L m s news) (hA : A.frames = some (envX cn cs L a ccd cl :: outer))
    (ho : (hd.heap_39 w.params).lookup f = some ⟨oc, od, .func (fnOf name qual params body scope dV kV doc pm an cdv ct), osl⟩) (hcd : codeIn (hd.heap_39 w.params) cdv qual = true) (hroom : A.depth < recursionLimit)
    (hbind : BindsTo s (fnOf name qual params body scope dV kV doc pm an cdv ct) args binds) (hloc : ∀ y ∈ binds, scope.names.lookup y.1 = some .local)
    (h : ∀ g L' h₁ tk, g = s.heap → 1 ≤ tk → Fr g L' h₁ (fun y => binds.reverse.lookup y) → News g L' h₁ [] → Below A base (envX cn cs L a ccd cl :: outer) g → (hd.heap_39 w.params).In g →
      Top topProg ((looseW hd.view_39 [Str.ofString "ONE_THIRD", Str.ofString "ONE_SIXTH", Str.ofString "TWO_THIRD", Str.ofString "_twin_re_1", Str.ofString "_twin_re_2"]) ++ (recsOf hd.view_39).map (·.name) ++ (litsOf hd.view_39).map (·.1) ++ (clssOf hd.view_39 (looseW hd.view_39 [Str.ofString "ONE_THIRD", Str.ofString "ONE_SIXTH", Str.ofString "TWO_THIRD", Str.ofString "_twin_re_1", Str.ofString "_twin_re_2"])).map (·.name)) mean mg mb g →
      wpAny (model prog w) (A.deeper (envOf qual scope L' f cdv)) (execs body (envOf qual scope L' f cdv))
        (fun fl s' => Done R (match fl with | .ret v => v | _ => .none) s')
        (fun e s' => wpAny (model prog w) (A.deeper (envOf qual scope L' f cdv)) (leaving (envOf qual scope L' f cdv) e) (fun _ s'' => R (.error e) s'') (fun e' s'' => R (.error e') s'') s')
        { s with heap := h₁, toks := tk })
    (hco : scope.isCoroutine = false := by rfl) (hgen : scope.isGenerator = false := by rfl) (hk : scope.kind = .function := by rfl)
    (hcell : ∀ x ∈ scope.names, x.2 ≠ .cell := by decide) (hne : binds.isEmpty = false := by rfl) : codeAny (model prog w) A (.call (.ref f) args) R s := by
  have X := C.X.keeps C.F.keep
  have B₁ := pushX (env := envX cn cs L a ccd cl) C.B C.F rfl C.k
  refine codeAny_call_def (fd := fnOf name qual params body scope dV kV doc pm an cdv ct) (body := body) (binds := binds) hroom (X _ _ ho) rfl (C.T.nolimit.keeps C.F.keep) (codeRec_of X hcd) rfl hbind hcell hloc (fun h₁ hns hk₁ => ?_) hco hgen hk
  exact h s.heap s.heap.objs.size h₁ _ rfl (Nat.le_trans (List.length_pos_iff.mpr (by intro e; rw [e] at hne; cases hne)) (Nat.le_add_left _ _)) ⟨hns, fun b o e => hk₁ b o e, Nat.le_refl _⟩ News.nil ⟨hA, B₁.stays, B₁.frames⟩ X (C.T.keeps C.F.keep)
theorem back_ {h₀ g h' : Heap} {L L' : Addr} {m m' : Str → Option Value} {news news' : List (Addr × Obj)} (F : Fr h₀ L g m) (N : News h₀ L g news) (F' : Fr g L' h' m') (N' : News g L' h' news') :
    Fr h₀ L h' m ∧ News h₀ L h' (news' ++ news) := by
  refine ⟨F.grownK F'.keep, fun p hp => ?_⟩
  rcases List.mem_append.mp hp with hp | hp
  · obtain ⟨h1, _, h3⟩ := N' p hp
    obtain ⟨oL, _, _, hL, _⟩ := F.ns
    refine ⟨h1, fun q => ?_, ?_⟩
    · rw [q, hL] at h3; cases h3
    · cases q : h₀.get? p.1 with
      | none => rfl
      | some o => rw [F.keep _ _ q] at h3; cases h3
  · exact ⟨F'.keep _ _ (N p hp).1, (N p hp).2⟩
structure Own (h₀ : Heap) (L : Addr) (g : Heap) (m : Str → Option Value) (news : List (Addr × Obj)) : Prop where
  F : Fr h₀ L g m
  N : News h₀ L g news
theorem own_of {w : World} {mean : ExcName → Option Value} {mg mb : Str → Option Value} {cs : Scope} {outer : List Env} {A₀ : Around} {base h₀ g : Heap} {L : Addr} {m : Str → Option Value} {s : Shared} {news : List (Addr × Obj)}
    (C : Cx w mean mg mb cs outer A₀ base h₀ L m s news) (e : g = s.heap) : Own h₀ L g m news := by
  subst e
  exact ⟨C.F, C.N⟩
theorem Own.back {h₀ g h' : Heap} {L L' : Addr} {m m' : Str → Option Value} {news news' : List (Addr × Obj)} (O : Own h₀ L g m news) (F' : Fr g L' h' m') (N' : News g L' h' news') :
    Fr h₀ L h' m ∧ News h₀ L h' news ∧ News h₀ L h' (news' ++ news) :=
  have b := back_ O.F O.N F' N'
  ⟨b.1, fun p hp => b.2 p (List.mem_append_right _ hp), b.2⟩
theorem apart_ {h₀ g h' : Heap} {L L' D : Addr} {o : Obj} {news news' : List (Addr × Obj)} (N : News h₀ L g news) (N' : News g L' h' news') (hm : (D, o) ∈ news') : ∀ p ∈ news, p.1 ≠ D := fun p hp q => by
  have := (N' _ hm).2.2
  have h2 := (N p hp).1
  rw [q] at h2
  rw [h2] at this
  cases this
end Mine
end Part_P1b
section Part_P2
namespace Mine
theorem kf2 (w : World) (h : Heap) : (hd.heap_39 w.params).In h → PySem.Challenge.rw_sn0034_01.row.prog = PySem.Challenge.rw_sn0034_01.row.prog → True := by
  k_fill
  intros
  trivial
theorem rules_P2 : True := by
  k_with_none
  k_with "call builtin:max" => (k_here; (with_reducible show wpAny _ _ (call (Value.builtin _) [Value.float _ _, Value.float _ _, Value.float _ _]) _ _ _); (refine' max3N ?k0 ?k1 ?k2 ?_; (case k0 => with_unfolding_all rfl); (case k1 => k_asm); (case k2 => k_asm); k_whole); intro k'k h'k t'k F'k N'k)
  k_with "call builtin:min" => (k_here; (with_reducible show wpAny _ _ (call (Value.builtin _) [Value.float _ _, Value.float _ _, Value.float _ _]) _ _ _); (refine' min3N ?k0 ?k1 ?k2 ?_; (case k0 => with_unfolding_all rfl); (case k1 => k_asm); (case k2 => k_asm); k_whole); intro k'k h'k t'k F'k N'k)
  trivial
def eqF (x y : UInt64) : Bool := Float64.cmp x y == some Ordering.eq
def leF (x y : UInt64) : Bool := Float64.cmp x y == some Ordering.lt || Float64.cmp x y == some Ordering.eq
def vF (m1 m2 hue : UInt64) : UInt64 :=
  let hue := (Float64.divmod hue 4607182418800017408).snd
  if ltF hue 4595172819793696085 then Float64.add m1 (Float64.mul (Float64.mul (Float64.sub m2 m1) hue) 4618441417868443648)
  else if ltF hue 4602678819172646912 then m2
  else if ltF hue 4604180019048437077 then Float64.add m1 (Float64.mul (Float64.mul (Float64.sub m2 m1) (Float64.sub 4604180019048437077 hue)) 4618441417868443648)
  else m1
def rgbF (r g b : UInt64) : UInt64 × UInt64 × UInt64 :=
  let maxc := bestF gtF r g b
  let minc := bestF ltF r g b
  let sumc := Float64.add maxc minc
  let rangec := Float64.sub maxc minc
  let l := Float64.div sumc 4611686018427387904
  if eqF minc maxc then (0, l, 0) else
  let s := if leF l 4602678819172646912 then Float64.div rangec sumc else Float64.div rangec (Float64.sub (Float64.sub 4611686018427387904 maxc) minc)
  let rc := Float64.div (Float64.sub maxc r) rangec
  let gc := Float64.div (Float64.sub maxc g) rangec
  let bc := Float64.div (Float64.sub maxc b) rangec
  let h := if eqF r maxc then Float64.sub bc gc else if eqF g maxc then Float64.sub (Float64.add 4611686018427387904 rc) bc else Float64.sub (Float64.add 4616189618054758400 gc) rc
  ((Float64.divmod (Float64.div h 4618441417868443648) 4607182418800017408).snd, l, s)
def rgbOk (r g b : UInt64) : Bool :=
  let maxc := bestF gtF r g b
  let minc := bestF ltF r g b
  let sumc := Float64.add maxc minc
  let rangec := Float64.sub maxc minc
  let l := Float64.div sumc 4611686018427387904
  eqF minc maxc || ((if leF l 4602678819172646912 then !Float64.isZero sumc else !Float64.isZero (Float64.sub (Float64.sub 4611686018427387904 maxc) minc)) && !Float64.isZero rangec)
abbrev tup3 (x y z : Value) : Obj := { cls := .type "tuple", data := .seq #[x, y, z] }
variable {w : World} {mean : ExcName → Option Value} {mg mb : Str → Option Value} {dp un : Nat} {gd : Option (List Code)} {cn : Str} {cs : Scope} {a : Addr} {ccd : Value} {cl : List (Str × Addr)} {outer : List Env} {A₀ : Around} {base h₀ : Heap} {L : Addr} {m : Str → Option Value} {s : Shared} {Q E : Value → Shared → Prop} {news : List (Addr × Obj)}
set_option maxRecDepth 100000 in
set_option maxHeartbeats 8000000 in
theorem v_ok (C : Cx w mean mg mb cs outer A₀ base h₀ L m s news) (hdp : dp + 1 < recursionLimit) (hun : un + 8 < cLine) (m1 m2 hu : UInt64) (t1 t2 t3 : Tok)
  (hret : ∀ x t h' tk', x = vF m1 m2 hu → Fr h₀ L h' m → News h₀ L h' news → Q (.float x t) {s with heap := h', toks := tk'}) :
  wpAny (model PySem.Challenge.rw_sn0034_01.row.prog w) (ktrTop dp un gd cn cs L a ccd cl outer) (call (.ref 94) [.float m1 t1, .float m2 t2, .float hu t3]) Q E s := by
  obtain ⟨hB, hF, hX, hN, hT, hk⟩ := C
  refine wpAny_call ?_
  k_dflt cell_enter
  k_steps
  all_goals (refine' hret _ _ _ _ ?e (by assumption) (by assumption); (case e => simp only [vF, ltF, *]; first | done | rfl))
set_option maxRecDepth 100000 in
set_option maxHeartbeats 8000000 in
theorem rgb_ok (C : Cx w mean mg mb cs outer A₀ base h₀ L m s news) (hdp : dp + 1 < recursionLimit) (hun : un + 8 < cLine) (r g b : UInt64) (t1 t2 t3 : Tok) (hok : rgbOk r g b = true)
  (hret : ∀ x y z D t1 t2 t3 h' tk', (x, y, z) = rgbF r g b → Fr h₀ L h' m → News h₀ L h' ((D, tup3 (.float x t1) (.float y t2) (.float z t3)) :: news) → (∀ p ∈ news, p.1 < D) → Q (.ref D) {s with heap := h', toks := tk'}) :
  wpAny (model PySem.Challenge.rw_sn0034_01.row.prog w) (ktrTop dp un gd cn cs L a ccd cl outer) (call (.ref 80) [.float r t1, .float g t2, .float b t3]) Q E s := by
  obtain ⟨hB, hF, hX, hN, hT, hk⟩ := C
  refine wpAny_call ?_
  k_dflt cell_enter
  k_steps
  all_goals first
    | (refine' hret _ _ _ _ _ _ _ _ _ ?e (by assumption) (by assumption) (by assumption); (case e => simp only [rgbF, eqF, leF, *]; first | done | rfl))
    | (exfalso; simp [rgbOk, eqF, leF, *] at hok; done)
    | skip
end Mine
end Part_P2
section Part_P3
namespace Mine
theorem kf3 (w : World) (h : Heap) : (hd.heap_39 w.params).In h → PySem.Challenge.rw_sn0034_01.row.prog = PySem.Challenge.rw_sn0034_01.row.prog → True := by
  k_fill
  intros
  trivial
theorem rules_P3 : True := by
  k_with_none
  k_with "call ref" => (k_here; (with_reducible show wpAny _ _ (call (Value.ref 94) _) _ _ _); (refine' v_ok ⟨?k1, ?k2, ?k3, ?k4, ?k5, ?k6⟩ ?k7 ?k8 _ _ _ _ _ _ ?_; (case k1 => k_asm); (case k2 => k_asm); (case k3 => k_asm); (case k4 => k_asm); (case k5 => k_asm); (case k6 => rfl); (case k7 => ktr_room); (case k8 => ktr_units); k_whole); intro x'k t'k h'k tk'k e'k F'k N'k)
  trivial
def hlsF (h l s : UInt64) : UInt64 × UInt64 × UInt64 :=
  if eqF s 0 then (l, l, l) else
  let m2 := if leF l 4602678819172646912 then Float64.mul l (Float64.add 4607182418800017408 s) else Float64.sub (Float64.add l s) (Float64.mul l s)
  let m1 := Float64.sub (Float64.mul 4611686018427387904 l) m2
  (vF m1 m2 (Float64.add h 4599676419421066581), vF m1 m2 h, vF m1 m2 (Float64.sub h 4599676419421066581))
variable {w : World} {mean : ExcName → Option Value} {mg mb : Str → Option Value} {dp un : Nat} {gd : Option (List Code)} {cn : Str} {cs : Scope} {a : Addr} {ccd : Value} {cl : List (Str × Addr)} {outer : List Env} {A₀ : Around} {base h₀ : Heap} {L : Addr} {m : Str → Option Value} {s : Shared} {Q E : Value → Shared → Prop} {news : List (Addr × Obj)}
set_option maxRecDepth 100000 in
set_option maxHeartbeats 8000000 in
theorem hls_ok (C : Cx w mean mg mb cs outer A₀ base h₀ L m s news) (hdp : dp + 2 < recursionLimit) (hun : un + 16 < cLine) (r g b : UInt64) (t1 t2 t3 : Tok)
  (hret : ∀ x y z D t1 t2 t3 h' tk', (x, y, z) = hlsF r g b → Fr h₀ L h' m → News h₀ L h' ((D, tup3 (.float x t1) (.float y t2) (.float z t3)) :: news) → (∀ p ∈ news, p.1 < D) → Q (.ref D) {s with heap := h', toks := tk'}) :
  wpAny (model PySem.Challenge.rw_sn0034_01.row.prog w) (ktrTop dp un gd cn cs L a ccd cl outer) (call (.ref 87) [.float r t1, .float g t2, .float b t3]) Q E s := by
  obtain ⟨hB, hF, hX, hN, hT, hk⟩ := C
  refine wpAny_call ?_
  k_dflt cell_enter
  k_steps
  all_goals first
    | (refine' hret _ _ _ _ _ _ _ _ _ ?e (by assumption) (by assumption) (by assumption); (case e => simp only [hlsF, eqF, leF, *]; first | done | rfl))
    | skip
end Mine
end Part_P3
section Part_P4
namespace Mine
theorem kf4 (w : World) (h : Heap) : (hd.heap_39 w.params).In h → PySem.Challenge.rw_sn0034_01.row.prog = PySem.Challenge.rw_sn0034_01.row.prog → True := by
  k_fill
  intros
  trivial
theorem rules_P4 : True := by
  k_with_none
  k_with "call ref" => (k_here; (with_reducible show wpAny _ _ (call (Value.ref 80) _) _ _ _); (refine' rgb_ok ⟨?k1, ?k2, ?k3, ?k4, ?k5, ?k6⟩ ?k7 ?k8 _ _ _ _ _ _ ?k9 ?_; (case k1 => k_asm); (case k2 => k_asm); (case k3 => k_asm); (case k4 => k_asm); (case k5 => k_asm); (case k6 => rfl); (case k7 => ktr_room); (case k8 => ktr_units); (case k9 => assumption); k_whole); intro x'k y'k z'k D'k t1'k t2'k t3'k h'k tk'k e'k F'k N'k l'k)
  k_with "call ref" => (k_here; (with_reducible show wpAny _ _ (call (Value.ref 87) _) _ _ _); (refine' hls_ok ⟨?k1, ?k2, ?k3, ?k4, ?k5, ?k6⟩ ?k7 ?k8 _ _ _ _ _ _ ?_; (case k1 => k_asm); (case k2 => k_asm); (case k3 => k_asm); (case k4 => k_asm); (case k5 => k_asm); (case k6 => rfl); (case k7 => ktr_room); (case k8 => ktr_units); k_whole); intro x'k y'k z'k D'k t1'k t2'k t3'k h'k tk'k e'k F'k N'k l'k)
  trivial
def fr (n d : Int) : UInt64 := Float64.ofFrac (decide (n < 0) != decide (d < 0)) n.natAbs d.natAbs
def back (x : UInt64) (a : Int) : UInt64 := Float64.mul (Float64.mul x (Float64.ofInt 2)) (Float64.ofInt a)
def negIn (i j k a b c : Int) : UInt64 × UInt64 × UInt64 := rgbF (fr (2 * i + 1) (2 * a)) (fr (2 * j + 1) (2 * b)) (fr (2 * k + 1) (2 * c))
def negOut (p : UInt64 × UInt64 × UInt64) : UInt64 × UInt64 × UInt64 := hlsF (Float64.add p.1 4602678819172646912) (Float64.sub 4607182418800017408 p.2.1) p.2.2
def tame (x : UInt64) : Bool := !Float64.isNaN x && !Float64.isInf x
def negOk (i j k a b c : Int) : Bool := rgbOk (fr (2 * i + 1) (2 * a)) (fr (2 * j + 1) (2 * b)) (fr (2 * k + 1) (2 * c)) &&
  (let q := negOut (negIn i j k a b c); tame (back q.1 a) && tame (back q.2.1 b) && tame (back q.2.2 c))
def negF (i j k a b c : Int) : Int :=
  let q := negOut (negIn i j k a b c)
  ((Int.fdiv (Flt.toInt Float64.nearestOf (back q.1 a) - 1) 2 * b + Int.fdiv (Flt.toInt Float64.nearestOf (back q.2.1 b) - 1) 2) * c + Int.fdiv (Flt.toInt Float64.nearestOf (back q.2.2 c) - 1) 2)
theorem neg_parts {i j k a b c : Int} {x y z x' y' z' : UInt64} (h : negOk i j k a b c = true) (e : (x, y, z) = rgbF (fr (2 * i + 1) (2 * a)) (fr (2 * j + 1) (2 * b)) (fr (2 * k + 1) (2 * c)))
    (e' : (x', y', z') = hlsF (Float64.add x 4602678819172646912) (Float64.sub 4607182418800017408 y) z) : tame (back x' a) = true ∧ tame (back y' b) = true ∧ tame (back z' c) = true ∧
    ((Int.fdiv (Flt.toInt Float64.nearestOf (back x' a) - 1) 2 * b + Int.fdiv (Flt.toInt Float64.nearestOf (back y' b) - 1) 2) * c + Int.fdiv (Flt.toInt Float64.nearestOf (back z' c) - 1) 2) = negF i j k a b c := by
  have e1 : negOut (negIn i j k a b c) = (x', y', z') := by unfold negIn negOut; rw [← e]; exact e'.symm
  unfold negOk at h
  unfold negF
  rw [e1] at h ⊢
  simp only [Bool.and_eq_true] at h
  exact ⟨h.2.1.1, h.2.1.2, h.2.2, rfl⟩
theorem no_nan {x : UInt64} (h : tame x = true) (n : Float64.isNaN x = true) : False := by simp [tame, n] at h
theorem no_inf {x : UInt64} (h : tame x = true) (n : Float64.isInf x = true) : False := by simp [tame, n] at h
variable {w : World} {mean : ExcName → Option Value} {mg mb : Str → Option Value} {dp un : Nat} {gd : Option (List Code)} {cn : Str} {cs : Scope} {ad : Addr} {ccd : Value} {cl : List (Str × Addr)} {outer : List Env} {A₀ : Around} {base h₀ : Heap} {L : Addr} {m : Str → Option Value} {s : Shared} {Q E : Value → Shared → Prop} {news : List (Addr × Obj)}
theorem News.drop1 {h₀ h : Heap} {L : Addr} {p : Addr × Obj} {news : List (Addr × Obj)} (N : News h₀ L h (p :: news)) : News h₀ L h news := fun q hq => N q (.tail _ hq)
set_option maxRecDepth 100000 in
set_option maxHeartbeats 8000000 in
theorem neg_ok (C : Cx w mean mg mb cs outer A₀ base h₀ L m s news) (hdp : dp + 3 < recursionLimit) (hun : un + 24 < cLine) (i j k a b c : Int) (t1 t2 t3 t4 t5 t6 : Tok) 
  (hi : 0 ≤ i) (hi' : i < 10) (hj : 0 ≤ j) (hj' : j < 10) (hk : 0 ≤ k) (hk' : k < 10) (ha : 0 < a) (ha' : a < 10) (hb : 0 < b) (hb' : b < 10) (hc : 0 < c) (hc' : c < 10) (hok : negOk i j k a b c = true)
  (hret : ∀ x t h' tk', x = negF i j k a b c → Fr h₀ L h' m → News h₀ L h' news → Q (.int x t) {s with heap := h', toks := tk'}) :
  wpAny (model PySem.Challenge.rw_sn0034_01.row.prog w) (ktrTop dp un gd cn cs L ad ccd cl outer) (call (.ref 158) [.int i t1, .int j t2, .int k t3, .int a t4, .int b t5, .int c t6]) Q E s := by
  obtain ⟨hB, hF, hX, hN, hT, hk⟩ := C
  have hok1 : rgbOk (fr (2 * i + 1) (2 * a)) (fr (2 * j + 1) (2 * b)) (fr (2 * k + 1) (2 * c)) = true := by
    unfold negOk at hok
    simp only [Bool.and_eq_true] at hok
    exact hok.1
  refine wpAny_call ?_
  k_dflt cell_enter
  k_steps
  all_goals (rename (_, _, _) = rgbF _ _ _ => er; rename (_, _, _) = hlsF _ _ _ => eh)
  all_goals (have hp := neg_parts hok er eh)
  all_goals first
    | exact (no_nan hp.1 (by assumption)).elim
    | exact (no_inf hp.1 (by assumption)).elim
    | exact (no_nan hp.2.1 (by assumption)).elim
    | exact (no_inf hp.2.1 (by assumption)).elim
    | exact (no_nan hp.2.2.1 (by assumption)).elim
    | exact (no_inf hp.2.2.1 (by assumption)).elim
    | (refine' hret _ _ _ _ ?e (by assumption) ?n; (case e => exact hp.2.2.2); (case n => exact News.drop1 (News.drop1 (by assumption))))
end Mine
end Part_P4
section Part_P5
namespace Mine
def boxes : List (Nat × Nat × Nat) := [(2, 2, 1), (1, 2, 2), (2, 1, 4), (2, 2, 2), (1, 3, 3), (3, 2, 1), (3, 1, 2), (1, 2, 3), (2, 3, 1), (1, 1, 4), (3, 1, 3), (1, 3, 2)]
def acrossOk (p : Nat × Nat × Nat) : Bool :=
  let (a, b, c) := p
  (List.range a).all fun i => (List.range b).all fun j => (List.range c).all fun k => negOk i j k a b c && negF i j k a b c == ((a * b * c - 1 - ((i * b + j) * c + k) : Nat) : Int)
theorem across_0 : acrossOk (2, 2, 1) = true := by decide +kernel
theorem across_1 : acrossOk (1, 2, 2) = true := by decide +kernel
theorem across_2 : acrossOk (2, 1, 4) = true := by decide +kernel
theorem across_3 : acrossOk (2, 2, 2) = true := by decide +kernel
theorem across_4 : acrossOk (1, 3, 3) = true := by decide +kernel
theorem across_5 : acrossOk (3, 2, 1) = true := by decide +kernel
theorem across_6 : acrossOk (3, 1, 2) = true := by decide +kernel
theorem across_7 : acrossOk (1, 2, 3) = true := by decide +kernel
theorem across_8 : acrossOk (2, 3, 1) = true := by decide +kernel
theorem across_9 : acrossOk (1, 1, 4) = true := by decide +kernel
theorem across_10 : acrossOk (3, 1, 3) = true := by decide +kernel
theorem across_11 : acrossOk (1, 3, 2) = true := by decide +kernel
theorem across_all : boxes.all acrossOk = true := by
  simp only [boxes, List.all_cons, List.all_nil, across_0, across_1, across_2, across_3, across_4, across_5, across_6, across_7, across_8, across_9, across_10, across_11, Bool.and_self]
end Mine
end Part_P5
section Part_P6
namespace Mine
theorem kf_P6 (w : World) (h : Heap) : (hd.heap_39 w.params).In h → PySem.Challenge.rw_sn0034_01.row.prog = PySem.Challenge.rw_sn0034_01.row.prog → True := by
  k_fill
  intros
  trivial
theorem rules_P6 : True := by
  k_with_none
  k_with "my enter" => (refine' enter_ ?kC ?kA ?k6 ?k7 ?k8 ?k9 ?kB ?_ ?c2 ?c3 ?c4 ?c5 ?c6; (case kC => assumption); (case kA => exact rfl); (case k6 => k_is); (case k7 => k_is); (case k8 => ktr_room); (case k9 => exact BindsTo.of_eq rfl); (case c5 => decide); (case c6 => exact rfl); (case kB => exact locs rfl); (case c2 => exact rfl); (case c3 => exact rfl); (case c4 => exact rfl); k_whole; intro g'k L'k h'k tk'k hg'k htk'k F'k N'k B'k X'k T'k; (have OW'k := own_of (by assumption) hg'k); (try dsimp only); (try k_lift B'k); (try k_fold))
  trivial
def f4 (x y : Str) (i j : Int) : Int := match Builtin.Str.occurrences x y (fromIndex x.length i) (min (fromIndex x.length j) x.length) 1 with | k :: _ => (k : Int) | [] => -1
theorem gives_find4 (x y : Str) (i j : Int) (t u v z : Tok) : Gives (Builtin.«str.find» ⟨[.str x t, .str y u, .int i v, .int j z], []⟩) (.int (f4 x y i j)) := by
  show Gives (match Builtin.Str.occurrences x y (fromIndex x.length i) (min (fromIndex x.length j) x.length) 1 with | k :: _ => retInt k | [] => (do rule "str.find.not-found"; retInt (-1))) _
  unfold f4
  generalize Builtin.Str.occurrences x y (fromIndex x.length i) (min (fromIndex x.length j) x.length) 1 = o
  match o with
  | [] => exact .rule (.of_eq rfl)
  | _ :: _ => exact .of_eq rfl
theorem find4_known {prog : Program} {w : World} {A : Around} {E : Value → Shared → Prop} {s : Shared} {x y : Str} {t u v z : Tok} {i j k : Int} {Q : Value → Shared → Prop} (e : f4 x y i j = k) (hq : Q (.int k s.toks) { s with toks := s.toks + 1 }) :
    wpAny (model prog w) A (call (.builtin "str.find") [.str x t, .str y u, .int i v, .int j z]) Q E s := by
  subst e
  exact call_gives F.slot_str_find (typeIs_str _ _ _) F.entry_str_find (F.args_str_find_4 _ _ _ _) (gives_find4 x y i j t u v z) hq
def FindOk (got w0 : Str) : Prop := Txt.startswith got w0 = true → f4 got (Str.ofString "") w0.length got.length = w0.length ∧ w0.length ≤ got.length
theorem FindOk.use {got w0 : Str} (h : FindOk got w0) (hs : Txt.startswith got w0 = true) : f4 got (Str.ofString "") w0.length got.length = w0.length := (h hs).1
theorem FindOk.not {got w0 : Str} (h : FindOk got w0) (hs : Txt.startswith got w0 = true) (n : (got.length : Int) < (w0.length : Int)) : False := by have := (h hs).2; omega
theorem rules_P6_2 : True := by
  k_with "call builtin:str.find" => (k_here; (with_reducible show wpAny _ _ (call (Value.builtin "str.find") _) _ _ _); (refine find4_known (FindOk.use (by assumption) (by assumption)) ?_))
  k_with "call builtin:str.split" => (k_here; (with_reducible show wpAny _ _ (call (Value.builtin "str.split") _) _ _ _); (rename Txt.split _ _ = [_, _] => hspk); (refine KSpl.split1 (by k_asm) (by k_asm) (by decide) ?_ (by size_fits)); (intro D'k l'k h'k k'k e'k a'k F'k N'k l1k); (try k_lt l1k); (rw [hspk] at e'k); (kspl_open e'k); (simp only [strValues, List.map_cons, List.map_nil] at N'k a'k))
  k_with "truthy str" => (k_here; (with_reducible show wpAny _ _ (PySem.truthy (Value.str _ _)) _ _ _); (refine' KXt.truthy_pos (K := 20) (by assumption) (by assumption) (by decide) ?_; intro _))
  trivial
variable {w : World} {mean : ExcName → Option Value} {mg mb : Str → Option Value} {dp un : Nat} {gd : Option (List Code)} {cn : Str} {cs : Scope} {ad : Addr} {ccd : Value} {cl : List (Str × Addr)} {outer : List Env} {A₀ : Around} {base h₀ : Heap} {L : Addr} {m : Str → Option Value} {s : Shared} {Q E : Value → Shared → Prop} {news : List (Addr × Obj)}
set_option maxRecDepth 100000 in
set_option maxHeartbeats 8000000 in
theorem ell_ok (C : Cx w mean mg mb cs outer A₀ base h₀ L m s news) (hdp : dp + 1 < recursionLimit) (hun : un + 8 < cLine) (want got w0 : Str) (t1 t2 : Tok)
  (hmark : (Builtin.Str.occurrences want (Str.ofString "...") 0 want.length 1).isEmpty = false) (hsplit : Txt.split want (Str.ofString "...") = [w0, Str.ofString ""])
  (hw : want.length ≤ 20) (hg : got.length ≤ 20) (hw0 : w0.length ≤ 20) (hp : 1 ≤ w0.length)
  (hf : FindOk got w0)
  (hret : ∀ x h' tk', x = Txt.startswith got w0 → Fr h₀ L h' m → News h₀ L h' news → Q (.bool x) {s with heap := h', toks := tk'}) :
  wpAny (model PySem.Challenge.rw_sn0034_01.row.prog w) (ktrTop dp un gd cn cs L ad ccd cl outer) (call (.ref 101) [.str want t1, .str got t2]) Q E s := by
  refine wpAny_call ?_
  walk_at "my enter"
  k_steps
  all_goals (rename Own _ _ _ _ _ => O9; rename Fr _ _ _ _ => F9; rename News _ _ _ _ => N9)
  all_goals (have bk := O9.back F9 N9)
  all_goals first
    | exact (hf.not (by assumption) (by omega)).elim
    | (show Q (Value.bool _) _; exact hret _ _ _ (Eq.symm (by assumption)) bk.1 bk.2.1)
end Mine
end Part_P6
section Part_P7
open PySem.Builtin.Re
set_option maxRecDepth 100000
namespace Mine
theorem pat_attrs : PlainAttrs "re.Pattern" :=
  ⟨⟨"object.__getattribute__", by rw [typeLookup_type, builtinLookup_eq_fast]; kernel_rfl, by decide +kernel⟩, by rw [typeLookup_type, builtinLookup_eq_fast]; kernel_rfl⟩
theorem pat_owner : Manifest.owners.lookup (String.ofList ['n', 'r', 'e', 't', 't', 'a', 'P', '.', 'e', 'r'].reverse) = some Manifest.sig_re_Pattern := by kernel_rfl
theorem pat_slot : Slot "re.Pattern" "sub" "re.Pattern.sub" :=
  .of (owner := "re.Pattern") (n := "sub") (by rw [typeLookup_type, builtinLookup_eq_fast]; kernel_rfl) (by decide +kernel) (by decide +kernel) (by decide +kernel)
    (by first | exact .inl (by decide +kernel) | exact .inr (by decide +kernel)) (by rw [isSubtype_type]; kernel_rfl)
theorem pat_type : typeOf (.builtin "re.Pattern.sub") = pure (.type "method_descriptor") := by show builtinType _ = _; rw [builtinType_eq_fast]; kernel_rfl
theorem pat_entry : entryFor table "re.Pattern.sub" = some Builtin.«re.Pattern.sub» := entryFor_of_tree (by kernel_rfl)
theorem pat_args (a b c : Value) : argsOk "re.Pattern.sub" ⟨[a, b, c], []⟩ := by
  unfold argsOk; rw [signature?_of (id := "re.Pattern.sub") (n := ['b', 'u', 's']) (o := ['n', 'r', 'e', 't', 't', 'a', 'P', '.', 'e', 'r']) (by kernel_rfl) pat_owner]; kernel_rfl
theorem loop_entry : entryFor table "re.Pattern.sub.loop" = some Builtin.«re.Pattern.sub.loop» := entryFor_of_tree (by kernel_rfl)
theorem loop_plain : plainId "re.Pattern.sub.loop" = true := by decide +kernel

structure PatAt (h : Heap) (p : Addr) (code : Array Nat) (groups : Nat) : Prop where
  at_ : ∃ o fs c oc ws n, h.get? p = some o ∧ o.cls = .type "re.Pattern" ∧ o.dict = none ∧ o.data = .fields fs ∧ fs.getD 5 .none = .ref c ∧ reRawNat (fs.getD 6 .none) = 0 ∧ reRawNat (fs.getD 2 .none) = groups ∧
    h.get? c = some oc ∧ oc.data = .seq ws n ∧ (ws.map reRawOf).map (·.toNat) = code
theorem PatAt.keeps {h h' : Heap} {p : Addr} {code : Array Nat} {groups : Nat} (x : PatAt h p code groups) (hk : ∀ b o, h.get? b = some o → h'.get? b = some o) : PatAt h' p code groups := by
  obtain ⟨o, fs, c, oc, ws, n, h1, h2, h3, h4, h5, h6, h7, h8, h9, h10⟩ := x.at_
  exact ⟨o, fs, c, oc, ws, n, hk _ _ h1, h2, h3, h4, h5, h6, h7, hk _ _ h8, h9, h10⟩

def drive : Nat → Sre.M → Option Sre.M
  | 0, _ => none
  | k + 1, m => if (m.runFor reTurnSteps).outcome.isSome then some (m.runFor reTurnSteps) else drive k (m.runFor reTurnSteps)
def search (code text : Array Nat) (groups start : Nat) (must : Bool) : Option (Option Sre.M) :=
  match drive 4096 (Sre.forSearch code text groups start text.size must) with
  | none => none
  | some m => match m.outcome with
    | some .matched => some (some m)
    | some .failed => some none
    | _ => none
def subP (code text : Array Nat) (groups : Nat) (repl : Str) : Nat → Nat → Nat → Bool → List Str → Option (List Str)
  | 0, _, _, _, _ => none
  | k + 1, done, start, must, ps => match search code text groups start must with
    | none => none
    | some none => some (ps ++ if done < text.size then [⟨text.extract done text.size⟩] else [])
    | some (some m) => subP code text groups repl k m.handed m.handed (m.handed == m.start) ((ps ++ if done < m.start then [⟨text.extract done m.start⟩] else []) ++ [repl])
def subF (code : Array Nat) (groups : Nat) (repl x : Str) : Option Str :=
  (subP code x.cps groups repl 64 0 0 false []).map fun ps => if ps.isEmpty then ⟨x.cps.extract 0 0⟩ else Txt.join ⟨x.cps.extract 0 0⟩ ps

section
variable {M : Model} {A : Around} {E : Value → Shared → Prop} {s : Shared}
theorem wp_drive : ∀ (k N : Nat) (m m' : Sre.M) (Q : Sre.M → Shared → Prop), k ≤ N → drive k m = some m' → Q m' s → wpAny M A (reDrive N m) Q E s
  | 0, _, _, _, _, _, h, _ => by cases h
  | k + 1, 0, _, _, _, hk, _, _ => by omega
  | k + 1, N + 1, m, m', Q, hk, h, hQ => by
    unfold drive at h
    show wpAny M A (if (m.runFor reTurnSteps).outcome.isSome = true then pure (m.runFor reTurnSteps) else (do rule "sre.turn"; reDrive N (m.runFor reTurnSteps))) Q E s
    by_cases c : (m.runFor reTurnSteps).outcome.isSome = true
    · rw [if_pos c] at h ⊢
      cases h
      exact wpAny_pure hQ
    · rw [if_neg c] at h ⊢
      exact wpAny_bind (wpAny_rule (wp_drive k N _ m' Q (by omega) h hQ))
theorem wp_search {t : ReTarget} {start : Nat} {must : Bool} {r : Option Sre.M} {Q : Option Sre.M → Shared → Prop} (h : search t.code t.text t.groups start must = some r) (hl : t.lim = t.text.size) (hQ : Q r s) :
    wpAny M A (reNextFound t start must) Q E s := by
  unfold search at h
  unfold reNextFound reRunToEnd
  rw [hl]
  split at h
  · cases h
  · rename_i m hm
    refine wpAny_bind (wp_drive 4096 (2 ^ 64) _ m _ (by decide) hm ?_)
    refine wpAny_bind ?_
    refine wpAny_forIn_list _ (fun _ _ s' => s' = s) (fun _ s' => wpAny M A _ Q E s') ?_ ?_ _ _ rfl
    · rintro i rest b s' rfl
      by_cases c : m.seen.has i = true
      · simp only [c, if_true]
        exact wpAny_bind (wpAny_rule (wpAny_pure rfl))
      · simp only [c]
        exact wpAny_pure rfl
    · rintro b s' rfl
      split at h
      · rename_i e; cases h; rw [e]; exact wpAny_pure hQ
      · rename_i e; cases h; rw [e]; exact wpAny_pure hQ
      · cases h
end
end Mine
end Part_P7
section Part_P8
open PySem.Builtin.Re
set_option maxRecDepth 100000
namespace Mine
section
variable {M : Model} {A : Around} {E : Value → Shared → Prop} {s : Shared}
def target (p : Addr) (x : Str) (t : Tok) (code : Array Nat) (groups : Nat) : ReTarget := { pattern := .ref p, string := .str x t, code, text := x.cps, kind := 0, groups, pos := 0, lim := x.cps.size }
theorem wp_whole {p : Addr} {x : Str} {t : Tok} {code : Array Nat} {groups : Nat} {Q : ReTarget → Shared → Prop} (hp : PatAt s.heap p code groups) (hQ : Q (target p x t code groups) s) : wpAny M A (reWholeTarget (.ref p) (.str x t)) Q E s := by
  obtain ⟨o, fs, c, oc, ws, n, h1, h2, h3, h4, h5, h6, h7, h8, h9, h10⟩ := hp.at_
  unfold reWholeTarget
  refine wpAny_bind (wpAny_fieldsOf h1 h4 ?_)
  show wpAny M A (pure (x.cps, 0) >>= _) Q E s
  refine wpAny_bind (wpAny_pure ?_)
  dsimp only
  rw [h6]
  simp only [beq_self_eq_true, Bool.true_and, Bool.false_and, Bool.and_true]
  show wpAny M A (reNoCollectionInside (.str x t) 0 >>= _) Q E s
  refine wpAny_bind (wpAny_pure ?_)
  rw [h5]
  refine wpAny_bind (wpAny_bind (wpAny_seqItems h8 h9 (wpAny_pure ?_)))
  refine wpAny_pure ?_
  unfold target at hQ
  rw [← h7, ← h10] at hQ
  exact hQ
end
theorem keep_upd {H h : Heap} {P : Addr} {f : Obj → Obj} (hf : H.get? P = none) (hk : ∀ b o, H.get? b = some o → h.get? b = some o) : ∀ b o, H.get? b = some o → (h.update P f).get? b = some o := fun b o e => by
  rw [Heap.get?_update_other _ _ (fun q => by rw [q, e] at hf; cases hf)]
  exact hk b o e
theorem sum_le : ∀ (l : List Str) (K : Nat), (∀ q ∈ l, q.length ≤ K) → (l.map (·.length)).sum ≤ l.length * K
  | [], _, _ => by simp
  | a :: l, K, h => by
    have h1 := h a (.head _)
    have h2 := sum_le l K fun q hq => h q (.tail _ hq)
    simp only [List.map_cons, List.sum_cons, List.length_cons, Nat.add_mul, Nat.one_mul]
    omega
theorem ext_len (a : Array Nat) (i j : Nat) : (⟨a.extract i j⟩ : Str).length ≤ a.size := by
  show (a.extract i j).size ≤ a.size
  rw [Array.size_extract]
  omega
section
variable {prog : Program} {w : World} {A : Around} {H : Heap} {p P : Addr} {code : Array Nat} {groups : Nat} {x repl : Str} {t u : Tok}
abbrev lst (l : List (Str × Tok)) (c : Nat) : Obj := { cls := .type "list", data := .seq (strValues l).toArray c }
theorem strValues_snoc (l : List (Str × Tok)) (y : Str) (k : Tok) : (strValues l).toArray.push (.str y k) = (strValues (l ++ [(y, k)])).toArray := by simp [strValues]
theorem map_upd {h : Heap} {l : List (Str × Tok)} {c : Nat} {y : Str} {k : Tok} (hP : h.get? P = some (lst l c)) : ∃ c', (h.update P (Obj.mapSeq (·.push (.str y k)))).get? P = some (lst (l ++ [(y, k)]) c') := by
  rw [Heap.get?_update_self _ hP rfl]
  refine ⟨if ((strValues l).toArray.push (.str y k)).size == (strValues l).toArray.size then c else c + 1, ?_⟩
  unfold lst
  rw [← strValues_snoc]
  rfl
theorem code_loop (hH : PatAt H p code groups) (hf : H.get? P = none) (hx : x.length ≤ 1000) (hr : repl.length ≤ 1000) :
    ∀ (k : Nat) (s : Shared) (done start : Nat) (nn : Int) (must : Bool) (l : List (Str × Tok)) (c : Nat) (ps : List Str) (R : Result → Shared → Prop),
      (∀ b o, H.get? b = some o → s.heap.get? b = some o) → s.heap.get? P = some (lst l c) → subP code x.cps groups repl k done start must (l.map (·.1)) = some ps →
      l.length + 2 * k ≤ 1000 → (∀ q ∈ l.map (·.1), q.length ≤ 1000) →
      (∀ t' h' tk, (∀ b o, H.get? b = some o → h'.get? b = some o) → R (.ok (.ret (.str (if ps.isEmpty then ⟨x.cps.extract 0 0⟩ else Txt.join ⟨x.cps.extract 0 0⟩ ps) t'))) { s with heap := h', toks := tk }) →
      codeAny (model prog w) A (.builtin "re.Pattern.sub.loop" ⟨[.ref p, .str x t, .str repl u, rawInt 0, rawInt 0, rawInt nn, rawInt done, rawInt start, .bool must, .ref P, .bool false], []⟩) R s
  | 0, _, _, _, _, _, _, _, _, _, _, _, h, _, _, _ => by cases h
  | k + 1, s, done, start, nn, must, l, c, ps, R, hk, hP, h, hl, hq, hR => by
    have sl : sizeLine = 16777216 := sizeLine_eq
    have hxx : x.cps.size ≤ 1000 := hx
    have hlen : (strValues l).toArray.size = l.length := by simp [strValues]
    unfold subP at h
    refine codeAny_builtin loop_entry ?_
    show wpAny _ _ (reWholeTarget (.ref p) (.str x t) >>= _) _ _ _
    refine wpAny_bind (wp_whole (hH.keeps hk) ?_)
    show wpAny _ _ (reNextFound (target p x t code groups) start must >>= _) _ _ _
    split at h
    · cases h
    · rename_i hs
      refine wpAny_bind (wp_search hs rfl ?_)
      dsimp only [target]
      simp only [Int.toNat_natCast]
      have fin : ∀ (h₁ : Heap) (t₁ : Nat) (l₁ : List (Str × Tok)) (c₁ : Nat), (∀ b o, H.get? b = some o → h₁.get? b = some o) → h₁.get? P = some (lst l₁ c₁) → l₁.map (·.1) = ps →
          l₁.length ≤ 1001 → (∀ q ∈ ps, q.length ≤ 1000) →
          wpAny (model prog w) (A.under (.builtin "re.Pattern.sub.loop" ⟨[.ref p, .str x t, .str repl u, rawInt 0, rawInt 0, rawInt nn, rawInt done, rawInt start, .bool must, .ref P, .bool false], []⟩))
            (do
              let joiner ← reSlice x.cps 0 0 0
              let text ← if ((← seqItems? (.ref P)).getD #[]).isEmpty then pure joiner else call (.builtin (if (0 : Nat) == 0 then "str.join" else "bytes.join")) [joiner, .ref P]
              ret text)
            (fun fin s' => match fin with | .done f => R (.ok f) s' | .again c' => c'.quiet = true ∧ codeAny (model prog w) A c' R s') (fun e s' => R (.error e) s') { s with heap := h₁, toks := t₁ } := by
        intro h₁ t₁ l₁ c₁ hk₁ hP₁ hl₁ hn₁ hq₁
        show wpAny _ _ (mkStr ⟨x.cps.extract 0 0⟩ >>= _) _ _ _
        refine wpAny_bind (wpAny_mkStr ?_ (Nat.le_trans (ext_len _ _ _) (by omega)))
        refine wpAny_bind (wpAny_seqItems hP₁ rfl ?_)
        cases l₁ with
        | nil =>
          subst hl₁
          exact wpAny_bind (wpAny_pure (wpAny_pure (hR _ _ _ hk₁)))
        | cons q l₁ =>
          have hne : ps.isEmpty = false := by rw [← hl₁]; rfl
          show wpAny _ _ (call (.builtin "str.join") [.str ⟨x.cps.extract 0 0⟩ t₁, .ref P] >>= _) _ _ _
          refine wpAny_bind (join_list (ys := ps) ⟨_, hP₁, rfl, c₁, rfl⟩ (by rw [← hl₁]; exact strsAre_of_values _) ?_ fun t' k => wpAny_pure ?_)
          · have h1 := sum_le ps 1000 hq₁
            have h2 : ps.length = (q :: l₁).length := by rw [← hl₁]; simp
            have h3 : (⟨x.cps.extract 0 0⟩ : Str).length = 0 := by show (x.cps.extract 0 0).size = 0; rw [Array.size_extract]; omega
            rw [h3, Nat.mul_zero]
            omega
          · have := hR t' h₁ k hk₁
            rw [hne] at this
            exact this
      show wpAny _ _ (@ite _ (done < x.cps.size) (Nat.decLt done x.cps.size) _ _) _ _ _
      by_cases hd : done < x.cps.size
      · rw [if_pos hd] at h ⊢
        show wpAny _ _ (mkStr ⟨x.cps.extract done x.cps.size⟩ >>= _) _ _ _
        have he := ext_len x.cps done x.cps.size
        refine wpAny_bind (wpAny_mkStr ?_ (by omega))
        refine wpAny_bind (wpAny_updateSeq hP rfl ?_ (by omega) (by rw [Array.size_push]; omega))
        obtain ⟨c₁, hP₁⟩ := map_upd (y := ⟨x.cps.extract done x.cps.size⟩) (k := s.toks) hP
        have hps := Option.some.inj h
        refine fin _ _ _ c₁ (keep_upd hf hk) hP₁ (by rw [← hps]; simp) (by simp; omega) ?_
        intro q hq'
        rw [← hps] at hq'
        rcases List.mem_append.mp hq' with hq' | hq'
        · exact hq q hq'
        · rw [List.mem_singleton.mp hq']; omega
      · rw [if_neg hd] at h ⊢
        have hps := Option.some.inj h
        rw [List.append_nil] at hps
        exact fin _ _ _ c hk hP hps (by omega) (by rw [← hps]; exact hq)
    · rename_i m hs
      refine wpAny_bind (wp_search hs rfl ?_)
      dsimp only [target]
      simp only [Int.toNat_natCast]
      by_cases hd : done < m.start
      · rw [if_pos hd] at h ⊢
        show wpAny _ _ (mkStr ⟨x.cps.extract done m.start⟩ >>= _) _ _ _
        have he := ext_len x.cps done m.start
        refine wpAny_bind (wpAny_mkStr ?_ (by omega))
        refine wpAny_bind (wpAny_updateSeq hP rfl ?_ (by omega) (by rw [Array.size_push]; omega))
        obtain ⟨c₁, hP₁⟩ := map_upd (y := ⟨x.cps.extract done m.start⟩) (k := s.toks) hP
        show wpAny _ _ (updateSeq P (fun z => z.push (.str repl u)) >>= _) _ _ _
        have hlen₁ : (strValues (l ++ [((⟨x.cps.extract done m.start⟩ : Str), s.toks)])).toArray.size = l.length + 1 := by simp [strValues]
        refine wpAny_bind (wpAny_updateSeq hP₁ rfl ?_ (by omega) (by rw [Array.size_push]; omega))
        obtain ⟨c₂, hP₂⟩ := map_upd (y := repl) (k := u) hP₁
        refine wpAny_pure ⟨plainId_quiet loop_plain _, ?_⟩
        refine code_loop hH hf hx hr k _ m.handed m.handed (nn + 1) (m.handed == m.start) _ c₂ ps R (keep_upd hf (keep_upd hf hk)) hP₂ ?_ ?_ ?_ hR
        · simpa using h
        · simp; omega
        · intro q hq'
          simp only [List.map_append, List.mem_append, List.map_cons, List.map_nil, List.mem_singleton] at hq'
          rcases hq' with (hq' | rfl) | rfl
          · exact hq q hq'
          · omega
          · exact hr
      · rw [if_neg hd] at h ⊢
        show wpAny _ _ (updateSeq P (fun z => z.push (.str repl u)) >>= _) _ _ _
        refine wpAny_bind (wpAny_updateSeq hP rfl ?_ (by omega) (by rw [Array.size_push]; omega))
        obtain ⟨c₂, hP₂⟩ := map_upd (y := repl) (k := u) hP
        refine wpAny_pure ⟨plainId_quiet loop_plain _, ?_⟩
        refine code_loop hH hf hx hr k _ m.handed m.handed (nn + 1) (m.handed == m.start) _ c₂ ps R (keep_upd hf hk) hP₂ ?_ ?_ ?_ hR
        · simpa using h
        · simp; omega
        · intro q hq'
          simp only [List.map_append, List.mem_append, List.map_cons, List.map_nil, List.mem_singleton] at hq'
          rcases hq' with hq' | rfl
          · exact hq q hq'
          · exact hr
end
end Mine
end Part_P8
section Part_P9
open PySem.Builtin.Re
set_option maxRecDepth 100000
namespace Mine
theorem str_call : typeLookup (.type "str") "__call__" = pure none := by rw [typeLookup_type, builtinLookup_eq_fast]; kernel_rfl
theorem named3 (a b : Value) : reNamed "re.Pattern.sub" "sub" ["repl", "string", "count"] 2 [a, b] [] = pure [some a, some b, none] := rfl
section
variable {prog : Program} {w : World} {A : Around} {E : Value → Shared → Prop} {s : Shared} {p : Addr} {code : Array Nat} {groups : Nat} {x y repl : Str} {t u : Tok} {Q : Value → Shared → Prop}
theorem sub_ok (hp : PatAt s.heap p code groups) (hT : s.TypeIs (.ref p) "re.Pattern") (hb : repl.cps.contains 92 = false) (hx : x.length ≤ 800) (hr : repl.length ≤ 800) (hy : subF code groups repl x = some y)
    (hQ : ∀ t' h' tk, (∀ b o, s.heap.get? b = some o → h'.get? b = some o) → Q (.str y t') { s with heap := h', toks := tk }) :
    wpAny (model prog w) A (call (.builtin "re.Pattern.sub") [.ref p, .str repl u, .str x t]) Q E s := by
  refine call_meets (S := fun _ R s => PatAt s.heap p code groups ∧ ∀ t' h' tk, (∀ b o, s.heap.get? b = some o → h'.get? b = some o) → R (.ok (.ret (.str y t'))) { s with heap := h', toks := tk }) pat_slot hT pat_entry (pat_args _ _ _) ?_ ⟨hp, hQ⟩
  rintro prog w A R s ⟨hp, hR⟩
  unfold subF at hy
  cases hps : subP code x.cps groups repl 64 0 0 false [] with
  | none => rw [hps] at hy; cases hy
  | some ps =>
    rw [hps] at hy
    have hy' := Option.some.inj hy
    subst hy'
    show wpAny _ _ (reNamed "re.Pattern.sub" "sub" ["repl", "string", "count"] 2 [.str repl u, .str x t] [] >>= _) _ _ _
    refine wpAny_bind (wpAny_of_eq (named3 _ _) ?_)
    show wpAny _ _ ((pure (0 : Int) : Sem Int) >>= _) _ _ _
    refine wpAny_bind (wpAny_pure ?_)
    show wpAny _ _ (specialOf (.str repl u) "__call__" >>= _) _ _ _
    refine wpAny_bind (wpAny_specialOf (typeIs_str _ _ _) str_call ?_)
    show wpAny _ _ (asStr? (.str repl u) >>= _) _ _ _
    refine wpAny_bind (wpAny_of_eq (show asStr? (.str repl u) = pure (some repl) from rfl) ?_)
    show wpAny _ _ ((pure (!repl.cps.contains 92) : Sem Bool) >>= _) _ _ _
    refine wpAny_bind (wpAny_pure ?_)
    rw [hb]
    show wpAny _ _ ((pure (Value.str repl u, 0) : Sem (Value × Int)) >>= _) _ _ _
    refine wpAny_bind (wpAny_pure ?_)
    show wpAny _ _ (holding [.str repl u] (reWholeTarget (.ref p) (.str x t)) >>= _) _ _ _
    refine wpAny_bind (wpAny_holding (wp_whole hp ?_))
    show wpAny _ _ (newList [] >>= _) _ _ _
    refine wpAny_bind (wpAny_newObj_type ?_)
    refine wpAny_pure ⟨plainId_quiet loop_plain _, ?_⟩
    refine code_loop (H := s.heap) hp ?_ (by omega) (by omega) 64 _ 0 0 0 false [] 0 ps R (fun b o e => Heap.get?_push_of_some _ e) (Heap.get?_push_size _ rfl) hps (by decide) (by simp) hR
    exact Heap.get?_none_of_le (Nat.le_refl _)
end
end Mine
end Part_P9
section Part_P10
namespace Mine
theorem rules_P10 : True := by
  k_with_none
  k_with "my enter" => (refine' enter_ ?kC ?kA ?k6 ?k7 ?k8 ?k9 ?kB ?_ ?c2 ?c3 ?c4 ?c5 ?c6; (case kC => assumption); (case kA => exact rfl); (case k6 => k_is); (case k7 => k_is); (case k8 => ktr_room); (case k9 => exact BindsTo.of_eq rfl); (case c5 => decide); (case c6 => exact rfl); (case kB => exact locs rfl); (case c2 => exact rfl); (case c3 => exact rfl); (case c4 => exact rfl); k_whole; intro g'k L'k h'k tk'k hg'k htk'k F'k N'k B'k X'k T'k; (have OW'k := own_of (by assumption) hg'k); (try dsimp only); (try k_lift B'k); (try k_fold))
  trivial
def code1 : Array Nat := #[14, 4, 0, 1, 1, 6, 1, 16, 46, 1]
def code2 : Array Nat := #[14, 9, 4, 1, 2, 16, 10, 16, 13, 0, 7, 7, 16, 13, 16, 10, 15, 18, 5, 16, 10, 15, 13, 11, 16, 13, 5, 5, 0, 16, 10, 1, 15, 2, 0, 1]
theorem pat1 {w : World} {g : Heap} (X : (hd.heap_39 w.params).In g) : PatAt g 106 code1 0 :=
  ⟨_, _, 105, _, _, _, X 106 _ rfl, rfl, rfl, rfl, rfl, rfl, rfl, X 105 _ rfl, rfl, by decide +kernel⟩
theorem pat2 {w : World} {g : Heap} (X : (hd.heap_39 w.params).In g) : PatAt g 111 code2 0 :=
  ⟨_, _, 110, _, _, _, X 111 _ rfl, rfl, rfl, rfl, rfl, rfl, rfl, X 110 _ rfl, rfl, by decide +kernel⟩
theorem PatAt.type {s : Shared} {p : Addr} {code : Array Nat} {groups : Nat} (x : PatAt s.heap p code groups) : s.TypeIs (.ref p) "re.Pattern" := by
  obtain ⟨o, fs, c, oc, ws, n, h1, h2, _⟩ := x.at_
  exact ⟨o, h1, h2⟩
section
variable {prog : Program} {w : World} {A : Around} {E : Value → Shared → Prop} {s : Shared} {p : Addr} {code : Array Nat} {groups : Nat} {x y repl : Str} {t u : Tok} {h₀ : Heap} {L : Addr} {m : Str → Option Value} {news : List (Addr × Obj)}
theorem pat_method {Q : Value × List Value → Shared → Prop} {pl : Sem Bool} (hp : PatAt h₀ p code groups) (F : Fr h₀ L s.heap m) (h : Q (.builtin "re.Pattern.sub", [.ref p]) s) : wpAny (model prog w) A (getMethod (.ref p) (Str.ofString "sub") pl) Q E s := by
  have hq := hp.keeps F.keep
  refine getMethod_builtin hq.type pat_attrs pat_slot pat_type (fun a e => ?_) h
  cases e
  obtain ⟨o, fs, c, oc, ws, n, h1, h2, h3, _⟩ := hq.at_
  exact ⟨o, h1, h3⟩
theorem sub_N {Q : Value → Shared → Prop} (hp : PatAt h₀ p code groups) (F : Fr h₀ L s.heap m) (N : News h₀ L s.heap news) (hy : subF code groups repl x = some y) (hx : x.length ≤ 800) (hb : repl.cps.contains 92 = false) (hr : repl.length ≤ 800)
    (hQ : ∀ t' h' tk, Fr h₀ L h' m → News h₀ L h' news → Q (.str y t') { s with heap := h', toks := tk }) :
    wpAny (model prog w) A (call (.builtin "re.Pattern.sub") [.ref p, .str repl u, .str x t]) Q E s :=
  have hq := hp.keeps F.keep
  sub_ok hq hq.type hb hx hr hy fun t' h' tk hk => hQ t' h' tk (F.grownK hk) (N.grown hk)
end
theorem rules_P10_2 : True := by
  k_with "getMethod ref" => (k_here; (with_reducible show wpAny _ _ (getMethod (Value.ref _) _ _) _ _ _); (first | (refine pat_method (p := 106) (pat1 (by k_asm)) (by k_asm) ?_) | (refine pat_method (p := 111) (pat2 (by k_asm)) (by k_asm) ?_)))
  k_with "call builtin:re.Pattern.sub" => (k_here; (with_reducible show wpAny _ _ (call (Value.builtin "re.Pattern.sub") _) _ _ _); (first | (refine sub_N (p := 106) (pat1 (by k_asm)) (by k_asm) (by k_asm) (by assumption) (by assumption) (by decide +kernel) (by decide +kernel) ?_) | (refine sub_N (p := 111) (pat2 (by k_asm)) (by k_asm) (by k_asm) (by assumption) (by assumption) (by decide +kernel) (by decide +kernel) ?_)); (intro t'k h'k tk'k F'k N'k))
  trivial
variable {w : World} {mean : ExcName → Option Value} {mg mb : Str → Option Value} {dp un : Nat} {gd : Option (List Code)} {cn : Str} {cs : Scope} {ad : Addr} {ccd : Value} {cl : List (Str × Addr)} {outer : List Env} {A₀ : Around} {base h₀ : Heap} {L : Addr} {m : Str → Option Value} {s : Shared} {Q E : Value → Shared → Prop} {news : List (Addr × Obj)}
set_option maxRecDepth 100000 in
set_option maxHeartbeats 8000000 in
theorem qd_ok (C : Cx w mean mg mb cs outer A₀ base h₀ L m s news) (hdp : dp + 1 < recursionLimit) (hun : un + 8 < cLine) (x y z : Str) (t1 : Tok)
  (hx : x.length ≤ 800) (hy' : y.length ≤ 800) (hy : subF code2 0 (Str.ofString "\r\n") x = some y) (hz : subF code1 0 (Str.ofString "..") y = some z)
  (hret : ∀ t h' tk', Fr h₀ L h' m → News h₀ L h' news → Q (.str z t) {s with heap := h', toks := tk'}) :
  wpAny (model PySem.Challenge.rw_sn0034_01.row.prog w) (ktrTop dp un gd cn cs L ad ccd cl outer) (call (.ref 118) [.str x t1]) Q E s := by
  refine wpAny_call ?_
  walk_at "my enter"
  k_steps
  all_goals (rename Own _ _ _ _ _ => O9; rename Fr _ _ _ _ => F9; rename News _ _ _ _ => N9)
  all_goals (have bk := O9.back F9 N9)
  all_goals (show Q (Value.str _ _) _; exact hret _ _ _ bk.1 bk.2.1)
end Mine
end Part_P10
section Part_P11
namespace Mine
def row (k l : Nat) : Str := ⟨(Array.replicate k 46).push (97 + l)⟩
def quoteOk (k l : Nat) : Bool := decide (subF code2 0 (Str.ofString "\r\n") (row k l) = some (row k l)) && decide (subF code1 0 (Str.ofString "..") (row k l) = some (row (k + 1) l))
theorem quote_all : ((List.range 5).all fun k => (List.range 6).all fun l => k == 0 || quoteOk k l) = true := by decide +kernel
end Mine
end Part_P11
section Part_P12
set_option maxRecDepth 100000
namespace Mine
theorem runs_toks {M : Model} {Γ : Ctx} {p : Pos} {t : Sem PySem.Fin} {fs : List Frame} {s s' : Shared} {e : PySem.End} (h : Runs M Γ p t fs s e s') : s.toks ≤ s'.toks := by
  induction h <;> (try simp only [Shared.setGen] at *) <;> omega
theorem wakes_toks {M : Model} {Γ : Ctx} {p : Pos} {g : Nat} {r : Resume} {s s' : Shared} {res : GenResult} (h : Wakes M Γ p g r s res s') : s.toks ≤ s'.toks := by
  unfold Wakes at h
  split at h
  · cases h
  · split at h
    · obtain ⟨_, _, h, _, _, rfl⟩ := h
      have := runs_toks h
      exact this
    · rw [h.2]; exact Nat.le_refl _
    · rw [h.2]; exact Nat.le_refl _
  · obtain ⟨_, _, h, _, _, rfl⟩ := h
    have := runs_toks h
    exact this
  · rw [h.2]; exact Nat.le_refl _
  · rw [h.2]; exact Nat.le_refl _
theorem wp_toks {α : Type} {M : Model} {Γ : Ctx} (t : Sem α) (k : Nat) (Q : α → Pos → Shared → Prop) (E : Value → Pos → Shared → Prop) (p : Pos) (s : Shared) (hk : k ≤ s.toks)
    (h : Sem.wp M Γ t (fun a p' s' => k ≤ s'.toks → Q a p' s') E p s) : Sem.wp M Γ t Q E p s := by
  induction t generalizing p s with
  | pure a => exact h hk
  | raise e => exact h
  | unsupported w => exact h
  | finish e => exact h
  | rule tag c ih => exact ih () p s hk h
  | «at» q c ih => exact ih () q s hk h
  | load a q c ih => obtain ⟨o, ho, h⟩ := h; exact ⟨o, ho, ih o p s hk h⟩
  | update a q f c ih => exact ⟨h.1, ih () p _ hk h.2⟩
  | alloc o c ih => exact ih _ p _ hk h
  | loadIfAlive a c ih => exact ih _ p s hk h
  | point l c ih => exact ih () p s hk h
  | register a c => exact h
  | fresh c ih => exact ih _ p { s with toks := s.toks + 1 } (Nat.le_succ_of_le hk) h
  | ask c ih => exact ih _ p s hk h
  | choose src n c ih => exact ⟨h.1, ih _ p _ hk h.2⟩
  | os q l c ih => exact ih _ p _ hk h
  | call c hd g l f ih =>
    obtain ⟨r, s₁, hr, h⟩ := h
    exact ⟨r, s₁, hr, ih r p s₁ (Nat.le_trans hk (runs_toks hr)) h⟩
  | handled own c ih => exact ih _ p s hk h
  | newGen c f ih => exact ih _ p _ hk h
  | genState g c ih => obtain ⟨o, ho, h⟩ := h; exact ⟨o, ho, ih _ p s hk h⟩
  | resume g r l c ih =>
    obtain ⟨res, s₁, hw, h⟩ := h
    exact ⟨res, s₁, hw, ih res p s₁ (Nat.le_trans hk (wakes_toks hw)) h⟩
  | yield v g l c => exact h
  | stack c ih => exact ih _ p s hk h
  | fork c f => exact h
  | thread c ih => exact ih _ p s hk h
  | await a f d l c => exact h
section
variable {α : Type} {M : Model} {A : Around} {E : Value → Shared → Prop} {s : Shared}
theorem any_toks {t : Sem α} {Q : α → Shared → Prop} (k : Nat) (hk : k ≤ s.toks) (h : wpAny M A t (fun a s' => k ≤ s'.toks → Q a s') E s) : wpAny M A t Q E s :=
  fun Γ p hΓ => wp_toks t k _ _ p s hk (h Γ p hΓ)
theorem execs_toks {env : Env} {st : Stmt} {rest : List Stmt} {Q : Flow → Shared → Prop} (hk : 1 ≤ s.toks)
    (h : wpAny M A (exec st env) (fun f s' => 1 ≤ s'.toks → match f with | .next => wpAny M A (execs rest env) Q E s' | f => Q f s') E s) : wpAny M A (execs (st :: rest) env) Q E s :=
  wpAny_execs_cons (any_toks 1 hk h)
end
end Mine
end Part_P12
section Part_P13
namespace Mine
theorem rules_P13 : True := by
  k_with_none
  k_with "my enter" => (refine' enter_ ?kC ?kA ?k6 ?k7 ?k8 ?k9 ?kB ?_ ?c2 ?c3 ?c4 ?c5 ?c6; (case kC => assumption); (case kA => exact rfl); (case k6 => k_is); (case k7 => k_is); (case k8 => ktr_room); (case k9 => exact BindsTo.of_eq rfl); (case c5 => decide); (case c6 => exact rfl); (case kB => exact locs rfl); (case c2 => exact rfl); (case c3 => exact rfl); (case c4 => exact rfl); k_whole; intro g'k L'k h'k tk'k hg'k htk'k F'k N'k B'k X'k T'k; (have OW'k := own_of (by assumption) hg'k); (try dsimp only); (try k_lift B'k); (try k_fold))
  trivial
abbrev gotF (y : Str) : Str := Txt.replace y (Str.ofString ".") (Str.ofString "!")
abbrev bodyF (y : Str) : Str := Txt.slice (gotF y) none (some (-1))
abbrev wantF (y : Str) : Str := bodyF y ++ Str.ofString "..."
abbrev heldB (y z : Str) : Bool := Txt.startswith (gotF z) (bodyF y)
structure EllOk (y z : Str) : Prop where
  mark : (Builtin.Str.occurrences (wantF y) (Str.ofString "...") 0 (wantF y).length 1).isEmpty = false
  split : Txt.split (wantF y) (Str.ofString "...") = [bodyF y, Str.ofString ""]
  w : (wantF y).length ≤ 20
  g : (gotF z).length ≤ 20
  w0 : (bodyF y).length ≤ 20
  p : 1 ≤ (bodyF y).length
  f : FindOk (gotF z) (bodyF y)
structure RowsOk (xs : List Str) : Prop where
  len : ∀ n, (xs.getD n Str.empty).length ≤ 1048576
  rep : ∀ n, (gotF (xs.getD n Str.empty)).length ≤ 16777216
  cut : ∀ n, (bodyF (xs.getD n Str.empty)).length + (Str.ofString "...").length ≤ 16777216
  ell : ∀ i j, i < xs.length → j < xs.length → EllOk (xs.getD i Str.empty) (xs.getD j Str.empty)
def heldF (xs : List Str) (cell b : Int) : Bool :=
  !(decide (cell ≥ b) && !heldB (xs.getD cell.toNat Str.empty) (xs.getD (cell - b).toNat Str.empty)) && !(decide (Int.fmod cell b ≠ 0) && !heldB (xs.getD cell.toNat Str.empty) (xs.getD (cell - 1).toNat Str.empty))
section
variable {xs : List Str} {cell b : Int}
theorem held_f1 (h : b ≤ cell) (e : heldB (xs.getD cell.toNat Str.empty) (xs.getD (cell - b).toNat Str.empty) = false) : false = heldF xs cell b := by
  have h' : cell ≥ b := h
  unfold heldF
  rw [e, decide_eq_true h']
  rfl
theorem held_f2 (h : cell.fmod b ≠ 0) (e : heldB (xs.getD cell.toNat Str.empty) (xs.getD (cell - 1).toNat Str.empty) = false) : false = heldF xs cell b := by
  unfold heldF
  rw [e, decide_eq_true h]
  simp
theorem held_t (h : ¬ b ≤ cell ∨ heldB (xs.getD cell.toNat Str.empty) (xs.getD (cell - b).toNat Str.empty) = true) (h' : cell.fmod b = 0 ∨ heldB (xs.getD cell.toNat Str.empty) (xs.getD (cell - 1).toNat Str.empty) = true) : true = heldF xs cell b := by
  unfold heldF
  generalize heldB (xs.getD cell.toNat Str.empty) (xs.getD (cell - b).toNat Str.empty) = p at *
  generalize heldB (xs.getD cell.toNat Str.empty) (xs.getD (cell - 1).toNat Str.empty) = q at *
  rcases h with h | h <;> rcases h' with h' | h' <;> simp [h, h'] <;> omega
end
theorem replace_T {prog : Program} {w : World} {A : Around} {E : Value → Shared → Prop} {s : Shared} {x : Str} {t : Tok} {u : Nat} {Q : Value → Shared → Prop} (hu : 1 ≤ u) (hx : x.length ≤ 1048576)
    (hq : ∀ t' k, Q (.str (Txt.replace x (Str.ofString ".") (Str.ofString "!")) t') { s with toks := k }) : wpAny (model prog w) A (call (.builtin "str.replace") [.str x t, .str (Str.ofString ".") u, .str (Str.ofString "!") (u + 1)]) Q E s :=
  SC.replaceW (Nat.ne_of_gt hu) (Nat.succ_ne_zero _) (Nat.ne_of_lt (Nat.lt_succ_self _)) (by decide +kernel) hx (by decide +kernel) hq
theorem rules_P13_2 : True := by
  k_with "execs cons" => (k_here; (refine execs_toks (by first | assumption | omega | (dsimp only; omega)) ?_))
  k_with "call builtin:str.replace" => (k_here; (with_reducible show wpAny _ _ (call (Value.builtin "str.replace") _) _ _ _); (refine replace_T (by omega) (RowsOk.len (by assumption) _) ?_); intro t'k k'k)
  k_with "binaryOp Add str str" => (k_here; (with_reducible show wpAny _ _ (binaryOp _ (Value.str _ _) (Value.str _ _)) _ _ _); (refine add_str (hsz := (by rw [sizeLine_eq]; exact RowsOk.cut (by assumption) _)) ?_); (intro t'k k'k); (try dsimp only))
  k_with "last subscriptTail" => (k_here; (with_reducible show wpAny _ _ (subscriptTail _ _ (Value.str _ _) (Value.ref _)) _ _ _); (refine slice_strN_ns (hsz := (by rw [sizeLine_eq]; exact RowsOk.rep (by assumption) _)) (s := ⟨_, _, _, _, _⟩) (by assumption) (by assumption) ?_); (intro h'k t'k k'k F'k N'k); (try dsimp only))
  trivial
variable {w : World} {mean : ExcName → Option Value} {mg mb : Str → Option Value} {dp un : Nat} {gd : Option (List Code)} {cn : Str} {cs : Scope} {ad : Addr} {ccd : Value} {cl : List (Str × Addr)} {outer : List Env} {A₀ : Around} {base h₀ : Heap} {L : Addr} {m : Str → Option Value} {s : Shared} {Q E : Value → Shared → Prop} {news : List (Addr × Obj)}
theorem ell2_ok (C : Cx w mean mg mb cs outer A₀ base h₀ L m s news) (hdp : dp + 1 < recursionLimit) (hun : un + 8 < cLine) (y z : Str) (t1 t2 : Tok) (h : EllOk y z)
  (hret : ∀ x h' tk', x = heldB y z → Fr h₀ L h' m → News h₀ L h' news → Q (.bool x) {s with heap := h', toks := tk'}) :
  wpAny (model PySem.Challenge.rw_sn0034_01.row.prog w) (ktrTop dp un gd cn cs L ad ccd cl outer) (call (.ref 101) [.str (wantF y) t1, .str (gotF z) t2]) Q E s :=
  ell_ok C hdp hun _ _ _ t1 t2 h.mark h.split h.w h.g h.w0 h.p h.f hret
theorem rules_P13_3 : True := by
  k_with "call ref" => (k_here; (with_reducible show wpAny _ _ (call (Value.ref 101) _) _ _ _); (refine' ell2_ok ⟨?k1, ?k2, ?k3, ?k4, ?k5, ?k6⟩ ?k7 ?k8 _ _ _ _ ?k9 ?_; (case k1 => k_asm); (case k2 => k_asm); (case k3 => k_asm); (case k4 => k_asm); (case k5 => k_asm); (case k6 => rfl); (case k7 => ktr_room); (case k8 => ktr_units); (case k9 => exact RowsOk.ell (by assumption) _ _ (by omega) (by omega)); k_whole); intro x'k h'k tk'k e'k F'k N'k; subst e'k)
  trivial
set_option maxRecDepth 100000 in
set_option maxHeartbeats 8000000 in
theorem held_ok (C : Cx w mean mg mb cs outer A₀ base h₀ L m s news) (hdp : dp + 2 < recursionLimit) (hun : un + 16 < cLine) (r : Addr) (vs : List Value) (xs : List Str) (cell b : Int) (t1 t2 : Tok)
  (hl : s.heap.IsList r vs.toArray) (hs : StrsAre vs xs) (hx : RowsOk xs) (h0 : 0 ≤ cell) (hm0 : cell.fmod b ≠ 0 → 1 ≤ cell) (h1 : cell < xs.length) (hb : 0 < b) (hn : xs.length ≤ 6)
  (hret : ∀ x h' tk', x = heldF xs cell b → Fr h₀ L h' m → News h₀ L h' news → Q (.bool x) {s with heap := h', toks := tk'}) :
  wpAny (model PySem.Challenge.rw_sn0034_01.row.prog w) (ktrTop dp un gd cn cs L ad ccd cl outer) (call (.ref 146) [.ref r, .int cell t1, .int b t2]) Q E s := by
  refine wpAny_call ?_
  walk_at "my enter"
  rename _ = s.heap => hgs
  rw [← hgs] at hl
  k_steps
  all_goals (rename Own _ _ _ _ _ => O9; rename Fr _ _ _ _ => F9; rename News _ _ _ _ => N9)
  all_goals (have bk := O9.back F9 N9)
  all_goals (show Q (Value.bool _) _; refine hret _ _ _ ?_ bk.1 bk.2.1)
  all_goals with_reducible first
    | exact held_f1 (by assumption) (by assumption)
    | exact held_f2 (by assumption) (by assumption)
    | exact held_t (by first | exact .inl (by assumption) | exact .inr (by assumption)) (by first | exact .inl (by assumption) | exact .inr (by assumption))
end Mine
end Part_P13
section Part_P14
namespace Mine
abbrev Pile := List Nat
abbrev CR : Str := Str.ofString "\r\n"
def rowsOf (p : Pile) : List Str := (List.range p.length).map fun i => row (p.getD i 0 + 1) i
def pageOf (p : Pile) : Str := Txt.join CR (rowsOf p)
def held (p : Pile) (cell b : Nat) : Bool :=
  !(decide (b ≤ cell) && !decide (p.getD cell 0 ≤ p.getD (cell - b) 0)) && !(decide (cell % b ≠ 0) && !decide (p.getD cell 0 ≤ p.getD (cell - 1) 0))
def grow (p : Pile) (cell : Nat) : Pile := p.set cell (p.getD cell 0 + 1)
def step (b c : Nat) (p : Pile) (st : List Pile × List Pile) (cell : Nat) : List Pile × List Pile :=
  if p.getD cell 0 < c then (if grow p cell ∈ st.2 then st else if held (grow p cell) cell b then (st.1 ++ [grow p cell], st.2 ++ [grow p cell]) else st) else st
def pick (nw : Bool) (ws : List Pile) : Pile × List Pile := if nw then (ws.getLastD [], ws.dropLast) else (ws.headD [], ws.tail)
def run (b c : Nat) (order : List Nat) (nw : Bool) : Nat → List Pile × List Pile → Option (List Pile)
  | 0, _ => none
  | k + 1, (ws, ss) => if ws.isEmpty then some ss else run b c order nw k (order.foldl (step b c (pick nw ws).1) ((pick nw ws).2, ss))
def lists (c : Nat) : Nat → List Pile
  | 0 => [[]]
  | n + 1 => (lists c n).flatMap fun p => (List.range (c + 1)).map fun h => h :: p
structure Good (n c : Nat) (p : Pile) : Prop where
  len : p.length = n
  le : ∀ h ∈ p, h ≤ c
theorem mem_lists {c : Nat} : ∀ {n : Nat} {p : Pile}, Good n c p → p ∈ lists c n
  | 0, p, g => by
    have := g.len
    rw [List.length_eq_zero_iff] at this
    subst this
    exact List.mem_singleton.mpr rfl
  | n + 1, p, g => by
    match p, g with
    | h :: r, g =>
      refine List.mem_flatMap.mpr ⟨r, mem_lists ⟨Nat.succ.inj g.len, fun x hx => g.le x (.tail _ hx)⟩, ?_⟩
      exact List.mem_map.mpr ⟨h, List.mem_range.mpr (Nat.lt_succ_of_le (g.le h (.head _))), rfl⟩
def sizes : List (Nat × Nat) := [(4, 1), (2, 2), (2, 4), (4, 2), (3, 3), (6, 1), (3, 2), (2, 3), (1, 4)]
def okSize (n c : Nat) : Bool := (lists c n).all fun p => decide (Txt.split (pageOf p) CR = rowsOf p)
def okAll : Bool := sizes.all fun q => okSize q.1 q.2
set_option maxRecDepth 100000 in
theorem ok_size0 : okSize 4 1 = true := by decide +kernel
set_option maxRecDepth 100000 in
theorem ok_size1 : okSize 2 2 = true := by decide +kernel
set_option maxRecDepth 100000 in
theorem ok_size2 : okSize 2 4 = true := by decide +kernel
set_option maxRecDepth 100000 in
theorem ok_size3 : okSize 4 2 = true := by decide +kernel
set_option maxRecDepth 100000 in
theorem ok_size4 : okSize 3 3 = true := by decide +kernel
set_option maxRecDepth 100000 in
theorem ok_size5 : okSize 6 1 = true := by decide +kernel
set_option maxRecDepth 100000 in
theorem ok_size6 : okSize 3 2 = true := by decide +kernel
set_option maxRecDepth 100000 in
theorem ok_size7 : okSize 2 3 = true := by decide +kernel
set_option maxRecDepth 100000 in
theorem ok_size8 : okSize 1 4 = true := by decide +kernel
theorem ok_all : okAll = true := by
  simp only [okAll, sizes, List.all_cons, List.all_nil, ok_size0, ok_size1, ok_size2, ok_size3, ok_size4, ok_size5, ok_size6, ok_size7, ok_size8, Bool.and_self]
theorem split_page {n c : Nat} {p : Pile} (hs : (n, c) ∈ sizes) (g : Good n c p) : Txt.split (pageOf p) CR = rowsOf p := by
  have h := ok_all
  unfold okAll at h
  have h1 := List.all_eq_true.mp h _ hs
  have h2 := List.all_eq_true.mp h1 _ (mem_lists g)
  exact of_decide_eq_true h2
theorem size_le {n c : Nat} (hs : (n, c) ∈ sizes) : n ≤ 6 ∧ c ≤ 4 ∧ 1 ≤ n ∧ 1 ≤ c := by
  have : ∀ q ∈ sizes, q.1 ≤ 6 ∧ q.2 ≤ 4 ∧ 1 ≤ q.1 ∧ 1 ≤ q.2 := by decide
  exact this _ hs
theorem row_len (k l : Nat) : (row k l).length = k + 1 := by
  show ((Array.replicate k 46).push (97 + l)).size = _
  simp
theorem rowsOf_len (p : Pile) : (rowsOf p).length = p.length := by simp [rowsOf]
theorem rowsOf_get (p : Pile) (i : Nat) (h : i < p.length) : (rowsOf p)[i]? = some (row (p.getD i 0 + 1) i) := by
  simp [rowsOf, h]
theorem rowsOf_getD (p : Pile) (i : Nat) (h : i < p.length) : (rowsOf p).getD i Str.empty = row (p.getD i 0 + 1) i := by
  rw [List.getD_eq_getElem?_getD, rowsOf_get p i h]; rfl
theorem rows_inj {p q : Pile} (e : rowsOf p = rowsOf q) : p = q := by
  have l : p.length = q.length := by rw [← rowsOf_len, ← rowsOf_len, e]
  refine List.ext_getElem l fun i h1 h2 => ?_
  have a := rowsOf_getD p i h1
  rw [e, rowsOf_getD q i h2] at a
  have b := congrArg Str.length a
  rw [row_len, row_len] at b
  simp only [List.getD_eq_getElem?_getD, List.getElem?_eq_getElem h1, List.getElem?_eq_getElem h2, Option.getD_some] at b
  omega
theorem page_inj {n c : Nat} {p q : Pile} (hs : (n, c) ∈ sizes) (g : Good n c p) (g' : Good n c q) (e : pageOf p = pageOf q) : p = q :=
  rows_inj (by rw [← split_page hs g, ← split_page hs g', e])
theorem page_mem {n c : Nat} {p : Pile} {ss : List Pile} (hs : (n, c) ∈ sizes) (g : Good n c p) (gs : ∀ q ∈ ss, Good n c q) : pageOf p ∈ ss.map pageOf ↔ p ∈ ss := by
  constructor
  · intro h
    obtain ⟨q, hq, e⟩ := List.mem_map.mp h
    rw [← page_inj hs (gs q hq) g e]; exact hq
  · exact List.mem_map_of_mem
theorem grow_good {n c cell : Nat} {p : Pile} (g : Good n c p) (h : p.getD cell 0 < c) : Good n c (grow p cell) := by
  refine ⟨by simp [grow, g.len], fun x hx => ?_⟩
  rcases List.mem_or_eq_of_mem_set hx with hx | rfl
  · exact g.le x hx
  · omega
theorem rows_grow (p : Pile) (cell : Nat) (h : cell < p.length) : rowsOf (grow p cell) = (rowsOf p).set cell (row (p.getD cell 0 + 2) cell) := by
  refine List.ext_getElem? fun i => ?_
  by_cases hi : i < p.length
  · have h' : i < (grow p cell).length := by simpa [grow] using hi
    rw [rowsOf_get _ _ h', List.getElem?_set]
    by_cases e : cell = i
    · subst e
      have : cell < (rowsOf p).length := by rw [rowsOf_len]; exact h
      simp [grow, h, this]
    · rw [if_neg e, rowsOf_get _ _ hi]
      simp [grow, e]
  · have h' : (rowsOf (grow p cell)).length ≤ i := by rw [rowsOf_len]; simp [grow]; omega
    have h'' : ((rowsOf p).set cell (row (p.getD cell 0 + 2) cell)).length ≤ i := by rw [List.length_set, rowsOf_len]; omega
    rw [List.getElem?_eq_none h', List.getElem?_eq_none h'']
def bang (k : Nat) : Str := ⟨Array.replicate k 33⟩
theorem body_row : ∀ k < 7, ∀ l < 6, bodyF (row k l) = bang k := by decide +kernel
def oneOk (k l : Nat) : Bool :=
  !(Builtin.Str.occurrences (wantF (row k l)) (Str.ofString "...") 0 (wantF (row k l)).length 1).isEmpty && decide (Txt.split (wantF (row k l)) (Str.ofString "...") = [bodyF (row k l), Str.ofString ""])
    && decide ((wantF (row k l)).length ≤ 20) && decide ((gotF (row k l)).length ≤ 20) && decide ((bodyF (row k l)).length ≤ 20) && (k == 0 || decide (1 ≤ (bodyF (row k l)).length))
theorem one_ok : ∀ k < 6, ∀ l < 6, oneOk k l = true := by decide +kernel
def findB (got w0 : Str) : Bool := !Txt.startswith got w0 || (decide (f4 got (Str.ofString "") w0.length got.length = w0.length) && decide (w0.length ≤ got.length))
theorem find_of {got w0 : Str} (h : findB got w0 = true) : FindOk got w0 := by
  intro e
  unfold findB at h
  rw [e] at h
  simpa using h
theorem two_ok : ∀ k < 6, ∀ k' < 6, ∀ l' < 6, (findB (gotF (row k' l')) (bang k) = true ∧ Txt.startswith (gotF (row k' l')) (bang k) = decide (k ≤ k')) := by decide +kernel
theorem heldB_rows {k l k' l' : Nat} (h : k < 6) (hl : l < 6) (h' : k' < 6) (hl' : l' < 6) : heldB (row k l) (row k' l') = decide (k ≤ k') := by
  show Txt.startswith (gotF (row k' l')) (bodyF (row k l)) = _
  rw [body_row k (by omega) l hl]
  exact (two_ok k h k' h' l' hl').2
theorem ell_rows {k l k' l' : Nat} (h0 : 1 ≤ k) (h : k < 6) (hl : l < 6) (h' : k' < 6) (hl' : l' < 6) : EllOk (row k l) (row k' l') := by
  have a := one_ok k h l hl
  have b := one_ok k' h' l' hl'
  have c := two_ok k h k' h' l' hl'
  have d := body_row k (by omega) l hl
  unfold oneOk at a b
  simp only [Bool.and_eq_true, Bool.not_eq_true', decide_eq_true_eq, Bool.or_eq_true, beq_iff_eq] at a b
  refine ⟨a.1.1.1.1.1, a.1.1.1.1.2, a.1.1.1.2, b.1.1.2, a.1.2, ?_, by rw [d]; exact find_of c.1⟩
  rcases a.2 with q | q
  · omega
  · exact q
theorem getD_le {n c : Nat} {p : Pile} (g : Good n c p) (i : Nat) : p.getD i 0 ≤ c := by
  rw [List.getD_eq_getElem?_getD]
  cases e : p[i]? with
  | none => exact Nat.zero_le _
  | some x => exact g.le x (List.mem_of_getElem? e)
theorem rows_ok {n c : Nat} {p : Pile} (hs : (n, c) ∈ sizes) (g : Good n c p) : RowsOk (rowsOf p) := by
  obtain ⟨h1, h2, _, _⟩ := size_le hs
  have hl := g.len
  have key : ∀ i, (rowsOf p).getD i Str.empty = Str.empty ∨ ∃ k l, k < 6 ∧ l < 6 ∧ (rowsOf p).getD i Str.empty = row k l := fun i => by
    by_cases hi : i < p.length
    · right
      have := getD_le g i
      exact ⟨_, _, by omega, by omega, rowsOf_getD p i hi⟩
    · left
      rw [List.getD_eq_getElem?_getD, List.getElem?_eq_none (by rw [rowsOf_len]; omega)]
      rfl
  have e0 : Str.empty.length ≤ 1048576 ∧ (gotF Str.empty).length ≤ 16777216 ∧ (bodyF Str.empty).length + (Str.ofString "...").length ≤ 16777216 := by decide +kernel
  have d3 : (Str.ofString "...").length = 3 := by decide +kernel
  refine ⟨fun i => ?_, fun i => ?_, fun i => ?_, fun i j hi hj => ?_⟩
  · rcases key i with e | ⟨k, l, hk, hl, e⟩
    · rw [e]; exact e0.1
    · rw [e, row_len]; omega
  · rcases key i with e | ⟨k, l, hk, hl, e⟩
    · rw [e]; exact e0.2.1
    · have a := one_ok k hk l hl
      unfold oneOk at a
      simp only [Bool.and_eq_true, decide_eq_true_eq] at a
      rw [e]; have := a.1.1.2; omega
  · rcases key i with e | ⟨k, l, hk, hl, e⟩
    · rw [e]; exact e0.2.2
    · have a := one_ok k hk l hl
      unfold oneOk at a
      simp only [Bool.and_eq_true, decide_eq_true_eq] at a
      rw [e, d3]; have := a.1.2; omega
  · rw [rowsOf_len] at hi hj
    have := getD_le g i
    have := getD_le g j
    rw [rowsOf_getD p i hi, rowsOf_getD p j hj]
    exact ell_rows (by omega) (by omega) (by omega) (by omega) (by omega)
theorem held_rows {n c : Nat} {p : Pile} (hs : (n, c) ∈ sizes) (g : Good n c p) {cell b : Nat} (hc : cell < n) (hb : 0 < b) : heldF (rowsOf p) (cell : Int) (b : Int) = held p cell b := by
  obtain ⟨h1, h2, _, _⟩ := size_le hs
  have hl := g.len
  have l1 := getD_le g cell
  have fm : Int.fmod (cell : Int) (b : Int) = ((cell % b : Nat) : Int) := by
    rw [Int.fmod_eq_emod_of_nonneg _ (by omega)]; rfl
  have e1 : (rowsOf p).getD (cell : Int).toNat Str.empty = row (p.getD cell 0 + 1) cell := rowsOf_getD p cell (by omega)
  have e2 : ((cell : Int) - (b : Int)).toNat = cell - b := by omega
  have e3 : ((cell : Int) - 1).toNat = cell - 1 := by omega
  have at_ : ∀ j, j < n → heldB (row (p.getD cell 0 + 1) cell) ((rowsOf p).getD j Str.empty) = decide (p.getD cell 0 ≤ p.getD j 0) := fun j hj => by
    have := getD_le g j
    rw [rowsOf_getD p j (by omega), heldB_rows (by omega) (by omega) (by omega) (by omega)]
    exact decide_eq_decide.mpr (by omega)
  unfold heldF held
  rw [e1, e2, e3, at_ _ (by omega), at_ _ (by omega), fm]
  have d1 : decide ((cell : Int) ≥ (b : Int)) = decide (b ≤ cell) := decide_eq_decide.mpr (by omega)
  have d2 : decide (((cell % b : Nat) : Int) ≠ 0) = decide (cell % b ≠ 0) := decide_eq_decide.mpr (by omega)
  rw [d1, d2]
end Mine
end Part_P14
section Part_P14b
set_option maxRecDepth 100000
namespace Mine
theorem CompEnd.mono {h₀ : Heap} {L I C D : Addr} {m : Str → Option Value} {s₁ s₂ : Shared} {oI oC oD : Obj} {S : List (Addr × Obj) → Prop} {r r' : Value → List (Addr × Obj) → Prop} {y : Value} (k : ∀ y n, r y n → r' y n)
    (h : LCg.CompEnd h₀ L m s₁ I oI C oC D oD S r y s₂) : LCg.CompEnd h₀ L m s₁ I oI C oC D oD S r' y s₂ :=
  let ⟨h', tk, nw, a, b, c, d, e, f⟩ := h
  ⟨h', tk, nw, a, b, c, d, e, k _ _ f⟩
section
variable {prog : Program} {w : World} {A : Around} {h₀ : Heap} {L : Addr} {m : Str → Option Value} {env : Env} {elt : Expr} {x : Str} {scope : Scope} {cl : List (Str × Addr)} {s : Shared} {S : List (Addr × Obj) → Prop} {P : Nat → Value → Prop} {Fin : List Value → List (Addr × Obj) → Prop} {n : Nat} {news : List (Addr × Obj)}
theorem comp_from (J : Nat → List Value → List (Addr × Obj) → Prop)
    (turn : ∀ i v I oI C oC D m₂ h tk (E' : Value → Shared → Prop) ys nw, i < n → J i ys nw → P i v → LCg.NsObj oC m₂ → m₂ x = some v → Fr h₀ L h m → News h₀ L h ((I, oI) :: (C, oC) :: (D, LCg.lst ys) :: nw) → LCg.Off3 I C D nw → ((@Ne Nat I C) ∧ (@Ne Nat I D) ∧ (@Ne Nat C D)) →
      wpAny (model prog w) A (eval elt (compEnvC scope cl C env)) (LCg.CompEnd h₀ L m { s with heap := h, toks := tk } I oI C oC D (LCg.lst ys) S (fun y nw' => J (i + 1) (ys ++ [y]) nw')) E' { s with heap := h, toks := tk })
    (done : ∀ ys nw, J n ys nw → Fin ys nw) : ∀ k i ys nw, i + k = n → J i ys nw → LCg.CompRest prog w A h₀ L m env elt x scope cl s S P Fin k i ys nw
  | 0, i, ys, nw, e, j => LCg.CompRest.zero (done _ _ (by rw [Nat.add_zero] at e; exact e ▸ j))
  | k + 1, i, ys, nw, e, j => LCg.CompRest.succ fun v I oI C oC D m₂ h tk E' h1 h2 h3 h4 h5 h6 h7 =>
    wpAny_mono (turn i v I oI C oC D m₂ h tk E' ys nw (by omega) j h1 h2 h3 h4 h5 h6 h7) (fun y s' z => CompEnd.mono (fun y nw' j' => comp_from J turn done k (i + 1) _ _ (by omega) j') z) fun _ _ e => e
theorem comp_ind (J : Nat → List Value → List (Addr × Obj) → Prop) (h0 : J 0 [] news)
    (turn : ∀ i v I oI C oC D m₂ h tk (E' : Value → Shared → Prop) ys nw, i < n → J i ys nw → P i v → LCg.NsObj oC m₂ → m₂ x = some v → Fr h₀ L h m → News h₀ L h ((I, oI) :: (C, oC) :: (D, LCg.lst ys) :: nw) → LCg.Off3 I C D nw → ((@Ne Nat I C) ∧ (@Ne Nat I D) ∧ (@Ne Nat C D)) →
      wpAny (model prog w) A (eval elt (compEnvC scope cl C env)) (LCg.CompEnd h₀ L m { s with heap := h, toks := tk } I oI C oC D (LCg.lst ys) S (fun y nw' => J (i + 1) (ys ++ [y]) nw')) E' { s with heap := h, toks := tk })
    (done : ∀ ys nw, J n ys nw → Fin ys nw) : LCg.CompRest prog w A h₀ L m env elt x scope cl s S P Fin n 0 [] news := comp_from J turn done n 0 [] news (Nat.zero_add n) h0
end
theorem item_row : ∀ i : Nat, i < 6 → Str.ofString "." ++ Txt.item (Str.ofString "abcdef") (0 + (i : Int)) = row 1 i := by decide +kernel
theorem strs_app {vs ws : List Value} {xs ys : List Str} (h : StrsAre vs xs) (k : StrsAre ws ys) : StrsAre (vs ++ ws) (xs ++ ys) := by
  induction h with
  | nil => exact k
  | cons x t r ih => exact .cons x t ih
theorem snoc_row {ys : List Value} {i : Nat} {t : Tok} (h : StrsAre ys ((List.range i).map (row 1))) (hi : i < 6) :
    StrsAre (ys ++ [Value.str (Str.ofString "." ++ Txt.item (Str.ofString "abcdef") (0 + (i : Int))) t]) ((List.range (i + 1)).map (row 1)) := by
  rw [item_row i hi, List.range_succ, List.map_append]
  exact strs_app h (.cons _ _ .nil)
theorem rangeN {k : Int} {n : Nat} (e : k = (n : Int)) (h : n ≤ 64) : Builtin.Range.small 0 k 1 = true ∧ Builtin.Range.rangeSize 0 k 1 = ((n : Nat) : Int) := by
  subst e
  have e : Builtin.Range.rangeSize 0 (n : Int) 1 = (n : Int) := by
    unfold Builtin.Range.rangeSize
    rw [if_pos (by decide)]
    split <;> omega
  refine ⟨?_, e⟩
  have f : ∀ i : Int, 0 ≤ i → i ≤ 64 → Builtin.Range.rangeFitsLong i = true := fun i h1 h2 => by
    unfold Builtin.Range.rangeFitsLong
    have p : (2 : Int) ^ 63 = 9223372036854775808 := by decide
    simp only [Bool.and_eq_true, decide_eq_true_eq, p]
    omega
  unfold Builtin.Range.small
  rw [e, f 0 (by omega) (by omega), f n (by omega) (by omega), f 1 (by omega) (by omega), if_pos (by decide), f _ (by omega) (by omega)]
  simp
theorem rows_zero (n : Nat) : (List.range n).map (row 1) = rowsOf (List.replicate n 0) := by
  unfold rowsOf
  rw [List.length_replicate]
  refine List.map_congr_left fun i hi => ?_
  have := List.mem_range.mp hi
  rw [List.getD_eq_getElem?_getD, List.getElem?_replicate_of_lt this]; rfl
theorem good_zero (n c : Nat) : Good n c (List.replicate n 0) := ⟨List.length_replicate, fun h hh => by rw [List.eq_of_mem_replicate hh]; exact Nat.zero_le _⟩
theorem sum_leN {l : List Nat} {k : Nat} (h : ∀ x ∈ l, x ≤ k) : l.sum ≤ l.length * k := by
  induction l with
  | nil => simp
  | cons a r ih =>
    have h1 := h a (.head _)
    have h2 := ih fun x hx => h x (.tail _ hx)
    simp only [List.sum_cons, List.length_cons, Nat.add_mul, Nat.one_mul]
    omega
theorem page_weight {n c : Nat} {p : Pile} (hs : (n, c) ∈ sizes) (g : Good n c p) : ((rowsOf p).map (·.length)).sum + (rowsOf p).length ≤ 1048576 := by
  obtain ⟨h1, h2, _, _⟩ := size_le hs
  have hl := g.len
  have := sum_leN (l := (rowsOf p).map (·.length)) (k := 6) fun x hx => by
    obtain ⟨y, hy, rfl⟩ := List.mem_map.mp hx
    obtain ⟨i, hi, rfl⟩ := List.mem_map.mp hy
    have := getD_le g i
    rw [row_len]; omega
  rw [List.length_map, rowsOf_len] at this
  rw [rowsOf_len]
  omega
def Stop (P : Prop) : Prop := P
theorem stop_ {P : Prop} (h : Stop P) : P := h

section
variable {prog : Program} {w : World} {A : Around} {E : Value → Shared → Prop} {s : Shared} {Q : Value → Shared → Prop}
theorem ne_nil_t {a b : Addr} {vs : List Value} {n n' : Nat} (ha : s.heap.get? a = some (listOf vs.toArray n)) (hb : s.heap.get? b = some (listOf ([] : List Value).toArray n')) (hz : vs.length ≠ 0) (hu : A.units + 64 < cLine) (h : Q (.bool true) s) :
    wpAny (model prog w) A (compareOp .NotEq (.ref a) (.ref b)) Q E s := by
  show wpAny _ _ (richCompare .NotEq _ _) _ _ _
  exact richCompare_meets_room (op := .NotEq) ⟨_, ha, rfl⟩ ⟨_, hb, rfl⟩ F.slot_list_ne F.entry_list_ne (F.args_list_ne_2 _ _) (PySem.SeqAt.list_ne_lengthsAt a b _ _ n n' _ _ _ _ (by simpa using hz)) ⟨ha, hb, ⟨(fun z => nomatch z), h⟩⟩ (by omega)
theorem ne_nil_f {a b : Addr} {n n' : Nat} (ha : s.heap.get? a = some (listOf ([] : List Value).toArray n)) (hb : s.heap.get? b = some (listOf ([] : List Value).toArray n')) (hu : A.units + 64 < cLine) (h : Q (.bool false) s) :
    wpAny (model prog w) A (compareOp .NotEq (.ref a) (.ref b)) Q E s := by
  show wpAny _ _ (richCompare .NotEq _ _) _ _ _
  exact richCompare_meets_room (op := .NotEq) ⟨_, ha, rfl⟩ ⟨_, hb, rfl⟩ F.slot_list_ne F.entry_list_ne (F.args_list_ne_2 _ _) (PySem.SeqAt.list_neAt a b _ _ n n' _ _ _ _ rfl fun _ => true) ⟨ha, hb, fun j h1 => absurd h1 (Nat.not_lt_zero _), ⟨(fun z => nomatch z), h⟩⟩ (by omega)
end
structure Piles (n c : Nat) (S W : Addr) (ws ss : List Pile) (nx : List (Addr × Obj)) : Prop where
  at_ : ∃ wvs svs wn sn, nx = [(S, listOf svs.toArray sn), (W, listOf wvs.toArray wn)] ∧ StrsAre wvs (ws.map pageOf) ∧ StrsAre svs (ss.map pageOf)
  gw : ∀ q ∈ ws, Good n c q
  gs : ∀ q ∈ ss, Good n c q
  le : ws.length ≤ ss.length
def JW (n b c : Nat) (S W : Addr) (m₀ : Str → Option Value) (order : List Nat) (nw : Bool) (res : List Pile) (k : Nat) (m : Str → Option Value) (nx : List (Addr × Obj)) : Prop :=
  ∃ (ws ss : List Pile) (u : Str → Option Value), Piles n c S W ws ss nx ∧ run b c order nw k (ws, ss) = some res ∧ ss.length + 6 * k ≤ 1000 ∧
    m = fun z => if z = Str.ofString "grown" then u z else if z = Str.ofString "rows" then u z else if z = Str.ofString "cell" then u z else if z = Str.ofString "page" then u z else m₀ z
def JF (n b c : Nat) (S W : Addr) (m₀ : Str → Option Value) (order : List Nat) (p : Pile) (st : List Pile × List Pile) (i : Nat) (m : Str → Option Value) (nx : List (Addr × Obj)) : Prop :=
  ∃ (ws ss : List Pile) (u : Str → Option Value), Piles n c S W ws ss nx ∧ (order.take i).foldl (step b c p) st = (ws, ss) ∧ ss.length ≤ st.2.length + i ∧
    m = fun z => if z = Str.ofString "grown" then u z else if z = Str.ofString "rows" then u z else if z = Str.ofString "cell" then u z else m₀ z
section
variable {prog : Program} {w : World} {A : Around} {E : Value → Shared → Prop} {s : Shared} {Q : Flow → Shared → Prop} {env : Env} {h₀ : Heap} {L : Addr}
theorem while_piles {test : Expr} {body : List Stmt} {pos : Pos} {m₀ : Str → Option Value} {S W D : Addr} {k : Nat} {o : Obj} {n b c : Nat} {order : List Nat} {nw : Bool} {res : List Pile} {t t' : Tok}
    (F : Fr h₀ L s.heap m₀) (N : News h₀ L s.heap [(S, listOf #[.str (pageOf (List.replicate n 0)) t] 0), (W, listOf #[.str (pageOf (List.replicate n 0)) t'] 0), (D, o)])
    (hk : 6 * k ≤ 900) (hr : run b c order nw k ([List.replicate n 0], [List.replicate n 0]) = some res)
    (turn : ∀ k m₁ wvs svs wn sn ws ss h₁ tk₁, Fr h₀ L h₁ m₁ → News h₀ L h₁ [(S, listOf svs.toArray sn), (W, listOf wvs.toArray wn)] → StrsAre wvs (ws.map pageOf) → StrsAre svs (ss.map pageOf) → (∀ q ∈ ws, Good n c q) → (∀ q ∈ ss, Good n c q) → ws.length ≤ ss.length →
      run b c order nw k (ws, ss) = some res → ss.length + 6 * k ≤ 1000 → (∃ u : Str → Option Value, m₁ = fun z => if z = Str.ofString "grown" then u z else if z = Str.ofString "rows" then u z else if z = Str.ofString "cell" then u z else if z = Str.ofString "page" then u z else m₀ z) →
      wpAny (model prog w) A (isTrue test env (eval test env)) (fun b' s₂ =>
        if b' = true then wpAny (model prog w) A (execs body env) (WhileStep h₀ L s (JW n b c S W m₀ order nw res) k) E s₂ else Q .next s₂) E { s with heap := h₁, toks := tk₁ })
    (hE : PassesOwn (model prog w) A env E := by passes_own) :
    wpAny (model prog w) A (exec (.While test body [] pos) env) Q E s := by
  refine While_inv (JW n b c S W m₀ order nw res) (n₀ := k) F (news := [(S, listOf #[.str (pageOf (List.replicate n 0)) t] 0), (W, listOf #[.str (pageOf (List.replicate n 0)) t'] 0)]) (fun p hp => N p (by
    rcases List.mem_cons.mp hp with rfl | hp
    · exact .head _
    · exact .tail _ (by rw [List.mem_singleton.mp hp]; exact .head _))) ?_ ?_ hE
  · refine ⟨[List.replicate n 0], [List.replicate n 0], m₀, ⟨⟨[_], [_], 0, 0, rfl, .cons _ _ .nil, .cons _ _ .nil⟩, ?_, ?_, Nat.le_refl _⟩, hr, ?_, ?_⟩
    · intro q hq; rw [List.mem_singleton.mp hq]; exact good_zero n c
    · intro q hq; rw [List.mem_singleton.mp hq]; exact good_zero n c
    · simp only [List.length_singleton]; omega
    · funext z; simp only [ite_self]
  · rintro k m₁ nx h₁ tk₁ F₁ N₁ ⟨ws, ss, u, ⟨⟨wvs, svs, wn, sn, rfl, h1, h2⟩, h3, h4, h5⟩, h6, h7, h8⟩
    exact turn k m₁ wvs svs wn sn ws ss h₁ tk₁ F₁ N₁ h1 h2 h3 h4 h5 h6 h7 ⟨u, h8⟩
end
theorem strs_cons {vs : List Value} {p : Pile} {wr : List Pile} (h : StrsAre vs ((p :: wr).map pageOf)) : ∃ t q, vs = .str (pageOf p) t :: q ∧ StrsAre q (wr.map pageOf) := by
  cases h with
  | cons x t r => exact ⟨t, _, rfl, r⟩
theorem strs_last {ws : List Pile} : ∀ {vs : List Value}, StrsAre vs (ws.map pageOf) → ws ≠ [] → ∃ t q, vs = q ++ [.str (pageOf (ws.getLastD [])) t] ∧ StrsAre q (ws.dropLast.map pageOf) := by
  induction ws with
  | nil => intro vs h e; exact absurd rfl e
  | cons p wr ih =>
    intro vs h _
    obtain ⟨t, q, rfl, hq⟩ := strs_cons h
    cases wr with
    | nil =>
      cases hq
      exact ⟨t, [], rfl, .nil⟩
    | cons p' wr' =>
      obtain ⟨t', q', e, hq'⟩ := ih hq (by simp)
      exact ⟨t', .str (pageOf p) t :: q', by rw [e]; rfl, .cons _ _ hq'⟩
section
variable {prog : Program} {w : World} {A : Around} {E : Value → Shared → Prop} {s : Shared} {Q : Value → Shared → Prop} {h₀ : Heap} {L D : Addr} {m : Str → Option Value} {news news' : List (Addr × Obj)} {n : Nat} {q : List Value} {v : Value}
theorem pop_first {u : Tok} (F : Fr h₀ L s.heap m) (N : News h₀ L s.heap news) (U : Upd D (listOf (v :: q).toArray n) (listOf q.toArray (n + 1)) news news') (hz : q.length ≤ 2000)
    (h : ∀ h', Fr h₀ L h' m → News h₀ L h' news' → Q v { s with heap := h' }) : wpAny (model prog w) A (call (.builtin "list.pop") [.ref D, .int 0 u]) Q E s := by
  refine kl_popAt (k := 0) (p := []) (q := q) F N (by decide) ?_ rfl U (by rw [sizeLine_eq]; simp; omega) h
  simp [seqIndex?]
theorem pop_last (F : Fr h₀ L s.heap m) (N : News h₀ L s.heap news) (U : Upd D (listOf (q ++ [v]).toArray n) (listOf q.toArray (n + 1)) news news') (hz : q.length ≤ 2000)
    (h : ∀ h', Fr h₀ L h' m → News h₀ L h' news' → Q v { s with heap := h' }) : wpAny (model prog w) A (call (.builtin "list.pop") [.ref D]) Q E s :=
  kl_pop F N (p := q) (y := v) (kpa_last v q) U (by rw [sizeLine_eq]; simp; omega) h
end
theorem run_cons {b c : Nat} {order : List Nat} {nw : Bool} {res : List Pile} {p : Pile} {wr ss : List Pile} : ∀ {k : Nat}, run b c order nw k (p :: wr, ss) = some res →
    ∃ k₂, k = k₂ + 1 ∧ run b c order nw k₂ (order.foldl (step b c (pick nw (p :: wr)).1) ((pick nw (p :: wr)).2, ss)) = some res
  | 0, h => nomatch h
  | k + 1, h => ⟨k, rfl, h⟩
theorem run_nil {b c : Nat} {order : List Nat} {nw : Bool} {res : List Pile} {ss : List Pile} : ∀ {k : Nat}, run b c order nw k ([], ss) = some res → ss = res
  | 0, h => nomatch h
  | _ + 1, h => Option.some.inj h
theorem pick_good {n c : Nat} {p : Pile} {wr : List Pile} (nw : Bool) (h : ∀ q ∈ p :: wr, Good n c q) : Good n c (pick nw (p :: wr)).1 ∧ (∀ q ∈ (pick nw (p :: wr)).2, Good n c q) ∧ (pick nw (p :: wr)).2.length = wr.length := by
  cases nw with
  | false => exact ⟨h _ (.head _), fun q hq => h q (.tail _ hq), rfl⟩
  | true =>
    refine ⟨?_, fun q hq => h q (List.dropLast_subset _ hq), by show (List.dropLast (p :: wr)).length = _; simp⟩
    have e : (pick true (p :: wr)).1 = (p :: wr).getLast (by simp) := by show (p :: wr).getLastD [] = _; rw [List.getLastD_eq_getLast?, List.getLast?_eq_some_getLast (by simp)]; rfl
    rw [e]
    exact h _ (List.getLast_mem _)
theorem pick_strs {nw : Bool} {p : Pile} {wr : List Pile} {vs : List Value} (h : StrsAre vs ((p :: wr).map pageOf)) :
    ∃ t q, vs = (if nw then q ++ [.str (pageOf (pick nw (p :: wr)).1) t] else .str (pageOf (pick nw (p :: wr)).1) t :: q) ∧ StrsAre q ((pick nw (p :: wr)).2.map pageOf) := by
  cases nw with
  | false => exact strs_cons h
  | true => exact strs_last h (by simp)
section
variable {prog : Program} {w : World} {A : Around} {E : Value → Shared → Prop} {s : Shared} {Q : Flow → Shared → Prop} {env : Env} {h₀ : Heap}
theorem ints_at {order : List Nat} {i : Nat} {k : Int} (h : (order.map fun k : Nat => (k : Int))[i]? = some k) : ∃ c : Nat, order[i]? = some c ∧ k = (c : Int) := by
  rw [List.getElem?_map] at h
  cases e : order[i]? with
  | none => rw [e] at h; cases h
  | some c => rw [e] at h; exact ⟨c, rfl, (Option.some.inj h).symm⟩
theorem for_piles {body : List Stmt} {m₁ : Str → Option Value} {l S W X : Addr} {vs svs q : List Value} {wn sn : Nat} {o : Obj} {n b c : Nat} {order : List Nat} {p : Pile} {ws ss : List Pile}
    (hh : A.handled = none) (hl : h₀.IsList l vs.toArray) (hi : IntsAre vs (order.map fun k : Nat => (k : Int)))
    (F : Fr h₀ env.locals s.heap m₁) (N : News h₀ env.locals s.heap [(X, o), (S, listOf svs.toArray sn), (W, listOf q.toArray wn)])
    (hwv : StrsAre q (ws.map pageOf)) (hsv : StrsAre svs (ss.map pageOf)) (hgw : ∀ q ∈ ws, Good n c q) (hgs : ∀ q ∈ ss, Good n c q) (hle : ws.length ≤ ss.length)
    (turn : ∀ (i cell : Nat) t (u : Str → Option Value) wvs svs wn sn ws' ss' h tk own, order[i]? = some cell → OwnOff own [S, W] → (order.take i).foldl (step b c p) (ws, ss) = (ws', ss') →
      Fr h₀ env.locals h (fun z => if z = Str.ofString "cell" then some (.int (cell : Int) t) else if z = Str.ofString "grown" then u z else if z = Str.ofString "rows" then u z else if z = Str.ofString "cell" then u z else m₁ z) →
      News h₀ env.locals h ((S, listOf svs.toArray sn) :: (W, listOf wvs.toArray wn) :: own) → StrsAre wvs (ws'.map pageOf) → StrsAre svs (ss'.map pageOf) → (∀ q ∈ ws', Good n c q) → (∀ q ∈ ss', Good n c q) → ws'.length ≤ ss'.length → ss'.length ≤ ss.length + i → i < order.length →
      wpAny (model prog w) A (execs body env) (InvPostN h₀ env.locals (JF n b c S W m₁ order p (ws, ss) (i + 1)) own [S, W] { s with heap := h, toks := tk } Q) E { s with heap := h, toks := tk })
    (done : ∀ (u : Str → Option Value) wvs svs wn sn ws' ss' h tk, order.foldl (step b c p) (ws, ss) = (ws', ss') → Fr h₀ env.locals h (fun z => if z = Str.ofString "grown" then u z else if z = Str.ofString "rows" then u z else if z = Str.ofString "cell" then u z else m₁ z) →
      News h₀ env.locals h [(S, listOf svs.toArray sn), (W, listOf wvs.toArray wn)] → StrsAre wvs (ws'.map pageOf) → StrsAre svs (ss'.map pageOf) → (∀ q ∈ ws', Good n c q) → (∀ q ∈ ss', Good n c q) → ws'.length ≤ ss'.length → ss'.length ≤ ss.length + order.length → Q .next { s with heap := h, toks := tk }) :
    wpAny (model prog w) A (pyIter (.ref l)) (fun it s₂ => LoopAtV prog w A h₀ env (Str.ofString "cell") body Q E it s₂) E s := by
  refine iter_invN (news := [(S, listOf svs.toArray sn), (W, listOf q.toArray wn)]) (JF n b c S W m₁ order p (ws, ss)) hh hl hi F (fun r hr => N r (.tail _ hr)) ?_ ?_ ?_
  · exact ⟨ws, ss, m₁, ⟨⟨q, svs, wn, sn, rfl, hwv, hsv⟩, hgw, hgs, hle⟩, rfl, by show ss.length ≤ ss.length + 0; omega, by funext z; simp only [ite_self]⟩
  · rintro i k t m' nx h tk own hk hadr hoff ⟨ws', ss', u, ⟨⟨wvs, svs', wn', sn', rfl, h1, h2⟩, h3, h4, h5⟩, h6, h7, rfl⟩ F₁ N₁
    obtain ⟨cell, hc, rfl⟩ := ints_at hk
    have hi' : i < order.length := by
      rcases Nat.lt_or_ge i order.length with q | q
      · exact q
      · rw [List.getElem?_eq_none q] at hc; cases hc
    exact turn i cell t u wvs svs' wn' sn' ws' ss' h tk own hc hoff h6 F₁ N₁ h1 h2 h3 h4 h5 h7 hi'
  · rintro m' nx h tk ⟨ws', ss', u, ⟨⟨wvs, svs', wn', sn', rfl, h1, h2⟩, h3, h4, h5⟩, h6, h7, rfl⟩ F₁ N₁
    rw [List.length_map] at h6 h7
    rw [List.take_length] at h6
    exact done u wvs svs' wn' sn' ws' ss' h tk h6 F₁ N₁ h1 h2 h3 h4 h5 h7
end
end Mine
end Part_P14b
section Part_P14c
set_option maxRecDepth 100000
namespace Mine
theorem page_len {n c : Nat} {p : Pile} (hs : (n, c) ∈ sizes) (g : Good n c p) : (pageOf p).length + 2 ≤ sizeLine := by
  have h := page_weight hs g
  obtain ⟨h1, h2, _, _⟩ := size_le hs
  have hl := g.len
  show (Builtin.Str.glued CR (rowsOf p)).length + 2 ≤ sizeLine
  rw [size_glued, sizeLine_eq, rowsOf_len]
  have e : CR.length = 2 := by decide +kernel
  have := sum_leN (l := (rowsOf p).map (·.length)) (k := 6) fun x hx => by
    obtain ⟨y, hy, rfl⟩ := List.mem_map.mp hx
    obtain ⟨i, hi, rfl⟩ := List.mem_map.mp hy
    have := getD_le g i
    rw [row_len]; omega
  rw [List.length_map, rowsOf_len] at this
  rw [e]
  omega
theorem grow_weight {n c : Nat} {p : Pile} (hs : (n, c) ∈ sizes) (g : Good n c p) (cell : Nat) : ((rowsOf (grow p cell)).map (·.length)).sum + (rowsOf (grow p cell)).length ≤ 1048576 := by
  obtain ⟨h1, h2, _, _⟩ := size_le hs
  have hl := g.len
  have gl : (grow p cell).length = p.length := by simp [grow]
  have g5 : Good n (c + 1) (grow p cell) := by
    refine ⟨by rw [gl, hl], fun x hx => ?_⟩
    have := getD_le g cell
    rcases List.mem_or_eq_of_mem_set hx with hx | rfl
    · have := g.le x hx; omega
    · omega
  have := sum_leN (l := (rowsOf (grow p cell)).map (·.length)) (k := 7) fun x hx => by
    obtain ⟨y, hy, rfl⟩ := List.mem_map.mp hx
    obtain ⟨i, hi, rfl⟩ := List.mem_map.mp hy
    have := getD_le g5 i
    rw [row_len]; omega
  rw [List.length_map, rowsOf_len] at this
  rw [rowsOf_len]
  omega
theorem good_of_lt {n c cell : Nat} {p : Pile} (g : Good n c p) (h : ((row (p.getD cell 0 + 1) cell).length : Int) < (c : Int) + 2) : Good n c (grow p cell) := by
  rw [row_len] at h
  exact grow_good g (by omega)
theorem qd_facts {n c cell : Nat} {p : Pile} (hs : (n, c) ∈ sizes) (g : Good n c p) (hc : cell < n) (h : ((row (p.getD cell 0 + 1) cell).length : Int) < (c : Int) + 2) :
    subF code2 0 (Str.ofString "\r\n") (row (p.getD cell 0 + 1) cell) = some (row (p.getD cell 0 + 1) cell) ∧ subF code1 0 (Str.ofString "..") (row (p.getD cell 0 + 1) cell) = some (row (p.getD cell 0 + 2) cell) := by
  obtain ⟨h1, h2, _, _⟩ := size_le hs
  rw [row_len] at h
  have q := quote_all
  have q1 := List.all_eq_true.mp (List.all_eq_true.mp q (p.getD cell 0 + 1) (List.mem_range.mpr (by omega))) cell (List.mem_range.mpr (by omega))
  simp only [Bool.or_eq_true, beq_iff_eq] at q1
  rcases q1 with q1 | q1
  · omega
  · unfold quoteOk at q1
    simpa only [Bool.and_eq_true, decide_eq_true_eq] using q1
theorem strs_set {vs : List Value} {xs : List Str} (h : StrsAre vs xs) (k : Nat) (x : Str) (t : Tok) : StrsAre (vs.set k (.str x t)) (xs.set k x) := by
  induction h generalizing k with
  | nil => exact .nil
  | cons y u r ih =>
    cases k with
    | zero => exact .cons _ _ r
    | succ k => exact .cons _ _ (ih k)
theorem strs_grow {vs : List Value} {p : Pile} {cell : Nat} (h : StrsAre vs (rowsOf p)) (hc : cell < p.length) (t : Tok) : StrsAre (vs.set cell (.str (row (p.getD cell 0 + 2) cell) t)) (rowsOf (grow p cell)) := by
  rw [rows_grow p cell hc]; exact strs_set h cell _ t
theorem any_page {n c : Nat} {p : Pile} {ss : List Pile} (hs : (n, c) ∈ sizes) (g : Good n c p) (gs : ∀ q ∈ ss, Good n c q) : (ss.map pageOf).any (· == pageOf p) = decide (p ∈ ss) := by
  rw [Bool.eq_iff_iff]
  simp only [List.any_eq_true, beq_iff_eq, decide_eq_true_eq]
  rw [← page_mem hs g gs]
  constructor
  · rintro ⟨x, hx, rfl⟩; exact hx
  · intro h; exact ⟨_, h, rfl⟩
theorem fmod_pos {cell b : Nat} (h : Int.fmod (cell : Int) (b : Int) ≠ 0) : (1 : Int) ≤ (cell : Int) := by
  rcases Nat.eq_zero_or_pos cell with e | e
  · subst e; simp at h
  · omega
section
variable {prog : Program} {w : World} {A : Around} {E : Value → Shared → Prop} {s : Shared} {h₀ : Heap} {L D : Addr} {m : Str → Option Value} {news news' : List (Addr × Obj)} {n : Nat} {vs : List Value}
theorem set_row {Q : Unit → Shared → Prop} {k : Nat} {x : Str} {t u : Tok} (F : Fr h₀ L s.heap m) (N : News h₀ L s.heap news) (U : Upd D (listOf vs.toArray n) (listOf (vs.set k (.str x u)).toArray n) news news') (hk : k < vs.length) (hz : k < 1000)
    (h : ∀ h', Fr h₀ L h' m → News h₀ L h' news' → Q () { s with heap := h' }) : wpAny (model prog w) A (setItem (.ref D) (.int (k : Int) t) (.str x u)) Q E s := by
  obtain ⟨pre, post, rfl, rfl, a, b⟩ := U.split
  have z := N (D, listOf vs.toArray n) (List.mem_append.mpr (.inr (.head _)))
  refine ki_setAt z.1 (by omega) (by omega) (by simp; omega) (h _ (F.change (Heap.SameBut.update ..) z.2.1 z.2.2) (ki_turn _ N a b ?_ ?_))
  · show vs.toArray.setIfInBounds (k : Int).toNat (.str x u) = (vs.set k (.str x u)).toArray
    apply Array.toList_inj.mp
    rw [Array.toList_setIfInBounds]
    rfl
  · rw [if_pos (by simp)]
theorem set_row2 {Q : Unit → Shared → Prop} {k : Nat} {p : Pile} {t u : Tok} (F : Fr h₀ L s.heap m) (N : News h₀ L s.heap news) (U : Upd D (listOf vs.toArray n) (listOf (vs.set k (.str (row (p.getD k 0 + 2) k) u)).toArray n) news news') (hi : StrsAre vs (rowsOf p)) (hk : k < p.length) (hz : k < 1000)
    (h : ∀ h', Fr h₀ L h' m → News h₀ L h' news' → StrsAre (vs.set k (.str (row (p.getD k 0 + 2) k) u)) (rowsOf (grow p k)) → Q () { s with heap := h' }) : wpAny (model prog w) A (setItem (.ref D) (.int (k : Int) t) (.str (row (p.getD k 0 + 2) k) u)) Q E s :=
  set_row F N U (by rw [hi.length, rowsOf_len]; exact hk) hz fun h' F' N' => h h' F' N' (strs_grow hi hk u)
theorem append_L {x : Value} {Q : Value → Shared → Prop} (F : Fr h₀ L s.heap m) (N : News h₀ L s.heap news) (U : Upd D (listOf vs.toArray n) (listOf (vs ++ [x]).toArray (n + 1)) news news') (hz : vs.length ≤ 2000)
    (h : ∀ h', Fr h₀ L h' m → News h₀ L h' news' → Q .none { s with heap := h' }) : wpAny (model prog w) A (call (.builtin "list.append") [.ref D, x]) Q E s :=
  append_K F N (by rw [List.push_toArray]; exact U) h (by rw [sizeLine_eq, List.size_toArray]; omega)
theorem row_item {value slice : Expr} {l : Addr} {p : Pile} {cell : Nat} {u : Tok} {Q : Value → Shared → Prop} (hl : s.heap.IsList l vs.toArray) (hi : StrsAre vs (rowsOf p)) (hk : cell < p.length) (hz : cell < 1000)
    (h : ∀ t, Q (.str (row (p.getD cell 0 + 1) cell) t) s)
    (hs : subscripted slice false (.ref l) (.int (cell : Int) u) = operate [.ref l, .int (cell : Int) u] (getItem (.ref l) (.int (cell : Int) u)) := by with_unfolding_all rfl) :
    wpAny (model prog w) A (subscriptTail value slice (.ref l) (.int (cell : Int) u)) Q E s :=
  item_strsR hl hi (by omega) (by rw [rowsOf_len]; omega) (by omega) (fun t => by
    have e : (rowsOf p).getD (cell : Int).toNat Str.empty = row (p.getD cell 0 + 1) cell := rowsOf_getD p cell hk
    rw [e]; exact h t) hs
theorem notin_page {l : Addr} {n c : Nat} {p : Pile} {ss : List Pile} {t : Tok} {Q : Value → Shared → Prop} (hs : (n, c) ∈ sizes) (hl : s.heap.IsList l vs.toArray) (hi : StrsAre vs (ss.map pageOf)) (g : Good n c p) (gs : ∀ q ∈ ss, Good n c q)
    (h : Q (.bool (!decide (p ∈ ss))) s) : wpAny (model prog w) A (compareOp .NotIn (.str (Txt.join CR (rowsOf p)) t) (.ref l)) Q E s :=
  notin_list_strs hl hi (by
    have e := any_page hs g gs
    show Q (.bool (!(ss.map pageOf).any (· == pageOf p))) s
    rw [e]; exact h)
end
section
variable {w : World} {mean : ExcName → Option Value} {mg mb : Str → Option Value} {dp un : Nat} {gd : Option (List Code)} {cn : Str} {cs : Scope} {ad : Addr} {ccd : Value} {cl : List (Str × Addr)} {outer : List Env} {A₀ : Around} {base h₀ : Heap} {L : Addr} {m : Str → Option Value} {s : Shared} {Q E : Value → Shared → Prop} {news : List (Addr × Obj)}
theorem held2_ok (C : Cx w mean mg mb cs outer A₀ base h₀ L m s news) (hdp : dp + 2 < recursionLimit) (hun : un + 16 < cLine) (r : Addr) (vs : List Value) (n c cell b : Nat) (p : Pile) (t1 t2 : Tok)
  (hsz : (n, c) ∈ sizes) (hg : Good n c p) (hl : s.heap.IsList r vs.toArray) (hs : StrsAre vs (rowsOf p)) (h1 : cell < n) (hb : 0 < b)
  (hret : ∀ x h' tk', x = held p cell b → Fr h₀ L h' m → News h₀ L h' news → Q (.bool x) {s with heap := h', toks := tk'}) :
  wpAny (model PySem.Challenge.rw_sn0034_01.row.prog w) (ktrTop dp un gd cn cs L ad ccd cl outer) (call (.ref 146) [.ref r, .int (cell : Int) t1, .int (b : Int) t2]) Q E s := by
  obtain ⟨h6, h7, _, _⟩ := size_le hsz
  have hlen := hg.len
  refine held_ok C hdp hun r vs (rowsOf p) cell b t1 t2 hl hs (rows_ok hsz hg) (by omega) fmod_pos (by rw [rowsOf_len]; omega) (by omega) (by rw [rowsOf_len]; omega) ?_
  rw [held_rows hsz hg h1 hb]
  exact hret
theorem qd2_ok (C : Cx w mean mg mb cs outer A₀ base h₀ L m s news) (hdp : dp + 1 < recursionLimit) (hun : un + 8 < cLine) (n c cell : Nat) (p : Pile) (t1 : Tok) (hsz : (n, c) ∈ sizes) (hg : Good n c p) (h1 : cell < n)
  (h : ((row (p.getD cell 0 + 1) cell).length : Int) < (c : Int) + 2)
  (hret : ∀ t h' tk', Fr h₀ L h' m → News h₀ L h' news → Q (.str (row (p.getD cell 0 + 2) cell) t) {s with heap := h', toks := tk'}) :
  wpAny (model PySem.Challenge.rw_sn0034_01.row.prog w) (ktrTop dp un gd cn cs L ad ccd cl outer) (call (.ref 118) [.str (row (p.getD cell 0 + 1) cell) t1]) Q E s :=
  have q := qd_facts hsz hg h1 h
  have l : (row (p.getD cell 0 + 1) cell).length ≤ 800 := by
    have := size_le hsz
    have := getD_le hg cell
    rw [row_len]; omega
  qd_ok C hdp hun _ _ _ t1 l l q.1 q.2 hret
end
end Mine
end Part_P14c
section Part_P14d
set_option maxRecDepth 100000
namespace Mine
theorem map_eq3 {M m₁ : Str → Option Value} (h : ∀ z, z ≠ Str.ofString "grown" → z ≠ Str.ofString "rows" → z ≠ Str.ofString "cell" → M z = m₁ z) :
    M = fun z => if z = Str.ofString "grown" then M z else if z = Str.ofString "rows" then M z else if z = Str.ofString "cell" then M z else m₁ z := by
  funext z
  by_cases h1 : z = Str.ofString "grown"
  · simp only [if_pos h1]
  · by_cases h2 : z = Str.ofString "rows"
    · simp only [if_neg h1, if_pos h2]
    · by_cases h3 : z = Str.ofString "cell"
      · simp only [if_neg h1, if_neg h2, if_pos h3]
      · simp only [if_neg h1, if_neg h2, if_neg h3]
        exact h z h1 h2 h3
theorem map_eq4 {M m₁ : Str → Option Value} (h : ∀ z, z ≠ Str.ofString "grown" → z ≠ Str.ofString "rows" → z ≠ Str.ofString "cell" → z ≠ Str.ofString "page" → M z = m₁ z) :
    M = fun z => if z = Str.ofString "grown" then M z else if z = Str.ofString "rows" then M z else if z = Str.ofString "cell" then M z else if z = Str.ofString "page" then M z else m₁ z := by
  funext z
  by_cases h1 : z = Str.ofString "grown"
  · simp only [if_pos h1]
  · by_cases h2 : z = Str.ofString "rows"
    · simp only [if_neg h1, if_pos h2]
    · by_cases h3 : z = Str.ofString "cell"
      · simp only [if_neg h1, if_neg h2, if_pos h3]
      · by_cases h4 : z = Str.ofString "page"
        · simp only [if_neg h1, if_neg h2, if_neg h3, if_pos h4]
        · simp only [if_neg h1, if_neg h2, if_neg h3, if_neg h4]
          exact h z h1 h2 h3 h4
theorem fold_step {f : List Pile × List Pile → Nat → List Pile × List Pile} {order : List Nat} {i cell : Nat} {st st' r : List Pile × List Pile} (hc : order[i]? = some cell) (h : (order.take i).foldl f st = st') (hr : f st' cell = r) : (order.take (i + 1)).foldl f st = r := by
  rw [List.take_add_one, hc, List.foldl_append, h]
  exact hr
section
variable {b c n cell : Nat} {p : Pile} {ws ss : List Pile}
theorem step_ge (h : ¬ p.getD cell 0 < c) : step b c p (ws, ss) cell = (ws, ss) := by unfold step; rw [if_neg h]
theorem step_in (hs : (n, c) ∈ sizes) (g : Good n c p) (gs : ∀ q ∈ ss, Good n c q) (h : p.getD cell 0 < c) (ha : ((ss.map pageOf).any fun x => x == Txt.join CR (rowsOf (grow p cell))) = true) : step b c p (ws, ss) cell = (ws, ss) := by
  have e := any_page hs (grow_good g h) gs
  have e' : decide (grow p cell ∈ ss) = true := e ▸ ha
  unfold step
  rw [if_pos h, if_pos (of_decide_eq_true e')]
theorem step_nh (hs : (n, c) ∈ sizes) (g : Good n c p) (gs : ∀ q ∈ ss, Good n c q) (h : p.getD cell 0 < c) (ha : ((ss.map pageOf).any fun x => x == Txt.join CR (rowsOf (grow p cell))) = false) (hh : held (grow p cell) cell b = false) :
    step b c p (ws, ss) cell = (ws, ss) := by
  have e := any_page hs (grow_good g h) gs
  have e' : decide (grow p cell ∈ ss) = false := e ▸ ha
  unfold step
  rw [if_pos h, if_neg (of_decide_eq_false e'), if_neg (by rw [hh]; exact Bool.false_ne_true)]
theorem step_yes (hs : (n, c) ∈ sizes) (g : Good n c p) (gs : ∀ q ∈ ss, Good n c q) (h : p.getD cell 0 < c) (ha : ((ss.map pageOf).any fun x => x == Txt.join CR (rowsOf (grow p cell))) = false) (hh : held (grow p cell) cell b = true) :
    step b c p (ws, ss) cell = (ws ++ [grow p cell], ss ++ [grow p cell]) := by
  have e := any_page hs (grow_good g h) gs
  have e' : decide (grow p cell ∈ ss) = false := e ▸ ha
  unfold step
  rw [if_pos h, if_neg (of_decide_eq_false e'), if_pos hh]
end
section
variable {h₀ h' : Heap} {L S W D : Addr} {o : Obj} {M m₁ : Str → Option Value} {own : List (Addr × Obj)} {svs wvs : List Value} {sn wn b c n cell i tk : Nat} {p : Pile} {ws ss ws' ss' : List Pile} {order : List Nat} {s₁ : Shared}
theorem end_same (F : Fr h₀ L h' M) (N : News h₀ L h' ((D, o) :: (S, listOf svs.toArray sn) :: (W, listOf wvs.toArray wn) :: own))
    (hM : ∀ z, z ≠ Str.ofString "grown" → z ≠ Str.ofString "rows" → z ≠ Str.ofString "cell" → M z = m₁ z)
    (hw : StrsAre wvs (ws'.map pageOf)) (hs : StrsAre svs (ss'.map pageOf)) (gw : ∀ q ∈ ws', Good n c q) (gs : ∀ q ∈ ss', Good n c q) (le : ws'.length ≤ ss'.length)
    (hc : order[i]? = some cell) (hf : (order.take i).foldl (step b c p) (ws, ss) = (ws', ss')) (hss : ss'.length ≤ ss.length + i) (hst : step b c p (ws', ss') cell = (ws', ss')) :
    InvEndN h₀ L (JF n b c S W m₁ order p (ws, ss) (i + 1)) own [S, W] s₁ { s₁ with heap := h', toks := tk } := by
  refine InvEndN.intro F N (nx := [(S, listOf svs.toArray sn), (W, listOf wvs.toArray wn)]) ⟨ws', ss', M, ⟨⟨wvs, svs, wn, sn, rfl, hw, hs⟩, gw, gs, le⟩, fold_step hc hf hst, Nat.le_succ_of_le hss, map_eq3 hM⟩ rfl ?_ ?_
  · intro q hq
    rcases List.mem_cons.mp hq with rfl | hq
    · exact .tail _ (.head _)
    · rw [List.mem_singleton.mp hq]; exact .tail _ (.tail _ (.head _))
  · intro q hq; exact .tail _ (.tail _ (.tail _ hq))
theorem end_yes {t t' : Tok} (F : Fr h₀ L h' M) (N : News h₀ L h' ((D, o) :: (S, listOf (svs.toArray.push (.str (Txt.join CR (rowsOf (grow p cell))) t)) (sn + 1)) :: (W, listOf (wvs.toArray.push (.str (Txt.join CR (rowsOf (grow p cell))) t')) (wn + 1)) :: own))
    (hM : ∀ z, z ≠ Str.ofString "grown" → z ≠ Str.ofString "rows" → z ≠ Str.ofString "cell" → M z = m₁ z)
    (hw : StrsAre wvs (ws'.map pageOf)) (hs : StrsAre svs (ss'.map pageOf)) (gw : ∀ q ∈ ws', Good n c q) (gs : ∀ q ∈ ss', Good n c q) (le : ws'.length ≤ ss'.length)
    (hc : order[i]? = some cell) (hf : (order.take i).foldl (step b c p) (ws, ss) = (ws', ss')) (hss : ss'.length ≤ ss.length + i) (hg : Good n c (grow p cell)) (hst : step b c p (ws', ss') cell = (ws' ++ [grow p cell], ss' ++ [grow p cell])) :
    InvEndN h₀ L (JF n b c S W m₁ order p (ws, ss) (i + 1)) own [S, W] s₁ { s₁ with heap := h', toks := tk } := by
  rw [List.push_toArray, List.push_toArray] at N
  refine InvEndN.intro F N (nx := [(S, listOf (svs ++ [Value.str (Txt.join CR (rowsOf (grow p cell))) t]).toArray (sn + 1)), (W, listOf (wvs ++ [Value.str (Txt.join CR (rowsOf (grow p cell))) t']).toArray (wn + 1))]) ⟨ws' ++ [grow p cell], ss' ++ [grow p cell], M, ⟨⟨_, _, _, _, rfl, ?_, ?_⟩, ?_, ?_, ?_⟩, fold_step hc hf hst, ?_, map_eq3 hM⟩ rfl ?_ ?_
  · rw [List.map_append]; exact strs_app hw (.cons _ _ .nil)
  · rw [List.map_append]; exact strs_app hs (.cons _ _ .nil)
  · intro q hq
    rcases List.mem_append.mp hq with hq | hq
    · exact gw q hq
    · rw [List.mem_singleton.mp hq]; exact hg
  · intro q hq
    rcases List.mem_append.mp hq with hq | hq
    · exact gs q hq
    · rw [List.mem_singleton.mp hq]; exact hg
  · simp only [List.length_append, List.length_singleton]; omega
  · simp only [List.length_append, List.length_singleton]; omega
  · intro q hq
    rcases List.mem_cons.mp hq with rfl | hq
    · exact .tail _ (.head _)
    · rw [List.mem_singleton.mp hq]; exact .tail _ (.tail _ (.head _))
  · intro q hq; exact .tail _ (.tail _ (.tail _ hq))
theorem end_while {s : Shared} {nw : Bool} {res : List Pile} {k : Nat} {s' : Shared} (F : Fr h₀ L h' M) (N : News h₀ L h' [(S, listOf svs.toArray sn), (W, listOf wvs.toArray wn)]) (hs' : s' = { s with heap := h', toks := tk })
    (hM : ∀ z, z ≠ Str.ofString "grown" → z ≠ Str.ofString "rows" → z ≠ Str.ofString "cell" → z ≠ Str.ofString "page" → M z = m₁ z)
    (hw : StrsAre wvs (ws'.map pageOf)) (hs : StrsAre svs (ss'.map pageOf)) (gw : ∀ q ∈ ws', Good n c q) (gs : ∀ q ∈ ss', Good n c q) (le : ws'.length ≤ ss'.length)
    (hf : order.foldl (step b c p) (ws, ss) = (ws', ss')) (hr : run b c order nw k (order.foldl (step b c p) (ws, ss)) = some res) (hk : ss'.length + 6 * k ≤ 1000) :
    WhileStep h₀ L s (JW n b c S W m₁ order nw res) (k + 1) .next s' := by
  subst hs'
  rw [hf] at hr
  exact WhileStep.intro F N (Nat.lt_succ_self _) ⟨ws', ss', M, ⟨⟨wvs, svs, wn, sn, rfl, hw, hs⟩, gw, gs, le⟩, hr, hk, map_eq4 hM⟩
end
structure Hold (P : Prop) : Prop where
  out : P
end Mine
end Part_P14d
section Part_P15
namespace Mine
local macro_rules | `(tactic| walk_at "pyIter ref") => `(tactic| (k_here; refine stop_ ?_))
theorem rules_P15 : True := by
  k_with_none
  k_with "my enter" => (refine' enter_ ?kC ?kA ?k6 ?k7 ?k8 ?k9 ?kB ?_ ?c2 ?c3 ?c4 ?c5 ?c6; (case kC => assumption); (case kA => exact rfl); (case k6 => k_is); (case k7 => k_is); (case k8 => ktr_room); (case k9 => exact BindsTo.of_eq rfl); (case c5 => decide); (case c6 => exact rfl); (case kB => exact locs rfl); (case c2 => exact rfl); (case c3 => exact rfl); (case c4 => exact rfl); k_whole; intro g'k L'k h'k tk'k hg'k htk'k F'k N'k B'k X'k T'k; (have OW'k := own_of (by assumption) hg'k); (try dsimp only); (try k_lift B'k); (try k_fold))
  k_with "call builtin:str.join" => (k_here; (with_reducible show wpAny _ _ (call (Value.builtin "str.join") [Value.str _ _, Value.ref _]) _ _ _); (refine join_listW (News.isList (by k_asm) (by k_mem)) (by assumption) (by decide) (by first | assumption | exact grow_weight (by assumption) (by assumption) _) ?_); (intro t'k k'k))
  k_with "call builtin:str.split" => (k_here; (with_reducible show wpAny _ _ (call (Value.builtin "str.split") _) _ _ _); (refine KSpl.split1 (by k_asm) (by k_asm) (by decide +kernel) ?_ (page_len (by assumption) (by assumption))); (intro D'k l'k h'k k'k e'k a'k F'k N'k l1k); (try k_lt l1k); (rw [e'k, split_page (by assumption) (by assumption)] at a'k); (clear e'k); (generalize strValues l'k = rv'k at a'k N'k))
  k_with "subscriptTail" => (k_here; (with_reducible show wpAny _ _ (subscriptTail _ _ (Value.ref _) (Value.int _ _)) _ _ _); (refine row_item (News.isList (by k_asm) (by k_mem)) (by assumption) (by omega) (by omega) ?_); (intro t'k))
  k_with "setItem ref int" => (k_here; (with_reducible show wpAny _ _ (setItem (Value.ref _) (Value.int _ _) (Value.str _ _)) _ _ _); (refine set_row2 (by k_asm) (by k_asm) (by k_upd) (by assumption) (by omega) (by omega) ?_); (intro h'k F'k N'k a'k); (try dsimp only [List.nil_append, List.cons_append] at N'k))
  k_with "call ref" => (k_here; (with_reducible show wpAny _ _ (call (Value.ref 118) _) _ _ _); (refine' qd2_ok ⟨?k1, ?k2, ?k3, ?k4, ?k5, ?k6⟩ ?k7 ?k8 _ _ _ _ _ ?k9 ?k10 ?k11 ?k12 ?_; (case k1 => k_asm); (case k2 => k_asm); (case k3 => k_asm); (case k4 => k_asm); (case k5 => k_asm); (case k6 => rfl); (case k7 => ktr_room); (case k8 => ktr_units); (case k9 => assumption); (case k10 => assumption); (case k11 => assumption); (case k12 => assumption); k_whole); intro t'k h'k tk'k F'k N'k)
  k_with "call ref" => (k_here; (with_reducible show wpAny _ _ (call (Value.ref 146) _) _ _ _); (refine' held2_ok ⟨?k1, ?k2, ?k3, ?k4, ?k5, ?k6⟩ ?k7 ?k8 _ _ _ _ _ _ _ _ _ ?k9 ?k10 ?k11 ?k12 ?k13 ?k14 ?_; (case k1 => k_asm); (case k2 => k_asm); (case k3 => k_asm); (case k4 => k_asm); (case k5 => k_asm); (case k6 => rfl); (case k7 => ktr_room); (case k8 => ktr_units); (case k9 => assumption); (case k11 => exact News.isList (by k_asm) (by k_mem)); (case k12 => assumption); (case k10 => exact good_of_lt (by assumption) (by assumption)); (case k13 => assumption); (case k14 => assumption); k_whole); intro x'k h'k tk'k e'k F'k N'k; subst e'k)
  k_with "exec While Compare cons nil" => (k_here; refine stop_ ?_)
  k_with "eval ListComp" => (k_here; k_dflt (refine LCg.ListComp_U (F₀ := by k_asm) (by rfl) (by decide) (by rfl) (by decide) (by rfl) ?_))
  k_with "CompSrc" => (k_here; k_dflt (refine LCg.CompSrc.range (by rfl) (by k_asm) (by k_asm) (by assumption) (rangeN (by assumption) (by omega)).1 (rangeN (by assumption) (by omega)).2 (by rw [sizeLine_eq]; omega) ?_); intro g'k)
  k_with "compareOp NotEq ref ref" => (k_here; (with_reducible show wpAny _ _ (compareOp CmpOp.NotEq (Value.ref _) (Value.ref _)) _ _ _); first
  | (refine ne_nil_f (News.get (by k_asm) (by k_mem)) (News.get (by k_asm) (by k_mem)) (by ke_room) ?_)
  | (refine ne_nil_t (News.get (by k_asm) (by k_mem)) (News.get (by k_asm) (by k_mem)) (by simp) (by ke_room) ?_))
  k_with "exec For" => (k_here; k_dflt (refine For_invVF (by k_asm) (by with_unfolding_all rfl) (by rfl) ?_))
  k_with "call builtin:list.pop" => (k_here; first
  | ((with_reducible show wpAny _ _ (call (Value.builtin _) [Value.ref _]) _ _ _); refine pop_last (by k_asm) (by k_asm) (by k_upd) (by assumption) ?_)
  | ((with_reducible show wpAny _ _ (call (Value.builtin _) [Value.ref _, Value.int _ _]) _ _ _); refine pop_first (by k_asm) (by k_asm) (by k_upd) (by assumption) ?_); kl_rest)
  trivial
set_option maxRecDepth 100000 in
set_option maxHeartbeats 8000000 in
noncomputable def piles_1 : PSigma fun P : Prop => Hold P → ∀ (w : World) (mean : ExcName → Option Value) (mg mb : Str → Option Value) (dp un : Nat) (gd : Option (List Code)) (cn : Str) (cs : Scope) (ad : Addr) (ccd : Value) (cl : List (Str × Addr)) (outer : List Env) (A₀ : Around) (base h₀ : Heap) (L : Addr) (m : Str → Option Value) (s : Shared) (Q E : Value → Shared → Prop) (news : List (Addr × Obj)) (C : Cx w mean mg mb cs outer A₀ base h₀ L m s news) (hdp : dp + 4 < recursionLimit) (hun : un + 200 < cLine) (r : Addr) (vs : List Value) (order : List Nat) (a : Int) (b c n k : Nat) (nw : Bool) (res : List Pile) (t1 t2 t3 : Tok)
  (hl : s.heap.IsList r vs.toArray) (hs : IntsAre vs (order.map fun k : Nat => (k : Int))) (hab : a * b = (n : Int)) (hsz : (n, c) ∈ sizes) (ha : 0 < a) (hb : 0 < b) (ha' : a < 10) (hb' : b < 10)
  (hns : ∀ k ∈ order, k < n) (hno : order.length ≤ 6) (hk : 6 * k ≤ 900) (hrun : run b c order nw k ([List.replicate n 0], [List.replicate n 0]) = some res)
  (hret : ∀ D vs' n' h' tk', StrsAre vs' (res.map pageOf) → Fr h₀ L h' m → News h₀ L h' ((D, listOf vs'.toArray n') :: news) → Q (.ref D) {s with heap := h', toks := tk'}),
  wpAny (model PySem.Challenge.rw_sn0034_01.row.prog w) (ktrTop dp un gd cn cs L ad ccd cl outer) (call (.ref 151) [.int a t1, .int (b : Int) t2, .int (c : Int) t3, .ref r, .bool nw]) Q E s := by
  refine ⟨?P1 ∧ ?P2, fun key => ?g⟩
  case g =>
    intro w mean mg mb dp un gd cn cs ad ccd cl outer A₀ base h₀ L m s Q E news C hdp hun r vs order a b c n k nw res t1 t2 t3 hl hs hab hsz ha hb ha' hb' hns hno hk hrun hret
    obtain ⟨hn6, hc4, hn1, hc1⟩ := size_le hsz
    refine wpAny_call ?_
    walk_at "my enter"
    rename _ = s.heap => hgs
    rw [← hgs] at hl
    k_steps
    refine comp_ind (fun i ys nw => nw = [] ∧ StrsAre ys ((List.range i).map (row 1))) ⟨rfl, .nil⟩ ?_ ?_
    · intro i v I oI C1 oC D m₂ h tk E' ys nw hi hJ hP hC hx F1 N1 off ne
      obtain ⟨rfl, hys⟩ := hJ
      obtain ⟨tv, rfl⟩ := hP
      k_steps
      exact snoc_row hys (by omega)
    · intro ys nw hJ
      obtain ⟨rfl, hys⟩ := hJ
      rw [rows_zero] at hys
      have hg0 := good_zero n c
      have hpw := page_weight hsz hg0
      k_steps
      rename News _ _ _ _ => N9
      rename Fr _ _ _ _ => F9
      clear hys hpw hg0
      refine while_piles F9 N9 hk hrun ?_
      clear F9 N9
      rintro k₁ m₁ wvs svs wn sn ws ss h₁ tk₁ F1 N1 hwv hsv hgw hgs' hle hr1 hk1 ⟨u, rfl⟩
      have lw := hwv.length
      rw [List.length_map] at lw
      rcases ws with _ | ⟨p, wr⟩
      · cases hwv
        have hres := run_nil hr1
        subst hres
        k_steps
        rename Own _ _ _ _ _ => O9; rename Fr _ _ _ _ => F9; rename News _ _ _ _ => N9
        have bk := O9.back F9 N9
        show Q (Value.ref _) _
        exact hret _ _ _ _ _ hsv bk.1 (fun x hx => bk.2.2 x (by
          rcases List.mem_cons.mp hx with rfl | hx
          · exact .tail _ (.head _)
          · exact List.mem_append_right _ hx))
      · obtain ⟨k₂, rfl, hr2⟩ := run_cons hr1
        obtain ⟨hpg, hwg, hwl⟩ := pick_good nw hgw
        obtain ⟨tp, q, hvs, hq⟩ := pick_strs (nw := nw) hwv
        have lq := hq.length
        rw [List.length_map, hwl] at lq
        simp only [List.length_cons] at hle
        have hq9 : q.length ≤ 2000 := by omega
        have hle2 : (pick nw (p :: wr)).2.length ≤ ss.length := by omega
        clear hr1 hgw hwv lw hwl lq
        generalize (pick nw (p :: wr)).1 = pp at *
        generalize (pick nw (p :: wr)).2 = ww at *
        rcases Bool.eq_false_or_eq_true nw with hnw | hnw
        · rw [hnw] at hvs
          simp only [if_true, Bool.false_eq_true, if_false] at hvs
          subst hvs
          k_steps
          generalize tk + 1 = tk2
          rename News _ _ _ _ => N9
          rename Fr _ _ _ _ => F9
          refine for_piles (p := pp) (b := b) rfl hl hs F9 N9 hq hsv hwg hgs' hle2 ?turn ?done
          case turn =>
            clear F9 N9 hnw hq
            repeat (rename News _ _ _ _ => Nz; clear Nz)
            refine stop_ ?_
            repeat (revert ‹_›)
            intro key
            exact key.out.1
          case done =>
            clear F9 N9 hnw hq
            repeat (rename News _ _ _ _ => Nz; clear Nz)
            refine stop_ ?_
            repeat (revert ‹_›)
            intro key
            exact key.out.2
        · rw [hnw] at hvs
          simp only [if_true, Bool.false_eq_true, if_false] at hvs
          subst hvs
          k_steps
          rename News _ _ _ _ => N9
          rename Fr _ _ _ _ => F9
          refine for_piles (p := pp) (b := b) rfl hl hs F9 N9 hq hsv hwg hgs' hle2 ?turn ?done
          case turn =>
            clear F9 N9 hnw hq
            repeat (rename News _ _ _ _ => Nz; clear Nz)
            refine stop_ ?_
            repeat (revert ‹_›)
            intro key
            exact key.out.1
          case done =>
            clear F9 N9 hnw hq
            repeat (rename News _ _ _ _ => Nz; clear Nz)
            refine stop_ ?_
            repeat (revert ‹_›)
            intro key
            exact key.out.2
set_option maxRecDepth 100000 in
set_option maxHeartbeats 8000000 in
theorem piles_2 : piles_1.1 := by
  conv => whnf
  refine ⟨?turn, ?done⟩
  case turn =>
    set_option tactic.hygienic false in intros
    intro i cell tc uc wvs' svs' wn' sn' ws' ss' hc tkc own hcell hoff hfold Fc Nc hwv' hsv' hgw' hgs'' hle3 hss hi
    have hcn := hns cell (List.mem_of_getElem? hcell)
    have hpl := hpg.len
    have lsv := hsv'.length
    have lwv := hwv'.length
    rw [List.length_map] at lsv lwv
    have hir : i < 6 := by omega
    have hrl := getD_le hpg cell
    have hrl2 := row_len (pp.getD cell 0 + 1) cell
    k_steps
    all_goals (rename News _ _ _ _ => N9; rename Fr _ _ _ _ => F9)
    all_goals first
      | exact end_same F9 N9 (fun z h1 h2 h3 => by simp only [if_neg h1, if_neg h2, if_neg h3]) hwv' hsv' hgw' hgs'' hle3 hcell hfold hss (step_ge (by omega))
      | exact end_same F9 N9 (fun z h1 h2 h3 => by simp only [if_neg h1, if_neg h2, if_neg h3]) hwv' hsv' hgw' hgs'' hle3 hcell hfold hss (step_in hsz hpg hgs'' (by omega) (by assumption))
      | exact end_same F9 N9 (fun z h1 h2 h3 => by simp only [if_neg h1, if_neg h2, if_neg h3]) hwv' hsv' hgw' hgs'' hle3 hcell hfold hss (step_nh hsz hpg hgs'' (by omega) (by assumption) (by assumption))
      | exact end_yes F9 N9 (fun z h1 h2 h3 => by simp only [if_neg h1, if_neg h2, if_neg h3]) hwv' hsv' hgw' hgs'' hle3 hcell hfold hss (grow_good hpg (by omega)) (step_yes hsz hpg hgs'' (by omega) (by assumption) (by assumption))
  case done =>
    set_option tactic.hygienic false in intros
    intro u' wvs' svs' wn' sn' ws' ss' hc tkc hfold Fc Nc hwv' hsv' hgw' hgs'' hle3 hss
    k_steps
    exact end_while Fc Nc rfl (fun z h1 h2 h3 h4 => by simp only [if_neg h1, if_neg h2, if_neg h3, if_neg h4]) hwv' hsv' hgw' hgs'' hle3 hfold hr2 (by omega)
theorem piles_ok {w : World} {mean : ExcName → Option Value} {mg mb : Str → Option Value} {dp un : Nat} {gd : Option (List Code)} {cn : Str} {cs : Scope} {ad : Addr} {ccd : Value} {cl : List (Str × Addr)} {outer : List Env} {A₀ : Around} {base h₀ : Heap} {L : Addr} {m : Str → Option Value} {s : Shared} {Q E : Value → Shared → Prop} {news : List (Addr × Obj)} (C : Cx w mean mg mb cs outer A₀ base h₀ L m s news) (hdp : dp + 4 < recursionLimit) (hun : un + 200 < cLine) (r : Addr) (vs : List Value) (order : List Nat) (a : Int) (b c n k : Nat) (nw : Bool) (res : List Pile) (t1 t2 t3 : Tok)
  (hl : s.heap.IsList r vs.toArray) (hs : IntsAre vs (order.map fun k : Nat => (k : Int))) (hab : a * b = (n : Int)) (hsz : (n, c) ∈ sizes) (ha : 0 < a) (hb : 0 < b) (ha' : a < 10) (hb' : b < 10)
  (hns : ∀ k ∈ order, k < n) (hno : order.length ≤ 6) (hk : 6 * k ≤ 900) (hrun : run b c order nw k ([List.replicate n 0], [List.replicate n 0]) = some res)
  (hret : ∀ D vs' n' h' tk', StrsAre vs' (res.map pageOf) → Fr h₀ L h' m → News h₀ L h' ((D, listOf vs'.toArray n') :: news) → Q (.ref D) {s with heap := h', toks := tk'}) :
  wpAny (model PySem.Challenge.rw_sn0034_01.row.prog w) (ktrTop dp un gd cn cs L ad ccd cl outer) (call (.ref 151) [.int a t1, .int (b : Int) t2, .int (c : Int) t3, .ref r, .bool nw]) Q E s :=
  piles_1.2 ⟨piles_2⟩ _ _ _ _ _ _ _ _ _ _ _ _ _ _ _ _ _ _ _ _ _ _ C hdp hun r vs order a b c n k nw res t1 t2 t3 hl hs hab hsz ha hb ha' hb' hns hno hk hrun hret
end Mine
end Part_P15
section Part_P16
namespace Mine
theorem rules_P16 : True := by
  k_with_none
  k_with "my enter" => (refine' enter_ ?kC ?kA ?k6 ?k7 ?k8 ?k9 ?kB ?_ ?c2 ?c3 ?c4 ?c5 ?c6; (case kC => assumption); (case kA => exact rfl); (case k6 => k_is); (case k7 => k_is); (case k8 => ktr_room); (case k9 => exact BindsTo.of_eq rfl); (case c5 => decide); (case c6 => exact rfl); (case kB => exact locs rfl); (case c2 => exact rfl); (case c3 => exact rfl); (case c4 => exact rfl); k_whole; intro g'k L'k h'k tk'k hg'k htk'k F'k N'k B'k X'k T'k; (have OW'k := own_of (by assumption) hg'k); (try dsimp only); (try k_lift B'k); (try k_fold))
  trivial
def orderF (many r : Nat) (rev : Bool) : List Nat := if rev then ((List.range many).drop r ++ (List.range many).take r).reverse else (List.range many).drop r ++ (List.range many).take r
theorem rangeKs_cast (many : Nat) : rangeKs 0 ((many : Int) - 0).toNat = (List.range many).map fun k : Nat => (k : Int) := by
  unfold rangeKs
  rw [show ((many : Int) - 0).toNat = many by omega]
  refine List.map_congr_left fun i _ => ?_
  omega
theorem ints_app {vs ws : List Value} {xs ys : List Int} (h : IntsAre vs xs) (k : IntsAre ws ys) : IntsAre (vs ++ ws) (xs ++ ys) := by
  induction h with
  | nil => exact k
  | cons x t r ih => exact .cons x t ih
theorem ints_rev {vs : List Value} {xs : List Int} (h : IntsAre vs xs) : IntsAre vs.reverse xs.reverse := by
  induction h with
  | nil => exact .nil
  | cons x t r ih =>
    rw [List.reverse_cons, List.reverse_cons]
    exact ints_app ih (.cons _ _ .nil)
theorem order_f {ws : List Value} {many : Nat} {draw : Int} (h : IntsAre ws (List.drop (draw.fmod many).toNat (rangeKs 0 ((many : Int) - 0).toNat) ++ List.take (draw.fmod many).toNat (rangeKs 0 ((many : Int) - 0).toNat))) (hr : ¬ (draw.fdiv 6).fmod 2 = 1) :
    IntsAre ws ((orderF many (draw.fmod many).toNat (decide ((draw.fdiv 6).fmod 2 = 1))).map fun k : Nat => (k : Int)) := by
  rw [rangeKs_cast] at h
  unfold orderF
  rw [decide_eq_false hr]
  simpa only [Bool.false_eq_true, if_false, List.map_append, List.map_drop, List.map_take] using h
theorem order_t {ws : List Value} {many : Nat} {draw : Int} (h : IntsAre ws (List.drop (draw.fmod many).toNat (rangeKs 0 ((many : Int) - 0).toNat) ++ List.take (draw.fmod many).toNat (rangeKs 0 ((many : Int) - 0).toNat))) (hr : (draw.fdiv 6).fmod 2 = 1) :
    IntsAre ws.reverse ((orderF many (draw.fmod many).toNat (decide ((draw.fdiv 6).fmod 2 = 1))).map fun k : Nat => (k : Int)) := by
  rw [rangeKs_cast] at h
  unfold orderF
  rw [decide_eq_true hr]
  have := ints_rev h
  simpa only [if_true, List.map_append, List.map_drop, List.map_take, List.map_reverse] using this
theorem news_head {h₀ h' : Heap} {L D : Addr} {o : Obj} {r news : List (Addr × Obj)} (N : News h₀ L h' (((D, o) :: r) ++ news)) : News h₀ L h' ((D, o) :: news) := fun p hp => N p (by
  rcases List.mem_cons.mp hp with rfl | hp
  · exact .head _
  · exact List.mem_append_right _ hp)
theorem rev_order {prog : Program} {w : World} {A : Around} {E : Value → Shared → Prop} {s : Shared} {h₀ : Heap} {L D : Addr} {m : Str → Option Value} {news news' : List (Addr × Obj)} {n k j : Nat} {vs : List Value} {Q : Value → Shared → Prop}
    (hi : IntsAre vs (List.drop k (rangeKs 0 j) ++ List.take k (rangeKs 0 j))) (hj : j ≤ 100) (F : Fr h₀ L s.heap m) (N : News h₀ L s.heap news) (U : Upd D (listOf vs.toArray n) (listOf vs.reverse.toArray n) news news')
    (h : ∀ h', Fr h₀ L h' m → News h₀ L h' news' → Q .none { s with heap := h' }) : wpAny (model prog w) A (call (.builtin "list.reverse") [.ref D]) Q E s := by
  have hl := hi.length
  rw [List.length_append, List.length_drop, List.length_take, rangeKs_length] at hl
  exact kl_reverse F N rfl U (by show vs.length ≤ sizeLine; rw [sizeLine_eq]; omega) h
theorem rules_P16_2 : True := by
  k_with "call builtin:list.reverse" => (k_here; (refine rev_order (by assumption) (by omega) (by k_asm) (by k_asm) (by k_upd) ?_); (intro h'k F'k N'k); (try dsimp only [List.nil_append, List.cons_append] at N'k))
  trivial
variable {w : World} {mean : ExcName → Option Value} {mg mb : Str → Option Value} {dp un : Nat} {gd : Option (List Code)} {cn : Str} {cs : Scope} {ad : Addr} {ccd : Value} {cl : List (Str × Addr)} {outer : List Env} {A₀ : Around} {base h₀ : Heap} {L : Addr} {m : Str → Option Value} {s : Shared} {Q E : Value → Shared → Prop} {news : List (Addr × Obj)}
set_option maxRecDepth 100000 in
set_option maxHeartbeats 8000000 in
theorem order_ok (C : Cx w mean mg mb cs outer A₀ base h₀ L m s news) (hdp : dp + 1 < recursionLimit) (hun : un + 8 < cLine) (many : Nat) (draw : Int) (t1 t2 : Tok) (hm : 1 ≤ many) (hm' : many ≤ 6)
  (hret : ∀ D vs' n' h' tk', IntsAre vs' ((orderF many (draw.fmod many).toNat (decide ((draw.fdiv 6).fmod 2 = 1))).map fun k : Nat => (k : Int)) → Fr h₀ L h' m → News h₀ L h' ((D, listOf (List.toArray vs') n') :: news) → Q (.ref D) {s with heap := h', toks := tk'}) :
  wpAny (model PySem.Challenge.rw_sn0034_01.row.prog w) (ktrTop dp un gd cn cs L ad ccd cl outer) (call (.ref 139) [.int (many : Int) t1, .int draw t2]) Q E s := by
  refine wpAny_call ?_
  walk_at "my enter"
  k_steps
  all_goals (have hfm : 0 ≤ draw.fmod many := Int.fmod_nonneg_of_pos _ (by omega))
  all_goals (rename Own _ _ _ _ _ => O9; rename Fr _ _ _ _ => F9; rename News _ _ _ _ => N9)
  all_goals (have bk := O9.back F9 N9)
  all_goals (rename IntsAre _ _ => hI9)
  all_goals first
    | (exfalso; omega)
    | (show Q (Value.ref _) _; exact hret _ _ _ _ _ (order_f hI9 (by assumption)) bk.1 (news_head bk.2.2))
    | (show Q (Value.ref _) _; exact hret _ _ _ _ _ (order_t hI9 (by assumption)) bk.1 (news_head bk.2.2))
end Mine
end Part_P16
section Part_P17
namespace Mine
theorem rules_P17 : True := by
  k_with_none
  k_with "my enter" => (refine' enter_ ?kC ?kA ?k6 ?k7 ?k8 ?k9 ?kB ?_ ?c2 ?c3 ?c4 ?c5 ?c6; (case kC => assumption); (case kA => exact rfl); (case k6 => k_is); (case k7 => k_is); (case k8 => ktr_room); (case k9 => exact BindsTo.of_eq rfl); (case c5 => decide); (case c6 => exact rfl); (case kB => exact locs rfl); (case c2 => exact rfl); (case c3 => exact rfl); (case c4 => exact rfl); k_whole; intro g'k L'k h'k tk'k hg'k htk'k F'k N'k B'k X'k T'k; (have OW'k := own_of (by assumption) hg'k); (try dsimp only); (try k_lift B'k); (try k_fold))
  trivial
theorem news_mem1 {h₀ h' : Heap} {L D : Addr} {o : Obj} {r news : List (Addr × Obj)} (N : News h₀ L h' (r ++ news)) (hm : (D, o) ∈ r) : News h₀ L h' ((D, o) :: news) := fun p hp => N p (by
  rcases List.mem_cons.mp hp with rfl | hp
  · exact List.mem_append_left _ hm
  · exact List.mem_append_right _ hp)
def boxF : List (Nat × Nat × Nat) := [(2, 2, 1), (1, 2, 2), (2, 1, 4), (2, 2, 2), (1, 3, 3), (3, 2, 1), (3, 1, 2), (1, 2, 3), (2, 3, 1), (1, 1, 4), (3, 1, 3), (1, 3, 2)]
def tup3b (b : Nat × Nat × Nat) (t t' t'' : Tok) : Obj := { cls := .type "tuple", data := .seq #[.int (b.1 : Int) t, .int (b.2.1 : Int) t', .int (b.2.2 : Int) t''] }
section
variable {prog : Program} {w : World} {A : Around} {E : Value → Shared → Prop} {s : Shared} {value slice : Expr} {l : Addr} {its : List Value} {k : Int} {u : Tok} {Q : Value → Shared → Prop}
theorem item_lit (hl : s.heap.IsList l its.toArray) (h0 : 0 ≤ k) (hz : k < 1000) (h : k < (its.length : Int) ∧ ∀ v, its[k.toNat]? = some v → Q v s)
    (hs : subscripted slice false (.ref l) (.int k u) = operate [.ref l, .int k u] (getItem (.ref l) (.int k u)) := by with_unfolding_all rfl) :
    wpAny (model prog w) A (subscriptTail value slice (.ref l) (.int k u)) Q E s := by
  have hlt : k.toNat < its.length := by omega
  exact subscriptTail_builtinR hl.typeIs slot_list_getitem.lookup (wpAny_getItem_list (Q := fun r s' => r = _ ∧ Q r s') hl h0 (by omega) (by simpa using List.getElem?_eq_getElem hlt) ⟨rfl, h.2 _ (List.getElem?_eq_getElem hlt)⟩) hs
end
variable {w : World} {mean : ExcName → Option Value} {mg mb : Str → Option Value} {dp un : Nat} {gd : Option (List Code)} {cn : Str} {cs : Scope} {ad : Addr} {ccd : Value} {cl : List (Str × Addr)} {outer : List Env} {A₀ : Around} {base h₀ : Heap} {L : Addr} {m : Str → Option Value} {s : Shared} {Q E : Value → Shared → Prop} {news : List (Addr × Obj)}
set_option maxRecDepth 100000 in
set_option maxHeartbeats 8000000 in
theorem box_ok (C : Cx w mean mg mb cs outer A₀ base h₀ L m s news) (hdp : dp + 1 < recursionLimit) (hun : un + 8 < cLine) (which : Int) (t1 : Tok)
  (hret : ∀ D b t t' t'' h' tk', boxF[(which.fmod 12).toNat]? = some b → Fr h₀ L h' m → News h₀ L h' ((D, tup3b b t t' t'') :: news) → Q (.ref D) {s with heap := h', toks := tk'}) :
  wpAny (model PySem.Challenge.rw_sn0034_01.row.prog w) (ktrTop dp un gd cn cs L ad ccd cl outer) (call (.ref 132) [.int which t1]) Q E s := by
  have h0 : 0 ≤ which.fmod 12 := Int.fmod_nonneg_of_pos _ (by omega)
  have h1 : which.fmod 12 < 12 := Int.fmod_lt_of_pos _ (by omega)
  refine wpAny_call ?_
  walk_at "my enter"
  k_steps
  refine item_lit (News.isList (by k_asm) (by k_mem)) h0 (by omega) ?_
  generalize which.fmod 12 = k at *
  have hk : k = 0 ∨ k = 1 ∨ k = 2 ∨ k = 3 ∨ k = 4 ∨ k = 5 ∨ k = 6 ∨ k = 7 ∨ k = 8 ∨ k = 9 ∨ k = 10 ∨ k = 11 := by omega
  rcases hk with e | e | e | e | e | e | e | e | e | e | e | e
  all_goals subst e
  all_goals (refine ⟨(by show (_ : Int) < ((12 : Nat) : Int); decide), fun v hv => ?_⟩; obtain rfl := Option.some.inj (show some _ = some v from hv); clear hv)
  all_goals k_steps
  all_goals (rename Own _ _ _ _ _ => O9; rename Fr _ _ _ _ => F9; rename News _ _ _ _ => N9)
  all_goals (have bk := O9.back F9 N9)
  all_goals (show Q (Value.ref _) _)
  all_goals exact hret _ _ _ _ _ _ _ rfl bk.1 (news_mem1 bk.2.2 (by k_mem))
end Mine
end Part_P17
section Part_P21
set_option maxRecDepth 100000
namespace Mine
structure OwnH (h₀ : Heap) (L : Addr) (g : Heap) (m : Str → Option Value) (news hid : List (Addr × Obj)) : Prop where
  ex : ∃ h, g = hideAll h (hid.map (·.1)) ∧ Fr h₀ L h m ∧ News h₀ L h news ∧ ∀ p ∈ hid, p ∈ news
/-- a call of a def that changes some of the caller's objects: these stand hidden from the base and in the ledger -/
theorem enterH_ {w : World} {mean : ExcName → Option Value} {mg mb : Str → Option Value} {cs : Scope} {outer : List Env} {A₀ A : Around} {base h₀ : Heap} {L : Addr} {m : Str → Option Value} {s : Shared} {news : List (Addr × Obj)}
    {cn : Str} {a : Addr} {ccd : Value} {cl : List (Str × Addr)} {R : Result → Shared → Prop} {name qual : Str} {params : Arguments} {body : List Stmt} {scope : Scope} {dV kV doc pm cdv ct oc : Value} {an od : Option Addr} {osl : Array (Option Value)} {f : Addr} {args : Args} {binds : List (Str × Value)} {prog : Program}
    (hid : List (Addr × Obj)) (hh : ∀ p ∈ hid, p ∈ news) (C : Cx w mean mg mb cs outer A₀ base h₀ L m s news) (hA : A.frames = some (envX cn cs L a ccd cl :: outer))
    (ho : (hd.heap_39 w.params).lookup f = some ⟨oc, od, .func (fnOf name qual params body scope dV kV doc pm an cdv ct), osl⟩) (hcd : codeIn (hd.heap_39 w.params) cdv qual = true) (hroom : A.depth < recursionLimit)
    (hbind : BindsTo s (fnOf name qual params body scope dV kV doc pm an cdv ct) args binds) (hloc : ∀ y ∈ binds, scope.names.lookup y.1 = some .local)
    (h : ∀ g L' h₁ tk, OwnH h₀ L g m news hid → (∀ b o, s.heap.get? b = some o → b ∉ hid.map (·.1) → g.get? b = some o) → 1 ≤ tk → Fr g L' h₁ (fun y => binds.reverse.lookup y) → News g L' h₁ hid → Below A base (envX cn cs L a ccd cl :: outer) g → (hd.heap_39 w.params).In g →
      Top topProg ((looseW hd.view_39 [Str.ofString "ONE_THIRD", Str.ofString "ONE_SIXTH", Str.ofString "TWO_THIRD", Str.ofString "_twin_re_1", Str.ofString "_twin_re_2"]) ++ (recsOf hd.view_39).map (·.name) ++ (litsOf hd.view_39).map (·.1) ++ (clssOf hd.view_39 (looseW hd.view_39 [Str.ofString "ONE_THIRD", Str.ofString "ONE_SIXTH", Str.ofString "TWO_THIRD", Str.ofString "_twin_re_1", Str.ofString "_twin_re_2"])).map (·.name)) mean mg mb g →
      wpAny (model prog w) (A.deeper (envOf qual scope L' f cdv)) (execs body (envOf qual scope L' f cdv))
        (fun fl s' => Done R (match fl with | .ret v => v | _ => .none) s')
        (fun e s' => wpAny (model prog w) (A.deeper (envOf qual scope L' f cdv)) (leaving (envOf qual scope L' f cdv) e) (fun _ s'' => R (.error e) s'') (fun e' s'' => R (.error e') s'') s')
        { s with heap := h₁, toks := tk })
    (hco : scope.isCoroutine = false := by rfl) (hgen : scope.isGenerator = false := by rfl) (hk : scope.kind = .function := by rfl)
    (hcell : ∀ x ∈ scope.names, x.2 ≠ .cell := by decide) (hne : binds.isEmpty = false := by rfl) : codeAny (model prog w) A (.call (.ref f) args) R s := by
  have X := C.X.keeps C.F.keep
  have Nh : News h₀ L s.heap hid := fun p hp => C.N p (hh p hp)
  obtain ⟨_, BG, st, _⟩ := groundX (R := R) C.B C.F Nh hA rfl C.k
  refine codeAny_call_def (fd := fnOf name qual params body scope dV kV doc pm an cdv ct) (body := body) (binds := binds) hroom (X _ _ ho) rfl (C.T.nolimit.keeps C.F.keep) (codeRec_of X hcd) rfl hbind hcell hloc (fun h₁ hns hk₁ => ?_) hco hgen hk
  exact h _ s.heap.objs.size h₁ _ ⟨s.heap, rfl, C.F, C.N, hh⟩ (fun b o e hb => hideAll_get _ e hb) (Nat.le_trans (List.length_pos_iff.mpr (by intro e; rw [e] at hne; cases hne)) (Nat.le_add_left _ _))
    ⟨hns, fun b o e => hk₁ b o (of_hideAll _ e), Nat.le_of_eq (hideAll_size _ _)⟩ (fun p hp => ⟨hk₁ _ _ (Nh p hp).1, Nat.ne_of_lt (Heap.lt_size (Nh p hp).1), hideAll_none _ (List.mem_map_of_mem hp)⟩) BG (C.X.keeps st) (C.T.keeps st)
theorem OwnH.back {h₀ g h' : Heap} {L L' : Addr} {m m' : Str → Option Value} {news hid news' : List (Addr × Obj)} (O : OwnH h₀ L g m news hid) (F' : Fr g L' h' m') (N' : News g L' h' news') :
    Fr h₀ L h' m ∧ ∀ rest, (∀ p ∈ rest, p ∈ news ∧ p.1 ∉ hid.map (·.1)) → News h₀ L h' (news' ++ rest) := by
  obtain ⟨h, rfl, F, N, hh⟩ := O.ex
  have old : ∀ b o, h₀.get? b = some o → (hideAll h (hid.map (·.1))).get? b = some o := fun b o e => hideAll_get _ (F.keep b o e) fun q => by
    obtain ⟨p, hp, rfl⟩ := List.mem_map.mp q
    rw [(N p (hh p hp)).2.2] at e; cases e
  obtain ⟨oL, es, ep, hL, hLd, hLk, hLf⟩ := F.ns
  have nL : L ∉ hid.map (·.1) := fun q => by
    obtain ⟨p, hp, e⟩ := List.mem_map.mp q
    exact (N p (hh p hp)).2.1 e
  have hLg := hideAll_get _ hL nL
  refine ⟨⟨⟨oL, es, ep, F'.keep _ _ hLg, hLd, hLk, hLf⟩, fun b o e => F'.keep _ _ (old b o e), F.above⟩, fun rest hr p hp => ?_⟩
  rcases List.mem_append.mp hp with hp | hp
  · obtain ⟨h1, _, h3⟩ := N' p hp
    refine ⟨h1, fun q => ?_, ?_⟩
    · rw [q, hLg] at h3; cases h3
    · cases q : h₀.get? p.1 with
      | none => rfl
      | some o => rw [old _ _ q] at h3; cases h3
  · obtain ⟨h1, h2⟩ := hr p hp
    exact ⟨F'.keep _ _ (hideAll_get _ (N p h1).1 h2), (N p h1).2⟩
theorem items_ind {prog : Program} {w : World} {A : Around} {E : Value → Shared → Prop} {s : Shared} {Q : Flow → Shared → Prop} {env : Env} {h₀ : Heap} {target : Expr} {body : List Stmt} {ws : List (Addr × String)} {keep : List (Addr × Obj)} (J : (Str → Option Value) → List (Addr × Obj) → Prop)
    (turn : ∀ (k : Nat) x T t h tk m news, J m news → (∃ n u, x = Value.int n u) → IsTup h T #[.int (k : Int) t, x] → Fr h₀ env.locals h m → AllObj ws (fun its => News h₀ env.locals h (its ++ news) →
      wpAny (model prog w) A (assign target env (.ref T)) (fun _ s₂ => wpAny (model prog w) A (execs body env) (UnrPostW h₀ env.locals { s with heap := h, toks := tk } its (fun m' n' => SubL keep n' ∧ J m' n') Q) E s₂) E { s with heap := h, toks := tk }))
    (done : ∀ m news, J m news → ∀ h tk, Fr h₀ env.locals h m → News h₀ env.locals h news → Q .next { s with heap := h, toks := tk })
    (mono : ∀ its s₁ s₂ (f : Flow) (r r' : (Str → Option Value) → List (Addr × Obj) → Prop), (∀ m n, r m n → r' m n) → UnrPostW h₀ env.locals s₁ its r Q f s₂ → UnrPostW h₀ env.locals s₁ its r' Q f s₂)
    (allmono : ∀ (ws : List (Addr × String)) (k k' : List (Addr × Obj) → Prop), (∀ l, k l → k' l) → AllObj ws k → AllObj ws k') :
    ∀ (vs : List Value) (ns : List Int) (k : Nat) m news, IntsAre vs ns → J m news → ItemsRest prog w A E h₀ env target body Q s ws keep (enumItems k vs) m news := by
  intro vs ns k m news hi
  induction hi generalizing k m news with
  | nil => exact fun j => ItemsRest.zero (done m news j)
  | cons n t r ih =>
    intro j
    refine ItemsRest.pair fun T t' h tk hT F => allmono _ _ _ (fun its hk N => ?_) (turn k _ T t' h tk m news j ⟨_, _, rfl⟩ hT F)
    exact wpAny_mono (hk N) (fun _ s₂ h₂ => wpAny_mono h₂ (fun f s₃ z => mono _ _ _ _ _ _ (fun m' n' y => ⟨y.1, ih _ _ _ y.2⟩) z) fun _ _ e => e) fun _ _ e => e
theorem unr_mono {h₀ : Heap} {L : Addr} {Q : Flow → Shared → Prop} (its : List (Addr × Obj)) (s₁ s₂ : Shared) (f : Flow) (r r' : (Str → Option Value) → List (Addr × Obj) → Prop) (h : ∀ m n, r m n → r' m n) (z : UnrPostW h₀ L s₁ its r Q f s₂) : UnrPostW h₀ L s₁ its r' Q f s₂ := by
  have e : UnrEndW h₀ L s₁ its r s₂ → UnrEndW h₀ L s₁ its r' s₂ := fun ⟨h', tk, m', n', a, b, c, d, e⟩ => ⟨h', tk, m', n', a, b, c, d, h _ _ e⟩
  cases f with
  | ret v => exact z
  | brk => exact z
  | next => exact e z
  | cont => exact e z
theorem all_mono : ∀ (ws : List (Addr × String)) (k k' : List (Addr × Obj) → Prop), (∀ l, k l → k' l) → AllObj ws k → AllObj ws k'
  | [], _, _, h, x => h _ x
  | _ :: r, _, _, h, x => fun o ho => all_mono r _ _ (fun l y => h _ y) (x o ho)
end Mine
end Part_P21
section Part_P18
namespace Mine
theorem rules_P18 : True := by
  k_with_none
  k_with "my enter" => (refine' enter_ ?kC ?kA ?k6 ?k7 ?k8 ?k9 ?kB ?_ ?c2 ?c3 ?c4 ?c5 ?c6; (case kC => assumption); (case kA => exact rfl); (case k6 => k_is); (case k7 => k_is); (case k8 => ktr_room); (case k9 => exact BindsTo.of_eq rfl); (case c5 => decide); (case c6 => exact rfl); (case kB => exact locs rfl); (case c2 => exact rfl); (case c3 => exact rfl); (case c4 => exact rfl); k_whole; intro g'k L'k h'k tk'k hg'k htk'k F'k N'k B'k X'k T'k; (have OW'k := own_of (by assumption) hg'k); (try dsimp only); (try k_lift B'k); (try k_fold))
  k_with "my enterH" => (refine' enterH_ _ ?hh ?kC ?kA ?k6 ?k7 ?k8 ?k9 ?kB ?_ ?c2 ?c3 ?c4 ?c5 ?c6; (case kC => assumption); (case hh => assumption); (case kA => exact rfl); (case k6 => k_is); (case k7 => k_is); (case k8 => ktr_room); (case k9 => exact BindsTo.of_eq rfl); (case c5 => decide); (case c6 => exact rfl); (case kB => exact locs rfl); (case c2 => exact rfl); (case c3 => exact rfl); (case c4 => exact rfl); k_whole; intro g'k L'k h'k tk'k OW'k hg'k htk'k F'k N'k B'k X'k T'k; (try dsimp only); (try k_lift B'k); (try k_fold))
  trivial
def JH (D D2 : Addr) (lo : Obj) (m₀ : Str → Option Value) (m : Str → Option Value) (nx : List (Addr × Obj)) : Prop :=
  ∃ (a b c : Int) (ta tb tc : Tok) (n : Nat) (u : Str → Option Value), nx = [(D2, lo), (D, listOf #[.int a ta, .int b tb, .int c tc] n)] ∧ m = fun z => if z = Str.ofString "x" then u z else if z = Str.ofString "place" then u z else m₀ z
theorem map_eq2 {M m₁ : Str → Option Value} (h : ∀ z, z ≠ Str.ofString "x" → z ≠ Str.ofString "place" → M z = m₁ z) : M = fun z => if z = Str.ofString "x" then M z else if z = Str.ofString "place" then M z else m₁ z := by
  funext z
  by_cases h1 : z = Str.ofString "x"
  · simp only [if_pos h1]
  · by_cases h2 : z = Str.ofString "place"
    · simp only [if_neg h1, if_pos h2]
    · simp only [if_neg h1, if_neg h2]
      exact h z h1 h2
theorem set3 {prog : Program} {w : World} {A : Around} {E : Value → Shared → Prop} {s : Shared} {h₀ : Heap} {L D : Addr} {m : Str → Option Value} {news : List (Addr × Obj)} {g : Obj → List (Addr × Obj)} {n : Nat} {Q : Unit → Shared → Prop} {a b c i x : Int} {ta tb tc t u : Tok}
    (F : Fr h₀ L s.heap m) (N : News h₀ L s.heap news) (U : UpdF D (listOf #[.int a ta, .int b tb, .int c tc] n) news g) (h0 : 0 ≤ i) (h1 : i < 3)
    (h : ∀ (a' b' c' : Int) ta' tb' tc' h', Fr h₀ L h' m → News h₀ L h' (g (listOf #[.int a' ta', .int b' tb', .int c' tc'] n)) → Q () { s with heap := h' }) : wpAny (model prog w) A (setItem (.ref D) (.int i t) (.int x u)) Q E s := by
  obtain ⟨pre, post, rfl, hg, p, q⟩ := U.split
  have z := N (D, listOf #[.int a ta, .int b tb, .int c tc] n) (List.mem_append.mpr (.inr (.head _)))
  have hi : i = 0 ∨ i = 1 ∨ i = 2 := by omega
  have go : ∀ a' b' c' ta' tb' tc', (#[Value.int a ta, Value.int b tb, Value.int c tc] : Array Value).setIfInBounds i.toNat (.int x u) = #[.int a' ta', .int b' tb', .int c' tc'] → wpAny (model prog w) A (setItem (.ref D) (.int i t) (.int x u)) Q E s := by
    intro a' b' c' ta' tb' tc' e
    refine ki_setAt z.1 h0 (by omega) (by simp; omega) (h a' b' c' ta' tb' tc' _ (F.change (Heap.SameBut.update ..) z.2.1 z.2.2) ?_)
    rw [hg]
    exact ki_turn (fun x' => x'.setIfInBounds i.toNat (.int x u)) N p q e (by rw [if_pos (by simp)])
  rcases hi with rfl | rfl | rfl
  · exact go x b c u tb tc rfl
  · exact go a x c ta u tc rfl
  · exact go a b x ta tb u rfl
theorem JH.start {D D2 : Addr} {lo : Obj} {m₀ : Str → Option Value} {a b c : Int} {ta tb tc : Tok} {n : Nat} : JH D D2 lo m₀ m₀ [(D2, lo), (D, listOf #[.int a ta, .int b tb, .int c tc] n)] :=
  ⟨a, b, c, ta, tb, tc, n, m₀, rfl, by funext z; simp only [ite_self]⟩
theorem rules_P18_2 : True := by
  k_with "exec For Tuple Call cons nil" => (k_here; (rename Fr _ _ _ _ => lF'k); (with_unfolding_all refine' For_turns lF'k ?_; k_whole))
  k_with "call type:enumerate" => (k_here; (with_reducible show wpAny _ _ (call (Value.type _) [Value.ref _]) (fun xv s₁ => wpAny _ _ (pyIter xv) (fun it s₂ => TurnsAt _ _ _ _ _ _ _ _ _ it s₂) _ s₁) _ _); (refine stop_ ?_))
  k_with "setItem ref int" => (k_here; (with_reducible show wpAny _ _ (setItem (Value.ref _) (Value.int _ _) (Value.int _ _)) _ _ _); (refine set3 (by k_asm) (by k_asm) (by k_updF) (Int.fmod_nonneg_of_pos _ (by decide)) (Int.fmod_lt_of_pos _ (by decide)) ?_); (intro a'k b'k c'k ta'k tb'k tc'k h'k F'k N'k); (try dsimp only [List.nil_append, List.cons_append] at N'k))
  trivial
variable {w : World} {mean : ExcName → Option Value} {mg mb : Str → Option Value} {dp un : Nat} {gd : Option (List Code)} {cn : Str} {cs : Scope} {ad : Addr} {ccd : Value} {cl : List (Str × Addr)} {outer : List Env} {A₀ : Around} {base h₀ : Heap} {L : Addr} {m : Str → Option Value} {s : Shared} {Q E : Value → Shared → Prop} {news : List (Addr × Obj)}
set_option maxRecDepth 100000 in
set_option maxHeartbeats 8000000 in
theorem heaps_ok (C : Cx w mean mg mb cs outer A₀ base h₀ L m s news) (hdp : dp + 1 < recursionLimit) (hun : un + 8 < cLine) (r D : Addr) (vs : List Value) (ns : List Int) (a b c : Int) (ta tb tc : Tok) (n : Nat) 
  (hl : h₀.IsList r vs.toArray) (hs : IntsAre vs ns) (hm : ∀ p ∈ [(D, listOf #[.int a ta, .int b tb, .int c tc] n)], p ∈ news) (hlen : ns.length ≤ 63)
  (hret : ∀ (a b c : Int) ta tb tc n h' tk', Fr h₀ L h' m → (∀ rest, (∀ p ∈ rest, p ∈ news ∧ p.1 ≠ D) → News h₀ L h' ((D, listOf #[.int a ta, .int b tb, .int c tc] n) :: rest)) → Q (.ref D) {s with heap := h', toks := tk'}) :
  wpAny (model PySem.Challenge.rw_sn0034_01.row.prog w) (ktrTop dp un gd cn cs L ad ccd cl outer) (call (.ref 125) [.ref r, .ref D]) Q E s := by
  have hl1 : s.heap.IsList r vs.toArray := hl.at fun o e => C.F.keep r o e
  have hrD : r ∉ ([(D, listOf #[.int a ta, .int b tb, .int c tc] n)] : List (Addr × Obj)).map (·.1) := by
    intro q
    have e : r = D := List.mem_singleton.mp q
    obtain ⟨o, ho, _⟩ := hl
    have := (C.N _ (hm _ (.head _))).2.2
    rw [← e, ho] at this; cases this
  refine wpAny_call ?_
  walk_at "my enterH"
  rename ∀ b o, s.heap.get? b = some o → b ∉ _ → _ => hgs
  replace hl1 := hl1.at fun o e => hgs r o e hrD
  k_steps
  rename Fr _ _ _ _ => F9; rename News _ _ _ _ => N9; rename IntsAre _ (List.take _ _) => hI9
  refine ktu_enum (by rfl) F9 N9 (.head _) rfl rfl rfl ?_
  intro I lI
  k_lt lI
  refine items_ind (JH D _ _ _) ?_ ?_ unr_mono all_mono _ _ 0 _ _ hI9 JH.start
  · rintro k x T t h tk m1 nx ⟨a1, b1, c1, ta1, tb1, tc1, n1, u1, rfl, rfl⟩ ⟨xn, u, rfl⟩ hT F1
    clear F9 N9
    ktu_objs
    k_steps
    all_goals exact ⟨_, _, _, _, _, _, _, _, rfl, map_eq2 (fun z h1 h2 => by simp only [if_neg h1, if_neg h2])⟩
  · rintro m1 nx ⟨a1, b1, c1, ta1, tb1, tc1, n1, u1, rfl, rfl⟩ h tk F1 N1
    clear F9 N9
    k_steps
    rename OwnH _ _ _ _ _ _ => O9
    have bk := O9.back F1 (fun p hp => N1 p (.tail _ hp))
    show Q (Value.ref _) _
    exact hret _ _ _ _ _ _ _ _ _ bk.1 (fun rest hr => bk.2 rest (fun p hp => ⟨(hr p hp).1, fun q => (hr p hp).2 (List.mem_singleton.mp q)⟩))
end Mine
end Part_P18
section Part_P19
namespace Mine
theorem rules_P19 : True := by
  k_with_none
  k_with "my enter" => (refine' enter_ ?kC ?kA ?k6 ?k7 ?k8 ?k9 ?kB ?_ ?c2 ?c3 ?c4 ?c5 ?c6; (case kC => assumption); (case kA => exact rfl); (case k6 => k_is); (case k7 => k_is); (case k8 => ktr_room); (case k9 => exact BindsTo.of_eq rfl); (case c5 => decide); (case c6 => exact rfl); (case kB => exact locs rfl); (case c2 => exact rfl); (case c3 => exact rfl); (case c4 => exact rfl); k_whole; intro g'k L'k h'k tk'k hg'k htk'k F'k N'k B'k X'k T'k; (have OW'k := own_of (by assumption) hg'k); (try dsimp only); (try k_lift B'k); (try k_fold))
  k_with "compareOp LtE int int" => (k_here; (with_reducible show wpAny _ _ (compareOp CmpOp.LtE (Value.int _ _) (Value.int _ _)) _ _ _); (refine le_int ?_); (rw [decide_eq_true (by assumption)]))
  k_with "call builtin:divmod" => (k_here; (with_reducible show wpAny _ _ (call (Value.builtin _) [Value.int _ _, Value.int _ _]) _ _ _); (refine divmod_N (hp := .inl (by assumption)) (by k_asm) (by k_asm) (by omega) ?_); (intro h'k F'k N'k))
  trivial
variable {w : World} {mean : ExcName → Option Value} {mg mb : Str → Option Value} {dp un : Nat} {gd : Option (List Code)} {cn : Str} {cs : Scope} {ad : Addr} {ccd : Value} {cl : List (Str × Addr)} {outer : List Env} {A₀ : Around} {base h₀ : Heap} {L : Addr} {m : Str → Option Value} {s : Shared} {Q E : Value → Shared → Prop} {news : List (Addr × Obj)}
set_option maxRecDepth 100000 in
set_option maxHeartbeats 8000000 in
theorem div2_ok (C : Cx w mean mg mb cs outer A₀ base h₀ L m s news) (hdp : dp + 1 < recursionLimit) (hun : un + 8 < cLine) (a b n : Int) (t1 t2 t3 : Tok) (hb : b ≠ 0)
  (hbits : ((Builtin.Int.intBits a : Nat) : Int) - n ≤ 4000) (hpy : Builtin.divisionGoesByPylong a b = false)
  (hret : ∀ D t t' h' tk', Fr h₀ L h' m → News h₀ L h' ((D, { cls := .type "tuple", data := .seq #[.int (a.fdiv b) t, .int (a.fmod b) t'] }) :: news) → Q (.ref D) {s with heap := h', toks := tk'}) :
  wpAny (model PySem.Challenge.rw_sn0034_01.row.prog w) (ktrTop dp un gd cn cs L ad ccd cl outer) (call (.ref 38) [.int a t1, .int b t2, .int n t3]) Q E s := by
  refine wpAny_call ?_
  walk_at "my enter"
  k_steps
  rename Own _ _ _ _ _ => O9; rename Fr _ _ _ _ => F9; rename News _ _ _ _ => N9
  have bk := O9.back F9 N9
  show Q (Value.ref _) _
  exact hret _ _ _ _ _ bk.1 (news_head bk.2.2)
end Mine
end Part_P19
section Part_P22
set_option maxRecDepth 100000
namespace Mine
/-- a call of a def with cells; some of the caller's objects stand hidden from the base and in the ledger -/
theorem enterHC_ {w : World} {mean : ExcName → Option Value} {mg mb : Str → Option Value} {cs : Scope} {outer : List Env} {A₀ A : Around} {base h₀ : Heap} {L : Addr} {m : Str → Option Value} {s : Shared} {news : List (Addr × Obj)}
    {cn : Str} {a : Addr} {ccd : Value} {cl : List (Str × Addr)} {R : Result → Shared → Prop} {name qual : Str} {params : Arguments} {body : List Stmt} {scope : Scope} {dV kV doc pm cdv ct oc : Value} {an od : Option Addr} {osl : Array (Option Value)} {f : Addr} {args : Args} {binds : List (Str × Value)} {prog : Program}
    (hid : List (Addr × Obj)) (hh : ∀ p ∈ hid, p ∈ news) (C : Cx w mean mg mb cs outer A₀ base h₀ L m s news) (hA : A.frames = some (envX cn cs L a ccd cl :: outer))
    (ho : (hd.heap_39 w.params).lookup f = some ⟨oc, od, .func (fnOf name qual params body scope dV kV doc pm an cdv ct), osl⟩) (hcd : codeIn (hd.heap_39 w.params) cdv qual = true) (hroom : A.depth < recursionLimit)
    (hbind : BindsTo s (fnOf name qual params body scope dV kV doc pm an cdv ct) args binds) (hkind : (binds.all fun y => scope.names.lookup y.1 == some .local || scope.names.lookup y.1 == some .cell) = true)
    (hnd : ((cellsFrom 0 scope.names []).map (·.1)).Nodup)
    (h : ∀ g L' h₁ tk cells, OwnH h₀ L g m news hid → (∀ b o, s.heap.get? b = some o → b ∉ hid.map (·.1) → g.get? b = some o) → Fr g L' h₁ (bindL (envOfC qual scope L' f cdv).kindOf binds fun _ => none) → News g L' h₁ (cells ++ hid) →
      CellsAre (bindC (envOfC qual scope L' f cdv).kindOf binds fun _ => none) (cellsFrom (L' + 1) scope.names []) cells → Below A base (envX cn cs L a ccd cl :: outer) g → (hd.heap_39 w.params).In g →
      Top topProg ((looseW hd.view_39 [Str.ofString "ONE_THIRD", Str.ofString "ONE_SIXTH", Str.ofString "TWO_THIRD", Str.ofString "_twin_re_1", Str.ofString "_twin_re_2"]) ++ (recsOf hd.view_39).map (·.name) ++ (litsOf hd.view_39).map (·.1) ++ (clssOf hd.view_39 (looseW hd.view_39 [Str.ofString "ONE_THIRD", Str.ofString "ONE_SIXTH", Str.ofString "TWO_THIRD", Str.ofString "_twin_re_1", Str.ofString "_twin_re_2"])).map (·.name)) mean mg mb g → (∀ p ∈ hid, p.1 < L') →
      wpAny (model prog w) (A.deeper (envOfC qual scope L' f cdv)) (execs body (envOfC qual scope L' f cdv))
        (fun fl s' => Done R (match fl with | .ret v => v | _ => .none) s')
        (fun e s' => wpAny (model prog w) (A.deeper (envOfC qual scope L' f cdv)) (leaving (envOfC qual scope L' f cdv) e) (fun _ s'' => R (.error e) s'') (fun e' s'' => R (.error e') s'') s')
        { s with heap := h₁, toks := tk })
    (hco : scope.isCoroutine = false := by rfl) (hgen : scope.isGenerator = false := by rfl) (hk : scope.kind = .function := by rfl) : codeAny (model prog w) A (.call (.ref f) args) R s := by
  have X := C.X.keeps C.F.keep
  have Nh : News h₀ L s.heap hid := fun p hp => C.N p (hh p hp)
  obtain ⟨_, BG, st, _⟩ := groundX (R := R) C.B C.F Nh hA rfl C.k
  refine codeAny_call_function hroom (X _ _ ho) rfl hco hgen rfl (codeRec_of X hcd) (hbind _ _ _ _ ?_)
  refine wpAny_newFunctionEnv_cells hk (kindsX hkind _) fun env' he s' x => ?_
  subst he
  refine ⟨(C.T.nolimit.keeps C.F.keep).keeps x.toInCall.keep, codeAny_func ?_⟩
  obtain ⟨h₁, tk, rfl, _⟩ := x.done
  have hk₁ := x.toInCall.keep
  obtain ⟨cells, NC, Y⟩ := Cl.news (h₀ := s.heap) (Nat.le_refl _) fun n c hm => ⟨x.cell n c (lookup_of_mem_nodup (cellsFrom_names scope.names 0 (s.heap.objs.size + 1) [] [] rfl ▸ hnd) hm), x.above n c hm⟩
  refine h _ s.heap.objs.size h₁ tk cells ⟨s.heap, rfl, C.F, C.N, hh⟩ (fun b o e hb => hideAll_get _ e hb) ⟨x.toInCall.ns, fun b o e => hk₁ b o (of_hideAll _ e), Nat.le_of_eq (hideAll_size _ _)⟩ (fun p hp => ?_) Y BG (C.X.keeps st) (C.T.keeps st) (fun p hp => Heap.lt_size (Nh p hp).1)
  rcases List.mem_append.mp hp with hp | hp
  · refine ⟨(NC p hp).1, (NC p hp).2.1, ?_⟩
    cases q : (hideAll s.heap (hid.map (·.1))).get? p.1 with
    | none => rfl
    | some o => have := of_hideAll _ q; rw [(NC p hp).2.2] at this; cases this
  · exact ⟨hk₁ _ _ (Nh p hp).1, Nat.ne_of_lt (Heap.lt_size (Nh p hp).1), hideAll_none _ (List.mem_map_of_mem hp)⟩
end Mine
end Part_P22
section Part_P23
set_option maxRecDepth 100000
namespace Mine
/-! comprehensions of several clauses -/
theorem turn_last {elt iter : Expr} {x : Str} {px pos : Pos} {gens : List Comprehension} {scope : Scope} {d : Nat} {it acc : Value} {env : Env} (hg : gens[d]? = some ⟨.Name x px, iter, [], 0⟩) (hn : gens[d + 1]? = none) :
    compTurn (.ListComp elt gens scope pos) d it acc env = (standAt iter.pos >>= fun _ => pyNext it >>= fun r => match r with
      | none => pure (.done .next)
      | some v => letOwnedTupleGo (.Name x px) it v >>= fun _ => assign (.Name x px) env v >>= fun _ =>
        (eval elt env >>= fun y => call (.builtin "list.append") [acc, y] >>= fun _ => pure ()) >>= fun _ =>
          again (.compLoop (.ListComp elt gens scope pos) d it acc env)) := by
  unfold compTurn
  simp only [hg, hn]
  rfl
theorem turn_more {elt iter iter' : Expr} {x x' : Str} {px px' pos : Pos} {gens : List Comprehension} {scope : Scope} {d : Nat} {it acc : Value} {env : Env} (hg : gens[d]? = some ⟨.Name x px, iter, [], 0⟩) (hn : gens[d + 1]? = some ⟨.Name x' px', iter', [], 0⟩) :
    compTurn (.ListComp elt gens scope pos) d it acc env = (standAt iter.pos >>= fun _ => pyNext it >>= fun r => match r with
      | none => pure (.done .next)
      | some v => letOwnedTupleGo (.Name x px) it v >>= fun _ => assign (.Name x px) env v >>= fun _ =>
        (eval iter' env >>= fun y => standAt iter'.pos >>= fun _ => foldedSetIterable iter' env y >>= fun z => holding [z] (pyIter z) >>= fun w =>
          runOwn (.compStart (.ListComp elt gens scope pos) (d + 1) w acc env) env >>= fun _ => again (.compLoop (.ListComp elt gens scope pos) d it acc env))) := by
  unfold compTurn
  simp only [hg, hn]
  rfl
end Mine
end Part_P23
section Part_P24
set_option maxRecDepth 100000
namespace Mine
def ClauseEnd (h₀ : Heap) (L : Addr) (m : Str → Option Value) (s₁ : Shared) (I : Addr) (oI : Obj) (C D : Addr) (S : List (Addr × Obj) → Prop) (J : List Value → List (Addr × Obj) → (Str → Option Value) → Prop) (s₂ : Shared) : Prop :=
  ∃ h' tk oC' m' ys' nw', s₂ = { s₁ with heap := h', toks := tk } ∧ Fr h₀ L h' m ∧ News h₀ L h' ((I, oI) :: (C, oC') :: (D, LCg.lst ys') :: nw') ∧ LCg.NsObj oC' m' ∧ LCg.Off3 I C D nw' ∧ S nw' ∧ J ys' nw' m'
theorem clause {α : Type} {prog : Program} {w : World} {A : Around} {s : Shared} {R : Result → Shared → Prop} {h₀ : Heap} {L I C D : Addr} {m : Str → Option Value} {c : Code} {rest : Sem α} {x : Str} {px p : Pos} {cenv : Env} {fp : List Addr} {n : Nat} {P : Nat → Value → Prop} {St : Nat → Heap → Prop}
    {S : List (Addr × Obj) → Prop} (J : Nat → List Value → List (Addr × Obj) → (Str → Option Value) → Prop) {oC : Obj} {m₂ : Str → Option Value} {ys : List Value} {nw : List (Addr × Obj)}
    (hq : c.quiet = true) (hu : A.under c = A)
    (hden : (model prog w).den c = (standAt p >>= fun _ => pyNext (.ref I) >>= fun r => match r with
      | none => pure (.done .next)
      | some v => letOwnedTupleGo (.Name x px) (.ref I) v >>= fun _ => assign (.Name x px) cenv v >>= fun _ => rest >>= fun _ => again c).onRaise (fun e => do noteFrame e cenv; theTreesLotGoes e))
    (ht : ∀ v, letOwnedTupleGo (.Name x px) (.ref I) v = pure ()) (hx : cenv.kindOf x = some .local) (hp : (cenv.scope.kind == .class || (cenv.scope.kind == .module && cenv.locals != cenv.globals)) = false) (hC : cenv.locals = C)
    (W : Walks prog w A I fp [I] n P St) (hIo : ∀ i h, St i h → ∃ o, h.get? I = some o)
    (hSt : ∀ i h h' o nw, St i h → h.get? I = some o → h'.get? I = some o → (∀ b o, h₀.get? b = some o → h'.get? b = some o) → News h₀ L h' nw → S nw → St i h')
    (hCf : C ∉ fp) (hIC : I ≠ C) (hID : I ≠ D) (hCD : C ≠ D) (hIL : L ≠ I) (hI₀ : h₀.get? I = none)
    (hst : St 0 s.heap) (F : Fr h₀ L s.heap m) (N : News h₀ L s.heap ((C, oC) :: (D, LCg.lst ys) :: nw)) (hoC : LCg.NsObj oC m₂) (off : LCg.Off3 I C D nw) (hS : S nw) (hJ : J 0 ys nw m₂)
    (body : ∀ i v oI oC m₂ h tk (E' : Value → Shared → Prop) ys nw, i < n → J i ys nw m₂ → P i v → LCg.NsObj oC (fun z => if z = x then some v else m₂ z) → Fr h₀ L h m → News h₀ L h ((I, oI) :: (C, oC) :: (D, LCg.lst ys) :: nw) → LCg.Off3 I C D nw → S nw →
      wpAny (model prog w) A rest (fun _ s' => ClauseEnd h₀ L m { s with heap := h, toks := tk } I oI C D S (J (i + 1)) s') E' { s with heap := h, toks := tk })
    (done : ∀ h tk oC m₂ ys nw, Fr h₀ L h m → News h₀ L h ((C, oC) :: (D, LCg.lst ys) :: nw) → LCg.NsObj oC m₂ → LCg.Off3 I C D nw → J n ys nw m₂ → R (.ok .next) { s with heap := h, toks := tk }) : codeAny (model prog w) A c R s := by
  subst hC
  have hCL : cenv.locals ≠ L := (N _ (.head _)).2.1
  have hC₀ : h₀.get? cenv.locals = none := (N _ (.head _)).2.2
  refine codeAny_loop hq (fun k s' => ∃ h' tk i oC m₂ ys nw, s' = { s with heap := h', toks := tk } ∧ i ≤ n ∧ k = n + 1 - i ∧ St i h' ∧ Fr h₀ L h' m ∧ News h₀ L h' ((cenv.locals, oC) :: (D, LCg.lst ys) :: nw) ∧ LCg.NsObj oC m₂ ∧ LCg.Off3 I cenv.locals D nw ∧ S nw ∧ J i ys nw m₂)
    (fun k s' hI => ?_) (n + 1) ⟨s.heap, s.toks, 0, oC, m₂, ys, nw, rfl, Nat.zero_le _, rfl, hst, F, N, hoC, off, hS, hJ⟩
  rw [hu, hden]
  refine wpAny_noted ?_
  obtain ⟨h', tk, i, oC, m₂, ys, nw, rfl, hi, rfl, hst', F', N', hoC', off', hS', hJ'⟩ := hI
  refine wpAny_bind (wpAny_standAt (wpAny_bind ?_))
  have offN : ∀ q ∈ (cenv.locals, oC) :: (D, LCg.lst ys) :: nw, q.1 ≠ I := fun q hq => by
    rcases List.mem_cons.mp hq with rfl | hq
    · exact Ne.symm hIC
    · rcases List.mem_cons.mp hq with rfl | hq
      · exact Ne.symm hID
      · exact (off'.mem q hq).1
  by_cases hlt : i < n
  · refine W.item i _ _ _ hlt hst' fun v h₂ tk₂ hPv hst₂ hk₂ => ?_
    refine wpAny_bind (wpAny_of_eq (ht v) ?_)
    have N₂ : News h₀ L h₂ ((cenv.locals, oC) :: (D, LCg.lst ys) :: nw) := LCg.news_but N' hk₂ offN
    refine wpAny_bind (wpAny_assign_Name (wpAny_storeName_local hx (hoC'.ns (N₂ _ (.head _)).1) (fun h₃ hn₃ hs₃ => ?_) hp))
    have hst₃ : St (i + 1) h₃ := W.frame _ _ _ hst₂ fun b hb o e => hs₃.extBut b o (fun q => hCf (by rw [← q]; exact hb)) e
    obtain ⟨oI, heI⟩ := hIo _ _ hst₃
    obtain ⟨oC₃, heC, hoC₃⟩ := LCg.ns_obj hn₃
    have F₃ : Fr h₀ L h₃ m := (LCg.fr_but F' hk₂ hIL hI₀).change hs₃ hCL hC₀
    have N₃ : News h₀ L h₃ ((I, oI) :: (cenv.locals, oC₃) :: (D, LCg.lst ys) :: nw) := fun q hq => by
      rcases List.mem_cons.mp hq with rfl | hq
      · exact ⟨heI, Ne.symm hIL, hI₀⟩
      · rcases List.mem_cons.mp hq with rfl | hq
        · exact ⟨heC, hCL, hC₀⟩
        · have z := N₂ q (.tail _ hq)
          refine ⟨hs₃.extBut _ _ ?_ z.1, z.2⟩
          rcases List.mem_cons.mp hq with rfl | hq
          · exact Ne.symm hCD
          · exact (off'.mem q hq).2.1
    refine wpAny_bind (wpAny_mono (body i v oI oC₃ m₂ h₃ _ _ ys nw hlt hJ' hPv hoC₃ F₃ N₃ off' hS') (fun _ s₄ h₄ => ?_) fun _ _ e => e)
    obtain ⟨h₄, tk₄, oC₄, m₄, ys₄, nw₄, rfl, F₄, N₄, hoC₄, off₄, hS₄, hJ₄⟩ := h₄
    have zI := (N₄ (I, oI) List.mem_cons_self).1
    have N₅ : News h₀ L h₄ ((cenv.locals, oC₄) :: (D, LCg.lst ys₄) :: nw₄) := fun q hq => N₄ q (.tail _ hq)
    have hst₄ : St (i + 1) h₄ := hSt _ _ _ _ nw₄ hst₃ heI zI F₄.keep (fun q hq => N₅ q (.tail _ (.tail _ hq))) hS₄
    exact wpAny_pure ⟨rfl, n + 1 - (i + 1), by omega, h₄, tk₄, i + 1, oC₄, m₄, ys₄, nw₄, rfl, hlt, rfl, hst₄, F₄, N₅, hoC₄, off₄, hS₄, hJ₄⟩
  · obtain rfl : i = n := Nat.le_antisymm hi (Nat.not_lt.mp hlt)
    refine W.done _ _ _ hst' fun h₂ tk₂ hk₂ => ?_
    exact wpAny_pure (done h₂ tk₂ oC m₂ ys nw (LCg.fr_but F' hk₂ hIL hI₀) (LCg.news_but N' hk₂ offN) hoC' off' hJ')
end Mine
end Part_P24
section Part_P25
set_option maxRecDepth 100000
namespace Mine
def innerT (elt iter' : Expr) (gens : List Comprehension) (scope : Scope) (pos : Pos) (d : Nat) (acc : Value) (env : Env) : Sem Flow :=
  eval iter' env >>= fun y => standAt iter'.pos >>= fun _ => foldedSetIterable iter' env y >>= fun z => holding [z] (pyIter z) >>= fun w => runOwn (.compStart (.ListComp elt gens scope pos) (d + 1) w acc env) env
theorem turn_more' {elt iter iter' : Expr} {x x' : Str} {px px' pos : Pos} {gens : List Comprehension} {scope : Scope} {d : Nat} {it acc : Value} {env : Env} (hg : gens[d]? = some ⟨.Name x px, iter, [], 0⟩) (hn : gens[d + 1]? = some ⟨.Name x' px', iter', [], 0⟩) :
    compTurn (.ListComp elt gens scope pos) d it acc env = (standAt iter.pos >>= fun _ => pyNext it >>= fun r => match r with
      | none => pure (.done .next)
      | some v => letOwnedTupleGo (.Name x px) it v >>= fun _ => assign (.Name x px) env v >>= fun _ => innerT elt iter' gens scope pos d acc env >>= fun _ => again (.compLoop (.ListComp elt gens scope pos) d it acc env)) := by
  rw [turn_more hg hn]
  unfold innerT
  simp only [bind_assoc]
  all_goals rfl
section
variable {prog : Program} {w : World} {A : Around} {E : Value → Shared → Prop} {R : Result → Shared → Prop} {s : Shared} {elt iter : Expr} {x : Str} {px pos : Pos} {gens : List Comprehension} {scope : Scope} {d : Nat} {it acc : Value} {env : Env}
theorem start_gen (hg : gens[d]? = some ⟨.Name x px, iter, [], 0⟩)
    (h0 : codeAny (model prog w) A (.compLoop (.ListComp elt gens scope pos) d it acc env) R s)
    (h : wpAny (model prog w) A (pyIter it) (fun it' s' => codeAny (model prog w) A (.compLoop (.ListComp elt gens scope pos) d it' acc env) R s')
      (notedBy (model prog w) A env fun x s' => R (.error x) s') s) :
    codeAny (model prog w) A (.compStart (.ListComp elt gens scope pos) d it acc env) R s := by
  refine codeAny_of_tree ?_
  show wpAny _ _ ((compStart (.ListComp elt gens scope pos) d it acc env).onRaise (fun x => do noteFrame x env; standAt theWindowsPlace)) _ _ s
  refine wpAny_notedAt ?_
  unfold compStart
  have hcl : clausesOf (.ListComp elt gens scope pos) = gens := rfl
  rw [hcl, hg]
  show wpAny _ _ (ask >>= _) _ _ s
  refine wpAny_bind (wpAny_askSetting (wpAny_ite ?_))
  split
  · first
      | exact wpAny_bind (wpAny_pure (wpAny_pure (And.intro rfl h0)))
      | exact wpAny_pure (And.intro rfl h0)
  · first
      | exact wpAny_bind (wpAny_rule (wpAny_bind (wpAny_standAt (wpAny_bind (wpAny_mono h (fun it' s' h' => wpAny_pure (And.intro rfl h')) fun _ _ x => x)))))
      | (refine wpAny_bind (wpAny_rule ?_); show wpAny _ _ (standAt iter.pos >>= _) _ _ s; exact wpAny_bind (wpAny_standAt (wpAny_bind (wpAny_mono h (fun it' s' h' => wpAny_pure (And.intro rfl h')) fun _ _ x => x))))
end
end Mine
end Part_P25
section Part_P26
set_option maxRecDepth 100000
namespace Mine
section
variable {prog : Program} {w : World} {A : Around} {s : Shared} {h₀ : Heap} {L I C D : Addr} {m : Str → Option Value} {elt iter' : Expr} {x' : Str} {px' pos : Pos} {gens : List Comprehension} {scope : Scope} {d n : Nat} {cenv : Env} {E : Value → Shared → Prop} {oI oC : Obj} {m₂ : Str → Option Value} {ys : List Value} {nw : List (Addr × Obj)} {Q' : Shared → Prop}
theorem inner_range {α : Type} {rest : Sem α} (J : Nat → List Value → (Str → Option Value) → Prop) (_F₀ : Fr h₀ L s.heap m) (_N₀ : News h₀ L s.heap ((I, oI) :: (C, oC) :: (D, LCg.lst ys) :: nw)) (hA : A.mark none = A) (hh : A.handled = none) (hu : ∀ it, A.under (.compLoop (.ListComp elt gens scope pos) (d + 1) it (.ref D) cenv) = A)
    (hg : gens[d + 1]? = some ⟨.Name x' px', iter', [], 0⟩)
    (hrest : ∀ it, compTurn (.ListComp elt gens scope pos) (d + 1) it (.ref D) cenv = (standAt iter'.pos >>= fun _ => pyNext it >>= fun r => match r with
      | none => pure (.done .next)
      | some v => letOwnedTupleGo (.Name x' px') it v >>= fun _ => assign (.Name x' px') cenv v >>= fun _ => rest >>= fun _ => again (.compLoop (.ListComp elt gens scope pos) (d + 1) it (.ref D) cenv)))
    (hs : ∀ y, foldedSetIterable iter' cenv y = pure y)
    (hx : cenv.kindOf x' = some .local) (hp : (cenv.scope.kind == .class || (cenv.scope.kind == .module && cenv.locals != cenv.globals)) = false) (hC : cenv.locals = C)
    (hIC : I ≠ C) (hID : I ≠ D) (hCD : C ≠ D) (off : LCg.Off3 I C D nw)
    (src : wpAny (model prog w) A (eval iter' cenv) (fun xv s₁ => Stop (∃ r b t u v h1 tk1 m1 oC1, xv = .ref r ∧ s₁ = { s with heap := h1, toks := tk1 } ∧ Fr h₀ L h1 m ∧ News h₀ L h1 ((I, oI) :: (C, oC1) :: (D, LCg.lst ys) :: nw) ∧ LCg.NsObj oC1 m1 ∧ IsRange h1 r 0 b 1 t u v ∧ b = (n : Int) ∧ J 0 ys m1)) E s)
    (hn : n ≤ 64)
    (body : ∀ i v I' oI' oC m₂ h tk (E' : Value → Shared → Prop) ys, i < n → J i ys m₂ → (∃ t, v = Value.int (i : Int) t) → LCg.NsObj oC (fun z => if z = x' then some v else m₂ z) → Fr h₀ L h m → News h₀ L h ((I', oI') :: (C, oC) :: (D, LCg.lst ys) :: (I, oI) :: nw) → LCg.Off3 I' C D ((I, oI) :: nw) → I' ≠ C → I' ≠ D →
      wpAny (model prog w) A rest (fun _ s' => ClauseEnd h₀ L m { s with heap := h, toks := tk } I' oI' C D (fun _ => True) (fun ys' nw' m' => nw' = (I, oI) :: nw ∧ J (i + 1) ys' m') s') E' { s with heap := h, toks := tk })
    (done : ∀ h tk oC m₂ ys, Fr h₀ L h m → News h₀ L h ((I, oI) :: (C, oC) :: (D, LCg.lst ys) :: nw) → LCg.NsObj oC m₂ → J n ys m₂ → Q' { s with heap := h, toks := tk }) :
    wpAny (model prog w) A (innerT elt iter' gens scope pos d (.ref D) cenv) (fun _ s' => Q' s') E s := by
  unfold innerT
  refine wpAny_bind (wpAny_mono src (fun xv s₁ h₁ => ?_) fun _ _ e => e)
  obtain ⟨r, b, t, u, v, h1, tk1, m1, oC1, rfl, rfl, F, N, hoC, hr, hb, hJ⟩ := h₁
  have hrn := rangeN hb hn
  refine wpAny_bind (wpAny_standAt ?_)
  refine wpAny_bind (wpAny_of_eq (hs _) ?_)
  refine wpAny_bind (wpAny_holding (wpAny_pyIter_range hr hrn.1 ?_))
  have up : ∀ (o : Obj) b' o', h1.get? b' = some o' → (h1.push o).get? b' = some o' := fun o b' o' e => Heap.get?_push_of_some _ e
  have lt : ∀ p ∈ (I, oI) :: (C, oC1) :: (D, LCg.lst ys) :: nw, p.1 ≠ h1.objs.size := fun p hp => Nat.ne_of_lt (Heap.lt_size (N p hp).1)
  have hIn : I ≠ h1.objs.size := lt _ (.head _)
  have hCn : C ≠ h1.objs.size := lt _ (.tail _ (.head _))
  have hDn : D ≠ h1.objs.size := lt _ (.tail _ (.tail _ (.head _)))
  have offn : LCg.Off3 h1.objs.size C D ((I, oI) :: nw) := LCg.Off3.of fun p hp => by
    rcases List.mem_cons.mp hp with rfl | hp
    · exact ⟨hIn, hIC, hID⟩
    · exact ⟨lt p (.tail _ (.tail _ (.tail _ hp))), (off.mem p hp).2.1, (off.mem p hp).2.2⟩
  have Nn : ∀ h', (∀ b' o', h1.get? b' = some o' → h'.get? b' = some o') → News h₀ L h' ((C, oC1) :: (D, LCg.lst ys) :: (I, oI) :: nw) := fun h' k p hp => by
    have hm : p ∈ (I, oI) :: (C, oC1) :: (D, LCg.lst ys) :: nw := by
      rcases List.mem_cons.mp hp with rfl | hp
      · exact .tail _ (.head _)
      · rcases List.mem_cons.mp hp with rfl | hp
        · exact .tail _ (.tail _ (.head _))
        · rcases List.mem_cons.mp hp with rfl | hp
          · exact .head _
          · exact .tail _ (.tail _ (.tail _ hp))
    exact ⟨k _ _ (N p hm).1, (N p hm).2⟩
  refine wpAny_runOwn ?_
  rw [hA]
  have loop : ∀ s₂ : Shared, s₂ = { s with heap := h1.push { cls := .type "range_iterator", data := .fields #[rawInt 0, rawInt (Builtin.Range.rangeSize 0 b 1), rawInt 1] }, toks := tk1 } →
      codeAny (model prog w) A (.compLoop (.ListComp elt gens scope pos) (d + 1) (.ref h1.objs.size) (.ref D) cenv) (fun r s' => match r with | .ok f => Q' s' | .error e => cameBackBy (model prog w) A cenv E e s') s₂ := by
    rintro s₂ rfl
    refine clause (I := h1.objs.size) (L := L) (m := m) (S := fun _ => True) (fun i ys nw' m' => nw' = (I, oI) :: nw ∧ J i ys m') rfl (hu _) (x := x') (px := px') (p := iter'.pos) (rest := rest) (cenv := cenv) ?_ (fun _ => rfl) hx hp hC
      (LCg.range_walks hh 0 n) (fun i h st => ⟨_, st⟩) LCg.range_st ?_ (Ne.symm hCn) (Ne.symm hDn) hCD (Nat.ne_of_lt F.ns.lt) (next_is_new F) ?_ (F.keeps (up _)) (Nn _ (up _)) hoC offn trivial ⟨rfl, hJ⟩ ?_ ?_
    · show (compTurn _ _ _ _ _).onRaise _ = _
      rw [hrest]
      all_goals rfl
    · intro q
      exact hCn (List.mem_singleton.mp q)
    · show IsRangeIter _ _ _ _ _
      rw [hrn.2]
      simpa using Heap.get?_push_size _ rfl
    · rintro i v oI' oC' m₂ h tk E' ys' nw' hi ⟨rfl, hJ'⟩ ⟨t', hv⟩ hoC' F' N' off' _
      exact body i v _ oI' oC' m₂ h tk E' ys' hi hJ' ⟨t', by rw [hv]; congr 1; omega⟩ hoC' F' N' off' (Ne.symm hCn) (Ne.symm hDn)
    · rintro h tk oC' m₂ ys' nw' F' N' hoC' off' ⟨rfl, hJ'⟩
      refine done h tk oC' m₂ ys' F' (fun p hp => N' p ?_) hoC' hJ'
      rcases List.mem_cons.mp hp with rfl | hp
      · exact .tail _ (.tail _ (.head _))
      · rcases List.mem_cons.mp hp with rfl | hp
        · exact .head _
        · rcases List.mem_cons.mp hp with rfl | hp
          · exact .tail _ (.head _)
          · exact .tail _ (.tail _ (.tail _ hp))
  exact start_gen hg (loop _ rfl) ((LCg.range_walks hh 0 n).self 0 _ _ _ (by
    show IsRangeIter _ _ _ _ _
    rw [hrn.2]
    simpa using Heap.get?_push_size _ rfl) (loop _ rfl))
end
end Mine
end Part_P26
section Part_P27
set_option maxRecDepth 100000
namespace Mine
/-- the block of a comprehension of several clauses: list, namespace, then the first clause by `clause` -/
theorem block_N {α : Type} {prog : Program} {w : World} {A : Around} {E : Value → Shared → Prop} {s₂ : Shared} {env : Env} {h₀ : Heap} {L I : Addr} {m : Str → Option Value} {elt iter : Expr} {x : Str} {px pos : Pos} {gens : List Comprehension} {scope : Scope} {cl : List (Str × Addr)} {fp : List Addr} {n : Nat} {P : Nat → Value → Prop} {St : Nat → Heap → Prop}
    {S : List (Addr × Obj) → Prop} {nw : List (Addr × Obj)} {RR : Value → Addr → Result → Shared → Prop} (rest : Value → Env → Sem α) (J : Addr → Addr → Nat → List Value → List (Addr × Obj) → (Str → Option Value) → Prop)
    (hg : gens[0]? = some ⟨.Name x px, iter, [], 0⟩)
    (hrest : ∀ acc cenv, compTurn (.ListComp elt gens scope pos) 0 (.ref I) acc cenv = (standAt iter.pos >>= fun _ => pyNext (.ref I) >>= fun r => match r with
      | none => pure (.done .next)
      | some v => letOwnedTupleGo (.Name x px) (.ref I) v >>= fun _ => assign (.Name x px) cenv v >>= fun _ => rest acc cenv >>= fun _ => again (.compLoop (.ListComp elt gens scope pos) 0 (.ref I) acc cenv)))
    (hu : ∀ acc C, A.under (.compLoop (.ListComp elt gens scope pos) 0 (.ref I) acc (compEnvC scope cl C env)) = A)
    (W : Walks prog w A I fp [I] n P St) (hIo : ∀ i h, St i h → ∃ o, h.get? I = some o)
    (hSt : ∀ i h h' o nw, St i h → h.get? I = some o → h'.get? I = some o → (∀ b o, h₀.get? b = some o → h'.get? b = some o) → News h₀ L h' nw → S nw → St i h')
    (hcell : ∀ y ∈ scope.names, y.2 ≠ .cell) (hkind : scope.kind = .function) (hx : scope.names.lookup x = some .local) (hst : St 0 s₂.heap) (hfp : ∀ b ∈ fp, b < s₂.heap.objs.size)
    (F : Fr h₀ L s₂.heap m) (N : News h₀ L s₂.heap nw) (hIL : L ≠ I) (hI₀ : h₀.get? I = none) (off : ∀ p ∈ nw, p.1 ≠ I) (hS : S nw) (hJ : ∀ C D, J C D 0 [] nw (fun _ => none))
    (body : ∀ C D i v oI oC m₂ h tk (E' : Value → Shared → Prop) ys nw, C ≠ L → I ≠ C → I ≠ D → C ≠ D → i < n → J C D i ys nw m₂ → P i v → LCg.NsObj oC (fun z => if z = x then some v else m₂ z) → Fr h₀ L h m → News h₀ L h ((I, oI) :: (C, oC) :: (D, LCg.lst ys) :: nw) → LCg.Off3 I C D nw → S nw →
      wpAny (model prog w) A (rest (.ref D) (compEnvC scope cl C env)) (fun _ s' => ClauseEnd h₀ L m { s₂ with heap := h, toks := tk } I oI C D S (J C D (i + 1)) s') E' { s₂ with heap := h, toks := tk })
    (hRR : ∀ D C h tk oC m' ys nw, Fr h₀ L h m → News h₀ L h ((C, oC) :: (D, LCg.lst ys) :: nw) → LCg.NsObj oC m' → LCg.Off3 I C D nw → C ≠ D → J C D n ys nw m' → RR (.ref D) C (.ok .next) { s₂ with heap := h, toks := tk }) :
    wpAny (model prog w) A (newList []) (fun acc s₃ => wpAny (model prog w) A (newFunctionEnv scope env.globals cl [] env.qual none .none (some env)) (fun cenv s₄ =>
      codeAny (model prog w) A (.compStart (.ListComp elt gens scope pos) 0 (.ref I) acc { cenv with scope := relabel scope env }) (RR acc cenv.locals) s₄) E s₃) E s₂ := by
  refine wpAny_newObj_type (wpAny_newFunctionEnv hcell (by intro y hy; simp at hy) (fun h₁ hns₁ hsb₁ => ?_) hkind)
  dsimp only at hns₁ hsb₁ ⊢
  generalize hH2 : s₂.heap.push { cls := .type "list", dict := none, data := .seq ([] : List Value).toArray } = H2 at hns₁ hsb₁ ⊢
  have hC : H2.objs.size = s₂.heap.objs.size + 1 := by rw [← hH2, Heap.size_push]
  have hDC : s₂.heap.objs.size ≠ H2.objs.size := by rw [hC]; exact Nat.ne_of_lt (Nat.lt_succ_self _)
  have hIlt : I < s₂.heap.objs.size := hfp I (W.sub I (List.mem_singleton.mpr rfl))
  have bel : ∀ b, b < s₂.heap.objs.size → b ≠ H2.objs.size ∧ b ≠ s₂.heap.objs.size := fun b hb => ⟨by rw [hC]; exact Nat.ne_of_lt (Nat.lt_succ_of_lt hb), Nat.ne_of_lt hb⟩
  have old : ∀ b o, s₂.heap.get? b = some o → h₁.get? b = some o := fun b o e => hsb₁.extBut b o (bel b (Heap.lt_size e)).1 (Heap.get?_push_of_some _ (hH2 ▸ Heap.get?_push_of_some _ e))
  have hacc : h₁.get? s₂.heap.objs.size = some (LCg.lst []) := hsb₁.extBut _ _ hDC (Heap.get?_push_of_some _ (hH2 ▸ Heap.get?_push_size _ rfl))
  have new₀ : ∀ a, s₂.heap.objs.size ≤ a → h₀.get? a = none := fun a ha => by
    cases e : h₀.get? a with
    | none => rfl
    | some o => exact absurd (Heap.lt_size (F.keep _ _ e)) (Nat.not_lt.mpr ha)
  obtain ⟨oC, heC, hoC⟩ := LCg.ns_obj hns₁
  have hLlt : L < s₂.heap.objs.size := F.ns.lt
  have Nn : News h₀ L h₁ ((H2.objs.size, oC) :: (s₂.heap.objs.size, LCg.lst []) :: nw) := fun p hp => by
    rcases List.mem_cons.mp hp with rfl | hp
    · exact ⟨heC, Ne.symm (bel L hLlt).1, new₀ _ (by rw [hC]; exact Nat.le_succ _)⟩
    · rcases List.mem_cons.mp hp with rfl | hp
      · exact ⟨hacc, Ne.symm (bel L hLlt).2, new₀ _ (Nat.le_refl _)⟩
      · exact ⟨old _ _ (N p hp).1, (N p hp).2⟩
  have offn : LCg.Off3 I H2.objs.size s₂.heap.objs.size nw := LCg.Off3.of fun p hp => ⟨off p hp, (bel _ (Heap.lt_size (N p hp).1)).1, (bel _ (Heap.lt_size (N p hp).1)).2⟩
  have hst₁ : St 0 h₁ := W.frame _ _ _ hst fun b _ o e => old b o e
  have loop : ∀ s₃ : Shared, s₃ = { s₂ with heap := h₁, toks := s₂.toks + ([] : List (Str × Value)).length } →
      codeAny (model prog w) A (.compLoop (.ListComp elt gens scope pos) 0 (.ref I) (.ref s₂.heap.objs.size) (compEnvC scope cl H2.objs.size env)) (RR (.ref s₂.heap.objs.size) H2.objs.size) s₃ := by
    rintro s₃ rfl
    refine clause (I := I) (L := L) (m := m) (S := S) (J H2.objs.size s₂.heap.objs.size) rfl (hu _ _) (x := x) (px := px) (p := iter.pos) (rest := rest (.ref s₂.heap.objs.size) (compEnvC scope cl H2.objs.size env)) (cenv := compEnvC scope cl H2.objs.size env) ?_ (fun _ => rfl)
      (lookup_relabel_local hx) (by simp [compEnvC, relabel, hkind]) rfl W hIo hSt (fun q => ?_) (bel I hIlt).1 (bel I hIlt).2 (Ne.symm hDC) hIL hI₀ hst₁ (F.keeps old) Nn (m₂ := fun _ => none) ?_ offn hS (hJ _ _) ?_ ?_
    · show (compTurn _ _ _ _ _).onRaise _ = _
      rw [hrest]
      all_goals rfl
    · have := hfp _ q; rw [hC] at this; exact Nat.lt_irrefl _ (Nat.lt_of_succ_lt this)
    · simpa using hoC
    · intro i v oI oC m₂ h tk E' ys nw hi hJ' hPv hoC' F' N' off' hS'
      exact body _ _ i v oI oC m₂ h tk E' ys nw (Ne.symm (bel L hLlt).1) (bel I hIlt).1 (bel I hIlt).2 (Ne.symm hDC) hi hJ' hPv hoC' F' N' off' hS'
    · intro h tk oC m₂ ys nw F' N' hoC' off' hJ'
      exact hRR _ _ h tk oC m₂ ys nw F' N' hoC' off' (Ne.symm hDC) hJ'
  exact start_gen hg (loop _ rfl) (W.self 0 _ _ _ hst₁ (loop _ rfl))
end Mine
end Part_P27
section Part_P28
set_option maxRecDepth 100000
namespace Mine
section
variable {α : Type} {prog : Program} {w : World} {A : Around} {E : Value → Shared → Prop} {s : Shared} {env : Env} {h₀ : Heap} {L : Addr} {m : Str → Option Value} {elt iter : Expr} {x : Str} {px pos : Pos} {g : Comprehension} {gs : List Comprehension} {scope : Scope} {cl : List (Str × Addr)} {n : Nat} {nw : List (Addr × Obj)} {Q : Value → Shared → Prop}
theorem ListComp_NR (rest : Value → Env → Sem α) (J : Nat → List Value → (Str → Option Value) → Prop)
    (hrest : ∀ it acc cenv, compTurn (.ListComp elt (⟨.Name x px, iter, [], 0⟩ :: gs) scope pos) 0 it acc cenv = (standAt iter.pos >>= fun _ => pyNext it >>= fun r => match r with
      | none => pure (.done .next)
      | some v => letOwnedTupleGo (.Name x px) it v >>= fun _ => assign (.Name x px) cenv v >>= fun _ => rest acc cenv >>= fun _ => again (.compLoop (.ListComp elt (⟨.Name x px, iter, [], 0⟩ :: gs) scope pos) 0 it acc cenv)))
    (hu : ∀ it acc C, A.under (.compLoop (.ListComp elt (⟨.Name x px, iter, [], 0⟩ :: gs) scope pos) 0 it acc (compEnvC scope cl C env)) = A) (hh : A.handled = none)
    (hclos : closureFor scope env = pure cl) (hcell : ∀ y ∈ scope.names, y.2 ≠ .cell) (hkind : scope.kind = .function)
    (hnames : ∀ y ∈ scope.names, y.2 = .local → scope.names.lookup y.1 = some .local) (hx : scope.names.lookup x = some .local)
    (hs : ∀ x, foldedSetIterable iter env x = pure x)
    (src : wpAny (model prog w) A (eval iter env) (fun xv s₁ => ∃ r b t u v h1 tk1, xv = .ref r ∧ s₁ = { s with heap := h1, toks := tk1 } ∧ Fr h₀ L h1 m ∧ News h₀ L h1 nw ∧ IsRange h1 r 0 b 1 t u v ∧ b = (n : Int)) E s)
    (hn : n ≤ 64) (hJ : J 0 [] (fun _ => none))
    (body : ∀ I C D i v oI oC m₂ h tk (E' : Value → Shared → Prop) ys, C ≠ L → I ≠ C → I ≠ D → C ≠ D → i < n → J i ys m₂ → (∃ t, v = Value.int (i : Int) t) → LCg.NsObj oC (fun z => if z = x then some v else m₂ z) → Fr h₀ L h m → News h₀ L h ((I, oI) :: (C, oC) :: (D, LCg.lst ys) :: nw) → LCg.Off3 I C D nw →
      wpAny (model prog w) A (rest (.ref D) (compEnvC scope cl C env)) (fun _ s' => ClauseEnd h₀ L m { s with heap := h, toks := tk } I oI C D (fun _ => True) (fun ys' nw' m' => nw' = nw ∧ J (i + 1) ys' m') s') E' { s with heap := h, toks := tk })
    (fin : ∀ D h tk ys m', Fr h₀ L h m → News h₀ L h ((D, LCg.lst ys) :: nw) → LCg.Off1 D nw → J n ys m' → Q (.ref D) { s with heap := h, toks := tk }) :
    wpAny (model prog w) A (eval (.ListComp elt (⟨.Name x px, iter, [], 0⟩ :: gs) scope pos) env) Q E s := by
  rw [eval_ListComp]
  refine wpAny_comprehension_free (use := none) rfl hs hclos hkind hnames (wpAny_mono src (fun xv s₁ h₁ => ?_) fun _ _ e => e)
  obtain ⟨r, b, t, u, v, h1, tk1, rfl, rfl, F, N, hr, hb⟩ := h₁
  have hrn := rangeN hb hn
  refine wpAny_pyIter_range hr hrn.1 ?_
  refine block_N (I := h1.objs.size) (L := L) (m := m) (S := fun _ => True) (nw := nw) rest (fun _ _ i ys nw' m' => nw' = nw ∧ J i ys m') rfl (hrest _) (hu _) (LCg.range_walks hh 0 n) (fun i h st => ⟨_, st⟩) LCg.range_st hcell hkind hx ?_ (fun b hb => ?_)
    (F.keeps fun _ _ e => Heap.get?_push_of_some _ e) (N.grown fun _ _ e => Heap.get?_push_of_some _ e) (Nat.ne_of_lt F.ns.lt) (next_is_new F) (fun p hp => Nat.ne_of_lt (Heap.lt_size (N p hp).1)) trivial (fun _ _ => ⟨rfl, hJ⟩) ?_ ?_
  · show IsRangeIter _ _ _ _ _
    rw [hrn.2]
    simpa using Heap.get?_push_size _ rfl
  · rw [List.mem_singleton.mp hb]
    show h1.objs.size < (h1.push _).objs.size
    rw [Heap.size_push]; exact Nat.lt_succ_self _
  · rintro C D i v oI oC m₂ h tk E' ys nw' h1' h2' h3' h4' hi ⟨rfl, hJ'⟩ ⟨t', hv⟩ hoC' F' N' off' _
    exact body _ C D i v oI oC m₂ h tk E' ys h1' h2' h3' h4' hi hJ' ⟨t', by rw [hv]; congr 1; omega⟩ hoC' F' N' off'
  · rintro D C h tk oC m' ys nw' F' N' hoC' off' hCD ⟨rfl, hJ'⟩
    have zC := N' _ (.head _)
    refine ⟨m', hoC'.ns zC.1, fun h'' hs'' => fin D h'' tk ys m' (F'.change hs'' zC.2.1 zC.2.2) (fun p hp => ?_) off'.one hJ'⟩
    have z := N' p (.tail _ hp)
    refine ⟨hs''.extBut _ _ ?_ z.1, z.2⟩
    rcases List.mem_cons.mp hp with rfl | hp
    · exact Ne.symm hCD
    · exact (off'.mem p hp).2.1
end
end Mine
end Part_P28
section Part_P29
set_option maxRecDepth 100000
namespace Mine
section
variable {α : Type} {prog : Program} {w : World} {A : Around} {E : Value → Shared → Prop} {s : Shared} {env : Env} {h₀ : Heap} {L : Addr} {m : Str → Option Value} {elt iter : Expr} {x : Str} {px pos : Pos} {g : Comprehension} {gs : List Comprehension} {scope : Scope} {cl : List (Str × Addr)} {nw : List (Addr × Obj)} {Q : Value → Shared → Prop}
theorem ListComp_NL {its : Array Value} (rest : Value → Env → Sem α) (J : Nat → List Value → (Str → Option Value) → Prop)
    (hrest : ∀ it acc cenv, compTurn (.ListComp elt (⟨.Name x px, iter, [], 0⟩ :: gs) scope pos) 0 it acc cenv = (standAt iter.pos >>= fun _ => pyNext it >>= fun r => match r with
      | none => pure (.done .next)
      | some v => letOwnedTupleGo (.Name x px) it v >>= fun _ => assign (.Name x px) cenv v >>= fun _ => rest acc cenv >>= fun _ => again (.compLoop (.ListComp elt (⟨.Name x px, iter, [], 0⟩ :: gs) scope pos) 0 it acc cenv)))
    (hu : ∀ it acc C, A.under (.compLoop (.ListComp elt (⟨.Name x px, iter, [], 0⟩ :: gs) scope pos) 0 it acc (compEnvC scope cl C env)) = A) (hh : A.handled = none)
    (hclos : closureFor scope env = pure cl) (hcell : ∀ y ∈ scope.names, y.2 ≠ .cell) (hkind : scope.kind = .function)
    (hnames : ∀ y ∈ scope.names, y.2 = .local → scope.names.lookup y.1 = some .local) (hx : scope.names.lookup x = some .local)
    (hs : ∀ x, foldedSetIterable iter env x = pure x)
    (src : wpAny (model prog w) A (eval iter env) (fun xv s₁ => ∃ r h1 tk1, xv = .ref r ∧ s₁ = { s with heap := h1, toks := tk1 } ∧ Fr h₀ L h1 m ∧ News h₀ L h1 nw ∧ h₀.IsList r its) E s)
    (hJ : J 0 [] (fun _ => none))
    (body : ∀ I C D i v oI oC m₂ h tk (E' : Value → Shared → Prop) ys, C ≠ L → I ≠ C → I ≠ D → C ≠ D → i < its.size → J i ys m₂ → its[i]? = some v → LCg.NsObj oC (fun z => if z = x then some v else m₂ z) → Fr h₀ L h m → News h₀ L h ((I, oI) :: (C, oC) :: (D, LCg.lst ys) :: nw) → LCg.Off3 I C D nw →
      wpAny (model prog w) A (rest (.ref D) (compEnvC scope cl C env)) (fun _ s' => ClauseEnd h₀ L m { s with heap := h, toks := tk } I oI C D (fun _ => True) (fun ys' nw' m' => nw' = nw ∧ J (i + 1) ys' m') s') E' { s with heap := h, toks := tk })
    (fin : ∀ D h tk ys m', Fr h₀ L h m → News h₀ L h ((D, LCg.lst ys) :: nw) → LCg.Off1 D nw → J its.size ys m' → Q (.ref D) { s with heap := h, toks := tk }) :
    wpAny (model prog w) A (eval (.ListComp elt (⟨.Name x px, iter, [], 0⟩ :: gs) scope pos) env) Q E s := by
  rw [eval_ListComp]
  refine wpAny_comprehension_free (use := none) rfl hs hclos hkind hnames (wpAny_mono src (fun xv s₁ h₁ => ?_) fun _ _ e => e)
  obtain ⟨r, h1, tk1, rfl, rfl, F, N, hl₀⟩ := h₁
  have hl : h1.IsList r its := hl₀.at fun o e => F.keep r o e
  have hlt : r < h1.objs.size := by obtain ⟨_, e, _⟩ := hl; exact Heap.lt_size e
  refine wpAny_pyIter_list hl ?_
  refine block_N (I := h1.objs.size) (L := L) (m := m) (S := fun _ => True) (nw := nw) rest (fun _ _ i ys nw' m' => nw' = nw ∧ J i ys m') rfl (hrest _) (hu _) (Walks.list hh h1.objs.size r (Nat.ne_of_lt hlt) its) (fun i h st => by obtain ⟨o, e, _⟩ := st.1; exact ⟨o, e⟩)
    (fun i h h' o nw'' st e e' k N'' _ => LCg.list_st i h h' o nw'' st e e' k N'' (.inl hl₀)) hcell hkind hx ⟨⟨_, Heap.get?_push_size _ rfl, rfl, rfl⟩, hl.push _⟩ (fun b hb => ?_)
    (F.keeps fun _ _ e => Heap.get?_push_of_some _ e) (N.grown fun _ _ e => Heap.get?_push_of_some _ e) (Nat.ne_of_lt F.ns.lt) (next_is_new F) (fun p hp => Nat.ne_of_lt (Heap.lt_size (N p hp).1)) trivial (fun _ _ => ⟨rfl, hJ⟩) ?_ ?_
  · show b < (h1.push _).objs.size
    rw [Heap.size_push]
    rcases List.mem_cons.mp hb with rfl | hb
    · exact Nat.lt_succ_self _
    · rw [List.mem_singleton.mp hb]; exact Nat.lt_succ_of_lt hlt
  · rintro C D i v oI oC m₂ h tk E' ys nw' h1' h2' h3' h4' hi ⟨rfl, hJ'⟩ hv hoC' F' N' off' _
    exact body _ C D i v oI oC m₂ h tk E' ys h1' h2' h3' h4' hi hJ' hv hoC' F' N' off'
  · rintro D C h tk oC m' ys nw' F' N' hoC' off' hCD ⟨rfl, hJ'⟩
    have zC := N' _ (.head _)
    refine ⟨m', hoC'.ns zC.1, fun h'' hs'' => fin D h'' tk ys m' (F'.change hs'' zC.2.1 zC.2.2) (fun p hp => ?_) off'.one hJ'⟩
    have z := N' p (.tail _ hp)
    refine ⟨hs''.extBut _ _ ?_ z.1, z.2⟩
    rcases List.mem_cons.mp hp with rfl | hp
    · exact Ne.symm hCD
    · exact (off'.mem p hp).2.1
end
end Mine
end Part_P29
section Part_P30
set_option maxRecDepth 100000
namespace Mine
section
variable {α : Type} {prog : Program} {w : World} {A : Around} {E : Value → Shared → Prop} {s : Shared} {env : Env} {h₀ : Heap} {L : Addr} {m : Str → Option Value} {elt iter : Expr} {x : Str} {px pos : Pos} {g : Comprehension} {gs : List Comprehension} {scope : Scope} {cl : List (Str × Addr)} {n : Nat} {nw : List (Addr × Obj)} {Q : Value → Shared → Prop}
theorem Assign_NR {y : Str} {py spos : Pos} {Q : Flow → Shared → Prop} (rest : Value → Env → Sem α) (J : Nat → List Value → (Str → Option Value) → Prop) (_F₀ : Fr h₀ L s.heap m) (_N₀ : News h₀ L s.heap nw)
    (hrest : ∀ it acc cenv, compTurn (.ListComp elt (⟨.Name x px, iter, [], 0⟩ :: gs) scope pos) 0 it acc cenv = (standAt iter.pos >>= fun _ => pyNext it >>= fun r => match r with
      | none => pure (.done .next)
      | some v => letOwnedTupleGo (.Name x px) it v >>= fun _ => assign (.Name x px) cenv v >>= fun _ => rest acc cenv >>= fun _ => again (.compLoop (.ListComp elt (⟨.Name x px, iter, [], 0⟩ :: gs) scope pos) 0 it acc cenv)))
    (hu : ∀ it acc C, A.under (.compLoop (.ListComp elt (⟨.Name x px, iter, [], 0⟩ :: gs) scope pos) 0 it acc (compEnvC scope cl C env)) = A) (hh : A.handled = none)
    (hsw : swapsWith (.ListComp elt (⟨.Name x px, iter, [], 0⟩ :: gs) scope pos) (some (.Name y py)) spos.line env = pure true)
    (hclos : closureFor scope env = pure cl) (hcell : ∀ y ∈ scope.names, y.2 ≠ .cell) (hkind : scope.kind = .function)
    (hnames : ∀ y ∈ scope.names, y.2 = .local → scope.names.lookup y.1 = some .local) (hx : scope.names.lookup x = some .local)
    (hs : ∀ x, foldedSetIterable iter env x = pure x)
    (src : wpAny (model prog w) A (eval iter env) (fun xv s₁ => ∃ r b t u v h1 tk1, xv = .ref r ∧ s₁ = { s with heap := h1, toks := tk1 } ∧ Fr h₀ L h1 m ∧ News h₀ L h1 nw ∧ IsRange h1 r 0 b 1 t u v ∧ b = (n : Int)) E s)
    (hn : n ≤ 64) (hJ : J 0 [] (fun _ => none))
    (body : ∀ I C D i v oI oC m₂ h tk (E' : Value → Shared → Prop) ys, C ≠ L → I ≠ C → I ≠ D → C ≠ D → i < n → J i ys m₂ → (∃ t, v = Value.int (i : Int) t) → LCg.NsObj oC (fun z => if z = x then some v else m₂ z) → Fr h₀ L h m → News h₀ L h ((I, oI) :: (C, oC) :: (D, LCg.lst ys) :: nw) → LCg.Off3 I C D nw →
      wpAny (model prog w) A (rest (.ref D) (compEnvC scope cl C env)) (fun _ s' => ClauseEnd h₀ L m { s with heap := h, toks := tk } I oI C D (fun _ => True) (fun ys' nw' m' => nw' = nw ∧ J (i + 1) ys' m') s') E' { s with heap := h, toks := tk })
    (fin : ∀ C D h tk oC ys m' (E' : Value → Shared → Prop), Fr h₀ L h m → News h₀ L h ((C, oC) :: (D, LCg.lst ys) :: nw) → C ≠ D → (∀ p ∈ nw, p.1 ≠ C ∧ p.1 ≠ D) → J n ys m' → wpAny (model prog w) A (assign (.Name y py) env (.ref D)) (fun _ s' => Stop (∃ h' tk' m1 nw1, s' = { s with heap := h', toks := tk' } ∧ Fr h₀ L h' m1 ∧ News h₀ L h' ((C, oC) :: nw1) ∧ (∀ p ∈ nw1, p.1 ≠ C) ∧
      ∀ h'', Fr h₀ L h'' m1 → News h₀ L h'' nw1 → Q .next { s with heap := h'', toks := tk' })) E' { s with heap := h, toks := tk }) :
    wpAny (model prog w) A (exec (.Assign [.Name y py] (.ListComp elt (⟨.Name x px, iter, [], 0⟩ :: gs) scope pos) spos) env) Q E s := by
  rw [exec_Assign_Name_used _ _ _ _ hsw]
  refine wpAny_bind (wpAny_standAt (wpAny_bind ?_))
  show wpAny _ A (do let _ ← comprehension (.ListComp elt (⟨.Name x px, iter, [], 0⟩ :: gs) scope pos) scope env _ (newList []) false (eval iter env) (some (assign (.Name y py) env))) _ _ s
  refine wpAny_bind (wpAny_mono (wpAny_comprehension_free (use := some (assign (.Name y py) env)) (Q := fun _ s' => Q .next s') rfl hs hclos hkind hnames (wpAny_mono src (fun xv s₁ h₁ => ?_) fun _ _ e => e)) (fun _ s' hq => wpAny_pure (wpAny_pure hq)) fun _ _ e => e)
  obtain ⟨r, b, t, u, v, h1, tk1, rfl, rfl, F, N, hr, hb⟩ := h₁
  have hrn := rangeN hb hn
  refine wpAny_pyIter_range hr hrn.1 ?_
  refine block_N (I := h1.objs.size) (L := L) (m := m) (S := fun _ => True) (nw := nw) rest (fun _ _ i ys nw' m' => nw' = nw ∧ J i ys m') rfl (hrest _) (hu _) (LCg.range_walks hh 0 n) (fun i h st => ⟨_, st⟩) LCg.range_st hcell hkind hx ?_ (fun b hb => ?_)
    (F.keeps fun _ _ e => Heap.get?_push_of_some _ e) (N.grown fun _ _ e => Heap.get?_push_of_some _ e) (Nat.ne_of_lt F.ns.lt) (next_is_new F) (fun p hp => Nat.ne_of_lt (Heap.lt_size (N p hp).1)) trivial (fun _ _ => ⟨rfl, hJ⟩) ?_ ?_
  · show IsRangeIter _ _ _ _ _
    rw [hrn.2]
    simpa using Heap.get?_push_size _ rfl
  · rw [List.mem_singleton.mp hb]
    show h1.objs.size < (h1.push _).objs.size
    rw [Heap.size_push]; exact Nat.lt_succ_self _
  · rintro C D i v oI oC m₂ h tk E' ys nw' h1' h2' h3' h4' hi ⟨rfl, hJ'⟩ ⟨t', hv⟩ hoC' F' N' off' _
    exact body _ C D i v oI oC m₂ h tk E' ys h1' h2' h3' h4' hi hJ' ⟨t', by rw [hv]; congr 1; omega⟩ hoC' F' N' off'
  · rintro D C h tk oC m' ys nw' F' N' hoC' off' hCD ⟨rfl, hJ'⟩
    show wpAny _ A (assign (.Name y py) env (.ref D)) _ _ _
    refine wpAny_mono (fin C D h tk oC ys m' _ F' N' hCD (fun p hp => ⟨(off'.mem p hp).2.1, (off'.mem p hp).2.2⟩) hJ') (fun _ s₃ h₃ => ?_) fun _ _ e => e
    obtain ⟨h₂, tk₂, m1, nw1, rfl, F₂, N₂, offC, fin'⟩ := h₃
    have zC := N₂ _ (.head _)
    refine ⟨m', hoC'.ns zC.1, fun h'' hs'' => fin' h'' (F₂.change hs'' zC.2.1 zC.2.2) (fun p hp => ?_)⟩
    have z := N₂ p (.tail _ hp)
    exact ⟨hs''.extBut _ _ (offC p hp) z.1, z.2⟩
theorem Assign_NL {its : Array Value} {y : Str} {py spos : Pos} {Q : Flow → Shared → Prop} (rest : Value → Env → Sem α) (J : Nat → List Value → (Str → Option Value) → Prop) (_F₀ : Fr h₀ L s.heap m) (_N₀ : News h₀ L s.heap nw)
    (hrest : ∀ it acc cenv, compTurn (.ListComp elt (⟨.Name x px, iter, [], 0⟩ :: gs) scope pos) 0 it acc cenv = (standAt iter.pos >>= fun _ => pyNext it >>= fun r => match r with
      | none => pure (.done .next)
      | some v => letOwnedTupleGo (.Name x px) it v >>= fun _ => assign (.Name x px) cenv v >>= fun _ => rest acc cenv >>= fun _ => again (.compLoop (.ListComp elt (⟨.Name x px, iter, [], 0⟩ :: gs) scope pos) 0 it acc cenv)))
    (hu : ∀ it acc C, A.under (.compLoop (.ListComp elt (⟨.Name x px, iter, [], 0⟩ :: gs) scope pos) 0 it acc (compEnvC scope cl C env)) = A) (hh : A.handled = none)
    (hsw : swapsWith (.ListComp elt (⟨.Name x px, iter, [], 0⟩ :: gs) scope pos) (some (.Name y py)) spos.line env = pure true)
    (hclos : closureFor scope env = pure cl) (hcell : ∀ y ∈ scope.names, y.2 ≠ .cell) (hkind : scope.kind = .function)
    (hnames : ∀ y ∈ scope.names, y.2 = .local → scope.names.lookup y.1 = some .local) (hx : scope.names.lookup x = some .local)
    (hs : ∀ x, foldedSetIterable iter env x = pure x)
    (src : wpAny (model prog w) A (eval iter env) (fun xv s₁ => ∃ r h1 tk1, xv = .ref r ∧ s₁ = { s with heap := h1, toks := tk1 } ∧ Fr h₀ L h1 m ∧ News h₀ L h1 nw ∧ h₀.IsList r its) E s)
    (hJ : J 0 [] (fun _ => none))
    (body : ∀ I C D i v oI oC m₂ h tk (E' : Value → Shared → Prop) ys, C ≠ L → I ≠ C → I ≠ D → C ≠ D → i < its.size → J i ys m₂ → its[i]? = some v → LCg.NsObj oC (fun z => if z = x then some v else m₂ z) → Fr h₀ L h m → News h₀ L h ((I, oI) :: (C, oC) :: (D, LCg.lst ys) :: nw) → LCg.Off3 I C D nw →
      wpAny (model prog w) A (rest (.ref D) (compEnvC scope cl C env)) (fun _ s' => ClauseEnd h₀ L m { s with heap := h, toks := tk } I oI C D (fun _ => True) (fun ys' nw' m' => nw' = nw ∧ J (i + 1) ys' m') s') E' { s with heap := h, toks := tk })
    (fin : ∀ C D h tk oC ys m' (E' : Value → Shared → Prop), Fr h₀ L h m → News h₀ L h ((C, oC) :: (D, LCg.lst ys) :: nw) → C ≠ D → (∀ p ∈ nw, p.1 ≠ C ∧ p.1 ≠ D) → J its.size ys m' → wpAny (model prog w) A (assign (.Name y py) env (.ref D)) (fun _ s' => Stop (∃ h' tk' m1 nw1, s' = { s with heap := h', toks := tk' } ∧ Fr h₀ L h' m1 ∧ News h₀ L h' ((C, oC) :: nw1) ∧ (∀ p ∈ nw1, p.1 ≠ C) ∧
      ∀ h'', Fr h₀ L h'' m1 → News h₀ L h'' nw1 → Q .next { s with heap := h'', toks := tk' })) E' { s with heap := h, toks := tk }) :
    wpAny (model prog w) A (exec (.Assign [.Name y py] (.ListComp elt (⟨.Name x px, iter, [], 0⟩ :: gs) scope pos) spos) env) Q E s := by
  rw [exec_Assign_Name_used _ _ _ _ hsw]
  refine wpAny_bind (wpAny_standAt (wpAny_bind ?_))
  show wpAny _ A (do let _ ← comprehension (.ListComp elt (⟨.Name x px, iter, [], 0⟩ :: gs) scope pos) scope env _ (newList []) false (eval iter env) (some (assign (.Name y py) env))) _ _ s
  refine wpAny_bind (wpAny_mono (wpAny_comprehension_free (use := some (assign (.Name y py) env)) (Q := fun _ s' => Q .next s') rfl hs hclos hkind hnames (wpAny_mono src (fun xv s₁ h₁ => ?_) fun _ _ e => e)) (fun _ s' hq => wpAny_pure (wpAny_pure hq)) fun _ _ e => e)
  obtain ⟨r, h1, tk1, rfl, rfl, F, N, hl₀⟩ := h₁
  have hl : h1.IsList r its := hl₀.at fun o e => F.keep r o e
  have hlt : r < h1.objs.size := by obtain ⟨_, e, _⟩ := hl; exact Heap.lt_size e
  refine wpAny_pyIter_list hl ?_
  refine block_N (I := h1.objs.size) (L := L) (m := m) (S := fun _ => True) (nw := nw) rest (fun _ _ i ys nw' m' => nw' = nw ∧ J i ys m') rfl (hrest _) (hu _) (Walks.list hh h1.objs.size r (Nat.ne_of_lt hlt) its) (fun i h st => by obtain ⟨o, e, _⟩ := st.1; exact ⟨o, e⟩)
    (fun i h h' o nw'' st e e' k N'' _ => LCg.list_st i h h' o nw'' st e e' k N'' (.inl hl₀)) hcell hkind hx ⟨⟨_, Heap.get?_push_size _ rfl, rfl, rfl⟩, hl.push _⟩ (fun b hb => ?_)
    (F.keeps fun _ _ e => Heap.get?_push_of_some _ e) (N.grown fun _ _ e => Heap.get?_push_of_some _ e) (Nat.ne_of_lt F.ns.lt) (next_is_new F) (fun p hp => Nat.ne_of_lt (Heap.lt_size (N p hp).1)) trivial (fun _ _ => ⟨rfl, hJ⟩) ?_ ?_
  · show b < (h1.push _).objs.size
    rw [Heap.size_push]
    rcases List.mem_cons.mp hb with rfl | hb
    · exact Nat.lt_succ_self _
    · rw [List.mem_singleton.mp hb]; exact Nat.lt_succ_of_lt hlt
  · rintro C D i v oI oC m₂ h tk E' ys nw' h1' h2' h3' h4' hi ⟨rfl, hJ'⟩ hv hoC' F' N' off' _
    exact body _ C D i v oI oC m₂ h tk E' ys h1' h2' h3' h4' hi hJ' hv hoC' F' N' off'
  · rintro D C h tk oC m' ys nw' F' N' hoC' off' hCD ⟨rfl, hJ'⟩
    show wpAny _ A (assign (.Name y py) env (.ref D)) _ _ _
    refine wpAny_mono (fin C D h tk oC ys m' _ F' N' hCD (fun p hp => ⟨(off'.mem p hp).2.1, (off'.mem p hp).2.2⟩) hJ') (fun _ s₃ h₃ => ?_) fun _ _ e => e
    obtain ⟨h₂, tk₂, m1, nw1, rfl, F₂, N₂, offC, fin'⟩ := h₃
    have zC := N₂ _ (.head _)
    refine ⟨m', hoC'.ns zC.1, fun h'' hs'' => fin' h'' (F₂.change hs'' zC.2.1 zC.2.2) (fun p hp => ?_)⟩
    have z := N₂ p (.tail _ hp)
    exact ⟨hs''.extBut _ _ (offC p hp) z.1, z.2⟩
end
end Mine
end Part_P30
section Part_P31
set_option maxRecDepth 100000
namespace Mine
theorem emit {prog : Program} {w : World} {A : Around} {E : Value → Shared → Prop} {s s₁ : Shared} {h₀ : Heap} {L I C D : Addr} {m m₂ : Str → Option Value} {oI oC : Obj} {ys : List Value} {nw : List (Addr × Obj)} {v : Value} {S : List (Addr × Obj) → Prop} {J : List Value → List (Addr × Obj) → (Str → Option Value) → Prop}
    (hs₁ : ∃ h tk, s = { s₁ with heap := h, toks := tk }) (F : Fr h₀ L s.heap m) (N : News h₀ L s.heap ((I, oI) :: (C, oC) :: (D, LCg.lst ys) :: nw)) (hoC : LCg.NsObj oC m₂) (off : LCg.Off3 I C D nw) (hID : I ≠ D) (hCD : C ≠ D) (hS : S nw) (hJ : J (ys ++ [v]) nw m₂) (hz : ys.length ≤ 2000) :
    wpAny (model prog w) A (call (.builtin "list.append") [.ref D, v] >>= fun _ => pure ()) (fun _ s' => ClauseEnd h₀ L m s₁ I oI C D S J s') E s := by
  obtain ⟨h, tk, rfl⟩ := hs₁
  have zD := N (D, LCg.lst ys) (.tail _ (.tail _ (.head _)))
  refine wpAny_bind (append_at (hsz := by show ys.toArray.size ≤ sizeLine; rw [List.size_toArray, sizeLine_eq]; omega) zD.1 fun h₅ hs₅ hD₅ => wpAny_pure ?_)
  refine ⟨h₅, tk, oC, m₂, ys ++ [v], nw, rfl, F.change hs₅ zD.2.1 zD.2.2, fun p hp => ?_, hoC, off, hS, hJ⟩
  rcases List.mem_cons.mp hp with rfl | hp
  · exact ⟨hs₅.extBut _ _ hID (N _ (.head _)).1, (N _ (.head _)).2⟩
  · rcases List.mem_cons.mp hp with rfl | hp
    · exact ⟨hs₅.extBut _ _ hCD (N _ (.tail _ (.head _))).1, (N _ (.tail _ (.head _))).2⟩
    · rcases List.mem_cons.mp hp with rfl | hp
      · exact ⟨hD₅.trans (congrArg some (LCg.lst_snoc ys v)), zD.2⟩
      · have z := N p (.tail _ (.tail _ (.tail _ hp)))
        exact ⟨hs₅.extBut _ _ (off.mem p hp).2.2 z.1, z.2⟩
end Mine
end Part_P31
section Part_P32
set_option maxRecDepth 100000
namespace Mine
section
variable {prog : Program} {w : World} {A : Around} {E : Value → Shared → Prop} {s : Shared} {env : Env} {h₀ : Heap} {x : Str} {body : List Stmt} {Q : Flow → Shared → Prop}
theorem range_only {r : Addr} {b₀ : Int} {t₀ u₀ v₀ : Tok} {n : Nat} {m₀ : Str → Option Value} {news : List (Addr × Obj)} (P : Nat → Prop)
    (hh : A.handled = none) (hr : IsRange s.heap r 0 b₀ 1 t₀ u₀ v₀) (hb : b₀ = (n : Int)) (hn : n ≤ 64) (F : Fr h₀ env.locals s.heap m₀) (N : News h₀ env.locals s.heap news) (h0 : P 0)
    (turn : ∀ i t h tk own, i < n → OwnOff own (news.map (·.1)) → P i → Fr h₀ env.locals h (fun y => if y = x then some (.int (i : Int) t) else m₀ y) → News h₀ env.locals h (news ++ own) →
      wpAny (model prog w) A (execs body env) (InvPostN h₀ env.locals (fun m' nx => nx = news ∧ P (i + 1) ∧ ∀ z, z ≠ x → m' z = m₀ z) own (news.map (·.1)) { s with heap := h, toks := tk } Q) E { s with heap := h, toks := tk })
    (done : ∀ v h tk, P n → Fr h₀ env.locals h (fun y => if y = x then v else m₀ y) → News h₀ env.locals h news → Q .next { s with heap := h, toks := tk }) :
    wpAny (model prog w) A (pyIter (.ref r)) (fun it s₂ => LoopAtV prog w A h₀ env x body Q E it s₂) E s := by
  have hrn := rangeN hb hn
  have ext : ∀ (m₁ : Str → Option Value) v, (∀ z, z ≠ x → m₁ z = m₀ z) → (fun y => if y = x then v else m₁ y) = fun y => if y = x then v else m₀ y := fun m₁ v hm => by
    funext y
    by_cases q : y = x
    · simp [q]
    · simp only [if_neg q]; exact hm y q
  refine kpr_invN (n := n) (fun i m nx => nx = news ∧ P i ∧ ∀ z, z ≠ x → m z = m₀ z) hh hr hrn.1 hrn.2 F N ⟨rfl, h0, fun _ _ => rfl⟩ ?_ ?_
  · rintro i k t m₁ nx h tk own hk ho ⟨rfl, hP, hm⟩ F₁ N₁
    have hi : i < n := by
      rcases Nat.lt_or_ge i n with q | q
      · exact q
      · rw [List.getElem?_eq_none (by rw [rangeKs_length]; exact q)] at hk; cases hk
    have hk' : k = (i : Int) := by simp [rangeKs, hi] at hk; omega
    subst hk'
    rw [ext m₁ _ hm] at F₁
    exact turn i t h tk own hi ho hP F₁ N₁
  · rintro m₁ nx h tk ⟨rfl, hP, hm⟩ F₁ N₁
    rw [rangeKs_length] at hP
    refine done (m₁ x) h tk hP ?_ N₁
    have := ext m₁ (m₁ x) hm
    rw [← this]
    have e : (fun y => if y = x then m₁ x else m₁ y) = m₁ := by funext y; by_cases q : y = x <;> simp [q]
    rw [e]; exact F₁
theorem range_next {L : Addr} {m₀ m' : Str → Option Value} {x : Str} {news own news' : List (Addr × Obj)} {P : Prop} {s₁ : Shared} {h : Heap} {tk : Nat} (F : Fr h₀ L h m') (N : News h₀ L h news') (hn : ∀ p ∈ news, p ∈ news') (ho : ∀ p ∈ own, p ∈ news') (hP : P) (hm : ∀ z, z ≠ x → m' z = m₀ z) :
    InvEndN h₀ L (fun m' nx => nx = news ∧ P ∧ ∀ z, z ≠ x → m' z = m₀ z) own (news.map (·.1)) s₁ { s₁ with heap := h, toks := tk } :=
  ⟨h, tk, m', news', news, rfl, F, N, hn, ho, rfl, rfl, hP, hm⟩
end
end Mine
end Part_P32
section Part_P20
namespace Mine
theorem rules_P20 : True := by
  k_with_none
  k_with "my enter" => (refine' enter_ ?kC ?kA ?k6 ?k7 ?k8 ?k9 ?kB ?_ ?c2 ?c3 ?c4 ?c5 ?c6; (case kC => assumption); (case kA => exact rfl); (case k6 => k_is); (case k7 => k_is); (case k8 => ktr_room); (case k9 => exact BindsTo.of_eq rfl); (case c5 => decide); (case c6 => exact rfl); (case kB => exact locs rfl); (case c2 => exact rfl); (case c3 => exact rfl); (case c4 => exact rfl); k_whole; intro g'k L'k h'k tk'k hg'k htk'k F'k N'k B'k X'k T'k; (have OW'k := own_of (by assumption) hg'k); (try dsimp only); (try k_lift B'k); (try k_fold))
  k_with "my enterHC" => (refine' enterHC_ _ ?hh ?kC ?kA ?k6 ?k7 ?k8 ?k9 ?kB ?kD ?_ ?c2 ?c3 ?c4; (case kC => assumption); (case hh => assumption); (case kA => exact rfl); (case k6 => k_is); (case k7 => k_is); (case k8 => ktr_room); (case k9 => exact BindsTo.of_eq rfl); (case kB => exact rfl); (case kD => decide +kernel); (case c2 => exact rfl); (case c3 => exact rfl); (case c4 => exact rfl); k_whole; intro g'k L'k h'k tk'k cells'k OW'k hg'k F'k N'k Y'k B'k X'k T'k l1k; (try k_lt l1k); k_cells Y'k; (try simp only [List.cons_append, List.nil_append] at N'k); (try dsimp only); (try k_lift B'k); (try k_fold))
  trivial
def liesF (hs : List Int) (c : Nat) : List Bool := hs.flatMap fun h => (List.range c).map fun k : Nat => decide ((k : Int) < h)
theorem lies_len (hs : List Int) (c : Nat) : (liesF hs c).length = hs.length * c := by
  induction hs with
  | nil => simp [liesF]
  | cons h r ih =>
    unfold liesF at ih ⊢
    rw [List.flatMap_cons, List.length_append, ih, List.length_map, List.length_range, List.length_cons, Nat.add_mul, Nat.one_mul, Nat.add_comm]
theorem ints_val {vs : List Value} {ns : List Int} (h : IntsAre vs ns) {i : Nat} {v : Value} (hv : vs.toArray[i]? = some v) : ∃ k t, ns[i]? = some k ∧ v = .int k t := by
  have hv' : vs[i]? = some v := by simpa using hv
  have hl : i < ns.length := by
    rw [← h.length]
    rcases Nat.lt_or_ge i vs.length with q | q
    · exact q
    · rw [List.getElem?_eq_none q] at hv'; cases hv'
  obtain ⟨t, ht⟩ := h.get i ns[i] (List.getElem?_eq_getElem hl)
  rw [ht] at hv'
  exact ⟨ns[i], t, List.getElem?_eq_getElem hl, (Option.some.inj hv').symm⟩
theorem lies_step {hs : List Int} {i c : Nat} {k : Int} (h : hs[i]? = some k) : liesF (hs.take (i + 1)) c = liesF (hs.take i) c ++ (List.range c).map fun j : Nat => decide ((j : Int) < k) := by
  unfold liesF
  rw [List.take_add_one, h, List.flatMap_append]
  simp
def ownF (hs : List Int) (c : Nat) (ns : List Int) : Bool := (List.range ns.length).all fun i => (liesF hs c).getD i false != (liesF hs c).getD (ns.getD i 0).toNat false
theorem own_false {hs ns : List Int} {c i : Nat} (hi : i < ns.length) (h : (liesF hs c).getD i false = (liesF hs c).getD (ns.getD i 0).toNat false) : ownF hs c ns = false := by
  unfold ownF
  rw [List.all_eq_false]
  exact ⟨i, List.mem_range.mpr hi, by simp only [h]; simp⟩
theorem own_true {hs ns : List Int} {c : Nat} (h : ∀ i, i < ns.length → ¬ (liesF hs c).getD i false = (liesF hs c).getD (ns.getD i 0).toNat false) : ownF hs c ns = true := by
  unfold ownF
  rw [List.all_eq_true]
  intro i hi
  simpa using h i (List.mem_range.mp hi)
local macro_rules | `(tactic| walk_at "pyIter ref") => `(tactic| (k_here; refine stop_ ?_))
theorem rules_P20_2 : True := by
  k_with "exec For" => (k_here; k_dflt (refine For_invVF (by k_asm) (by with_unfolding_all rfl) (by rfl) ?_))
  k_with "call builtin:len" => (k_here; (with_reducible show wpAny _ _ (call (Value.builtin "len") [Value.ref _]) _ _ _); refine kun_lenL (by is_list) (by assumption) (by omega) ?_)
  trivial
theorem bools_map : ∀ bs : List Bool, LSm.BoolsAre (bs.map Value.bool) bs
  | [] => .nil
  | b :: r => .cons b (bools_map r)
theorem own_at {hs ns : List Int} {c : Nat} (hns : ∀ k ∈ ns, 0 ≤ k ∧ k < ((hs.length * c : Nat) : Int)) {i : Nat} (hi : i < ns.length) : 0 ≤ ns.getD i 0 ∧ ns.getD i 0 < ((liesF hs c).length : Int) := by
  rw [lies_len, List.getD_eq_getElem?_getD, List.getElem?_eq_getElem hi]
  exact hns _ (List.getElem_mem hi)
theorem rules_P20_3 : True := by
  k_with "subscriptTail" => (k_here; (with_reducible show wpAny _ _ (subscriptTail _ _ (Value.ref _) (Value.int _ _)) _ _ _); first
  | (refine kbo_sub (by k_asm) (by exact .head _) (by with_reducible assumption) (by omega) (by omega) (by omega) ?_ (by with_unfolding_all rfl))
  | (refine item_list_intsR (by with_reducible assumption) (by with_reducible assumption) (by omega) (by omega) (by omega) ?_ (by with_unfolding_all rfl); intro t9k))
  trivial
variable {w : World} {mean : ExcName → Option Value} {mg mb : Str → Option Value} {dp un : Nat} {gd : Option (List Code)} {cn : Str} {cs : Scope} {ad : Addr} {ccd : Value} {cl : List (Str × Addr)} {outer : List Env} {A₀ : Around} {base h₀ : Heap} {L : Addr} {m : Str → Option Value} {s : Shared} {Q E : Value → Shared → Prop} {news : List (Addr × Obj)}
set_option maxRecDepth 100000 in
set_option maxHeartbeats 8000000 in
theorem own_ok (C : Cx w mean mg mb cs outer A₀ base h₀ L m s news) (hdp : dp + 1 < recursionLimit) (hun : un + 8 < cLine) (p x : Addr) (vs us : List Value) (hs ns : List Int) (c : Nat) (t1 : Tok)
  (hl : s.heap.IsList p vs.toArray) (hi : IntsAre vs hs) (hl2 : s.heap.IsList x us.toArray) (hi2 : IntsAre us ns) (hc : c ≤ 4) (hh6 : hs.length ≤ 12) (hnl : ns.length ≤ hs.length * c) (hns : ∀ k ∈ ns, 0 ≤ k ∧ k < ((hs.length * c : Nat) : Int))
  (hret : ∀ h' tk', Fr h₀ L h' m → News h₀ L h' news → Q (.bool (ownF hs c ns)) {s with heap := h', toks := tk'}) :
  wpAny (model PySem.Challenge.rw_sn0034_01.row.prog w) (ktrTop dp un gd cn cs L ad ccd cl outer) (call (.ref 163) [.ref p, .int (c : Int) t1, .ref x]) Q E s := by
  have hh : ∀ q ∈ ([] : List (Addr × Obj)), q ∈ news := fun _ h => nomatch h
  refine wpAny_call ?_
  walk_at "my enterHC"
  rename ∀ b o, s.heap.get? b = some o → b ∉ _ → _ => hgs
  replace hl := hl.at fun o e => hgs p o e (fun q => nomatch q)
  replace hl2 := hl2.at fun o e => hgs x o e (fun q => nomatch q)
  k_steps
  rename Fr _ _ _ _ => F9; rename News _ _ _ _ => N9
  refine Assign_NL (its := vs.toArray) (rest := _) (J := fun i ys m' => ys = (liesF (hs.take i) c).map Value.bool) (_F₀ := F9) (_N₀ := N9) (hrest := fun it acc cenv => turn_more' rfl rfl) (hu := fun _ _ _ => rfl) (hh := rfl) (by rfl) (by with_unfolding_all rfl) (by decide) rfl (by decide) rfl (fun _ => rfl) ?src rfl ?body ?fin
  case src =>
    k_steps
    · exact F9
    · exact N9
    · exact hl
  case body =>
    intro I C D i v oI oC m₂ h tk E' ys hCL hIC hID hCD hi9 hJ hv hoC F1 N1 off
    obtain ⟨hgt, th, hgi, rfl⟩ := ints_val hi hv
    refine inner_range (n := c) (fun i' ys' m' => ys' = (liesF (hs.take i) c ++ (List.range i').map fun k : Nat => decide ((k : Int) < hgt)).map Value.bool ∧ m' (Str.ofString "height") = some (.int hgt th)) F1 N1 rfl rfl (fun _ => rfl) rfl (fun it => turn_last rfl rfl) (fun _ => rfl) rfl rfl rfl hIC hID hCD off ?src2 (by omega) ?body2 ?done2
    case src2 =>
      k_steps
      rename Fr _ _ _ _ => F3
      rename News _ _ _ _ => N3
      exact ⟨_, _, _, _, _, _, _, _, _, rfl, rfl, F3, N3, hoC, by assumption, rfl, by rw [hJ, List.range_zero, List.map_nil, List.append_nil], rfl⟩
    case body2 =>
      intro i' v' I' oI' oC' m₂' h' tk' E'' ys' hi' hJ' hv' hoC' F2 N2 off' hIC' hID'
      obtain ⟨t', rfl⟩ := hv'
      obtain ⟨rfl, hh'⟩ := hJ'
      generalize hM : (fun z => if z = Str.ofString "k" then some (Value.int (i' : Int) t') else m₂' z) = M at hoC'
      have hk1 : M (Str.ofString "k") = some (Value.int (i' : Int) t') := by subst hM; rfl
      have hk2 : M (Str.ofString "height") = some (Value.int hgt th) := by subst hM; exact hh'
      refine wpAny_bind ?_
      k_steps
      rename News _ _ _ _ => N4; rename Fr _ _ _ _ => F4
      refine emit ⟨_, _, rfl⟩ F4 N4 hoC' off' hID' hCD trivial ⟨rfl, ?_, hk2⟩ ?_
      · simp [List.range_succ]
      · have := lies_len (hs.take i) c
        have := List.length_take_le' i hs
        simp only [List.length_map, List.length_append, List.length_range]
        have : (hs.take i).length * c ≤ 12 * 4 := Nat.mul_le_mul (by omega) hc
        omega
    case done2 =>
      intro h' tk' oC' m₂' ys' F2 N2 hoC' hJ'
      exact ⟨h', tk', oC', m₂', ys', _, rfl, F2, N2, hoC', off, trivial, rfl, by rw [hJ'.1, lies_step hgi]⟩
  case fin =>
    intro C D h tk oC ys m' E' F1 N1 hCD off hJ
    subst hJ
    k_steps
    rename Fr _ _ _ _ => F2
    rename News _ _ _ _ => N2
    refine ⟨_, _, _, _, rfl, F2, N2, (fun p hp => by
      rcases List.mem_cons.mp hp with rfl | hp
      · exact fun q => hCD q.symm
      · exact (off p hp).1), fun h'' F N => ?_⟩
    have hlen : (vs.toArray.size : Nat) = hs.length := by simp [hi.length]
    rw [hlen, List.take_length] at N
    have hlen2 : ((us.toArray.size : Nat) : Int) = (ns.length : Int) := by simp [hi2.length]
    have hmul : hs.length * c ≤ 48 := Nat.le_trans (Nat.mul_le_mul hh6 hc) (by decide)
    have hll := lies_len hs c
    have hnd := fun i (q : i < ns.length) => own_at hns q
    replace N : News _ _ h'' [(D, W.listOf (List.map Value.bool (liesF hs c)).toArray (List.map Value.bool (liesF hs c)).length), _] := N
    k_steps
    clear F2 N2
    rename IsRange _ _ _ _ _ _ _ _ => hr9
    rename Fr _ _ _ _ => F3
    rename News _ _ _ _ => N3
    refine range_only (fun i => ∀ j, j < i → ¬ (liesF hs c).getD j false = (liesF hs c).getD (ns.getD j 0).toNat false) rfl hr9 rfl (by omega) F3 N3 (fun j q => nomatch q) ?_ ?_
    · clear F3 N3
      intro i t h3 tk3 own hi3 ho hP F3 N3
      have hnd : 0 ≤ ns.getD (Int.toNat (i : Int)) 0 ∧ ns.getD (Int.toNat (i : Int)) 0 < ((liesF hs c).length : Int) := own_at hns hi3
      have hbs := bools_map (liesF hs c)
      k_steps
      all_goals (rename Fr _ _ _ _ => F4; rename News _ _ _ _ => N4)
      · rename OwnH _ _ _ _ _ _ => O9
        have bk := O9.back F4 N4
        show Q (Value.bool false) _
        rename ((liesF hs c).getD _ false == _) = true => hb9
        rw [← own_false (hs := hs) (c := c) hi3 (eq_of_beq hb9)]
        exact hret _ _ bk.1 (fun q hq => bk.2 news (fun q hq => ⟨hq, fun q => nomatch q⟩) q (List.mem_append_right _ hq))
      · refine range_next F4 N4 (fun p hp => List.mem_append_left _ hp) (fun p hp => List.mem_append_right _ hp) (fun j q => ?_) (fun z q => by simp only [if_neg q])
        rcases Nat.lt_or_ge j i with q' | q'
        · exact hP j q'
        · have : j = i := by omega
          subst this
          rename ((liesF hs c).getD _ false == _) = false => hb9
          exact fun e => by
            rw [beq_eq_false_iff_ne] at hb9
            exact hb9 e
    · intro v h3 tk3 hP F3 N3
      k_steps
      rename OwnH _ _ _ _ _ _ => O9
      have bk := O9.back F3 N3
      show Q (Value.bool true) _
      rw [← own_true hP]
      exact hret _ _ bk.1 (fun q hq => bk.2 news (fun q hq => ⟨hq, fun q => nomatch q⟩) q (List.mem_append_right _ hq))
end Mine
end Part_P20
section Part_P33
set_option maxRecDepth 100000
namespace Mine
section
variable {prog : Program} {w : World} {A : Around} {E : Value → Shared → Prop} {s : Shared} {h₀ : Heap} {L : Addr} {m : Str → Option Value} {env : Env} {ct elt : Expr} {x : Str} {scope : Scope} {cl : List (Str × Addr)}
theorem compT_from {S : List (Addr × Obj) → Prop} {P : Nat → Value → Prop} {Fin : List Value → List (Addr × Obj) → Prop} {n : Nat} (J : Nat → List Value → List (Addr × Obj) → Prop)
    (turn : ∀ i v I oI C oC D m₂ h tk (E' : Value → Shared → Prop) ys nw, i < n → J i ys nw → P i v → LCg.NsObj oC m₂ → m₂ x = some v → Fr h₀ L h m → News h₀ L h ((I, oI) :: (C, oC) :: (D, LCg.lst ys) :: nw) → LCg.Off3 I C D nw → ((@Ne Nat I C) ∧ (@Ne Nat I D) ∧ (@Ne Nat C D)) →
      wpAny (model prog w) A (isTrue ct (compEnvC scope cl C env) (eval ct (compEnvC scope cl C env))) (fun ok s' => if ok = true then
        wpAny (model prog w) A (eval elt (compEnvC scope cl C env)) (LCg.CompEnd h₀ L m { s with heap := h, toks := tk } I oI C oC D (LCg.lst ys) S (fun y nw' => J (i + 1) (ys ++ [y]) nw')) E' s'
        else LCg.CompEnd h₀ L m { s with heap := h, toks := tk } I oI C oC D (LCg.lst ys) S (fun _ nw' => J (i + 1) ys nw') Value.none s') E' { s with heap := h, toks := tk })
    (done : ∀ ys nw, J n ys nw → Fin ys nw) : ∀ k i ys nw, i + k = n → J i ys nw → LCt.CompRestT prog w A h₀ L m env ct elt x scope cl s S P Fin k i ys nw
  | 0, i, ys, nw, e, j => LCt.CompRestT.zero (done _ _ (by rw [Nat.add_zero] at e; exact e ▸ j))
  | k + 1, i, ys, nw, e, j => LCt.CompRestT.succ fun v I oI C oC D m₂ h tk E' h1 h2 h3 h4 h5 h6 h7 =>
    wpAny_mono (turn i v I oI C oC D m₂ h tk E' ys nw (by omega) j h1 h2 h3 h4 h5 h6 h7) (fun ok s' z => by
      cases ok with
      | true => simp only [if_true] at z ⊢; exact wpAny_mono z (fun y s'' z' => CompEnd.mono (fun y nw' j' => compT_from J turn done k (i + 1) _ _ (by omega) j') z') fun _ _ e => e
      | false => simp only [Bool.false_eq_true, if_false] at z ⊢; exact CompEnd.mono (fun y nw' j' => compT_from J turn done k (i + 1) ys nw' (by omega) j') z) fun _ _ e => e
theorem compT_ind {S : List (Addr × Obj) → Prop} {P : Nat → Value → Prop} {Fin : List Value → List (Addr × Obj) → Prop} {n : Nat} {news : List (Addr × Obj)} (J : Nat → List Value → List (Addr × Obj) → Prop) (h0 : J 0 [] news)
    (turn : ∀ i v I oI C oC D m₂ h tk (E' : Value → Shared → Prop) ys nw, i < n → J i ys nw → P i v → LCg.NsObj oC m₂ → m₂ x = some v → Fr h₀ L h m → News h₀ L h ((I, oI) :: (C, oC) :: (D, LCg.lst ys) :: nw) → LCg.Off3 I C D nw → ((@Ne Nat I C) ∧ (@Ne Nat I D) ∧ (@Ne Nat C D)) →
      wpAny (model prog w) A (isTrue ct (compEnvC scope cl C env) (eval ct (compEnvC scope cl C env))) (fun ok s' => if ok = true then
        wpAny (model prog w) A (eval elt (compEnvC scope cl C env)) (LCg.CompEnd h₀ L m { s with heap := h, toks := tk } I oI C oC D (LCg.lst ys) S (fun y nw' => J (i + 1) (ys ++ [y]) nw')) E' s'
        else LCg.CompEnd h₀ L m { s with heap := h, toks := tk } I oI C oC D (LCg.lst ys) S (fun _ nw' => J (i + 1) ys nw') Value.none s') E' { s with heap := h, toks := tk })
    (done : ∀ ys nw, J n ys nw → Fin ys nw) : LCt.CompRestT prog w A h₀ L m env ct elt x scope cl s S P Fin n 0 [] news := compT_from J turn done n 0 [] news (Nat.zero_add n) h0
/-- what is left to do when a list has been made that goes into a cell -/
def FinC (prog : Program) (w : World) (A : Around) (h₀ : Heap) (L : Addr) (m : Str → Option Value) (env : Env) (y : Str) (py : Pos) (Q : Flow → Shared → Prop) (s : Shared) (ys : List Value) (nw : List (Addr × Obj)) : Prop :=
  ∀ D C h tk oC (E' : Value → Shared → Prop), Fr h₀ L h m → News h₀ L h ((C, oC) :: (D, LCg.lst ys) :: nw) → C ≠ D → (∀ p ∈ nw, p.1 ≠ C ∧ p.1 ≠ D) →
    wpAny (model prog w) A (assign (.Name y py) env (.ref D)) (fun _ s' => Stop (∃ h' tk' m1 nw1, s' = { s with heap := h', toks := tk' } ∧ Fr h₀ L h' m1 ∧ News h₀ L h' ((C, oC) :: nw1) ∧ (∀ p ∈ nw1, p.1 ≠ C) ∧
      ∀ h'', Fr h₀ L h'' m1 → News h₀ L h'' nw1 → Q .next { s with heap := h'', toks := tk' })) E' { s with heap := h, toks := tk }
theorem off1_mem {D : Addr} : ∀ {nw : List (Addr × Obj)}, LCg.Off1 D nw → ∀ p ∈ nw, p.1 ≠ D
  | [], _, _, h => nomatch h
  | q :: r, h, p, hp => by
    rcases List.mem_cons.mp hp with rfl | hp
    · exact h.1
    · exact off1_mem h.2 p hp
theorem Assign_ListComp_C {iter : Expr} {y : Str} {px py : Pos} {pos spos : Pos} {Q : Flow → Shared → Prop} (F₀ : Fr h₀ L s.heap m)
    (hsw : swapsWith (.ListComp elt [⟨.Name x px, iter, [], 0⟩] scope pos) (some (.Name y py)) spos.line env = pure true)
    (hclos : closureFor scope env = pure cl) (hcell : ∀ z ∈ scope.names, z.2 ≠ .cell) (hkind : scope.kind = .function)
    (hnames : ∀ z ∈ scope.names, z.2 = .local → scope.names.lookup z.1 = some .local) (hx : scope.names.lookup x = some .local)
    (h : wpAny (model prog w) A (eval iter env) (LCg.SrcL prog w A h₀ L m env elt x scope cl (fun s₂ => FinC prog w A h₀ L m env y py Q s₂)) E s)
    (hs : ∀ x, foldedSetIterable iter env x = pure x := by intro _; rfl) :
    wpAny (model prog w) A (exec (.Assign [.Name y py] (.ListComp elt [⟨.Name x px, iter, [], 0⟩] scope pos) spos) env) Q E s := by
  rw [exec_Assign_Name_used _ _ _ _ hsw]
  refine wpAny_bind (wpAny_standAt (wpAny_bind ?_))
  show wpAny _ A (do let _ ← comprehension (.ListComp elt [⟨.Name x px, iter, [], 0⟩] scope pos) scope env _ (newList []) false (eval iter env) (some (assign (.Name y py) env))) _ _ s
  refine wpAny_bind (wpAny_mono (wpAny_comprehension_free (use := some (assign (.Name y py) env)) (Q := fun _ s' => Q .next s') rfl hs hclos hkind hnames
    (wpAny_mono h (fun xv s₁ h₁ => ?_) fun _ _ e => e)) (fun _ s' hq => wpAny_pure (wpAny_pure hq)) fun _ _ e => e)
  rcases h₁ with ⟨ax, its, news, rfl, hh, F, N, S, hsz, R⟩
  have hl := S.list F.keep N
  have hlt : ax < s₁.heap.objs.size := by obtain ⟨_, e, _⟩ := hl; exact Heap.lt_size e
  refine wpAny_pyIter_list hl ?_
  have up : ∀ b o, s₁.heap.get? b = some o → (s₁.heap.push { cls := .type "list_iterator", data := .fields #[.ref ax, .int 0 0] }).get? b = some o := fun b o e => Heap.get?_push_of_some _ e
  refine LCg.block_U (Walks.list hh s₁.heap.objs.size ax (Nat.ne_of_lt hlt) its) hsz (fun i h st => by obtain ⟨o, e, _⟩ := st.1; exact ⟨o, e⟩) LCg.list_st hcell hkind hx ⟨⟨_, Heap.get?_push_size _ rfl, rfl, rfl⟩, hl.push _⟩ (fun b hb => ?_)
    (F.keeps up) (N.grown up) (Nat.ne_of_lt F.ns.lt) (next_is_new F) (fun p hp => Nat.ne_of_lt (Heap.lt_size (N p hp).1)) S (R _ ⟨_, rfl⟩) ?_
  · show b < (s₁.heap.push _).objs.size
    rw [Heap.size_push]
    rcases List.mem_cons.mp hb with rfl | hb
    · exact Nat.lt_succ_self _
    · rw [List.mem_singleton.mp hb]; exact Nat.lt_succ_of_lt hlt
  · intro D C h' tk m' ys news' F' N' o1 hn hC₀ hD₀ hCL hDL hCD offC fin
    show wpAny _ A (assign (.Name y py) env (.ref D)) _ _ _
    obtain ⟨oC, es, ep, hC, hr⟩ := hn
    refine wpAny_mono (fin D C h' tk oC _ F' (fun p hp => ?_) hCD (fun p hp => ⟨offC p hp, off1_mem o1 p hp⟩)) (fun _ s₃ h₃ => ?_) fun _ _ e => e
    · rcases List.mem_cons.mp hp with rfl | hp
      · exact ⟨hC, hCL, hC₀⟩
      · exact N' p hp
    · obtain ⟨h₂, tk₂, m1, nw1, rfl, F₂, N₂, offC', fin'⟩ := h₃
      have zC := N₂ _ (.head _)
      refine ⟨m', ⟨oC, es, ep, zC.1, hr⟩, fun h'' hs'' => fin' h'' (F₂.change hs'' zC.2.1 zC.2.2) (fun p hp => ?_)⟩
      have z := N₂ p (.tail _ hp)
      exact ⟨hs''.extBut _ _ (offC' p hp) z.1, z.2⟩
end
end Mine
end Part_P33
section Part_P41
set_option maxRecDepth 100000
namespace Mine
theorem shr_cast (x k : Nat) : Int.fdiv (x : Int) (2 ^ (Int.toNat (k : Int))) = ((x >>> k : Nat) : Int) := by
  rw [Int.toNat_natCast, Int.fdiv_eq_ediv_of_nonneg _ (Int.le_of_lt (Int.pow_pos (by decide))), Nat.shiftRight_eq_div_pow]
  simp
theorem shl_cast (x k : Nat) : (x : Int) * 2 ^ (Int.toNat (k : Int)) = ((x <<< k : Nat) : Int) := by
  rw [Int.toNat_natCast, Nat.shiftLeft_eq]
  simp
theorem add_xor_and (x : Nat) : ∀ y : Nat, x + y = (x ^^^ y) + 2 * (x &&& y) := by
  induction x using Nat.strongRecOn with
  | _ x ih =>
    intro y
    by_cases hx : x = 0
    · subst hx; simp
    · have i := ih (x / 2) (by omega) (y / 2)
      have a1 : (x ^^^ y) / 2 = x / 2 ^^^ y / 2 := Nat.xor_div_two
      have a2 : (x &&& y) / 2 = x / 2 &&& y / 2 := Nat.and_div_two
      rw [← a1, ← a2] at i
      have m1 : (x ^^^ y) % 2 = 1 ↔ ¬(x % 2 = 1 ↔ y % 2 = 1) := Nat.xor_mod_two_eq_one
      have m2 : (x &&& y) % 2 = 1 ↔ x % 2 = 1 ∧ y % 2 = 1 := Nat.and_mod_two_eq_one
      generalize (x ^^^ y) = u at *
      generalize (x &&& y) = v at *
      omega
theorem xor_cast (x y : Nat) : Builtin.bitXor (x : Int) (y : Int) = ((x ^^^ y : Nat) : Int) := by
  rw [bitXor_and]
  unfold Builtin.bitAnd
  simp only [Int.natCast_nonneg, decide_true, Int.toNat_natCast]
  have h : x + y = (x ^^^ y) + 2 * (x &&& y) := by
    exact add_xor_and x y
  omega
/-- a number below a power of two, told in a word that no arithmetic looks into -/
structure Sm (B x : Nat) : Prop where
  lt : x < 2 ^ B
theorem Sm.le {B C x : Nat} (h : Sm B x) (k : B ≤ C) : Sm C x := ⟨Nat.lt_of_lt_of_le h.lt (Nat.pow_le_pow_right (by decide) k)⟩
section
variable {prog : Program} {w : World} {A : Around} {E : Value → Shared → Prop} {s : Shared} {t u : Tok} {a b x k : Nat} {Q : Value → Shared → Prop}
theorem shr1N (h : Q (.int (((a + b) / 2 : Nat) : Int) s.toks) { s with toks := s.toks + 1 }) : wpAny (model prog w) A (binaryOp .RShift (.int ((a : Int) + (b : Int)) t) (.int 1 u)) Q E s := by
  refine rshift_int (by decide) ?_
  have e : Int.fdiv ((a : Int) + (b : Int)) (2 ^ Int.toNat 1) = (((a + b) / 2 : Nat) : Int) := by
    have := shr_cast (a + b) 1
    rw [Nat.shiftRight_eq_div_pow] at this
    simpa using this
  rw [e]; exact h
theorem subN (hle : b ≤ a) (h : Q (.int ((a - b : Nat) : Int) s.toks) { s with toks := s.toks + 1 }) : wpAny (model prog w) A (binaryOp .Sub (.int (a : Int) t) (.int (b : Int) u)) Q E s := by
  refine sub_int ?_
  rw [Int.ofNat_sub hle] at h; exact h
theorem mulN (ha : a ≤ 10000) (hb : b ≤ 10000) (h : Q (.int ((a * b : Nat) : Int) s.toks) { s with toks := s.toks + 1 }) : wpAny (model prog w) A (binaryOp .Mult (.int (a : Int) t) (.int (b : Int) u)) Q E s := by
  rw [Int.natCast_mul] at h
  exact mul_int h
theorem shrN (h : Q (.int ((x >>> k : Nat) : Int) s.toks) { s with toks := s.toks + 1 }) : wpAny (model prog w) A (binaryOp .RShift (.int (x : Int) t) (.int (k : Int) u)) Q E s := by
  refine rshift_int (Int.natCast_nonneg k) ?_
  rw [shr_cast]; exact h
theorem shlN (hx : Sm 4000 x) (hk : k ≤ 100000) (h : Q (.int ((x <<< k : Nat) : Int) s.toks) { s with toks := s.toks + 1 }) : wpAny (model prog w) A (binaryOp .LShift (.int (x : Int) t) (.int (k : Int) u)) Q E s := by
  refine lshift_int (Int.natCast_nonneg k) ?_ ?_
  · have : Builtin.Int.intBits (x : Int) ≤ 4000 := intBits_le_iff.mpr hx.lt
    omega
  · rw [shl_cast]; exact h
theorem xorN (h : Q (.int ((a ^^^ b : Nat) : Int) s.toks) { s with toks := s.toks + 1 }) : wpAny (model prog w) A (binaryOp .BitXor (.int (a : Int) t) (.int (b : Int) u)) Q E s := by
  refine xor_int ?_
  rw [xor_cast]; exact h
theorem addN (h : Q (.int ((a + b : Nat) : Int) s.toks) { s with toks := s.toks + 1 }) : wpAny (model prog w) A (binaryOp .Add (.int (a : Int) t) (.int (b : Int) u)) Q E s := by
  refine add_int ?_
  rw [Int.natCast_add] at h; exact h
end
/-- what the def `inner` of `_int2digits` writes -/
def innF (n : Nat) : Nat → Nat → Nat → Nat → List Nat → List Nat
  | 0, _, _, _, ys => ys
  | f + 1, x, l, r, ys => if l + 1 = r then ys.set l x else innF n f (x >>> (((l + r) / 2 - l) * n)) ((l + r) / 2) r (innF n f (x ^^^ ((x >>> (((l + r) / 2 - l) * n)) <<< (((l + r) / 2 - l) * n))) l ((l + r) / 2) ys)
theorem innF_len (n : Nat) : ∀ (f x l r : Nat) (ys : List Nat), (innF n f x l r ys).length = ys.length
  | 0, _, _, _, _ => rfl
  | f + 1, x, l, r, ys => by
    unfold innF
    split
    · exact List.length_set
    · rw [innF_len n f, innF_len n f]
/-- what the def `inner` of `_digits2int` gives -/
def outF (n : Nat) (ys : List Nat) : Nat → Nat → Nat → Nat
  | 0, _, _ => 0
  | f + 1, l, r => if l + 1 = r then ys.getD l 0 else (outF n ys f ((l + r) / 2) r <<< (((l + r) / 2 - l) * n)) + outF n ys f l ((l + r) / 2)
theorem upper_lt {x k B : Nat} (h : Sm B x) : Sm B (x >>> k) := ⟨Nat.lt_of_le_of_lt (Nat.shiftRight_le x k) h.lt⟩
theorem lower_lt {x k B : Nat} (h : Sm B x) : Sm B (x ^^^ ((x >>> k) <<< k)) := by
  refine ⟨Nat.xor_lt_two_pow h.lt (Nat.lt_of_le_of_lt ?_ h.lt)⟩
  rw [Nat.shiftRight_eq_div_pow, Nat.shiftLeft_eq]
  exact Nat.div_mul_le_self x _
end Mine
end Part_P41
section Part_P42
set_option maxRecDepth 100000
namespace Mine
abbrev zs (ys : List Nat) : List Int := ys.map fun k : Nat => (k : Int)
theorem zs_set {vs : List Value} {ys : List Nat} (h : IntsAre vs (zs ys)) {k : Nat} (hk : k < ys.length) (x : Nat) (u : Tok) : IntsAre (vs.set k (.int (x : Int) u)) (zs (ys.set k x)) := by
  have gen : ∀ {vs : List Value} {ns : List Int}, IntsAre vs ns → ∀ k, IntsAre (vs.set k (.int (x : Int) u)) (ns.set k (x : Int)) := by
    intro vs ns h
    induction h with
    | nil => intro k; exact .nil
    | cons a t r ih =>
      intro k
      cases k with
      | zero => exact .cons _ _ r
      | succ k => exact .cons _ _ (ih k)
  have := gen h k
  unfold zs at this ⊢
  rw [List.map_set]; exact this
theorem zs_rep (k : Nat) (t : Tok) : IntsAre (List.replicate k (Value.int 0 t)) (zs (List.replicate k 0)) := by
  unfold zs
  rw [List.map_replicate]
  induction k with
  | zero => exact .nil
  | succ k ih => exact .cons _ _ ih
theorem inn_base {vs : List Value} {n j x l r : Nat} {ys : List Nat} (h : l + 1 = r) (hi : IntsAre vs ((zs ys).set l (x : Int))) : IntsAre vs (zs (innF n (j + 1) x l r ys)) := by
  rw [innF, if_pos h]
  unfold zs at hi ⊢
  rw [List.map_set]; exact hi
theorem inn_step {vs : List Value} {n j x l r : Nat} {ys : List Nat} (h : ¬ l + 1 = r) (hi : IntsAre vs (zs (innF n j (x >>> (((l + r) / 2 - l) * n)) ((l + r) / 2) r (innF n j (x ^^^ ((x >>> (((l + r) / 2 - l) * n)) <<< (((l + r) / 2 - l) * n))) l ((l + r) / 2) ys)))) : IntsAre vs (zs (innF n (j + 1) x l r ys)) := by
  rw [innF, if_neg h]; exact hi
theorem rep_flat (k : Nat) (x : Value) : (List.replicate k [x]).flatten = List.replicate k x := by
  induction k with
  | zero => rfl
  | succ k ih => rw [List.replicate_succ, List.flatten_cons, ih, List.replicate_succ]; rfl
section
variable {prog : Program} {w : World} {A : Around} {E : Value → Shared → Prop} {s : Shared} {h₀ : Heap} {L D : Addr} {m : Str → Option Value} {news : List (Addr × Obj)} {g : Obj → List (Addr × Obj)} {n : Nat} {vs : List Value}
theorem set_nat {Q : Unit → Shared → Prop} {k x : Nat} {ys : List Nat} {t u : Tok} (F : Fr h₀ L s.heap m) (N : News h₀ L s.heap news) (U : UpdF D (listOf vs.toArray n) news g) (hi : IntsAre vs (zs ys)) (hk : k < ys.length) (hz : k < 1000)
    (h : ∀ h' vs', IntsAre vs' (zs (ys.set k x)) → Fr h₀ L h' m → News h₀ L h' (g (listOf vs'.toArray n)) → Q () { s with heap := h' }) : wpAny (model prog w) A (setItem (.ref D) (.int (k : Int) t) (.int (x : Int) u)) Q E s := by
  obtain ⟨pre, post, rfl, hg, a, b⟩ := U.split
  have z := N (D, listOf vs.toArray n) (List.mem_append.mpr (.inr (.head _)))
  have hlen : vs.length = ys.length := by have := hi.length; simpa [zs] using this
  refine ki_setAt z.1 (by omega) (by omega) (by simp; omega) (h _ _ (zs_set hi hk x u) (F.change (Heap.SameBut.update ..) z.2.1 z.2.2) ?_)
  rw [hg]
  refine ki_turn _ N a b ?_ ?_
  · show vs.toArray.setIfInBounds (k : Int).toNat (.int (x : Int) u) = (vs.set k (.int (x : Int) u)).toArray
    apply Array.toList_inj.mp
    rw [Array.toList_setIfInBounds]
    rfl
  · rw [if_pos (by simp)]
theorem rep0 {Q : Value → Shared → Prop} {l : Addr} {x : Int} {kk : Nat} {t u : Tok} {j : Nat} (F : Fr h₀ L s.heap m) (N : News h₀ L s.heap ((l, listOf #[.int 0 t] j) :: news)) (hk : x = (kk : Int)) (hz : kk ≤ 200)
    (h : ∀ D h' vs', IntsAre vs' (zs (List.replicate kk 0)) → Fr h₀ L h' m → News h₀ L h' ((D, listOf (List.toArray vs') 0) :: news) → (∀ p ∈ news, p.1 < D) → Q (.ref D) { s with heap := h' }) : wpAny (model prog w) A (binaryOp .Mult (.ref l) (.int x u)) Q E s := by
  subst hk
  have hl : s.heap.IsList l (List.toArray [Value.int 0 t]) := News.isList N (.head _)
  refine KMa.mul (ws := List.replicate kk (.int 0 t)) F N hl (by omega) (by omega) (by simp; omega) ?_ fun D h' F' N' l1 => h D h' _ (zs_rep kk t) F' (fun p hp => ?_) fun p hp => l1 p (.tail _ hp)
  · rw [Int.toNat_natCast]; exact rep_flat kk _
  · rcases List.mem_cons.mp hp with rfl | hp
    · exact N' _ (.head _)
    · exact N' p (.tail _ (.tail _ hp))
theorem len_rep {Q : Value → Shared → Prop} {kk : Nat} (N : News h₀ L s.heap news) (hm : (D, listOf (List.toArray vs) n) ∈ news) (hi : IntsAre vs (zs (List.replicate kk 0))) (hz : kk ≤ 200) (h : Q (.int (kk : Int) (s.toks + 1)) { s with toks := s.toks + 1 + 1 }) :
    wpAny (model prog w) A (call (.builtin "len") [.ref D]) Q E s := by
  refine kun_lenL (News.isList N hm) ?_ (by omega) h
  have := hi.length
  simp [zs] at this
  simp [this]
end
theorem name_ {h₀ h : Heap} {L f : Addr} {o : Obj} {rest : List (Addr × Obj)} (N : News h₀ L h ((f, o) :: rest)) : ∃ FO, FO = o ∧ News h₀ L h ((f, FO) :: rest) := ⟨o, rfl, N⟩
end Mine
end Part_P42
section Part_P43
set_option maxRecDepth 100000
namespace Mine
abbrev Lt (a b : Nat) : Prop := a < b
abbrev Apart (a b : Nat) : Prop := a < b ∨ b < a
/-- the code record of an inner def -/
def CodeOk (qual : Str) (o : Obj) : Prop := ∃ vs t, o.data = .fields vs ∧ vs[1]? = some (.str qual t)
/-- the table of the inner defs at one place: nothing made yet, or the one record of that place -/
def TabSt (qual : Str) (P : Addr) (line col : Nat) (ps : Array Value) (c0 : Addr) (oc0 : Obj) : Prop :=
  (ps = #[] ∧ c0 = P ∧ oc0 = tabObj #[]) ∨ (ps = #[] ++ #[rawInt line, rawInt col, .ref c0] ∧ CodeOk qual oc0 ∧ c0 ≠ P)
theorem TabSt.start {qual : Str} {P : Addr} {line col : Nat} : TabSt qual P line col #[] P (tabObj #[]) := .inl ⟨rfl, rfl, rfl⟩
theorem upd_mid {P : Addr} {o : Obj} : ∀ {own rest : List (Addr × Obj)}, (∀ p ∈ own, p.1 ≠ P) → (∀ p ∈ rest, p.1 ≠ P) → UpdF P o (own ++ (P, o) :: rest) (fun o' => own ++ (P, o') :: rest)
  | [], _, _, h => .head h
  | p :: r, _, h, k => .tail (h p (.head _)) (upd_mid (fun q hq => h q (.tail _ hq)) k)
section
variable {M : Model} {A : Around} {E : Value → Shared → Prop} {s : Shared} {h₀ : Heap} {L a c P : Addr} {m mg mb : Str → Option Value} {cn : Str} {cs : Scope} {ccd : Value} {cl : List (Str × Addr)}
  {p : Program} {loose : List Str} {mean : ExcName → Option Value} {name qual : Str} {params : Arguments} {body : List Stmt} {scope : Scope} {ps : Array Value} {pos : Pos} {firstLine : Nat} {clos : List (Str × Addr)} {c0 : Addr} {oc0 : Obj}
theorem nest_st {Q : Value → Shared → Prop} (own : List (Addr × Obj)) (F : Fr h₀ L s.heap m) (N : News h₀ L s.heap (own ++ [(P, tabObj ps), (c0, oc0)])) (hown : ∀ q ∈ own, q.1 ≠ P ∧ q.1 ≠ c0) (st : TabSt qual P pos.line pos.col ps c0 oc0) (T : Top p loose mean mg mb h₀) (C : CodeHd h₀ c P) (hcd : ccd = .ref c)
    (hcl : closureFor scope (envX cn cs L a ccd cl) = pure clos)
    (h : ∀ f c' oc ctv doc h' tk, CodeOk qual oc → Fr h₀ L h' m →
      News h₀ L h' ((f, fnMade name qual params body scope clos doc ((mg "__name__").getD .none) c' ctv) :: (c', oc) :: (own ++ [(P, tabObj (#[] ++ #[rawInt pos.line, rawInt pos.col, .ref c']))])) →
      (∀ q ∈ own, q.1 < f ∧ (q.1 < c' ∨ c' < q.1)) → P < f → c' < f → (c' < P ∨ P < c') → Q (.ref f) { s with heap := h', toks := tk }) :
    wpAny M A (makeFunction name qual params (.stmts body) scope (envX cn cs L a ccd cl) [] [] [] pos firstLine) Q E s := by
  rcases st with ⟨rfl, rfl, rfl⟩ | ⟨rfl, hc, hne⟩
  · have N1 : News h₀ L s.heap (own ++ [(c0, tabObj #[])]) := fun q hq => N q (by
      rcases List.mem_append.mp hq with hq | hq
      · exact List.mem_append_left _ hq
      · exact List.mem_append_right _ (by rw [List.mem_singleton.mp hq]; exact .head _))
    refine nest_K F N1 T C hcd (upd_mid (fun q hq => (hown q hq).1) (fun _ h => nomatch h)) trivial rfl hcl fun f c' oc vs t ctv doc h' tk F' N' d1 d2 l1 l2 => ?_
    have lc : ∀ q ∈ own, q.1 < c' := fun q hq => l1 q (List.mem_append_left _ hq)
    have lp : c0 < c' := l1 (c0, tabObj #[]) (List.mem_append_right _ (.head _))
    exact h f c' oc ctv doc h' tk ⟨vs, t, d1, d2⟩ F' N' (fun q hq => ⟨Nat.lt_trans (lc q hq) l2, .inl (lc q hq)⟩) (Nat.lt_trans lp l2) l2 (.inr lp)
  · refine nestHit_K (c' := c0) F N T C hcd (List.mem_append_right _ (.head _)) (by simp [TriplesOk, rawInt]) (by simp [codeAmong, rawInt]) hcl fun f ctv doc h' tk F' N' l1 => ?_
    refine h f c0 oc0 ctv doc h' tk hc F' (fun q hq => N' q ?_) (fun q hq => ⟨l1 q (List.mem_append_left _ hq), Nat.lt_or_gt_of_ne (hown q hq).2⟩) (l1 _ (List.mem_append_right _ (.head _))) (l1 _ (List.mem_append_right _ (.tail _ (.head _)))) (Nat.lt_or_gt_of_ne hne)
    rcases List.mem_cons.mp hq with rfl | hq
    · exact .head _
    · rcases List.mem_cons.mp hq with rfl | hq
      · exact .tail _ (List.mem_append_right _ (.tail _ (.head _)))
      · rcases List.mem_append.mp hq with hq | hq
        · exact .tail _ (List.mem_append_left _ hq)
        · rw [List.mem_singleton.mp hq]; exact .tail _ (List.mem_append_right _ (.head _))
theorem nest4 {Q : Value → Shared → Prop} {p1 p2 p3 p4 : Addr × Obj} (F : Fr h₀ L s.heap m) (N : News h₀ L s.heap [p1, p2, p3, p4, (P, tabObj ps), (c0, oc0)]) (hown : (p1.1 ≠ P ∧ p1.1 ≠ c0) ∧ (p2.1 ≠ P ∧ p2.1 ≠ c0) ∧ (p3.1 ≠ P ∧ p3.1 ≠ c0) ∧ p4.1 ≠ P ∧ p4.1 ≠ c0) (st : TabSt qual P pos.line pos.col ps c0 oc0) (T : Top p loose mean mg mb h₀) (C : CodeHd h₀ c P) (hcd : ccd = .ref c)
    (hcl : closureFor scope (envX cn cs L a ccd cl) = pure clos)
    (h : ∀ f c' oc ctv doc h' tk, CodeOk qual oc → Fr h₀ L h' m →
      News h₀ L h' [(f, fnMade name qual params body scope clos doc ((mg "__name__").getD .none) c' ctv), (c', oc), p1, p2, p3, p4, (P, tabObj (#[] ++ #[rawInt pos.line, rawInt pos.col, .ref c']))] →
      ((Lt p1.1 f ∧ Apart p1.1 c') ∧ (Lt p2.1 f ∧ Apart p2.1 c') ∧ (Lt p3.1 f ∧ Apart p3.1 c') ∧ (Lt p4.1 f ∧ Apart p4.1 c') ∧ Lt P f ∧ Lt c' f) → Apart c' P → Q (.ref f) { s with heap := h', toks := tk }) :
    wpAny M A (makeFunction name qual params (.stmts body) scope (envX cn cs L a ccd cl) [] [] [] pos firstLine) Q E s :=
  nest_st [p1, p2, p3, p4] F N (fun q hq => by
    simp only [List.mem_cons, List.not_mem_nil, or_false] at hq
    rcases hq with rfl | rfl | rfl | rfl
    · exact hown.1
    · exact hown.2.1
    · exact hown.2.2.1
    · exact hown.2.2.2) st T C hcd hcl fun f c' oc ctv doc h' tk hc F' N' l1 l2 l3 l4 => h f c' oc ctv doc h' tk hc F' N' ⟨l1 _ (.head _), l1 _ (.tail _ (.head _)), l1 _ (.tail _ (.tail _ (.head _))), l1 _ (.tail _ (.tail _ (.tail _ (.head _)))), l2, l3⟩ l4
theorem nest3 {Q : Value → Shared → Prop} {p1 p2 p3 : Addr × Obj} (F : Fr h₀ L s.heap m) (N : News h₀ L s.heap [p1, p2, p3, (P, tabObj ps), (c0, oc0)]) (hown : (p1.1 ≠ P ∧ p1.1 ≠ c0) ∧ (p2.1 ≠ P ∧ p2.1 ≠ c0) ∧ p3.1 ≠ P ∧ p3.1 ≠ c0) (st : TabSt qual P pos.line pos.col ps c0 oc0) (T : Top p loose mean mg mb h₀) (C : CodeHd h₀ c P) (hcd : ccd = .ref c)
    (hcl : closureFor scope (envX cn cs L a ccd cl) = pure clos)
    (h : ∀ f c' oc ctv doc h' tk, CodeOk qual oc → Fr h₀ L h' m →
      News h₀ L h' [(f, fnMade name qual params body scope clos doc ((mg "__name__").getD .none) c' ctv), (c', oc), p1, p2, p3, (P, tabObj (#[] ++ #[rawInt pos.line, rawInt pos.col, .ref c']))] →
      ((Lt p1.1 f ∧ Apart p1.1 c') ∧ (Lt p2.1 f ∧ Apart p2.1 c') ∧ (Lt p3.1 f ∧ Apart p3.1 c') ∧ Lt P f ∧ Lt c' f) → Apart c' P → Q (.ref f) { s with heap := h', toks := tk }) :
    wpAny M A (makeFunction name qual params (.stmts body) scope (envX cn cs L a ccd cl) [] [] [] pos firstLine) Q E s :=
  nest_st [p1, p2, p3] F N (fun q hq => by
    simp only [List.mem_cons, List.not_mem_nil, or_false] at hq
    rcases hq with rfl | rfl | rfl
    · exact hown.1
    · exact hown.2.1
    · exact hown.2.2) st T C hcd hcl fun f c' oc ctv doc h' tk hc F' N' l1 l2 l3 l4 => h f c' oc ctv doc h' tk hc F' N' ⟨l1 _ (.head _), l1 _ (.tail _ (.head _)), l1 _ (.tail _ (.tail _ (.head _))), l2, l3⟩ l4
end
section
variable {prog : Program} {w : World} {A A₀ : Around} {s : Shared} {K : Frag} {L : Addr} {h₀ base : Heap} {m mg mb : Str → Option Value} {news : List (Addr × Obj)} {p : Program} {loose : List Str} {mean : ExcName → Option Value}
theorem enterN_ {env : Env} {outer : List Env} {R : Result → Shared → Prop} {name qual : Str} {params : Arguments} {body : List Stmt} {scope : Scope} {cl : List (Str × Addr)} {doc pm ctv : Value} {c' : Addr} {f : Addr} {args : Args} {binds : List (Str × Value)}
    (B : Below A₀ base outer h₀) (F : Fr h₀ L s.heap m) (X₀ : K.In h₀) (N : News h₀ L s.heap news) (T : Top p loose mean mg mb h₀) (hA : A.frames = some (env :: outer)) (hf : env.frame = some L) (hke : env.scope.kind = .function)
    (ho : (f, fnMade name qual params body scope cl doc pm c' ctv) ∈ news) (hcd : s.heap.CodeRec (.ref c') qual) (hroom : A.depth < recursionLimit)
    (hbind : BindsTo s (fnX name qual params body scope cl .none .none doc pm none (.ref c') ctv) args binds) (hloc : ∀ y ∈ binds, scope.names.lookup y.1 = some .local)
    (h : ∀ g L' h₁ tk, Fr h₀ L g m → Fr g L' h₁ (fun y => binds.reverse.lookup y) → News g L' h₁ news → Below A base (env :: outer) g → K.In g → Top p loose mean mg mb g →
      wpAny (model prog w) (A.deeper (envX qual scope L' f (.ref c') cl)) (execs body (envX qual scope L' f (.ref c') cl))
        (fun fl s' => LeaveK h₀ L m g R (match fl with | .ret v => v | _ => .none) s')
        (fun e s' => wpAny (model prog w) (A.deeper (envX qual scope L' f (.ref c') cl)) (leaving (envX qual scope L' f (.ref c') cl) e) (fun _ s'' => R (.error e) s'') (fun e' s'' => R (.error e') s'') s')
        { s with heap := h₁, toks := tk })
    (hco : scope.isCoroutine = false) (hgen : scope.isGenerator = false) (hk : scope.kind = .function)
    (hcell : ∀ x ∈ scope.names, x.2 ≠ .cell) : codeAny (model prog w) A (.call (.ref f) args) R s :=
  code_nest B F X₀ N T hA hf hke ho hcd hroom hbind hloc (fun g L' h₁ a b c d e f => h g L' h₁ _ a b c d e f) hco hgen hk hcell
end
theorem int2_end {h₀ g h' : Heap} {L L' P c0 f c' D i1 i2 i3 : Addr} {m m' : Str → Option Value} {news : List (Addr × Obj)} {op oc0 fo oc' o o1 o2 o3 tp : Obj} (O : OwnH h₀ L g m news [(P, op), (c0, oc0)]) (F' : Fr g L' h' m') (N' : News g L' h' [(f, fo), (c', oc'), (D, o), (i1, o1), (i2, o2), (i3, o3), (P, tp)]) :
    Fr h₀ L h' m ∧ ∀ rest, (∀ q ∈ rest, q ∈ news ∧ q.1 ≠ P ∧ q.1 ≠ c0) → News h₀ L h' ((D, o) :: (P, tp) :: (c', oc') :: rest) := by
  have bk := O.back F' N'
  refine ⟨bk.1, fun rest hr q hq => bk.2 rest (fun q hq => ⟨(hr q hq).1, fun z => ?_⟩) q ?_⟩
  · simp only [List.map_cons, List.map_nil, List.mem_cons, List.not_mem_nil, or_false] at z
    rcases z with z | z
    · exact (hr q hq).2.1 z
    · exact (hr q hq).2.2 z
  · rcases List.mem_cons.mp hq with rfl | hq
    · exact .tail _ (.tail _ (.head _))
    · rcases List.mem_cons.mp hq with rfl | hq
      · exact .tail _ (.tail _ (.tail _ (.tail _ (.tail _ (.tail _ (.head _))))))
      · rcases List.mem_cons.mp hq with rfl | hq
        · exact .tail _ (.head _)
        · exact List.mem_append_right _ hq
theorem dig2_end {h₀ g h' : Heap} {L L' P c0 f c' i1 i2 i3 : Addr} {m m' : Str → Option Value} {news : List (Addr × Obj)} {op oc0 fo oc' o1 o2 o3 tp : Obj} (O : OwnH h₀ L g m news [(P, op), (c0, oc0)]) (F' : Fr g L' h' m') (N' : News g L' h' [(f, fo), (c', oc'), (i1, o1), (i2, o2), (i3, o3), (P, tp)]) :
    Fr h₀ L h' m ∧ ∀ rest, (∀ q ∈ rest, q ∈ news ∧ q.1 ≠ P ∧ q.1 ≠ c0) → News h₀ L h' ((P, tp) :: (c', oc') :: rest) := by
  have bk := O.back F' N'
  refine ⟨bk.1, fun rest hr q hq => bk.2 rest (fun q hq => ⟨(hr q hq).1, fun z => ?_⟩) q ?_⟩
  · simp only [List.map_cons, List.map_nil, List.mem_cons, List.not_mem_nil, or_false] at z
    rcases z with z | z
    · exact (hr q hq).2.1 z
    · exact (hr q hq).2.2 z
  · rcases List.mem_cons.mp hq with rfl | hq
    · exact .tail _ (.tail _ (.tail _ (.tail _ (.tail _ (.head _)))))
    · rcases List.mem_cons.mp hq with rfl | hq
      · exact .tail _ (.head _)
      · exact List.mem_append_right _ hq
theorem names7 {h₀ h : Heap} {L f c D i1 i2 i3 p : Addr} {fo oc o o1 o2 o3 op : Obj} (N : News h₀ L h [(f, fo), (c, oc), (D, o), (i1, o1), (i2, o2), (i3, o3), (p, op)]) :
    ∃ g' L' f' c' D' oc' o1' o2' o3' FO, g' = h₀ ∧ L' = L ∧ f' = f ∧ c' = c ∧ D' = D ∧ oc' = oc ∧ o1' = o1 ∧ o2' = o2 ∧ o3' = o3 ∧ FO = fo ∧ News g' L' h [(f', FO), (c', oc'), (D', o), (i1, o1'), (i2, o2'), (i3, o3'), (p, op)] := ⟨_, _, _, _, _, _, _, _, _, _, rfl, rfl, rfl, rfl, rfl, rfl, rfl, rfl, rfl, rfl, N⟩
theorem names6 {h₀ h : Heap} {L f c i1 i2 i3 p : Addr} {fo oc o1 o2 o3 op : Obj} (N : News h₀ L h [(f, fo), (c, oc), (i1, o1), (i2, o2), (i3, o3), (p, op)]) :
    ∃ g' L' f' c' oc' o1' o2' o3' FO, g' = h₀ ∧ L' = L ∧ f' = f ∧ c' = c ∧ oc' = oc ∧ o1' = o1 ∧ o2' = o2 ∧ o3' = o3 ∧ FO = fo ∧ News g' L' h [(f', FO), (c', oc'), (i1, o1'), (i2, o2'), (i3, o3'), (p, op)] := ⟨_, _, _, _, _, _, _, _, _, rfl, rfl, rfl, rfl, rfl, rfl, rfl, rfl, rfl, N⟩
end Mine
end Part_P43
section Part_P44a
set_option maxRecDepth 100000
namespace Mine
theorem outF_lt (n : Nat) (ys : List Nat) (hy : ∀ y ∈ ys, y < 2 ^ n) : ∀ (j l r : Nat), r ≤ l + j → l < r → r ≤ ys.length → outF n ys j l r < 2 ^ (n * (r - l))
  | 0, l, r, h, h2, _ => by omega
  | j + 1, l, r, h, h2, h3 => by
    unfold outF
    split
    · rename_i e
      have hl : l < ys.length := by omega
      rw [List.getD_eq_getElem?_getD, List.getElem?_eq_getElem hl]
      have : r - l = 1 := by omega
      rw [this, Nat.mul_one]
      exact hy _ (List.getElem_mem hl)
    · rename_i e
      have hu := outF_lt n ys hy j ((l + r) / 2) r (by omega) (by omega) h3
      have hw := outF_lt n ys hy j l ((l + r) / 2) (by omega) (by omega) (by omega)
      generalize outF n ys j ((l + r) / 2) r = u at *
      generalize outF n ys j l ((l + r) / 2) = v at *
      rw [Nat.shiftLeft_eq, Nat.mul_comm ((l + r) / 2 - l) n]
      have e1 : n * (r - l) = n * (r - (l + r) / 2) + n * ((l + r) / 2 - l) := by rw [← Nat.mul_add]; congr 1; omega
      rw [e1, Nat.pow_add]
      have : (u + 1) * 2 ^ (n * ((l + r) / 2 - l)) ≤ 2 ^ (n * (r - (l + r) / 2)) * 2 ^ (n * ((l + r) / 2 - l)) := Nat.mul_le_mul_right _ hu
      rw [Nat.add_mul, Nat.one_mul] at this
      omega
theorem out_sm {n : Nat} {ys : List Nat} (hy : ∀ y ∈ ys, y < 2 ^ n) {j l r : Nat} (h1 : r ≤ l + j) (h2 : l < r) (h3 : r ≤ ys.length) (hn : n * ys.length ≤ 4000) : Sm 4000 (outF n ys j l r) :=
  ⟨Nat.lt_of_lt_of_le (outF_lt n ys hy j l r h1 h2 h3) (Nat.pow_le_pow_right (by decide) (Nat.le_trans (Nat.mul_le_mul_left n (by omega)) hn))⟩
theorem out_base {n j l r : Nat} {ys : List Nat} (h : l + 1 = r) (hl : l < ys.length) : (zs ys).getD (Int.toNat (l : Int)) 0 = ((outF n ys (j + 1) l r : Nat) : Int) := by
  rw [outF, if_pos h, Int.toNat_natCast]
  unfold zs
  rw [List.getD_eq_getElem?_getD, List.getD_eq_getElem?_getD, List.getElem?_map, List.getElem?_eq_getElem hl]
  rfl
theorem out_step {n j l r : Nat} {ys : List Nat} (h : ¬ l + 1 = r) : (outF n ys j ((l + r) / 2) r <<< (((l + r) / 2 - l) * n)) + outF n ys j l ((l + r) / 2) = outF n ys (j + 1) l r := by
  rw [outF, if_neg h]
theorem zs_len {vs : List Value} {ys : List Nat} (h : IntsAre vs (zs ys)) : vs.length = ys.length := by
  have := h.length; simpa [zs] using this
end Mine
end Part_P44a
section Part_P40
namespace Mine
theorem rules_P40 : True := by
  k_with_none
  k_with "my enter" => (refine' enter_ ?kC ?kA ?k6 ?k7 ?k8 ?k9 ?kB ?_ ?c2 ?c3 ?c4 ?c5 ?c6; (case kC => assumption); (case kA => exact rfl); (case k6 => k_is); (case k7 => k_is); (case k8 => ktr_room); (case k9 => exact BindsTo.of_eq rfl); (case c5 => decide); (case c6 => exact rfl); (case kB => exact locs rfl); (case c2 => exact rfl); (case c3 => exact rfl); (case c4 => exact rfl); k_whole; intro g'k L'k h'k tk'k hg'k htk'k F'k N'k B'k X'k T'k; (have OW'k := own_of (by assumption) hg'k); (try dsimp only); (try k_lift B'k); (try k_fold))
  k_with "my enterHC" => (refine' enterHC_ _ ?hh ?kC ?kA ?k6 ?k7 ?k8 ?k9 ?kB ?kD ?_ ?c2 ?c3 ?c4; (case kC => assumption); (case hh => assumption); (case kA => exact rfl); (case k6 => k_is); (case k7 => k_is); (case k8 => ktr_room); (case k9 => exact BindsTo.of_eq rfl); (case kB => exact rfl); (case kD => decide +kernel); (case c2 => exact rfl); (case c3 => exact rfl); (case c4 => exact rfl); k_whole; intro g'k L'k h'k tk'k cells'k OW'k hg'k F'k N'k Y'k B'k X'k T'k l1k; (try k_lt l1k); k_cells Y'k; (try simp only [List.cons_append, List.nil_append] at N'k); (try dsimp only); (try k_lift B'k); (try k_fold))
  k_with "binaryOp Mult ref int" => (k_here; (refine rep0 (by k_asm) (by k_asm) (by assumption) (by omega) ?_); intro D'k h'k vs'k i'k F'k N'k l1k; (try k_lt l1k))
  k_with "call ref" => (k_here; refine stop_ ?_)
  k_with "call builtin:len" => (k_here; (with_reducible show wpAny _ _ (call (Value.builtin "len") [Value.ref _]) _ _ _); refine len_rep (by k_asm) (by k_mem) (by assumption) (by omega) ?_)
  k_with "exec FunctionDef" => (k_here; k_dflt (refine' nestDef_K ?d0 ?k0 ?a0 ?_; (case d0 => exact rfl); (case k0 => exact rfl); (case a0 => exact rfl)); k_dflt (refine' nest4 ?F ?N ?ne ?st ?T ?C ?cd ?cl ?_; (case F => k_asm); (case N => k_asm); (case ne => (dsimp only; refine ⟨⟨?_, ?_⟩, ⟨?_, ?_⟩, ⟨?_, ?_⟩, ?_, ?_⟩ <;> k_ne)); (case st => assumption); (case T => k_asm); (case cd => exact rfl); (case C => assumption); (case cl => exact rfl); k_whole); intro f'k c'k oc'k ct'k dc'k h'k tk'k hco'k F'k N'k l1'k hcne'k; (dsimp only [Lt, Apart] at l1'k hcne'k N'k))
  k_with "binaryOp RShift int int" => (k_here; first | (with_reducible refine shr1N ?_) | (with_reducible refine shrN ?_))
  k_with "binaryOp LShift int int" => (k_here; (with_reducible refine shlN ?k1 ?k2 ?_); (case k1 => assumption); (case k2 => assumption))
  k_with "binaryOp BitXor int int" => (k_here; (with_reducible refine xorN ?_))
  k_with "binaryOp Sub int int" => (k_here; (with_reducible refine subN ?k1 ?_); (case k1 => assumption))
  k_with "binaryOp Mult int int" => (k_here; (with_reducible refine mulN ?k1 ?k2 ?_); (case k1 => omega); (case k2 => omega))
  k_with "setItem ref int" => (k_here; (with_reducible refine set_nat ?F ?N ?U ?hi ?k1 ?k2 ?_); (case F => k_asm); (case N => k_asm); (case U => k_updF); (case hi => assumption); (case k1 => omega); (case k2 => omega); (intro h'k vs'k i'k F'k N'k); (try dsimp only at N'k))
  trivial
variable {w : World} {mean : ExcName → Option Value} {mg mb : Str → Option Value} {dp un : Nat} {gd : Option (List Code)} {cn : Str} {cs : Scope} {ad : Addr} {ccd : Value} {cl : List (Str × Addr)} {outer : List Env} {A₀ : Around} {base h₀ : Heap} {L : Addr} {m : Str → Option Value} {s : Shared} {Q E : Value → Shared → Prop} {news : List (Addr × Obj)}
set_option maxRecDepth 100000 in
set_option maxHeartbeats 8000000 in
theorem int2_ok (C : Cx w mean mg mb cs outer A₀ base h₀ L m s news) (hdp : dp + 50 < recursionLimit) (hun : un + 8 < cLine) (a n kk : Nat) (t1 t2 : Tok) (ps : Array Value) (c0 : Addr) (oc0 : Obj)
  (hn1 : 1 ≤ n) (hn : n ≤ 900) (ha : Sm 2000 a) (hk : (((Builtin.Int.intBits (a : Int) : Nat) : Int) + (n : Int) - 1).fdiv (n : Int) = (kk : Int)) (hkk : kk ≤ 30) (hpos : a = 0 ∨ 1 ≤ kk) (hst : TabSt (Str.ofString "_int2digits.<locals>.inner") 47 33 4 ps c0 oc0) (hm : (47, tabObj ps) ∈ news) (hm2 : (c0, oc0) ∈ news)
  (hC : CodeHd h₀ 51 47)
  (hret : ∀ D vs' c' oc' h' tk', IntsAre vs' (zs (if a = 0 then List.replicate kk 0 else innF n 30 a 0 kk (List.replicate kk 0))) → CodeOk (Str.ofString "_int2digits.<locals>.inner") oc' → c' ≠ 47 → D ≠ 47 → D ≠ c' → Fr h₀ L h' m →
    (∀ rest, (∀ q ∈ rest, q ∈ news ∧ q.1 ≠ 47 ∧ q.1 ≠ c0) → News h₀ L h' ((D, listOf (List.toArray vs') 0) :: (47, tabObj (#[] ++ #[rawInt ((33 : Nat) : Int), rawInt ((4 : Nat) : Int), .ref c'])) :: (c', oc') :: rest)) → Q (.ref D) {s with heap := h', toks := tk'}) :
  wpAny (model PySem.Challenge.rw_sn0034_01.row.prog w) (ktrTop dp un gd cn cs L ad ccd cl outer) (call (.ref 52) [.int (a : Int) t1, .int (n : Int) t2]) Q E s := by
  have hh : ∀ q ∈ [(47, tabObj ps), (c0, oc0)], q ∈ news := fun q h => by
    rcases List.mem_cons.mp h with rfl | h
    · exact hm
    · rw [List.mem_singleton.mp h]; exact hm2
  have hCs := hC.keeps C.F.keep
  refine wpAny_call ?_
  walk_at "my enterHC"
  rename ∀ b o, s.heap.get? b = some o → b ∉ _ → _ => hgs
  have hC2 : CodeHd _ 51 47 := CodeHd.keeps hC (fun b o e => hgs b o (C.F.keep b o e) fun q => by
    obtain ⟨r, hr, rfl⟩ := List.mem_map.mp q
    rw [(C.N r (hh r hr)).2.2] at e; cases e)
  clear hCs hC
  have ha' : Builtin.Int.intBits (a : Int) ≤ 2000 := intBits_le_iff.mpr ha.lt
  k_steps
  rotate_left
  · rename IntsAre _ _ => hI
    rename Fr _ _ _ _ => F5
    rename News _ _ _ _ => N5
    obtain ⟨g', L', f, c', D, oc', oi, oa, on, FO, rfl, rfl, rfl, rfl, rfl, rfl, rfl, rfl, rfl, hFO, N6⟩ := names7 N5
    rename OwnH _ _ _ _ _ _ => O9
    rename CodeOk _ _ => hco
    have bk := int2_end O9 F5 N6
    have ha0 : a = 0 := by omega
    show Q (Value.ref D) _
    exact hret D _ c' oc' _ _ (by rw [if_pos ha0]; exact hI) hco (by k_ne) (by k_ne) (by k_ne) bk.1 bk.2
  rename IntsAre _ _ => hI
  rename Fr _ _ _ _ => F5
  rename News _ _ _ _ => N5
  rename Top _ _ _ _ _ _ => T5
  obtain ⟨g', L', f, c', D, oc', oi, oa, on, FO, rfl, rfl, rfl, rfl, rfl, rfl, rfl, rfl, rfl, hFO, N6⟩ := names7 N5
  clear N5
  have key : ∀ (j : Nat) (A₀' A' : Around) (base' b₀ : Heap) (outer' : List Env) (env' : Env) (La : Addr) (ma : Str → Option Value) (s' : Shared) (Q' E' : Value → Shared → Prop) (x l r : Nat) (tx tl tr : Tok) (vs : List Value) (ys : List Nat), r ≤ l + j → l < r → r ≤ ys.length → ys.length ≤ 30 → Sm 2000 x → IntsAre vs (zs ys) →
      Below A₀' base' outer' b₀ → Fr b₀ La s'.heap ma → (hd.heap_39 w.params).In b₀ → News b₀ La s'.heap [(f, FO), (c', oc'), (D, W.listOf (List.toArray vs) 0), (L' + 1 + 1 + 1, oi), (L' + 1 + 1, oa), (L' + 1, on), (47, tabObj (#[] ++ #[rawInt ((33 : Nat) : Int), rawInt ((4 : Nat) : Int), .ref c']))] →
      Top topProg ((looseW hd.view_39 [Str.ofString "ONE_THIRD", Str.ofString "ONE_SIXTH", Str.ofString "TWO_THIRD", Str.ofString "_twin_re_1", Str.ofString "_twin_re_2"]) ++ (recsOf hd.view_39).map (·.name) ++ (litsOf hd.view_39).map (·.1) ++ (clssOf hd.view_39 (looseW hd.view_39 [Str.ofString "ONE_THIRD", Str.ofString "ONE_SIXTH", Str.ofString "TWO_THIRD", Str.ofString "_twin_re_1", Str.ofString "_twin_re_2"])).map (·.name)) mean mg mb b₀ → A'.frames = some (env' :: outer') → env'.frame = some La → env'.scope.kind = .function → A'.depth + j < recursionLimit →
      (∀ vs' h' tk', IntsAre vs' (zs (innF n j x l r ys)) → Fr b₀ La h' ma → News b₀ La h' [(f, FO), (c', oc'), (D, W.listOf (List.toArray vs') 0), (L' + 1 + 1 + 1, oi), (L' + 1 + 1, oa), (L' + 1, on), (47, tabObj (#[] ++ #[rawInt ((33 : Nat) : Int), rawInt ((4 : Nat) : Int), .ref c']))] → Q' .none { s' with heap := h', toks := tk' }) →
      wpAny (model PySem.Challenge.rw_sn0034_01.row.prog w) A' (call (.ref f) [.int (x : Int) tx, .int (l : Int) tl, .int (r : Int) tr]) Q' E' s' := by
    rename CodeOk _ _ => hco
    obtain ⟨vsC, tC, hd9, hv9⟩ := hco
    subst hFO
    clear F5 N6 T5 hI hret hgs hh hst hm hm2
    rename OwnH _ _ _ _ _ _ => O9
    rename Below _ _ _ _ => B9
    rename Frag.In _ _ => X9
    clear O9 B9 X9
    intro j
    induction j with
    | zero => intros; omega
    | succ j ih =>
      intro A₀' A' base' b₀ outer' env' La ma s' Q' E' x l r tx tl tr vs ys hj hlr hry hy30 hx hvs B F X N T hA hf hk' hroom hret'
      refine wpAny_call ?_
      refine' enterN_ B F X N T hA hf hk' (.head _) (codeRec_news N (.tail _ (.head _)) hd9 hv9) (by omega) ?k9 ?kB ?_ ?c2 ?c3 ?c4 ?c5
      case k9 => exact BindsTo.of_eq rfl
      case kB => exact locs rfl
      case c2 => exact rfl
      case c3 => exact rfl
      case c4 => exact rfl
      case c5 => decide
      intro g₂ L₂ h₂ tk₂ FG F₂ N₂ B₂ X₂ T₂
      have hm1 : l ≤ (l + r) / 2 := by omega
      have hsh : ((l + r) / 2 - l) * n ≤ 100000 := Nat.le_trans (Nat.mul_le_mul (show (l + r) / 2 - l ≤ 100 by omega) hn) (by decide)
      have hup : Sm 4000 (x >>> (((l + r) / 2 - l) * n)) := (upper_lt hx).le (by decide)
      (try dsimp only); (try k_lift B₂); (try k_fold)
      clear B F X N T
      k_steps
      · rename Fr _ _ _ _ => F3
        rename News _ _ _ _ => N3
        refine leaveK_ F3 N3 ?_
        intro kF kN
        exact hret' _ _ _ (inn_base (by omega) (by assumption)) kF kN
      · rename Fr _ _ _ _ => F3
        rename News _ _ _ _ => N3
        have hne : ¬ l + 1 = r := by omega
        refine ih _ _ _ _ _ _ _ _ _ _ _ _ _ _ _ _ _ vs ys ?_ ?_ ?_ hy30 (lower_lt hx) hvs B₂ F3 X₂ N3 T₂ (Around.frames_deeper B₂.stack) rfl rfl ?_ ?_
        · omega
        · omega
        · omega
        · show A'.depth + 1 + j < recursionLimit
          omega
        clear F3 N3
        intro vs1 h1 tk1 hvs1 F4 N4
        k_steps
        rename Fr _ _ _ _ => F5
        rename News _ _ _ _ => N5
        refine ih _ _ _ _ _ _ _ _ _ _ _ _ _ _ _ _ _ vs1 _ ?_ ?_ ?_ ?_ (upper_lt hx) hvs1 B₂ F5 X₂ N5 T₂ (Around.frames_deeper B₂.stack) rfl rfl ?_ ?_
        · omega
        · omega
        · rw [innF_len]; omega
        · rw [innF_len]; omega
        · show A'.depth + 1 + j < recursionLimit
          omega
        clear F5 N5
        intro vs2 h2 tk2 hvs2 F6 N6
        k_steps
        rename Fr _ _ _ _ => F7
        rename News _ _ _ _ => N7
        refine leaveK_ F7 N7 ?_
        intro kF kN
        exact hret' _ _ _ (inn_step hne hvs2) kF kN
  rename Below _ _ _ _ => B9
  rename Frag.In _ _ => X9
  have hkp : 1 ≤ kk := by omega
  refine key 30 _ _ _ _ _ _ _ _ _ _ _ a 0 kk _ _ _ _ (List.replicate kk 0) (by omega) (by omega) (by rw [List.length_replicate]; exact Nat.le_refl _) (by rw [List.length_replicate]; omega) ha hI B9 F5 X9 N6 T5 (Around.frames_deeper B9.stack) rfl rfl (by show dp + 1 + 30 < recursionLimit; omega) ?_
  clear F5 N6
  intro vs1 h1 tk1 hvs1 F6 N6
  k_steps
  rename Fr _ _ _ _ => F7
  rename News _ _ _ _ => N7
  rename OwnH _ _ _ _ _ _ => O9
  rename CodeOk _ _ => hco
  have bk := int2_end O9 F7 N7
  have ha0 : a ≠ 0 := by omega
  show Q (Value.ref D) _
  exact hret D _ c' oc' _ _ (by rw [if_neg ha0]; exact hvs1) hco (by k_ne) (by k_ne) (by k_ne) bk.1 bk.2
end Mine
end Part_P40
section Part_P44
namespace Mine
theorem rules_P44 : True := by
  k_with_none
  k_with "my enter" => (refine' enter_ ?kC ?kA ?k6 ?k7 ?k8 ?k9 ?kB ?_ ?c2 ?c3 ?c4 ?c5 ?c6; (case kC => assumption); (case kA => exact rfl); (case k6 => k_is); (case k7 => k_is); (case k8 => ktr_room); (case k9 => exact BindsTo.of_eq rfl); (case c5 => decide); (case c6 => exact rfl); (case kB => exact locs rfl); (case c2 => exact rfl); (case c3 => exact rfl); (case c4 => exact rfl); k_whole; intro g'k L'k h'k tk'k hg'k htk'k F'k N'k B'k X'k T'k; (have OW'k := own_of (by assumption) hg'k); (try dsimp only); (try k_lift B'k); (try k_fold))
  k_with "my enterHC" => (refine' enterHC_ _ ?hh ?kC ?kA ?k6 ?k7 ?k8 ?k9 ?kB ?kD ?_ ?c2 ?c3 ?c4; (case kC => assumption); (case hh => assumption); (case kA => exact rfl); (case k6 => k_is); (case k7 => k_is); (case k8 => ktr_room); (case k9 => exact BindsTo.of_eq rfl); (case kB => exact rfl); (case kD => decide +kernel); (case c2 => exact rfl); (case c3 => exact rfl); (case c4 => exact rfl); k_whole; intro g'k L'k h'k tk'k cells'k OW'k hg'k F'k N'k Y'k B'k X'k T'k l1k; (try k_lt l1k); k_cells Y'k; (try simp only [List.cons_append, List.nil_append] at N'k); (try dsimp only); (try k_lift B'k); (try k_fold))
  k_with "call ref" => (k_here; refine stop_ ?_)
  k_with "call builtin:len" => (k_here; (with_reducible show wpAny _ _ (call (Value.builtin "len") [Value.ref _]) _ _ _); refine kun_lenL (by is_list) (by assumption) (by omega) ?_)
  k_with "exec FunctionDef" => (k_here; k_dflt (refine' nestDef_K ?d0 ?k0 ?a0 ?_; (case d0 => exact rfl); (case k0 => exact rfl); (case a0 => exact rfl)); k_dflt (refine' nest3 ?F ?N ?ne ?st ?T ?C ?cd ?cl ?_; (case F => k_asm); (case N => k_asm); (case ne => (dsimp only; refine ⟨⟨?_, ?_⟩, ⟨?_, ?_⟩, ?_, ?_⟩ <;> k_ne)); (case st => assumption); (case T => k_asm); (case cd => exact rfl); (case C => assumption); (case cl => exact rfl); k_whole); intro f'k c'k oc'k ct'k dc'k h'k tk'k hco'k F'k N'k l1'k hcne'k; (dsimp only [Lt, Apart] at l1'k hcne'k N'k))
  k_with "binaryOp RShift int int" => (k_here; first | (with_reducible refine shr1N ?_) | (with_reducible refine shrN ?_))
  k_with "binaryOp LShift int int" => (k_here; (with_reducible refine shlN ?k1 ?k2 ?_); (case k1 => assumption); (case k2 => assumption))
  k_with "binaryOp Sub int int" => (k_here; (with_reducible refine subN ?k1 ?_); (case k1 => assumption))
  k_with "binaryOp Mult int int" => (k_here; (with_reducible refine mulN ?k1 ?k2 ?_); (case k1 => omega); (case k2 => omega))
  k_with "subscriptTail" => (k_here; (with_reducible show wpAny _ _ (subscriptTail _ _ (Value.ref _) (Value.int _ _)) _ _ _); (refine item_list_intsR (by with_reducible assumption) (by with_reducible assumption) (by omega) (by assumption) (by omega) ?_ (by with_unfolding_all rfl); intro t9k))
  trivial
variable {w : World} {mean : ExcName → Option Value} {mg mb : Str → Option Value} {dp un : Nat} {gd : Option (List Code)} {cn : Str} {cs : Scope} {ad : Addr} {ccd : Value} {cl : List (Str × Addr)} {outer : List Env} {A₀ : Around} {base h₀ : Heap} {L : Addr} {m : Str → Option Value} {s : Shared} {Q E : Value → Shared → Prop} {news : List (Addr × Obj)}
set_option maxRecDepth 100000 in
set_option maxHeartbeats 8000000 in
theorem dig2_ok (C : Cx w mean mg mb cs outer A₀ base h₀ L m s news) (hdp : dp + 50 < recursionLimit) (hun : un + 8 < cLine) (d : Addr) (n : Nat) (t2 : Tok) (ps : Array Value) (c0 : Addr) (oc0 : Obj) (vs : List Value) (ys : List Nat)
  (hn1 : 1 ≤ n) (hn : n ≤ 900) (hy : ∀ y ∈ ys, y < 2 ^ n) (hl : s.heap.IsList d vs.toArray) (hi : IntsAre vs (zs ys)) (hy1 : 1 ≤ ys.length) (hy30 : ys.length ≤ 30) (hny : n * ys.length ≤ 4000) (hst : TabSt (Str.ofString "_digits2int.<locals>.inner") 54 48 4 ps c0 oc0) (hm : (54, tabObj ps) ∈ news) (hm2 : (c0, oc0) ∈ news)
  (hC : CodeHd h₀ 58 54) (hd54 : d ≠ 54) (hdc : d ≠ c0)
  (hret : ∀ t c' oc' h' tk', CodeOk (Str.ofString "_digits2int.<locals>.inner") oc' → c' ≠ 54 → Fr h₀ L h' m →
    (∀ rest, (∀ q ∈ rest, q ∈ news ∧ q.1 ≠ 54 ∧ q.1 ≠ c0) → News h₀ L h' ((54, tabObj (#[] ++ #[rawInt ((48 : Nat) : Int), rawInt ((4 : Nat) : Int), .ref c'])) :: (c', oc') :: rest)) → Q (.int ((outF n ys 30 0 ys.length : Nat) : Int) t) {s with heap := h', toks := tk'}) :
  wpAny (model PySem.Challenge.rw_sn0034_01.row.prog w) (ktrTop dp un gd cn cs L ad ccd cl outer) (call (.ref 59) [.ref d, .int (n : Int) t2]) Q E s := by
  have hh : ∀ q ∈ [(54, tabObj ps), (c0, oc0)], q ∈ news := fun q h => by
    rcases List.mem_cons.mp h with rfl | h
    · exact hm
    · rw [List.mem_singleton.mp h]; exact hm2
  refine wpAny_call ?_
  walk_at "my enterHC"
  rename ∀ b o, s.heap.get? b = some o → b ∉ _ → _ => hgs
  have hC2 : CodeHd _ 58 54 := CodeHd.keeps hC (fun b o e => hgs b o (C.F.keep b o e) fun q => by
    obtain ⟨r, hr, rfl⟩ := List.mem_map.mp q
    rw [(C.N r (hh r hr)).2.2] at e; cases e)
  clear hC
  replace hl := hl.at fun o e => hgs d o e (fun q => by
    simp only [List.map_cons, List.map_nil, List.mem_cons, List.not_mem_nil, or_false] at q
    rcases q with q | q
    · exact hd54 q
    · exact hdc q)
  have hlz := zs_len hi
  have hlz2 : ((vs.toArray.size : Nat) : Int) = (ys.length : Int) := by rw [List.size_toArray, hlz]
  k_steps
  rename Fr _ _ _ _ => F5
  rename News _ _ _ _ => N5
  rename Top _ _ _ _ _ _ => T5
  obtain ⟨g', L', f, c', oc', oi, oa, on, FO, rfl, rfl, rfl, rfl, rfl, rfl, rfl, rfl, hFO, N6⟩ := names6 N5
  clear N5
  have key : ∀ (j : Nat) (A₀' A' : Around) (base' b₀ : Heap) (outer' : List Env) (env' : Env) (La : Addr) (ma : Str → Option Value) (s' : Shared) (Q' E' : Value → Shared → Prop) (l r : Nat) (tl tr : Tok), r ≤ l + j → l < r → r ≤ ys.length →
      Below A₀' base' outer' b₀ → Fr b₀ La s'.heap ma → (hd.heap_39 w.params).In b₀ → News b₀ La s'.heap [(f, FO), (c', oc'), (L' + 1 + 1 + 1, oi), (L' + 1 + 1, oa), (L' + 1, on), (54, tabObj (#[] ++ #[rawInt ((48 : Nat) : Int), rawInt ((4 : Nat) : Int), .ref c']))] → b₀.IsList d vs.toArray →
      Top topProg ((looseW hd.view_39 [Str.ofString "ONE_THIRD", Str.ofString "ONE_SIXTH", Str.ofString "TWO_THIRD", Str.ofString "_twin_re_1", Str.ofString "_twin_re_2"]) ++ (recsOf hd.view_39).map (·.name) ++ (litsOf hd.view_39).map (·.1) ++ (clssOf hd.view_39 (looseW hd.view_39 [Str.ofString "ONE_THIRD", Str.ofString "ONE_SIXTH", Str.ofString "TWO_THIRD", Str.ofString "_twin_re_1", Str.ofString "_twin_re_2"])).map (·.name)) mean mg mb b₀ → A'.frames = some (env' :: outer') → env'.frame = some La → env'.scope.kind = .function → A'.depth + j < recursionLimit →
      (∀ t h' tk', Fr b₀ La h' ma → News b₀ La h' [(f, FO), (c', oc'), (L' + 1 + 1 + 1, oi), (L' + 1 + 1, oa), (L' + 1, on), (54, tabObj (#[] ++ #[rawInt ((48 : Nat) : Int), rawInt ((4 : Nat) : Int), .ref c']))] → Q' (.int ((outF n ys j l r : Nat) : Int) t) { s' with heap := h', toks := tk' }) →
      wpAny (model PySem.Challenge.rw_sn0034_01.row.prog w) A' (call (.ref f) [.int (l : Int) tl, .int (r : Int) tr]) Q' E' s' := by
    rename CodeOk _ _ => hco
    obtain ⟨vsC, tC, hd9, hv9⟩ := hco
    subst hFO
    clear F5 N6 T5 hret hgs hh hst hm hm2 hl
    rename OwnH _ _ _ _ _ _ => O9
    rename Below _ _ _ _ => B9
    rename Frag.In _ _ => X9
    clear O9 B9 X9
    intro j
    induction j with
    | zero => intros; omega
    | succ j ih =>
      intro A₀' A' base' b₀ outer' env' La ma s' Q' E' l r tl tr hj hlr hry B F X N hlb T hA hf hk' hroom hret'
      refine wpAny_call ?_
      refine' enterN_ B F X N T hA hf hk' (.head _) (codeRec_news N (.tail _ (.head _)) hd9 hv9) (by omega) ?k9 ?kB ?_ ?c2 ?c3 ?c4 ?c5
      case k9 => exact BindsTo.of_eq rfl
      case kB => exact locs rfl
      case c2 => exact rfl
      case c3 => exact rfl
      case c4 => exact rfl
      case c5 => decide
      intro g₂ L₂ h₂ tk₂ FG F₂ N₂ B₂ X₂ T₂
      have hm1 : l ≤ (l + r) / 2 := by omega
      have hm2 : ¬ l + 1 = r → (l + r) / 2 < r := by omega
      have hsh : ((l + r) / 2 - l) * n ≤ 100000 := Nat.le_trans (Nat.mul_le_mul (show (l + r) / 2 - l ≤ 100 by omega) hn) (by decide)
      have hlg : g₂.IsList d vs.toArray := hlb.at fun o e => FG.keep d o e
      have hlt : (l : Int) < ((zs ys).length : Int) := by simp [zs]; omega
      (try dsimp only); (try k_lift B₂); (try k_fold)
      clear B F X N T hlb
      k_steps
      · rename Fr _ _ _ _ => F3
        rename News _ _ _ _ => N3
        rw [out_base (n := n) (j := j) (r := r) (by omega) (by omega)]
        refine leaveK_ F3 N3 ?_
        intro kF kN
        exact hret' _ _ _ kF kN
      · rename Fr _ _ _ _ => F3
        rename News _ _ _ _ => N3
        have hne : ¬ l + 1 = r := by omega
        refine ih _ _ _ _ _ _ _ _ _ _ _ _ _ _ _ ?_ ?_ ?_ B₂ F3 X₂ N3 hlg T₂ (Around.frames_deeper B₂.stack) rfl rfl ?_ ?_
        · omega
        · omega
        · omega
        · show A'.depth + 1 + j < recursionLimit
          omega
        clear F3 N3
        intro t1 h1 tk1 F4 N4
        have hsm : Sm 4000 (outF n ys j ((l + r) / 2) r) := out_sm hy (by omega) (by omega) hry hny
        k_steps
        rename Fr _ _ _ _ => F5
        rename News _ _ _ _ => N5
        refine ih _ _ _ _ _ _ _ _ _ _ _ _ _ _ _ ?_ ?_ ?_ B₂ F5 X₂ N5 hlg T₂ (Around.frames_deeper B₂.stack) rfl rfl ?_ ?_
        · omega
        · omega
        · omega
        · show A'.depth + 1 + j < recursionLimit
          omega
        clear F5 N5
        intro t2 h2 tk2 F6 N6
        k_steps
        rename Fr _ _ _ _ => F7
        rename News _ _ _ _ => N7
        refine leaveK_ F7 N7 ?_
        intro kF kN
        have := hret' (tk2) h2 (tk2 + 1) kF kN
        rw [← out_step hne] at this
        exact this
  rename Below _ _ _ _ => B9
  rename Frag.In _ _ => X9
  refine key 30 _ _ _ _ _ _ _ _ _ _ _ 0 ys.length _ _ (by omega) (by omega) (Nat.le_refl _) B9 F5 X9 N6 hl T5 (Around.frames_deeper B9.stack) rfl rfl (by show dp + 1 + 30 < recursionLimit; omega) ?_
  clear F5 N6
  intro t1 h1 tk1 F6 N6
  k_steps
  rename Fr _ _ _ _ => F7
  rename News _ _ _ _ => N7
  rename OwnH _ _ _ _ _ _ => O9
  rename CodeOk _ _ => hco
  have bk := dig2_end O9 F7 N7
  show Q (Value.int _ _) _
  exact hret _ c' oc' _ _ hco (by k_ne) bk.1 bk.2
end Mine
end Part_P44
section Part_P45a
set_option maxRecDepth 100000
namespace Mine
theorem names8 {h₀ h : Heap} {L I D2 : Addr} {o o2 : Obj} {rest : List (Addr × Obj)} (N : News h₀ L h ((I, o) :: (D2, o2) :: rest)) : ∃ g' L' I' D2', g' = h₀ ∧ L' = L ∧ I' = I ∧ D2' = D2 ∧ News g' L' h ((I', o) :: (D2', o2) :: rest) := ⟨_, _, _, _, rfl, rfl, rfl, rfl, N⟩
abbrev I2q : Str := Str.ofString "_int2digits.<locals>.inner"
abbrev D2q : Str := Str.ofString "_digits2int.<locals>.inner"
theorem ne_of_obj {h₀ h : Heap} {L a b : Addr} {o o' : Obj} {news : List (Addr × Obj)} (N : News h₀ L h news) (h1 : (a, o) ∈ news) (h2 : (b, o') ∈ news) (hne : o ≠ o') : a ≠ b := fun e => by
  have e1 := (N _ h1).1
  have e2 := (N _ h2).1
  simp only at e1 e2
  rw [e, e2] at e1
  exact hne (Option.some.inj e1).symm
def TabForm (ps : Array Value) : Prop := ps = #[] ∨ ∃ i j x, ps = #[] ++ #[rawInt i, rawInt j, x]
theorem TabSt.form {q : Str} {P c0 : Addr} {l c : Nat} {ps : Array Value} {oc0 : Obj} (st : TabSt q P l c ps c0 oc0) : TabForm ps := by
  rcases st with ⟨h, _⟩ | ⟨h, _⟩
  · exact .inl h
  · exact .inr ⟨_, _, _, h⟩
theorem code_ne_tab {q : Str} {oc : Obj} {ps : Array Value} (hco : CodeOk q oc) (hps : TabForm ps) : oc ≠ tabObj ps := fun e => by
  subst e
  obtain ⟨vs, t, hd, hv⟩ := hco
  cases hd
  rcases hps with rfl | ⟨i, j, x, rfl⟩
  · simp at hv
  · simp [rawInt] at hv
theorem code_ne_code {q q' : Str} {oc oc' : Obj} (hco : CodeOk q oc) (hco' : CodeOk q' oc') (hq : q ≠ q') : oc ≠ oc' := fun e => by
  subst e
  obtain ⟨vs, t, hd, hv⟩ := hco
  obtain ⟨vs', t', hd', hv'⟩ := hco'
  rw [hd] at hd'
  cases hd'
  rw [hv] at hv'
  cases hv'
  exact hq rfl
theorem div_end {h₀ g h' : Heap} {L L' c0 d0 T c' d' : Addr} {m m' : Str → Option Value} {news : List (Addr × Obj)} {oc0 od0 oc' od' ot o1 o2 p1 p2 : Obj} (O : OwnH h₀ L g m news [(47, p1), (c0, oc0), (54, p2), (d0, od0)]) (F' : Fr g L' h' m') (N' : News g L' h' [(T, ot), (54, o2), (d', od'), (47, o1), (c', oc')]) :
    Fr h₀ L h' m ∧ ∀ rest, (∀ q ∈ rest, q ∈ news ∧ q.1 ≠ 47 ∧ q.1 ≠ c0 ∧ q.1 ≠ 54 ∧ q.1 ≠ d0) → News h₀ L h' ((T, ot) :: (47, o1) :: (c', oc') :: (54, o2) :: (d', od') :: rest) := by
  have bk := O.back F' N'
  refine ⟨bk.1, fun rest hr q hq => bk.2 rest (fun q hq => ⟨(hr q hq).1, fun z => ?_⟩) q ?_⟩
  · simp only [List.map_cons, List.map_nil, List.mem_cons, List.not_mem_nil, or_false] at z
    obtain ⟨_, k1, k2, k3, k4⟩ := hr q hq
    rcases z with z | z | z | z
    · exact k1 z
    · exact k2 z
    · exact k3 z
    · exact k4 z
  · rcases List.mem_cons.mp hq with rfl | hq
    · exact .head _
    rcases List.mem_cons.mp hq with rfl | hq
    · exact .tail _ (.tail _ (.tail _ (.head _)))
    rcases List.mem_cons.mp hq with rfl | hq
    · exact .tail _ (.tail _ (.tail _ (.tail _ (.head _))))
    rcases List.mem_cons.mp hq with rfl | hq
    · exact .tail _ (.head _)
    rcases List.mem_cons.mp hq with rfl | hq
    · exact .tail _ (.tail _ (.head _))
    · exact List.mem_append_right _ hq
theorem q_ne : I2q ≠ D2q := by decide +kernel
theorem st_ne {h₀ h : Heap} {L P P' c0 d0 : Addr} {q q' : Str} {l c l' c' : Nat} {ps qs : Array Value} {oc0 od0 : Obj} {news : List (Addr × Obj)} (N : News h₀ L h news) (st : TabSt q P l c ps c0 oc0) (st' : TabSt q' P' l' c' qs d0 od0) (hq : q ≠ q') (hP : P ≠ P')
    (h1 : (P, tabObj ps) ∈ news) (h2 : (c0, oc0) ∈ news) (h3 : (P', tabObj qs) ∈ news) (h4 : (d0, od0) ∈ news) : d0 ≠ P ∧ c0 ≠ P' ∧ c0 ≠ d0 := by
  have f1 := st.form
  have f2 := st'.form
  rcases st with ⟨_, rfl, _⟩ | ⟨_, k, _⟩ <;> rcases st' with ⟨_, rfl, _⟩ | ⟨_, k', _⟩
  · exact ⟨hP.symm, hP, hP⟩
  · have e := ne_of_obj N h4 h1 (code_ne_tab k' f1)
    exact ⟨e, hP, e.symm⟩
  · have e := ne_of_obj N h2 h3 (code_ne_tab k f2)
    exact ⟨hP.symm, e, e⟩
  · exact ⟨ne_of_obj N h4 h1 (code_ne_tab k' f1), ne_of_obj N h2 h3 (code_ne_tab k f2), ne_of_obj N h2 h4 (code_ne_code k k' hq)⟩
abbrev digF (a n kk : Nat) : List Nat := innF n 30 a 0 kk (List.replicate kk 0)
def stepD (b n : Nat) (st : Nat × List Nat) (d : Nat) : Nat × List Nat := (((st.1 <<< n) + d) % b, st.2 ++ [((st.1 <<< n) + d) / b])
def divS (a b n kk : Nat) : Nat × List Nat := (digF a n kk).reverse.foldl (stepD b n) (0, [])
def divQ (a b n kk : Nat) : Nat := outF n (divS a b n kk).2.reverse 30 0 (divS a b n kk).2.reverse.length
def divR (a b n kk : Nat) : Nat := (divS a b n kk).1
theorem stepD_len (b n : Nat) (ds : List Nat) : ∀ st, (ds.foldl (stepD b n) st).2.length = st.2.length + ds.length := by
  induction ds with
  | nil => intro st; rfl
  | cons d r ih =>
    intro st
    rw [List.foldl_cons, ih]
    simp [stepD]
    omega
theorem sm_step {r b n d : Nat} (hr : r < b) (hb : Sm 900 b) (hn : n ≤ 900) (hd : d < 2 ^ n) : Sm 4000 (r <<< n + d) := by
  refine ⟨?_⟩
  rw [Nat.shiftLeft_eq]
  have h1 : (r + 1) * 2 ^ n ≤ 2 ^ 900 * 2 ^ n := Nat.mul_le_mul_right _ (Nat.le_trans hr (Nat.le_of_lt hb.lt))
  have h2 : 2 ^ 900 * 2 ^ n ≤ 2 ^ 4000 := by
    rw [← Nat.pow_add]
    exact Nat.pow_le_pow_right (by decide) (by omega)
  have h3 : (r + 1) * 2 ^ n = r * 2 ^ n + 2 ^ n := by rw [Nat.add_mul, Nat.one_mul]
  exact Nat.lt_of_lt_of_le (Nat.lt_of_lt_of_le (Nat.add_lt_add_left hd _) (Nat.le_of_eq h3.symm)) (Nat.le_trans h1 h2)
theorem zs_get {vs : List Value} {ys : List Nat} (hi : IntsAre vs (zs ys)) {k : Nat} {v : Value} (hv : vs[k]? = some v) : ∃ d t, ys[k]? = some d ∧ v = .int (d : Int) t := by
  have hl := zs_len hi
  have hk : k < ys.length := by
    rcases Nat.lt_or_ge k ys.length with q | q
    · exact q
    · rw [List.getElem?_eq_none (by omega)] at hv; cases hv
  obtain ⟨t, ht⟩ := hi.get k (ys[k] : Int) (by simp [zs, hk])
  rw [ht] at hv
  exact ⟨ys[k], t, List.getElem?_eq_getElem hk, (Option.some.inj hv).symm⟩
theorem zs_rev {vs : List Value} {ys : List Nat} (hi : IntsAre vs (zs ys)) : IntsAre vs.reverse (zs ys.reverse) := by
  show IntsAre _ (List.map _ _)
  rw [List.map_reverse]
  exact ints_rev hi
/-- the names after some digits of the long division -/
def mDiv (m₀ u : Str → Option Value) (r : Nat) (tr : Tok) : Str → Option Value := fun z => if z = Str.ofString "r" then some (.int (r : Int) tr) else if z = Str.ofString "q_digit" then u z else if z = Str.ofString "a_digit" then u z else m₀ z
theorem mDiv_of {m₀ m : Str → Option Value} {r : Nat} {tr : Tok} (h1 : m (Str.ofString "r") = some (.int (r : Int) tr)) (h2 : ∀ z, z ≠ Str.ofString "r" → z ≠ Str.ofString "q_digit" → z ≠ Str.ofString "a_digit" → m z = m₀ z) : m = mDiv m₀ m r tr := by
  funext z
  unfold mDiv
  by_cases q1 : z = Str.ofString "r"
  · rw [if_pos q1, q1, h1]
  · rw [if_neg q1]
    by_cases q2 : z = Str.ofString "q_digit"
    · rw [if_pos q2]
    · rw [if_neg q2]
      by_cases q3 : z = Str.ofString "a_digit"
      · rw [if_pos q3]
      · rw [if_neg q3]; exact h2 z q1 q2 q3
/-- the state of the long division after some digits -/
def JDiv (b n : Nat) (ds : List Nat) (D2 : Addr) (others : List (Addr × Obj)) (m₀ : Str → Option Value) (k : Nat) (m : Str → Option Value) (news : List (Addr × Obj)) : Prop :=
  ∃ ws wn r qs tr u, news = (D2, listOf (List.toArray ws) wn) :: others ∧ (ds.take k).foldl (stepD b n) (0, []) = (r, qs) ∧ r < b ∧ IntsAre ws (zs qs) ∧ qs.length = k ∧ m = mDiv m₀ u r tr
theorem step_at {b n k d r : Nat} {ds qs : List Nat} (hd : ds[k]? = some d) (h : (ds.take k).foldl (stepD b n) (0, []) = (r, qs)) : (ds.take (k + 1)).foldl (stepD b n) (0, []) = ((r <<< n + d) % b, qs ++ [(r <<< n + d) / b]) := by
  rw [List.take_add_one, hd, List.foldl_append, h]
  rfl
theorem divS_len (a b n kk : Nat) : (divS a b n kk).2.length = kk := by
  unfold divS
  rw [stepD_len, List.length_reverse]
  show 0 + (innF n 30 a 0 kk (List.replicate kk 0)).length = kk
  rw [innF_len, List.length_replicate, Nat.zero_add]
section
variable {prog : Program} {w : World} {A : Around} {E : Value → Shared → Prop} {s : Shared} {env : Env} {h₀ : Heap} {L D : Addr} {m : Str → Option Value} {x : Str} {body : List Stmt} {news news' : List (Addr × Obj)}
theorem rev_ind {Q : Flow → Shared → Prop} {I : Addr} {lp : Addr × Obj} {vs : List Value} (J : Nat → (Str → Option Value) → List (Addr × Obj) → Prop)
    (turn : ∀ k v m news (it : Obj) h tk, vs[k]? = some v → J k m news → it.cls = .type "list_reverseiterator" → Fr h₀ env.locals h (fun y => if y = x then some v else m y) → News h₀ env.locals h ((I, it) :: news) →
      wpAny (model prog w) A (execs body env) (UnrPost h₀ env.locals { s with heap := h, toks := tk } I it (fun m' n' => lp ∈ n' ∧ J (k + 1) m' n') Q) E { s with heap := h, toks := tk })
    (done : ∀ m news, J vs.length m news → ∀ h tk, Fr h₀ env.locals h m → News h₀ env.locals h news → Q .next { s with heap := h, toks := tk }) :
    ∀ k m news, k ≤ vs.length → J k m news → RevRest prog w A E h₀ env x body Q s I lp (vs.drop k) m news := by
  have go : ∀ (d k : Nat) m news, k + d = vs.length → J k m news → RevRest prog w A E h₀ env x body Q s I lp (vs.drop k) m news := by
    intro d
    induction d with
    | zero =>
      intro k m news hk j
      rw [List.drop_of_length_le (by omega)]
      have : k = vs.length := by omega
      subst this
      exact RevRest.zero (done m news j)
    | succ d ih =>
      intro k m news hk j
      have hlt : k < vs.length := by omega
      rw [List.drop_eq_getElem_cons hlt]
      refine RevRest.succ fun it h tk hc F N => ?_
      refine wpAny_mono (turn k vs[k] m news it h tk (List.getElem?_eq_getElem hlt) j hc F N) (fun f s₂ p => ?_) fun _ _ e => e
      have e : UnrEnd h₀ env.locals { s with heap := h, toks := tk } I it (fun m' n' => lp ∈ n' ∧ J (k + 1) m' n') s₂ → UnrEnd h₀ env.locals { s with heap := h, toks := tk } I it (fun m' n' => lp ∈ n' ∧ RevRest prog w A E h₀ env x body Q s I lp (vs.drop (k + 1)) m' n') s₂ :=
        fun ⟨h', tk', m', n', a, b, c, d', e1, e2⟩ => ⟨h', tk', m', n', a, b, c, d', e1, ih (k + 1) m' n' (by omega) e2⟩
      cases f with
      | ret v => exact p
      | brk => exact p
      | next => exact e p
      | cont => exact e p
  intro k m news hk j
  exact go (vs.length - k) k m news (by omega) j
theorem div_loop {Q : Flow → Shared → Prop} {I D D2 : Addr} {vs : List Value} {wn0 wn2 : Nat} {ds : List Nat} {others : List (Addr × Obj)} {m₀ : Str → Option Value} {b n : Nat} {t0 : Tok}
    (hh : A.handled = none) (F : Fr h₀ env.locals s.heap m₀) (N : News h₀ env.locals s.heap ((I, revObj D ((vs.length : Int) - 1)) :: (D2, listOf #[] wn2) :: (D, listOf vs.toArray wn0) :: others)) (hof : OffI I (revObj D ((vs.length : Int) - 1)) ((D2, listOf #[] wn2) :: (D, listOf vs.toArray wn0) :: others))
    (hi : IntsAre vs (zs ds)) (hr0 : m₀ (Str.ofString "r") = some (.int 0 t0)) (hb : 1 ≤ b)
    (turn : ∀ (k y : Nat) (ty : Tok) (r : Nat) (qd : List Nat) (tr : Tok) (u : Str → Option Value) (ws : List Value) (wn : Nat) (it : Obj) (h : Heap) (tk : Nat), ds.reverse[k]? = some y → (ds.reverse.take k).foldl (stepD b n) (0, []) = (r, qd) → r < b → IntsAre ws (zs qd) → qd.length = k → k < ds.length → it.cls = .type "list_reverseiterator" →
      Fr h₀ env.locals h (fun z => if z = Str.ofString "a_digit" then some (.int (y : Int) ty) else if z = Str.ofString "r" then some (.int (r : Int) tr) else if z = Str.ofString "q_digit" then u z else if z = Str.ofString "a_digit" then u z else m₀ z) →
      News h₀ env.locals h ((I, it) :: (D2, listOf (List.toArray ws) wn) :: (D, listOf vs.toArray wn0) :: others) →
      wpAny (model prog w) A (execs body env) (UnrPost h₀ env.locals { s with heap := h, toks := tk } I it (fun m' n' => (D, listOf vs.toArray wn0) ∈ n' ∧ JDiv b n ds.reverse D2 ((D, listOf vs.toArray wn0) :: others) m₀ (k + 1) m' n') Q) E { s with heap := h, toks := tk })
    (done : ∀ (r : Nat) (qd : List Nat) (tr : Tok) (u : Str → Option Value) (ws : List Value) (wn : Nat) (h : Heap) (tk : Nat), ds.reverse.foldl (stepD b n) (0, []) = (r, qd) → IntsAre ws (zs qd) → qd.length = ds.length →
      Fr h₀ env.locals h (fun z => if z = Str.ofString "r" then some (.int (r : Int) tr) else if z = Str.ofString "q_digit" then u z else if z = Str.ofString "a_digit" then u z else m₀ z) →
      News h₀ env.locals h ((D2, listOf (List.toArray ws) wn) :: (D, listOf vs.toArray wn0) :: others) → Q .next { s with heap := h, toks := tk }) :
    wpAny (model prog w) A (pyIter (.ref I)) (fun it s₂ => LoopAtV prog w A h₀ env (Str.ofString "a_digit") body Q E it s₂) E s := by
  have hlv := zs_len hi
  refine iter_revUnr (ax := D) (lo := listOf vs.toArray wn0) (vs := vs) hh F N hof (.tail _ (.head _)) rfl rfl ?_
  have base := rev_ind (prog := prog) (w := w) (A := A) (E := E) (s := s) (h₀ := h₀) (env := env) (x := Str.ofString "a_digit") (body := body) (Q := Q) (I := I) (lp := (D, listOf vs.toArray wn0)) (vs := vs.reverse) (JDiv b n ds.reverse D2 ((D, listOf vs.toArray wn0) :: others) m₀) ?_ ?_ 0 m₀ ((D2, listOf #[] wn2) :: (D, listOf vs.toArray wn0) :: others) (Nat.zero_le _) ?_
  · exact base
  · rintro k v m₁ _ it h tk hv ⟨ws, wn, r, qd, tr, u, rfl, hf, hrb, hws, hql, rfl⟩ hit F₁ N₁
    obtain ⟨y, ty, hy, rfl⟩ := zs_get (zs_rev hi) hv
    have hk : k < ds.length := by
      rcases Nat.lt_or_ge k ds.length with q | q
      · exact q
      · rw [List.getElem?_eq_none (by rw [List.length_reverse]; exact q)] at hy; cases hy
    exact turn k y ty r qd tr u ws wn it h tk hy hf hrb hws hql hk hit F₁ N₁
  · rintro m₁ _ ⟨ws, wn, r, qd, tr, u, rfl, hf, hrb, hws, hql, rfl⟩ h tk F₁ N₁
    rw [List.length_reverse, hlv] at hql hf
    rw [List.take_of_length_le (by rw [List.length_reverse]; exact Nat.le_refl _)] at hf
    exact done r qd tr u ws wn h tk hf hws hql F₁ N₁
  · exact ⟨[], wn2, 0, [], t0, m₀, rfl, rfl, hb, .nil, rfl, mDiv_of hr0 fun _ _ _ _ => rfl⟩
theorem div_next {D2 : Addr} {m₀ m' : Str → Option Value} {b n k y r : Nat} {ds qd : List Nat} {ws : List Value} {wn : Nat} {tr : Tok} {others : List (Addr × Obj)}
    (hy : ds[k]? = some y) (hf : (ds.take k).foldl (stepD b n) (0, []) = (r, qd)) (hb : 1 ≤ b) (hws : IntsAre ws (zs (qd ++ [(r <<< n + y) / b]))) (hql : qd.length = k)
    (hr : m' (Str.ofString "r") = some (.int (((r <<< n + y) % b : Nat) : Int) tr)) (hm : ∀ z, z ≠ Str.ofString "r" → z ≠ Str.ofString "q_digit" → z ≠ Str.ofString "a_digit" → m' z = m₀ z) :
    JDiv b n ds D2 others m₀ (k + 1) m' ((D2, listOf (List.toArray ws) wn) :: others) :=
  ⟨ws, wn, _, _, tr, m', rfl, step_at hy hf, Nat.mod_lt _ hb, hws, by simp [hql], mDiv_of hr hm⟩
theorem app_nat {Q : Value → Shared → Prop} {ws : List Value} {qs : List Nat} {n y : Nat} {t : Tok} (F : Fr h₀ L s.heap m) (N : News h₀ L s.heap news) (U : Upd D (listOf ws.toArray n) (listOf (ws ++ [Value.int (y : Int) t]).toArray (n + 1)) news news') (hi : IntsAre ws (zs qs)) (hz : qs.length ≤ 2000)
    (h : ∀ h' ws' n', IntsAre ws' (zs (qs ++ [y])) → ws' = ws ++ [Value.int (y : Int) t] → n' = n + 1 → Fr h₀ L h' m → News h₀ L h' news' → Q .none { s with heap := h' }) : wpAny (model prog w) A (call (.builtin "list.append") [.ref D, .int (y : Int) t]) Q E s :=
  append_L F N U (by rw [zs_len hi]; exact hz) fun h' F' N' => h h' _ _ (by
    show IntsAre _ (List.map _ _)
    rw [List.map_append]
    exact ints_app hi (.cons _ _ .nil)) rfl rfl F' N'
theorem rev_zs {Q : Value → Shared → Prop} {ws : List Value} {qs : List Nat} {n : Nat} (hi : IntsAre ws (zs qs)) (hz : qs.length ≤ 2000) (F : Fr h₀ L s.heap m) (N : News h₀ L s.heap news) (U : Upd D (listOf ws.toArray n) (listOf ws.reverse.toArray n) news news')
    (h : ∀ h', IntsAre ws.reverse (zs qs.reverse) → Fr h₀ L h' m → News h₀ L h' news' → Q .none { s with heap := h' }) : wpAny (model prog w) A (call (.builtin "list.reverse") [.ref D]) Q E s := by
  have hl := zs_len hi
  exact kl_reverse F N rfl U (by show ws.length ≤ sizeLine; rw [sizeLine_eq]; omega) fun h' F' N' => h h' (by
    show IntsAre _ (List.map _ _)
    rw [List.map_reverse]
    exact ints_rev hi) F' N'
end
section
variable {w : World} {mean : ExcName → Option Value} {mg mb : Str → Option Value} {dp un : Nat} {gd : Option (List Code)} {cn : Str} {cs : Scope} {ad : Addr} {ccd : Value} {cl : List (Str × Addr)} {outer : List Env} {A₀ : Around} {base h₀ : Heap} {L : Addr} {m : Str → Option Value} {s : Shared} {Q E : Value → Shared → Prop} {news : List (Addr × Obj)}
theorem divN_ok (C : Cx w mean mg mb cs outer A₀ base h₀ L m s news) (hdp : dp + 1 < recursionLimit) (hun : un + 8 < cLine) (a b n : Nat) (t1 t2 t3 : Tok) (hb : 1 ≤ b) (hb9 : Sm 900 b) (ha : Sm 4000 a)
  (hret : ∀ D t t' h' tk', Fr h₀ L h' m → News h₀ L h' ((D, { cls := .type "tuple", data := .seq #[.int ((a / b : Nat) : Int) t, .int ((a % b : Nat) : Int) t'] }) :: news) → Q (.ref D) {s with heap := h', toks := tk'}) :
  wpAny (model PySem.Challenge.rw_sn0034_01.row.prog w) (ktrTop dp un gd cn cs L ad ccd cl outer) (call (.ref 38) [.int (a : Int) t1, .int (b : Int) t2, .int (n : Int) t3]) Q E s := by
  have h1 : Builtin.Int.intBits (a : Int) ≤ 4000 := intBits_le_iff.mpr ha.lt
  refine div2_ok C hdp hun _ _ _ _ _ _ (by omega) (by omega) (PyProof.noPylong_of_log2 ?_) fun D t t' h' tk' F N => hret D t t' h' tk' F ?_
  · show (b : Nat).log2 < 9000
    rcases Nat.eq_zero_or_pos b with e | e
    · omega
    · exact Nat.lt_trans ((Nat.log2_lt (by omega)).mpr hb9.lt) (by decide)
  · have e1 : Int.fdiv (a : Int) (b : Int) = ((a / b : Nat) : Int) := by rw [Int.fdiv_eq_ediv_of_nonneg _ (by omega)]; rfl
    have e2 : Int.fmod (a : Int) (b : Int) = ((a % b : Nat) : Int) := by rw [Int.fmod_eq_emod_of_nonneg _ (by omega)]; rfl
    rw [e1, e2] at N
    exact N
end
end Mine
end Part_P45a
section Part_P45
namespace Mine

local macro_rules | `(tactic| walk_at "pyIter ref") => `(tactic| (k_here; refine stop_ ?_))
theorem rules_P45 : True := by
  k_with_none
  k_with "my enter" => (refine' enter_ ?kC ?kA ?k6 ?k7 ?k8 ?k9 ?kB ?_ ?c2 ?c3 ?c4 ?c5 ?c6; (case kC => assumption); (case kA => exact rfl); (case k6 => k_is); (case k7 => k_is); (case k8 => ktr_room); (case k9 => exact BindsTo.of_eq rfl); (case c5 => decide); (case c6 => exact rfl); (case kB => exact locs rfl); (case c2 => exact rfl); (case c3 => exact rfl); (case c4 => exact rfl); k_whole; intro g'k L'k h'k tk'k hg'k htk'k F'k N'k B'k X'k T'k; (have OW'k := own_of (by assumption) hg'k); (try dsimp only); (try k_lift B'k); (try k_fold))
  k_with "my enterH" => (refine' enterH_ _ ?hh ?kC ?kA ?k6 ?k7 ?k8 ?k9 ?kB ?_ ?c2 ?c3 ?c4 ?c5 ?c6; (case kC => assumption); (case hh => assumption); (case kA => exact rfl); (case k6 => k_is); (case k7 => k_is); (case k8 => ktr_room); (case k9 => exact BindsTo.of_eq rfl); (case c5 => decide); (case c6 => exact rfl); (case kB => exact locs rfl); (case c2 => exact rfl); (case c3 => exact rfl); (case c4 => exact rfl); k_whole; intro g'k L'k h'k tk'k OW'k hg'k htk'k F'k N'k B'k X'k T'k; (try dsimp only); (try k_lift B'k); (try k_fold))
  k_with "call ref" => (k_here; refine stop_ ?_)
  k_with "call ref" => (k_here; (with_reducible show wpAny _ _ (call (Value.ref 38) _) _ _ _); (refine' divN_ok ⟨?k1, ?k2, ?k3, ?k4, ?k5, ?k6⟩ ?k7 ?k8 _ _ _ _ _ _ ?k9 ?k10 ?k11 ?_; (case k1 => k_asm); (case k2 => k_asm); (case k3 => k_asm); (case k4 => k_asm); (case k5 => k_asm); (case k6 => rfl); (case k7 => ktr_room); (case k8 => ktr_units); (case k9 => assumption); (case k10 => assumption); (case k11 => assumption); k_whole); intro D'k t'k u'k h'k tk'k F'k N'k)
  k_with "exec For" => (k_here; k_dflt (refine For_invVF (by k_asm) (by with_unfolding_all rfl) (by rfl) ?_))
  k_with "call builtin:list.append" => (k_here; (refine app_nat (by k_asm) (by k_asm) (by k_upd) (by assumption) (by omega) ?_); (intro h'k ws'k n'k i'k e1'k e2'k F'k N'k); (try dsimp only [List.nil_append, List.cons_append] at N'k); (subst e1'k e2'k))
  k_with "call builtin:list.reverse" => (k_here; (refine rev_zs (by assumption) (by omega) (by k_asm) (by k_asm) (by k_upd) ?_); (intro h'k i'k F'k N'k); (try dsimp only [List.nil_append, List.cons_append] at N'k))
  k_with "binaryOp LShift int int" => (k_here; (with_reducible refine shlN ?k1 ?k2 ?_); (case k1 => assumption); (case k2 => omega))
  k_with "binaryOp Add int int" => (k_here; (with_reducible refine addN ?_))
  trivial
variable {w : World} {mean : ExcName → Option Value} {mg mb : Str → Option Value} {dp un : Nat} {gd : Option (List Code)} {cn : Str} {cs : Scope} {ad : Addr} {ccd : Value} {cl : List (Str × Addr)} {outer : List Env} {A₀ : Around} {base h₀ : Heap} {L : Addr} {m : Str → Option Value} {s : Shared} {Q E : Value → Shared → Prop} {news : List (Addr × Obj)}
set_option maxRecDepth 100000 in
set_option maxHeartbeats 8000000 in
theorem divpos_ok (C : Cx w mean mg mb cs outer A₀ base h₀ L m s news) (hdp : dp + 60 < recursionLimit) (hun : un + 20 < cLine) (a b kk : Nat) (t1 t2 : Tok) (ps qs : Array Value) (c0 d0 : Addr) (oc0 od0 : Obj)
  (ha1 : 1 ≤ a) (ha : Sm 2000 a) (hb : 1 ≤ b) (hn1 : 1 ≤ Builtin.Int.intBits (b : Int)) (hn : Builtin.Int.intBits (b : Int) ≤ 900) (hb9 : Sm 900 b)
  (hk : (((Builtin.Int.intBits (a : Int) : Nat) : Int) + ((Builtin.Int.intBits (b : Int) : Nat) : Int) - 1).fdiv ((Builtin.Int.intBits (b : Int) : Nat) : Int) = (kk : Int)) (hk1 : 1 ≤ kk) (hkk : kk ≤ 30)
  (hd : ∀ y ∈ digF a (Builtin.Int.intBits (b : Int)) kk, y < 2 ^ Builtin.Int.intBits (b : Int)) (hq : ∀ y ∈ (divS a b (Builtin.Int.intBits (b : Int)) kk).2, y < 2 ^ Builtin.Int.intBits (b : Int)) (hnk : Builtin.Int.intBits (b : Int) * kk ≤ 4000)
  (hst : TabSt I2q 47 33 4 ps c0 oc0) (hst2 : TabSt D2q 54 48 4 qs d0 od0) (hm1 : (47, tabObj ps) ∈ news) (hm2 : (c0, oc0) ∈ news) (hm3 : (54, tabObj qs) ∈ news) (hm4 : (d0, od0) ∈ news)
  (hC : CodeHd h₀ 51 47) (hC2 : CodeHd h₀ 58 54)
  (hret : ∀ T t t' c' oc' d' od' h' tk', CodeOk I2q oc' → c' ≠ 47 → CodeOk D2q od' → d' ≠ 54 → Fr h₀ L h' m →
    (∀ rest, (∀ q ∈ rest, q ∈ news ∧ q.1 ≠ 47 ∧ q.1 ≠ c0 ∧ q.1 ≠ 54 ∧ q.1 ≠ d0) → News h₀ L h' ((T, { cls := .type "tuple", data := .seq #[.int ((divQ a b (Builtin.Int.intBits (b : Int)) kk : Nat) : Int) t, .int ((divR a b (Builtin.Int.intBits (b : Int)) kk : Nat) : Int) t'] }) ::
      (47, tabObj (#[] ++ #[rawInt ((33 : Nat) : Int), rawInt ((4 : Nat) : Int), .ref c'])) :: (c', oc') :: (54, tabObj (#[] ++ #[rawInt ((48 : Nat) : Int), rawInt ((4 : Nat) : Int), .ref d'])) :: (d', od') :: rest)) → Q (.ref T) {s with heap := h', toks := tk'}) :
  wpAny (model PySem.Challenge.rw_sn0034_01.row.prog w) (ktrTop dp un gd cn cs L ad ccd cl outer) (call (.ref 66) [.int (a : Int) t1, .int (b : Int) t2]) Q E s := by
  have hh : ∀ q ∈ [(47, tabObj ps), (c0, oc0), (54, tabObj qs), (d0, od0)], q ∈ news := fun q h => by
    simp only [List.mem_cons, List.not_mem_nil, or_false] at h
    rcases h with rfl | rfl | rfl | rfl
    · exact hm1
    · exact hm2
    · exact hm3
    · exact hm4
  obtain ⟨n1, n2, n3⟩ := st_ne C.N hst hst2 q_ne (by decide) hm1 hm2 hm3 hm4
  refine wpAny_call ?_
  walk_at "my enterH"
  rename ∀ b o, s.heap.get? b = some o → b ∉ _ → _ => hgs
  have hbase : ∀ b o, h₀.get? b = some o → _ := fun b o e => hgs b o (C.F.keep b o e) fun q => by
    obtain ⟨r, hr, rfl⟩ := List.mem_map.mp q
    rw [(C.N r (hh r hr)).2.2] at e; cases e
  have hC := CodeHd.keeps hC hbase
  have hC2 := CodeHd.keeps hC2 hbase
  clear hbase hgs
  k_steps
  rename Fr _ _ _ _ => F1
  rename News _ _ _ _ => N1
  refine' int2_ok ⟨?k1, F1, ?k3, N1, ?k5, ?k6⟩ ?k7 ?k8 a (Builtin.Int.intBits (b : Int)) kk _ _ ps c0 oc0 hn1 hn ha hk hkk (.inr hk1) hst ?m1 ?m2 hC ?_
  case k1 => k_asm
  case k3 => k_asm
  case k5 => k_asm
  case k6 => rfl
  case k7 => ktr_room
  case k8 => ktr_units
  case m1 => k_mem
  case m2 => k_mem
  clear F1 N1
  intro D vs' c' oc' h' tk' hi hco hc47 hD47 hDc F2 N2
  replace N2 := N2 [(54, tabObj qs), (d0, od0)] (by
    intro q hq
    simp only [List.mem_cons, List.not_mem_nil, or_false] at hq
    rcases hq with rfl | rfl
    · exact ⟨.tail _ (.tail _ (.head _)), (by show (54 : Nat) ≠ 47; decide), fun e => n2 e.symm⟩
    · exact ⟨.tail _ (.tail _ (.tail _ (.head _))), n1, fun e => n3 e.symm⟩)
  rw [if_neg (by omega)] at hi
  k_steps

  rename Fr _ _ _ _ => F3
  rename News _ _ _ _ => N3
  obtain ⟨g', L', I, D2, rfl, rfl, rfl, rfl, N4⟩ := names8 N3
  clear N3
  refine div_loop (b := b) (n := Builtin.Int.intBits (b : Int)) rfl F3 N4 (by k_offL) hi rfl hb ?turn ?done
  case turn =>
    clear F3 N4
    intro k y ty r qd tr u ws wn it h₅ tk₅ hy hfold hrb hws hql hkl hit F5 N5
    have hyd : y < 2 ^ Builtin.Int.intBits (b : Int) := hd y (List.mem_reverse.mp (List.mem_of_getElem? hy))
    have hsx := sm_step hrb hb9 hn hyd
    have hsr : Sm 4000 r := ⟨Nat.lt_trans hrb (hb9.le (by decide)).lt⟩
    clear hyd hd hq
    rw [innF_len, List.length_replicate] at hkl
    k_steps
    rename Fr _ _ _ _ => F6
    rename News _ _ _ _ => N6
    refine' divN_ok ⟨?k1, F6, ?k3, N6, ?k5, ?k6⟩ ?k7 ?k8 _ _ _ _ _ _ hb hb9 hsx ?_
    case k1 => k_asm
    case k3 => k_asm
    case k5 => k_asm
    case k6 => rfl
    case k7 => ktr_room
    case k8 => ktr_units
    clear F6 N6
    intro D' t' u' h' tk' F6 N6
    k_steps
    rename Fr _ _ _ _ => F7
    rename News _ _ _ _ => N7
    have N8 : News _ _ _ ((I, it) :: (D2, W.listOf ws.toArray wn) :: _) := fun p hp => N7 p (.tail _ hp)
    clear N7
    refine app_nat F7 N8 (by k_upd) hws (by omega) ?_
    intro h9 ws' n' hws' e1 e2 F9 N9
    try dsimp only [List.nil_append, List.cons_append] at N9
    subst e1 e2
    clear F7 N8
    k_steps
    exact div_next hy hfold hb hws' hql rfl (fun z q1 q2 q3 => by simp only [if_neg q1, if_neg q2, if_neg q3])
  case done =>
    clear F3 N4
    intro r qd tr u ws wn h₅ tk₅ hfold hws hql F5 N5
    rw [innF_len, List.length_replicate] at hql
    have hql2 : qd.reverse.length ≤ 30 := by rw [List.length_reverse]; omega
    k_steps
    rename Fr _ _ _ _ => F6
    rename News _ _ _ _ => N6
    rename IntsAre _ (zs qd.reverse) => hqi
    have hqe : (divS a b (Builtin.Int.intBits (b : Int)) kk) = (r, qd) := hfold
    rw [hqe] at hq
    refine' dig2_ok ⟨?k1, F6, ?k3, N6, ?k5, ?k6⟩ ?k7 ?k8 D2 (Builtin.Int.intBits (b : Int)) _ qs d0 od0 _ qd.reverse hn1 hn (fun y hy => hq y (List.mem_reverse.mp hy)) (News.isList N6 (.head _)) hqi ?k9 hql2 ?k10 hst2 ?m1 ?m2 hC2 ?k11 ?k12 ?_
    case k1 => k_asm
    case k3 => k_asm
    case k5 => k_asm
    case k6 => rfl
    case k7 => ktr_room
    case k8 => ktr_units
    case k9 => rw [List.length_reverse]; omega
    case k10 => rw [List.length_reverse, hql]; exact hnk
    case m1 => k_mem
    case m2 => k_mem
    case k11 => k_ne
    case k12 => k_ne
    intro t' d' od' h' tk' hdo hd54 F7 N7
    replace N7 := N7 [(47, tabObj (#[] ++ #[rawInt ((33 : Nat) : Int), rawInt ((4 : Nat) : Int), .ref c'])), (c', oc')] (by
      intro q hq
      simp only [List.mem_cons, List.not_mem_nil, or_false] at hq
      rcases hq with rfl | rfl
      · exact ⟨.tail _ (.tail _ (.head _)), (by show (47 : Nat) ≠ 54; decide), fun e => n1 e.symm⟩
      · refine ⟨.tail _ (.tail _ (.tail _ (.head _))), ne_of_obj N6 (.tail _ (.tail _ (.tail _ (.head _)))) (.tail _ (.tail _ (.tail _ (.tail _ (.head _))))) (code_ne_tab hco hst2.form), ?_⟩
        rcases hst2 with ⟨_, rfl, _⟩ | ⟨_, k', _⟩
        · exact ne_of_obj N6 (.tail _ (.tail _ (.tail _ (.head _)))) (.tail _ (.tail _ (.tail _ (.tail _ (.head _))))) (code_ne_tab hco (.inl (by assumption)))
        · exact ne_of_obj N6 (.tail _ (.tail _ (.tail _ (.head _)))) (.tail _ (.tail _ (.tail _ (.tail _ (.tail _ (.head _)))))) (code_ne_code hco k' q_ne))
    clear F6 N6
    k_steps
    rename Fr _ _ _ _ => F8
    rename News _ _ _ _ => N8
    rename OwnH _ _ _ _ _ _ => O9
    have bk := div_end O9 F8 N8
    have e1 : outF (Builtin.Int.intBits (b : Int)) qd.reverse 30 0 qd.reverse.length = divQ a b (Builtin.Int.intBits (b : Int)) kk := by unfold divQ; rw [hqe]
    have e2 : r = divR a b (Builtin.Int.intBits (b : Int)) kk := by unfold divR; rw [hqe]
    rw [e1, e2] at bk
    show Q (Value.ref _) _
    exact hret _ _ _ c' oc' d' od' _ _ hco hc47 hdo hd54 bk.1 bk.2
end Mine
end Part_P45
section Part_P46
namespace Mine

theorem rules_P46 : True := by
  k_with_none
  k_with "my enter" => (refine' enter_ ?kC ?kA ?k6 ?k7 ?k8 ?k9 ?kB ?_ ?c2 ?c3 ?c4 ?c5 ?c6; (case kC => assumption); (case kA => exact rfl); (case k6 => k_is); (case k7 => k_is); (case k8 => ktr_room); (case k9 => exact BindsTo.of_eq rfl); (case c5 => decide); (case c6 => exact rfl); (case kB => exact locs rfl); (case c2 => exact rfl); (case c3 => exact rfl); (case c4 => exact rfl); k_whole; intro g'k L'k h'k tk'k hg'k htk'k F'k N'k B'k X'k T'k; (have OW'k := own_of (by assumption) hg'k); (try dsimp only); (try k_lift B'k); (try k_fold))
  k_with "my enterH" => (refine' enterH_ _ ?hh ?kC ?kA ?k6 ?k7 ?k8 ?k9 ?kB ?_ ?c2 ?c3 ?c4 ?c5 ?c6; (case kC => assumption); (case hh => assumption); (case kA => exact rfl); (case k6 => k_is); (case k7 => k_is); (case k8 => ktr_room); (case k9 => exact BindsTo.of_eq rfl); (case c5 => decide); (case c6 => exact rfl); (case kB => exact locs rfl); (case c2 => exact rfl); (case c3 => exact rfl); (case c4 => exact rfl); k_whole; intro g'k L'k h'k tk'k OW'k hg'k htk'k F'k N'k B'k X'k T'k; (try dsimp only); (try k_lift B'k); (try k_fold))
  k_with "call ref" => (k_here; refine stop_ ?_)
  trivial
variable {w : World} {mean : ExcName → Option Value} {mg mb : Str → Option Value} {dp un : Nat} {gd : Option (List Code)} {cn : Str} {cs : Scope} {ad : Addr} {ccd : Value} {cl : List (Str × Addr)} {outer : List Env} {A₀ : Around} {base h₀ : Heap} {L : Addr} {m : Str → Option Value} {s : Shared} {Q E : Value → Shared → Prop} {news : List (Addr × Obj)}
set_option maxRecDepth 100000 in
set_option maxHeartbeats 8000000 in
theorem intdiv_ok (C : Cx w mean mg mb cs outer A₀ base h₀ L m s news) (hdp : dp + 70 < recursionLimit) (hun : un + 30 < cLine) (a b kk : Nat) (t1 t2 : Tok) (ps qs : Array Value) (c0 d0 : Addr) (oc0 od0 : Obj)
  (ha1 : 1 ≤ a) (ha : Sm 2000 a) (hb : 1 ≤ b) (hn1 : 1 ≤ Builtin.Int.intBits (b : Int)) (hn : Builtin.Int.intBits (b : Int) ≤ 900) (hb9 : Sm 900 b)
  (hk : (((Builtin.Int.intBits (a : Int) : Nat) : Int) + ((Builtin.Int.intBits (b : Int) : Nat) : Int) - 1).fdiv ((Builtin.Int.intBits (b : Int) : Nat) : Int) = (kk : Int)) (hk1 : 1 ≤ kk) (hkk : kk ≤ 30)
  (hd : ∀ y ∈ digF a (Builtin.Int.intBits (b : Int)) kk, y < 2 ^ Builtin.Int.intBits (b : Int)) (hq : ∀ y ∈ (divS a b (Builtin.Int.intBits (b : Int)) kk).2, y < 2 ^ Builtin.Int.intBits (b : Int)) (hnk : Builtin.Int.intBits (b : Int) * kk ≤ 4000)
  (hst : TabSt I2q 47 33 4 ps c0 oc0) (hst2 : TabSt D2q 54 48 4 qs d0 od0) (hm1 : (47, tabObj ps) ∈ news) (hm2 : (c0, oc0) ∈ news) (hm3 : (54, tabObj qs) ∈ news) (hm4 : (d0, od0) ∈ news)
  (hC : CodeHd h₀ 51 47) (hC2 : CodeHd h₀ 58 54)
  (hret : ∀ T t t' c' oc' d' od' h' tk', CodeOk I2q oc' → c' ≠ 47 → CodeOk D2q od' → d' ≠ 54 → Fr h₀ L h' m →
    (∀ rest, (∀ q ∈ rest, q ∈ news ∧ q.1 ≠ 47 ∧ q.1 ≠ c0 ∧ q.1 ≠ 54 ∧ q.1 ≠ d0) → News h₀ L h' ((T, { cls := .type "tuple", data := .seq #[.int ((divQ a b (Builtin.Int.intBits (b : Int)) kk : Nat) : Int) t, .int ((divR a b (Builtin.Int.intBits (b : Int)) kk : Nat) : Int) t'] }) ::
      (47, tabObj (#[] ++ #[rawInt ((33 : Nat) : Int), rawInt ((4 : Nat) : Int), .ref c'])) :: (c', oc') :: (54, tabObj (#[] ++ #[rawInt ((48 : Nat) : Int), rawInt ((4 : Nat) : Int), .ref d'])) :: (d', od') :: rest)) → Q (.ref T) {s with heap := h', toks := tk'}) :
  wpAny (model PySem.Challenge.rw_sn0034_01.row.prog w) (ktrTop dp un gd cn cs L ad ccd cl outer) (call (.ref 73) [.int (a : Int) t1, .int (b : Int) t2]) Q E s := by
  have hh : ∀ q ∈ [(47, tabObj ps), (c0, oc0), (54, tabObj qs), (d0, od0)], q ∈ news := fun q h => by
    simp only [List.mem_cons, List.not_mem_nil, or_false] at h
    rcases h with rfl | rfl | rfl | rfl
    · exact hm1
    · exact hm2
    · exact hm3
    · exact hm4
  obtain ⟨n1, n2, n3⟩ := st_ne C.N hst hst2 q_ne (by decide) hm1 hm2 hm3 hm4
  refine wpAny_call ?_
  walk_at "my enterH"
  rename ∀ b o, s.heap.get? b = some o → b ∉ _ → _ => hgs
  have hbase : ∀ b o, h₀.get? b = some o → _ := fun b o e => hgs b o (C.F.keep b o e) fun q => by
    obtain ⟨r, hr, rfl⟩ := List.mem_map.mp q
    rw [(C.N r (hh r hr)).2.2] at e; cases e
  have hC := CodeHd.keeps hC hbase
  have hC2 := CodeHd.keeps hC2 hbase
  clear hbase hgs
  k_steps
  all_goals try (exfalso; omega)
  rename Fr _ _ _ _ => F1
  rename News _ _ _ _ => N1
  refine' divpos_ok ⟨?k1, ?k2, ?k3, ?k4, ?k5, ?k6⟩ ?k7 ?k8 a b kk _ _ ps qs c0 d0 oc0 od0 ha1 ha hb hn1 hn hb9 hk hk1 hkk hd hq hnk hst hst2 ?m1 ?m2 ?m3 ?m4 hC hC2 ?_
  case k1 => k_asm
  case k2 => exact F1
  case k4 => exact N1
  case k3 => k_asm
  case k5 => k_asm
  case k6 => rfl
  case k7 => ktr_room
  case k8 => ktr_units
  case m1 => k_mem
  case m2 => k_mem
  case m3 => k_mem
  case m4 => k_mem
  intro T t' u' c' oc' d' od' h' tk' hco hc47 hdo hd54 F2 N2
  replace N2 := N2 [] (fun q hq => nomatch hq)
  have N3 : News _ _ _ [(T, _), (54, _), (d', od'), (47, _), (c', oc')] := fun q hq => N2 q (by
    rcases List.mem_cons.mp hq with rfl | hq
    · exact .head _
    rcases List.mem_cons.mp hq with rfl | hq
    · exact .tail _ (.tail _ (.tail _ (.head _)))
    rcases List.mem_cons.mp hq with rfl | hq
    · exact .tail _ (.tail _ (.tail _ (.tail _ (.head _))))
    rcases List.mem_cons.mp hq with rfl | hq
    · exact .tail _ (.head _)
    rcases List.mem_cons.mp hq with rfl | hq
    · exact .tail _ (.tail _ (.head _))
    · nomatch hq)
  clear F1 N1 N2
  k_steps
  rename OwnH _ _ _ _ _ _ => O9
  have bk := div_end O9 F2 N3
  show Q (Value.ref _) _
  exact hret _ _ _ c' oc' d' od' _ _ hco hc47 hdo hd54 bk.1 bk.2
end Mine
end Part_P46
section Part_P47
set_option maxRecDepth 100000
namespace Mine
theorem news_upd {h₀ h' : Heap} {L D : Addr} {o o' : Obj} {rest : List (Addr × Obj)} (hne : ∀ p ∈ rest, p.1 ≠ D) (N9 : ∀ rest', (∀ p ∈ rest', p ∈ (D, o) :: rest ∧ p.1 ≠ D) → News h₀ L h' ((D, o') :: rest')) : News h₀ L h' ((D, o') :: rest) :=
  N9 rest fun p hp => ⟨.tail _ hp, hne p hp⟩
theorem news_tail {h₀ h : Heap} {L : Addr} {q : Addr × Obj} {r : List (Addr × Obj)} (N : News h₀ L h (q :: r)) : News h₀ L h r := fun p hp => N p (.tail _ hp)
theorem news_drop2 {h₀ h : Heap} {L : Addr} {q a b : Addr × Obj} {r : List (Addr × Obj)} (N : News h₀ L h (q :: a :: b :: r)) : News h₀ L h (q :: r) := fun p hp => N p (by
  rcases List.mem_cons.mp hp with rfl | hp
  · exact .head _
  · exact .tail _ (.tail _ (.tail _ hp)))
theorem cell_ne {h₀ h : Heap} {L D c : Addr} {o1 o : Obj} {v : Option Value} {a : Array Value} {n : Nat} {news : List (Addr × Obj)} (N : News h₀ L h news) (h1 : (D, o1) ∈ news) (h2 : (c, o) ∈ news) (hd : o.data = .cell v) (hs : o1.data = .seq a n) : Apart D c :=
  Nat.lt_or_gt_of_ne (ne_of_obj N h1 h2 (fun e => by rw [e, hd] at hs; cases hs))
theorem box_mem : ∀ b ∈ boxF, b ∈ boxes ∧ 1 ≤ b.1 ∧ b.1 ≤ 3 ∧ 1 ≤ b.2.1 ∧ b.2.1 ≤ 3 ∧ 1 ≤ b.2.2 ∧ b.2.2 ≤ 4 ∧ b.1 * b.2.1 ≤ 6 ∧ 1 ≤ b.1 * b.2.1 ∧ b.1 * b.2.1 * b.2.2 ≤ 9 ∧ 1 ≤ b.1 * b.2.1 * b.2.2 ∧ (b.1 * b.2.1, b.2.2) ∈ sizes := by decide
end Mine
end Part_P47
section Part_P48
set_option maxRecDepth 100000
namespace Mine
def resF (b : Nat × Nat × Nat) (r : Nat) (rev nw : Bool) : Option (List Pile) := run b.2.1 b.2.2 (orderF (b.1 * b.2.1) r rev) nw 30 ([List.replicate (b.1 * b.2.1) 0], [List.replicate (b.1 * b.2.1) 0])
def desc (k m : Nat) : List Nat := (List.range m).map fun n => k - 1 - n
def negs (c cubes : Nat) (res : List Pile) : Nat := (res.filter fun p => ownF (zs p) c (zs (desc cubes cubes))).length
def countsOf (cubes : Nat) (res : List Pile) : List Nat := (List.range (cubes + 1)).map fun k => (res.map List.sum).count k
def sumUp (b : Nat × Nat × Nat) (res : List Pile) : Nat × Nat × List Nat := (res.length, negs b.2.2 (b.1 * b.2.1 * b.2.2) res, countsOf (b.1 * b.2.1 * b.2.2) res)
def canon (b : Nat × Nat × Nat) : Nat × Nat × List Nat := match resF b 0 false false with | some res => sumUp b res | none => (0, 0, [])
def okRes (b : Nat × Nat × Nat) (r : Nat) (rev nw : Bool) : Bool := match resF b r rev nw with
  | none => false
  | some res => decide (1 ≤ res.length) && decide (res.length ≤ 20) && res.all (fun p => decide (p.length = b.1 * b.2.1) && p.all fun h => decide (h ≤ b.2.2)) && sumUp b res == canon b
def okBox (b : Nat × Nat × Nat) : Bool := (List.range (b.1 * b.2.1)).all fun r => okRes b r false false && okRes b r false true && okRes b r true false && okRes b r true true
def bitsF (x : Nat) : Nat := Builtin.Int.intBits (x : Int)
def kkF (a n : Nat) : Nat := (bitsF a + n - 1) / n
def okDiv (a b : Nat) : Bool := decide (1 ≤ a) && decide (bitsF a ≤ 2000) && decide (1 ≤ b) && decide (1 ≤ bitsF b) && decide (bitsF b ≤ 900) && decide (1 ≤ kkF a (bitsF b)) && decide (kkF a (bitsF b) ≤ 30) &&
  (digF a (bitsF b) (kkF a (bitsF b))).all (fun y => decide (y < 2 ^ bitsF b)) && (divS a b (bitsF b) (kkF a (bitsF b))).2.all (fun y => decide (y < 2 ^ bitsF b)) && decide (bitsF b * kkF a (bitsF b) ≤ 4000)
def quoF (a b : Nat) : Nat := divQ a b (bitsF b) (kkF a (bitsF b))
def remF (a b : Nat) : Nat := divR a b (bitsF b) (kkF a (bitsF b))
def topIn (c w i : Nat) (n : Nat) (t : Nat × Nat) : Nat × Nat := (List.range n).foldl (fun t j => (t.1 * ((1 <<< (w * (i + j + c + 1))) - 1), t.2 * ((1 <<< (w * (i + j + 1))) - 1))) t
def topF (a b c w : Nat) : Nat × Nat := (List.range a).foldl (fun t i => topIn c w i b t) (1, 1)
def okNum (b : Nat × Nat × Nat) (w : Nat) : Bool :=
  let t := topF b.1 b.2.1 b.2.2 w
  let q := quoF t.1 t.2
  okDiv t.1 t.2 && remF t.1 t.2 == 0 && okDiv q (1 <<< w - 1) && okDiv q (1 <<< w + 1) && decide (1 ≤ kkF q w) && decide (kkF q w ≤ 30) && digF q w (kkF q w) == (canon b).2.2 && remF q (1 <<< w - 1) == (canon b).1 && remF q (1 <<< w + 1) == (canon b).2.1
def okBoxAll (b : Nat × Nat × Nat) : Bool := okBox b && okNum b 5 && okNum b 6 && okNum b 7 && okNum b 8
set_option maxHeartbeats 8000000
theorem okb_0 : okBoxAll (2, 2, 1) = true := by decide +kernel
theorem okb_1 : okBoxAll (1, 2, 2) = true := by decide +kernel
theorem okb_2 : okBoxAll (2, 1, 4) = true := by decide +kernel
theorem okb_3 : okBoxAll (2, 2, 2) = true := by decide +kernel
theorem okb_4 : okBoxAll (1, 3, 3) = true := by decide +kernel
theorem okb_5 : okBoxAll (3, 2, 1) = true := by decide +kernel
theorem okb_6 : okBoxAll (3, 1, 2) = true := by decide +kernel
theorem okb_7 : okBoxAll (1, 2, 3) = true := by decide +kernel
theorem okb_8 : okBoxAll (2, 3, 1) = true := by decide +kernel
theorem okb_9 : okBoxAll (1, 1, 4) = true := by decide +kernel
theorem okb_10 : okBoxAll (3, 1, 3) = true := by decide +kernel
theorem okb_11 : okBoxAll (1, 3, 2) = true := by decide +kernel
theorem ok_mem {b : Nat × Nat × Nat} (h : b ∈ boxes) : okBoxAll b = true := by
  simp only [boxes, List.mem_cons, List.not_mem_nil, or_false] at h
  rcases h with rfl | rfl | rfl | rfl | rfl | rfl | rfl | rfl | rfl | rfl | rfl | rfl
  · exact okb_0
  · exact okb_1
  · exact okb_2
  · exact okb_3
  · exact okb_4
  · exact okb_5
  · exact okb_6
  · exact okb_7
  · exact okb_8
  · exact okb_9
  · exact okb_10
  · exact okb_11
end Mine
end Part_P48
section Part_P49
set_option maxRecDepth 100000
namespace Mine
theorem res_of {b : Nat × Nat × Nat} (h : b ∈ boxes) {r : Nat} (hr : r < b.1 * b.2.1) (rev nw : Bool) : ∃ res, run b.2.1 b.2.2 (orderF (b.1 * b.2.1) r rev) nw 30 ([List.replicate (b.1 * b.2.1) 0], [List.replicate (b.1 * b.2.1) 0]) = some res ∧
    1 ≤ res.length ∧ res.length ≤ 20 ∧ (∀ p ∈ res, p.length = b.1 * b.2.1 ∧ ∀ x ∈ p, x ≤ b.2.2) ∧ sumUp b res = canon b := by
  have hk := ok_mem h
  unfold okBoxAll okBox at hk
  simp only [Bool.and_eq_true, List.all_eq_true] at hk
  have hq := hk.1.1.1.1 r (List.mem_range.mpr hr)
  have hR : okRes b r rev nw = true := by
    cases rev <;> cases nw
    · exact hq.1.1.1
    · exact hq.1.1.2
    · exact hq.1.2
    · exact hq.2
  unfold okRes at hR
  cases e : resF b r rev nw with
  | none => rw [e] at hR; cases hR
  | some res =>
    rw [e] at hR
    simp only [Bool.and_eq_true, List.all_eq_true, decide_eq_true_eq, beq_iff_eq] at hR
    exact ⟨res, e, hR.1.1.1, hR.1.1.2, hR.1.2, hR.2⟩
theorem num_of {b : Nat × Nat × Nat} (h : b ∈ boxes) {w : Nat} (h5 : 5 ≤ w) (h8 : w ≤ 8) : okNum b w = true := by
  have hk := ok_mem h
  unfold okBoxAll at hk
  simp only [Bool.and_eq_true] at hk
  have : w = 5 ∨ w = 6 ∨ w = 7 ∨ w = 8 := by omega
  rcases this with rfl | rfl | rfl | rfl
  · exact hk.1.1.1.2
  · exact hk.1.1.2
  · exact hk.1.2
  · exact hk.2
theorem order_mem {n r : Nat} {rev : Bool} : ∀ k ∈ orderF n r rev, k < n := by
  intro k hk
  unfold orderF at hk
  cases rev with
  | true =>
    simp only [if_true, List.mem_reverse, List.mem_append] at hk
    rcases hk with hk | hk
    · exact List.mem_range.mp (List.mem_of_mem_drop hk)
    · exact List.mem_range.mp (List.mem_of_mem_take hk)
  | false =>
    simp only [Bool.false_eq_true, if_false, List.mem_append] at hk
    rcases hk with hk | hk
    · exact List.mem_range.mp (List.mem_of_mem_drop hk)
    · exact List.mem_range.mp (List.mem_of_mem_take hk)
theorem order_len {n r : Nat} {rev : Bool} (h : r ≤ n) : (orderF n r rev).length = n := by
  unfold orderF
  cases rev
  · simp; omega
  · simp; omega
structure DivOk (a b : Nat) : Prop where
  a1 : 1 ≤ a
  a2 : Sm 2000 a
  b1 : 1 ≤ b
  n1 : 1 ≤ Builtin.Int.intBits (b : Int)
  n9 : Builtin.Int.intBits (b : Int) ≤ 900
  b9 : Sm 900 b
  kk : (((Builtin.Int.intBits (a : Int) : Nat) : Int) + ((Builtin.Int.intBits (b : Int) : Nat) : Int) - 1).fdiv ((Builtin.Int.intBits (b : Int) : Nat) : Int) = (kkF a (bitsF b) : Int)
  k1 : 1 ≤ kkF a (bitsF b)
  k30 : kkF a (bitsF b) ≤ 30
  d : ∀ y ∈ digF a (Builtin.Int.intBits (b : Int)) (kkF a (bitsF b)), y < 2 ^ Builtin.Int.intBits (b : Int)
  q : ∀ y ∈ (divS a b (Builtin.Int.intBits (b : Int)) (kkF a (bitsF b))).2, y < 2 ^ Builtin.Int.intBits (b : Int)
  nk : Builtin.Int.intBits (b : Int) * kkF a (bitsF b) ≤ 4000
theorem kk_cast {x n : Nat} (hn : 1 ≤ n) : (((x : Nat) : Int) + (n : Int) - 1).fdiv (n : Int) = (((x + n - 1) / n : Nat) : Int) := by
  have e : ((x : Nat) : Int) + (n : Int) - 1 = ((x + n - 1 : Nat) : Int) := by omega
  rw [e, Int.fdiv_eq_ediv_of_nonneg _ (by omega)]
  rfl
theorem div_of {a b : Nat} (h : okDiv a b = true) : DivOk a b := by
  unfold okDiv at h
  simp only [Bool.and_eq_true, List.all_eq_true, decide_eq_true_eq] at h
  obtain ⟨⟨⟨⟨⟨⟨⟨⟨⟨h1, h2⟩, h3⟩, h4⟩, h5⟩, h6⟩, h7⟩, h8⟩, h9⟩, h10⟩ := h
  exact ⟨h1, ⟨intBits_le_iff.mp h2⟩, h3, h4, h5, ⟨intBits_le_iff.mp h5⟩, kk_cast h4, h6, h7, h8, h9, h10⟩
structure NumOk (b : Nat × Nat × Nat) (w : Nat) (t bo q : Nat) : Prop where
  top : topF b.1 b.2.1 b.2.2 w = (t, bo)
  qq : quoF t bo = q
  d1 : DivOk t bo
  r0 : remF t bo = 0
  d2 : DivOk q (1 <<< w - 1)
  d3 : DivOk q (1 <<< w + 1)
  k1 : 1 ≤ kkF q w
  k30 : kkF q w ≤ 30
  dig : digF q w (kkF q w) = (canon b).2.2
  m : remF q (1 <<< w - 1) = (canon b).1
  n : remF q (1 <<< w + 1) = (canon b).2.1
theorem numOk_of {b : Nat × Nat × Nat} (h : b ∈ boxes) {w : Nat} (h5 : 5 ≤ w) (h8 : w ≤ 8) : ∃ t bo q, NumOk b w t bo q := by
  have hk := num_of h h5 h8
  unfold okNum at hk
  simp only [Bool.and_eq_true, decide_eq_true_eq, beq_iff_eq] at hk
  obtain ⟨⟨⟨⟨⟨⟨⟨⟨h1, h2⟩, h3⟩, h4⟩, h5'⟩, h6⟩, h7⟩, h8'⟩, h9⟩ := hk
  exact ⟨_, _, _, rfl, rfl, div_of h1, h2, div_of h3, div_of h4, h5', h6, h7, h8', h9⟩
theorem across_of {a b c : Nat} (h : (a, b, c) ∈ boxes) {i j k : Nat} (hi : i < a) (hj : j < b) (hk : k < c) : negOk i j k a b c = true ∧ negF i j k a b c = ((a * b * c - 1 - ((i * b + j) * c + k) : Nat) : Int) := by
  have h1 := List.all_eq_true.mp across_all _ h
  unfold acrossOk at h1
  simp only [List.all_eq_true, Bool.and_eq_true, beq_iff_eq] at h1
  exact h1 i (List.mem_range.mpr hi) j (List.mem_range.mpr hj) k (List.mem_range.mpr hk)
end Mine
end Part_P49
section Part_P34
set_option maxRecDepth 100000
namespace Mine
section
variable {α : Type} {prog : Program} {w : World} {A : Around} {E : Value → Shared → Prop} {s : Shared} {env : Env} {h₀ : Heap} {L : Addr} {m : Str → Option Value} {elt iter : Expr} {x : Str} {px pos : Pos} {g : Comprehension} {gs : List Comprehension} {scope : Scope} {cl : List (Str × Addr)} {n : Nat} {nw : List (Addr × Obj)} {Q : Value → Shared → Prop}
theorem ListComp_NR' (_F₀ : Fr h₀ L s.heap m) (_N₀ : News h₀ L s.heap nw) (rest : Value → Env → Sem α) (J : Nat → List Value → (Str → Option Value) → Prop)
    (hrest : ∀ it acc cenv, compTurn (.ListComp elt (⟨.Name x px, iter, [], 0⟩ :: gs) scope pos) 0 it acc cenv = (standAt iter.pos >>= fun _ => pyNext it >>= fun r => match r with
      | none => pure (.done .next)
      | some v => letOwnedTupleGo (.Name x px) it v >>= fun _ => assign (.Name x px) cenv v >>= fun _ => rest acc cenv >>= fun _ => again (.compLoop (.ListComp elt (⟨.Name x px, iter, [], 0⟩ :: gs) scope pos) 0 it acc cenv)))
    (hu : ∀ it acc C, A.under (.compLoop (.ListComp elt (⟨.Name x px, iter, [], 0⟩ :: gs) scope pos) 0 it acc (compEnvC scope cl C env)) = A) (hh : A.handled = none)
    (hclos : closureFor scope env = pure cl) (hcell : ∀ y ∈ scope.names, y.2 ≠ .cell) (hkind : scope.kind = .function)
    (hnames : ∀ y ∈ scope.names, y.2 = .local → scope.names.lookup y.1 = some .local) (hx : scope.names.lookup x = some .local)
    (hs : ∀ x, foldedSetIterable iter env x = pure x)
    (src : wpAny (model prog w) A (eval iter env) (fun xv s₁ => Stop (∃ r b t u v h1 tk1, xv = .ref r ∧ s₁ = { s with heap := h1, toks := tk1 } ∧ Fr h₀ L h1 m ∧ News h₀ L h1 nw ∧ IsRange h1 r 0 b 1 t u v ∧ b = (n : Int))) E s)
    (hn : n ≤ 64) (hJ : J 0 [] (fun _ => none))
    (body : ∀ I C D i v oI oC m₂ h tk (E' : Value → Shared → Prop) ys, C ≠ L → I ≠ C → I ≠ D → C ≠ D → i < n → J i ys m₂ → (∃ t, v = Value.int (i : Int) t) → LCg.NsObj oC (fun z => if z = x then some v else m₂ z) → Fr h₀ L h m → News h₀ L h ((I, oI) :: (C, oC) :: (D, LCg.lst ys) :: nw) → LCg.Off3 I C D nw →
      wpAny (model prog w) A (rest (.ref D) (compEnvC scope cl C env)) (fun _ s' => ClauseEnd h₀ L m { s with heap := h, toks := tk } I oI C D (fun _ => True) (fun ys' nw' m' => nw' = nw ∧ J (i + 1) ys' m') s') E' { s with heap := h, toks := tk })
    (fin : ∀ D h tk ys m', Fr h₀ L h m → News h₀ L h ((D, LCg.lst ys) :: nw) → LCg.Off1 D nw → J n ys m' → Q (.ref D) { s with heap := h, toks := tk }) :
    wpAny (model prog w) A (eval (.ListComp elt (⟨.Name x px, iter, [], 0⟩ :: gs) scope pos) env) Q E s :=
  ListComp_NR rest J hrest hu hh hclos hcell hkind hnames hx hs src hn hJ body fin
end
theorem desc_snoc (k m : Nat) : desc k (m + 1) = desc k m ++ [k - 1 - m] := by
  unfold desc
  rw [List.range_succ, List.map_append]
  rfl
theorem zs_snoc {ys : List Value} {xs : List Nat} {x : Nat} {t : Tok} (h : IntsAre ys (zs xs)) : IntsAre (ys ++ [.int (x : Int) t]) (zs (xs ++ [x])) := by
  show IntsAre _ (List.map _ _)
  rw [List.map_append]
  exact ints_app h (.cons _ _ .nil)
theorem desc_ints {ys : List Value} {k m : Nat} {x : Nat} {t : Tok} (h : IntsAre ys (zs (desc k m))) (hx : x = k - 1 - m) : IntsAre (ys ++ [.int (x : Int) t]) (zs (desc k (m + 1))) := by
  rw [desc_snoc, ← hx]
  exact zs_snoc h
theorem desc_len (k m : Nat) : (desc k m).length = m := by simp [desc]
theorem next_i (i B C : Nat) : (i * B + B) * C = (i + 1) * B * C := by rw [Nat.add_mul i 1 B, Nat.one_mul]
theorem next_j (i B j C : Nat) : (i * B + j) * C + C = (i * B + (j + 1)) * C := by rw [← Nat.add_assoc, Nat.add_mul (i * B + j) 1 C, Nat.one_mul]
end Mine
end Part_P34
section Part_P35
set_option maxRecDepth 100000
namespace Mine
theorem desc_int {ys : List Value} {k m : Nat} {x : Int} {t : Tok} (h : IntsAre ys (zs (desc k m))) (hx : x = ((k - 1 - m : Nat) : Int)) : IntsAre (ys ++ [.int x t]) (zs (desc k (m + 1))) := by
  subst hx
  exact desc_ints h rfl
theorem desc_int' {ys : List Value} {k m : Nat} {x : Int} {t : Tok} (h : IntsAre ys (zs (desc k m))) (hm : m < k) (hx : x = (k : Int) - 1 - (0 + (m : Int))) : IntsAre (ys ++ [.int x t]) (zs (desc k (m + 1))) := desc_int h (by omega)
section
variable {prog : Program} {w : World} {A : Around} {E : Value → Shared → Prop} {s : Shared} {Q : Value → Shared → Prop} {h₀ : Heap} {L : Addr} {m : Str → Option Value} {news : List (Addr × Obj)}
theorem zs_at {vs : List Value} {ys : List Nat} (h : IntsAre vs (zs ys)) {j : Nat} (hj : j < vs.toArray.size) : ∃ t, vs.toArray[j]? = some (Value.int ((ys.getD j 0 : Nat) : Int) t) := by
  have hl := zs_len h
  have hj' : j < ys.length := by rw [List.size_toArray] at hj; omega
  obtain ⟨t, ht⟩ := h.get j (ys[j] : Int) (by simp [zs, hj'])
  refine ⟨t, ?_⟩
  rw [List.getD_eq_getElem?_getD, List.getElem?_eq_getElem hj']
  simpa using ht
end
/-- the lists that stand for the piles, one object each -/
def HAll (nw : List (Addr × Obj)) (ys : List Value) (hs : List (List Nat)) : Prop := ys.length = hs.length ∧ ∀ (i : Nat) (p : List Nat), hs[i]? = some p → ∃ (a : Addr) (us : List Value) (n : Nat), ys[i]? = some (Value.ref a) ∧ (a, listOf (List.toArray us) n) ∈ nw ∧ IntsAre us (zs p)
theorem HAll.nil {nw : List (Addr × Obj)} : HAll nw [] [] := ⟨rfl, fun i p h => by simp at h⟩
theorem HAll.mono {nw nw' : List (Addr × Obj)} {ys : List Value} {hs : List (List Nat)} (h : HAll nw ys hs) (k : ∀ p ∈ nw, p ∈ nw') : HAll nw' ys hs :=
  ⟨h.1, fun i p e => let ⟨a, us, n, e1, e2, e3⟩ := h.2 i p e; ⟨a, us, n, e1, k _ e2, e3⟩⟩
theorem HAll.snoc {nw : List (Addr × Obj)} {ys : List Value} {hs : List (List Nat)} {a : Addr} {us : List Value} {n : Nat} {p : List Nat} (h : HAll nw ys hs) (ha : (a, listOf (List.toArray us) n) ∈ nw) (hu : IntsAre us (zs p)) : HAll nw (ys ++ [Value.ref a]) (hs ++ [p]) := by
  refine ⟨by simp [h.1], fun i q e => ?_⟩
  rcases Nat.lt_or_ge i hs.length with hi | hi
  · rw [List.getElem?_append_left hi] at e
    obtain ⟨a', us', n', e1, e2, e3⟩ := h.2 i q e
    exact ⟨a', us', n', by rw [List.getElem?_append_left (by rw [h.1]; exact hi)]; exact e1, e2, e3⟩
  · rw [List.getElem?_append_right hi] at e
    have hi' : i - hs.length = 0 := by
      rcases Nat.eq_zero_or_pos (i - hs.length) with z | z
      · exact z
      · rw [List.getElem?_eq_none (show [p].length ≤ i - hs.length from z)] at e; cases e
    rw [hi'] at e
    cases e
    refine ⟨a, us, n, ?_, ha, hu⟩
    rw [List.getElem?_append_right (by rw [h.1]; exact hi), h.1, hi']
    rfl
theorem HAll.at {nw : List (Addr × Obj)} {ys : List Value} {hs : List (List Nat)} {i : Nat} {v : Value} (h : HAll nw ys hs) (hv : ys.toArray[i]? = some v) : ∃ a us n p, v = Value.ref a ∧ hs[i]? = some p ∧ (a, listOf (List.toArray us) n) ∈ nw ∧ IntsAre us (zs p) := by
  have hv' : ys[i]? = some v := by simpa using hv
  have hi : i < hs.length := by
    rcases Nat.lt_or_ge i ys.length with q | q
    · rw [← h.1]; exact q
    · rw [List.getElem?_eq_none q] at hv'; cases hv'
  obtain ⟨a, us, n, e1, e2, e3⟩ := h.2 i hs[i] (List.getElem?_eq_getElem hi)
  rw [e1] at hv'
  exact ⟨a, us, n, hs[i], (Option.some.inj hv').symm, List.getElem?_eq_getElem hi, e2, e3⟩
end Mine
end Part_P35
section Part_P36
set_option maxRecDepth 100000
namespace Mine
theorem led_name {h₀ h : Heap} {L : Addr} {nw : List (Addr × Obj)} (N : News h₀ L h nw) : ∃ nw0, nw0 = nw ∧ News h₀ L h nw0 := ⟨nw, rfl, N⟩
theorem led_swap {h₀ h : Heap} {L : Addr} {q : Addr × Obj} {hs nw0 : List (Addr × Obj)} (N : News h₀ L h (q :: (hs ++ nw0))) : News h₀ L h (q :: (nw0 ++ hs)) := fun p hp => N p (by
  rcases List.mem_cons.mp hp with rfl | hp
  · exact .head _
  · rcases List.mem_append.mp hp with hp | hp
    · exact .tail _ (List.mem_append_right _ hp)
    · exact .tail _ (List.mem_append_left _ hp))
def HList (hs : List (Addr × Obj)) : Prop := ∀ p ∈ hs, ∃ us n, p.2 = listOf (List.toArray us) n
theorem HList.nil : HList [] := fun _ h => nomatch h
theorem HList.cons {hs : List (Addr × Obj)} {a : Addr} {us : List Value} {n : Nat} (h : HList hs) : HList ((a, listOf (List.toArray us) n) :: hs) := fun p hp => by
  rcases List.mem_cons.mp hp with rfl | hp
  · exact ⟨us, n, rfl⟩
  · exact h p hp
theorem strs_pile {vs : List Value} {res : List Pile} (h : StrsAre vs (res.map pageOf)) {i : Nat} {v : Value} (hv : vs.toArray[i]? = some v) : ∃ p t, res[i]? = some p ∧ v = .str (pageOf p) t := by
  have hl := h.length
  rw [List.length_map] at hl
  have hv' : vs[i]? = some v := by simpa using hv
  have hi : i < res.length := by
    rcases Nat.lt_or_ge i vs.length with q | q
    · omega
    · rw [List.getElem?_eq_none q] at hv'; cases hv'
  obtain ⟨t, ht⟩ := h.get i (pageOf res[i]) (by simp [hi])
  rw [ht] at hv'
  exact ⟨res[i], t, List.getElem?_eq_getElem hi, (Option.some.inj hv').symm⟩
theorem row_at {vs : List Value} {p : Pile} (h : StrsAre vs (rowsOf p)) {k : Nat} {v : Value} (hv : vs.toArray[k]? = some v) : k < p.length ∧ ∃ t, v = .str (row (p.getD k 0 + 1) k) t := by
  have hl := h.length
  rw [rowsOf_len] at hl
  have hv' : vs[k]? = some v := by simpa using hv
  have hk : k < p.length := by
    rcases Nat.lt_or_ge k vs.length with q | q
    · omega
    · rw [List.getElem?_eq_none q] at hv'; cases hv'
  obtain ⟨t, ht⟩ := h.get k (row (p.getD k 0 + 1) k) (by simp [rowsOf, hk])
  rw [ht] at hv'
  exact ⟨hk, t, (Option.some.inj hv').symm⟩
theorem take_next {ys : List Value} {p : Pile} {k : Nat} {x : Int} {t : Tok} (h : IntsAre ys (zs (p.take k))) (hk : k < p.length) (hx : x = ((p.getD k 0 : Nat) : Int)) : IntsAre (ys ++ [.int x t]) (zs (p.take (k + 1))) := by
  subst hx
  have e : p.take (k + 1) = p.take k ++ [p.getD k 0] := by
    rw [List.take_add_one, List.getElem?_eq_getElem hk, List.getD_eq_getElem?_getD, List.getElem?_eq_getElem hk]
    rfl
  rw [e]
  exact zs_snoc h
theorem off3_add {I C D a : Addr} {o : Obj} {nw nw1 : List (Addr × Obj)} (off : LCg.Off3 I C D nw) (o1 : LCg.Off1 a nw1) {oI oC oD : Obj} (hI : (I, oI) ∈ nw1) (hC : (C, oC) ∈ nw1) (hD : (D, oD) ∈ nw1) : LCg.Off3 I C D ((a, o) :: nw) :=
  ⟨⟨fun e => off1_mem o1 _ hI e.symm, fun e => off1_mem o1 _ hC e.symm, fun e => off1_mem o1 _ hD e.symm⟩, off⟩
end Mine
end Part_P36
section Part_P37
set_option maxRecDepth 100000
namespace Mine
section
variable {prog : Program} {w : World} {A : Around} {E : Value → Shared → Prop} {s : Shared} {h₀ : Heap} {L : Addr} {m : Str → Option Value} {env : Env}
theorem srcL_ledger {elt : Expr} {x : Str} {scope : Scope} {cl : List (Str × Addr)} {Fin : Shared → List Value → List (Addr × Obj) → Prop} {ax : Addr} {its : Array Value} {k : Nat} {news : List (Addr × Obj)} {s₁ : Shared}
    (hh : A.handled = none) (F : Fr h₀ L s₁.heap m) (N : News h₀ L s₁.heap news) (hm : (ax, ({ cls := .type "list", data := .seq its k } : Obj)) ∈ news) (hsz : its.size ≤ sizeLine)
    (h : ∀ g, LCg.CompRest prog w A h₀ L m env elt x scope cl { s₁ with heap := g } (LCg.SrcAt h₀ ax its) (fun i v => its[i]? = some v) (Fin { s₁ with heap := g }) its.size 0 [] news) :
    LCg.SrcL prog w A h₀ L m env elt x scope cl Fin (.ref ax) s₁ := ⟨ax, its, news, rfl, hh, F, N, .inr ⟨_, hm, rfl, _, rfl⟩, hsz, fun _ ⟨g, e⟩ => e ▸ h g⟩
end
theorem news_drop24 {h₀ h : Heap} {L : Addr} {a b c d : Addr × Obj} {r : List (Addr × Obj)} (N : News h₀ L h (a :: b :: c :: d :: r)) : News h₀ L h (a :: c :: r) := fun p hp => N p (by
  rcases List.mem_cons.mp hp with rfl | hp
  · exact .head _
  rcases List.mem_cons.mp hp with rfl | hp
  · exact .tail _ (.tail _ (.head _))
  · exact .tail _ (.tail _ (.tail _ (.tail _ hp))))
theorem zs_sum (p : List Nat) : (zs p).sum = ((p.sum : Nat) : Int) := by
  induction p with
  | nil => rfl
  | cons a r ih => show (a : Int) + (zs r).sum = _; rw [ih, List.sum_cons, Int.natCast_add]
theorem sum_next {ys : List Value} {res : List (List Nat)} {k : Nat} {p : List Nat} {t : Tok} (h : IntsAre ys (zs ((res.take k).map List.sum))) (hk : res[k]? = some p) : IntsAre (ys ++ [.int (zs p).sum t]) (zs ((res.take (k + 1)).map List.sum)) := by
  rw [zs_sum, List.take_add_one, hk, List.map_append]
  exact zs_snoc h
theorem hs_off {h₀ h : Heap} {L c : Addr} {o : Obj} {v : Option Value} {news hs : List (Addr × Obj)} (N : News h₀ L h news) (hc : (c, o) ∈ news) (hd : o.data = .cell v) (hL : HList hs) (hs9 : ∀ p ∈ hs, p ∈ news) : ∀ p ∈ hs, p.1 ≠ c := fun p hp => by
  obtain ⟨us, n, e⟩ := hL p hp
  exact ne_of_obj N (a := p.1) (o := p.2) (hs9 p hp) hc (fun e2 => by rw [← e2, e] at hd; cases hd)
theorem zs_count (k : Nat) (l : List Nat) : (zs l).count ((k : Nat) : Int) = l.count k := by
  unfold zs
  induction l with
  | nil => rfl
  | cons a r ih =>
    rw [List.map_cons, List.count_cons, List.count_cons, ih]
    congr 1
    by_cases q : a = k
    · subst q; simp
    · have q' : ¬ (a : Int) = (k : Int) := by omega
      simp [q, q']
theorem count_next {ys : List Value} {l : List Nat} {k : Nat} {x : Int} {t : Tok} (h : IntsAre ys (zs ((List.range k).map fun j => l.count j))) (hx : x = (((zs l).count ((k : Nat) : Int) : Nat) : Int)) : IntsAre (ys ++ [.int x t]) (zs ((List.range (k + 1)).map fun j => l.count j)) := by
  rw [hx, zs_count, List.range_succ, List.map_append]
  exact zs_snoc h
end Mine
end Part_P37
section Part_P38
set_option maxRecDepth 100000
namespace Mine
theorem desc_own {cubes q : Nat} (h : cubes ≤ q) : ∀ k ∈ zs (desc cubes cubes), 0 ≤ k ∧ k < ((q : Nat) : Int) := by
  intro k hk
  obtain ⟨y, hy, rfl⟩ := List.mem_map.mp hk
  obtain ⟨n, hn, rfl⟩ := List.mem_map.mp hy
  have := List.mem_range.mp hn
  omega
theorem fil_yes {res : List Pile} {f : Pile → Bool} {i : Nat} {p : Pile} {ys : List Value} {v : Value} (hp : res[i]? = some p) (hf : f p = true) (h : ys.length = ((res.take i).filter f).length) : (ys ++ [v]).length = ((res.take (i + 1)).filter f).length := by
  rw [List.take_add_one, hp, List.filter_append, List.length_append, List.length_append, h]
  simp [hf]
theorem fil_no {res : List Pile} {f : Pile → Bool} {i : Nat} {p : Pile} {ys : List Value} (hp : res[i]? = some p) (hf : f p = false) (h : ys.length = ((res.take i).filter f).length) : ys.length = ((res.take (i + 1)).filter f).length := by
  rw [List.take_add_one, hp, List.filter_append, List.length_append, h]
  simp [hf]
theorem zs_length (p : List Nat) : (zs p).length = p.length := by simp [zs]
end Mine
end Part_P38
section Part_P39
set_option maxRecDepth 100000
namespace Mine
theorem Sm.mul {a b x y : Nat} (hx : Sm a x) (hy : Sm b y) : Sm (a + b) (x * y) := by
  refine ⟨?_⟩
  rw [Nat.pow_add]
  exact Nat.mul_lt_mul'' hx.lt hy.lt
theorem sm_fac {w k : Nat} (h : w * k ≤ 100) : Sm 101 (1 <<< (w * k) - 1) := by
  refine ⟨Nat.lt_of_le_of_lt (Nat.sub_le _ _) ?_⟩
  rw [Nat.shiftLeft_eq, Nat.one_mul]
  exact Nat.pow_lt_pow_right (by decide) (by omega)
structure OneLe (x : Nat) : Prop where
  le : 1 ≤ x
theorem one_shl (k : Nat) : OneLe (1 <<< k) := by
  refine ⟨?_⟩
  rw [Nat.shiftLeft_eq, Nat.one_mul]
  exact Nat.two_pow_pos k
section
variable {prog : Program} {w : World} {A : Around} {E : Value → Shared → Prop} {s : Shared} {t u : Tok} {a b x k : Nat} {Q : Value → Shared → Prop}
theorem add1N (h : Q (.int ((a + 1 : Nat) : Int) s.toks) { s with toks := s.toks + 1 }) : wpAny (model prog w) A (binaryOp .Add (.int (a : Int) t) (.int 1 u)) Q E s := by
  refine add_int ?_
  rw [Int.natCast_add] at h; exact h
theorem shl1N (hk : k ≤ 100000) (h : Q (.int ((1 <<< k : Nat) : Int) s.toks) { s with toks := s.toks + 1 }) : wpAny (model prog w) A (binaryOp .LShift (.int 1 t) (.int (k : Int) u)) Q E s :=
  shlN (x := 1) ⟨by decide +kernel⟩ hk h
theorem sub1N (hle : OneLe a) (h : Q (.int ((a - 1 : Nat) : Int) s.toks) { s with toks := s.toks + 1 }) : wpAny (model prog w) A (binaryOp .Sub (.int (a : Int) t) (.int 1 u)) Q E s :=
  subN (b := 1) hle.le h
theorem imulN (ha : Sm 4000 a) (hb : Sm 4000 b) (h : Q (.int ((a * b : Nat) : Int) s.toks) { s with toks := s.toks + 1 }) : wpAny (model prog w) A (inplaceOp .Mult (.int (a : Int) t) (.int (b : Int) u)) Q E s := by
  rw [Int.natCast_mul] at h
  have h1 : Builtin.Int.intBits (a : Int) ≤ 4000 := intBits_le_iff.mpr ha.lt
  have h2 : Builtin.Int.intBits (b : Int) ≤ 4000 := intBits_le_iff.mpr hb.lt
  exact imul_int h (IntMulOk.of_bits (by omega) (by omega))
end
/-- the names in the loops that make the two products -/
def mTB (y : Str) (m₀ u : Str → Option Value) (T : Nat × Nat) (tt tb : Tok) : Str → Option Value := fun z => if z = Str.ofString "top" then some (.int (T.1 : Int) tt) else if z = Str.ofString "bottom" then some (.int (T.2 : Int) tb) else if z = Str.ofString "j" then u z else if z = y then u z else m₀ z
theorem mTB_of {y : Str} {m₀ m : Str → Option Value} {T : Nat × Nat} {tt tb : Tok} (h1 : m (Str.ofString "top") = some (.int (T.1 : Int) tt)) (h2 : m (Str.ofString "bottom") = some (.int (T.2 : Int) tb))
    (h3 : ∀ z, z ≠ Str.ofString "top" → z ≠ Str.ofString "bottom" → z ≠ Str.ofString "j" → z ≠ y → m z = m₀ z) : m = mTB y m₀ m T tt tb := by
  funext z
  unfold mTB
  by_cases q1 : z = Str.ofString "top"
  · rw [if_pos q1, q1, h1]
  rw [if_neg q1]
  by_cases q2 : z = Str.ofString "bottom"
  · rw [if_pos q2, q2, h2]
  rw [if_neg q2]
  by_cases q3 : z = Str.ofString "j"
  · rw [if_pos q3]
  rw [if_neg q3]
  by_cases q4 : z = y
  · rw [if_pos q4]
  rw [if_neg q4]; exact h3 z q1 q2 q3 q4
def JTB (y : Str) (m₀ : Str → Option Value) (news : List (Addr × Obj)) (f : Nat → Nat × Nat) (S : Nat → Nat) (k : Nat) (m : Str → Option Value) (nx : List (Addr × Obj)) : Prop :=
  nx = news ∧ Sm (S k) (f k).1 ∧ Sm (S k) (f k).2 ∧ ∃ u tt tb, m = mTB y m₀ u (f k) tt tb
section
variable {prog : Program} {w : World} {A : Around} {E : Value → Shared → Prop} {s : Shared} {env : Env} {h₀ : Heap} {x : Str} {body : List Stmt} {Q : Flow → Shared → Prop}
theorem tb_loop (y : Str) {r : Addr} {b₀ : Int} {t₀ u₀ v₀ : Tok} {n : Nat} {m₀ m₁ : Str → Option Value} {news : List (Addr × Obj)} (f : Nat → Nat × Nat) (S : Nat → Nat) 
    (hh : A.handled = none) (hr : IsRange s.heap r 0 b₀ 1 t₀ u₀ v₀) (hb : b₀ = (n : Int)) (hn : n ≤ 64) (F : Fr h₀ env.locals s.heap m₁) (N : News h₀ env.locals s.heap news) (hj : JTB y m₀ news f S 0 m₁ news)
    (turn : ∀ (i : Nat) (t tt tb : Tok) (u : Str → Option Value) (h : Heap) (tk : Nat) (own : List (Addr × Obj)), i < n → OwnOff own (news.map (·.1)) → Sm (S i) (f i).1 → Sm (S i) (f i).2 →
      Fr h₀ env.locals h (fun z => if z = x then some (.int (i : Int) t) else if z = Str.ofString "top" then some (.int ((f i).1 : Int) tt) else if z = Str.ofString "bottom" then some (.int ((f i).2 : Int) tb) else if z = Str.ofString "j" then u z else if z = y then u z else m₀ z) → News h₀ env.locals h (news ++ own) →
      wpAny (model prog w) A (execs body env) (InvPostN h₀ env.locals (JTB y m₀ news f S (i + 1)) own (news.map (·.1)) { s with heap := h, toks := tk } Q) E { s with heap := h, toks := tk })
    (done : ∀ (u : Str → Option Value) (tt tb : Tok) (h : Heap) (tk : Nat), Sm (S n) (f n).1 → Sm (S n) (f n).2 → Fr h₀ env.locals h (fun z => if z = Str.ofString "top" then some (.int ((f n).1 : Int) tt) else if z = Str.ofString "bottom" then some (.int ((f n).2 : Int) tb) else if z = Str.ofString "j" then u z else if z = y then u z else m₀ z) →
      News h₀ env.locals h news → Q .next { s with heap := h, toks := tk }) :
    wpAny (model prog w) A (pyIter (.ref r)) (fun it s₂ => LoopAtV prog w A h₀ env x body Q E it s₂) E s := by
  have hrn := rangeN hb hn
  refine kpr_invN (n := n) (JTB y m₀ news f S) hh hr hrn.1 hrn.2 F N hj ?_ ?_
  · rintro i k t m₂ nx h tk own hk ho ⟨rfl, s1, s2, u, tt, tb, rfl⟩ F₁ N₁
    have hi : i < n := by
      rcases Nat.lt_or_ge i n with q | q
      · exact q
      · rw [List.getElem?_eq_none (by rw [rangeKs_length]; exact q)] at hk; cases hk
    have hk' : k = (i : Int) := by simp [rangeKs, hi] at hk; omega
    subst hk'
    exact turn i t tt tb u h tk own hi ho s1 s2 F₁ N₁
  · rintro m₂ nx h tk ⟨rfl, s1, s2, u, tt, tb, rfl⟩ F₁ N₁
    rw [rangeKs_length] at F₁ s1 s2
    exact done u tt tb h tk s1 s2 F₁ N₁
end
theorem tb_next {y : Str} {m₀ m' : Str → Option Value} {news : List (Addr × Obj)} {f : Nat → Nat × Nat} {S : Nat → Nat} {k x b : Nat} {tt tb : Tok} (hf : f k = (x, b)) (s1 : Sm (S k) x) (s2 : Sm (S k) b)
    (h1 : m' (Str.ofString "top") = some (.int (x : Int) tt)) (h2 : m' (Str.ofString "bottom") = some (.int (b : Int) tb)) (h3 : ∀ z, z ≠ Str.ofString "top" → z ≠ Str.ofString "bottom" → z ≠ Str.ofString "j" → z ≠ y → m' z = m₀ z) : JTB y m₀ news f S k m' news :=
  ⟨rfl, by rw [hf]; exact s1, by rw [hf]; exact s2, m', tt, tb, mTB_of (by rw [hf]; exact h1) (by rw [hf]; exact h2) h3⟩
theorem tb_end {L : Addr} {y : Str} {m₀ m' : Str → Option Value} {news own all : List (Addr × Obj)} {f : Nat → Nat × Nat} {S : Nat → Nat} {k : Nat} {h₀ h : Heap} {tk : Nat} {s₁ : Shared} {Q : Flow → Shared → Prop} (F : Fr h₀ L h m') (N : News h₀ L h all) (hn : ∀ p ∈ news, p ∈ all) (ho : ∀ p ∈ own, p ∈ all) (J : JTB y m₀ news f S k m' news) :
    InvPostN h₀ L (JTB y m₀ news f S k) own (news.map (·.1)) s₁ Q .next { s₁ with heap := h, toks := tk } := ⟨h, tk, m', all, news, rfl, F, N, hn, ho, rfl, J⟩
theorem topIn_next (c w i j : Nat) (t : Nat × Nat) : topIn c w i (j + 1) t = ((topIn c w i j t).1 * ((1 <<< (w * (i + j + c + 1))) - 1), (topIn c w i j t).2 * ((1 <<< (w * (i + j + 1))) - 1)) := by
  unfold topIn
  rw [List.range_succ, List.foldl_append]
  rfl
theorem topF_next (i b c w : Nat) : topF (i + 1) b c w = topIn c w i b (topF i b c w) := by
  unfold topF
  rw [List.range_succ, List.foldl_append]
  rfl
end Mine
end Part_P39
section Part_P39b
set_option maxRecDepth 100000
namespace Mine
theorem list_ne_code {q : Str} {oc : Obj} {us : Array Value} {n : Nat} (hco : CodeOk q oc) : listOf us n ≠ oc := fun e => by
  obtain ⟨vs, t, hd, _⟩ := hco
  rw [← e] at hd
  cases hd
theorem list_ne_tab {ps : Array Value} {us : Array Value} {n : Nat} : listOf us n ≠ tabObj ps := fun e => by
  have := congrArg Obj.cls e
  cases this
end Mine
end Part_P39b
section Law
namespace Mine
theorem rules_L50 : True := by
  k_with_none
  k_with "call ref" => (k_here; refine stop_ ?_)
  k_with "my cx" => ((case k1 => k_asm); (case k2 => k_asm); (case k3 => k_asm); (case k4 => k_asm); (case k5 => k_asm); (case k6 => rfl); (case k7 => ktr_room); (case k8 => ktr_units))
  k_with "eval ListComp" => (k_here; refine stop_ ?_)
  k_with "binaryOp Mult int int" => (k_here; (with_reducible refine mulN ?k1 ?k2 ?_); (case k1 => omega); (case k2 => omega))
  trivial
set_option maxRecDepth 100000 in
set_option maxHeartbeats 200000000 in
noncomputable def law_50 : PSigma fun P : Prop => Hold P → PySem.Challenge.rw_sn0034_01.Holds := by
  refine ⟨?P, fun key => ?g⟩
  rotate_left
  exact hd (by
    k_go0
    k_steps
    refine' heaps_ok ⟨?k1, ?k2, ?k3, ?k4, ?k5, ?k6⟩ ?k7 ?k8 _ _ _ _ 0 5 3 _ _ _ _ ?a1 ?a2 ?a3 ?a4 ?_
    walk_at "my cx"
    case a1 => assumption
    case a2 => assumption
    case a3 => intro p hp; rw [List.mem_singleton.mp hp]; k_mem
    case a4 => omega
    intro x0 x1 x2 tx0 tx1 tx2 n9 h9 tk9 F9 N9
    replace N9 := news_upd (by k_all) N9
    k_steps
    refine' box_ok ⟨?k1, ?k2, ?k3, ?k4, ?k5, ?k6⟩ ?k7 ?k8 _ _ ?_
    walk_at "my cx"
    rintro T1 ⟨A1, B1, C1⟩ ta1 tb1 tc1 h10 tk10 hbox F10 N10
    obtain ⟨hbx, hA1, hA3, hB1, hB3, hC1, hC4, hAB, hAB1, hABC, hABC1, hsz⟩ := box_mem _ (List.mem_of_getElem? hbox)
    dsimp only at hbx hA1 hA3 hB1 hB3 hC1 hC4 hAB hAB1 hABC hABC1 hsz
    k_steps
    repeat (revert ‹_›)
    intro key
    exact key.out)
theorem walk_plain2 : True := by
  w_top off
  trivial
set_option maxRecDepth 100000 in
set_option maxHeartbeats 200000000 in
noncomputable def law_51 : PSigma fun P : Prop => Hold P → law_50.1 := by
  refine ⟨?P, fun key => ?g⟩
  rotate_left
  · conv => whnf
    set_option tactic.hygienic false in intros
    rename News _ _ _ _ => N10
    dsimp only [tup3b] at N10
    k_steps
    rename News _ _ _ _ => N9
    replace N9 := news_tail N9
    k_steps
    refine' order_ok ⟨?k1, ?k2, ?k3, ?k4, ?k5, ?k6⟩ ?k7 ?k8 (A1 * B1) _ _ _ ?a1 ?a2 ?_
    walk_at "my cx"
    case a1 => omega
    case a2 => omega
    intro D1 vs1 m1 h11 tk11 hord F11 N11
    k_steps
    repeat (revert ‹_›)
    intro key
    exact key.out
set_option maxRecDepth 100000 in
set_option maxHeartbeats 200000000 in
noncomputable def law_52 : PSigma fun P : Prop => Hold P → law_51.1 := by
  refine ⟨?P, fun key => ?g⟩
  rotate_left
  · conv => whnf
    set_option tactic.hygienic false in intros
    generalize hrev : decide ((([x0, x1, x2].getD (Int.toNat 1) 0).fdiv 6).fmod 2 = 1) = rev at hord
    have hr0 : 0 ≤ ([x0, x1, x2].getD (Int.toNat 1) 0).fmod ((A1 * B1 : Nat) : Int) := Int.fmod_nonneg_of_pos _ (by omega)
    have hr1 : ([x0, x1, x2].getD (Int.toNat 1) 0).fmod ((A1 * B1 : Nat) : Int) < ((A1 * B1 : Nat) : Int) := Int.fmod_lt_of_pos _ (by omega)
    generalize hrr : ([x0, x1, x2].getD (Int.toNat 1) 0).fmod ((A1 * B1 : Nat) : Int) = rr at hord hr0 hr1
    have hrn : rr.toNat < A1 * B1 := by omega
    clear hr0 hr1 hrr hrev
    obtain ⟨R, hR⟩ := Classical.axiomOfChoice (fun nwv => res_of hbx hrn rev nwv)
    dsimp only at hR
    refine' piles_ok ⟨?k1, ?k2, ?k3, ?k4, ?k5, ?k6⟩ ?k7 ?k8 D1 vs1 (orderF (A1 * B1) rr.toNat rev) _ B1 C1 (A1 * B1) 30 _ (R _) _ _ _ ?a1 hord ?a2 hsz ?a3 ?a4 ?a5 ?a6 ?a7 ?a8 (by decide) (hR _).1 ?_
    walk_at "my cx"
    case a1 => exact News.isList (by k_asm) (.head _)
    case a2 => rw [Int.natCast_mul]
    case a3 => omega
    case a4 => omega
    case a5 => omega
    case a6 => omega
    case a7 => exact order_mem
    case a8 => rw [order_len (Nat.le_of_lt hrn)]; exact hAB
    intro DP vsP nP h12 tk12 hP F12 N12
    generalize hrs : R _ = res at hP
    have hres : 1 ≤ res.length ∧ res.length ≤ 20 ∧ (∀ p ∈ res, p.length = A1 * B1 ∧ ∀ x ∈ p, x ≤ C1) ∧ sumUp (A1, B1, C1) res = canon (A1, B1, C1) := by rw [← hrs]; exact (hR _).2
    clear hR hrs hord hrn
    obtain ⟨hl1, hl20, hgood, hsum⟩ := hres
    replace N12 := news_drop2 N12
    have q6 := cell_ne N12 (.head _) (.tail _ (.head _)) (by assumption) rfl
    have q5 := cell_ne N12 (.head _) (.tail _ (.tail _ (.head _))) (by assumption) rfl
    have q4 := cell_ne N12 (.head _) (.tail _ (.tail _ (.tail _ (.head _)))) (by assumption) rfl
    dsimp only [Apart] at q4 q5 q6
    k_steps
    repeat (revert ‹_›)
    intro key
    exact key.out
local macro_rules | `(tactic| k_all) => `(tactic| assumption)
theorem rules_L53 : True := by
  k_with "exec Assign cons ListComp" => (k_here; refine stop_ ?_)
  k_with "CompSrc" => (k_here; refine stop_ ?_)
  k_with "CompSrcT" => (k_here; refine stop_ ?_)
  k_with "CompEnd" => (refine stop_ ?_)
  k_with "FinE" => (refine stop_ ?_)
  k_with "FinA" => (refine stop_ ?_)
  k_with "call builtin:str.split" => (k_here; (with_reducible show wpAny _ _ (call (Value.builtin "str.split") _) _ _ _); (refine KSpl.split1 (by k_asm) (by k_asm) (by decide +kernel) ?_ (page_len (by assumption) (by assumption))); (intro D'k l'k h'k k'k e'k a'k F'k N'k l1k); (rw [e'k, split_page (by assumption) (by assumption)] at a'k); (clear e'k); (generalize strValues l'k = rv'k at a'k N'k))
  trivial
set_option maxRecDepth 100000 in
set_option maxHeartbeats 200000000 in
noncomputable def law_53 : PSigma fun P : Prop => Hold P → law_52.1 := by
  refine ⟨?P, fun key => ?g⟩
  rotate_left
  · conv => whnf
    set_option tactic.hygienic false in intros
    rename Fr _ _ _ _ => F1
    rename News _ _ _ _ => N1
    refine ListComp_NR' (n := A1) F1 N1 (rest := _) (J := fun i ys m' => IntsAre ys (zs (desc (A1 * B1 * C1) (i * B1 * C1)))) (hrest := fun it acc cenv => turn_more' rfl rfl) (hu := fun _ _ _ => rfl) (hh := rfl) (by with_unfolding_all rfl) (by decide) rfl (by decide) rfl (fun _ => rfl) ?src (by omega) ?j0 ?body ?fin
    case j0 => rw [Nat.zero_mul, Nat.zero_mul]; exact .nil
    case src =>
      k_steps
      rename Fr _ _ _ _ => F2
      rename News _ _ _ _ => N2
      exact ⟨_, _, _, _, _, _, _, rfl, rfl, F2, N2, by assumption, rfl⟩
    case body =>
      clear F1 N1
      intro I C D i v oI oC m₂ h tk E' ys hCL hIC hID hCD hi hJ hv hoC F1 N1 off
      obtain ⟨ti, rfl⟩ := hv
      refine inner_range (n := B1) (fun j ys' m' => IntsAre ys' (zs (desc (A1 * B1 * C1) ((i * B1 + j) * C1))) ∧ m' (Str.ofString "i") = some (.int (i : Int) ti)) F1 N1 rfl rfl (fun _ => rfl) rfl (fun it => turn_more' rfl rfl) (fun _ => rfl) rfl rfl rfl hIC hID hCD off ?src2 (by omega) ?body2 ?done2
      case src2 =>
        k_steps
        rename Fr _ _ _ _ => F2
        rename News _ _ _ _ => N2
        exact ⟨_, _, _, _, _, _, _, _, _, rfl, rfl, F2, N2, hoC, by assumption, rfl, hJ, rfl⟩
      case done2 =>
        intro h' tk' oC' m₂' ys' F2 N2 hoC' hJ'
        exact ⟨h', tk', oC', m₂', ys', _, rfl, F2, N2, hoC', off, trivial, rfl, by rw [← next_i]; exact hJ'.1⟩
      case body2 =>
        clear F1 N1
        intro j v I' oI' oC' m₂' h' tk' E'' ys' hj hJ' hv' hoC' F1 N1 off' hIC' hID'
        obtain ⟨tj, rfl⟩ := hv'
        obtain ⟨hJ1, hJ2⟩ := hJ'
        refine inner_range (n := C1) (fun k ys'' m' => IntsAre ys'' (zs (desc (A1 * B1 * C1) ((i * B1 + j) * C1 + k))) ∧ m' (Str.ofString "i") = some (.int (i : Int) ti) ∧ m' (Str.ofString "j") = some (.int (j : Int) tj)) F1 N1 rfl rfl (fun _ => rfl) rfl (fun it => turn_last rfl rfl) (fun _ => rfl) rfl rfl rfl hIC' hID' hCD off' ?src3 (by omega) ?body3 ?done3
        case src3 =>
          k_steps
          rename Fr _ _ _ _ => F2
          rename News _ _ _ _ => N2
          exact ⟨_, _, _, _, _, _, _, _, _, rfl, rfl, F2, N2, hoC', by assumption, rfl, hJ1, hJ2, rfl⟩
        case done3 =>
          intro h' tk' oC' m₂' ys' F2 N2 hoC' hJ'
          exact ⟨h', tk', oC', m₂', ys', _, rfl, F2, N2, hoC', off', trivial, rfl, by rw [← next_j]; exact hJ'.1, hJ'.2.1⟩
        case body3 =>
          clear F1 N1
          intro k v I'' oI'' oC'' m₃ h'' tk'' E3 ys'' hk hJ'' hv'' hoC'' F1 N1 off'' hIC'' hID''
          obtain ⟨tk3, rfl⟩ := hv''
          obtain ⟨hL1, hL2, hL3⟩ := hJ''
          obtain ⟨hng, hnv⟩ := across_of hbx hi hj hk
          generalize hM : (fun z => if z = Str.ofString "k" then some (Value.int (k : Int) tk3) else m₃ z) = M at hoC''
          have hk1 : M (Str.ofString "k") = some (Value.int (k : Int) tk3) := by subst hM; rfl
          have hk2 : M (Str.ofString "i") = some (Value.int (i : Int) ti) := by subst hM; exact hL2
          have hk3 : M (Str.ofString "j") = some (Value.int (j : Int) tj) := by subst hM; exact hL3
          clear hM hJ hJ1 hJ2 hL2 hL3
          refine wpAny_bind ?_
          k_steps
          refine' neg_ok ⟨?k1, ?k2, ?k3, ?k4, ?k5, ?k6⟩ ?k7 ?k8 _ _ _ _ _ _ _ _ _ _ _ _ ?b1 ?b2 ?b3 ?b4 ?b5 ?b6 ?b7 ?b8 ?b9 ?b10 ?b11 ?b12 hng ?_
          walk_at "my cx"
          all_goals try omega
          clear F1 N1
          intro x' t' h' tk' e9 F' N'
          rw [hnv] at e9
          subst e9
          k_steps
          rename News _ _ _ _ => N4
          rename Fr _ _ _ _ => F4
          refine emit ⟨_, _, rfl⟩ F4 N4 hoC'' off'' hID'' hCD trivial ⟨rfl, desc_ints hL1 rfl, hk2, hk3⟩ ?_
          have := zs_len hL1
          rw [this, desc_len]
          have h5 : (i * B1 + j) * C1 ≤ 12 * 4 := Nat.mul_le_mul (Nat.le_trans (Nat.add_le_add (Nat.mul_le_mul (show i ≤ 3 by omega) hB3) (show j ≤ 3 by omega)) (by decide)) hC4
          omega
    case fin =>
      clear F1 N1
      intro DA h tk ysA m' F1 N1 off1 hJ
      simp only [LCg.Off1, and_true] at off1
      have hlA := zs_len hJ
      rw [desc_len] at hlA
      k_steps
      repeat (revert ‹_›)
      intro key
      exact key.out
set_option maxRecDepth 100000 in
set_option maxHeartbeats 200000000 in
noncomputable def law_54 : PSigma fun P : Prop => Hold P → law_53.1 := by
  refine ⟨?P, fun key => ?g⟩
  rotate_left
  · conv => whnf
    set_option tactic.hygienic false in intros
    have hcub : ((A1 : Int) * (B1 : Int) * (C1 : Int)) = ((A1 * B1 * C1 : Nat) : Int) := by rw [Int.natCast_mul, Int.natCast_mul]
    have hc64 : A1 * B1 * C1 ≤ 64 := by omega
    try clear F1 N1
    rename Fr _ _ _ _ => F1
    rename News _ _ _ _ => N1
    refine LCg.ListComp_U (F₀ := F1) (by with_unfolding_all rfl) (by decide) (by rfl) (by decide) (by rfl) ?_
    k_steps
    rename IsRange _ _ _ _ _ _ _ _ => hr9
    rename Fr _ _ _ _ => F2
    rename News _ _ _ _ => N2
    refine LCg.CompSrc.range (n := A1 * B1 * C1) (by rfl) F2 N2 hr9 (rangeN hcub hc64).1 (rangeN hcub hc64).2 (by rw [sizeLine_eq]; omega) ?_
    intro g9
    refine comp_ind (fun k ys nw => nw = _ ∧ IntsAre ys (zs (desc (A1 * B1 * C1) k))) ⟨rfl, .nil⟩ ?_ ?_
    · clear F2 N2 hr9
      intro i v I oI C oC D m₂ h tk E' ys nw hi hJ9 hv hoC hx F1 N1 off ne
      obtain ⟨rfl, hys⟩ := hJ9
      obtain ⟨t, rfl⟩ := hv
      k_steps
      rename Fr _ _ _ _ => F3
      rename News _ _ _ _ => N3
      exact ⟨_, _, _, rfl, F3, N3, off, trivial, rfl, desc_int' hys hi (by rw [hcub])⟩
    · clear F2 N2 hr9
      intro ys nw hJ9
      obtain ⟨rfl, hys⟩ := hJ9
      intro D2 h2 tk2 F2 N2 off2
      k_steps
      repeat (revert ‹_›)
      intro key
      exact key.out
set_option maxRecDepth 100000 in
set_option maxHeartbeats 200000000 in
noncomputable def law_55 : PSigma fun P : Prop => Hold P → law_54.1 := by
  refine ⟨?P, fun key => ?g⟩
  rotate_left
  · conv => whnf
    set_option tactic.hygienic false in intros
    rename Fr _ _ _ _ => F1
    rename News _ _ _ _ => N1
    refine LCg.Assign_ListComp_U (F₀ := F1) (by rfl) (by with_unfolding_all rfl) (by with_unfolding_all rfl) (by decide) (by rfl) (by decide) (by rfl) (by rfl) (by rfl) ?_
    k_steps
    rename Fr _ _ _ _ => F2
    rename News _ _ _ _ => N2
    obtain ⟨nw0, hnw, N3⟩ := led_name N2
    have hmP : (DP, W.listOf (List.toArray vsP) nP) ∈ nw0 := by rw [hnw]; k_mem
    have hlP : vsP.length = res.length := by have := hP.length; simpa using this
    refine LCg.CompSrc.ledger (by rfl) F2 N3 hmP (by rw [sizeLine_eq, List.size_toArray]; omega) ?_
    intro g9
    refine comp_ind (fun i ys nw => ∃ hs, nw = hs ++ nw0 ∧ HAll hs ys (res.take i) ∧ HList hs) ⟨[], rfl, .nil, HList.nil⟩ ?_ ?_
    · clear F2 N2 N3
      intro i v I oI C oC D m₂ h tk E' ys nw hi hJ9 hv hoC hx F1 N1 off ne
      obtain ⟨hs, rfl, hH, hL⟩ := hJ9
      obtain ⟨p, tp, hp, rfl⟩ := strs_pile hP hv
      have hg := hgood p (List.mem_of_getElem? hp)
      have hG : Good (A1 * B1) C1 p := ⟨hg.1, hg.2⟩
      refine LCg.ListComp_U (F₀ := F1) (by with_unfolding_all rfl) (by decide) (by rfl) (by decide) (by rfl) ?_
      k_steps
      rename StrsAre _ (rowsOf p) => hrv
      rename Fr _ _ _ _ => F3
      rename News _ _ _ _ => N3
      have hrl := hrv.length
      rw [rowsOf_len, hg.1] at hrl
      obtain ⟨nw1, hnw1, N4⟩ := led_name N3
      refine LCg.CompSrc.ledger (by rfl) F3 N4 (by rw [hnw1]; exact .head _) (by rw [sizeLine_eq, List.size_toArray]; omega) ?_
      intro g8
      refine comp_ind (fun k ys2 nw2 => nw2 = nw1 ∧ IntsAre ys2 (zs (p.take k))) ⟨rfl, .nil⟩ ?_ ?_
      · clear F3 N3 N4
        intro k v2 I2 oI2 C2 oC2 D2x m3 hb tkb E2 ys2 nw2 hk hJ8 hv2 hoC2 hx2 F5 N5 offb neb
        obtain ⟨rfl, hys2⟩ := hJ8
        obtain ⟨hkp, tr, rfl⟩ := row_at hrv hv2
        have hgd := getD_le hG k
        have hrow := row_len (p.getD k 0 + 1) k
        k_steps
        rename Fr _ _ _ _ => F6
        rename News _ _ _ _ => N6
        exact ⟨_, _, _, rfl, F6, N6, offb, .inr ⟨_, by rw [hnw1]; exact .head _, rfl, _, rfl⟩, rfl, take_next hys2 hkp (by omega)⟩
      · clear F3 N3 N4
        intro ys2 nw2 hJ8
        obtain ⟨rfl, hys2⟩ := hJ8
        intro D3 h3 tk3 F5 N5 off3
        rw [List.size_toArray, hrl, ← hg.1, List.take_length] at hys2
        refine ⟨h3, tk3, (D3, LCg.lst ys2) :: (hs ++ nw0), rfl, F5, fun q hq => N5 q ?_, off3_add (oI := oI) (oC := oC) (oD := LCg.lst ys) off off3 ?_ ?_ ?_, .inr ⟨_, .tail _ (List.mem_append_right _ hmP), rfl, _, rfl⟩, (D3, LCg.lst ys2) :: hs, rfl, ?_, hL.cons⟩
        · rw [hnw1]
          rcases List.mem_cons.mp hq with rfl | hq
          · exact .tail _ (.tail _ (.head _))
          rcases List.mem_cons.mp hq with rfl | hq
          · exact .tail _ (.tail _ (.tail _ (.head _)))
          rcases List.mem_cons.mp hq with rfl | hq
          · exact .tail _ (.tail _ (.tail _ (.tail _ (.head _))))
          rcases List.mem_cons.mp hq with rfl | hq
          · exact .head _
          · exact .tail _ (.tail _ (.tail _ (.tail _ (.tail _ hq))))
        · rw [hnw1]; exact .tail _ (.head _)
        · rw [hnw1]; exact .tail _ (.tail _ (.head _))
        · rw [hnw1]; exact .tail _ (.tail _ (.tail _ (.head _)))
        · rw [List.take_add_one, hp]
          exact (hH.mono fun q hq => .tail _ hq).snoc (.head _) hys2
    · intro ysH nw hJ9
      obtain ⟨hsH, rfl, hH, hLH⟩ := hJ9
      rw [List.size_toArray, hlP, List.take_length] at hH
      intro DH h3 tk3 F5 N5 off3
      replace N5 := led_swap N5
      have off4 := off1_mem off3
      rw [hnw] at N5
      simp only [List.cons_append, List.nil_append] at N5
      clear F2 N2 N3 off3
      k_steps
      repeat (revert ‹_›)
      intro key
      exact key.out
set_option maxRecDepth 100000 in
set_option maxHeartbeats 200000000 in
noncomputable def law_56 : PSigma fun P : Prop => Hold P → law_55.1 := by
  refine ⟨?P, fun key => ?g⟩
  rotate_left
  · conv => whnf
    set_option tactic.hygienic false in intros
    rename Fr _ _ _ _ => F1
    rename News _ _ _ _ => N1
    refine LCg.ListComp_U (F₀ := F1) (by with_unfolding_all rfl) (by decide) (by rfl) (by decide) (by rfl) ?_
    k_steps
    rename Fr _ _ _ _ => F2
    rename News _ _ _ _ => N2
    have hlH := hH.1
    refine LCg.CompSrc.ledger (by rfl) F2 N2 (by k_mem) (by rw [sizeLine_eq, List.size_toArray]; omega) ?_
    intro g9
    refine comp_ind (fun i ys nw => nw = _ ∧ ∃ xs : List Int, IntsAre ys xs ∧ xs.length = i ∧ ∀ x ∈ xs, x ≤ (C1 : Int)) ⟨rfl, [], .nil, rfl, fun _ h => nomatch h⟩ ?_ ?_
    · clear F2 N2
      intro i v I oI C oC D m₂ h tk E' ys nw hi hJ9 hv hoC hx F1 N1 off ne
      obtain ⟨rfl, xs, hxs, hxl, hxb⟩ := hJ9
      obtain ⟨a, us, n, p, rfl, hp, hm, hu⟩ := hH.at hv
      have hg := hgood p (List.mem_of_getElem? hp)
      have hlu := News.isList N1 (by repeat (first | exact hm | refine List.Mem.tail _ ?_))
      k_steps
      rename _ ∈ zs p => hM9
      rename Fr _ _ _ _ => F3
      rename News _ _ _ _ => N3
      refine ⟨_, _, _, rfl, F3, N3, off, .inr ⟨LCg.lst ysH, by k_mem, rfl, _, rfl⟩, rfl, xs ++ [_], ints_app hxs (.cons _ _ .nil), by simp [hxl], fun x hx9 => ?_⟩
      rcases List.mem_append.mp hx9 with h9 | h9
      · exact hxb x h9
      · rw [List.mem_singleton.mp h9]
        obtain ⟨y, hy, e⟩ := List.mem_map.mp hM9
        rw [← e]
        have := hg.2 y hy
        omega
    · clear F2 N2
      intro ys nw hJ9
      obtain ⟨rfl, xs, hxs, hxl, hxb⟩ := hJ9
      rw [List.size_toArray, hlH] at hxl
      intro DM h3 tk3 F5 N5 off3
      have hx1 : 0 < xs.length := by omega
      k_steps
      all_goals first
        | (exfalso; rename _ ∈ xs => hM9; have := hxb _ hM9; omega)
        | skip
      repeat (revert ‹_›)
      intro key
      exact key.out
set_option maxRecDepth 100000 in
set_option maxHeartbeats 200000000 in
noncomputable def law_57 : PSigma fun P : Prop => Hold P → law_56.1 := by
  refine ⟨?P, fun key => ?g⟩
  rotate_left
  · conv => whnf
    set_option tactic.hygienic false in intros
    rename Fr _ _ _ _ => F1
    rename News _ _ _ _ => N1
    show wpAny _ _ _ _ _ _
    rw [exec_Assign_Name (hs := by with_unfolding_all rfl)]
    refine wpAny_bind (wpAny_standAt (wpAny_bind ?_))
    refine LCg.ListComp_U (F₀ := F1) (by with_unfolding_all rfl) (by decide) (by rfl) (by decide) (by rfl) ?_
    k_steps
    rename Fr _ _ _ _ => F2
    rename News _ _ _ _ => N2
    refine LCg.CompSrc.ledger (by rfl) F2 N2 (by k_mem) (by rw [sizeLine_eq, List.size_toArray]; omega) ?_
    intro g9
    refine comp_ind (fun i ys nw => nw = _ ∧ IntsAre ys (zs ((res.take i).map List.sum))) ⟨rfl, .nil⟩ ?_ ?_
    · clear F2 N2
      intro i v I oI C oC D m₂ h tk E' ys nw hi hJ9 hv hoC hx F1 N1 off ne
      obtain ⟨rfl, hxs⟩ := hJ9
      obtain ⟨a, us, n, p, rfl, hp, hm, hu⟩ := hH.at hv
      have hlu := News.isList N1 (by repeat (first | exact hm | refine List.Mem.tail _ ?_))
      k_steps
      rename Fr _ _ _ _ => F3
      rename News _ _ _ _ => N3
      exact ⟨_, _, _, rfl, F3, N3, off, .inr ⟨LCg.lst ysH, by k_mem, rfl, _, rfl⟩, rfl, sum_next hxs hp⟩
    · clear F2 N2
      intro ys nw hJ9
      obtain ⟨rfl, hsz9⟩ := hJ9
      rw [List.size_toArray, hlH, List.take_length] at hsz9
      intro DS h3 tk3 F5 N5 off5
      replace N5 := news_drop24 N5
      have q7 := cell_ne N5 (.head _) (.tail _ (.tail _ (.tail _ (.tail _ (.head _))))) (by assumption) rfl
      have q8 := cell_ne N5 (.tail _ (.head _)) (.tail _ (.tail _ (.tail _ (.tail _ (.head _))))) (by assumption) rfl
      dsimp only [Apart] at q7 q8
      have hsc := hs_off N5 (.tail _ (.tail _ (.tail _ (.tail _ (.head _))))) (by assumption) hLH (fun q hq => by repeat (first | exact hq | refine List.Mem.tail _ ?_))
      refine wpAny_bind (wpAny_standAt (wpAny_bind (wpAny_bindName ?_)))
      k_steps
      refine wpAny_pure ?_
      k_steps
      repeat (revert ‹_›)
      intro key
      exact key.out
set_option maxRecDepth 100000 in
set_option maxHeartbeats 200000000 in
noncomputable def law_58 : PSigma fun P : Prop => Hold P → law_57.1 := by
  refine ⟨?P, fun key => ?g⟩
  rotate_left
  · conv => whnf
    set_option tactic.hygienic false in intros
    rename Fr _ _ _ _ => F1
    rename News _ _ _ _ => N1
    have hc65 : A1 * B1 * C1 + 1 ≤ 64 := by omega
    have hcu1 : ((A1 : Int) * (B1 : Int) * (C1 : Int)) + 1 = ((A1 * B1 * C1 + 1 : Nat) : Int) := by rw [hcub]; rfl
    refine LCg.Assign_ListComp_U (F₀ := F1) (by rfl) (by with_unfolding_all rfl) (by with_unfolding_all rfl) (by decide) (by rfl) (by decide) (by rfl) (by rfl) (by rfl) ?_
    k_steps
    rename IsRange _ _ _ _ _ _ _ _ => hr9
    rename Fr _ _ _ _ => F2
    rename News _ _ _ _ => N2
    refine LCg.CompSrc.range (n := A1 * B1 * C1 + 1) (by rfl) F2 N2 hr9 (rangeN hcu1 hc65).1 (rangeN hcu1 hc65).2 (by rw [sizeLine_eq]; omega) ?_
    intro g9
    refine comp_ind (fun k ys nw => nw = _ ∧ IntsAre ys (zs ((List.range k).map fun j => (res.map List.sum).count j))) ⟨rfl, .nil⟩ ?_ ?_
    · clear F2 N2 hr9
      intro i v I oI C oC D m₂ h tk E' ys nw hi hJ9 hv hoC hx F1 N1 off ne
      obtain ⟨rfl, hys⟩ := hJ9
      obtain ⟨t, rfl⟩ := hv
      k_steps
      rename Fr _ _ _ _ => F3
      rename News _ _ _ _ => N3
      exact ⟨_, _, _, rfl, F3, N3, off, trivial, rfl, count_next hys (by rw [Int.zero_add])⟩
    · clear F2 N2 hr9
      intro ysC nw hJ9
      obtain ⟨rfl, hcn⟩ := hJ9
      intro DC h3 tk3 F5 N5 off5
      k_steps
      repeat (revert ‹_›)
      intro key
      exact key.out
local macro_rules | `(tactic| walk_at "pyIter ref") => `(tactic| (k_here; refine stop_ ?_))
theorem rules_L59 : True := by
  k_with "exec For" => (k_here; k_dflt (refine For_invVF (by k_asm) (by with_unfolding_all rfl) (by rfl) ?_))
  k_with "binaryOp Add int int" => (k_here; first | (with_reducible refine addN ?_) | (with_reducible refine add1N ?_))
  k_with "binaryOp LShift int int" => (k_here; (with_reducible refine shl1N ?k1 ?_); (case k1 => omega))
  k_with "binaryOp Sub int int" => (k_here; (with_reducible refine sub1N ?k1 ?_); (case k1 => assumption))
  k_with "inplaceOp Mult int int" => (k_here; (with_reducible refine imulN ?k1 ?k2 ?_); (case k1 => assumption); (case k2 => assumption))
  trivial
set_option maxRecDepth 100000 in
set_option maxHeartbeats 200000000 in
noncomputable def law_59 : PSigma fun P : Prop => Hold P → law_58.1 := by
  refine ⟨?P, fun key => ?g⟩
  rotate_left
  · conv => whnf
    set_option tactic.hygienic false in intros
    rename Fr _ _ _ _ => F1
    rename News _ _ _ _ => N1
    refine LCt.ListComp_T (F₀ := F1) (by with_unfolding_all rfl) (by decide) (by rfl) (by decide) (by rfl) ?_
    k_steps
    rename Fr _ _ _ _ => F2
    rename News _ _ _ _ => N2
    refine LCt.CompSrcT.ledger (by rfl) F2 N2 (by k_mem) (by rw [sizeLine_eq, List.size_toArray]; omega) ?_
    intro g9
    refine compT_ind (fun i ys nw => nw = _ ∧ ys.length = ((res.take i).filter fun p => ownF (zs p) C1 (zs (desc (A1 * B1 * C1) (A1 * B1 * C1)))).length) ⟨rfl, rfl⟩ ?_ ?_
    · clear F2 N2
      intro i v I oI C oC D m₂ h tk E' ys nw hi hJ9 hv hoC hx F1 N1 off ne
      obtain ⟨rfl, hyl⟩ := hJ9
      obtain ⟨a, us, n, p, rfl, hp, hm, hu⟩ := hH.at hv
      have hg := hgood p (List.mem_of_getElem? hp)
      have hlu := News.isList N1 (by repeat (first | exact hm | refine List.Mem.tail _ ?_))
      k_steps
      rename Fr _ _ _ _ => F3
      rename News _ _ _ _ => N3
      refine' own_ok ⟨?k1, ?k2, ?k3, ?k4, ?k5, ?k6⟩ ?k7 ?k8 a DA us ysA (zs p) (zs (desc (A1 * B1 * C1) (A1 * B1 * C1))) C1 _ (News.isList N3 (by repeat (first | exact hm | refine List.Mem.tail _ ?_))) hu (News.isList N3 (by k_mem)) hJ hC4 ?a1 ?a2 ?a3 ?_
      walk_at "my cx"
      case a1 => rw [zs_length, hg.1]; omega
      case a2 => rw [zs_length, zs_length, hg.1, desc_len]; exact Nat.le_refl _
      case a3 => exact desc_own (by rw [zs_length, hg.1]; exact Nat.le_refl _)
      clear F3 N3
      intro h5 tk5 F5 N5
      generalize hbb : ownF (zs p) C1 (zs (desc (A1 * B1 * C1) (A1 * B1 * C1))) = bb
      cases bb with
      | true =>
        k_steps
        rename Fr _ _ _ _ => F6
        rename News _ _ _ _ => N6
        exact ⟨_, _, _, rfl, F6, N6, off, .inr ⟨LCg.lst ysH, by k_mem, rfl, _, rfl⟩, rfl, fil_yes hp hbb hyl⟩
      | false =>
        k_steps
        rename Fr _ _ _ _ => F6
        rename News _ _ _ _ => N6
        exact ⟨_, _, _, rfl, F6, N6, off, .inr ⟨LCg.lst ysH, by k_mem, rfl, _, rfl⟩, rfl, fil_no hp hbb hyl⟩
    · clear F2 N2
      intro ysN nw hJ9
      obtain ⟨rfl, hnl9⟩ := hJ9
      rw [List.size_toArray, hlH, List.take_length] at hnl9
      intro DN h3 tk3 F5 N5 off5
      have hng : negs C1 (A1 * B1 * C1) res ≤ 20 := Nat.le_trans (List.length_filter_le ..) hl20
      k_steps
      rename News _ _ _ _ => N6
      refine kun_lenL (k := ((negs C1 (A1 * B1 * C1) res : Nat) : Int)) (News.isList N6 (.head _)) (by rw [List.size_toArray, hnl9]; rfl) (by omega) ?_
      k_steps
      repeat (revert ‹_›)
      intro key
      exact key.out
theorem rules_L60 : True := by
  k_with "binaryOp LShift int int" => (k_here; (with_reducible refine shl1N ?k1 ?_); (case k1 => assumption))
  k_with "InvPostN" => (refine stop_ ?_)
  trivial
set_option maxRecDepth 100000 in
set_option maxHeartbeats 200000000 in
noncomputable def law_60 : PSigma fun P : Prop => Hold P → law_59.1 := by
  refine ⟨?P, fun key => ?g⟩
  rotate_left
  · conv => whnf
    set_option tactic.hygienic false in intros
    rename _ = Data.cell (some (Value.int (((A1, B1, C1).2.2 : Nat) : Int) _)) => dC9
    dsimp only at dC9
    obtain ⟨w9, hw9, hw5, hw8⟩ : ∃ w9 : Nat, (5 + (([x0, x1, x2].getD (Int.toNat 2) 0).fdiv 2).fmod 4) = (w9 : Int) ∧ 5 ≤ w9 ∧ w9 ≤ 8 := by
      have g1 : 0 ≤ (([x0, x1, x2].getD (Int.toNat 2) 0).fdiv 2).fmod 4 := Int.fmod_nonneg_of_pos _ (by decide)
      have g2 : (([x0, x1, x2].getD (Int.toNat 2) 0).fdiv 2).fmod 4 < 4 := Int.fmod_lt_of_pos _ (by decide)
      exact ⟨(5 + (([x0, x1, x2].getD (Int.toNat 2) 0).fdiv 2).fmod 4).toNat, by omega, by omega, by omega⟩
    rename IsRange _ _ _ _ _ _ _ _ => hr9
    rename Fr _ _ _ _ => F2
    rename News _ _ _ _ => N2
    rw [hw9] at F2
    refine tb_loop (Str.ofString "i") (fun i => topF i B1 C1 w9) (fun i => 101 * (i * B1) + 1) rfl hr9 rfl (by omega) F2 N2 ⟨rfl, ⟨by dsimp only [topF, List.range_zero, List.foldl_nil]; exact Nat.lt_of_lt_of_le (by decide : 1 < 2 ^ 1) (Nat.pow_le_pow_right (by decide) (by omega))⟩, ⟨by dsimp only [topF, List.range_zero, List.foldl_nil]; exact Nat.lt_of_lt_of_le (by decide : 1 < 2 ^ 1) (Nat.pow_le_pow_right (by decide) (by omega))⟩, _, _, _, mTB_of rfl rfl (fun z q1 q2 q3 q4 => rfl)⟩ ?_ ?_
    · clear F2 N2 hr9
      intro i ti tt tb u h tk own hi ho s1 s2 F3 N3
      k_steps
      rename IsRange _ _ _ _ _ _ _ _ => hr8
      rename Fr _ _ _ _ => F4
      rename News _ _ _ _ => N4
      refine tb_loop (Str.ofString "j") (fun j => topIn C1 w9 i j (topF i B1 C1 w9)) (fun j => 101 * (i * B1 + j) + 1) rfl hr8 rfl (by omega) F4 N4 ⟨rfl, s1, s2, _, _, _, mTB_of rfl rfl (fun z q1 q2 q3 q4 => rfl)⟩ ?_ ?_
      · clear F4 N4 hr8
        intro j tj tt1 tb1 u1 h1 tk1 own1 hj ho1 s3 s4 F5 N5
        have hiB : i * B1 ≤ 2 * 3 := Nat.mul_le_mul (by omega) hB3
        have hfa : w9 * (i + j + C1 + 1) ≤ 8 * 9 := Nat.mul_le_mul hw8 (by omega)
        have hfb : w9 * (i + j + 1) ≤ 8 * 5 := Nat.mul_le_mul hw8 (by omega)
        have hfa5 : w9 * (i + j + C1 + 1) ≤ 100000 := Nat.le_trans hfa (by decide)
        have hfb5 : w9 * (i + j + 1) ≤ 100000 := Nat.le_trans hfb (by decide)
        have hsa := sm_fac (w := w9) (k := i + j + C1 + 1) (by omega)
        have hsb := sm_fac (w := w9) (k := i + j + 1) (by omega)
        have hsa4 : Sm 4000 (1 <<< (w9 * (i + j + C1 + 1)) - 1) := hsa.le (by decide)
        have hsb4 : Sm 4000 (1 <<< (w9 * (i + j + 1)) - 1) := hsb.le (by decide)
        have hoa := one_shl (w9 * (i + j + C1 + 1))
        have hob := one_shl (w9 * (i + j + 1))
        have s5 : Sm 4000 (topIn C1 w9 i j (topF i B1 C1 w9)).1 := s3.le (by omega)
        have s6 : Sm 4000 (topIn C1 w9 i j (topF i B1 C1 w9)).2 := s4.le (by omega)
        have hnx := topIn_next C1 w9 i j (topF i B1 C1 w9)
        generalize hTT : topIn C1 w9 i j (topF i B1 C1 w9) = TT at *
        k_steps
        rename Fr _ _ _ _ => F6
        rename News _ _ _ _ => N6
        exact tb_end F6 N6 (fun p hp => List.mem_append_left _ hp) (fun p hp => List.mem_append_right _ hp) (tb_next hnx ((s3.mul hsa).le (by omega)) ((s4.mul hsb).le (by omega)) rfl rfl (fun z q1 q2 q3 q4 => by simp only [if_neg q1, if_neg q2, if_neg q3, if_neg q4]))
      · clear F4 N4 hr8
        intro u1 tt1 tb1 h1 tk1 s3 s4 F5 N5
        k_steps
        rename Fr _ _ _ _ => F6
        rename News _ _ _ _ => N6
        exact tb_end F6 N6 (fun p hp => List.mem_append_left _ hp) (fun p hp => List.mem_append_right _ hp) (tb_next (by show topF (i + 1) B1 C1 w9 = (_, _); rw [topF_next]) (s3.le (by rw [Nat.add_mul, Nat.one_mul]; exact Nat.le_refl _)) (s4.le (by rw [Nat.add_mul, Nat.one_mul]; exact Nat.le_refl _)) rfl rfl (fun z q1 q2 q3 q4 => by simp only [if_neg q1, if_neg q2, if_neg q3, if_neg q4]))
    · clear F2 N2 hr9
      intro u tt tb h tk s1 s2 F3 N3
      obtain ⟨t9, bo9, q9, hno⟩ := numOk_of hbx hw5 hw8
      have htop := hno.top
      dsimp only at htop
      rw [htop] at F3
      k_steps
      repeat (revert ‹_›)
      intro key
      exact key.out
set_option maxRecDepth 100000 in
set_option maxHeartbeats 200000000 in
noncomputable def law_61 : PSigma fun P : Prop => Hold P → law_60.1 := by
  refine ⟨?P, fun key => ?g⟩
  rotate_left
  · conv => whnf
    set_option tactic.hygienic false in intros
    obtain ⟨e1, e2, hd1, hr0, hd2, hd3, hk1, hk30, hdig, hm9, hn9⟩ := hno
    rename Fr _ _ _ _ => F1
    rename News _ _ _ _ => N1
    refine' divpos_ok ⟨?k1, ?k2, ?k3, ?k4, ?k5, ?k6⟩ ?k7 ?k8 t9 bo9 _ _ _ #[] #[] 47 54 _ _ hd1.a1 hd1.a2 hd1.b1 hd1.n1 hd1.n9 hd1.b9 hd1.kk hd1.k1 hd1.k30 hd1.d hd1.q hd1.nk TabSt.start TabSt.start ?m1 ?m2 ?m3 ?m4 ?hc1 ?hc2 ?_
    walk_at "my cx"
    case m1 => k_mem
    case m2 => k_mem
    case m3 => k_mem
    case m4 => k_mem
    case hc1 => assumption
    case hc2 => assumption
    intro T4 tq tr c4 oc4 d4 od4 h4 tk4 hco4 hc47 hdo4 hd54 F4 N4
    replace N4 := N4 [(DC, LCg.lst ysC), (DP, W.listOf (List.toArray vsP) nP)] (by
      intro q hq
      simp only [List.mem_cons, List.not_mem_nil, or_false] at hq
      rcases hq with rfl | rfl
      · exact ⟨by k_mem, ne_of_obj N1 (by k_mem) (by k_mem) list_ne_tab, ne_of_obj N1 (by k_mem) (by k_mem) list_ne_tab, ne_of_obj N1 (by k_mem) (by k_mem) list_ne_tab, ne_of_obj N1 (by k_mem) (by k_mem) list_ne_tab⟩
      · exact ⟨by k_mem, ne_of_obj N1 (by k_mem) (by k_mem) list_ne_tab, ne_of_obj N1 (by k_mem) (by k_mem) list_ne_tab, ne_of_obj N1 (by k_mem) (by k_mem) list_ne_tab, ne_of_obj N1 (by k_mem) (by k_mem) list_ne_tab⟩)
    have eq1 : divQ t9 bo9 (Builtin.Int.intBits (bo9 : Int)) (kkF t9 (bitsF bo9)) = q9 := e2
    have er1 : divR t9 bo9 (Builtin.Int.intBits (bo9 : Int)) (kkF t9 (bitsF bo9)) = 0 := hr0
    rw [eq1, er1] at N4
    have hst4 : TabSt I2q 47 33 4 (#[] ++ #[rawInt ((33 : Nat) : Int), rawInt ((4 : Nat) : Int), .ref c4]) c4 oc4 := .inr ⟨rfl, hco4, hc47⟩
    have hst5 : TabSt D2q 54 48 4 (#[] ++ #[rawInt ((48 : Nat) : Int), rawInt ((4 : Nat) : Int), .ref d4]) d4 od4 := .inr ⟨rfl, hdo4, hd54⟩
    have hw100 : w9 ≤ 100000 := by omega
    have hone := one_shl w9
    clear F1 N1
    k_steps
    repeat (revert ‹_›)
    intro key
    exact key.out
set_option maxRecDepth 100000 in
set_option maxHeartbeats 200000000 in
noncomputable def law_62 : PSigma fun P : Prop => Hold P → law_61.1 := by
  refine ⟨?P, fun key => ?g⟩
  rotate_left
  · conv => whnf
    set_option tactic.hygienic false in intros
    rename Fr _ _ _ _ => F1
    rename News _ _ _ _ => N1
    refine' int2_ok ⟨?k1, ?k2, ?k3, ?k4, ?k5, ?k6⟩ ?k7 ?k8 q9 w9 (kkF q9 w9) _ _ _ c4 oc4 (by omega) (by omega) hd2.a2 (kk_cast (by omega)) hk30 (.inr hk1) hst4 ?m1 ?m2 ?hc1 ?_
    walk_at "my cx"
    case m1 => k_mem
    case m2 => k_mem
    case hc1 => assumption
    intro D5 vs5 c5 oc5 h5 tk5 hi5 hco5 hc57 hD57 hDc5 F5 N5
    replace N5 := N5 [(54, tabObj (#[] ++ #[rawInt ((48 : Nat) : Int), rawInt ((4 : Nat) : Int), .ref d4])), (d4, od4), (DC, LCg.lst ysC), (DP, W.listOf (List.toArray vsP) nP)] (by
      intro q hq
      simp only [List.mem_cons, List.not_mem_nil, or_false] at hq
      rcases hq with rfl | rfl | rfl | rfl
      · exact ⟨by k_mem, (by show (54 : Nat) ≠ 47; decide), (ne_of_obj N1 (by k_mem) (by k_mem) (code_ne_tab hco4 hst5.form)).symm⟩
      · exact ⟨by k_mem, ne_of_obj N1 (by k_mem) (by k_mem) (code_ne_tab hdo4 hst4.form), (ne_of_obj N1 (by k_mem) (by k_mem) (code_ne_code hco4 hdo4 q_ne)).symm⟩
      · exact ⟨by k_mem, ne_of_obj N1 (by k_mem) (by k_mem) list_ne_tab, ne_of_obj N1 (by k_mem) (by k_mem) (list_ne_code hco4)⟩
      · exact ⟨by k_mem, ne_of_obj N1 (by k_mem) (by k_mem) list_ne_tab, ne_of_obj N1 (by k_mem) (by k_mem) (list_ne_code hco4)⟩)
    have hq1 := hd2.a1
    have hcan : (canon (A1, B1, C1)).2.2 = (List.range (A1 * B1 * C1 + 1)).map fun k => (res.map List.sum).count k := by rw [← hsum]; rfl
    rw [if_neg (by omega)] at hi5
    have hdig2 : innF w9 30 q9 0 (kkF q9 w9) (List.replicate (kkF q9 w9) 0) = (List.range (A1 * B1 * C1 + 1)).map fun k => (res.map List.sum).count k := hdig.trans hcan
    rw [hdig2] at hi5
    have hst6 : TabSt I2q 47 33 4 (#[] ++ #[rawInt ((33 : Nat) : Int), rawInt ((4 : Nat) : Int), .ref c5]) c5 oc5 := .inr ⟨rfl, hco5, hc57⟩
    clear F1 N1 hst4
    k_steps
    repeat (revert ‹_›)
    intro key
    exact key.out
set_option maxRecDepth 100000 in
set_option maxHeartbeats 200000000 in
noncomputable def law_63 : PSigma fun P : Prop => Hold P → law_62.1 := by
  refine ⟨?P, fun key => ?g⟩
  rotate_left
  · conv => whnf
    set_option tactic.hygienic false in intros
    rename Fr _ _ _ _ => F1
    rename News _ _ _ _ => N1
    refine' intdiv_ok ⟨?k1, ?k2, ?k3, ?k4, ?k5, ?k6⟩ ?k7 ?k8 q9 (1 <<< w9 - 1) _ _ _ _ _ c5 d4 oc5 od4 hd2.a1 hd2.a2 hd2.b1 hd2.n1 hd2.n9 hd2.b9 hd2.kk hd2.k1 hd2.k30 hd2.d hd2.q hd2.nk hst6 hst5 ?m1 ?m2 ?m3 ?m4 ?hc1 ?hc2 ?_
    walk_at "my cx"
    case m1 => k_mem
    case m2 => k_mem
    case m3 => k_mem
    case m4 => k_mem
    case hc1 => assumption
    case hc2 => assumption
    intro T6 tq6 tr6 c6 oc6 d6 od6 h6 tk6 hco6 hc67 hdo6 hd64 F6 N6
    replace N6 := N6 [(DP, W.listOf (List.toArray vsP) nP)] (by
      intro q hq
      simp only [List.mem_cons, List.not_mem_nil, or_false] at hq
      subst hq
      exact ⟨by k_mem, ne_of_obj N1 (by k_mem) (by k_mem) list_ne_tab, ne_of_obj N1 (by k_mem) (by k_mem) (list_ne_code hco5), ne_of_obj N1 (by k_mem) (by k_mem) list_ne_tab, ne_of_obj N1 (by k_mem) (by k_mem) (list_ne_code hdo4)⟩)
    have er6 : divR q9 (1 <<< w9 - 1) (Builtin.Int.intBits ((1 <<< w9 - 1 : Nat) : Int)) (kkF q9 (bitsF (1 <<< w9 - 1))) = res.length := by
      have : remF q9 (1 <<< w9 - 1) = res.length := by rw [hm9, ← hsum]; rfl
      exact this
    rw [er6] at N6
    have hst8 : TabSt I2q 47 33 4 (#[] ++ #[rawInt ((33 : Nat) : Int), rawInt ((4 : Nat) : Int), .ref c6]) c6 oc6 := .inr ⟨rfl, hco6, hc67⟩
    have hst9 : TabSt D2q 54 48 4 (#[] ++ #[rawInt ((48 : Nat) : Int), rawInt ((4 : Nat) : Int), .ref d6]) d6 od6 := .inr ⟨rfl, hdo6, hd64⟩
    clear F1 N1 hst6 hst5
    k_steps
    rename News _ _ _ _ => N7
    refine kun_lenL (k := ((res.length : Nat) : Int)) (News.isList N7 (by k_mem)) (by rw [List.size_toArray, hlP]) (by omega) ?_
    k_steps
    repeat (revert ‹_›)
    intro key
    exact key.out
set_option maxRecDepth 100000 in
set_option maxHeartbeats 200000000 in
theorem law_64 : law_63.1 := by
    conv => whnf
    set_option tactic.hygienic false in intros
    rename Fr _ _ _ _ => F1
    rename News _ _ _ _ => N1
    refine' intdiv_ok ⟨?k1, ?k2, ?k3, ?k4, ?k5, ?k6⟩ ?k7 ?k8 q9 (1 <<< w9 + 1) _ _ _ _ _ c6 d6 oc6 od6 hd3.a1 hd3.a2 hd3.b1 hd3.n1 hd3.n9 hd3.b9 hd3.kk hd3.k1 hd3.k30 hd3.d hd3.q hd3.nk hst8 hst9 ?m1 ?m2 ?m3 ?m4 ?hc1 ?hc2 ?_
    walk_at "my cx"
    case m1 => k_mem
    case m2 => k_mem
    case m3 => k_mem
    case m4 => k_mem
    case hc1 => assumption
    case hc2 => assumption
    intro T7 tq7 tr7 c7 oc7 d7 od7 h7 tk7 hco7 hc77 hdo7 hd74 F7 N7
    replace N7 := N7 [] (fun q hq => nomatch hq)
    have er7 : divR q9 (1 <<< w9 + 1) (Builtin.Int.intBits ((1 <<< w9 + 1 : Nat) : Int)) (kkF q9 (bitsF (1 <<< w9 + 1))) = negs C1 (A1 * B1 * C1) res := by
      have : remF q9 (1 <<< w9 + 1) = negs C1 (A1 * B1 * C1) res := by rw [hn9, ← hsum]; rfl
      exact this
    rw [er7] at N7
    clear F1 N1 hst8 hst9
    k_steps
end Mine
end Law
namespace Mine
theorem law_holds : PySem.Challenge.rw_sn0034_01.Holds := law_50.2 ⟨law_51.2 ⟨law_52.2 ⟨law_53.2 ⟨law_54.2 ⟨law_55.2 ⟨law_56.2 ⟨law_57.2 ⟨law_58.2 ⟨law_59.2 ⟨law_60.2 ⟨law_61.2 ⟨law_62.2 ⟨law_63.2 ⟨law_64⟩⟩⟩⟩⟩⟩⟩⟩⟩⟩⟩⟩⟩⟩
end Mine
theorem PySem.Challenge.cw_sn0034_01_holds : PySem.Challenge.rw_sn0034_01.Holds := by
  exact Mine.law_holds
